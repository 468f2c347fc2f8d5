import JvmDerived
import JvmDerived.Pilot.@@N@@Statement
import JvmDerived.Pilot.@@N@@Code
set_option linter.unusedVariables false
set_option linter.unusedSimpArgs false
namespace Jvm.RoadKit
open Sem ClassFile Op Lib Jvm.Stand Jvm.Free Jvm.LawKit
section Own
variable {p : Program} {l : Launch} {e : Env} {R : Room} {s : State} {m : MethodId} {args : Array Value} {below : List Frame} {meth : Method} {c : Code} {T : State} {locs : List Loc} {cells slots : Nat} {k n : Nat} {Q : Option Value → Heap → List Loc → Prop} {W W' : State} {Z : State} {a0 : Array Value} {h : Heap}
/-- the run from W comes back, with what Q says -/
def OwnOut (p : Program) (e : Env) (s : State) (below : List Frame) (k n : Nat) (Q : Option Value → Heap → List Loc → Prop) (W : State) : Prop :=
  ∃ s₂ o, Steps p.tables e below W s₂ ∧ s₂.status = .running ∧ Ended s₂ below o ∧ ∃ v L, o = .returned v ∧ Q v s₂.heap L ∧ FrameEnd s o s₂ L k n
theorem OwnOut.go (h : ∀ t, Steps p.tables e below W' t → Steps p.tables e below W t) (H : OwnOut p e s below k n Q W') : OwnOut p e s below k n Q W := by
  obtain ⟨s₂, o, h1, h2⟩ := H
  exact ⟨s₂, o, h _ h1, h2⟩
theorem OwnOut.at {g g' : JFrame} (q : g = g') (H : OwnOut p e s below k n Q (T.setTop g')) : OwnOut p e s below k n Q (T.setTop g) := q ▸ H
theorem OwnOut.imp {Q' : Option Value → Heap → List Loc → Prop} (q : ∀ v h L, Q' v h L → Q v h L) (H : OwnOut p e s below k n Q' W) : OwnOut p e s below k n Q W := by
  obtain ⟨s₂, o, h1, h2, h3, v, L, h4, h5, h6⟩ := H
  exact ⟨s₂, o, h1, h2, h3, v, L, h4, q _ _ _ h5, h6⟩
theorem outI (X : Stand p l e R s m args below meth c T locs cells slots) (hx : p.tables.exec = Jvm.exec) {pc : Nat} {Ls : Array Slot} {z : Int32} (hret : meth.sig.returnType = some .int) (hd : decode c.code pc = .ok (.ireturn, 1)) (hlk : meth.locks = false) (hk : cells ≤ k) (hn : slots ≤ n) (q : Q (some (.int z)) T.heap locs) :
    OwnOut p e s below k n Q (T.setTop (mkF m pc Ls [.int z])) := by
  obtain ⟨fs, hr, hrun, hended, hW, hsame⟩ := X.leave (v := some (.int z)) (fun h => by rw [hret] at h; cases h) hlk
  exact ⟨_, _, X.ireturnOut hx hret rfl (Or.inl rfl) hd hr, hrun, hended, _, _, rfl, q, ⟨_, rfl⟩, hW, hsame.mono hk hn⟩
theorem outZ (X : Stand p l e R s m args below meth c T locs cells slots) (hx : p.tables.exec = Jvm.exec) {pc : Nat} {Ls : Array Slot} {z : Int32} (hret : meth.sig.returnType = some .boolean) (hd : decode c.code pc = .ok (.ireturn, 1)) (hlk : meth.locks = false) (hk : cells ≤ k) (hn : slots ≤ n) (q : Q (some (.int (z &&& 1))) T.heap locs) :
    OwnOut p e s below k n Q (T.setTop (mkF m pc Ls [.int z])) := by
  obtain ⟨fs, hr, hrun, hended, hW, hsame⟩ := X.leave (v := some (.int (z &&& 1))) (fun h => by rw [hret] at h; cases h) hlk
  exact ⟨_, _, retN X hx (t := .boolean) hret (by simp) hd hr, hrun, hended, _, _, rfl, q, ⟨_, rfl⟩, hW, hsame.mono hk hn⟩
theorem outJ (X : Stand p l e R s m args below meth c T locs cells slots) (hx : p.tables.exec = Jvm.exec) {pc : Nat} {Ls : Array Slot} {z : Int64} (hret : meth.sig.returnType = some .long) (hd : decode c.code pc = .ok (.lreturn, 1)) (hlk : meth.locks = false) (hk : cells ≤ k) (hn : slots ≤ n) (q : Q (some (.long z)) T.heap locs) :
    OwnOut p e s below k n Q (T.setTop (mkF m pc Ls [.long z])) := by
  obtain ⟨fs, hr, hrun, hended, hW, hsame⟩ := X.leave (v := some (.long z)) (fun h => by rw [hret] at h; cases h) hlk
  exact ⟨_, _, X.lreturnOut hx hret hd hr, hrun, hended, _, _, rfl, q, ⟨_, rfl⟩, hW, hsame.mono hk hn⟩
theorem outA (X : Stand p l e R s m args below meth c T locs cells slots) (hx : p.tables.exec = Jvm.exec) {pc : Nat} {Ls : Array Slot} {w : Value} {t : FieldType} (hw : w.isRef = true) (hret : meth.sig.returnType = some t) (ht : t.isReference = true) (hd : decode c.code pc = .ok (.areturn, 1)) (hlk : meth.locks = false) (hk : cells ≤ k) (hn : slots ≤ n) (q : Q (some w) T.heap locs) :
    OwnOut p e s below k n Q (T.setTop (mkF m pc Ls [w])) := by
  obtain ⟨fs, hr, hrun, hended, hW, hsame⟩ := X.leave (v := some w) (fun h => by rw [hret] at h; cases h) hlk
  exact ⟨_, _, X.areturnOut hx hw hret ht hd hr, hrun, hended, _, _, rfl, q, ⟨_, rfl⟩, hW, hsame.mono hk hn⟩
theorem outV (X : Stand p l e R s m args below meth c T locs cells slots) (hx : p.tables.exec = Jvm.exec) {pc : Nat} {Ls : Array Slot} (hret : meth.sig.returnType = none) (hd : decode c.code pc = .ok (.return_, 1)) (hlk : meth.locks = false) (hk : cells ≤ k) (hn : slots ≤ n) (q : Q none T.heap locs) :
    OwnOut p e s below k n Q (T.setTop (mkF m pc Ls [])) := by
  obtain ⟨fs, hr, hrun, hended, hW, hsame⟩ := X.leave (v := none) (fun _ => rfl) hlk
  exact ⟨_, _, X.returnOut hx hret hd hr, hrun, hended, _, _, rfl, q, ⟨_, rfl⟩, hW, hsame.mono hk hn⟩
theorem lremM {g : JFrame} {target : State} (X : Stand p l e R s m args below meth c T locs cells slots) (hx : p.tables.exec = Jvm.exec) (hg : g.method = m) {x y : Int64} {rest : List Value} (hd : decode c.code g.pc = .ok (.lrem, 1)) (hs : g.stack = .long y :: .long x :: rest) (hy : y ≠ 0)
    (hr : Steps p.tables e below (T.setTop { g with pc := g.pc + 1, stack := .long (x % y) :: rest }) target) : Steps p.tables e below (T.setTop g) target :=
  XS.lrem X.here hx hg hd hs hy (by rw [lrem_mod]; exact hr)
/-- a body that touches nothing: what it returns, the heap as it was, nothing written -/
def QP (h0 : Heap) (w : Option Value) (v : Option Value) (h : Heap) (L : List Loc) : Prop := v = w ∧ h = h0 ∧ L = []
/-- a static call of such a body -/
theorem callP (X : Stand p l e R s m args below meth c T locs cells slots) (hx : p.tables.exec = Jvm.exec) (hZ : Z.Warmed39 s.vm) {own : String} {index : Nat} {y : MethodName} {bytes : ByteArray} {maxL : Nat} {ret : Option FieldType} {rm : Room} {as' : Array Value} {w : Option Value}
    (hown : s.vm.findClass own = some m.cls) (w1 : (Cond.methodLink own index y).before a0 Z = true) (w2 : (Cond.static y).before a0 Z = true) (w3 : (Cond.initialized y.cls).before a0 Z = true) (w4 : (Cond.code y bytes maxL ret).before a0 Z = true) (hy : y.cls ≠ "java/lang/invoke/MethodHandle" ∧ y.cls ≠ "java/lang/invoke/VarHandle")
    (hM : MetFree l y (head1 [Cond.code y bytes maxL ret] rm) (fun a U => a = as' ∧ Z.Warmed39 U.vm ∧ U.heap = h) (fun _ _ _ _ _ => True) (fun _ U o U' => ∃ v L, o = .returned v ∧ QP h w v U'.heap L ∧ FrameEnd U o U' L rm.cells rm.slots))
    {W : Nat} (hf : rm.frames + 1 ≤ R.frames) (hl : W + (maxL + 11) + rm.locals ≤ R.locals) (z1 : rm.cells = 0) (z2 : rm.slots = 0) (hc : cells ≤ R.cells) (hs' : slots ≤ R.slots) (eT : T.heap = h)
    {g : JFrame} (hg : g.method = m) (hsize : g.locals.size = c.maxLocals) {argsL rest : List Value} (hlen : ∀ sig, parseMethodDescriptor y.desc = some sig → argsL.length = sig.parameters.length)
    (hstack : g.stack = argsL.reverse ++ rest) (hW : 2 * g.monitorRoom + (rest.map fun v => v.category).sum ≤ W) (hdg : decode c.code g.pc = .ok (.invokestatic index, 3)) (has : argsL.toArray = as' := by rfl) :
    ∃ T', Stand p l e R s m args below meth c T' locs cells slots ∧ T'.heap = h ∧ ∀ target, Steps p.tables e below (T'.setTop { g with pc := g.pc + 3, stack := w.toList ++ rest }) target → Steps p.tables e below (T.setTop g) target := by
  obtain ⟨v, vm₁, ⟨T', L', k', n'⟩, -, X', ⟨Lc, ⟨rfl, q2, rfl⟩, l1, y1, z3⟩, st⟩ := Jvm.LawKit.callS X hx (y := y) hown (mvT hZ w1) (mvT hZ w2) (mvT hZ w3) (mvT hZ w4) hy (backOf (W := W) hM hZ w4 w3 hf hl) hg hsize hlen hstack hW hdg (fun _ _ => ⟨has, eT, by rw [z1]; exact hc, by rw [z2]; exact hs'⟩)
  dsimp only [Pt.U, Pt.locs, Pt.cells, Pt.slots] at X' l1 y1 z3 st q2
  rw [z1] at y1; rw [z2] at z3
  rw [List.append_nil] at l1
  subst l1 y1 z3
  exact ⟨T', X', q2, st⟩
end Own
end Jvm.RoadKit
namespace Jvm.RoadKit
open Sem ClassFile Op Lib Jvm.Stand Jvm.Free Jvm.LawKit
section Own2
variable {p : Program} {l : Launch} {e : Env} {R : Room} {s : State} {m : MethodId} {args : Array Value} {below : List Frame} {meth : Method} {c : Code} {T : State} {locs : List Loc} {cells slots : Nat} {Z : State} {a0 : Array Value} {h h' : Heap} {a b : Addr} {ty : FieldType} {vs : List Value} {sl : Nat} {v : Value} {ws : List Addr}
/-- an array, by the list of what it holds -/
def Ar (Z : State) (h : Heap) (a : Addr) (ty : FieldType) (vs : List Value) : Prop := ∃ c : Cell, Arr Z h a c ty ∧ c.slots.toList = vs ∧ vs.length < 2 ^ 31
theorem Ar.lt (A : Ar Z h a ty vs) : a < h.size := by obtain ⟨c, q, -⟩ := A; exact q.lt
theorem Ar.ext (A : Ar Z h a ty vs) (E : Ext h h') : Ar Z h' a ty vs := by obtain ⟨c, q, r⟩ := A; exact ⟨c, q.ext E, r⟩
theorem Ar.other (A : Ar Z h b ty vs) (W : Wr h h' a sl v) (q : b ≠ a) : Ar Z h' b ty vs := by obtain ⟨c, r, t⟩ := A; exact ⟨c, r.other W q, t⟩
theorem Ar.keep (A : Ar Z h a ty vs) (K : Keep h h' ws) (q : a ∉ ws) : Ar Z h' a ty vs := by obtain ⟨c, r, t⟩ := A; exact ⟨c, ⟨K.2.1 a c r.1 q, r.2⟩, t⟩
theorem Ar.same (A : Ar Z h a ty vs) (W : Wr h h' a sl v) : Ar Z h' a ty (vs.set sl v) := by
  obtain ⟨c, r, t, u⟩ := A
  refine ⟨_, r.same W, ?_, by rw [List.length_set]; exact u⟩
  show (c.slots.setIfInBounds sl v).toList = _
  rw [Array.toList_setIfInBounds, t]
abbrev Ari (Z : State) (h : Heap) (a : Addr) (ty : FieldType) (xs : List Int32) : Prop := Ar Z h a ty (xs.map Value.int)
abbrev Arj (Z : State) (h : Heap) (a : Addr) (xs : List Int64) : Prop := Ar Z h a .long (xs.map Value.long)
/-- what an array's place holds -/
def ldx {α : Type} (xs : List α) (j : Int32) : Option α := if j < 0 then none else xs[j.toNatClampNeg]?
def stx {α : Type} (xs : List α) (j : Int32) (v : α) : Option (List α) := if j < 0 then none else if xs.length ≤ j.toNatClampNeg then none else some (xs.set j.toNatClampNeg v)
def nwx {α : Type} (d : α) (cap : Nat) (n : Int32) : Option (List α) := if n < 0 then none else if cap < n.toNatClampNeg then none else some (List.replicate n.toNatClampNeg d)
def lenx {α : Type} (xs : List α) : Int32 := xs.length.toInt32
theorem ldx_at {α : Type} {f : α → Value} {xs : List α} {j : Int32} {x : α} {cl : Cell} (hv : ldx xs j = some x) (q : cl.slots.toList = xs.map f) : ¬ (j < 0 ∨ cl.slots.size ≤ j.toNatClampNeg) ∧ cl.slots[j.toNatClampNeg]? = some (f x) := by
  unfold ldx at hv
  by_cases hj : j < 0
  · rw [if_pos hj] at hv; cases hv
  rw [if_neg hj] at hv
  have h1 : cl.slots[j.toNatClampNeg]? = some (f x) := by rw [← Array.getElem?_toList, q, List.getElem?_map, hv]; rfl
  refine ⟨fun z => z.elim hj fun z => ?_, h1⟩
  rw [Array.getElem?_eq_none z] at h1; cases h1
theorem stx_at {α : Type} {f : α → Value} {xs ys : List α} {j : Int32} {x : α} {cl : Cell} (hv : stx xs j x = some ys) (q : cl.slots.toList = xs.map f) : ¬ (j < 0 ∨ cl.slots.size ≤ j.toNatClampNeg) ∧ ys = xs.set j.toNatClampNeg x := by
  unfold stx at hv
  by_cases hj : j < 0
  · rw [if_pos hj] at hv; cases hv
  rw [if_neg hj] at hv
  by_cases hl : xs.length ≤ j.toNatClampNeg
  · rw [if_pos hl] at hv; cases hv
  rw [if_neg hl] at hv
  refine ⟨fun z => z.elim hj fun z => hl ?_, (Option.some.inj hv).symm⟩
  have : cl.slots.size = xs.length := by rw [← Array.length_toList, q, List.length_map]
  omega
theorem ldI (X : Stand p l e R s m args below meth c T locs cells slots) (hx : p.tables.exec = Jvm.exec) (hZ : Z.Warmed39 s.vm) (eT : T.heap = h) {xs : List Int32} (A : Ari Z h a .int xs) {j v : Int32} (hv : ldx xs j = some v) {g : JFrame} (hg : g.method = m) {rest : List Value} (hs : g.stack = .int j :: .ref a :: rest) (hd : decode c.code g.pc = .ok (.iaload, 1)) (target : State)
    (hr : Steps p.tables e below (T.setTop { g with pc := g.pc + 1, stack := .int v :: rest }) target) : Steps p.tables e below (T.setTop g) target := by
  obtain ⟨cl, A1, A2, -⟩ := A
  obtain ⟨hj, hat⟩ := ldx_at hv A2
  exact X.iaload hx (by rw [eT]; exact A1.1) (State.isArrayOf_alike hZ.alike A1.2.1) A1.2.2 hj hat hg hs hd target hr
theorem ldB (X : Stand p l e R s m args below meth c T locs cells slots) (hx : p.tables.exec = Jvm.exec) (hZ : Z.Warmed39 s.vm) (eT : T.heap = h) {xs : List Int32} (A : Ari Z h a .byte xs) {j v : Int32} (hv : ldx xs j = some v) {g : JFrame} (hg : g.method = m) {rest : List Value} (hs : g.stack = .int j :: .ref a :: rest) (hd : decode c.code g.pc = .ok (.baload, 1)) (target : State)
    (hr : Steps p.tables e below (T.setTop { g with pc := g.pc + 1, stack := .int v :: rest }) target) : Steps p.tables e below (T.setTop g) target := by
  obtain ⟨cl, A1, A2, -⟩ := A
  obtain ⟨hj, hat⟩ := ldx_at hv A2
  exact X.baloadBytes hx (by rw [eT]; exact A1.1) (State.isArrayOf_alike hZ.alike A1.2.1) A1.2.2 hj hat hg hs hd target hr
theorem ldZ (X : Stand p l e R s m args below meth c T locs cells slots) (hx : p.tables.exec = Jvm.exec) (hZ : Z.Warmed39 s.vm) (eT : T.heap = h) {xs : List Int32} (A : Ari Z h a .boolean xs) {j v : Int32} (hv : ldx xs j = some v) {g : JFrame} (hg : g.method = m) {rest : List Value} (hs : g.stack = .int j :: .ref a :: rest) (hd : decode c.code g.pc = .ok (.baload, 1)) (target : State)
    (hr : Steps p.tables e below (T.setTop { g with pc := g.pc + 1, stack := .int v :: rest }) target) : Steps p.tables e below (T.setTop g) target := by
  obtain ⟨cl, A1, A2, -⟩ := A
  obtain ⟨hj, hat⟩ := ldx_at hv A2
  exact X.baloadBooleans hx (by rw [eT]; exact A1.1) (State.isArrayOf_alike hZ.alike A1.2.1) A1.2.2 hj hat hg hs hd target hr
theorem ldJ (X : Stand p l e R s m args below meth c T locs cells slots) (hx : p.tables.exec = Jvm.exec) (hZ : Z.Warmed39 s.vm) (eT : T.heap = h) {xs : List Int64} (A : Arj Z h a xs) {j : Int32} {v : Int64} (hv : ldx xs j = some v) {g : JFrame} (hg : g.method = m) {rest : List Value} (hs : g.stack = .int j :: .ref a :: rest) (hd : decode c.code g.pc = .ok (.laload, 1)) (target : State)
    (hr : Steps p.tables e below (T.setTop { g with pc := g.pc + 1, stack := .long v :: rest }) target) : Steps p.tables e below (T.setTop g) target := by
  obtain ⟨cl, A1, A2, -⟩ := A
  obtain ⟨hj, hat⟩ := ldx_at hv A2
  exact X.laload hx (by rw [eT]; exact A1.1) (State.isArrayOf_alike hZ.alike A1.2.1) A1.2.2 hj hat hg hs hd target hr
theorem lenA (X : Stand p l e R s m args below meth c T locs cells slots) (hx : p.tables.exec = Jvm.exec) (hZ : Z.Warmed39 s.vm) (eT : T.heap = h) {α : Type} {f : α → Value} {xs : List α} (A : Ar Z h a ty (xs.map f)) {g : JFrame} (hg : g.method = m) {rest : List Value} (hs : g.stack = .ref a :: rest) (hd : decode c.code g.pc = .ok (.arraylength, 1)) (target : State)
    (hr : Steps p.tables e below (T.setTop { g with pc := g.pc + 1, stack := .int (lenx xs) :: rest }) target) : Steps p.tables e below (T.setTop g) target := by
  obtain ⟨cl, A1, A2, -⟩ := A
  have : cl.slots.size = xs.length := by rw [← Array.length_toList, A2, List.length_map]
  refine X.arraylength hx (by rw [eT]; exact A1.1) (State.isArrayOf_alike hZ.alike A1.2.1) hg hs hd target ?_
  rw [this]; exact hr
theorem saI (X : Stand p l e R s m args below meth c T locs cells slots) (hx : p.tables.exec = Jvm.exec) (hZ : Z.Warmed39 s.vm) (eT : T.heap = h) {xs ys : List Int32} (A : Ari Z h a .int xs) {j v : Int32} (hv : stx xs j v = some ys) {g : JFrame} (hg : g.method = m) {rest : List Value} (hs : g.stack = .int v :: .int j :: .ref a :: rest) (hd : decode c.code g.pc = .ok (.iastore, 1)) :
    ∃ T' h', Stand p l e R s m args below meth c T' (locs ++ [⟨a, j.toNatClampNeg⟩]) cells slots ∧ T'.heap = h' ∧ Wr h h' a j.toNatClampNeg (.int v) ∧ Ari Z h' a .int ys ∧ ∀ target, Steps p.tables e below (T'.setTop { g with pc := g.pc + 1, stack := rest }) target → Steps p.tables e below (T.setTop g) target := by
  have A' := A
  obtain ⟨cl, A1, A2, -⟩ := A
  obtain ⟨hj, rfl⟩ := stx_at hv A2
  obtain ⟨T', h', X', e', W', st⟩ := stI X hx hZ eT A1 hj hg hs hd
  exact ⟨T', h', X', e', W', by have q := A'.same W'; rw [← List.map_set] at q; exact q, st⟩
theorem saB (X : Stand p l e R s m args below meth c T locs cells slots) (hx : p.tables.exec = Jvm.exec) (hZ : Z.Warmed39 s.vm) (eT : T.heap = h) {xs ys : List Int32} (A : Ari Z h a .byte xs) {j v : Int32} (hv : stx xs j v.toInt8.toInt32 = some ys) {g : JFrame} (hg : g.method = m) {rest : List Value} (hs : g.stack = .int v :: .int j :: .ref a :: rest) (hd : decode c.code g.pc = .ok (.bastore, 1)) :
    ∃ T' h', Stand p l e R s m args below meth c T' (locs ++ [⟨a, j.toNatClampNeg⟩]) cells slots ∧ T'.heap = h' ∧ Wr h h' a j.toNatClampNeg (.int v.toInt8.toInt32) ∧ Ari Z h' a .byte ys ∧ ∀ target, Steps p.tables e below (T'.setTop { g with pc := g.pc + 1, stack := rest }) target → Steps p.tables e below (T.setTop g) target := by
  have A' := A
  obtain ⟨cl, A1, A2, -⟩ := A
  obtain ⟨hj, rfl⟩ := stx_at hv A2
  obtain ⟨T', h', X', e', W', st⟩ := stB X hx hZ eT A1 hj hg hs hd
  exact ⟨T', h', X', e', W', by have q := A'.same W'; rw [show Value.int (nar .byte v) = Value.int v.toInt8.toInt32 from rfl, ← List.map_set] at q; exact q, st⟩
theorem saZ (X : Stand p l e R s m args below meth c T locs cells slots) (hx : p.tables.exec = Jvm.exec) (hZ : Z.Warmed39 s.vm) (eT : T.heap = h) {xs ys : List Int32} (A : Ari Z h a .boolean xs) {j v : Int32} (hv : stx xs j (v &&& 1) = some ys) {g : JFrame} (hg : g.method = m) {rest : List Value} (hs : g.stack = .int v :: .int j :: .ref a :: rest) (hd : decode c.code g.pc = .ok (.bastore, 1)) :
    ∃ T' h', Stand p l e R s m args below meth c T' (locs ++ [⟨a, j.toNatClampNeg⟩]) cells slots ∧ T'.heap = h' ∧ Wr h h' a j.toNatClampNeg (.int (v &&& 1)) ∧ Ari Z h' a .boolean ys ∧ ∀ target, Steps p.tables e below (T'.setTop { g with pc := g.pc + 1, stack := rest }) target → Steps p.tables e below (T.setTop g) target := by
  have A' := A
  obtain ⟨cl, A1, A2, -⟩ := A
  obtain ⟨hj, rfl⟩ := stx_at hv A2
  obtain ⟨T', h', X', e', W', st⟩ := stZ X hx hZ eT A1 hj hg hs hd
  exact ⟨T', h', X', e', W', by have q := A'.same W'; rw [show Value.int (nar .boolean v) = Value.int (v &&& 1) from rfl, ← List.map_set] at q; exact q, st⟩
theorem saJ (X : Stand p l e R s m args below meth c T locs cells slots) (hx : p.tables.exec = Jvm.exec) (hZ : Z.Warmed39 s.vm) (eT : T.heap = h) {xs ys : List Int64} (A : Arj Z h a xs) {j : Int32} {v : Int64} (hv : stx xs j v = some ys) {g : JFrame} (hg : g.method = m) {rest : List Value} (hs : g.stack = .long v :: .int j :: .ref a :: rest) (hd : decode c.code g.pc = .ok (.lastore, 1)) :
    ∃ T' h', Stand p l e R s m args below meth c T' (locs ++ [⟨a, j.toNatClampNeg⟩]) cells slots ∧ T'.heap = h' ∧ Wr h h' a j.toNatClampNeg (.long v) ∧ Arj Z h' a ys ∧ ∀ target, Steps p.tables e below (T'.setTop { g with pc := g.pc + 1, stack := rest }) target → Steps p.tables e below (T.setTop g) target := by
  have A' := A
  obtain ⟨cl, A1, A2, -⟩ := A
  obtain ⟨hj, rfl⟩ := stx_at hv A2
  obtain ⟨T', h', X', e', W', st⟩ := stJ X hx hZ eT A1 hj hg hs hd
  exact ⟨T', h', X', e', W', by have q := A'.same W'; rw [← List.map_set] at q; exact q, st⟩
theorem nwx_at {α : Type} {d : α} {cap : Nat} {n : Int32} {xs : List α} (hv : nwx d cap n = some xs) : ¬ n < 0 ∧ n.toNatClampNeg ≤ cap ∧ xs = List.replicate n.toNatClampNeg d := by
  unfold nwx at hv
  by_cases hj : n < 0
  · rw [if_pos hj] at hv; cases hv
  rw [if_neg hj] at hv
  by_cases hl : cap < n.toNatClampNeg
  · rw [if_pos hl] at hv; cases hv
  rw [if_neg hl] at hv
  exact ⟨hj, Nat.le_of_not_lt hl, (Option.some.inj hv).symm⟩
theorem Ar.new {α : Type} {f : α → Value} {d : α} {n : Int32} {cA : ClassId} (A : Arr Z h a (newA cA ty n) ty) (q : ¬ n < 0) (hd : defaultValue ty = f d) : Ar Z h a ty ((List.replicate n.toNatClampNeg d).map f) := by
  refine ⟨_, A, ?_, ?_⟩
  · show (Array.replicate n.toNatClampNeg (defaultValue ty)).toList = _
    rw [Array.toList_replicate, List.map_replicate, hd]
  · rw [List.length_map, List.length_replicate]; exact (back32 q).2
/-- a new array of ints, bytes, booleans .. -/
theorem nwA (X : Stand p l e R s m args below meth c T locs cells slots) (hx : p.tables.exec = Jvm.exec) (hZ : Z.Warmed39 s.vm) {aty : ArrayType} (w : (Cond.arrayClass (newarray.typeOf aty)).before a0 Z = true) (eT : T.heap = h) {α : Type} {f : α → Value} {d : α} {cap : Nat} {n : Int32} {xs : List α} (hv : nwx d cap n = some xs) (hdf : defaultValue (newarray.typeOf aty) = f d)
    {g : JFrame} (hg : g.method = m) {rest : List Value} (hs : g.stack = .int n :: rest) (hd : decode c.code g.pc = .ok (.newarray aty, 2)) (hb : cap * 8 ≤ 536870912) (hc : cells + 1 ≤ R.cells) (hl : slots + cap ≤ R.slots) :
    ∃ T' h', Stand p l e R s m args below meth c T' locs (cells + 1) (slots + cap) ∧ T'.heap = h' ∧ Ext h h' ∧ Ar Z h' h.size (newarray.typeOf aty) (xs.map f) ∧ ∀ target, Steps p.tables e below (T'.setTop { g with pc := g.pc + 2, stack := .ref h.size :: rest }) target → Steps p.tables e below (T.setTop g) target := by
  obtain ⟨q1, q2, rfl⟩ := nwx_at hv
  obtain ⟨T', h', cA, X', e', E', A', st⟩ := newP X hx hZ w eT hg hd hs q1 (cap := cap) q2 hb hc hl
  exact ⟨T', h', X', e', E', Ar.new A' q1 hdf, st⟩
variable {y : MethodName} {bytes : ByteArray} {maxL : Nat} {ret : Option FieldType} {rm : Room} {as' : Array Value} {Q : Option Value → Heap → List Loc → Prop} {own : String} {index : Nat}
/-- a static call by the callee's contract -/
theorem callQ (X : Stand p l e R s m args below meth c T locs cells slots) (hx : p.tables.exec = Jvm.exec) (hZ : Z.Warmed39 s.vm)
    (hown : s.vm.findClass own = some m.cls) (w1 : (Cond.methodLink own index y).before a0 Z = true) (w2 : (Cond.static y).before a0 Z = true) (w3 : (Cond.initialized y.cls).before a0 Z = true) (w4 : (Cond.code y bytes maxL ret).before a0 Z = true) (hy : y.cls ≠ "java/lang/invoke/MethodHandle" ∧ y.cls ≠ "java/lang/invoke/VarHandle")
    (hM : MetFree l y (head1 [Cond.code y bytes maxL ret] rm) (fun a U => a = as' ∧ Z.Warmed39 U.vm ∧ U.heap = h) (fun _ _ _ _ _ => True) (fun _ U o U' => ∃ v L, o = .returned v ∧ Q v U'.heap L ∧ FrameEnd U o U' L rm.cells rm.slots))
    {W : Nat} (hf : rm.frames + 1 ≤ R.frames) (hl : W + (maxL + 11) + rm.locals ≤ R.locals) (hc : cells + rm.cells ≤ R.cells) (hs' : slots + rm.slots ≤ R.slots) (eT : T.heap = h)
    {g : JFrame} (hg : g.method = m) (hsize : g.locals.size = c.maxLocals) {argsL rest : List Value} (hlen : ∀ sig, parseMethodDescriptor y.desc = some sig → argsL.length = sig.parameters.length)
    (hstack : g.stack = argsL.reverse ++ rest) (hW : 2 * g.monitorRoom + (rest.map fun v => v.category).sum ≤ W) (hdg : decode c.code g.pc = .ok (.invokestatic index, 3)) (has : argsL.toArray = as' := by rfl) :
    ∃ v T' L', Stand p l e R s m args below meth c T' (locs ++ L') (cells + rm.cells) (slots + rm.slots) ∧ Q v T'.heap L' ∧ ∀ target, Steps p.tables e below (T'.setTop { g with pc := g.pc + 3, stack := v.toList ++ rest }) target → Steps p.tables e below (T.setTop g) target := by
  obtain ⟨v, vm₁, ⟨T', L', k', n'⟩, -, X', ⟨Lc, q2, l1, y1, z3⟩, st⟩ := Jvm.LawKit.callS X hx (y := y) hown (mvT hZ w1) (mvT hZ w2) (mvT hZ w3) (mvT hZ w4) hy (backOf (W := W) hM hZ w4 w3 hf hl) hg hsize hlen hstack hW hdg (fun _ _ => ⟨has, eT, hc, hs'⟩)
  dsimp only [Pt.U, Pt.locs, Pt.cells, Pt.slots] at X' l1 y1 z3 st q2
  subst l1 y1 z3
  exact ⟨v, T', Lc, X', q2, st⟩
/-- a constructor by its contract -/
theorem callN {ret : Option FieldType} (X : Stand p l e R s m args below meth c T locs cells slots) (hx : p.tables.exec = Jvm.exec) (hZ : Z.Warmed39 s.vm) (hret : ret = none) (hnm : y.name = "<init>")
    (hown : s.vm.findClass own = some m.cls) (w1 : (Cond.methodLink own index y).before a0 Z = true) (w2 : (Cond.instanceMethod y).before a0 Z = true) (w3 : (Cond.initialized y.cls).before a0 Z = true) (w4 : (Cond.code y bytes maxL ret).before a0 Z = true) (hy : y.cls ≠ "java/lang/invoke/MethodHandle" ∧ y.cls ≠ "java/lang/invoke/VarHandle")
    (hM : MetFree l y (head1 [Cond.code y bytes maxL ret] rm) (fun a U => a = as' ∧ Z.Warmed39 U.vm ∧ U.heap = h) (fun _ _ _ _ _ => True) (fun _ U o U' => ∃ v L, o = .returned v ∧ Q v U'.heap L ∧ FrameEnd U o U' L rm.cells rm.slots))
    {W : Nat} (hf : rm.frames + 1 ≤ R.frames) (hl : W + (maxL + 11) + rm.locals ≤ R.locals) (hc : cells + rm.cells ≤ R.cells) (hs' : slots + rm.slots ≤ R.slots) (eT : T.heap = h)
    {g : JFrame} (hg : g.method = m) (hsize : g.locals.size = c.maxLocals) {a : Addr} {argsL rest : List Value} (hlen : ∀ sig, parseMethodDescriptor y.desc = some sig → argsL.length = sig.parameters.length)
    (hstack : g.stack = argsL.reverse ++ .ref a :: rest) (hW : 2 * g.monitorRoom + (rest.map fun v => v.category).sum ≤ W) (hdg : decode c.code g.pc = .ok (.invokespecial index, 3)) (has : (Value.ref a :: argsL).toArray = as' := by rfl) :
    ∃ v T' L', Stand p l e R s m args below meth c T' (locs ++ L') (cells + rm.cells) (slots + rm.slots) ∧ Q v T'.heap L' ∧ ∀ target, Steps p.tables e below (T'.setTop { g with pc := g.pc + 3, stack := v.toList ++ rest }) target → Steps p.tables e below (T.setTop g) target := by
  subst hret
  obtain ⟨v, vm₁, ⟨T', L', k', n'⟩, -, X', ⟨Lc, q2, l1, y1, z3⟩, st⟩ := X.specialBack hx (y := y) hnm hown (mvT hZ w1) (mvT hZ w2) (mvT hZ w4) hy (backOf (W := W) hM hZ w4 w3 hf hl) hg hsize (Steps.refl _) hlen hstack hW hdg (fun _ _ => ⟨has, eT, hc, hs'⟩)
  dsimp only [Pt.U, Pt.locs, Pt.cells, Pt.slots] at X' l1 y1 z3 st q2
  subst l1 y1 z3
  exact ⟨v, T', Lc, X', q2, fun t k => st.trans k⟩
/-- an instance method by its contract -/
theorem callV (X : Stand p l e R s m args below meth c T locs cells slots) (hx : p.tables.exec = Jvm.exec) (hZ : Z.Warmed39 s.vm)
    (hown : s.vm.findClass own = some m.cls) (w1 : (Cond.methodLink own index y).before a0 Z = true) (w2 : (Cond.declares y).before a0 Z = true) (w3 : (Cond.selects y.cls y y).before a0 Z = true) (w5 : (Cond.instanceMethod y).before a0 Z = true) (w6 : (Cond.initialized y.cls).before a0 Z = true) (w4 : (Cond.code y bytes maxL ret).before a0 Z = true) (hy : y.cls ≠ "java/lang/invoke/MethodHandle" ∧ y.cls ≠ "java/lang/invoke/VarHandle")
    (hM : MetFree l y (head1 [Cond.code y bytes maxL ret] rm) (fun a U => a = as' ∧ Z.Warmed39 U.vm ∧ U.heap = h) (fun _ _ _ _ _ => True) (fun _ U o U' => ∃ v L, o = .returned v ∧ Q v U'.heap L ∧ FrameEnd U o U' L rm.cells rm.slots))
    {W : Nat} (hf : rm.frames + 1 ≤ R.frames) (hl : W + (maxL + 11) + rm.locals ≤ R.locals) (hc : cells + rm.cells ≤ R.cells) (hs' : slots + rm.slots ≤ R.slots) (eT : T.heap = h) {a : Addr} (E : Exa Z h a y.cls)
    {g : JFrame} (hg : g.method = m) (hsize : g.locals.size = c.maxLocals) {argsL rest : List Value} (hlen : ∀ sig, parseMethodDescriptor y.desc = some sig → argsL.length = sig.parameters.length)
    (hstack : g.stack = argsL.reverse ++ .ref a :: rest) (hW : 2 * g.monitorRoom + (rest.map fun v => v.category).sum ≤ W) (hdg : decode c.code g.pc = .ok (.invokevirtual index, 3)) (has : (Value.ref a :: argsL).toArray = as' := by rfl) :
    ∃ v T' L', Stand p l e R s m args below meth c T' (locs ++ L') (cells + rm.cells) (slots + rm.slots) ∧ Q v T'.heap L' ∧ ∀ target, Steps p.tables e below (T'.setTop { g with pc := g.pc + 3, stack := v.toList ++ rest }) target → Steps p.tables e below (T.setTop g) target := by
  obtain ⟨cq, kq, qa, qb, qc⟩ := isOf hZ eT E
  obtain ⟨v, vm₁, ⟨T', L', k', n'⟩, -, X', ⟨Lc, q2, l1, y1, z3⟩, st⟩ := X.virtualBack hx (y := y) (z := y) hown (mvT hZ w1) (mvT hZ w2) (notFace_of_selects (args := #[]) (mvT hZ w3)) (mvT hZ w3) (mvT hZ w5) hy (backOf (W := W) hM hZ w4 w6 hf hl) qa qc hg hsize (Steps.refl _) hlen hstack hW hdg (fun _ _ => ⟨has, eT, hc, hs'⟩)
  dsimp only [Pt.U, Pt.locs, Pt.cells, Pt.slots] at X' l1 y1 z3 st q2
  subst l1 y1 z3
  exact ⟨v, T', Lc, X', q2, fun t k => st.trans k⟩
/-- a private method by its contract -/
theorem callR (X : Stand p l e R s m args below meth c T locs cells slots) (hx : p.tables.exec = Jvm.exec) (hZ : Z.Warmed39 s.vm)
    (hown : s.vm.findClass own = some m.cls) (w1 : (Cond.methodLink own index y).before a0 Z = true) (w2 : (Cond.privateMethod y).before a0 Z = true) {kk : Nat} (w3 : (Cond.instantiable y.cls kk).before a0 Z = true) (w5 : (Cond.instanceMethod y).before a0 Z = true) (w6 : (Cond.initialized y.cls).before a0 Z = true) (w4 : (Cond.code y bytes maxL ret).before a0 Z = true) (hy : y.cls ≠ "java/lang/invoke/MethodHandle" ∧ y.cls ≠ "java/lang/invoke/VarHandle")
    (hM : MetFree l y (head1 [Cond.code y bytes maxL ret] rm) (fun a U => a = as' ∧ Z.Warmed39 U.vm ∧ U.heap = h) (fun _ _ _ _ _ => True) (fun _ U o U' => ∃ v L, o = .returned v ∧ Q v U'.heap L ∧ FrameEnd U o U' L rm.cells rm.slots))
    {W : Nat} (hf : rm.frames + 1 ≤ R.frames) (hl : W + (maxL + 11) + rm.locals ≤ R.locals) (hc : cells + rm.cells ≤ R.cells) (hs' : slots + rm.slots ≤ R.slots) (eT : T.heap = h) {a : Addr} (E : Exa Z h a y.cls)
    {g : JFrame} (hg : g.method = m) (hsize : g.locals.size = c.maxLocals) {argsL rest : List Value} (hlen : ∀ sig, parseMethodDescriptor y.desc = some sig → argsL.length = sig.parameters.length)
    (hstack : g.stack = argsL.reverse ++ .ref a :: rest) (hW : 2 * g.monitorRoom + (rest.map fun v => v.category).sum ≤ W) (hdg : decode c.code g.pc = .ok (.invokevirtual index, 3)) (has : (Value.ref a :: argsL).toArray = as' := by rfl) :
    ∃ v T' L', Stand p l e R s m args below meth c T' (locs ++ L') (cells + rm.cells) (slots + rm.slots) ∧ Q v T'.heap L' ∧ ∀ target, Steps p.tables e below (T'.setTop { g with pc := g.pc + 3, stack := v.toList ++ rest }) target → Steps p.tables e below (T.setTop g) target := by
  obtain ⟨cq, q, q'⟩ := E.cell
  have hpr := Cond.privateMethod_at (mvP hZ w2 (args := args))
  obtain ⟨c4, k2, i1, i2, -, i4, -⟩ := Cond.instantiable_spec (mvT hZ w3 : (Cond.instantiable y.cls kk).before args s = true)
  have hsel := selects_self_of_private (args := args) i1 i2 (by simp only [Bool.or_eq_false_iff] at i4; exact i4.1) hpr (mvT hZ w5) hy
  obtain ⟨v, vm₁, ⟨T', L', k', n'⟩, -, X', ⟨Lc, q2, l1, y1, z3⟩, st⟩ := X.privateBack hx (y := y) hown (mvT hZ w1) (mvT hZ w5) hsel hpr (mvT hZ w4) hy (backOf (W := W) hM hZ w4 w6 hf hl) hg hsize (Steps.refl _) (by rw [eT]; exact q) q' hlen hstack hW hdg (fun _ _ => ⟨has, eT, hc, hs'⟩)
  dsimp only [Pt.U, Pt.locs, Pt.cells, Pt.slots] at X' l1 y1 z3 st q2
  subst l1 y1 z3
  exact ⟨v, T', Lc, X', q2, fun t k => st.trans k⟩
end Own2
end Jvm.RoadKit
namespace Jvm.Pilot.@@N@@
open Jvm Jvm.ClassFile Sem Op Lib Jvm.Free Jvm.Stand Jvm.LawKit Jvm.RoadKit Bundle Jvm.Pilot.@@N@@.Jvm.D
-- body 1 as 1: com/example/porter_drive/porterdrive/RequestQueue.<init>:(I)V
theorem d1_0 : decode prog_24_method_1_code 0 = .ok (.aload_n 0, 1) := by decide +kernel
theorem d1_1 : decode prog_24_method_1_code 1 = .ok (.invokespecial 1, 3) := by decide +kernel
theorem d1_4 : decode prog_24_method_1_code 4 = .ok (.aload_n 0, 1) := by decide +kernel
theorem d1_5 : decode prog_24_method_1_code 5 = .ok (.iload_n 1, 1) := by decide +kernel
theorem d1_6 : decode prog_24_method_1_code 6 = .ok (.newarray .long, 2) := by decide +kernel
theorem d1_8 : decode prog_24_method_1_code 8 = .ok (.putfield 7, 3) := by decide +kernel
theorem d1_11 : decode prog_24_method_1_code 11 = .ok (.aload_n 0, 1) := by decide +kernel
theorem d1_12 : decode prog_24_method_1_code 12 = .ok (.iload_n 1, 1) := by decide +kernel
theorem d1_13 : decode prog_24_method_1_code 13 = .ok (.newarray .int, 2) := by decide +kernel
theorem d1_15 : decode prog_24_method_1_code 15 = .ok (.putfield 13, 3) := by decide +kernel
theorem d1_18 : decode prog_24_method_1_code 18 = .ok (.iconst 0, 1) := by decide +kernel
theorem d1_19 : decode prog_24_method_1_code 19 = .ok (.istore_n 2, 1) := by decide +kernel
theorem d1_20 : decode prog_24_method_1_code 20 = .ok (.iload_n 2, 1) := by decide +kernel
theorem d1_21 : decode prog_24_method_1_code 21 = .ok (.iload_n 1, 1) := by decide +kernel
theorem d1_22 : decode prog_24_method_1_code 22 = .ok (.if_icmp .ge 16, 3) := by decide +kernel
theorem d1_25 : decode prog_24_method_1_code 25 = .ok (.aload_n 0, 1) := by decide +kernel
theorem d1_26 : decode prog_24_method_1_code 26 = .ok (.getfield 13, 3) := by decide +kernel
theorem d1_29 : decode prog_24_method_1_code 29 = .ok (.iload_n 2, 1) := by decide +kernel
theorem d1_30 : decode prog_24_method_1_code 30 = .ok (.iload_n 2, 1) := by decide +kernel
theorem d1_31 : decode prog_24_method_1_code 31 = .ok (.iastore, 1) := by decide +kernel
theorem d1_32 : decode prog_24_method_1_code 32 = .ok (.iinc 2 1, 3) := by decide +kernel
theorem d1_35 : decode prog_24_method_1_code 35 = .ok (.goto (-15), 3) := by decide +kernel
theorem d1_38 : decode prog_24_method_1_code 38 = .ok (.aload_n 0, 1) := by decide +kernel
theorem d1_39 : decode prog_24_method_1_code 39 = .ok (.iload_n 1, 1) := by decide +kernel
theorem d1_40 : decode prog_24_method_1_code 40 = .ok (.putfield 17, 3) := by decide +kernel
theorem d1_43 : decode prog_24_method_1_code 43 = .ok (.return_, 1) := by decide +kernel
theorem pn1 : plainName "com/example/porter_drive/porterdrive/RequestQueue" = true := by first | (simp [plainName, overriddenIn]; done) | decide +kernel
theorem pd1 : parseMethodDescriptor "(I)V" = some ⟨[.int], none⟩ := by decide +kernel
theorem ef1 (m : MethodId) (b0 : Addr) (x1 : Int32) : entryFrame m #[(.ref b0), (.int x1)] 3 = mkF m 0 #[.val (.ref b0), .val (.int x1), .unset] [] := by first | (simp [entryFrame, mkF, argsToLocals, Value.category]; done) | rfl
abbrev rx1 : Room := { frames := 1, cells := 2, slots := 8, locals := 12 }
abbrev Cx1 (Z : State) (a0 : Array Value) (p : Program) (s : State) (m : MethodId) (meth : Method) (c : Code) : Prop := p.tables.exec = Jvm.exec ∧ Z.Warmed39 s.vm ∧ (∀ d ∈ tables_1, d.before a0 Z = true) ∧ c.code = prog_24_method_1_code ∧ c.maxLocals = 3 ∧ s.vm.findClass "com/example/porter_drive/porterdrive/RequestQueue" = some m.cls ∧ meth.sig.returnType = none ∧ meth.locks = false ∧ meth.name = "<init>"
def Q1 (Z : State) (x1 : Int32) (b0 : Addr) (u0_size : Int32) (h0 : Heap) (n0 : Nat) (o : Int32 × List Int64 × List Int32) (v : Option Value) (h : Heap) (L : List Loc) : Prop := ∃ c0 c1 : Addr, v = none ∧ Fr n0 L ∧ Keep h0 h [b0] ∧ Fld Z h b0 "com/example/porter_drive/porterdrive/RequestQueue" "times" "[J" (.ref c0) ∧ Fld Z h b0 "com/example/porter_drive/porterdrive/RequestQueue" "clients" "[I" (.ref c1) ∧ Fld Z h b0 "com/example/porter_drive/porterdrive/RequestQueue" "size" "I" (.int o.1) ∧ h0.size ≤ c0 ∧ n0 ≤ c0 ∧ Arj Z h c0 o.2.1 ∧ h0.size ≤ c1 ∧ n0 ≤ c1 ∧ Ari Z h c1 .int o.2.2 ∧ c0 ≠ c1
def f1_20 : Nat → Int32 → Int32 → Int32 → (List Int64) → (List Int32) → Option (Int32 × List Int64 × List Int32)
  | 0, _, _, _, _, _ => none
  | n + 1, x1, x2, u0_size, l1, l2 => (if x2 < x1 then ((stx l2 x2 x2).bind fun l_7 => (f1_20 n x1 (x2 + (1 : Int32)) u0_size l1 l_7)) else some (x1, l1, l2))
set_option maxRecDepth 65536 in
set_option maxHeartbeats 40000000 in
theorem w1_20 {p : Program} {l : Launch} {e : Env} {s : State} {m : MethodId} {args : Array Value} {below : List Frame} {meth : Method} {c : Code} {Z : State} {a0 : Array Value} {h0 : Heap} {n0 : Nat} (C : Cx1 Z a0 p s m meth c) (n : Nat) :
    ∀ (T : State) (locs : List Loc) (hA : Heap) (x1 : Int32) (x2 : Int32) (b0 : Addr) (u0_size : Int32) (b1 : Addr) (l1 : List Int64) (b2 : Addr) (l2 : List Int32) (o : Int32 × List Int64 × List Int32), f1_20 n x1 x2 u0_size l1 l2 = some o → Stand p l e rx1 s m args below meth c T locs 2 8 → T.heap = hA → Fr n0 locs → Old Z n0 hA → Keep h0 hA [b0] → (Exa Z hA b0 "com/example/porter_drive/porterdrive/RequestQueue") → (Fld Z hA b0 "com/example/porter_drive/porterdrive/RequestQueue" "times" "[J" (.ref b1)) → (Fld Z hA b0 "com/example/porter_drive/porterdrive/RequestQueue" "clients" "[I" (.ref b2)) → (Fld Z hA b0 "com/example/porter_drive/porterdrive/RequestQueue" "size" "I" (.int u0_size)) → (Arj Z hA b1 l1) → (Ari Z hA b2 .int l2) → (n0 ≤ b0) → (n0 ≤ b1) → (h0.size ≤ b1) → (n0 ≤ b2) → (h0.size ≤ b2) → (b0 ≠ b1) → (b0 ≠ b2) → (b1 ≠ b2) →  OwnOut p e s below 2 8 (Q1 Z default b0 default h0 n0 o) (T.setTop (mkF m 20 #[.val (.ref b0), .val (.int x1), .val (.int x2)] [])) := by
  obtain ⟨hx, hZ, hw, hby, hml, hown, hret, hlk, hnm⟩ := C
  induction n with
  | zero => intro T locs hA x1 x2 b0 u0_size b1 l1 b2 l2 o hr X0 e0 N0 O0 K0 E0 F0_times F0_clients F0_size A1 A2 g0 g1 z1 g2 z2 ne0_1 ne0_2 ne1_2; rw [f1_20] at hr; cases hr
  | succ n ih =>
    intro T locs hA x1 x2 b0 u0_size b1 l1 b2 l2 o hr X0 e0 N0 O0 K0 E0 F0_times F0_clients F0_size A1 A2 g0 g1 z1 g2 z2 ne0_1 ne0_2 ne1_2
    rw [f1_20] at hr
    refine OwnOut.go (fun t k => XS.iloadN X0.here hx rfl (hb hby d1_20) rfl k) ?_
    show OwnOut p e s below 2 8 _ (T.setTop (mkF m 21 #[.val (.ref b0), .val (.int x1), .val (.int x2)] [(.int x2)]))
    refine OwnOut.go (fun t k => XS.iloadN X0.here hx rfl (hb hby d1_21) rfl k) ?_
    show OwnOut p e s below 2 8 _ (T.setTop (mkF m 22 #[.val (.ref b0), .val (.int x1), .val (.int x2)] [(.int x1), (.int x2)]))
    by_cases hc22 : x2 < x1
    · rw [if_pos hc22] at hr
      refine OwnOut.go (fun t k => XS.icmpNo X0.here hx rfl (hb hby d1_22) rfl (XT.ii_ge_f hc22) k) ?_
      show OwnOut p e s below 2 8 _ (T.setTop (mkF m 25 #[.val (.ref b0), .val (.int x1), .val (.int x2)] []))
      refine OwnOut.go (fun t k => XS.aloadN X0.here hx rfl (hb hby d1_25) rfl rfl k) ?_
      show OwnOut p e s below 2 8 _ (T.setTop (mkF m 26 #[.val (.ref b0), .val (.int x1), .val (.int x2)] [(.ref b0)]))
      obtain ⟨T6, X6, e6, st6⟩ := getF X0 hx hZ hown (host := "") (Or.inl (hw _ (List.mem_of_getElem? (i := 14) rfl))) Via.refl e0 F0_clients (g := (mkF m 26 #[.val (.ref b0), .val (.int x1), .val (.int x2)] [(.ref b0)])) rfl rfl (hb hby d1_26)
      refine OwnOut.go (fun t k => st6 _ k) ?_
      show OwnOut p e s below 2 8 _ (T6.setTop (mkF m 29 #[.val (.ref b0), .val (.int x1), .val (.int x2)] [(.ref b2)]))
      refine OwnOut.go (fun t k => XS.iloadN X6.here hx rfl (hb hby d1_29) rfl k) ?_
      show OwnOut p e s below 2 8 _ (T6.setTop (mkF m 30 #[.val (.ref b0), .val (.int x1), .val (.int x2)] [(.int x2), (.ref b2)]))
      refine OwnOut.go (fun t k => XS.iloadN X6.here hx rfl (hb hby d1_30) rfl k) ?_
      show OwnOut p e s below 2 8 _ (T6.setTop (mkF m 31 #[.val (.ref b0), .val (.int x1), .val (.int x2)] [(.int x2), (.int x2), (.ref b2)]))
      obtain ⟨l_7, hl7, hr⟩ := Option.bind_eq_some_iff.mp hr
      obtain ⟨T7, h7, X7, e7, W7, A_7, st7⟩ := saI X6 hx hZ e6 A2 hl7 (g := (mkF m 31 #[.val (.ref b0), .val (.int x1), .val (.int x2)] [(.int x2), (.int x2), (.ref b2)])) rfl rfl (hb hby d1_31)
      refine OwnOut.go (fun t k => st7 _ k) ?_
      have E0_7 := E0.wr W7
      have F0_times_7 := F0_times.other W7 (Or.inl ne0_2)
      have F0_clients_7 := F0_clients.other W7 (Or.inl ne0_2)
      have F0_size_7 := F0_size.other W7 (Or.inl ne0_2)
      have A1_7 := A1.other W7 ne1_2
      have N_7 := Fr.snoc X7 N0 g2
      have O_7 := O0.wr W7 g2
      have K_7 := K0.wr W7 (Or.inr z2)
      show OwnOut p e s below 2 8 _ (T7.setTop (mkF m 32 #[.val (.ref b0), .val (.int x1), .val (.int x2)] []))
      refine OwnOut.go (fun t k => XT.iincV X7.here hx rfl (1 : Int32) (hb hby d1_32) rfl rfl (l' := #[.val (.ref b0), .val (.int x1), .val (.int (x2 + (1 : Int32)))]) rfl k) ?_
      show OwnOut p e s below 2 8 _ (T7.setTop (mkF m 35 #[.val (.ref b0), .val (.int x1), .val (.int (x2 + (1 : Int32)))] []))
      refine OwnOut.go (fun t k => XS.goto X7.here hx rfl (pc0 := 35) (pc' := 20) rfl (hb hby d1_35) (by decide) (by decide) k) ?_
      show OwnOut p e s below 2 8 _ (T7.setTop (mkF m 20 #[.val (.ref b0), .val (.int x1), .val (.int (x2 + (1 : Int32)))] []))
      exact ih _ _ _ x1 (x2 + (1 : Int32)) b0 u0_size b1 l1 b2 l_7 _ hr X7 e7 N_7 O_7 K_7 E0_7 F0_times_7 F0_clients_7 F0_size_7 A1_7 A_7 g0 g1 z1 g2 z2 ne0_1 ne0_2 ne1_2
    · rw [if_neg hc22] at hr
      refine OwnOut.go (fun t k => XS.icmpYes X0.here hx rfl (pc0 := 22) (pc' := 38) rfl (hb hby d1_22) rfl (XT.ii_ge_t hc22) (by decide) (by decide) k) ?_
      show OwnOut p e s below 2 8 _ (T.setTop (mkF m 38 #[.val (.ref b0), .val (.int x1), .val (.int x2)] []))
      refine OwnOut.go (fun t k => XS.aloadN X0.here hx rfl (hb hby d1_38) rfl rfl k) ?_
      show OwnOut p e s below 2 8 _ (T.setTop (mkF m 39 #[.val (.ref b0), .val (.int x1), .val (.int x2)] [(.ref b0)]))
      refine OwnOut.go (fun t k => XS.iloadN X0.here hx rfl (hb hby d1_39) rfl k) ?_
      show OwnOut p e s below 2 8 _ (T.setTop (mkF m 40 #[.val (.ref b0), .val (.int x1), .val (.int x2)] [(.int x1), (.ref b0)]))
      obtain ⟨T8, h8, X8, e8, W8, st8⟩ := putF X0 hx hZ hown (host := "") (Or.inl (hw _ (List.mem_of_getElem? (i := 16) rfl))) Via.refl e0 F0_size E0 (Or.inl (hw _ (List.mem_of_getElem? (i := 17) rfl))) (hw _ (List.mem_of_getElem? (i := 2) rfl)) (ty := .int) (by decide) rfl rfl (g := (mkF m 40 #[.val (.ref b0), .val (.int x1), .val (.int x2)] [(.int x1), (.ref b0)])) rfl rfl (hb hby d1_40)
      refine OwnOut.go (fun t k => st8 _ k) ?_
      have E0_8 := E0.wr W8
      have F0_times_8 := F0_times.other W8 (Or.inr (slot_ne (Or.inr (hw _ (List.mem_of_getElem? (i := 12) rfl))) (Or.inl (hw _ (List.mem_of_getElem? (i := 17) rfl))) (by decide) (t := (.array .long)) (t' := .int) (by decide) (by decide)))
      have F0_clients_8 := F0_clients.other W8 (Or.inr (slot_ne (Or.inr (hw _ (List.mem_of_getElem? (i := 15) rfl))) (Or.inl (hw _ (List.mem_of_getElem? (i := 17) rfl))) (by decide) (t := (.array .int)) (t' := .int) (by decide) (by decide)))
      have F0_size_8 := F0_size.same W8
      have A1_8 := A1.other W8 (Ne.symm ne0_1)
      have A2_8 := A2.other W8 (Ne.symm ne0_2)
      have N_8 := Fr.snoc X8 N0 g0
      have O_8 := O0.wr W8 g0
      have K_8 := K0.wr W8 (Or.inl (List.mem_of_getElem? (i := 0) rfl))
      show OwnOut p e s below 2 8 _ (T8.setTop (mkF m 43 #[.val (.ref b0), .val (.int x1), .val (.int x2)] []))
      cases hr
      exact outV X8 hx hret (hb hby d1_43) hlk (by decide) (by decide) (by rw [e8]; exact ⟨b1, b2, rfl, N_8, K_8, F0_times_8, F0_clients_8, F0_size_8, z1, g1, A1_8, z2, g2, A2_8, ne1_2⟩)
def f1 (x1 : Int32) (u0_size : Int32) : Option (Int32 × List Int64 × List Int32) := ((nwx (0 : Int64) 4 x1).bind fun l_2 => ((nwx (0 : Int32) 4 x1).bind fun l_4 => (f1_20 8 x1 (0 : Int32) u0_size l_2 l_4)))
set_option maxRecDepth 65536 in
set_option maxHeartbeats 40000000 in
theorem w1_0 {p : Program} {l : Launch} {e : Env} {s : State} {m : MethodId} {args : Array Value} {below : List Frame} {meth : Method} {c : Code} {Z : State} {a0 : Array Value} {h0 : Heap} {n0 : Nat} (C : Cx1 Z a0 p s m meth c) :
    ∀ (T : State) (locs : List Loc) (hA : Heap) (x1 : Int32) (b0 : Addr) (u0_size : Int32) (o : Int32 × List Int64 × List Int32), f1 x1 u0_size = some o → Stand p l e rx1 s m args below meth c T locs 0 0 → T.heap = hA → Fr n0 locs → Old Z n0 hA → Keep h0 hA [b0] → (Exa Z hA b0 "com/example/porter_drive/porterdrive/RequestQueue") → (Fld Z hA b0 "com/example/porter_drive/porterdrive/RequestQueue" "times" "[J" .null) → (Fld Z hA b0 "com/example/porter_drive/porterdrive/RequestQueue" "clients" "[I" .null) → (Fld Z hA b0 "com/example/porter_drive/porterdrive/RequestQueue" "size" "I" (.int u0_size)) → (n0 ≤ b0) →  OwnOut p e s below 2 8 (Q1 Z default b0 default h0 n0 o) (T.setTop (mkF m 0 #[.val (.ref b0), .val (.int x1), .unset] [])) := by
    obtain ⟨hx, hZ, hw, hby, hml, hown, hret, hlk, hnm⟩ := C
    intro T locs hA x1 b0 u0_size o hr X0 e0 N0 O0 K0 E0 F0_times F0_clients F0_size g0
    rw [f1] at hr
    refine OwnOut.go (fun t k => XS.aloadN X0.here hx rfl (hb hby d1_0) rfl rfl k) ?_
    show OwnOut p e s below 2 8 _ (T.setTop (mkF m 1 #[.val (.ref b0), .val (.int x1), .unset] [(.ref b0)]))
    obtain ⟨T1, X1, e1, st1⟩ := initO X0 hx hZ hown (hw _ (List.mem_of_getElem? (i := 7) rfl)) (hw _ (List.mem_of_getElem? (i := 8) rfl)) (hw _ (List.mem_of_getElem? (i := 9) rfl)) e0 (g := (mkF m 1 #[.val (.ref b0), .val (.int x1), .unset] [(.ref b0)])) rfl (by rw [hml]; rfl) rfl (hb hby d1_1) (by decide) (W := 0) (by show 2 * 0 + _ ≤ _; exact Nat.le_of_eq rfl) (by decide)
    refine OwnOut.go (fun t k => st1 _ k) ?_
    show OwnOut p e s below 2 8 _ (T1.setTop (mkF m 4 #[.val (.ref b0), .val (.int x1), .unset] []))
    refine OwnOut.go (fun t k => XS.aloadN X1.here hx rfl (hb hby d1_4) rfl rfl k) ?_
    show OwnOut p e s below 2 8 _ (T1.setTop (mkF m 5 #[.val (.ref b0), .val (.int x1), .unset] [(.ref b0)]))
    refine OwnOut.go (fun t k => XS.iloadN X1.here hx rfl (hb hby d1_5) rfl k) ?_
    show OwnOut p e s below 2 8 _ (T1.setTop (mkF m 6 #[.val (.ref b0), .val (.int x1), .unset] [(.int x1), (.ref b0)]))
    obtain ⟨l_2, hl2, hr⟩ := Option.bind_eq_some_iff.mp hr
    obtain ⟨T2, h2, X2, e2, Ex2, A_2, st2⟩ := nwA X1 hx hZ (hw _ (List.mem_of_getElem? (i := 10) rfl)) e1 hl2 (f := Value.long) rfl (g := (mkF m 6 #[.val (.ref b0), .val (.int x1), .unset] [(.int x1), (.ref b0)])) rfl rfl (hb hby d1_6) (by decide) (by decide) (by decide)
    obtain ⟨c2, gc2⟩ : ∃ z, z = hA.size := ⟨_, rfl⟩
    rw [← gc2] at A_2 st2
    refine OwnOut.go (fun t k => st2 _ k) ?_
    have ne0_1_2 : b0 ≠ c2 := Nat.ne_of_lt (gc2 ▸ E0.lt)
    have E0_2 := E0.ext Ex2
    have F0_times_2 := F0_times.ext Ex2
    have F0_clients_2 := F0_clients.ext Ex2
    have F0_size_2 := F0_size.ext Ex2
    have g_2 : n0 ≤ c2 := gc2 ▸ (O0.1 ▸ O0.2.1)
    have z_2 : h0.size ≤ c2 := gc2 ▸ K0.1
    have O_2 := O0.ext Ex2
    have K_2 := K0.ext Ex2
    show OwnOut p e s below 2 8 _ (T2.setTop (mkF m 8 #[.val (.ref b0), .val (.int x1), .unset] [(.ref c2), (.ref b0)]))
    obtain ⟨T3, h3, X3, e3, W3, st3⟩ := putF X2 hx hZ hown (host := "") (Or.inl (hw _ (List.mem_of_getElem? (i := 11) rfl))) Via.refl e2 F0_times_2 E0_2 (Or.inr ⟨(hw _ (List.mem_of_getElem? (i := 12) rfl)), rfl, hnm⟩) (hw _ (List.mem_of_getElem? (i := 2) rfl)) (ty := (.array .long)) (by decide) rfl rfl (g := (mkF m 8 #[.val (.ref b0), .val (.int x1), .unset] [(.ref c2), (.ref b0)])) rfl rfl (hb hby d1_8)
    refine OwnOut.go (fun t k => st3 _ k) ?_
    have E0_3 := E0_2.wr W3
    have F0_times_3 := F0_times_2.same W3
    have F0_clients_3 := F0_clients_2.other W3 (Or.inr (slot_ne (Or.inr (hw _ (List.mem_of_getElem? (i := 15) rfl))) (Or.inr (hw _ (List.mem_of_getElem? (i := 12) rfl))) (by decide) (t := (.array .int)) (t' := (.array .long)) (by decide) (by decide)))
    have F0_size_3 := F0_size_2.other W3 (Or.inr (slot_ne (Or.inl (hw _ (List.mem_of_getElem? (i := 17) rfl))) (Or.inr (hw _ (List.mem_of_getElem? (i := 12) rfl))) (by decide) (t := .int) (t' := (.array .long)) (by decide) (by decide)))
    have A1_3 := A_2.other W3 (Ne.symm ne0_1_2)
    have N_3 := Fr.snoc X3 N0 g0
    have O_3 := O_2.wr W3 g0
    have K_3 := K_2.wr W3 (Or.inl (List.mem_of_getElem? (i := 0) rfl))
    show OwnOut p e s below 2 8 _ (T3.setTop (mkF m 11 #[.val (.ref b0), .val (.int x1), .unset] []))
    refine OwnOut.go (fun t k => XS.aloadN X3.here hx rfl (hb hby d1_11) rfl rfl k) ?_
    show OwnOut p e s below 2 8 _ (T3.setTop (mkF m 12 #[.val (.ref b0), .val (.int x1), .unset] [(.ref b0)]))
    refine OwnOut.go (fun t k => XS.iloadN X3.here hx rfl (hb hby d1_12) rfl k) ?_
    show OwnOut p e s below 2 8 _ (T3.setTop (mkF m 13 #[.val (.ref b0), .val (.int x1), .unset] [(.int x1), (.ref b0)]))
    obtain ⟨l_4, hl4, hr⟩ := Option.bind_eq_some_iff.mp hr
    obtain ⟨T4, h4, X4, e4, Ex4, A_4, st4⟩ := nwA X3 hx hZ (hw _ (List.mem_of_getElem? (i := 13) rfl)) e3 hl4 (f := Value.int) rfl (g := (mkF m 13 #[.val (.ref b0), .val (.int x1), .unset] [(.int x1), (.ref b0)])) rfl rfl (hb hby d1_13) (by decide) (by decide) (by decide)
    obtain ⟨c4, gc4⟩ : ∃ z, z = h3.size := ⟨_, rfl⟩
    rw [← gc4] at A_4 st4
    refine OwnOut.go (fun t k => st4 _ k) ?_
    have ne0_2_4 : b0 ≠ c4 := Nat.ne_of_lt (gc4 ▸ E0_3.lt)
    have ne1_2_4 : c2 ≠ c4 := Nat.ne_of_lt (gc4 ▸ A1_3.lt)
    have E0_4 := E0_3.ext Ex4
    have F0_times_4 := F0_times_3.ext Ex4
    have F0_clients_4 := F0_clients_3.ext Ex4
    have F0_size_4 := F0_size_3.ext Ex4
    have A1_4 := A1_3.ext Ex4
    have g_4 : n0 ≤ c4 := gc4 ▸ (O_3.1 ▸ O_3.2.1)
    have z_4 : h0.size ≤ c4 := gc4 ▸ K_3.1
    have O_4 := O_3.ext Ex4
    have K_4 := K_3.ext Ex4
    show OwnOut p e s below 2 8 _ (T4.setTop (mkF m 15 #[.val (.ref b0), .val (.int x1), .unset] [(.ref c4), (.ref b0)]))
    obtain ⟨T5, h5, X5, e5, W5, st5⟩ := putF X4 hx hZ hown (host := "") (Or.inl (hw _ (List.mem_of_getElem? (i := 14) rfl))) Via.refl e4 F0_clients_4 E0_4 (Or.inr ⟨(hw _ (List.mem_of_getElem? (i := 15) rfl)), rfl, hnm⟩) (hw _ (List.mem_of_getElem? (i := 2) rfl)) (ty := (.array .int)) (by decide) rfl rfl (g := (mkF m 15 #[.val (.ref b0), .val (.int x1), .unset] [(.ref c4), (.ref b0)])) rfl rfl (hb hby d1_15)
    refine OwnOut.go (fun t k => st5 _ k) ?_
    have E0_5 := E0_4.wr W5
    have F0_times_5 := F0_times_4.other W5 (Or.inr (slot_ne (Or.inr (hw _ (List.mem_of_getElem? (i := 12) rfl))) (Or.inr (hw _ (List.mem_of_getElem? (i := 15) rfl))) (by decide) (t := (.array .long)) (t' := (.array .int)) (by decide) (by decide)))
    have F0_clients_5 := F0_clients_4.same W5
    have F0_size_5 := F0_size_4.other W5 (Or.inr (slot_ne (Or.inl (hw _ (List.mem_of_getElem? (i := 17) rfl))) (Or.inr (hw _ (List.mem_of_getElem? (i := 15) rfl))) (by decide) (t := .int) (t' := (.array .int)) (by decide) (by decide)))
    have A1_5 := A1_4.other W5 (Ne.symm ne0_1_2)
    have A2_5 := A_4.other W5 (Ne.symm ne0_2_4)
    have N_5 := Fr.snoc X5 N_3 g0
    have O_5 := O_4.wr W5 g0
    have K_5 := K_4.wr W5 (Or.inl (List.mem_of_getElem? (i := 0) rfl))
    show OwnOut p e s below 2 8 _ (T5.setTop (mkF m 18 #[.val (.ref b0), .val (.int x1), .unset] []))
    refine OwnOut.go (fun t k => XT.iconstV X5.here hx rfl (0 : Int32) (hb hby d1_18) rfl k) ?_
    show OwnOut p e s below 2 8 _ (T5.setTop (mkF m 19 #[.val (.ref b0), .val (.int x1), .unset] [(.int (0 : Int32))]))
    refine OwnOut.go (fun t k => XS.istoreN X5.here hx rfl (hb hby d1_19) rfl (l' := #[.val (.ref b0), .val (.int x1), .val (.int (0 : Int32))]) rfl k) ?_
    show OwnOut p e s below 2 8 _ (T5.setTop (mkF m 20 #[.val (.ref b0), .val (.int x1), .val (.int (0 : Int32))] []))
    exact w1_20 ⟨hx, hZ, hw, hby, hml, hown, hret, hlk, hnm⟩ 8  _ _ _ x1 (0 : Int32) b0 u0_size c2 l_2 c4 l_4 _ hr X5 e5 N_5 O_5 K_5 E0_5 F0_times_5 F0_clients_5 F0_size_5 A1_5 A2_5 g0 g_2 z_2 g_4 z_4 ne0_1_2 ne0_2_4 ne1_2_4
set_option maxRecDepth 65536 in
set_option maxHeartbeats 40000000 in
theorem rm1 (l : Launch) (Z : State) (a0 : Array Value) (hw : ∀ d ∈ tables_1, d.before a0 Z = true) (ws : List Jvm.Cond) (x1 : Int32) (b0 : Addr) (u0_size : Int32) (h0 : Heap) (n0 : Nat) (o : Int32 × List Int64 × List Int32) (hr : f1 x1 u0_size = some o) (O0 : Old Z n0 h0) (E0 : Exa Z h0 b0 "com/example/porter_drive/porterdrive/RequestQueue") (F0_times : Fld Z h0 b0 "com/example/porter_drive/porterdrive/RequestQueue" "times" "[J" .null) (F0_clients : Fld Z h0 b0 "com/example/porter_drive/porterdrive/RequestQueue" "clients" "[I" .null) (F0_size : Fld Z h0 b0 "com/example/porter_drive/porterdrive/RequestQueue" "size" "I" (.int u0_size)) (g0 : n0 ≤ b0) :
    MetFree l (⟨"com/example/porter_drive/porterdrive/RequestQueue", "<init>", "(I)V"⟩ : MethodName) (head1 (Jvm.Cond.code (⟨"com/example/porter_drive/porterdrive/RequestQueue", "<init>", "(I)V"⟩ : MethodName) prog_24_method_1_code 3 none :: ws) rx1) (fun a U => a = #[(.ref b0), (.int x1)] ∧ Z.Warmed39 U.vm ∧ U.heap = h0) (fun _ _ _ _ _ => True) (fun _ U o' U' => ∃ v L, o' = .returned v ∧ Q1 Z x1 b0 u0_size h0 n0 o v U'.heap L ∧ FrameEnd U o' U' L rx1.cells rx1.slots) := by
  refine MetFree.of_bodySF (plainFor_of_name pn1) hisR ?_
  intro p e s m args below meth c s₁ Bd hml0 hP hK
  obtain ⟨rfl, hZ, hh⟩ := hP
  have X0 : Stand p l e rx1 s m #[(.ref b0), (.int x1)] below meth c s₁ [] 0 0 := Stand.of_body Bd
  have e0 : s₁.heap = h0 := by rw [← hh, Bd.state]; rfl
  exact OwnOut.at (ef1 m b0 x1) (w1_0 ⟨Bd.exec, hZ, hw, Bd.bytes, hml0, findClass_of_methodNamed Bd.named, Bd.returns, Bd.notSynchronized, (name_of_methodNamed Bd.named Bd.method).1⟩ _ _ _ x1 b0 u0_size o hr X0 e0 (Fr.nil n0) O0 (Keep.refl _ _) E0 F0_times F0_clients F0_size g0)
-- body 3 as 3: com/example/porter_drive/porterdrive/RequestQueue.isEmpty:()Z (touches nothing)
theorem d3_0 : decode prog_24_method_2_code 0 = .ok (.aload_n 0, 1) := by decide +kernel
theorem d3_1 : decode prog_24_method_2_code 1 = .ok (.getfield 17, 3) := by decide +kernel
theorem d3_4 : decode prog_24_method_2_code 4 = .ok (.ifCond .ne 7, 3) := by decide +kernel
theorem d3_7 : decode prog_24_method_2_code 7 = .ok (.iconst 1, 1) := by decide +kernel
theorem d3_8 : decode prog_24_method_2_code 8 = .ok (.goto 4, 3) := by decide +kernel
theorem d3_11 : decode prog_24_method_2_code 11 = .ok (.iconst 0, 1) := by decide +kernel
theorem d3_12 : decode prog_24_method_2_code 12 = .ok (.ireturn, 1) := by decide +kernel
theorem pn3 : plainName "com/example/porter_drive/porterdrive/RequestQueue" = true := by first | (simp [plainName, overriddenIn]; done) | decide +kernel
theorem pd3 : parseMethodDescriptor "()Z" = some ⟨[], some .boolean⟩ := by decide +kernel
theorem ef3 (m : MethodId) (b0 : Addr) : entryFrame m #[(.ref b0)] 1 = mkF m 0 #[.val (.ref b0)] [] := by first | (simp [entryFrame, mkF, argsToLocals, Value.category]; done) | rfl
abbrev rx3 : Room := { frames := 0, cells := 0, slots := 0, locals := 0 }
abbrev Cx3 (Z : State) (a0 : Array Value) (p : Program) (s : State) (m : MethodId) (meth : Method) (c : Code) : Prop := p.tables.exec = Jvm.exec ∧ Z.Warmed39 s.vm ∧ (∀ d ∈ tables_1, d.before a0 Z = true) ∧ c.code = prog_24_method_2_code ∧ c.maxLocals = 1 ∧ s.vm.findClass "com/example/porter_drive/porterdrive/RequestQueue" = some m.cls ∧ meth.sig.returnType = (some .boolean) ∧ meth.locks = false ∧ meth.name = "isEmpty"
def Q3 (Z : State) (b0 : Addr) (u0_size : Int32) (b1 : Addr) (l1 : List Int64) (b2 : Addr) (l2 : List Int32) (h0 : Heap) (o : Int32) (v : Option Value) (h : Heap) (L : List Loc) : Prop := v = some (.int o) ∧ h = h0 ∧ L = []
def f3 (u0_size : Int32) (l1 : List Int64) (l2 : List Int32) : Option (Int32) := (if u0_size = (0 : Int32) then some ((1 : Int32)) else some ((0 : Int32)))
set_option maxRecDepth 65536 in
set_option maxHeartbeats 40000000 in
theorem w3_0 {p : Program} {l : Launch} {e : Env} {s : State} {m : MethodId} {args : Array Value} {below : List Frame} {meth : Method} {c : Code} {Z : State} {a0 : Array Value} {h0 : Heap} (C : Cx3 Z a0 p s m meth c) :
    ∀ (T : State) (b0 : Addr) (u0_size : Int32) (b1 : Addr) (l1 : List Int64) (b2 : Addr) (l2 : List Int32) (o : Int32), f3 u0_size l1 l2 = some o → Stand p l e rx3 s m args below meth c T [] 0 0 → T.heap = h0 → (Exa Z h0 b0 "com/example/porter_drive/porterdrive/RequestQueue") → (Fld Z h0 b0 "com/example/porter_drive/porterdrive/RequestQueue" "times" "[J" (.ref b1)) → (Fld Z h0 b0 "com/example/porter_drive/porterdrive/RequestQueue" "clients" "[I" (.ref b2)) → (Fld Z h0 b0 "com/example/porter_drive/porterdrive/RequestQueue" "size" "I" (.int u0_size)) → (Arj Z h0 b1 l1) → (Ari Z h0 b2 .int l2) →  OwnOut p e s below 0 0 (Q3 Z b0 u0_size b1 l1 b2 l2 h0 o) (T.setTop (mkF m 0 #[.val (.ref b0)] [])) := by
    obtain ⟨hx, hZ, hw, hby, hml, hown, hret, hlk, hnm⟩ := C
    intro T b0 u0_size b1 l1 b2 l2 o hr X0 e0 E0 F0_times F0_clients F0_size A1 A2
    rw [f3] at hr
    refine OwnOut.go (fun t k => XS.aloadN X0.here hx rfl (hb hby d3_0) rfl rfl k) ?_
    show OwnOut p e s below 0 0 _ (T.setTop (mkF m 1 #[.val (.ref b0)] [(.ref b0)]))
    obtain ⟨T1, X1, e1, st1⟩ := getF X0 hx hZ hown (host := "") (Or.inl (hw _ (List.mem_of_getElem? (i := 16) rfl))) Via.refl e0 F0_size (g := (mkF m 1 #[.val (.ref b0)] [(.ref b0)])) rfl rfl (hb hby d3_1)
    refine OwnOut.go (fun t k => st1 _ k) ?_
    show OwnOut p e s below 0 0 _ (T1.setTop (mkF m 4 #[.val (.ref b0)] [(.int u0_size)]))
    by_cases hc4 : u0_size = (0 : Int32)
    · rw [if_pos hc4] at hr
      refine OwnOut.go (fun t k => XS.ifNo X1.here hx rfl (hb hby d3_4) rfl (XT.i0_ne_f hc4) k) ?_
      show OwnOut p e s below 0 0 _ (T1.setTop (mkF m 7 #[.val (.ref b0)] []))
      refine OwnOut.go (fun t k => XT.iconstV X1.here hx rfl (1 : Int32) (hb hby d3_7) rfl k) ?_
      show OwnOut p e s below 0 0 _ (T1.setTop (mkF m 8 #[.val (.ref b0)] [(.int (1 : Int32))]))
      refine OwnOut.go (fun t k => XS.goto X1.here hx rfl (pc0 := 8) (pc' := 12) rfl (hb hby d3_8) (by decide) (by decide) k) ?_
      show OwnOut p e s below 0 0 _ (T1.setTop (mkF m 12 #[.val (.ref b0)] [(.int (1 : Int32))]))
      cases hr
      exact outZ X1 hx hret (hb hby d3_12) hlk (by decide) (by decide) ⟨rfl, e1, rfl⟩
    · rw [if_neg hc4] at hr
      refine OwnOut.go (fun t k => XS.ifYes X1.here hx rfl (pc0 := 4) (pc' := 11) rfl (hb hby d3_4) rfl (XT.i0_ne_t hc4) (by decide) (by decide) k) ?_
      show OwnOut p e s below 0 0 _ (T1.setTop (mkF m 11 #[.val (.ref b0)] []))
      refine OwnOut.go (fun t k => XT.iconstV X1.here hx rfl (0 : Int32) (hb hby d3_11) rfl k) ?_
      show OwnOut p e s below 0 0 _ (T1.setTop (mkF m 12 #[.val (.ref b0)] [(.int (0 : Int32))]))
      cases hr
      exact outZ X1 hx hret (hb hby d3_12) hlk (by decide) (by decide) ⟨rfl, e1, rfl⟩
set_option maxRecDepth 65536 in
set_option maxHeartbeats 40000000 in
theorem rm3 (l : Launch) (Z : State) (a0 : Array Value) (hw : ∀ d ∈ tables_1, d.before a0 Z = true) (ws : List Jvm.Cond) (b0 : Addr) (u0_size : Int32) (b1 : Addr) (l1 : List Int64) (b2 : Addr) (l2 : List Int32) (h0 : Heap) (o : Int32) (hr : f3 u0_size l1 l2 = some o) (E0 : Exa Z h0 b0 "com/example/porter_drive/porterdrive/RequestQueue") (F0_times : Fld Z h0 b0 "com/example/porter_drive/porterdrive/RequestQueue" "times" "[J" (.ref b1)) (F0_clients : Fld Z h0 b0 "com/example/porter_drive/porterdrive/RequestQueue" "clients" "[I" (.ref b2)) (F0_size : Fld Z h0 b0 "com/example/porter_drive/porterdrive/RequestQueue" "size" "I" (.int u0_size)) (A1 : Arj Z h0 b1 l1) (A2 : Ari Z h0 b2 .int l2) :
    MetFree l (⟨"com/example/porter_drive/porterdrive/RequestQueue", "isEmpty", "()Z"⟩ : MethodName) (head1 (Jvm.Cond.code (⟨"com/example/porter_drive/porterdrive/RequestQueue", "isEmpty", "()Z"⟩ : MethodName) prog_24_method_2_code 1 (some .boolean) :: ws) rx3) (fun a U => a = #[(.ref b0)] ∧ Z.Warmed39 U.vm ∧ U.heap = h0) (fun _ _ _ _ _ => True) (fun _ U o' U' => ∃ v L, o' = .returned v ∧ Q3 Z b0 u0_size b1 l1 b2 l2 h0 o v U'.heap L ∧ FrameEnd U o' U' L rx3.cells rx3.slots) := by
  refine MetFree.of_bodySF (plainFor_of_name pn3) hisR ?_
  intro p e s m args below meth c s₁ Bd hml0 hP hK
  obtain ⟨rfl, hZ, hh⟩ := hP
  have X0 : Stand p l e rx3 s m #[(.ref b0)] below meth c s₁ [] 0 0 := Stand.of_body Bd
  have e0 : s₁.heap = h0 := by rw [← hh, Bd.state]; rfl
  exact OwnOut.at (ef3 m b0) (w3_0 ⟨Bd.exec, hZ, hw, Bd.bytes, hml0, findClass_of_methodNamed Bd.named, Bd.returns, Bd.notSynchronized, (name_of_methodNamed Bd.named Bd.method).1⟩ _ b0 u0_size b1 l1 b2 l2 o hr X0 e0  E0 F0_times F0_clients F0_size A1 A2)
-- body 7 as 7: com/example/porter_drive/porterdrive/RequestQueue.isBefore:(JIJI)Z (touches nothing)
theorem d7_0 : decode prog_24_method_8_code 0 = .ok (.lload_n 0, 1) := by decide +kernel
theorem d7_1 : decode prog_24_method_8_code 1 = .ok (.lload_n 3, 1) := by decide +kernel
theorem d7_2 : decode prog_24_method_8_code 2 = .ok (.lcmp, 1) := by decide +kernel
theorem d7_3 : decode prog_24_method_8_code 3 = .ok (.ifCond .lt 15, 3) := by decide +kernel
theorem d7_6 : decode prog_24_method_8_code 6 = .ok (.lload_n 0, 1) := by decide +kernel
theorem d7_7 : decode prog_24_method_8_code 7 = .ok (.lload_n 3, 1) := by decide +kernel
theorem d7_8 : decode prog_24_method_8_code 8 = .ok (.lcmp, 1) := by decide +kernel
theorem d7_9 : decode prog_24_method_8_code 9 = .ok (.ifCond .ne 13, 3) := by decide +kernel
theorem d7_12 : decode prog_24_method_8_code 12 = .ok (.iload_n 2, 1) := by decide +kernel
theorem d7_13 : decode prog_24_method_8_code 13 = .ok (.iload 5, 2) := by decide +kernel
theorem d7_15 : decode prog_24_method_8_code 15 = .ok (.if_icmp .ge 7, 3) := by decide +kernel
theorem d7_18 : decode prog_24_method_8_code 18 = .ok (.iconst 1, 1) := by decide +kernel
theorem d7_19 : decode prog_24_method_8_code 19 = .ok (.goto 4, 3) := by decide +kernel
theorem d7_22 : decode prog_24_method_8_code 22 = .ok (.iconst 0, 1) := by decide +kernel
theorem d7_23 : decode prog_24_method_8_code 23 = .ok (.ireturn, 1) := by decide +kernel
theorem pn7 : plainName "com/example/porter_drive/porterdrive/RequestQueue" = true := by first | (simp [plainName, overriddenIn]; done) | decide +kernel
theorem pd7 : parseMethodDescriptor "(JIJI)Z" = some ⟨[.long, .int, .long, .int], some .boolean⟩ := by decide +kernel
theorem ef7 (m : MethodId) (x0 : Int64) (x2 : Int32) (x3 : Int64) (x5 : Int32) : entryFrame m #[(.long x0), (.int x2), (.long x3), (.int x5)] 6 = mkF m 0 #[.val (.long x0), .second, .val (.int x2), .val (.long x3), .second, .val (.int x5)] [] := by first | (simp [entryFrame, mkF, argsToLocals, Value.category]; done) | rfl
abbrev rx7 : Room := { frames := 0, cells := 0, slots := 0, locals := 0 }
abbrev Cx7 (Z : State) (a0 : Array Value) (p : Program) (s : State) (m : MethodId) (meth : Method) (c : Code) : Prop := p.tables.exec = Jvm.exec ∧ Z.Warmed39 s.vm ∧ (∀ d ∈ tables_1, d.before a0 Z = true) ∧ c.code = prog_24_method_8_code ∧ c.maxLocals = 6 ∧ s.vm.findClass "com/example/porter_drive/porterdrive/RequestQueue" = some m.cls ∧ meth.sig.returnType = (some .boolean) ∧ meth.locks = false ∧ meth.name = "isBefore"
def Q7 (Z : State) (x0 : Int64) (x2 : Int32) (x3 : Int64) (x5 : Int32) (h0 : Heap) (o : Int32) (v : Option Value) (h : Heap) (L : List Loc) : Prop := v = some (.int o) ∧ h = h0 ∧ L = []
def f7 (x0 : Int64) (x2 : Int32) (x3 : Int64) (x5 : Int32) : Option (Int32) := (if x0 < x3 then some ((1 : Int32)) else (if x0 = x3 then (if x2 < x5 then some ((1 : Int32)) else some ((0 : Int32))) else some ((0 : Int32))))
set_option maxRecDepth 65536 in
set_option maxHeartbeats 40000000 in
theorem w7_0 {p : Program} {l : Launch} {e : Env} {s : State} {m : MethodId} {args : Array Value} {below : List Frame} {meth : Method} {c : Code} {Z : State} {a0 : Array Value} {h0 : Heap} (C : Cx7 Z a0 p s m meth c) :
    ∀ (T : State) (x0 : Int64) (x2 : Int32) (x3 : Int64) (x5 : Int32) (o : Int32), f7 x0 x2 x3 x5 = some o → Stand p l e rx7 s m args below meth c T [] 0 0 → T.heap = h0 →  OwnOut p e s below 0 0 (Q7 Z default default default default h0 o) (T.setTop (mkF m 0 #[.val (.long x0), .second, .val (.int x2), .val (.long x3), .second, .val (.int x5)] [])) := by
    obtain ⟨hx, hZ, hw, hby, hml, hown, hret, hlk, hnm⟩ := C
    intro T x0 x2 x3 x5 o hr X0 e0
    rw [f7] at hr
    refine OwnOut.go (fun t k => XS.lloadN X0.here hx rfl (hb hby d7_0) rfl k) ?_
    show OwnOut p e s below 0 0 _ (T.setTop (mkF m 1 #[.val (.long x0), .second, .val (.int x2), .val (.long x3), .second, .val (.int x5)] [(.long x0)]))
    refine OwnOut.go (fun t k => XS.lloadN X0.here hx rfl (hb hby d7_1) rfl k) ?_
    show OwnOut p e s below 0 0 _ (T.setTop (mkF m 2 #[.val (.long x0), .second, .val (.int x2), .val (.long x3), .second, .val (.int x5)] [(.long x3), (.long x0)]))
    refine OwnOut.go (fun t k => XS.lcmp X0.here hx rfl (hb hby d7_2) rfl k) ?_
    show OwnOut p e s below 0 0 _ (T.setTop (mkF m 3 #[.val (.long x0), .second, .val (.int x2), .val (.long x3), .second, .val (.int x5)] [(.int (XT.cmpL x0 x3))]))
    by_cases hc3 : x0 < x3
    · rw [if_pos hc3] at hr
      refine OwnOut.go (fun t k => XS.ifYes X0.here hx rfl (pc0 := 3) (pc' := 18) rfl (hb hby d7_3) rfl (XT.ll_lt_t hc3) (by decide) (by decide) k) ?_
      show OwnOut p e s below 0 0 _ (T.setTop (mkF m 18 #[.val (.long x0), .second, .val (.int x2), .val (.long x3), .second, .val (.int x5)] []))
      refine OwnOut.go (fun t k => XT.iconstV X0.here hx rfl (1 : Int32) (hb hby d7_18) rfl k) ?_
      show OwnOut p e s below 0 0 _ (T.setTop (mkF m 19 #[.val (.long x0), .second, .val (.int x2), .val (.long x3), .second, .val (.int x5)] [(.int (1 : Int32))]))
      refine OwnOut.go (fun t k => XS.goto X0.here hx rfl (pc0 := 19) (pc' := 23) rfl (hb hby d7_19) (by decide) (by decide) k) ?_
      show OwnOut p e s below 0 0 _ (T.setTop (mkF m 23 #[.val (.long x0), .second, .val (.int x2), .val (.long x3), .second, .val (.int x5)] [(.int (1 : Int32))]))
      cases hr
      exact outZ X0 hx hret (hb hby d7_23) hlk (by decide) (by decide) ⟨rfl, e0, rfl⟩
    · rw [if_neg hc3] at hr
      refine OwnOut.go (fun t k => XS.ifNo X0.here hx rfl (hb hby d7_3) rfl (XT.ll_lt_f hc3) k) ?_
      show OwnOut p e s below 0 0 _ (T.setTop (mkF m 6 #[.val (.long x0), .second, .val (.int x2), .val (.long x3), .second, .val (.int x5)] []))
      refine OwnOut.go (fun t k => XS.lloadN X0.here hx rfl (hb hby d7_6) rfl k) ?_
      show OwnOut p e s below 0 0 _ (T.setTop (mkF m 7 #[.val (.long x0), .second, .val (.int x2), .val (.long x3), .second, .val (.int x5)] [(.long x0)]))
      refine OwnOut.go (fun t k => XS.lloadN X0.here hx rfl (hb hby d7_7) rfl k) ?_
      show OwnOut p e s below 0 0 _ (T.setTop (mkF m 8 #[.val (.long x0), .second, .val (.int x2), .val (.long x3), .second, .val (.int x5)] [(.long x3), (.long x0)]))
      refine OwnOut.go (fun t k => XS.lcmp X0.here hx rfl (hb hby d7_8) rfl k) ?_
      show OwnOut p e s below 0 0 _ (T.setTop (mkF m 9 #[.val (.long x0), .second, .val (.int x2), .val (.long x3), .second, .val (.int x5)] [(.int (XT.cmpL x0 x3))]))
      by_cases hc9 : x0 = x3
      · rw [if_pos hc9] at hr
        refine OwnOut.go (fun t k => XS.ifNo X0.here hx rfl (hb hby d7_9) rfl (XT.ll_ne_f hc9) k) ?_
        show OwnOut p e s below 0 0 _ (T.setTop (mkF m 12 #[.val (.long x0), .second, .val (.int x2), .val (.long x3), .second, .val (.int x5)] []))
        refine OwnOut.go (fun t k => XS.iloadN X0.here hx rfl (hb hby d7_12) rfl k) ?_
        show OwnOut p e s below 0 0 _ (T.setTop (mkF m 13 #[.val (.long x0), .second, .val (.int x2), .val (.long x3), .second, .val (.int x5)] [(.int x2)]))
        refine OwnOut.go (fun t k => XS.iload X0.here hx rfl (hb hby d7_13) rfl k) ?_
        show OwnOut p e s below 0 0 _ (T.setTop (mkF m 15 #[.val (.long x0), .second, .val (.int x2), .val (.long x3), .second, .val (.int x5)] [(.int x5), (.int x2)]))
        by_cases hc15 : x2 < x5
        · rw [if_pos hc15] at hr
          refine OwnOut.go (fun t k => XS.icmpNo X0.here hx rfl (hb hby d7_15) rfl (XT.ii_ge_f hc15) k) ?_
          show OwnOut p e s below 0 0 _ (T.setTop (mkF m 18 #[.val (.long x0), .second, .val (.int x2), .val (.long x3), .second, .val (.int x5)] []))
          refine OwnOut.go (fun t k => XT.iconstV X0.here hx rfl (1 : Int32) (hb hby d7_18) rfl k) ?_
          show OwnOut p e s below 0 0 _ (T.setTop (mkF m 19 #[.val (.long x0), .second, .val (.int x2), .val (.long x3), .second, .val (.int x5)] [(.int (1 : Int32))]))
          refine OwnOut.go (fun t k => XS.goto X0.here hx rfl (pc0 := 19) (pc' := 23) rfl (hb hby d7_19) (by decide) (by decide) k) ?_
          show OwnOut p e s below 0 0 _ (T.setTop (mkF m 23 #[.val (.long x0), .second, .val (.int x2), .val (.long x3), .second, .val (.int x5)] [(.int (1 : Int32))]))
          cases hr
          exact outZ X0 hx hret (hb hby d7_23) hlk (by decide) (by decide) ⟨rfl, e0, rfl⟩
        · rw [if_neg hc15] at hr
          refine OwnOut.go (fun t k => XS.icmpYes X0.here hx rfl (pc0 := 15) (pc' := 22) rfl (hb hby d7_15) rfl (XT.ii_ge_t hc15) (by decide) (by decide) k) ?_
          show OwnOut p e s below 0 0 _ (T.setTop (mkF m 22 #[.val (.long x0), .second, .val (.int x2), .val (.long x3), .second, .val (.int x5)] []))
          refine OwnOut.go (fun t k => XT.iconstV X0.here hx rfl (0 : Int32) (hb hby d7_22) rfl k) ?_
          show OwnOut p e s below 0 0 _ (T.setTop (mkF m 23 #[.val (.long x0), .second, .val (.int x2), .val (.long x3), .second, .val (.int x5)] [(.int (0 : Int32))]))
          cases hr
          exact outZ X0 hx hret (hb hby d7_23) hlk (by decide) (by decide) ⟨rfl, e0, rfl⟩
      · rw [if_neg hc9] at hr
        refine OwnOut.go (fun t k => XS.ifYes X0.here hx rfl (pc0 := 9) (pc' := 22) rfl (hb hby d7_9) rfl (XT.ll_ne_t hc9) (by decide) (by decide) k) ?_
        show OwnOut p e s below 0 0 _ (T.setTop (mkF m 22 #[.val (.long x0), .second, .val (.int x2), .val (.long x3), .second, .val (.int x5)] []))
        refine OwnOut.go (fun t k => XT.iconstV X0.here hx rfl (0 : Int32) (hb hby d7_22) rfl k) ?_
        show OwnOut p e s below 0 0 _ (T.setTop (mkF m 23 #[.val (.long x0), .second, .val (.int x2), .val (.long x3), .second, .val (.int x5)] [(.int (0 : Int32))]))
        cases hr
        exact outZ X0 hx hret (hb hby d7_23) hlk (by decide) (by decide) ⟨rfl, e0, rfl⟩
set_option maxRecDepth 65536 in
set_option maxHeartbeats 40000000 in
theorem rm7 (l : Launch) (Z : State) (a0 : Array Value) (hw : ∀ d ∈ tables_1, d.before a0 Z = true) (ws : List Jvm.Cond) (x0 : Int64) (x2 : Int32) (x3 : Int64) (x5 : Int32) (h0 : Heap) (o : Int32) (hr : f7 x0 x2 x3 x5 = some o) :
    MetFree l (⟨"com/example/porter_drive/porterdrive/RequestQueue", "isBefore", "(JIJI)Z"⟩ : MethodName) (head1 (Jvm.Cond.code (⟨"com/example/porter_drive/porterdrive/RequestQueue", "isBefore", "(JIJI)Z"⟩ : MethodName) prog_24_method_8_code 6 (some .boolean) :: ws) rx7) (fun a U => a = #[(.long x0), (.int x2), (.long x3), (.int x5)] ∧ Z.Warmed39 U.vm ∧ U.heap = h0) (fun _ _ _ _ _ => True) (fun _ U o' U' => ∃ v L, o' = .returned v ∧ Q7 Z x0 x2 x3 x5 h0 o v U'.heap L ∧ FrameEnd U o' U' L rx7.cells rx7.slots) := by
  refine MetFree.of_bodySF (plainFor_of_name pn7) hisR ?_
  intro p e s m args below meth c s₁ Bd hml0 hP hK
  obtain ⟨rfl, hZ, hh⟩ := hP
  have X0 : Stand p l e rx7 s m #[(.long x0), (.int x2), (.long x3), (.int x5)] below meth c s₁ [] 0 0 := Stand.of_body Bd
  have e0 : s₁.heap = h0 := by rw [← hh, Bd.state]; rfl
  exact OwnOut.at (ef7 m x0 x2 x3 x5) (w7_0 ⟨Bd.exec, hZ, hw, Bd.bytes, hml0, findClass_of_methodNamed Bd.named, Bd.returns, Bd.notSynchronized, (name_of_methodNamed Bd.named Bd.method).1⟩ _ x0 x2 x3 x5 o hr X0 e0  )
-- body 5 as 5: com/example/porter_drive/porterdrive/RequestQueue.siftDown:()V
theorem d5_0 : decode prog_24_method_7_code 0 = .ok (.aload_n 0, 1) := by decide +kernel
theorem d5_1 : decode prog_24_method_7_code 1 = .ok (.getfield 7, 3) := by decide +kernel
theorem d5_4 : decode prog_24_method_7_code 4 = .ok (.iconst 0, 1) := by decide +kernel
theorem d5_5 : decode prog_24_method_7_code 5 = .ok (.laload, 1) := by decide +kernel
theorem d5_6 : decode prog_24_method_7_code 6 = .ok (.lstore_n 1, 1) := by decide +kernel
theorem d5_7 : decode prog_24_method_7_code 7 = .ok (.aload_n 0, 1) := by decide +kernel
theorem d5_8 : decode prog_24_method_7_code 8 = .ok (.getfield 13, 3) := by decide +kernel
theorem d5_11 : decode prog_24_method_7_code 11 = .ok (.iconst 0, 1) := by decide +kernel
theorem d5_12 : decode prog_24_method_7_code 12 = .ok (.iaload, 1) := by decide +kernel
theorem d5_13 : decode prog_24_method_7_code 13 = .ok (.istore_n 3, 1) := by decide +kernel
theorem d5_14 : decode prog_24_method_7_code 14 = .ok (.iconst 0, 1) := by decide +kernel
theorem d5_15 : decode prog_24_method_7_code 15 = .ok (.istore 4, 2) := by decide +kernel
theorem d5_17 : decode prog_24_method_7_code 17 = .ok (.iconst 1, 1) := by decide +kernel
theorem d5_18 : decode prog_24_method_7_code 18 = .ok (.istore 5, 2) := by decide +kernel
theorem d5_20 : decode prog_24_method_7_code 20 = .ok (.iload 5, 2) := by decide +kernel
theorem d5_22 : decode prog_24_method_7_code 22 = .ok (.aload_n 0, 1) := by decide +kernel
theorem d5_23 : decode prog_24_method_7_code 23 = .ok (.getfield 17, 3) := by decide +kernel
theorem d5_26 : decode prog_24_method_7_code 26 = .ok (.if_icmp .ge 123, 3) := by decide +kernel
theorem d5_29 : decode prog_24_method_7_code 29 = .ok (.iload 5, 2) := by decide +kernel
theorem d5_31 : decode prog_24_method_7_code 31 = .ok (.iconst 1, 1) := by decide +kernel
theorem d5_32 : decode prog_24_method_7_code 32 = .ok (.iadd, 1) := by decide +kernel
theorem d5_33 : decode prog_24_method_7_code 33 = .ok (.aload_n 0, 1) := by decide +kernel
theorem d5_34 : decode prog_24_method_7_code 34 = .ok (.getfield 17, 3) := by decide +kernel
theorem d5_37 : decode prog_24_method_7_code 37 = .ok (.if_icmp .ge 44, 3) := by decide +kernel
theorem d5_40 : decode prog_24_method_7_code 40 = .ok (.aload_n 0, 1) := by decide +kernel
theorem d5_41 : decode prog_24_method_7_code 41 = .ok (.getfield 7, 3) := by decide +kernel
theorem d5_44 : decode prog_24_method_7_code 44 = .ok (.iload 5, 2) := by decide +kernel
theorem d5_46 : decode prog_24_method_7_code 46 = .ok (.iconst 1, 1) := by decide +kernel
theorem d5_47 : decode prog_24_method_7_code 47 = .ok (.iadd, 1) := by decide +kernel
theorem d5_48 : decode prog_24_method_7_code 48 = .ok (.laload, 1) := by decide +kernel
theorem d5_49 : decode prog_24_method_7_code 49 = .ok (.aload_n 0, 1) := by decide +kernel
theorem d5_50 : decode prog_24_method_7_code 50 = .ok (.getfield 13, 3) := by decide +kernel
theorem d5_53 : decode prog_24_method_7_code 53 = .ok (.iload 5, 2) := by decide +kernel
theorem d5_55 : decode prog_24_method_7_code 55 = .ok (.iconst 1, 1) := by decide +kernel
theorem d5_56 : decode prog_24_method_7_code 56 = .ok (.iadd, 1) := by decide +kernel
theorem d5_57 : decode prog_24_method_7_code 57 = .ok (.iaload, 1) := by decide +kernel
theorem d5_58 : decode prog_24_method_7_code 58 = .ok (.aload_n 0, 1) := by decide +kernel
theorem d5_59 : decode prog_24_method_7_code 59 = .ok (.getfield 7, 3) := by decide +kernel
theorem d5_62 : decode prog_24_method_7_code 62 = .ok (.iload 5, 2) := by decide +kernel
theorem d5_64 : decode prog_24_method_7_code 64 = .ok (.laload, 1) := by decide +kernel
theorem d5_65 : decode prog_24_method_7_code 65 = .ok (.aload_n 0, 1) := by decide +kernel
theorem d5_66 : decode prog_24_method_7_code 66 = .ok (.getfield 13, 3) := by decide +kernel
theorem d5_69 : decode prog_24_method_7_code 69 = .ok (.iload 5, 2) := by decide +kernel
theorem d5_71 : decode prog_24_method_7_code 71 = .ok (.iaload, 1) := by decide +kernel
theorem d5_72 : decode prog_24_method_7_code 72 = .ok (.invokestatic 24, 3) := by decide +kernel
theorem d5_75 : decode prog_24_method_7_code 75 = .ok (.ifCond .eq 6, 3) := by decide +kernel
theorem d5_78 : decode prog_24_method_7_code 78 = .ok (.iinc 5 1, 3) := by decide +kernel
theorem d5_81 : decode prog_24_method_7_code 81 = .ok (.aload_n 0, 1) := by decide +kernel
theorem d5_82 : decode prog_24_method_7_code 82 = .ok (.getfield 7, 3) := by decide +kernel
theorem d5_85 : decode prog_24_method_7_code 85 = .ok (.iload 5, 2) := by decide +kernel
theorem d5_87 : decode prog_24_method_7_code 87 = .ok (.laload, 1) := by decide +kernel
theorem d5_88 : decode prog_24_method_7_code 88 = .ok (.aload_n 0, 1) := by decide +kernel
theorem d5_89 : decode prog_24_method_7_code 89 = .ok (.getfield 13, 3) := by decide +kernel
theorem d5_92 : decode prog_24_method_7_code 92 = .ok (.iload 5, 2) := by decide +kernel
theorem d5_94 : decode prog_24_method_7_code 94 = .ok (.iaload, 1) := by decide +kernel
theorem d5_95 : decode prog_24_method_7_code 95 = .ok (.lload_n 1, 1) := by decide +kernel
theorem d5_96 : decode prog_24_method_7_code 96 = .ok (.iload_n 3, 1) := by decide +kernel
theorem d5_97 : decode prog_24_method_7_code 97 = .ok (.invokestatic 24, 3) := by decide +kernel
theorem d5_100 : decode prog_24_method_7_code 100 = .ok (.ifCond .ne 6, 3) := by decide +kernel
theorem d5_103 : decode prog_24_method_7_code 103 = .ok (.goto 46, 3) := by decide +kernel
theorem d5_106 : decode prog_24_method_7_code 106 = .ok (.aload_n 0, 1) := by decide +kernel
theorem d5_107 : decode prog_24_method_7_code 107 = .ok (.getfield 7, 3) := by decide +kernel
theorem d5_110 : decode prog_24_method_7_code 110 = .ok (.iload 4, 2) := by decide +kernel
theorem d5_112 : decode prog_24_method_7_code 112 = .ok (.aload_n 0, 1) := by decide +kernel
theorem d5_113 : decode prog_24_method_7_code 113 = .ok (.getfield 7, 3) := by decide +kernel
theorem d5_116 : decode prog_24_method_7_code 116 = .ok (.iload 5, 2) := by decide +kernel
theorem d5_118 : decode prog_24_method_7_code 118 = .ok (.laload, 1) := by decide +kernel
theorem d5_119 : decode prog_24_method_7_code 119 = .ok (.lastore, 1) := by decide +kernel
theorem d5_120 : decode prog_24_method_7_code 120 = .ok (.aload_n 0, 1) := by decide +kernel
theorem d5_121 : decode prog_24_method_7_code 121 = .ok (.getfield 13, 3) := by decide +kernel
theorem d5_124 : decode prog_24_method_7_code 124 = .ok (.iload 4, 2) := by decide +kernel
theorem d5_126 : decode prog_24_method_7_code 126 = .ok (.aload_n 0, 1) := by decide +kernel
theorem d5_127 : decode prog_24_method_7_code 127 = .ok (.getfield 13, 3) := by decide +kernel
theorem d5_130 : decode prog_24_method_7_code 130 = .ok (.iload 5, 2) := by decide +kernel
theorem d5_132 : decode prog_24_method_7_code 132 = .ok (.iaload, 1) := by decide +kernel
theorem d5_133 : decode prog_24_method_7_code 133 = .ok (.iastore, 1) := by decide +kernel
theorem d5_134 : decode prog_24_method_7_code 134 = .ok (.iload 5, 2) := by decide +kernel
theorem d5_136 : decode prog_24_method_7_code 136 = .ok (.istore 4, 2) := by decide +kernel
theorem d5_138 : decode prog_24_method_7_code 138 = .ok (.iconst 2, 1) := by decide +kernel
theorem d5_139 : decode prog_24_method_7_code 139 = .ok (.iload 4, 2) := by decide +kernel
theorem d5_141 : decode prog_24_method_7_code 141 = .ok (.imul, 1) := by decide +kernel
theorem d5_142 : decode prog_24_method_7_code 142 = .ok (.iconst 1, 1) := by decide +kernel
theorem d5_143 : decode prog_24_method_7_code 143 = .ok (.iadd, 1) := by decide +kernel
theorem d5_144 : decode prog_24_method_7_code 144 = .ok (.istore 5, 2) := by decide +kernel
theorem d5_146 : decode prog_24_method_7_code 146 = .ok (.goto (-126), 3) := by decide +kernel
theorem d5_149 : decode prog_24_method_7_code 149 = .ok (.aload_n 0, 1) := by decide +kernel
theorem d5_150 : decode prog_24_method_7_code 150 = .ok (.getfield 7, 3) := by decide +kernel
theorem d5_153 : decode prog_24_method_7_code 153 = .ok (.iload 4, 2) := by decide +kernel
theorem d5_155 : decode prog_24_method_7_code 155 = .ok (.lload_n 1, 1) := by decide +kernel
theorem d5_156 : decode prog_24_method_7_code 156 = .ok (.lastore, 1) := by decide +kernel
theorem d5_157 : decode prog_24_method_7_code 157 = .ok (.aload_n 0, 1) := by decide +kernel
theorem d5_158 : decode prog_24_method_7_code 158 = .ok (.getfield 13, 3) := by decide +kernel
theorem d5_161 : decode prog_24_method_7_code 161 = .ok (.iload 4, 2) := by decide +kernel
theorem d5_163 : decode prog_24_method_7_code 163 = .ok (.iload_n 3, 1) := by decide +kernel
theorem d5_164 : decode prog_24_method_7_code 164 = .ok (.iastore, 1) := by decide +kernel
theorem d5_165 : decode prog_24_method_7_code 165 = .ok (.return_, 1) := by decide +kernel
theorem pn5 : plainName "com/example/porter_drive/porterdrive/RequestQueue" = true := by first | (simp [plainName, overriddenIn]; done) | decide +kernel
theorem pd5 : parseMethodDescriptor "()V" = some ⟨[], none⟩ := by decide +kernel
theorem ef5 (m : MethodId) (b0 : Addr) : entryFrame m #[(.ref b0)] 6 = mkF m 0 #[.val (.ref b0), .unset, .unset, .unset, .unset, .unset] [] := by first | (simp [entryFrame, mkF, argsToLocals, Value.category]; done) | rfl
abbrev rx5 : Room := { frames := 1, cells := 0, slots := 0, locals := 17 }
abbrev Cx5 (Z : State) (a0 : Array Value) (p : Program) (s : State) (m : MethodId) (meth : Method) (c : Code) : Prop := p.tables.exec = Jvm.exec ∧ Z.Warmed39 s.vm ∧ (∀ d ∈ tables_1, d.before a0 Z = true) ∧ c.code = prog_24_method_7_code ∧ c.maxLocals = 6 ∧ s.vm.findClass "com/example/porter_drive/porterdrive/RequestQueue" = some m.cls ∧ meth.sig.returnType = none ∧ meth.locks = false ∧ meth.name = "siftDown"
def Q5 (Z : State) (b0 : Addr) (u0_size : Int32) (b1 : Addr) (l1 : List Int64) (b2 : Addr) (l2 : List Int32) (h0 : Heap) (n0 : Nat) (o : List Int64 × List Int32) (v : Option Value) (h : Heap) (L : List Loc) : Prop := v = none ∧ Fr n0 L ∧ Keep h0 h [b1, b2] ∧ Arj Z h b1 o.1 ∧ Ari Z h b2 .int o.2
def f5_149 (x1 : Int64) (x3 : Int32) (x4 : Int32) (u0_size : Int32) (l1 : List Int64) (l2 : List Int32) : Option (List Int64 × List Int32) := ((stx l1 x4 x1).bind fun l_22 => ((stx l2 x4 x3).bind fun l_24 => some (l_22, l_24)))
set_option maxRecDepth 65536 in
set_option maxHeartbeats 40000000 in
theorem w5_149 {p : Program} {l : Launch} {e : Env} {s : State} {m : MethodId} {args : Array Value} {below : List Frame} {meth : Method} {c : Code} {Z : State} {a0 : Array Value} {h0 : Heap} {n0 : Nat} (C : Cx5 Z a0 p s m meth c) :
    ∀ (T : State) (locs : List Loc) (hA : Heap) (x1 : Int64) (x3 : Int32) (x4 : Int32) (x5 : Int32) (b0 : Addr) (u0_size : Int32) (b1 : Addr) (l1 : List Int64) (b2 : Addr) (l2 : List Int32) (o : List Int64 × List Int32), f5_149 x1 x3 x4 u0_size l1 l2 = some o → Stand p l e rx5 s m args below meth c T locs 0 0 → T.heap = hA → Fr n0 locs → Old Z n0 hA → Keep h0 hA [b1, b2] → (Exa Z hA b0 "com/example/porter_drive/porterdrive/RequestQueue") → (Fld Z hA b0 "com/example/porter_drive/porterdrive/RequestQueue" "times" "[J" (.ref b1)) → (Fld Z hA b0 "com/example/porter_drive/porterdrive/RequestQueue" "clients" "[I" (.ref b2)) → (Fld Z hA b0 "com/example/porter_drive/porterdrive/RequestQueue" "size" "I" (.int u0_size)) → (Arj Z hA b1 l1) → (Ari Z hA b2 .int l2) → (n0 ≤ b0) → (n0 ≤ b1) → (n0 ≤ b2) → (b0 ≠ b1) → (b0 ≠ b2) → (b1 ≠ b2) →  OwnOut p e s below 0 0 (Q5 Z b0 u0_size b1 [] b2 [] h0 n0 o) (T.setTop (mkF m 149 #[.val (.ref b0), .val (.long x1), .second, .val (.int x3), .val (.int x4), .val (.int x5)] [])) := by
    obtain ⟨hx, hZ, hw, hby, hml, hown, hret, hlk, hnm⟩ := C
    intro T locs hA x1 x3 x4 x5 b0 u0_size b1 l1 b2 l2 o hr X0 e0 N0 O0 K0 E0 F0_times F0_clients F0_size A1 A2 g0 g1 g2 ne0_1 ne0_2 ne1_2
    rw [f5_149] at hr
    refine OwnOut.go (fun t k => XS.aloadN X0.here hx rfl (hb hby d5_149) rfl rfl k) ?_
    show OwnOut p e s below 0 0 _ (T.setTop (mkF m 150 #[.val (.ref b0), .val (.long x1), .second, .val (.int x3), .val (.int x4), .val (.int x5)] [(.ref b0)]))
    obtain ⟨T21, X21, e21, st21⟩ := getF X0 hx hZ hown (host := "") (Or.inl (hw _ (List.mem_of_getElem? (i := 11) rfl))) Via.refl e0 F0_times (g := (mkF m 150 #[.val (.ref b0), .val (.long x1), .second, .val (.int x3), .val (.int x4), .val (.int x5)] [(.ref b0)])) rfl rfl (hb hby d5_150)
    refine OwnOut.go (fun t k => st21 _ k) ?_
    show OwnOut p e s below 0 0 _ (T21.setTop (mkF m 153 #[.val (.ref b0), .val (.long x1), .second, .val (.int x3), .val (.int x4), .val (.int x5)] [(.ref b1)]))
    refine OwnOut.go (fun t k => XS.iload X21.here hx rfl (hb hby d5_153) rfl k) ?_
    show OwnOut p e s below 0 0 _ (T21.setTop (mkF m 155 #[.val (.ref b0), .val (.long x1), .second, .val (.int x3), .val (.int x4), .val (.int x5)] [(.int x4), (.ref b1)]))
    refine OwnOut.go (fun t k => XS.lloadN X21.here hx rfl (hb hby d5_155) rfl k) ?_
    show OwnOut p e s below 0 0 _ (T21.setTop (mkF m 156 #[.val (.ref b0), .val (.long x1), .second, .val (.int x3), .val (.int x4), .val (.int x5)] [(.long x1), (.int x4), (.ref b1)]))
    obtain ⟨l_22, hl22, hr⟩ := Option.bind_eq_some_iff.mp hr
    obtain ⟨T22, h22, X22, e22, W22, A_22, st22⟩ := saJ X21 hx hZ e21 A1 hl22 (g := (mkF m 156 #[.val (.ref b0), .val (.long x1), .second, .val (.int x3), .val (.int x4), .val (.int x5)] [(.long x1), (.int x4), (.ref b1)])) rfl rfl (hb hby d5_156)
    refine OwnOut.go (fun t k => st22 _ k) ?_
    have E0_22 := E0.wr W22
    have F0_times_22 := F0_times.other W22 (Or.inl ne0_1)
    have F0_clients_22 := F0_clients.other W22 (Or.inl ne0_1)
    have F0_size_22 := F0_size.other W22 (Or.inl ne0_1)
    have A2_22 := A2.other W22 (Ne.symm ne1_2)
    have N_22 := Fr.snoc X22 N0 g1
    have O_22 := O0.wr W22 g1
    have K_22 := K0.wr W22 (Or.inl (List.mem_of_getElem? (i := 0) rfl))
    show OwnOut p e s below 0 0 _ (T22.setTop (mkF m 157 #[.val (.ref b0), .val (.long x1), .second, .val (.int x3), .val (.int x4), .val (.int x5)] []))
    refine OwnOut.go (fun t k => XS.aloadN X22.here hx rfl (hb hby d5_157) rfl rfl k) ?_
    show OwnOut p e s below 0 0 _ (T22.setTop (mkF m 158 #[.val (.ref b0), .val (.long x1), .second, .val (.int x3), .val (.int x4), .val (.int x5)] [(.ref b0)]))
    obtain ⟨T23, X23, e23, st23⟩ := getF X22 hx hZ hown (host := "") (Or.inl (hw _ (List.mem_of_getElem? (i := 14) rfl))) Via.refl e22 F0_clients_22 (g := (mkF m 158 #[.val (.ref b0), .val (.long x1), .second, .val (.int x3), .val (.int x4), .val (.int x5)] [(.ref b0)])) rfl rfl (hb hby d5_158)
    refine OwnOut.go (fun t k => st23 _ k) ?_
    show OwnOut p e s below 0 0 _ (T23.setTop (mkF m 161 #[.val (.ref b0), .val (.long x1), .second, .val (.int x3), .val (.int x4), .val (.int x5)] [(.ref b2)]))
    refine OwnOut.go (fun t k => XS.iload X23.here hx rfl (hb hby d5_161) rfl k) ?_
    show OwnOut p e s below 0 0 _ (T23.setTop (mkF m 163 #[.val (.ref b0), .val (.long x1), .second, .val (.int x3), .val (.int x4), .val (.int x5)] [(.int x4), (.ref b2)]))
    refine OwnOut.go (fun t k => XS.iloadN X23.here hx rfl (hb hby d5_163) rfl k) ?_
    show OwnOut p e s below 0 0 _ (T23.setTop (mkF m 164 #[.val (.ref b0), .val (.long x1), .second, .val (.int x3), .val (.int x4), .val (.int x5)] [(.int x3), (.int x4), (.ref b2)]))
    obtain ⟨l_24, hl24, hr⟩ := Option.bind_eq_some_iff.mp hr
    obtain ⟨T24, h24, X24, e24, W24, A_24, st24⟩ := saI X23 hx hZ e23 A2_22 hl24 (g := (mkF m 164 #[.val (.ref b0), .val (.long x1), .second, .val (.int x3), .val (.int x4), .val (.int x5)] [(.int x3), (.int x4), (.ref b2)])) rfl rfl (hb hby d5_164)
    refine OwnOut.go (fun t k => st24 _ k) ?_
    have E0_24 := E0_22.wr W24
    have F0_times_24 := F0_times_22.other W24 (Or.inl ne0_2)
    have F0_clients_24 := F0_clients_22.other W24 (Or.inl ne0_2)
    have F0_size_24 := F0_size_22.other W24 (Or.inl ne0_2)
    have A1_24 := A_22.other W24 ne1_2
    have N_24 := Fr.snoc X24 N_22 g2
    have O_24 := O_22.wr W24 g2
    have K_24 := K_22.wr W24 (Or.inl (List.mem_of_getElem? (i := 1) rfl))
    show OwnOut p e s below 0 0 _ (T24.setTop (mkF m 165 #[.val (.ref b0), .val (.long x1), .second, .val (.int x3), .val (.int x4), .val (.int x5)] []))
    cases hr
    exact outV X24 hx hret (hb hby d5_165) hlk (by decide) (by decide) (by rw [e24]; exact ⟨rfl, N_24, K_24, A1_24, A_24⟩)
def f5_20 : Nat → Int64 → Int32 → Int32 → Int32 → Int32 → (List Int64) → (List Int32) → Option (List Int64 × List Int32)
  | 0, _, _, _, _, _, _, _ => none
  | n + 1, x1, x3, x4, x5, u0_size, l1, l2 => (if x5 < u0_size then (if (x5 + (1 : Int32)) < u0_size then ((ldx l1 (x5 + (1 : Int32))).bind fun v8 => ((ldx l2 (x5 + (1 : Int32))).bind fun v10 => ((ldx l1 x5).bind fun v12 => ((ldx l2 x5).bind fun v14 => ((f7 v8 v10 v12 v14).bind fun o15 => (if o15 = (0 : Int32) then ((ldx l1 x5).bind fun v17 => ((ldx l2 x5).bind fun v19 => ((f7 v17 v19 x1 x3).bind fun o20 => (if o20 = (0 : Int32) then (f5_149 x1 x3 x4 u0_size l1 l2) else ((ldx l1 x5).bind fun v27 => ((stx l1 x4 v27).bind fun l_28 => ((ldx l2 x5).bind fun v31 => ((stx l2 x4 v31).bind fun l_32 => (f5_20 n x1 x3 x5 (((2 : Int32) * x5) + (1 : Int32)) u0_size l_28 l_32))))))))) else ((ldx l1 (x5 + (1 : Int32))).bind fun v34 => ((ldx l2 (x5 + (1 : Int32))).bind fun v36 => ((f7 v34 v36 x1 x3).bind fun o37 => (if o37 = (0 : Int32) then (f5_149 x1 x3 x4 u0_size l1 l2) else ((ldx l1 (x5 + (1 : Int32))).bind fun v40 => ((stx l1 x4 v40).bind fun l_41 => ((ldx l2 (x5 + (1 : Int32))).bind fun v44 => ((stx l2 x4 v44).bind fun l_45 => (f5_20 n x1 x3 (x5 + (1 : Int32)) (((2 : Int32) * (x5 + (1 : Int32))) + (1 : Int32)) u0_size l_41 l_45))))))))))))))) else ((ldx l1 x5).bind fun v47 => ((ldx l2 x5).bind fun v49 => ((f7 v47 v49 x1 x3).bind fun o50 => (if o50 = (0 : Int32) then (f5_149 x1 x3 x4 u0_size l1 l2) else ((ldx l1 x5).bind fun v53 => ((stx l1 x4 v53).bind fun l_54 => ((ldx l2 x5).bind fun v57 => ((stx l2 x4 v57).bind fun l_58 => (f5_20 n x1 x3 x5 (((2 : Int32) * x5) + (1 : Int32)) u0_size l_54 l_58)))))))))) else (f5_149 x1 x3 x4 u0_size l1 l2))
set_option maxRecDepth 65536 in
set_option maxHeartbeats 40000000 in
theorem w5_20 {p : Program} {l : Launch} {e : Env} {s : State} {m : MethodId} {args : Array Value} {below : List Frame} {meth : Method} {c : Code} {Z : State} {a0 : Array Value} {h0 : Heap} {n0 : Nat} (C : Cx5 Z a0 p s m meth c) (n : Nat) :
    ∀ (T : State) (locs : List Loc) (hA : Heap) (x1 : Int64) (x3 : Int32) (x4 : Int32) (x5 : Int32) (b0 : Addr) (u0_size : Int32) (b1 : Addr) (l1 : List Int64) (b2 : Addr) (l2 : List Int32) (o : List Int64 × List Int32), f5_20 n x1 x3 x4 x5 u0_size l1 l2 = some o → Stand p l e rx5 s m args below meth c T locs 0 0 → T.heap = hA → Fr n0 locs → Old Z n0 hA → Keep h0 hA [b1, b2] → (Exa Z hA b0 "com/example/porter_drive/porterdrive/RequestQueue") → (Fld Z hA b0 "com/example/porter_drive/porterdrive/RequestQueue" "times" "[J" (.ref b1)) → (Fld Z hA b0 "com/example/porter_drive/porterdrive/RequestQueue" "clients" "[I" (.ref b2)) → (Fld Z hA b0 "com/example/porter_drive/porterdrive/RequestQueue" "size" "I" (.int u0_size)) → (Arj Z hA b1 l1) → (Ari Z hA b2 .int l2) → (n0 ≤ b0) → (n0 ≤ b1) → (n0 ≤ b2) → (b0 ≠ b1) → (b0 ≠ b2) → (b1 ≠ b2) →  OwnOut p e s below 0 0 (Q5 Z b0 u0_size b1 [] b2 [] h0 n0 o) (T.setTop (mkF m 20 #[.val (.ref b0), .val (.long x1), .second, .val (.int x3), .val (.int x4), .val (.int x5)] [])) := by
  obtain ⟨hx, hZ, hw, hby, hml, hown, hret, hlk, hnm⟩ := C
  induction n with
  | zero => intro T locs hA x1 x3 x4 x5 b0 u0_size b1 l1 b2 l2 o hr X0 e0 N0 O0 K0 E0 F0_times F0_clients F0_size A1 A2 g0 g1 g2 ne0_1 ne0_2 ne1_2; rw [f5_20] at hr; cases hr
  | succ n ih =>
    intro T locs hA x1 x3 x4 x5 b0 u0_size b1 l1 b2 l2 o hr X0 e0 N0 O0 K0 E0 F0_times F0_clients F0_size A1 A2 g0 g1 g2 ne0_1 ne0_2 ne1_2
    rw [f5_20] at hr
    refine OwnOut.go (fun t k => XS.iload X0.here hx rfl (hb hby d5_20) rfl k) ?_
    show OwnOut p e s below 0 0 _ (T.setTop (mkF m 22 #[.val (.ref b0), .val (.long x1), .second, .val (.int x3), .val (.int x4), .val (.int x5)] [(.int x5)]))
    refine OwnOut.go (fun t k => XS.aloadN X0.here hx rfl (hb hby d5_22) rfl rfl k) ?_
    show OwnOut p e s below 0 0 _ (T.setTop (mkF m 23 #[.val (.ref b0), .val (.long x1), .second, .val (.int x3), .val (.int x4), .val (.int x5)] [(.ref b0), (.int x5)]))
    obtain ⟨T5, X5, e5, st5⟩ := getF X0 hx hZ hown (host := "") (Or.inl (hw _ (List.mem_of_getElem? (i := 16) rfl))) Via.refl e0 F0_size (g := (mkF m 23 #[.val (.ref b0), .val (.long x1), .second, .val (.int x3), .val (.int x4), .val (.int x5)] [(.ref b0), (.int x5)])) rfl rfl (hb hby d5_23)
    refine OwnOut.go (fun t k => st5 _ k) ?_
    show OwnOut p e s below 0 0 _ (T5.setTop (mkF m 26 #[.val (.ref b0), .val (.long x1), .second, .val (.int x3), .val (.int x4), .val (.int x5)] [(.int u0_size), (.int x5)]))
    by_cases hc26 : x5 < u0_size
    · rw [if_pos hc26] at hr
      refine OwnOut.go (fun t k => XS.icmpNo X5.here hx rfl (hb hby d5_26) rfl (XT.ii_ge_f hc26) k) ?_
      show OwnOut p e s below 0 0 _ (T5.setTop (mkF m 29 #[.val (.ref b0), .val (.long x1), .second, .val (.int x3), .val (.int x4), .val (.int x5)] []))
      refine OwnOut.go (fun t k => XS.iload X5.here hx rfl (hb hby d5_29) rfl k) ?_
      show OwnOut p e s below 0 0 _ (T5.setTop (mkF m 31 #[.val (.ref b0), .val (.long x1), .second, .val (.int x3), .val (.int x4), .val (.int x5)] [(.int x5)]))
      refine OwnOut.go (fun t k => XT.iconstV X5.here hx rfl (1 : Int32) (hb hby d5_31) rfl k) ?_
      show OwnOut p e s below 0 0 _ (T5.setTop (mkF m 32 #[.val (.ref b0), .val (.long x1), .second, .val (.int x3), .val (.int x4), .val (.int x5)] [(.int (1 : Int32)), (.int x5)]))
      refine OwnOut.go (fun t k => XS.iadd X5.here hx rfl (hb hby d5_32) rfl k) ?_
      show OwnOut p e s below 0 0 _ (T5.setTop (mkF m 33 #[.val (.ref b0), .val (.long x1), .second, .val (.int x3), .val (.int x4), .val (.int x5)] [(.int (x5 + (1 : Int32)))]))
      refine OwnOut.go (fun t k => XS.aloadN X5.here hx rfl (hb hby d5_33) rfl rfl k) ?_
      show OwnOut p e s below 0 0 _ (T5.setTop (mkF m 34 #[.val (.ref b0), .val (.long x1), .second, .val (.int x3), .val (.int x4), .val (.int x5)] [(.ref b0), (.int (x5 + (1 : Int32)))]))
      obtain ⟨T6, X6, e6, st6⟩ := getF X5 hx hZ hown (host := "") (Or.inl (hw _ (List.mem_of_getElem? (i := 16) rfl))) Via.refl e5 F0_size (g := (mkF m 34 #[.val (.ref b0), .val (.long x1), .second, .val (.int x3), .val (.int x4), .val (.int x5)] [(.ref b0), (.int (x5 + (1 : Int32)))])) rfl rfl (hb hby d5_34)
      refine OwnOut.go (fun t k => st6 _ k) ?_
      show OwnOut p e s below 0 0 _ (T6.setTop (mkF m 37 #[.val (.ref b0), .val (.long x1), .second, .val (.int x3), .val (.int x4), .val (.int x5)] [(.int u0_size), (.int (x5 + (1 : Int32)))]))
      by_cases hc37 : (x5 + (1 : Int32)) < u0_size
      · rw [if_pos hc37] at hr
        refine OwnOut.go (fun t k => XS.icmpNo X6.here hx rfl (hb hby d5_37) rfl (XT.ii_ge_f hc37) k) ?_
        show OwnOut p e s below 0 0 _ (T6.setTop (mkF m 40 #[.val (.ref b0), .val (.long x1), .second, .val (.int x3), .val (.int x4), .val (.int x5)] []))
        refine OwnOut.go (fun t k => XS.aloadN X6.here hx rfl (hb hby d5_40) rfl rfl k) ?_
        show OwnOut p e s below 0 0 _ (T6.setTop (mkF m 41 #[.val (.ref b0), .val (.long x1), .second, .val (.int x3), .val (.int x4), .val (.int x5)] [(.ref b0)]))
        obtain ⟨T7, X7, e7, st7⟩ := getF X6 hx hZ hown (host := "") (Or.inl (hw _ (List.mem_of_getElem? (i := 11) rfl))) Via.refl e6 F0_times (g := (mkF m 41 #[.val (.ref b0), .val (.long x1), .second, .val (.int x3), .val (.int x4), .val (.int x5)] [(.ref b0)])) rfl rfl (hb hby d5_41)
        refine OwnOut.go (fun t k => st7 _ k) ?_
        show OwnOut p e s below 0 0 _ (T7.setTop (mkF m 44 #[.val (.ref b0), .val (.long x1), .second, .val (.int x3), .val (.int x4), .val (.int x5)] [(.ref b1)]))
        refine OwnOut.go (fun t k => XS.iload X7.here hx rfl (hb hby d5_44) rfl k) ?_
        show OwnOut p e s below 0 0 _ (T7.setTop (mkF m 46 #[.val (.ref b0), .val (.long x1), .second, .val (.int x3), .val (.int x4), .val (.int x5)] [(.int x5), (.ref b1)]))
        refine OwnOut.go (fun t k => XT.iconstV X7.here hx rfl (1 : Int32) (hb hby d5_46) rfl k) ?_
        show OwnOut p e s below 0 0 _ (T7.setTop (mkF m 47 #[.val (.ref b0), .val (.long x1), .second, .val (.int x3), .val (.int x4), .val (.int x5)] [(.int (1 : Int32)), (.int x5), (.ref b1)]))
        refine OwnOut.go (fun t k => XS.iadd X7.here hx rfl (hb hby d5_47) rfl k) ?_
        show OwnOut p e s below 0 0 _ (T7.setTop (mkF m 48 #[.val (.ref b0), .val (.long x1), .second, .val (.int x3), .val (.int x4), .val (.int x5)] [(.int (x5 + (1 : Int32))), (.ref b1)]))
        obtain ⟨v8, hv8, hr⟩ := Option.bind_eq_some_iff.mp hr
        refine OwnOut.go (fun t k => ldJ X7 hx hZ e7 A1 hv8 (g := (mkF m 48 #[.val (.ref b0), .val (.long x1), .second, .val (.int x3), .val (.int x4), .val (.int x5)] [(.int (x5 + (1 : Int32))), (.ref b1)])) rfl rfl (hb hby d5_48) t k) ?_
        show OwnOut p e s below 0 0 _ (T7.setTop (mkF m 49 #[.val (.ref b0), .val (.long x1), .second, .val (.int x3), .val (.int x4), .val (.int x5)] [(.long v8)]))
        refine OwnOut.go (fun t k => XS.aloadN X7.here hx rfl (hb hby d5_49) rfl rfl k) ?_
        show OwnOut p e s below 0 0 _ (T7.setTop (mkF m 50 #[.val (.ref b0), .val (.long x1), .second, .val (.int x3), .val (.int x4), .val (.int x5)] [(.ref b0), (.long v8)]))
        obtain ⟨T9, X9, e9, st9⟩ := getF X7 hx hZ hown (host := "") (Or.inl (hw _ (List.mem_of_getElem? (i := 14) rfl))) Via.refl e7 F0_clients (g := (mkF m 50 #[.val (.ref b0), .val (.long x1), .second, .val (.int x3), .val (.int x4), .val (.int x5)] [(.ref b0), (.long v8)])) rfl rfl (hb hby d5_50)
        refine OwnOut.go (fun t k => st9 _ k) ?_
        show OwnOut p e s below 0 0 _ (T9.setTop (mkF m 53 #[.val (.ref b0), .val (.long x1), .second, .val (.int x3), .val (.int x4), .val (.int x5)] [(.ref b2), (.long v8)]))
        refine OwnOut.go (fun t k => XS.iload X9.here hx rfl (hb hby d5_53) rfl k) ?_
        show OwnOut p e s below 0 0 _ (T9.setTop (mkF m 55 #[.val (.ref b0), .val (.long x1), .second, .val (.int x3), .val (.int x4), .val (.int x5)] [(.int x5), (.ref b2), (.long v8)]))
        refine OwnOut.go (fun t k => XT.iconstV X9.here hx rfl (1 : Int32) (hb hby d5_55) rfl k) ?_
        show OwnOut p e s below 0 0 _ (T9.setTop (mkF m 56 #[.val (.ref b0), .val (.long x1), .second, .val (.int x3), .val (.int x4), .val (.int x5)] [(.int (1 : Int32)), (.int x5), (.ref b2), (.long v8)]))
        refine OwnOut.go (fun t k => XS.iadd X9.here hx rfl (hb hby d5_56) rfl k) ?_
        show OwnOut p e s below 0 0 _ (T9.setTop (mkF m 57 #[.val (.ref b0), .val (.long x1), .second, .val (.int x3), .val (.int x4), .val (.int x5)] [(.int (x5 + (1 : Int32))), (.ref b2), (.long v8)]))
        obtain ⟨v10, hv10, hr⟩ := Option.bind_eq_some_iff.mp hr
        refine OwnOut.go (fun t k => ldI X9 hx hZ e9 A2 hv10 (g := (mkF m 57 #[.val (.ref b0), .val (.long x1), .second, .val (.int x3), .val (.int x4), .val (.int x5)] [(.int (x5 + (1 : Int32))), (.ref b2), (.long v8)])) rfl rfl (hb hby d5_57) t k) ?_
        show OwnOut p e s below 0 0 _ (T9.setTop (mkF m 58 #[.val (.ref b0), .val (.long x1), .second, .val (.int x3), .val (.int x4), .val (.int x5)] [(.int v10), (.long v8)]))
        refine OwnOut.go (fun t k => XS.aloadN X9.here hx rfl (hb hby d5_58) rfl rfl k) ?_
        show OwnOut p e s below 0 0 _ (T9.setTop (mkF m 59 #[.val (.ref b0), .val (.long x1), .second, .val (.int x3), .val (.int x4), .val (.int x5)] [(.ref b0), (.int v10), (.long v8)]))
        obtain ⟨T11, X11, e11, st11⟩ := getF X9 hx hZ hown (host := "") (Or.inl (hw _ (List.mem_of_getElem? (i := 11) rfl))) Via.refl e9 F0_times (g := (mkF m 59 #[.val (.ref b0), .val (.long x1), .second, .val (.int x3), .val (.int x4), .val (.int x5)] [(.ref b0), (.int v10), (.long v8)])) rfl rfl (hb hby d5_59)
        refine OwnOut.go (fun t k => st11 _ k) ?_
        show OwnOut p e s below 0 0 _ (T11.setTop (mkF m 62 #[.val (.ref b0), .val (.long x1), .second, .val (.int x3), .val (.int x4), .val (.int x5)] [(.ref b1), (.int v10), (.long v8)]))
        refine OwnOut.go (fun t k => XS.iload X11.here hx rfl (hb hby d5_62) rfl k) ?_
        show OwnOut p e s below 0 0 _ (T11.setTop (mkF m 64 #[.val (.ref b0), .val (.long x1), .second, .val (.int x3), .val (.int x4), .val (.int x5)] [(.int x5), (.ref b1), (.int v10), (.long v8)]))
        obtain ⟨v12, hv12, hr⟩ := Option.bind_eq_some_iff.mp hr
        refine OwnOut.go (fun t k => ldJ X11 hx hZ e11 A1 hv12 (g := (mkF m 64 #[.val (.ref b0), .val (.long x1), .second, .val (.int x3), .val (.int x4), .val (.int x5)] [(.int x5), (.ref b1), (.int v10), (.long v8)])) rfl rfl (hb hby d5_64) t k) ?_
        show OwnOut p e s below 0 0 _ (T11.setTop (mkF m 65 #[.val (.ref b0), .val (.long x1), .second, .val (.int x3), .val (.int x4), .val (.int x5)] [(.long v12), (.int v10), (.long v8)]))
        refine OwnOut.go (fun t k => XS.aloadN X11.here hx rfl (hb hby d5_65) rfl rfl k) ?_
        show OwnOut p e s below 0 0 _ (T11.setTop (mkF m 66 #[.val (.ref b0), .val (.long x1), .second, .val (.int x3), .val (.int x4), .val (.int x5)] [(.ref b0), (.long v12), (.int v10), (.long v8)]))
        obtain ⟨T13, X13, e13, st13⟩ := getF X11 hx hZ hown (host := "") (Or.inl (hw _ (List.mem_of_getElem? (i := 14) rfl))) Via.refl e11 F0_clients (g := (mkF m 66 #[.val (.ref b0), .val (.long x1), .second, .val (.int x3), .val (.int x4), .val (.int x5)] [(.ref b0), (.long v12), (.int v10), (.long v8)])) rfl rfl (hb hby d5_66)
        refine OwnOut.go (fun t k => st13 _ k) ?_
        show OwnOut p e s below 0 0 _ (T13.setTop (mkF m 69 #[.val (.ref b0), .val (.long x1), .second, .val (.int x3), .val (.int x4), .val (.int x5)] [(.ref b2), (.long v12), (.int v10), (.long v8)]))
        refine OwnOut.go (fun t k => XS.iload X13.here hx rfl (hb hby d5_69) rfl k) ?_
        show OwnOut p e s below 0 0 _ (T13.setTop (mkF m 71 #[.val (.ref b0), .val (.long x1), .second, .val (.int x3), .val (.int x4), .val (.int x5)] [(.int x5), (.ref b2), (.long v12), (.int v10), (.long v8)]))
        obtain ⟨v14, hv14, hr⟩ := Option.bind_eq_some_iff.mp hr
        refine OwnOut.go (fun t k => ldI X13 hx hZ e13 A2 hv14 (g := (mkF m 71 #[.val (.ref b0), .val (.long x1), .second, .val (.int x3), .val (.int x4), .val (.int x5)] [(.int x5), (.ref b2), (.long v12), (.int v10), (.long v8)])) rfl rfl (hb hby d5_71) t k) ?_
        show OwnOut p e s below 0 0 _ (T13.setTop (mkF m 72 #[.val (.ref b0), .val (.long x1), .second, .val (.int x3), .val (.int x4), .val (.int x5)] [(.int v14), (.long v12), (.int v10), (.long v8)]))
        obtain ⟨o15, ho15, hr⟩ := Option.bind_eq_some_iff.mp hr
        obtain ⟨r15, T15, L15, X15', hQ15, st15⟩ := callQ (W := 0) (rm := rx7) X13 hx hZ (y := (⟨"com/example/porter_drive/porterdrive/RequestQueue", "isBefore", "(JIJI)Z"⟩ : MethodName)) hown (hw _ (List.mem_of_getElem? (i := 38) rfl)) (hw _ (List.mem_of_getElem? (i := 39) rfl)) (hw _ (List.mem_of_getElem? (i := 3) rfl)) (hw _ (List.mem_of_getElem? (i := 40) rfl)) (by decide) (rm7 l Z a0 hw [] v8 v10 v12 v14 hA o15 ho15 ) (by decide) (by decide) (by decide) (by decide) e13 (g := (mkF m 72 #[.val (.ref b0), .val (.long x1), .second, .val (.int x3), .val (.int x4), .val (.int x5)] [(.int v14), (.long v12), (.int v10), (.long v8)])) rfl (by rw [hml]; rfl) (argsL := [(.long v8), (.int v10), (.long v12), (.int v14)]) (rest := []) (lenOf pd7 rfl) rfl (by show 2 * 0 + _ ≤ _; exact Nat.le_of_eq rfl) (hb hby d5_72)
        obtain ⟨rfl, e15, rfl⟩ := hQ15
        rw [List.append_nil] at X15'
        have X15 : Stand p l e rx5 s m args below meth c T15 _ 0 0 := X15'
        refine OwnOut.go (fun t k => st15 _ k) ?_
        show OwnOut p e s below 0 0 _ (T15.setTop (mkF m 75 #[.val (.ref b0), .val (.long x1), .second, .val (.int x3), .val (.int x4), .val (.int x5)] [(.int o15)]))
        by_cases hc75 : o15 = (0 : Int32)
        · rw [if_pos hc75] at hr
          refine OwnOut.go (fun t k => XS.ifYes X15.here hx rfl (pc0 := 75) (pc' := 81) rfl (hb hby d5_75) rfl (XT.i0_eq_t hc75) (by decide) (by decide) k) ?_
          show OwnOut p e s below 0 0 _ (T15.setTop (mkF m 81 #[.val (.ref b0), .val (.long x1), .second, .val (.int x3), .val (.int x4), .val (.int x5)] []))
          refine OwnOut.go (fun t k => XS.aloadN X15.here hx rfl (hb hby d5_81) rfl rfl k) ?_
          show OwnOut p e s below 0 0 _ (T15.setTop (mkF m 82 #[.val (.ref b0), .val (.long x1), .second, .val (.int x3), .val (.int x4), .val (.int x5)] [(.ref b0)]))
          obtain ⟨T16, X16, e16, st16⟩ := getF X15 hx hZ hown (host := "") (Or.inl (hw _ (List.mem_of_getElem? (i := 11) rfl))) Via.refl e15 F0_times (g := (mkF m 82 #[.val (.ref b0), .val (.long x1), .second, .val (.int x3), .val (.int x4), .val (.int x5)] [(.ref b0)])) rfl rfl (hb hby d5_82)
          refine OwnOut.go (fun t k => st16 _ k) ?_
          show OwnOut p e s below 0 0 _ (T16.setTop (mkF m 85 #[.val (.ref b0), .val (.long x1), .second, .val (.int x3), .val (.int x4), .val (.int x5)] [(.ref b1)]))
          refine OwnOut.go (fun t k => XS.iload X16.here hx rfl (hb hby d5_85) rfl k) ?_
          show OwnOut p e s below 0 0 _ (T16.setTop (mkF m 87 #[.val (.ref b0), .val (.long x1), .second, .val (.int x3), .val (.int x4), .val (.int x5)] [(.int x5), (.ref b1)]))
          obtain ⟨v17, hv17, hr⟩ := Option.bind_eq_some_iff.mp hr
          refine OwnOut.go (fun t k => ldJ X16 hx hZ e16 A1 hv17 (g := (mkF m 87 #[.val (.ref b0), .val (.long x1), .second, .val (.int x3), .val (.int x4), .val (.int x5)] [(.int x5), (.ref b1)])) rfl rfl (hb hby d5_87) t k) ?_
          show OwnOut p e s below 0 0 _ (T16.setTop (mkF m 88 #[.val (.ref b0), .val (.long x1), .second, .val (.int x3), .val (.int x4), .val (.int x5)] [(.long v17)]))
          refine OwnOut.go (fun t k => XS.aloadN X16.here hx rfl (hb hby d5_88) rfl rfl k) ?_
          show OwnOut p e s below 0 0 _ (T16.setTop (mkF m 89 #[.val (.ref b0), .val (.long x1), .second, .val (.int x3), .val (.int x4), .val (.int x5)] [(.ref b0), (.long v17)]))
          obtain ⟨T18, X18, e18, st18⟩ := getF X16 hx hZ hown (host := "") (Or.inl (hw _ (List.mem_of_getElem? (i := 14) rfl))) Via.refl e16 F0_clients (g := (mkF m 89 #[.val (.ref b0), .val (.long x1), .second, .val (.int x3), .val (.int x4), .val (.int x5)] [(.ref b0), (.long v17)])) rfl rfl (hb hby d5_89)
          refine OwnOut.go (fun t k => st18 _ k) ?_
          show OwnOut p e s below 0 0 _ (T18.setTop (mkF m 92 #[.val (.ref b0), .val (.long x1), .second, .val (.int x3), .val (.int x4), .val (.int x5)] [(.ref b2), (.long v17)]))
          refine OwnOut.go (fun t k => XS.iload X18.here hx rfl (hb hby d5_92) rfl k) ?_
          show OwnOut p e s below 0 0 _ (T18.setTop (mkF m 94 #[.val (.ref b0), .val (.long x1), .second, .val (.int x3), .val (.int x4), .val (.int x5)] [(.int x5), (.ref b2), (.long v17)]))
          obtain ⟨v19, hv19, hr⟩ := Option.bind_eq_some_iff.mp hr
          refine OwnOut.go (fun t k => ldI X18 hx hZ e18 A2 hv19 (g := (mkF m 94 #[.val (.ref b0), .val (.long x1), .second, .val (.int x3), .val (.int x4), .val (.int x5)] [(.int x5), (.ref b2), (.long v17)])) rfl rfl (hb hby d5_94) t k) ?_
          show OwnOut p e s below 0 0 _ (T18.setTop (mkF m 95 #[.val (.ref b0), .val (.long x1), .second, .val (.int x3), .val (.int x4), .val (.int x5)] [(.int v19), (.long v17)]))
          refine OwnOut.go (fun t k => XS.lloadN X18.here hx rfl (hb hby d5_95) rfl k) ?_
          show OwnOut p e s below 0 0 _ (T18.setTop (mkF m 96 #[.val (.ref b0), .val (.long x1), .second, .val (.int x3), .val (.int x4), .val (.int x5)] [(.long x1), (.int v19), (.long v17)]))
          refine OwnOut.go (fun t k => XS.iloadN X18.here hx rfl (hb hby d5_96) rfl k) ?_
          show OwnOut p e s below 0 0 _ (T18.setTop (mkF m 97 #[.val (.ref b0), .val (.long x1), .second, .val (.int x3), .val (.int x4), .val (.int x5)] [(.int x3), (.long x1), (.int v19), (.long v17)]))
          obtain ⟨o20, ho20, hr⟩ := Option.bind_eq_some_iff.mp hr
          obtain ⟨r20, T20, L20, X20', hQ20, st20⟩ := callQ (W := 0) (rm := rx7) X18 hx hZ (y := (⟨"com/example/porter_drive/porterdrive/RequestQueue", "isBefore", "(JIJI)Z"⟩ : MethodName)) hown (hw _ (List.mem_of_getElem? (i := 38) rfl)) (hw _ (List.mem_of_getElem? (i := 39) rfl)) (hw _ (List.mem_of_getElem? (i := 3) rfl)) (hw _ (List.mem_of_getElem? (i := 40) rfl)) (by decide) (rm7 l Z a0 hw [] v17 v19 x1 x3 hA o20 ho20 ) (by decide) (by decide) (by decide) (by decide) e18 (g := (mkF m 97 #[.val (.ref b0), .val (.long x1), .second, .val (.int x3), .val (.int x4), .val (.int x5)] [(.int x3), (.long x1), (.int v19), (.long v17)])) rfl (by rw [hml]; rfl) (argsL := [(.long v17), (.int v19), (.long x1), (.int x3)]) (rest := []) (lenOf pd7 rfl) rfl (by show 2 * 0 + _ ≤ _; exact Nat.le_of_eq rfl) (hb hby d5_97)
          obtain ⟨rfl, e20, rfl⟩ := hQ20
          rw [List.append_nil] at X20'
          have X20 : Stand p l e rx5 s m args below meth c T20 _ 0 0 := X20'
          refine OwnOut.go (fun t k => st20 _ k) ?_
          show OwnOut p e s below 0 0 _ (T20.setTop (mkF m 100 #[.val (.ref b0), .val (.long x1), .second, .val (.int x3), .val (.int x4), .val (.int x5)] [(.int o20)]))
          by_cases hc100 : o20 = (0 : Int32)
          · rw [if_pos hc100] at hr
            refine OwnOut.go (fun t k => XS.ifNo X20.here hx rfl (hb hby d5_100) rfl (XT.i0_ne_f hc100) k) ?_
            show OwnOut p e s below 0 0 _ (T20.setTop (mkF m 103 #[.val (.ref b0), .val (.long x1), .second, .val (.int x3), .val (.int x4), .val (.int x5)] []))
            refine OwnOut.go (fun t k => XS.goto X20.here hx rfl (pc0 := 103) (pc' := 149) rfl (hb hby d5_103) (by decide) (by decide) k) ?_
            show OwnOut p e s below 0 0 _ (T20.setTop (mkF m 149 #[.val (.ref b0), .val (.long x1), .second, .val (.int x3), .val (.int x4), .val (.int x5)] []))
            exact w5_149 ⟨hx, hZ, hw, hby, hml, hown, hret, hlk, hnm⟩  _ _ _ x1 x3 x4 x5 b0 u0_size b1 l1 b2 l2 _ hr X20 e20 N0 O0 K0 E0 F0_times F0_clients F0_size A1 A2 g0 g1 g2 ne0_1 ne0_2 ne1_2
          · rw [if_neg hc100] at hr
            refine OwnOut.go (fun t k => XS.ifYes X20.here hx rfl (pc0 := 100) (pc' := 106) rfl (hb hby d5_100) rfl (XT.i0_ne_t hc100) (by decide) (by decide) k) ?_
            show OwnOut p e s below 0 0 _ (T20.setTop (mkF m 106 #[.val (.ref b0), .val (.long x1), .second, .val (.int x3), .val (.int x4), .val (.int x5)] []))
            refine OwnOut.go (fun t k => XS.aloadN X20.here hx rfl (hb hby d5_106) rfl rfl k) ?_
            show OwnOut p e s below 0 0 _ (T20.setTop (mkF m 107 #[.val (.ref b0), .val (.long x1), .second, .val (.int x3), .val (.int x4), .val (.int x5)] [(.ref b0)]))
            obtain ⟨T25, X25, e25, st25⟩ := getF X20 hx hZ hown (host := "") (Or.inl (hw _ (List.mem_of_getElem? (i := 11) rfl))) Via.refl e20 F0_times (g := (mkF m 107 #[.val (.ref b0), .val (.long x1), .second, .val (.int x3), .val (.int x4), .val (.int x5)] [(.ref b0)])) rfl rfl (hb hby d5_107)
            refine OwnOut.go (fun t k => st25 _ k) ?_
            show OwnOut p e s below 0 0 _ (T25.setTop (mkF m 110 #[.val (.ref b0), .val (.long x1), .second, .val (.int x3), .val (.int x4), .val (.int x5)] [(.ref b1)]))
            refine OwnOut.go (fun t k => XS.iload X25.here hx rfl (hb hby d5_110) rfl k) ?_
            show OwnOut p e s below 0 0 _ (T25.setTop (mkF m 112 #[.val (.ref b0), .val (.long x1), .second, .val (.int x3), .val (.int x4), .val (.int x5)] [(.int x4), (.ref b1)]))
            refine OwnOut.go (fun t k => XS.aloadN X25.here hx rfl (hb hby d5_112) rfl rfl k) ?_
            show OwnOut p e s below 0 0 _ (T25.setTop (mkF m 113 #[.val (.ref b0), .val (.long x1), .second, .val (.int x3), .val (.int x4), .val (.int x5)] [(.ref b0), (.int x4), (.ref b1)]))
            obtain ⟨T26, X26, e26, st26⟩ := getF X25 hx hZ hown (host := "") (Or.inl (hw _ (List.mem_of_getElem? (i := 11) rfl))) Via.refl e25 F0_times (g := (mkF m 113 #[.val (.ref b0), .val (.long x1), .second, .val (.int x3), .val (.int x4), .val (.int x5)] [(.ref b0), (.int x4), (.ref b1)])) rfl rfl (hb hby d5_113)
            refine OwnOut.go (fun t k => st26 _ k) ?_
            show OwnOut p e s below 0 0 _ (T26.setTop (mkF m 116 #[.val (.ref b0), .val (.long x1), .second, .val (.int x3), .val (.int x4), .val (.int x5)] [(.ref b1), (.int x4), (.ref b1)]))
            refine OwnOut.go (fun t k => XS.iload X26.here hx rfl (hb hby d5_116) rfl k) ?_
            show OwnOut p e s below 0 0 _ (T26.setTop (mkF m 118 #[.val (.ref b0), .val (.long x1), .second, .val (.int x3), .val (.int x4), .val (.int x5)] [(.int x5), (.ref b1), (.int x4), (.ref b1)]))
            obtain ⟨v27, hv27, hr⟩ := Option.bind_eq_some_iff.mp hr
            refine OwnOut.go (fun t k => ldJ X26 hx hZ e26 A1 hv27 (g := (mkF m 118 #[.val (.ref b0), .val (.long x1), .second, .val (.int x3), .val (.int x4), .val (.int x5)] [(.int x5), (.ref b1), (.int x4), (.ref b1)])) rfl rfl (hb hby d5_118) t k) ?_
            show OwnOut p e s below 0 0 _ (T26.setTop (mkF m 119 #[.val (.ref b0), .val (.long x1), .second, .val (.int x3), .val (.int x4), .val (.int x5)] [(.long v27), (.int x4), (.ref b1)]))
            obtain ⟨l_28, hl28, hr⟩ := Option.bind_eq_some_iff.mp hr
            obtain ⟨T28, h28, X28, e28, W28, A_28, st28⟩ := saJ X26 hx hZ e26 A1 hl28 (g := (mkF m 119 #[.val (.ref b0), .val (.long x1), .second, .val (.int x3), .val (.int x4), .val (.int x5)] [(.long v27), (.int x4), (.ref b1)])) rfl rfl (hb hby d5_119)
            refine OwnOut.go (fun t k => st28 _ k) ?_
            have E0_28 := E0.wr W28
            have F0_times_28 := F0_times.other W28 (Or.inl ne0_1)
            have F0_clients_28 := F0_clients.other W28 (Or.inl ne0_1)
            have F0_size_28 := F0_size.other W28 (Or.inl ne0_1)
            have A2_28 := A2.other W28 (Ne.symm ne1_2)
            have N_28 := Fr.snoc X28 N0 g1
            have O_28 := O0.wr W28 g1
            have K_28 := K0.wr W28 (Or.inl (List.mem_of_getElem? (i := 0) rfl))
            show OwnOut p e s below 0 0 _ (T28.setTop (mkF m 120 #[.val (.ref b0), .val (.long x1), .second, .val (.int x3), .val (.int x4), .val (.int x5)] []))
            refine OwnOut.go (fun t k => XS.aloadN X28.here hx rfl (hb hby d5_120) rfl rfl k) ?_
            show OwnOut p e s below 0 0 _ (T28.setTop (mkF m 121 #[.val (.ref b0), .val (.long x1), .second, .val (.int x3), .val (.int x4), .val (.int x5)] [(.ref b0)]))
            obtain ⟨T29, X29, e29, st29⟩ := getF X28 hx hZ hown (host := "") (Or.inl (hw _ (List.mem_of_getElem? (i := 14) rfl))) Via.refl e28 F0_clients_28 (g := (mkF m 121 #[.val (.ref b0), .val (.long x1), .second, .val (.int x3), .val (.int x4), .val (.int x5)] [(.ref b0)])) rfl rfl (hb hby d5_121)
            refine OwnOut.go (fun t k => st29 _ k) ?_
            show OwnOut p e s below 0 0 _ (T29.setTop (mkF m 124 #[.val (.ref b0), .val (.long x1), .second, .val (.int x3), .val (.int x4), .val (.int x5)] [(.ref b2)]))
            refine OwnOut.go (fun t k => XS.iload X29.here hx rfl (hb hby d5_124) rfl k) ?_
            show OwnOut p e s below 0 0 _ (T29.setTop (mkF m 126 #[.val (.ref b0), .val (.long x1), .second, .val (.int x3), .val (.int x4), .val (.int x5)] [(.int x4), (.ref b2)]))
            refine OwnOut.go (fun t k => XS.aloadN X29.here hx rfl (hb hby d5_126) rfl rfl k) ?_
            show OwnOut p e s below 0 0 _ (T29.setTop (mkF m 127 #[.val (.ref b0), .val (.long x1), .second, .val (.int x3), .val (.int x4), .val (.int x5)] [(.ref b0), (.int x4), (.ref b2)]))
            obtain ⟨T30, X30, e30, st30⟩ := getF X29 hx hZ hown (host := "") (Or.inl (hw _ (List.mem_of_getElem? (i := 14) rfl))) Via.refl e29 F0_clients_28 (g := (mkF m 127 #[.val (.ref b0), .val (.long x1), .second, .val (.int x3), .val (.int x4), .val (.int x5)] [(.ref b0), (.int x4), (.ref b2)])) rfl rfl (hb hby d5_127)
            refine OwnOut.go (fun t k => st30 _ k) ?_
            show OwnOut p e s below 0 0 _ (T30.setTop (mkF m 130 #[.val (.ref b0), .val (.long x1), .second, .val (.int x3), .val (.int x4), .val (.int x5)] [(.ref b2), (.int x4), (.ref b2)]))
            refine OwnOut.go (fun t k => XS.iload X30.here hx rfl (hb hby d5_130) rfl k) ?_
            show OwnOut p e s below 0 0 _ (T30.setTop (mkF m 132 #[.val (.ref b0), .val (.long x1), .second, .val (.int x3), .val (.int x4), .val (.int x5)] [(.int x5), (.ref b2), (.int x4), (.ref b2)]))
            obtain ⟨v31, hv31, hr⟩ := Option.bind_eq_some_iff.mp hr
            refine OwnOut.go (fun t k => ldI X30 hx hZ e30 A2_28 hv31 (g := (mkF m 132 #[.val (.ref b0), .val (.long x1), .second, .val (.int x3), .val (.int x4), .val (.int x5)] [(.int x5), (.ref b2), (.int x4), (.ref b2)])) rfl rfl (hb hby d5_132) t k) ?_
            show OwnOut p e s below 0 0 _ (T30.setTop (mkF m 133 #[.val (.ref b0), .val (.long x1), .second, .val (.int x3), .val (.int x4), .val (.int x5)] [(.int v31), (.int x4), (.ref b2)]))
            obtain ⟨l_32, hl32, hr⟩ := Option.bind_eq_some_iff.mp hr
            obtain ⟨T32, h32, X32, e32, W32, A_32, st32⟩ := saI X30 hx hZ e30 A2_28 hl32 (g := (mkF m 133 #[.val (.ref b0), .val (.long x1), .second, .val (.int x3), .val (.int x4), .val (.int x5)] [(.int v31), (.int x4), (.ref b2)])) rfl rfl (hb hby d5_133)
            refine OwnOut.go (fun t k => st32 _ k) ?_
            have E0_32 := E0_28.wr W32
            have F0_times_32 := F0_times_28.other W32 (Or.inl ne0_2)
            have F0_clients_32 := F0_clients_28.other W32 (Or.inl ne0_2)
            have F0_size_32 := F0_size_28.other W32 (Or.inl ne0_2)
            have A1_32 := A_28.other W32 ne1_2
            have N_32 := Fr.snoc X32 N_28 g2
            have O_32 := O_28.wr W32 g2
            have K_32 := K_28.wr W32 (Or.inl (List.mem_of_getElem? (i := 1) rfl))
            show OwnOut p e s below 0 0 _ (T32.setTop (mkF m 134 #[.val (.ref b0), .val (.long x1), .second, .val (.int x3), .val (.int x4), .val (.int x5)] []))
            refine OwnOut.go (fun t k => XS.iload X32.here hx rfl (hb hby d5_134) rfl k) ?_
            show OwnOut p e s below 0 0 _ (T32.setTop (mkF m 136 #[.val (.ref b0), .val (.long x1), .second, .val (.int x3), .val (.int x4), .val (.int x5)] [(.int x5)]))
            refine OwnOut.go (fun t k => XS.istore X32.here hx rfl (hb hby d5_136) rfl (l' := #[.val (.ref b0), .val (.long x1), .second, .val (.int x3), .val (.int x5), .val (.int x5)]) rfl k) ?_
            show OwnOut p e s below 0 0 _ (T32.setTop (mkF m 138 #[.val (.ref b0), .val (.long x1), .second, .val (.int x3), .val (.int x5), .val (.int x5)] []))
            refine OwnOut.go (fun t k => XT.iconstV X32.here hx rfl (2 : Int32) (hb hby d5_138) rfl k) ?_
            show OwnOut p e s below 0 0 _ (T32.setTop (mkF m 139 #[.val (.ref b0), .val (.long x1), .second, .val (.int x3), .val (.int x5), .val (.int x5)] [(.int (2 : Int32))]))
            refine OwnOut.go (fun t k => XS.iload X32.here hx rfl (hb hby d5_139) rfl k) ?_
            show OwnOut p e s below 0 0 _ (T32.setTop (mkF m 141 #[.val (.ref b0), .val (.long x1), .second, .val (.int x3), .val (.int x5), .val (.int x5)] [(.int x5), (.int (2 : Int32))]))
            refine OwnOut.go (fun t k => XS.imul X32.here hx rfl (hb hby d5_141) rfl k) ?_
            show OwnOut p e s below 0 0 _ (T32.setTop (mkF m 142 #[.val (.ref b0), .val (.long x1), .second, .val (.int x3), .val (.int x5), .val (.int x5)] [(.int ((2 : Int32) * x5))]))
            refine OwnOut.go (fun t k => XT.iconstV X32.here hx rfl (1 : Int32) (hb hby d5_142) rfl k) ?_
            show OwnOut p e s below 0 0 _ (T32.setTop (mkF m 143 #[.val (.ref b0), .val (.long x1), .second, .val (.int x3), .val (.int x5), .val (.int x5)] [(.int (1 : Int32)), (.int ((2 : Int32) * x5))]))
            refine OwnOut.go (fun t k => XS.iadd X32.here hx rfl (hb hby d5_143) rfl k) ?_
            show OwnOut p e s below 0 0 _ (T32.setTop (mkF m 144 #[.val (.ref b0), .val (.long x1), .second, .val (.int x3), .val (.int x5), .val (.int x5)] [(.int (((2 : Int32) * x5) + (1 : Int32)))]))
            refine OwnOut.go (fun t k => XS.istore X32.here hx rfl (hb hby d5_144) rfl (l' := #[.val (.ref b0), .val (.long x1), .second, .val (.int x3), .val (.int x5), .val (.int (((2 : Int32) * x5) + (1 : Int32)))]) rfl k) ?_
            show OwnOut p e s below 0 0 _ (T32.setTop (mkF m 146 #[.val (.ref b0), .val (.long x1), .second, .val (.int x3), .val (.int x5), .val (.int (((2 : Int32) * x5) + (1 : Int32)))] []))
            refine OwnOut.go (fun t k => XS.goto X32.here hx rfl (pc0 := 146) (pc' := 20) rfl (hb hby d5_146) (by decide) (by decide) k) ?_
            show OwnOut p e s below 0 0 _ (T32.setTop (mkF m 20 #[.val (.ref b0), .val (.long x1), .second, .val (.int x3), .val (.int x5), .val (.int (((2 : Int32) * x5) + (1 : Int32)))] []))
            exact ih _ _ _ x1 x3 x5 (((2 : Int32) * x5) + (1 : Int32)) b0 u0_size b1 l_28 b2 l_32 _ hr X32 e32 N_32 O_32 K_32 E0_32 F0_times_32 F0_clients_32 F0_size_32 A1_32 A_32 g0 g1 g2 ne0_1 ne0_2 ne1_2
        · rw [if_neg hc75] at hr
          refine OwnOut.go (fun t k => XS.ifNo X15.here hx rfl (hb hby d5_75) rfl (XT.i0_eq_f hc75) k) ?_
          show OwnOut p e s below 0 0 _ (T15.setTop (mkF m 78 #[.val (.ref b0), .val (.long x1), .second, .val (.int x3), .val (.int x4), .val (.int x5)] []))
          refine OwnOut.go (fun t k => XT.iincV X15.here hx rfl (1 : Int32) (hb hby d5_78) rfl rfl (l' := #[.val (.ref b0), .val (.long x1), .second, .val (.int x3), .val (.int x4), .val (.int (x5 + (1 : Int32)))]) rfl k) ?_
          show OwnOut p e s below 0 0 _ (T15.setTop (mkF m 81 #[.val (.ref b0), .val (.long x1), .second, .val (.int x3), .val (.int x4), .val (.int (x5 + (1 : Int32)))] []))
          refine OwnOut.go (fun t k => XS.aloadN X15.here hx rfl (hb hby d5_81) rfl rfl k) ?_
          show OwnOut p e s below 0 0 _ (T15.setTop (mkF m 82 #[.val (.ref b0), .val (.long x1), .second, .val (.int x3), .val (.int x4), .val (.int (x5 + (1 : Int32)))] [(.ref b0)]))
          obtain ⟨T33, X33, e33, st33⟩ := getF X15 hx hZ hown (host := "") (Or.inl (hw _ (List.mem_of_getElem? (i := 11) rfl))) Via.refl e15 F0_times (g := (mkF m 82 #[.val (.ref b0), .val (.long x1), .second, .val (.int x3), .val (.int x4), .val (.int (x5 + (1 : Int32)))] [(.ref b0)])) rfl rfl (hb hby d5_82)
          refine OwnOut.go (fun t k => st33 _ k) ?_
          show OwnOut p e s below 0 0 _ (T33.setTop (mkF m 85 #[.val (.ref b0), .val (.long x1), .second, .val (.int x3), .val (.int x4), .val (.int (x5 + (1 : Int32)))] [(.ref b1)]))
          refine OwnOut.go (fun t k => XS.iload X33.here hx rfl (hb hby d5_85) rfl k) ?_
          show OwnOut p e s below 0 0 _ (T33.setTop (mkF m 87 #[.val (.ref b0), .val (.long x1), .second, .val (.int x3), .val (.int x4), .val (.int (x5 + (1 : Int32)))] [(.int (x5 + (1 : Int32))), (.ref b1)]))
          obtain ⟨v34, hv34, hr⟩ := Option.bind_eq_some_iff.mp hr
          refine OwnOut.go (fun t k => ldJ X33 hx hZ e33 A1 hv34 (g := (mkF m 87 #[.val (.ref b0), .val (.long x1), .second, .val (.int x3), .val (.int x4), .val (.int (x5 + (1 : Int32)))] [(.int (x5 + (1 : Int32))), (.ref b1)])) rfl rfl (hb hby d5_87) t k) ?_
          show OwnOut p e s below 0 0 _ (T33.setTop (mkF m 88 #[.val (.ref b0), .val (.long x1), .second, .val (.int x3), .val (.int x4), .val (.int (x5 + (1 : Int32)))] [(.long v34)]))
          refine OwnOut.go (fun t k => XS.aloadN X33.here hx rfl (hb hby d5_88) rfl rfl k) ?_
          show OwnOut p e s below 0 0 _ (T33.setTop (mkF m 89 #[.val (.ref b0), .val (.long x1), .second, .val (.int x3), .val (.int x4), .val (.int (x5 + (1 : Int32)))] [(.ref b0), (.long v34)]))
          obtain ⟨T35, X35, e35, st35⟩ := getF X33 hx hZ hown (host := "") (Or.inl (hw _ (List.mem_of_getElem? (i := 14) rfl))) Via.refl e33 F0_clients (g := (mkF m 89 #[.val (.ref b0), .val (.long x1), .second, .val (.int x3), .val (.int x4), .val (.int (x5 + (1 : Int32)))] [(.ref b0), (.long v34)])) rfl rfl (hb hby d5_89)
          refine OwnOut.go (fun t k => st35 _ k) ?_
          show OwnOut p e s below 0 0 _ (T35.setTop (mkF m 92 #[.val (.ref b0), .val (.long x1), .second, .val (.int x3), .val (.int x4), .val (.int (x5 + (1 : Int32)))] [(.ref b2), (.long v34)]))
          refine OwnOut.go (fun t k => XS.iload X35.here hx rfl (hb hby d5_92) rfl k) ?_
          show OwnOut p e s below 0 0 _ (T35.setTop (mkF m 94 #[.val (.ref b0), .val (.long x1), .second, .val (.int x3), .val (.int x4), .val (.int (x5 + (1 : Int32)))] [(.int (x5 + (1 : Int32))), (.ref b2), (.long v34)]))
          obtain ⟨v36, hv36, hr⟩ := Option.bind_eq_some_iff.mp hr
          refine OwnOut.go (fun t k => ldI X35 hx hZ e35 A2 hv36 (g := (mkF m 94 #[.val (.ref b0), .val (.long x1), .second, .val (.int x3), .val (.int x4), .val (.int (x5 + (1 : Int32)))] [(.int (x5 + (1 : Int32))), (.ref b2), (.long v34)])) rfl rfl (hb hby d5_94) t k) ?_
          show OwnOut p e s below 0 0 _ (T35.setTop (mkF m 95 #[.val (.ref b0), .val (.long x1), .second, .val (.int x3), .val (.int x4), .val (.int (x5 + (1 : Int32)))] [(.int v36), (.long v34)]))
          refine OwnOut.go (fun t k => XS.lloadN X35.here hx rfl (hb hby d5_95) rfl k) ?_
          show OwnOut p e s below 0 0 _ (T35.setTop (mkF m 96 #[.val (.ref b0), .val (.long x1), .second, .val (.int x3), .val (.int x4), .val (.int (x5 + (1 : Int32)))] [(.long x1), (.int v36), (.long v34)]))
          refine OwnOut.go (fun t k => XS.iloadN X35.here hx rfl (hb hby d5_96) rfl k) ?_
          show OwnOut p e s below 0 0 _ (T35.setTop (mkF m 97 #[.val (.ref b0), .val (.long x1), .second, .val (.int x3), .val (.int x4), .val (.int (x5 + (1 : Int32)))] [(.int x3), (.long x1), (.int v36), (.long v34)]))
          obtain ⟨o37, ho37, hr⟩ := Option.bind_eq_some_iff.mp hr
          obtain ⟨r37, T37, L37, X37', hQ37, st37⟩ := callQ (W := 0) (rm := rx7) X35 hx hZ (y := (⟨"com/example/porter_drive/porterdrive/RequestQueue", "isBefore", "(JIJI)Z"⟩ : MethodName)) hown (hw _ (List.mem_of_getElem? (i := 38) rfl)) (hw _ (List.mem_of_getElem? (i := 39) rfl)) (hw _ (List.mem_of_getElem? (i := 3) rfl)) (hw _ (List.mem_of_getElem? (i := 40) rfl)) (by decide) (rm7 l Z a0 hw [] v34 v36 x1 x3 hA o37 ho37 ) (by decide) (by decide) (by decide) (by decide) e35 (g := (mkF m 97 #[.val (.ref b0), .val (.long x1), .second, .val (.int x3), .val (.int x4), .val (.int (x5 + (1 : Int32)))] [(.int x3), (.long x1), (.int v36), (.long v34)])) rfl (by rw [hml]; rfl) (argsL := [(.long v34), (.int v36), (.long x1), (.int x3)]) (rest := []) (lenOf pd7 rfl) rfl (by show 2 * 0 + _ ≤ _; exact Nat.le_of_eq rfl) (hb hby d5_97)
          obtain ⟨rfl, e37, rfl⟩ := hQ37
          rw [List.append_nil] at X37'
          have X37 : Stand p l e rx5 s m args below meth c T37 _ 0 0 := X37'
          refine OwnOut.go (fun t k => st37 _ k) ?_
          show OwnOut p e s below 0 0 _ (T37.setTop (mkF m 100 #[.val (.ref b0), .val (.long x1), .second, .val (.int x3), .val (.int x4), .val (.int (x5 + (1 : Int32)))] [(.int o37)]))
          by_cases hc100 : o37 = (0 : Int32)
          · rw [if_pos hc100] at hr
            refine OwnOut.go (fun t k => XS.ifNo X37.here hx rfl (hb hby d5_100) rfl (XT.i0_ne_f hc100) k) ?_
            show OwnOut p e s below 0 0 _ (T37.setTop (mkF m 103 #[.val (.ref b0), .val (.long x1), .second, .val (.int x3), .val (.int x4), .val (.int (x5 + (1 : Int32)))] []))
            refine OwnOut.go (fun t k => XS.goto X37.here hx rfl (pc0 := 103) (pc' := 149) rfl (hb hby d5_103) (by decide) (by decide) k) ?_
            show OwnOut p e s below 0 0 _ (T37.setTop (mkF m 149 #[.val (.ref b0), .val (.long x1), .second, .val (.int x3), .val (.int x4), .val (.int (x5 + (1 : Int32)))] []))
            exact w5_149 ⟨hx, hZ, hw, hby, hml, hown, hret, hlk, hnm⟩  _ _ _ x1 x3 x4 (x5 + (1 : Int32)) b0 u0_size b1 l1 b2 l2 _ hr X37 e37 N0 O0 K0 E0 F0_times F0_clients F0_size A1 A2 g0 g1 g2 ne0_1 ne0_2 ne1_2
          · rw [if_neg hc100] at hr
            refine OwnOut.go (fun t k => XS.ifYes X37.here hx rfl (pc0 := 100) (pc' := 106) rfl (hb hby d5_100) rfl (XT.i0_ne_t hc100) (by decide) (by decide) k) ?_
            show OwnOut p e s below 0 0 _ (T37.setTop (mkF m 106 #[.val (.ref b0), .val (.long x1), .second, .val (.int x3), .val (.int x4), .val (.int (x5 + (1 : Int32)))] []))
            refine OwnOut.go (fun t k => XS.aloadN X37.here hx rfl (hb hby d5_106) rfl rfl k) ?_
            show OwnOut p e s below 0 0 _ (T37.setTop (mkF m 107 #[.val (.ref b0), .val (.long x1), .second, .val (.int x3), .val (.int x4), .val (.int (x5 + (1 : Int32)))] [(.ref b0)]))
            obtain ⟨T38, X38, e38, st38⟩ := getF X37 hx hZ hown (host := "") (Or.inl (hw _ (List.mem_of_getElem? (i := 11) rfl))) Via.refl e37 F0_times (g := (mkF m 107 #[.val (.ref b0), .val (.long x1), .second, .val (.int x3), .val (.int x4), .val (.int (x5 + (1 : Int32)))] [(.ref b0)])) rfl rfl (hb hby d5_107)
            refine OwnOut.go (fun t k => st38 _ k) ?_
            show OwnOut p e s below 0 0 _ (T38.setTop (mkF m 110 #[.val (.ref b0), .val (.long x1), .second, .val (.int x3), .val (.int x4), .val (.int (x5 + (1 : Int32)))] [(.ref b1)]))
            refine OwnOut.go (fun t k => XS.iload X38.here hx rfl (hb hby d5_110) rfl k) ?_
            show OwnOut p e s below 0 0 _ (T38.setTop (mkF m 112 #[.val (.ref b0), .val (.long x1), .second, .val (.int x3), .val (.int x4), .val (.int (x5 + (1 : Int32)))] [(.int x4), (.ref b1)]))
            refine OwnOut.go (fun t k => XS.aloadN X38.here hx rfl (hb hby d5_112) rfl rfl k) ?_
            show OwnOut p e s below 0 0 _ (T38.setTop (mkF m 113 #[.val (.ref b0), .val (.long x1), .second, .val (.int x3), .val (.int x4), .val (.int (x5 + (1 : Int32)))] [(.ref b0), (.int x4), (.ref b1)]))
            obtain ⟨T39, X39, e39, st39⟩ := getF X38 hx hZ hown (host := "") (Or.inl (hw _ (List.mem_of_getElem? (i := 11) rfl))) Via.refl e38 F0_times (g := (mkF m 113 #[.val (.ref b0), .val (.long x1), .second, .val (.int x3), .val (.int x4), .val (.int (x5 + (1 : Int32)))] [(.ref b0), (.int x4), (.ref b1)])) rfl rfl (hb hby d5_113)
            refine OwnOut.go (fun t k => st39 _ k) ?_
            show OwnOut p e s below 0 0 _ (T39.setTop (mkF m 116 #[.val (.ref b0), .val (.long x1), .second, .val (.int x3), .val (.int x4), .val (.int (x5 + (1 : Int32)))] [(.ref b1), (.int x4), (.ref b1)]))
            refine OwnOut.go (fun t k => XS.iload X39.here hx rfl (hb hby d5_116) rfl k) ?_
            show OwnOut p e s below 0 0 _ (T39.setTop (mkF m 118 #[.val (.ref b0), .val (.long x1), .second, .val (.int x3), .val (.int x4), .val (.int (x5 + (1 : Int32)))] [(.int (x5 + (1 : Int32))), (.ref b1), (.int x4), (.ref b1)]))
            obtain ⟨v40, hv40, hr⟩ := Option.bind_eq_some_iff.mp hr
            refine OwnOut.go (fun t k => ldJ X39 hx hZ e39 A1 hv40 (g := (mkF m 118 #[.val (.ref b0), .val (.long x1), .second, .val (.int x3), .val (.int x4), .val (.int (x5 + (1 : Int32)))] [(.int (x5 + (1 : Int32))), (.ref b1), (.int x4), (.ref b1)])) rfl rfl (hb hby d5_118) t k) ?_
            show OwnOut p e s below 0 0 _ (T39.setTop (mkF m 119 #[.val (.ref b0), .val (.long x1), .second, .val (.int x3), .val (.int x4), .val (.int (x5 + (1 : Int32)))] [(.long v40), (.int x4), (.ref b1)]))
            obtain ⟨l_41, hl41, hr⟩ := Option.bind_eq_some_iff.mp hr
            obtain ⟨T41, h41, X41, e41, W41, A_41, st41⟩ := saJ X39 hx hZ e39 A1 hl41 (g := (mkF m 119 #[.val (.ref b0), .val (.long x1), .second, .val (.int x3), .val (.int x4), .val (.int (x5 + (1 : Int32)))] [(.long v40), (.int x4), (.ref b1)])) rfl rfl (hb hby d5_119)
            refine OwnOut.go (fun t k => st41 _ k) ?_
            have E0_41 := E0.wr W41
            have F0_times_41 := F0_times.other W41 (Or.inl ne0_1)
            have F0_clients_41 := F0_clients.other W41 (Or.inl ne0_1)
            have F0_size_41 := F0_size.other W41 (Or.inl ne0_1)
            have A2_41 := A2.other W41 (Ne.symm ne1_2)
            have N_41 := Fr.snoc X41 N0 g1
            have O_41 := O0.wr W41 g1
            have K_41 := K0.wr W41 (Or.inl (List.mem_of_getElem? (i := 0) rfl))
            show OwnOut p e s below 0 0 _ (T41.setTop (mkF m 120 #[.val (.ref b0), .val (.long x1), .second, .val (.int x3), .val (.int x4), .val (.int (x5 + (1 : Int32)))] []))
            refine OwnOut.go (fun t k => XS.aloadN X41.here hx rfl (hb hby d5_120) rfl rfl k) ?_
            show OwnOut p e s below 0 0 _ (T41.setTop (mkF m 121 #[.val (.ref b0), .val (.long x1), .second, .val (.int x3), .val (.int x4), .val (.int (x5 + (1 : Int32)))] [(.ref b0)]))
            obtain ⟨T42, X42, e42, st42⟩ := getF X41 hx hZ hown (host := "") (Or.inl (hw _ (List.mem_of_getElem? (i := 14) rfl))) Via.refl e41 F0_clients_41 (g := (mkF m 121 #[.val (.ref b0), .val (.long x1), .second, .val (.int x3), .val (.int x4), .val (.int (x5 + (1 : Int32)))] [(.ref b0)])) rfl rfl (hb hby d5_121)
            refine OwnOut.go (fun t k => st42 _ k) ?_
            show OwnOut p e s below 0 0 _ (T42.setTop (mkF m 124 #[.val (.ref b0), .val (.long x1), .second, .val (.int x3), .val (.int x4), .val (.int (x5 + (1 : Int32)))] [(.ref b2)]))
            refine OwnOut.go (fun t k => XS.iload X42.here hx rfl (hb hby d5_124) rfl k) ?_
            show OwnOut p e s below 0 0 _ (T42.setTop (mkF m 126 #[.val (.ref b0), .val (.long x1), .second, .val (.int x3), .val (.int x4), .val (.int (x5 + (1 : Int32)))] [(.int x4), (.ref b2)]))
            refine OwnOut.go (fun t k => XS.aloadN X42.here hx rfl (hb hby d5_126) rfl rfl k) ?_
            show OwnOut p e s below 0 0 _ (T42.setTop (mkF m 127 #[.val (.ref b0), .val (.long x1), .second, .val (.int x3), .val (.int x4), .val (.int (x5 + (1 : Int32)))] [(.ref b0), (.int x4), (.ref b2)]))
            obtain ⟨T43, X43, e43, st43⟩ := getF X42 hx hZ hown (host := "") (Or.inl (hw _ (List.mem_of_getElem? (i := 14) rfl))) Via.refl e42 F0_clients_41 (g := (mkF m 127 #[.val (.ref b0), .val (.long x1), .second, .val (.int x3), .val (.int x4), .val (.int (x5 + (1 : Int32)))] [(.ref b0), (.int x4), (.ref b2)])) rfl rfl (hb hby d5_127)
            refine OwnOut.go (fun t k => st43 _ k) ?_
            show OwnOut p e s below 0 0 _ (T43.setTop (mkF m 130 #[.val (.ref b0), .val (.long x1), .second, .val (.int x3), .val (.int x4), .val (.int (x5 + (1 : Int32)))] [(.ref b2), (.int x4), (.ref b2)]))
            refine OwnOut.go (fun t k => XS.iload X43.here hx rfl (hb hby d5_130) rfl k) ?_
            show OwnOut p e s below 0 0 _ (T43.setTop (mkF m 132 #[.val (.ref b0), .val (.long x1), .second, .val (.int x3), .val (.int x4), .val (.int (x5 + (1 : Int32)))] [(.int (x5 + (1 : Int32))), (.ref b2), (.int x4), (.ref b2)]))
            obtain ⟨v44, hv44, hr⟩ := Option.bind_eq_some_iff.mp hr
            refine OwnOut.go (fun t k => ldI X43 hx hZ e43 A2_41 hv44 (g := (mkF m 132 #[.val (.ref b0), .val (.long x1), .second, .val (.int x3), .val (.int x4), .val (.int (x5 + (1 : Int32)))] [(.int (x5 + (1 : Int32))), (.ref b2), (.int x4), (.ref b2)])) rfl rfl (hb hby d5_132) t k) ?_
            show OwnOut p e s below 0 0 _ (T43.setTop (mkF m 133 #[.val (.ref b0), .val (.long x1), .second, .val (.int x3), .val (.int x4), .val (.int (x5 + (1 : Int32)))] [(.int v44), (.int x4), (.ref b2)]))
            obtain ⟨l_45, hl45, hr⟩ := Option.bind_eq_some_iff.mp hr
            obtain ⟨T45, h45, X45, e45, W45, A_45, st45⟩ := saI X43 hx hZ e43 A2_41 hl45 (g := (mkF m 133 #[.val (.ref b0), .val (.long x1), .second, .val (.int x3), .val (.int x4), .val (.int (x5 + (1 : Int32)))] [(.int v44), (.int x4), (.ref b2)])) rfl rfl (hb hby d5_133)
            refine OwnOut.go (fun t k => st45 _ k) ?_
            have E0_45 := E0_41.wr W45
            have F0_times_45 := F0_times_41.other W45 (Or.inl ne0_2)
            have F0_clients_45 := F0_clients_41.other W45 (Or.inl ne0_2)
            have F0_size_45 := F0_size_41.other W45 (Or.inl ne0_2)
            have A1_45 := A_41.other W45 ne1_2
            have N_45 := Fr.snoc X45 N_41 g2
            have O_45 := O_41.wr W45 g2
            have K_45 := K_41.wr W45 (Or.inl (List.mem_of_getElem? (i := 1) rfl))
            show OwnOut p e s below 0 0 _ (T45.setTop (mkF m 134 #[.val (.ref b0), .val (.long x1), .second, .val (.int x3), .val (.int x4), .val (.int (x5 + (1 : Int32)))] []))
            refine OwnOut.go (fun t k => XS.iload X45.here hx rfl (hb hby d5_134) rfl k) ?_
            show OwnOut p e s below 0 0 _ (T45.setTop (mkF m 136 #[.val (.ref b0), .val (.long x1), .second, .val (.int x3), .val (.int x4), .val (.int (x5 + (1 : Int32)))] [(.int (x5 + (1 : Int32)))]))
            refine OwnOut.go (fun t k => XS.istore X45.here hx rfl (hb hby d5_136) rfl (l' := #[.val (.ref b0), .val (.long x1), .second, .val (.int x3), .val (.int (x5 + (1 : Int32))), .val (.int (x5 + (1 : Int32)))]) rfl k) ?_
            show OwnOut p e s below 0 0 _ (T45.setTop (mkF m 138 #[.val (.ref b0), .val (.long x1), .second, .val (.int x3), .val (.int (x5 + (1 : Int32))), .val (.int (x5 + (1 : Int32)))] []))
            refine OwnOut.go (fun t k => XT.iconstV X45.here hx rfl (2 : Int32) (hb hby d5_138) rfl k) ?_
            show OwnOut p e s below 0 0 _ (T45.setTop (mkF m 139 #[.val (.ref b0), .val (.long x1), .second, .val (.int x3), .val (.int (x5 + (1 : Int32))), .val (.int (x5 + (1 : Int32)))] [(.int (2 : Int32))]))
            refine OwnOut.go (fun t k => XS.iload X45.here hx rfl (hb hby d5_139) rfl k) ?_
            show OwnOut p e s below 0 0 _ (T45.setTop (mkF m 141 #[.val (.ref b0), .val (.long x1), .second, .val (.int x3), .val (.int (x5 + (1 : Int32))), .val (.int (x5 + (1 : Int32)))] [(.int (x5 + (1 : Int32))), (.int (2 : Int32))]))
            refine OwnOut.go (fun t k => XS.imul X45.here hx rfl (hb hby d5_141) rfl k) ?_
            show OwnOut p e s below 0 0 _ (T45.setTop (mkF m 142 #[.val (.ref b0), .val (.long x1), .second, .val (.int x3), .val (.int (x5 + (1 : Int32))), .val (.int (x5 + (1 : Int32)))] [(.int ((2 : Int32) * (x5 + (1 : Int32))))]))
            refine OwnOut.go (fun t k => XT.iconstV X45.here hx rfl (1 : Int32) (hb hby d5_142) rfl k) ?_
            show OwnOut p e s below 0 0 _ (T45.setTop (mkF m 143 #[.val (.ref b0), .val (.long x1), .second, .val (.int x3), .val (.int (x5 + (1 : Int32))), .val (.int (x5 + (1 : Int32)))] [(.int (1 : Int32)), (.int ((2 : Int32) * (x5 + (1 : Int32))))]))
            refine OwnOut.go (fun t k => XS.iadd X45.here hx rfl (hb hby d5_143) rfl k) ?_
            show OwnOut p e s below 0 0 _ (T45.setTop (mkF m 144 #[.val (.ref b0), .val (.long x1), .second, .val (.int x3), .val (.int (x5 + (1 : Int32))), .val (.int (x5 + (1 : Int32)))] [(.int (((2 : Int32) * (x5 + (1 : Int32))) + (1 : Int32)))]))
            refine OwnOut.go (fun t k => XS.istore X45.here hx rfl (hb hby d5_144) rfl (l' := #[.val (.ref b0), .val (.long x1), .second, .val (.int x3), .val (.int (x5 + (1 : Int32))), .val (.int (((2 : Int32) * (x5 + (1 : Int32))) + (1 : Int32)))]) rfl k) ?_
            show OwnOut p e s below 0 0 _ (T45.setTop (mkF m 146 #[.val (.ref b0), .val (.long x1), .second, .val (.int x3), .val (.int (x5 + (1 : Int32))), .val (.int (((2 : Int32) * (x5 + (1 : Int32))) + (1 : Int32)))] []))
            refine OwnOut.go (fun t k => XS.goto X45.here hx rfl (pc0 := 146) (pc' := 20) rfl (hb hby d5_146) (by decide) (by decide) k) ?_
            show OwnOut p e s below 0 0 _ (T45.setTop (mkF m 20 #[.val (.ref b0), .val (.long x1), .second, .val (.int x3), .val (.int (x5 + (1 : Int32))), .val (.int (((2 : Int32) * (x5 + (1 : Int32))) + (1 : Int32)))] []))
            exact ih _ _ _ x1 x3 (x5 + (1 : Int32)) (((2 : Int32) * (x5 + (1 : Int32))) + (1 : Int32)) b0 u0_size b1 l_41 b2 l_45 _ hr X45 e45 N_45 O_45 K_45 E0_45 F0_times_45 F0_clients_45 F0_size_45 A1_45 A_45 g0 g1 g2 ne0_1 ne0_2 ne1_2
      · rw [if_neg hc37] at hr
        refine OwnOut.go (fun t k => XS.icmpYes X6.here hx rfl (pc0 := 37) (pc' := 81) rfl (hb hby d5_37) rfl (XT.ii_ge_t hc37) (by decide) (by decide) k) ?_
        show OwnOut p e s below 0 0 _ (T6.setTop (mkF m 81 #[.val (.ref b0), .val (.long x1), .second, .val (.int x3), .val (.int x4), .val (.int x5)] []))
        refine OwnOut.go (fun t k => XS.aloadN X6.here hx rfl (hb hby d5_81) rfl rfl k) ?_
        show OwnOut p e s below 0 0 _ (T6.setTop (mkF m 82 #[.val (.ref b0), .val (.long x1), .second, .val (.int x3), .val (.int x4), .val (.int x5)] [(.ref b0)]))
        obtain ⟨T46, X46, e46, st46⟩ := getF X6 hx hZ hown (host := "") (Or.inl (hw _ (List.mem_of_getElem? (i := 11) rfl))) Via.refl e6 F0_times (g := (mkF m 82 #[.val (.ref b0), .val (.long x1), .second, .val (.int x3), .val (.int x4), .val (.int x5)] [(.ref b0)])) rfl rfl (hb hby d5_82)
        refine OwnOut.go (fun t k => st46 _ k) ?_
        show OwnOut p e s below 0 0 _ (T46.setTop (mkF m 85 #[.val (.ref b0), .val (.long x1), .second, .val (.int x3), .val (.int x4), .val (.int x5)] [(.ref b1)]))
        refine OwnOut.go (fun t k => XS.iload X46.here hx rfl (hb hby d5_85) rfl k) ?_
        show OwnOut p e s below 0 0 _ (T46.setTop (mkF m 87 #[.val (.ref b0), .val (.long x1), .second, .val (.int x3), .val (.int x4), .val (.int x5)] [(.int x5), (.ref b1)]))
        obtain ⟨v47, hv47, hr⟩ := Option.bind_eq_some_iff.mp hr
        refine OwnOut.go (fun t k => ldJ X46 hx hZ e46 A1 hv47 (g := (mkF m 87 #[.val (.ref b0), .val (.long x1), .second, .val (.int x3), .val (.int x4), .val (.int x5)] [(.int x5), (.ref b1)])) rfl rfl (hb hby d5_87) t k) ?_
        show OwnOut p e s below 0 0 _ (T46.setTop (mkF m 88 #[.val (.ref b0), .val (.long x1), .second, .val (.int x3), .val (.int x4), .val (.int x5)] [(.long v47)]))
        refine OwnOut.go (fun t k => XS.aloadN X46.here hx rfl (hb hby d5_88) rfl rfl k) ?_
        show OwnOut p e s below 0 0 _ (T46.setTop (mkF m 89 #[.val (.ref b0), .val (.long x1), .second, .val (.int x3), .val (.int x4), .val (.int x5)] [(.ref b0), (.long v47)]))
        obtain ⟨T48, X48, e48, st48⟩ := getF X46 hx hZ hown (host := "") (Or.inl (hw _ (List.mem_of_getElem? (i := 14) rfl))) Via.refl e46 F0_clients (g := (mkF m 89 #[.val (.ref b0), .val (.long x1), .second, .val (.int x3), .val (.int x4), .val (.int x5)] [(.ref b0), (.long v47)])) rfl rfl (hb hby d5_89)
        refine OwnOut.go (fun t k => st48 _ k) ?_
        show OwnOut p e s below 0 0 _ (T48.setTop (mkF m 92 #[.val (.ref b0), .val (.long x1), .second, .val (.int x3), .val (.int x4), .val (.int x5)] [(.ref b2), (.long v47)]))
        refine OwnOut.go (fun t k => XS.iload X48.here hx rfl (hb hby d5_92) rfl k) ?_
        show OwnOut p e s below 0 0 _ (T48.setTop (mkF m 94 #[.val (.ref b0), .val (.long x1), .second, .val (.int x3), .val (.int x4), .val (.int x5)] [(.int x5), (.ref b2), (.long v47)]))
        obtain ⟨v49, hv49, hr⟩ := Option.bind_eq_some_iff.mp hr
        refine OwnOut.go (fun t k => ldI X48 hx hZ e48 A2 hv49 (g := (mkF m 94 #[.val (.ref b0), .val (.long x1), .second, .val (.int x3), .val (.int x4), .val (.int x5)] [(.int x5), (.ref b2), (.long v47)])) rfl rfl (hb hby d5_94) t k) ?_
        show OwnOut p e s below 0 0 _ (T48.setTop (mkF m 95 #[.val (.ref b0), .val (.long x1), .second, .val (.int x3), .val (.int x4), .val (.int x5)] [(.int v49), (.long v47)]))
        refine OwnOut.go (fun t k => XS.lloadN X48.here hx rfl (hb hby d5_95) rfl k) ?_
        show OwnOut p e s below 0 0 _ (T48.setTop (mkF m 96 #[.val (.ref b0), .val (.long x1), .second, .val (.int x3), .val (.int x4), .val (.int x5)] [(.long x1), (.int v49), (.long v47)]))
        refine OwnOut.go (fun t k => XS.iloadN X48.here hx rfl (hb hby d5_96) rfl k) ?_
        show OwnOut p e s below 0 0 _ (T48.setTop (mkF m 97 #[.val (.ref b0), .val (.long x1), .second, .val (.int x3), .val (.int x4), .val (.int x5)] [(.int x3), (.long x1), (.int v49), (.long v47)]))
        obtain ⟨o50, ho50, hr⟩ := Option.bind_eq_some_iff.mp hr
        obtain ⟨r50, T50, L50, X50', hQ50, st50⟩ := callQ (W := 0) (rm := rx7) X48 hx hZ (y := (⟨"com/example/porter_drive/porterdrive/RequestQueue", "isBefore", "(JIJI)Z"⟩ : MethodName)) hown (hw _ (List.mem_of_getElem? (i := 38) rfl)) (hw _ (List.mem_of_getElem? (i := 39) rfl)) (hw _ (List.mem_of_getElem? (i := 3) rfl)) (hw _ (List.mem_of_getElem? (i := 40) rfl)) (by decide) (rm7 l Z a0 hw [] v47 v49 x1 x3 hA o50 ho50 ) (by decide) (by decide) (by decide) (by decide) e48 (g := (mkF m 97 #[.val (.ref b0), .val (.long x1), .second, .val (.int x3), .val (.int x4), .val (.int x5)] [(.int x3), (.long x1), (.int v49), (.long v47)])) rfl (by rw [hml]; rfl) (argsL := [(.long v47), (.int v49), (.long x1), (.int x3)]) (rest := []) (lenOf pd7 rfl) rfl (by show 2 * 0 + _ ≤ _; exact Nat.le_of_eq rfl) (hb hby d5_97)
        obtain ⟨rfl, e50, rfl⟩ := hQ50
        rw [List.append_nil] at X50'
        have X50 : Stand p l e rx5 s m args below meth c T50 _ 0 0 := X50'
        refine OwnOut.go (fun t k => st50 _ k) ?_
        show OwnOut p e s below 0 0 _ (T50.setTop (mkF m 100 #[.val (.ref b0), .val (.long x1), .second, .val (.int x3), .val (.int x4), .val (.int x5)] [(.int o50)]))
        by_cases hc100 : o50 = (0 : Int32)
        · rw [if_pos hc100] at hr
          refine OwnOut.go (fun t k => XS.ifNo X50.here hx rfl (hb hby d5_100) rfl (XT.i0_ne_f hc100) k) ?_
          show OwnOut p e s below 0 0 _ (T50.setTop (mkF m 103 #[.val (.ref b0), .val (.long x1), .second, .val (.int x3), .val (.int x4), .val (.int x5)] []))
          refine OwnOut.go (fun t k => XS.goto X50.here hx rfl (pc0 := 103) (pc' := 149) rfl (hb hby d5_103) (by decide) (by decide) k) ?_
          show OwnOut p e s below 0 0 _ (T50.setTop (mkF m 149 #[.val (.ref b0), .val (.long x1), .second, .val (.int x3), .val (.int x4), .val (.int x5)] []))
          exact w5_149 ⟨hx, hZ, hw, hby, hml, hown, hret, hlk, hnm⟩  _ _ _ x1 x3 x4 x5 b0 u0_size b1 l1 b2 l2 _ hr X50 e50 N0 O0 K0 E0 F0_times F0_clients F0_size A1 A2 g0 g1 g2 ne0_1 ne0_2 ne1_2
        · rw [if_neg hc100] at hr
          refine OwnOut.go (fun t k => XS.ifYes X50.here hx rfl (pc0 := 100) (pc' := 106) rfl (hb hby d5_100) rfl (XT.i0_ne_t hc100) (by decide) (by decide) k) ?_
          show OwnOut p e s below 0 0 _ (T50.setTop (mkF m 106 #[.val (.ref b0), .val (.long x1), .second, .val (.int x3), .val (.int x4), .val (.int x5)] []))
          refine OwnOut.go (fun t k => XS.aloadN X50.here hx rfl (hb hby d5_106) rfl rfl k) ?_
          show OwnOut p e s below 0 0 _ (T50.setTop (mkF m 107 #[.val (.ref b0), .val (.long x1), .second, .val (.int x3), .val (.int x4), .val (.int x5)] [(.ref b0)]))
          obtain ⟨T51, X51, e51, st51⟩ := getF X50 hx hZ hown (host := "") (Or.inl (hw _ (List.mem_of_getElem? (i := 11) rfl))) Via.refl e50 F0_times (g := (mkF m 107 #[.val (.ref b0), .val (.long x1), .second, .val (.int x3), .val (.int x4), .val (.int x5)] [(.ref b0)])) rfl rfl (hb hby d5_107)
          refine OwnOut.go (fun t k => st51 _ k) ?_
          show OwnOut p e s below 0 0 _ (T51.setTop (mkF m 110 #[.val (.ref b0), .val (.long x1), .second, .val (.int x3), .val (.int x4), .val (.int x5)] [(.ref b1)]))
          refine OwnOut.go (fun t k => XS.iload X51.here hx rfl (hb hby d5_110) rfl k) ?_
          show OwnOut p e s below 0 0 _ (T51.setTop (mkF m 112 #[.val (.ref b0), .val (.long x1), .second, .val (.int x3), .val (.int x4), .val (.int x5)] [(.int x4), (.ref b1)]))
          refine OwnOut.go (fun t k => XS.aloadN X51.here hx rfl (hb hby d5_112) rfl rfl k) ?_
          show OwnOut p e s below 0 0 _ (T51.setTop (mkF m 113 #[.val (.ref b0), .val (.long x1), .second, .val (.int x3), .val (.int x4), .val (.int x5)] [(.ref b0), (.int x4), (.ref b1)]))
          obtain ⟨T52, X52, e52, st52⟩ := getF X51 hx hZ hown (host := "") (Or.inl (hw _ (List.mem_of_getElem? (i := 11) rfl))) Via.refl e51 F0_times (g := (mkF m 113 #[.val (.ref b0), .val (.long x1), .second, .val (.int x3), .val (.int x4), .val (.int x5)] [(.ref b0), (.int x4), (.ref b1)])) rfl rfl (hb hby d5_113)
          refine OwnOut.go (fun t k => st52 _ k) ?_
          show OwnOut p e s below 0 0 _ (T52.setTop (mkF m 116 #[.val (.ref b0), .val (.long x1), .second, .val (.int x3), .val (.int x4), .val (.int x5)] [(.ref b1), (.int x4), (.ref b1)]))
          refine OwnOut.go (fun t k => XS.iload X52.here hx rfl (hb hby d5_116) rfl k) ?_
          show OwnOut p e s below 0 0 _ (T52.setTop (mkF m 118 #[.val (.ref b0), .val (.long x1), .second, .val (.int x3), .val (.int x4), .val (.int x5)] [(.int x5), (.ref b1), (.int x4), (.ref b1)]))
          obtain ⟨v53, hv53, hr⟩ := Option.bind_eq_some_iff.mp hr
          refine OwnOut.go (fun t k => ldJ X52 hx hZ e52 A1 hv53 (g := (mkF m 118 #[.val (.ref b0), .val (.long x1), .second, .val (.int x3), .val (.int x4), .val (.int x5)] [(.int x5), (.ref b1), (.int x4), (.ref b1)])) rfl rfl (hb hby d5_118) t k) ?_
          show OwnOut p e s below 0 0 _ (T52.setTop (mkF m 119 #[.val (.ref b0), .val (.long x1), .second, .val (.int x3), .val (.int x4), .val (.int x5)] [(.long v53), (.int x4), (.ref b1)]))
          obtain ⟨l_54, hl54, hr⟩ := Option.bind_eq_some_iff.mp hr
          obtain ⟨T54, h54, X54, e54, W54, A_54, st54⟩ := saJ X52 hx hZ e52 A1 hl54 (g := (mkF m 119 #[.val (.ref b0), .val (.long x1), .second, .val (.int x3), .val (.int x4), .val (.int x5)] [(.long v53), (.int x4), (.ref b1)])) rfl rfl (hb hby d5_119)
          refine OwnOut.go (fun t k => st54 _ k) ?_
          have E0_54 := E0.wr W54
          have F0_times_54 := F0_times.other W54 (Or.inl ne0_1)
          have F0_clients_54 := F0_clients.other W54 (Or.inl ne0_1)
          have F0_size_54 := F0_size.other W54 (Or.inl ne0_1)
          have A2_54 := A2.other W54 (Ne.symm ne1_2)
          have N_54 := Fr.snoc X54 N0 g1
          have O_54 := O0.wr W54 g1
          have K_54 := K0.wr W54 (Or.inl (List.mem_of_getElem? (i := 0) rfl))
          show OwnOut p e s below 0 0 _ (T54.setTop (mkF m 120 #[.val (.ref b0), .val (.long x1), .second, .val (.int x3), .val (.int x4), .val (.int x5)] []))
          refine OwnOut.go (fun t k => XS.aloadN X54.here hx rfl (hb hby d5_120) rfl rfl k) ?_
          show OwnOut p e s below 0 0 _ (T54.setTop (mkF m 121 #[.val (.ref b0), .val (.long x1), .second, .val (.int x3), .val (.int x4), .val (.int x5)] [(.ref b0)]))
          obtain ⟨T55, X55, e55, st55⟩ := getF X54 hx hZ hown (host := "") (Or.inl (hw _ (List.mem_of_getElem? (i := 14) rfl))) Via.refl e54 F0_clients_54 (g := (mkF m 121 #[.val (.ref b0), .val (.long x1), .second, .val (.int x3), .val (.int x4), .val (.int x5)] [(.ref b0)])) rfl rfl (hb hby d5_121)
          refine OwnOut.go (fun t k => st55 _ k) ?_
          show OwnOut p e s below 0 0 _ (T55.setTop (mkF m 124 #[.val (.ref b0), .val (.long x1), .second, .val (.int x3), .val (.int x4), .val (.int x5)] [(.ref b2)]))
          refine OwnOut.go (fun t k => XS.iload X55.here hx rfl (hb hby d5_124) rfl k) ?_
          show OwnOut p e s below 0 0 _ (T55.setTop (mkF m 126 #[.val (.ref b0), .val (.long x1), .second, .val (.int x3), .val (.int x4), .val (.int x5)] [(.int x4), (.ref b2)]))
          refine OwnOut.go (fun t k => XS.aloadN X55.here hx rfl (hb hby d5_126) rfl rfl k) ?_
          show OwnOut p e s below 0 0 _ (T55.setTop (mkF m 127 #[.val (.ref b0), .val (.long x1), .second, .val (.int x3), .val (.int x4), .val (.int x5)] [(.ref b0), (.int x4), (.ref b2)]))
          obtain ⟨T56, X56, e56, st56⟩ := getF X55 hx hZ hown (host := "") (Or.inl (hw _ (List.mem_of_getElem? (i := 14) rfl))) Via.refl e55 F0_clients_54 (g := (mkF m 127 #[.val (.ref b0), .val (.long x1), .second, .val (.int x3), .val (.int x4), .val (.int x5)] [(.ref b0), (.int x4), (.ref b2)])) rfl rfl (hb hby d5_127)
          refine OwnOut.go (fun t k => st56 _ k) ?_
          show OwnOut p e s below 0 0 _ (T56.setTop (mkF m 130 #[.val (.ref b0), .val (.long x1), .second, .val (.int x3), .val (.int x4), .val (.int x5)] [(.ref b2), (.int x4), (.ref b2)]))
          refine OwnOut.go (fun t k => XS.iload X56.here hx rfl (hb hby d5_130) rfl k) ?_
          show OwnOut p e s below 0 0 _ (T56.setTop (mkF m 132 #[.val (.ref b0), .val (.long x1), .second, .val (.int x3), .val (.int x4), .val (.int x5)] [(.int x5), (.ref b2), (.int x4), (.ref b2)]))
          obtain ⟨v57, hv57, hr⟩ := Option.bind_eq_some_iff.mp hr
          refine OwnOut.go (fun t k => ldI X56 hx hZ e56 A2_54 hv57 (g := (mkF m 132 #[.val (.ref b0), .val (.long x1), .second, .val (.int x3), .val (.int x4), .val (.int x5)] [(.int x5), (.ref b2), (.int x4), (.ref b2)])) rfl rfl (hb hby d5_132) t k) ?_
          show OwnOut p e s below 0 0 _ (T56.setTop (mkF m 133 #[.val (.ref b0), .val (.long x1), .second, .val (.int x3), .val (.int x4), .val (.int x5)] [(.int v57), (.int x4), (.ref b2)]))
          obtain ⟨l_58, hl58, hr⟩ := Option.bind_eq_some_iff.mp hr
          obtain ⟨T58, h58, X58, e58, W58, A_58, st58⟩ := saI X56 hx hZ e56 A2_54 hl58 (g := (mkF m 133 #[.val (.ref b0), .val (.long x1), .second, .val (.int x3), .val (.int x4), .val (.int x5)] [(.int v57), (.int x4), (.ref b2)])) rfl rfl (hb hby d5_133)
          refine OwnOut.go (fun t k => st58 _ k) ?_
          have E0_58 := E0_54.wr W58
          have F0_times_58 := F0_times_54.other W58 (Or.inl ne0_2)
          have F0_clients_58 := F0_clients_54.other W58 (Or.inl ne0_2)
          have F0_size_58 := F0_size_54.other W58 (Or.inl ne0_2)
          have A1_58 := A_54.other W58 ne1_2
          have N_58 := Fr.snoc X58 N_54 g2
          have O_58 := O_54.wr W58 g2
          have K_58 := K_54.wr W58 (Or.inl (List.mem_of_getElem? (i := 1) rfl))
          show OwnOut p e s below 0 0 _ (T58.setTop (mkF m 134 #[.val (.ref b0), .val (.long x1), .second, .val (.int x3), .val (.int x4), .val (.int x5)] []))
          refine OwnOut.go (fun t k => XS.iload X58.here hx rfl (hb hby d5_134) rfl k) ?_
          show OwnOut p e s below 0 0 _ (T58.setTop (mkF m 136 #[.val (.ref b0), .val (.long x1), .second, .val (.int x3), .val (.int x4), .val (.int x5)] [(.int x5)]))
          refine OwnOut.go (fun t k => XS.istore X58.here hx rfl (hb hby d5_136) rfl (l' := #[.val (.ref b0), .val (.long x1), .second, .val (.int x3), .val (.int x5), .val (.int x5)]) rfl k) ?_
          show OwnOut p e s below 0 0 _ (T58.setTop (mkF m 138 #[.val (.ref b0), .val (.long x1), .second, .val (.int x3), .val (.int x5), .val (.int x5)] []))
          refine OwnOut.go (fun t k => XT.iconstV X58.here hx rfl (2 : Int32) (hb hby d5_138) rfl k) ?_
          show OwnOut p e s below 0 0 _ (T58.setTop (mkF m 139 #[.val (.ref b0), .val (.long x1), .second, .val (.int x3), .val (.int x5), .val (.int x5)] [(.int (2 : Int32))]))
          refine OwnOut.go (fun t k => XS.iload X58.here hx rfl (hb hby d5_139) rfl k) ?_
          show OwnOut p e s below 0 0 _ (T58.setTop (mkF m 141 #[.val (.ref b0), .val (.long x1), .second, .val (.int x3), .val (.int x5), .val (.int x5)] [(.int x5), (.int (2 : Int32))]))
          refine OwnOut.go (fun t k => XS.imul X58.here hx rfl (hb hby d5_141) rfl k) ?_
          show OwnOut p e s below 0 0 _ (T58.setTop (mkF m 142 #[.val (.ref b0), .val (.long x1), .second, .val (.int x3), .val (.int x5), .val (.int x5)] [(.int ((2 : Int32) * x5))]))
          refine OwnOut.go (fun t k => XT.iconstV X58.here hx rfl (1 : Int32) (hb hby d5_142) rfl k) ?_
          show OwnOut p e s below 0 0 _ (T58.setTop (mkF m 143 #[.val (.ref b0), .val (.long x1), .second, .val (.int x3), .val (.int x5), .val (.int x5)] [(.int (1 : Int32)), (.int ((2 : Int32) * x5))]))
          refine OwnOut.go (fun t k => XS.iadd X58.here hx rfl (hb hby d5_143) rfl k) ?_
          show OwnOut p e s below 0 0 _ (T58.setTop (mkF m 144 #[.val (.ref b0), .val (.long x1), .second, .val (.int x3), .val (.int x5), .val (.int x5)] [(.int (((2 : Int32) * x5) + (1 : Int32)))]))
          refine OwnOut.go (fun t k => XS.istore X58.here hx rfl (hb hby d5_144) rfl (l' := #[.val (.ref b0), .val (.long x1), .second, .val (.int x3), .val (.int x5), .val (.int (((2 : Int32) * x5) + (1 : Int32)))]) rfl k) ?_
          show OwnOut p e s below 0 0 _ (T58.setTop (mkF m 146 #[.val (.ref b0), .val (.long x1), .second, .val (.int x3), .val (.int x5), .val (.int (((2 : Int32) * x5) + (1 : Int32)))] []))
          refine OwnOut.go (fun t k => XS.goto X58.here hx rfl (pc0 := 146) (pc' := 20) rfl (hb hby d5_146) (by decide) (by decide) k) ?_
          show OwnOut p e s below 0 0 _ (T58.setTop (mkF m 20 #[.val (.ref b0), .val (.long x1), .second, .val (.int x3), .val (.int x5), .val (.int (((2 : Int32) * x5) + (1 : Int32)))] []))
          exact ih _ _ _ x1 x3 x5 (((2 : Int32) * x5) + (1 : Int32)) b0 u0_size b1 l_54 b2 l_58 _ hr X58 e58 N_58 O_58 K_58 E0_58 F0_times_58 F0_clients_58 F0_size_58 A1_58 A_58 g0 g1 g2 ne0_1 ne0_2 ne1_2
    · rw [if_neg hc26] at hr
      refine OwnOut.go (fun t k => XS.icmpYes X5.here hx rfl (pc0 := 26) (pc' := 149) rfl (hb hby d5_26) rfl (XT.ii_ge_t hc26) (by decide) (by decide) k) ?_
      show OwnOut p e s below 0 0 _ (T5.setTop (mkF m 149 #[.val (.ref b0), .val (.long x1), .second, .val (.int x3), .val (.int x4), .val (.int x5)] []))
      exact w5_149 ⟨hx, hZ, hw, hby, hml, hown, hret, hlk, hnm⟩  _ _ _ x1 x3 x4 x5 b0 u0_size b1 l1 b2 l2 _ hr X5 e5 N0 O0 K0 E0 F0_times F0_clients F0_size A1 A2 g0 g1 g2 ne0_1 ne0_2 ne1_2
def f5 (u0_size : Int32) (l1 : List Int64) (l2 : List Int32) : Option (List Int64 × List Int32) := ((ldx l1 (0 : Int32)).bind fun v2 => ((ldx l2 (0 : Int32)).bind fun v4 => (f5_20 8 v2 v4 (0 : Int32) (1 : Int32) u0_size l1 l2)))
set_option maxRecDepth 65536 in
set_option maxHeartbeats 40000000 in
theorem w5_0 {p : Program} {l : Launch} {e : Env} {s : State} {m : MethodId} {args : Array Value} {below : List Frame} {meth : Method} {c : Code} {Z : State} {a0 : Array Value} {h0 : Heap} {n0 : Nat} (C : Cx5 Z a0 p s m meth c) :
    ∀ (T : State) (locs : List Loc) (hA : Heap) (b0 : Addr) (u0_size : Int32) (b1 : Addr) (l1 : List Int64) (b2 : Addr) (l2 : List Int32) (o : List Int64 × List Int32), f5 u0_size l1 l2 = some o → Stand p l e rx5 s m args below meth c T locs 0 0 → T.heap = hA → Fr n0 locs → Old Z n0 hA → Keep h0 hA [b1, b2] → (Exa Z hA b0 "com/example/porter_drive/porterdrive/RequestQueue") → (Fld Z hA b0 "com/example/porter_drive/porterdrive/RequestQueue" "times" "[J" (.ref b1)) → (Fld Z hA b0 "com/example/porter_drive/porterdrive/RequestQueue" "clients" "[I" (.ref b2)) → (Fld Z hA b0 "com/example/porter_drive/porterdrive/RequestQueue" "size" "I" (.int u0_size)) → (Arj Z hA b1 l1) → (Ari Z hA b2 .int l2) → (n0 ≤ b0) → (n0 ≤ b1) → (n0 ≤ b2) → (b0 ≠ b1) → (b0 ≠ b2) → (b1 ≠ b2) →  OwnOut p e s below 0 0 (Q5 Z b0 u0_size b1 [] b2 [] h0 n0 o) (T.setTop (mkF m 0 #[.val (.ref b0), .unset, .unset, .unset, .unset, .unset] [])) := by
    obtain ⟨hx, hZ, hw, hby, hml, hown, hret, hlk, hnm⟩ := C
    intro T locs hA b0 u0_size b1 l1 b2 l2 o hr X0 e0 N0 O0 K0 E0 F0_times F0_clients F0_size A1 A2 g0 g1 g2 ne0_1 ne0_2 ne1_2
    rw [f5] at hr
    refine OwnOut.go (fun t k => XS.aloadN X0.here hx rfl (hb hby d5_0) rfl rfl k) ?_
    show OwnOut p e s below 0 0 _ (T.setTop (mkF m 1 #[.val (.ref b0), .unset, .unset, .unset, .unset, .unset] [(.ref b0)]))
    obtain ⟨T1, X1, e1, st1⟩ := getF X0 hx hZ hown (host := "") (Or.inl (hw _ (List.mem_of_getElem? (i := 11) rfl))) Via.refl e0 F0_times (g := (mkF m 1 #[.val (.ref b0), .unset, .unset, .unset, .unset, .unset] [(.ref b0)])) rfl rfl (hb hby d5_1)
    refine OwnOut.go (fun t k => st1 _ k) ?_
    show OwnOut p e s below 0 0 _ (T1.setTop (mkF m 4 #[.val (.ref b0), .unset, .unset, .unset, .unset, .unset] [(.ref b1)]))
    refine OwnOut.go (fun t k => XT.iconstV X1.here hx rfl (0 : Int32) (hb hby d5_4) rfl k) ?_
    show OwnOut p e s below 0 0 _ (T1.setTop (mkF m 5 #[.val (.ref b0), .unset, .unset, .unset, .unset, .unset] [(.int (0 : Int32)), (.ref b1)]))
    obtain ⟨v2, hv2, hr⟩ := Option.bind_eq_some_iff.mp hr
    refine OwnOut.go (fun t k => ldJ X1 hx hZ e1 A1 hv2 (g := (mkF m 5 #[.val (.ref b0), .unset, .unset, .unset, .unset, .unset] [(.int (0 : Int32)), (.ref b1)])) rfl rfl (hb hby d5_5) t k) ?_
    show OwnOut p e s below 0 0 _ (T1.setTop (mkF m 6 #[.val (.ref b0), .unset, .unset, .unset, .unset, .unset] [(.long v2)]))
    refine OwnOut.go (fun t k => XS.lstoreN X1.here hx rfl (hb hby d5_6) rfl (l' := #[.val (.ref b0), .val (.long v2), .second, .unset, .unset, .unset]) rfl k) ?_
    show OwnOut p e s below 0 0 _ (T1.setTop (mkF m 7 #[.val (.ref b0), .val (.long v2), .second, .unset, .unset, .unset] []))
    refine OwnOut.go (fun t k => XS.aloadN X1.here hx rfl (hb hby d5_7) rfl rfl k) ?_
    show OwnOut p e s below 0 0 _ (T1.setTop (mkF m 8 #[.val (.ref b0), .val (.long v2), .second, .unset, .unset, .unset] [(.ref b0)]))
    obtain ⟨T3, X3, e3, st3⟩ := getF X1 hx hZ hown (host := "") (Or.inl (hw _ (List.mem_of_getElem? (i := 14) rfl))) Via.refl e1 F0_clients (g := (mkF m 8 #[.val (.ref b0), .val (.long v2), .second, .unset, .unset, .unset] [(.ref b0)])) rfl rfl (hb hby d5_8)
    refine OwnOut.go (fun t k => st3 _ k) ?_
    show OwnOut p e s below 0 0 _ (T3.setTop (mkF m 11 #[.val (.ref b0), .val (.long v2), .second, .unset, .unset, .unset] [(.ref b2)]))
    refine OwnOut.go (fun t k => XT.iconstV X3.here hx rfl (0 : Int32) (hb hby d5_11) rfl k) ?_
    show OwnOut p e s below 0 0 _ (T3.setTop (mkF m 12 #[.val (.ref b0), .val (.long v2), .second, .unset, .unset, .unset] [(.int (0 : Int32)), (.ref b2)]))
    obtain ⟨v4, hv4, hr⟩ := Option.bind_eq_some_iff.mp hr
    refine OwnOut.go (fun t k => ldI X3 hx hZ e3 A2 hv4 (g := (mkF m 12 #[.val (.ref b0), .val (.long v2), .second, .unset, .unset, .unset] [(.int (0 : Int32)), (.ref b2)])) rfl rfl (hb hby d5_12) t k) ?_
    show OwnOut p e s below 0 0 _ (T3.setTop (mkF m 13 #[.val (.ref b0), .val (.long v2), .second, .unset, .unset, .unset] [(.int v4)]))
    refine OwnOut.go (fun t k => XS.istoreN X3.here hx rfl (hb hby d5_13) rfl (l' := #[.val (.ref b0), .val (.long v2), .second, .val (.int v4), .unset, .unset]) rfl k) ?_
    show OwnOut p e s below 0 0 _ (T3.setTop (mkF m 14 #[.val (.ref b0), .val (.long v2), .second, .val (.int v4), .unset, .unset] []))
    refine OwnOut.go (fun t k => XT.iconstV X3.here hx rfl (0 : Int32) (hb hby d5_14) rfl k) ?_
    show OwnOut p e s below 0 0 _ (T3.setTop (mkF m 15 #[.val (.ref b0), .val (.long v2), .second, .val (.int v4), .unset, .unset] [(.int (0 : Int32))]))
    refine OwnOut.go (fun t k => XS.istore X3.here hx rfl (hb hby d5_15) rfl (l' := #[.val (.ref b0), .val (.long v2), .second, .val (.int v4), .val (.int (0 : Int32)), .unset]) rfl k) ?_
    show OwnOut p e s below 0 0 _ (T3.setTop (mkF m 17 #[.val (.ref b0), .val (.long v2), .second, .val (.int v4), .val (.int (0 : Int32)), .unset] []))
    refine OwnOut.go (fun t k => XT.iconstV X3.here hx rfl (1 : Int32) (hb hby d5_17) rfl k) ?_
    show OwnOut p e s below 0 0 _ (T3.setTop (mkF m 18 #[.val (.ref b0), .val (.long v2), .second, .val (.int v4), .val (.int (0 : Int32)), .unset] [(.int (1 : Int32))]))
    refine OwnOut.go (fun t k => XS.istore X3.here hx rfl (hb hby d5_18) rfl (l' := #[.val (.ref b0), .val (.long v2), .second, .val (.int v4), .val (.int (0 : Int32)), .val (.int (1 : Int32))]) rfl k) ?_
    show OwnOut p e s below 0 0 _ (T3.setTop (mkF m 20 #[.val (.ref b0), .val (.long v2), .second, .val (.int v4), .val (.int (0 : Int32)), .val (.int (1 : Int32))] []))
    exact w5_20 ⟨hx, hZ, hw, hby, hml, hown, hret, hlk, hnm⟩ 8  _ _ _ v2 v4 (0 : Int32) (1 : Int32) b0 u0_size b1 l1 b2 l2 _ hr X3 e3 N0 O0 K0 E0 F0_times F0_clients F0_size A1 A2 g0 g1 g2 ne0_1 ne0_2 ne1_2
set_option maxRecDepth 65536 in
set_option maxHeartbeats 40000000 in
theorem rm5 (l : Launch) (Z : State) (a0 : Array Value) (hw : ∀ d ∈ tables_1, d.before a0 Z = true) (ws : List Jvm.Cond) (b0 : Addr) (u0_size : Int32) (b1 : Addr) (l1 : List Int64) (b2 : Addr) (l2 : List Int32) (h0 : Heap) (n0 : Nat) (o : List Int64 × List Int32) (hr : f5 u0_size l1 l2 = some o) (O0 : Old Z n0 h0) (E0 : Exa Z h0 b0 "com/example/porter_drive/porterdrive/RequestQueue") (F0_times : Fld Z h0 b0 "com/example/porter_drive/porterdrive/RequestQueue" "times" "[J" (.ref b1)) (F0_clients : Fld Z h0 b0 "com/example/porter_drive/porterdrive/RequestQueue" "clients" "[I" (.ref b2)) (F0_size : Fld Z h0 b0 "com/example/porter_drive/porterdrive/RequestQueue" "size" "I" (.int u0_size)) (A1 : Arj Z h0 b1 l1) (A2 : Ari Z h0 b2 .int l2) (g0 : n0 ≤ b0) (g1 : n0 ≤ b1) (g2 : n0 ≤ b2) (ne0_1 : b0 ≠ b1) (ne0_2 : b0 ≠ b2) (ne1_2 : b1 ≠ b2) :
    MetFree l (⟨"com/example/porter_drive/porterdrive/RequestQueue", "siftDown", "()V"⟩ : MethodName) (head1 (Jvm.Cond.code (⟨"com/example/porter_drive/porterdrive/RequestQueue", "siftDown", "()V"⟩ : MethodName) prog_24_method_7_code 6 none :: ws) rx5) (fun a U => a = #[(.ref b0)] ∧ Z.Warmed39 U.vm ∧ U.heap = h0) (fun _ _ _ _ _ => True) (fun _ U o' U' => ∃ v L, o' = .returned v ∧ Q5 Z b0 u0_size b1 l1 b2 l2 h0 n0 o v U'.heap L ∧ FrameEnd U o' U' L rx5.cells rx5.slots) := by
  refine MetFree.of_bodySF (plainFor_of_name pn5) hisR ?_
  intro p e s m args below meth c s₁ Bd hml0 hP hK
  obtain ⟨rfl, hZ, hh⟩ := hP
  have X0 : Stand p l e rx5 s m #[(.ref b0)] below meth c s₁ [] 0 0 := Stand.of_body Bd
  have e0 : s₁.heap = h0 := by rw [← hh, Bd.state]; rfl
  exact OwnOut.at (ef5 m b0) (w5_0 ⟨Bd.exec, hZ, hw, Bd.bytes, hml0, findClass_of_methodNamed Bd.named, Bd.returns, Bd.notSynchronized, (name_of_methodNamed Bd.named Bd.method).1⟩ _ _ _ b0 u0_size b1 l1 b2 l2 o hr X0 e0 (Fr.nil n0) O0 (Keep.refl _ _) E0 F0_times F0_clients F0_size A1 A2 g0 g1 g2 ne0_1 ne0_2 ne1_2)
-- body 4 as 4: com/example/porter_drive/porterdrive/RequestQueue.removeFirst:()V
theorem d4_0 : decode prog_24_method_5_code 0 = .ok (.aload_n 0, 1) := by decide +kernel
theorem d4_1 : decode prog_24_method_5_code 1 = .ok (.dup, 1) := by decide +kernel
theorem d4_2 : decode prog_24_method_5_code 2 = .ok (.getfield 17, 3) := by decide +kernel
theorem d4_5 : decode prog_24_method_5_code 5 = .ok (.iconst 1, 1) := by decide +kernel
theorem d4_6 : decode prog_24_method_5_code 6 = .ok (.isub, 1) := by decide +kernel
theorem d4_7 : decode prog_24_method_5_code 7 = .ok (.putfield 17, 3) := by decide +kernel
theorem d4_10 : decode prog_24_method_5_code 10 = .ok (.aload_n 0, 1) := by decide +kernel
theorem d4_11 : decode prog_24_method_5_code 11 = .ok (.getfield 7, 3) := by decide +kernel
theorem d4_14 : decode prog_24_method_5_code 14 = .ok (.iconst 0, 1) := by decide +kernel
theorem d4_15 : decode prog_24_method_5_code 15 = .ok (.aload_n 0, 1) := by decide +kernel
theorem d4_16 : decode prog_24_method_5_code 16 = .ok (.getfield 7, 3) := by decide +kernel
theorem d4_19 : decode prog_24_method_5_code 19 = .ok (.aload_n 0, 1) := by decide +kernel
theorem d4_20 : decode prog_24_method_5_code 20 = .ok (.getfield 17, 3) := by decide +kernel
theorem d4_23 : decode prog_24_method_5_code 23 = .ok (.laload, 1) := by decide +kernel
theorem d4_24 : decode prog_24_method_5_code 24 = .ok (.lastore, 1) := by decide +kernel
theorem d4_25 : decode prog_24_method_5_code 25 = .ok (.aload_n 0, 1) := by decide +kernel
theorem d4_26 : decode prog_24_method_5_code 26 = .ok (.getfield 13, 3) := by decide +kernel
theorem d4_29 : decode prog_24_method_5_code 29 = .ok (.iconst 0, 1) := by decide +kernel
theorem d4_30 : decode prog_24_method_5_code 30 = .ok (.aload_n 0, 1) := by decide +kernel
theorem d4_31 : decode prog_24_method_5_code 31 = .ok (.getfield 13, 3) := by decide +kernel
theorem d4_34 : decode prog_24_method_5_code 34 = .ok (.aload_n 0, 1) := by decide +kernel
theorem d4_35 : decode prog_24_method_5_code 35 = .ok (.getfield 17, 3) := by decide +kernel
theorem d4_38 : decode prog_24_method_5_code 38 = .ok (.iaload, 1) := by decide +kernel
theorem d4_39 : decode prog_24_method_5_code 39 = .ok (.iastore, 1) := by decide +kernel
theorem d4_40 : decode prog_24_method_5_code 40 = .ok (.aload_n 0, 1) := by decide +kernel
theorem d4_41 : decode prog_24_method_5_code 41 = .ok (.invokevirtual 21, 3) := by decide +kernel
theorem d4_44 : decode prog_24_method_5_code 44 = .ok (.return_, 1) := by decide +kernel
theorem pn4 : plainName "com/example/porter_drive/porterdrive/RequestQueue" = true := by first | (simp [plainName, overriddenIn]; done) | decide +kernel
theorem pd4 : parseMethodDescriptor "()V" = some ⟨[], none⟩ := by decide +kernel
theorem ef4 (m : MethodId) (b0 : Addr) : entryFrame m #[(.ref b0)] 1 = mkF m 0 #[.val (.ref b0)] [] := by first | (simp [entryFrame, mkF, argsToLocals, Value.category]; done) | rfl
abbrev rx4 : Room := { frames := 2, cells := 0, slots := 0, locals := 34 }
abbrev Cx4 (Z : State) (a0 : Array Value) (p : Program) (s : State) (m : MethodId) (meth : Method) (c : Code) : Prop := p.tables.exec = Jvm.exec ∧ Z.Warmed39 s.vm ∧ (∀ d ∈ tables_1, d.before a0 Z = true) ∧ c.code = prog_24_method_5_code ∧ c.maxLocals = 1 ∧ s.vm.findClass "com/example/porter_drive/porterdrive/RequestQueue" = some m.cls ∧ meth.sig.returnType = none ∧ meth.locks = false ∧ meth.name = "removeFirst"
def Q4 (Z : State) (b0 : Addr) (u0_size : Int32) (b1 : Addr) (l1 : List Int64) (b2 : Addr) (l2 : List Int32) (h0 : Heap) (n0 : Nat) (o : Int32 × List Int64 × List Int32) (v : Option Value) (h : Heap) (L : List Loc) : Prop := v = none ∧ Fr n0 L ∧ Keep h0 h [b0, b1, b2] ∧ Fld Z h b0 "com/example/porter_drive/porterdrive/RequestQueue" "times" "[J" (.ref b1) ∧ Fld Z h b0 "com/example/porter_drive/porterdrive/RequestQueue" "clients" "[I" (.ref b2) ∧ Fld Z h b0 "com/example/porter_drive/porterdrive/RequestQueue" "size" "I" (.int o.1) ∧ Arj Z h b1 o.2.1 ∧ Ari Z h b2 .int o.2.2
def f4 (u0_size : Int32) (l1 : List Int64) (l2 : List Int32) : Option (Int32 × List Int64 × List Int32) := ((ldx l1 (u0_size - (1 : Int32))).bind fun v6 => ((stx l1 (0 : Int32) v6).bind fun l_7 => ((ldx l2 (u0_size - (1 : Int32))).bind fun v11 => ((stx l2 (0 : Int32) v11).bind fun l_12 => ((f5 (u0_size - (1 : Int32)) l_7 l_12).bind fun o13 => some ((u0_size - (1 : Int32)), o13.1, o13.2))))))
set_option maxRecDepth 65536 in
set_option maxHeartbeats 40000000 in
theorem w4_0 {p : Program} {l : Launch} {e : Env} {s : State} {m : MethodId} {args : Array Value} {below : List Frame} {meth : Method} {c : Code} {Z : State} {a0 : Array Value} {h0 : Heap} {n0 : Nat} (C : Cx4 Z a0 p s m meth c) :
    ∀ (T : State) (locs : List Loc) (hA : Heap) (b0 : Addr) (u0_size : Int32) (b1 : Addr) (l1 : List Int64) (b2 : Addr) (l2 : List Int32) (o : Int32 × List Int64 × List Int32), f4 u0_size l1 l2 = some o → Stand p l e rx4 s m args below meth c T locs 0 0 → T.heap = hA → Fr n0 locs → Old Z n0 hA → Keep h0 hA [b0, b1, b2] → (Exa Z hA b0 "com/example/porter_drive/porterdrive/RequestQueue") → (Fld Z hA b0 "com/example/porter_drive/porterdrive/RequestQueue" "times" "[J" (.ref b1)) → (Fld Z hA b0 "com/example/porter_drive/porterdrive/RequestQueue" "clients" "[I" (.ref b2)) → (Fld Z hA b0 "com/example/porter_drive/porterdrive/RequestQueue" "size" "I" (.int u0_size)) → (Arj Z hA b1 l1) → (Ari Z hA b2 .int l2) → (n0 ≤ b0) → (n0 ≤ b1) → (n0 ≤ b2) → (b0 ≠ b1) → (b0 ≠ b2) → (b1 ≠ b2) →  OwnOut p e s below 0 0 (Q4 Z b0 default b1 [] b2 [] h0 n0 o) (T.setTop (mkF m 0 #[.val (.ref b0)] [])) := by
    obtain ⟨hx, hZ, hw, hby, hml, hown, hret, hlk, hnm⟩ := C
    intro T locs hA b0 u0_size b1 l1 b2 l2 o hr X0 e0 N0 O0 K0 E0 F0_times F0_clients F0_size A1 A2 g0 g1 g2 ne0_1 ne0_2 ne1_2
    rw [f4] at hr
    refine OwnOut.go (fun t k => XS.aloadN X0.here hx rfl (hb hby d4_0) rfl rfl k) ?_
    show OwnOut p e s below 0 0 _ (T.setTop (mkF m 1 #[.val (.ref b0)] [(.ref b0)]))
    refine OwnOut.go (fun t k => XS.dup X0.here hx rfl (hb hby d4_1) rfl rfl k) ?_
    show OwnOut p e s below 0 0 _ (T.setTop (mkF m 2 #[.val (.ref b0)] [(.ref b0), (.ref b0)]))
    obtain ⟨T1, X1, e1, st1⟩ := getF X0 hx hZ hown (host := "") (Or.inl (hw _ (List.mem_of_getElem? (i := 16) rfl))) Via.refl e0 F0_size (g := (mkF m 2 #[.val (.ref b0)] [(.ref b0), (.ref b0)])) rfl rfl (hb hby d4_2)
    refine OwnOut.go (fun t k => st1 _ k) ?_
    show OwnOut p e s below 0 0 _ (T1.setTop (mkF m 5 #[.val (.ref b0)] [(.int u0_size), (.ref b0)]))
    refine OwnOut.go (fun t k => XT.iconstV X1.here hx rfl (1 : Int32) (hb hby d4_5) rfl k) ?_
    show OwnOut p e s below 0 0 _ (T1.setTop (mkF m 6 #[.val (.ref b0)] [(.int (1 : Int32)), (.int u0_size), (.ref b0)]))
    refine OwnOut.go (fun t k => XS.isub X1.here hx rfl (hb hby d4_6) rfl k) ?_
    show OwnOut p e s below 0 0 _ (T1.setTop (mkF m 7 #[.val (.ref b0)] [(.int (u0_size - (1 : Int32))), (.ref b0)]))
    obtain ⟨T2, h2, X2, e2, W2, st2⟩ := putF X1 hx hZ hown (host := "") (Or.inl (hw _ (List.mem_of_getElem? (i := 16) rfl))) Via.refl e1 F0_size E0 (Or.inl (hw _ (List.mem_of_getElem? (i := 17) rfl))) (hw _ (List.mem_of_getElem? (i := 2) rfl)) (ty := .int) (by decide) rfl rfl (g := (mkF m 7 #[.val (.ref b0)] [(.int (u0_size - (1 : Int32))), (.ref b0)])) rfl rfl (hb hby d4_7)
    refine OwnOut.go (fun t k => st2 _ k) ?_
    have E0_2 := E0.wr W2
    have F0_times_2 := F0_times.other W2 (Or.inr (slot_ne (Or.inr (hw _ (List.mem_of_getElem? (i := 12) rfl))) (Or.inl (hw _ (List.mem_of_getElem? (i := 17) rfl))) (by decide) (t := (.array .long)) (t' := .int) (by decide) (by decide)))
    have F0_clients_2 := F0_clients.other W2 (Or.inr (slot_ne (Or.inr (hw _ (List.mem_of_getElem? (i := 15) rfl))) (Or.inl (hw _ (List.mem_of_getElem? (i := 17) rfl))) (by decide) (t := (.array .int)) (t' := .int) (by decide) (by decide)))
    have F0_size_2 := F0_size.same W2
    have A1_2 := A1.other W2 (Ne.symm ne0_1)
    have A2_2 := A2.other W2 (Ne.symm ne0_2)
    have N_2 := Fr.snoc X2 N0 g0
    have O_2 := O0.wr W2 g0
    have K_2 := K0.wr W2 (Or.inl (List.mem_of_getElem? (i := 0) rfl))
    show OwnOut p e s below 0 0 _ (T2.setTop (mkF m 10 #[.val (.ref b0)] []))
    refine OwnOut.go (fun t k => XS.aloadN X2.here hx rfl (hb hby d4_10) rfl rfl k) ?_
    show OwnOut p e s below 0 0 _ (T2.setTop (mkF m 11 #[.val (.ref b0)] [(.ref b0)]))
    obtain ⟨T3, X3, e3, st3⟩ := getF X2 hx hZ hown (host := "") (Or.inl (hw _ (List.mem_of_getElem? (i := 11) rfl))) Via.refl e2 F0_times_2 (g := (mkF m 11 #[.val (.ref b0)] [(.ref b0)])) rfl rfl (hb hby d4_11)
    refine OwnOut.go (fun t k => st3 _ k) ?_
    show OwnOut p e s below 0 0 _ (T3.setTop (mkF m 14 #[.val (.ref b0)] [(.ref b1)]))
    refine OwnOut.go (fun t k => XT.iconstV X3.here hx rfl (0 : Int32) (hb hby d4_14) rfl k) ?_
    show OwnOut p e s below 0 0 _ (T3.setTop (mkF m 15 #[.val (.ref b0)] [(.int (0 : Int32)), (.ref b1)]))
    refine OwnOut.go (fun t k => XS.aloadN X3.here hx rfl (hb hby d4_15) rfl rfl k) ?_
    show OwnOut p e s below 0 0 _ (T3.setTop (mkF m 16 #[.val (.ref b0)] [(.ref b0), (.int (0 : Int32)), (.ref b1)]))
    obtain ⟨T4, X4, e4, st4⟩ := getF X3 hx hZ hown (host := "") (Or.inl (hw _ (List.mem_of_getElem? (i := 11) rfl))) Via.refl e3 F0_times_2 (g := (mkF m 16 #[.val (.ref b0)] [(.ref b0), (.int (0 : Int32)), (.ref b1)])) rfl rfl (hb hby d4_16)
    refine OwnOut.go (fun t k => st4 _ k) ?_
    show OwnOut p e s below 0 0 _ (T4.setTop (mkF m 19 #[.val (.ref b0)] [(.ref b1), (.int (0 : Int32)), (.ref b1)]))
    refine OwnOut.go (fun t k => XS.aloadN X4.here hx rfl (hb hby d4_19) rfl rfl k) ?_
    show OwnOut p e s below 0 0 _ (T4.setTop (mkF m 20 #[.val (.ref b0)] [(.ref b0), (.ref b1), (.int (0 : Int32)), (.ref b1)]))
    obtain ⟨T5, X5, e5, st5⟩ := getF X4 hx hZ hown (host := "") (Or.inl (hw _ (List.mem_of_getElem? (i := 16) rfl))) Via.refl e4 F0_size_2 (g := (mkF m 20 #[.val (.ref b0)] [(.ref b0), (.ref b1), (.int (0 : Int32)), (.ref b1)])) rfl rfl (hb hby d4_20)
    refine OwnOut.go (fun t k => st5 _ k) ?_
    show OwnOut p e s below 0 0 _ (T5.setTop (mkF m 23 #[.val (.ref b0)] [(.int (u0_size - (1 : Int32))), (.ref b1), (.int (0 : Int32)), (.ref b1)]))
    obtain ⟨v6, hv6, hr⟩ := Option.bind_eq_some_iff.mp hr
    refine OwnOut.go (fun t k => ldJ X5 hx hZ e5 A1_2 hv6 (g := (mkF m 23 #[.val (.ref b0)] [(.int (u0_size - (1 : Int32))), (.ref b1), (.int (0 : Int32)), (.ref b1)])) rfl rfl (hb hby d4_23) t k) ?_
    show OwnOut p e s below 0 0 _ (T5.setTop (mkF m 24 #[.val (.ref b0)] [(.long v6), (.int (0 : Int32)), (.ref b1)]))
    obtain ⟨l_7, hl7, hr⟩ := Option.bind_eq_some_iff.mp hr
    obtain ⟨T7, h7, X7, e7, W7, A_7, st7⟩ := saJ X5 hx hZ e5 A1_2 hl7 (g := (mkF m 24 #[.val (.ref b0)] [(.long v6), (.int (0 : Int32)), (.ref b1)])) rfl rfl (hb hby d4_24)
    refine OwnOut.go (fun t k => st7 _ k) ?_
    have E0_7 := E0_2.wr W7
    have F0_times_7 := F0_times_2.other W7 (Or.inl ne0_1)
    have F0_clients_7 := F0_clients_2.other W7 (Or.inl ne0_1)
    have F0_size_7 := F0_size_2.other W7 (Or.inl ne0_1)
    have A2_7 := A2_2.other W7 (Ne.symm ne1_2)
    have N_7 := Fr.snoc X7 N_2 g1
    have O_7 := O_2.wr W7 g1
    have K_7 := K_2.wr W7 (Or.inl (List.mem_of_getElem? (i := 1) rfl))
    show OwnOut p e s below 0 0 _ (T7.setTop (mkF m 25 #[.val (.ref b0)] []))
    refine OwnOut.go (fun t k => XS.aloadN X7.here hx rfl (hb hby d4_25) rfl rfl k) ?_
    show OwnOut p e s below 0 0 _ (T7.setTop (mkF m 26 #[.val (.ref b0)] [(.ref b0)]))
    obtain ⟨T8, X8, e8, st8⟩ := getF X7 hx hZ hown (host := "") (Or.inl (hw _ (List.mem_of_getElem? (i := 14) rfl))) Via.refl e7 F0_clients_7 (g := (mkF m 26 #[.val (.ref b0)] [(.ref b0)])) rfl rfl (hb hby d4_26)
    refine OwnOut.go (fun t k => st8 _ k) ?_
    show OwnOut p e s below 0 0 _ (T8.setTop (mkF m 29 #[.val (.ref b0)] [(.ref b2)]))
    refine OwnOut.go (fun t k => XT.iconstV X8.here hx rfl (0 : Int32) (hb hby d4_29) rfl k) ?_
    show OwnOut p e s below 0 0 _ (T8.setTop (mkF m 30 #[.val (.ref b0)] [(.int (0 : Int32)), (.ref b2)]))
    refine OwnOut.go (fun t k => XS.aloadN X8.here hx rfl (hb hby d4_30) rfl rfl k) ?_
    show OwnOut p e s below 0 0 _ (T8.setTop (mkF m 31 #[.val (.ref b0)] [(.ref b0), (.int (0 : Int32)), (.ref b2)]))
    obtain ⟨T9, X9, e9, st9⟩ := getF X8 hx hZ hown (host := "") (Or.inl (hw _ (List.mem_of_getElem? (i := 14) rfl))) Via.refl e8 F0_clients_7 (g := (mkF m 31 #[.val (.ref b0)] [(.ref b0), (.int (0 : Int32)), (.ref b2)])) rfl rfl (hb hby d4_31)
    refine OwnOut.go (fun t k => st9 _ k) ?_
    show OwnOut p e s below 0 0 _ (T9.setTop (mkF m 34 #[.val (.ref b0)] [(.ref b2), (.int (0 : Int32)), (.ref b2)]))
    refine OwnOut.go (fun t k => XS.aloadN X9.here hx rfl (hb hby d4_34) rfl rfl k) ?_
    show OwnOut p e s below 0 0 _ (T9.setTop (mkF m 35 #[.val (.ref b0)] [(.ref b0), (.ref b2), (.int (0 : Int32)), (.ref b2)]))
    obtain ⟨T10, X10, e10, st10⟩ := getF X9 hx hZ hown (host := "") (Or.inl (hw _ (List.mem_of_getElem? (i := 16) rfl))) Via.refl e9 F0_size_7 (g := (mkF m 35 #[.val (.ref b0)] [(.ref b0), (.ref b2), (.int (0 : Int32)), (.ref b2)])) rfl rfl (hb hby d4_35)
    refine OwnOut.go (fun t k => st10 _ k) ?_
    show OwnOut p e s below 0 0 _ (T10.setTop (mkF m 38 #[.val (.ref b0)] [(.int (u0_size - (1 : Int32))), (.ref b2), (.int (0 : Int32)), (.ref b2)]))
    obtain ⟨v11, hv11, hr⟩ := Option.bind_eq_some_iff.mp hr
    refine OwnOut.go (fun t k => ldI X10 hx hZ e10 A2_7 hv11 (g := (mkF m 38 #[.val (.ref b0)] [(.int (u0_size - (1 : Int32))), (.ref b2), (.int (0 : Int32)), (.ref b2)])) rfl rfl (hb hby d4_38) t k) ?_
    show OwnOut p e s below 0 0 _ (T10.setTop (mkF m 39 #[.val (.ref b0)] [(.int v11), (.int (0 : Int32)), (.ref b2)]))
    obtain ⟨l_12, hl12, hr⟩ := Option.bind_eq_some_iff.mp hr
    obtain ⟨T12, h12, X12, e12, W12, A_12, st12⟩ := saI X10 hx hZ e10 A2_7 hl12 (g := (mkF m 39 #[.val (.ref b0)] [(.int v11), (.int (0 : Int32)), (.ref b2)])) rfl rfl (hb hby d4_39)
    refine OwnOut.go (fun t k => st12 _ k) ?_
    have E0_12 := E0_7.wr W12
    have F0_times_12 := F0_times_7.other W12 (Or.inl ne0_2)
    have F0_clients_12 := F0_clients_7.other W12 (Or.inl ne0_2)
    have F0_size_12 := F0_size_7.other W12 (Or.inl ne0_2)
    have A1_12 := A_7.other W12 ne1_2
    have N_12 := Fr.snoc X12 N_7 g2
    have O_12 := O_7.wr W12 g2
    have K_12 := K_7.wr W12 (Or.inl (List.mem_of_getElem? (i := 2) rfl))
    show OwnOut p e s below 0 0 _ (T12.setTop (mkF m 40 #[.val (.ref b0)] []))
    refine OwnOut.go (fun t k => XS.aloadN X12.here hx rfl (hb hby d4_40) rfl rfl k) ?_
    show OwnOut p e s below 0 0 _ (T12.setTop (mkF m 41 #[.val (.ref b0)] [(.ref b0)]))
    obtain ⟨o13, ho13, hr⟩ := Option.bind_eq_some_iff.mp hr
    obtain ⟨r13, T13, L13, X13', hQ13, st13⟩ := callR (W := 0) (rm := rx5) X12 hx hZ (y := (⟨"com/example/porter_drive/porterdrive/RequestQueue", "siftDown", "()V"⟩ : MethodName)) hown (hw _ (List.mem_of_getElem? (i := 28) rfl)) (hw _ (List.mem_of_getElem? (i := 30) rfl)) (hw _ (List.mem_of_getElem? (i := 2) rfl)) (hw _ (List.mem_of_getElem? (i := 29) rfl)) (hw _ (List.mem_of_getElem? (i := 3) rfl)) (hw _ (List.mem_of_getElem? (i := 31) rfl)) (by decide) (rm5 l Z a0 hw [] b0 (u0_size - (1 : Int32)) b1 l_7 b2 l_12 h12 n0 o13 ho13 O_12 E0_12 F0_times_12 F0_clients_12 F0_size_12 A1_12 A_12 g0 g1 g2 ne0_1 ne0_2 ne1_2) (by decide) (by decide) (by decide) (by decide) e12 E0_12 (g := (mkF m 41 #[.val (.ref b0)] [(.ref b0)])) rfl (by rw [hml]; rfl) (argsL := []) (rest := []) (lenOf pd5 rfl) rfl (by show 2 * 0 + _ ≤ _; exact Nat.le_of_eq rfl) (hb hby d4_41)
    obtain ⟨rfl, Nq13, Kq13, A1_13, A2_13⟩ := hQ13
    have X13 : Stand p l e rx4 s m args below meth c T13 _ 0 0 := X13'
    have E0_13 := E0_12.keep Kq13
    have F0_times_13 := F0_times_12.keep Kq13 (ninS ne0_1 (ninS ne0_2 nin0))
    have F0_clients_13 := F0_clients_12.keep Kq13 (ninS ne0_1 (ninS ne0_2 nin0))
    have F0_size_13 := F0_size_12.keep Kq13 (ninS ne0_1 (ninS ne0_2 nin0))
    have N_13 := Fr.app N_12 Nq13
    have O_13 := O_12.keep Kq13 (allS g1 (allS g2 all0))
    have K_13 := K_12.trans Kq13 (allS (Or.inl (List.mem_of_getElem? (i := 1) rfl)) (allS (Or.inl (List.mem_of_getElem? (i := 2) rfl)) all0))
    refine OwnOut.go (fun t k => st13 _ k) ?_
    show OwnOut p e s below 0 0 _ (T13.setTop (mkF m 44 #[.val (.ref b0)] []))
    cases hr
    exact outV X13 hx hret (hb hby d4_44) hlk (by decide) (by decide) ⟨rfl, N_13, K_13, F0_times_13, F0_clients_13, F0_size_13, A1_13, A2_13⟩
set_option maxRecDepth 65536 in
set_option maxHeartbeats 40000000 in
theorem rm4 (l : Launch) (Z : State) (a0 : Array Value) (hw : ∀ d ∈ tables_1, d.before a0 Z = true) (ws : List Jvm.Cond) (b0 : Addr) (u0_size : Int32) (b1 : Addr) (l1 : List Int64) (b2 : Addr) (l2 : List Int32) (h0 : Heap) (n0 : Nat) (o : Int32 × List Int64 × List Int32) (hr : f4 u0_size l1 l2 = some o) (O0 : Old Z n0 h0) (E0 : Exa Z h0 b0 "com/example/porter_drive/porterdrive/RequestQueue") (F0_times : Fld Z h0 b0 "com/example/porter_drive/porterdrive/RequestQueue" "times" "[J" (.ref b1)) (F0_clients : Fld Z h0 b0 "com/example/porter_drive/porterdrive/RequestQueue" "clients" "[I" (.ref b2)) (F0_size : Fld Z h0 b0 "com/example/porter_drive/porterdrive/RequestQueue" "size" "I" (.int u0_size)) (A1 : Arj Z h0 b1 l1) (A2 : Ari Z h0 b2 .int l2) (g0 : n0 ≤ b0) (g1 : n0 ≤ b1) (g2 : n0 ≤ b2) (ne0_1 : b0 ≠ b1) (ne0_2 : b0 ≠ b2) (ne1_2 : b1 ≠ b2) :
    MetFree l (⟨"com/example/porter_drive/porterdrive/RequestQueue", "removeFirst", "()V"⟩ : MethodName) (head1 (Jvm.Cond.code (⟨"com/example/porter_drive/porterdrive/RequestQueue", "removeFirst", "()V"⟩ : MethodName) prog_24_method_5_code 1 none :: ws) rx4) (fun a U => a = #[(.ref b0)] ∧ Z.Warmed39 U.vm ∧ U.heap = h0) (fun _ _ _ _ _ => True) (fun _ U o' U' => ∃ v L, o' = .returned v ∧ Q4 Z b0 u0_size b1 l1 b2 l2 h0 n0 o v U'.heap L ∧ FrameEnd U o' U' L rx4.cells rx4.slots) := by
  refine MetFree.of_bodySF (plainFor_of_name pn4) hisR ?_
  intro p e s m args below meth c s₁ Bd hml0 hP hK
  obtain ⟨rfl, hZ, hh⟩ := hP
  have X0 : Stand p l e rx4 s m #[(.ref b0)] below meth c s₁ [] 0 0 := Stand.of_body Bd
  have e0 : s₁.heap = h0 := by rw [← hh, Bd.state]; rfl
  exact OwnOut.at (ef4 m b0) (w4_0 ⟨Bd.exec, hZ, hw, Bd.bytes, hml0, findClass_of_methodNamed Bd.named, Bd.returns, Bd.notSynchronized, (name_of_methodNamed Bd.named Bd.method).1⟩ _ _ _ b0 u0_size b1 l1 b2 l2 o hr X0 e0 (Fr.nil n0) O0 (Keep.refl _ _) E0 F0_times F0_clients F0_size A1 A2 g0 g1 g2 ne0_1 ne0_2 ne1_2)
-- body 6 as 6: com/example/porter_drive/porterdrive/RequestQueue.delayFirst:(J)V
theorem d6_0 : decode prog_24_method_6_code 0 = .ok (.aload_n 0, 1) := by decide +kernel
theorem d6_1 : decode prog_24_method_6_code 1 = .ok (.getfield 7, 3) := by decide +kernel
theorem d6_4 : decode prog_24_method_6_code 4 = .ok (.iconst 0, 1) := by decide +kernel
theorem d6_5 : decode prog_24_method_6_code 5 = .ok (.lload_n 1, 1) := by decide +kernel
theorem d6_6 : decode prog_24_method_6_code 6 = .ok (.lastore, 1) := by decide +kernel
theorem d6_7 : decode prog_24_method_6_code 7 = .ok (.aload_n 0, 1) := by decide +kernel
theorem d6_8 : decode prog_24_method_6_code 8 = .ok (.invokevirtual 21, 3) := by decide +kernel
theorem d6_11 : decode prog_24_method_6_code 11 = .ok (.return_, 1) := by decide +kernel
theorem pn6 : plainName "com/example/porter_drive/porterdrive/RequestQueue" = true := by first | (simp [plainName, overriddenIn]; done) | decide +kernel
theorem pd6 : parseMethodDescriptor "(J)V" = some ⟨[.long], none⟩ := by decide +kernel
theorem ef6 (m : MethodId) (b0 : Addr) (x1 : Int64) : entryFrame m #[(.ref b0), (.long x1)] 3 = mkF m 0 #[.val (.ref b0), .val (.long x1), .second] [] := by first | (simp [entryFrame, mkF, argsToLocals, Value.category]; done) | rfl
abbrev rx6 : Room := { frames := 2, cells := 0, slots := 0, locals := 34 }
abbrev Cx6 (Z : State) (a0 : Array Value) (p : Program) (s : State) (m : MethodId) (meth : Method) (c : Code) : Prop := p.tables.exec = Jvm.exec ∧ Z.Warmed39 s.vm ∧ (∀ d ∈ tables_1, d.before a0 Z = true) ∧ c.code = prog_24_method_6_code ∧ c.maxLocals = 3 ∧ s.vm.findClass "com/example/porter_drive/porterdrive/RequestQueue" = some m.cls ∧ meth.sig.returnType = none ∧ meth.locks = false ∧ meth.name = "delayFirst"
def Q6 (Z : State) (x1 : Int64) (b0 : Addr) (u0_size : Int32) (b1 : Addr) (l1 : List Int64) (b2 : Addr) (l2 : List Int32) (h0 : Heap) (n0 : Nat) (o : List Int64 × List Int32) (v : Option Value) (h : Heap) (L : List Loc) : Prop := v = none ∧ Fr n0 L ∧ Keep h0 h [b1, b2] ∧ Arj Z h b1 o.1 ∧ Ari Z h b2 .int o.2
def f6 (x1 : Int64) (u0_size : Int32) (l1 : List Int64) (l2 : List Int32) : Option (List Int64 × List Int32) := ((stx l1 (0 : Int32) x1).bind fun l_2 => ((f5 u0_size l_2 l2).bind fun o3 => some (o3.1, o3.2)))
set_option maxRecDepth 65536 in
set_option maxHeartbeats 40000000 in
theorem w6_0 {p : Program} {l : Launch} {e : Env} {s : State} {m : MethodId} {args : Array Value} {below : List Frame} {meth : Method} {c : Code} {Z : State} {a0 : Array Value} {h0 : Heap} {n0 : Nat} (C : Cx6 Z a0 p s m meth c) :
    ∀ (T : State) (locs : List Loc) (hA : Heap) (x1 : Int64) (b0 : Addr) (u0_size : Int32) (b1 : Addr) (l1 : List Int64) (b2 : Addr) (l2 : List Int32) (o : List Int64 × List Int32), f6 x1 u0_size l1 l2 = some o → Stand p l e rx6 s m args below meth c T locs 0 0 → T.heap = hA → Fr n0 locs → Old Z n0 hA → Keep h0 hA [b1, b2] → (Exa Z hA b0 "com/example/porter_drive/porterdrive/RequestQueue") → (Fld Z hA b0 "com/example/porter_drive/porterdrive/RequestQueue" "times" "[J" (.ref b1)) → (Fld Z hA b0 "com/example/porter_drive/porterdrive/RequestQueue" "clients" "[I" (.ref b2)) → (Fld Z hA b0 "com/example/porter_drive/porterdrive/RequestQueue" "size" "I" (.int u0_size)) → (Arj Z hA b1 l1) → (Ari Z hA b2 .int l2) → (n0 ≤ b0) → (n0 ≤ b1) → (n0 ≤ b2) → (b0 ≠ b1) → (b0 ≠ b2) → (b1 ≠ b2) →  OwnOut p e s below 0 0 (Q6 Z default b0 u0_size b1 [] b2 [] h0 n0 o) (T.setTop (mkF m 0 #[.val (.ref b0), .val (.long x1), .second] [])) := by
    obtain ⟨hx, hZ, hw, hby, hml, hown, hret, hlk, hnm⟩ := C
    intro T locs hA x1 b0 u0_size b1 l1 b2 l2 o hr X0 e0 N0 O0 K0 E0 F0_times F0_clients F0_size A1 A2 g0 g1 g2 ne0_1 ne0_2 ne1_2
    rw [f6] at hr
    refine OwnOut.go (fun t k => XS.aloadN X0.here hx rfl (hb hby d6_0) rfl rfl k) ?_
    show OwnOut p e s below 0 0 _ (T.setTop (mkF m 1 #[.val (.ref b0), .val (.long x1), .second] [(.ref b0)]))
    obtain ⟨T1, X1, e1, st1⟩ := getF X0 hx hZ hown (host := "") (Or.inl (hw _ (List.mem_of_getElem? (i := 11) rfl))) Via.refl e0 F0_times (g := (mkF m 1 #[.val (.ref b0), .val (.long x1), .second] [(.ref b0)])) rfl rfl (hb hby d6_1)
    refine OwnOut.go (fun t k => st1 _ k) ?_
    show OwnOut p e s below 0 0 _ (T1.setTop (mkF m 4 #[.val (.ref b0), .val (.long x1), .second] [(.ref b1)]))
    refine OwnOut.go (fun t k => XT.iconstV X1.here hx rfl (0 : Int32) (hb hby d6_4) rfl k) ?_
    show OwnOut p e s below 0 0 _ (T1.setTop (mkF m 5 #[.val (.ref b0), .val (.long x1), .second] [(.int (0 : Int32)), (.ref b1)]))
    refine OwnOut.go (fun t k => XS.lloadN X1.here hx rfl (hb hby d6_5) rfl k) ?_
    show OwnOut p e s below 0 0 _ (T1.setTop (mkF m 6 #[.val (.ref b0), .val (.long x1), .second] [(.long x1), (.int (0 : Int32)), (.ref b1)]))
    obtain ⟨l_2, hl2, hr⟩ := Option.bind_eq_some_iff.mp hr
    obtain ⟨T2, h2, X2, e2, W2, A_2, st2⟩ := saJ X1 hx hZ e1 A1 hl2 (g := (mkF m 6 #[.val (.ref b0), .val (.long x1), .second] [(.long x1), (.int (0 : Int32)), (.ref b1)])) rfl rfl (hb hby d6_6)
    refine OwnOut.go (fun t k => st2 _ k) ?_
    have E0_2 := E0.wr W2
    have F0_times_2 := F0_times.other W2 (Or.inl ne0_1)
    have F0_clients_2 := F0_clients.other W2 (Or.inl ne0_1)
    have F0_size_2 := F0_size.other W2 (Or.inl ne0_1)
    have A2_2 := A2.other W2 (Ne.symm ne1_2)
    have N_2 := Fr.snoc X2 N0 g1
    have O_2 := O0.wr W2 g1
    have K_2 := K0.wr W2 (Or.inl (List.mem_of_getElem? (i := 0) rfl))
    show OwnOut p e s below 0 0 _ (T2.setTop (mkF m 7 #[.val (.ref b0), .val (.long x1), .second] []))
    refine OwnOut.go (fun t k => XS.aloadN X2.here hx rfl (hb hby d6_7) rfl rfl k) ?_
    show OwnOut p e s below 0 0 _ (T2.setTop (mkF m 8 #[.val (.ref b0), .val (.long x1), .second] [(.ref b0)]))
    obtain ⟨o3, ho3, hr⟩ := Option.bind_eq_some_iff.mp hr
    obtain ⟨r3, T3, L3, X3', hQ3, st3⟩ := callR (W := 0) (rm := rx5) X2 hx hZ (y := (⟨"com/example/porter_drive/porterdrive/RequestQueue", "siftDown", "()V"⟩ : MethodName)) hown (hw _ (List.mem_of_getElem? (i := 28) rfl)) (hw _ (List.mem_of_getElem? (i := 30) rfl)) (hw _ (List.mem_of_getElem? (i := 2) rfl)) (hw _ (List.mem_of_getElem? (i := 29) rfl)) (hw _ (List.mem_of_getElem? (i := 3) rfl)) (hw _ (List.mem_of_getElem? (i := 31) rfl)) (by decide) (rm5 l Z a0 hw [] b0 u0_size b1 l_2 b2 l2 h2 n0 o3 ho3 O_2 E0_2 F0_times_2 F0_clients_2 F0_size_2 A_2 A2_2 g0 g1 g2 ne0_1 ne0_2 ne1_2) (by decide) (by decide) (by decide) (by decide) e2 E0_2 (g := (mkF m 8 #[.val (.ref b0), .val (.long x1), .second] [(.ref b0)])) rfl (by rw [hml]; rfl) (argsL := []) (rest := []) (lenOf pd5 rfl) rfl (by show 2 * 0 + _ ≤ _; exact Nat.le_of_eq rfl) (hb hby d6_8)
    obtain ⟨rfl, Nq3, Kq3, A1_3, A2_3⟩ := hQ3
    have X3 : Stand p l e rx6 s m args below meth c T3 _ 0 0 := X3'
    have E0_3 := E0_2.keep Kq3
    have F0_times_3 := F0_times_2.keep Kq3 (ninS ne0_1 (ninS ne0_2 nin0))
    have F0_clients_3 := F0_clients_2.keep Kq3 (ninS ne0_1 (ninS ne0_2 nin0))
    have F0_size_3 := F0_size_2.keep Kq3 (ninS ne0_1 (ninS ne0_2 nin0))
    have N_3 := Fr.app N_2 Nq3
    have O_3 := O_2.keep Kq3 (allS g1 (allS g2 all0))
    have K_3 := K_2.trans Kq3 (allS (Or.inl (List.mem_of_getElem? (i := 0) rfl)) (allS (Or.inl (List.mem_of_getElem? (i := 1) rfl)) all0))
    refine OwnOut.go (fun t k => st3 _ k) ?_
    show OwnOut p e s below 0 0 _ (T3.setTop (mkF m 11 #[.val (.ref b0), .val (.long x1), .second] []))
    cases hr
    exact outV X3 hx hret (hb hby d6_11) hlk (by decide) (by decide) ⟨rfl, N_3, K_3, A1_3, A2_3⟩
set_option maxRecDepth 65536 in
set_option maxHeartbeats 40000000 in
theorem rm6 (l : Launch) (Z : State) (a0 : Array Value) (hw : ∀ d ∈ tables_1, d.before a0 Z = true) (ws : List Jvm.Cond) (x1 : Int64) (b0 : Addr) (u0_size : Int32) (b1 : Addr) (l1 : List Int64) (b2 : Addr) (l2 : List Int32) (h0 : Heap) (n0 : Nat) (o : List Int64 × List Int32) (hr : f6 x1 u0_size l1 l2 = some o) (O0 : Old Z n0 h0) (E0 : Exa Z h0 b0 "com/example/porter_drive/porterdrive/RequestQueue") (F0_times : Fld Z h0 b0 "com/example/porter_drive/porterdrive/RequestQueue" "times" "[J" (.ref b1)) (F0_clients : Fld Z h0 b0 "com/example/porter_drive/porterdrive/RequestQueue" "clients" "[I" (.ref b2)) (F0_size : Fld Z h0 b0 "com/example/porter_drive/porterdrive/RequestQueue" "size" "I" (.int u0_size)) (A1 : Arj Z h0 b1 l1) (A2 : Ari Z h0 b2 .int l2) (g0 : n0 ≤ b0) (g1 : n0 ≤ b1) (g2 : n0 ≤ b2) (ne0_1 : b0 ≠ b1) (ne0_2 : b0 ≠ b2) (ne1_2 : b1 ≠ b2) :
    MetFree l (⟨"com/example/porter_drive/porterdrive/RequestQueue", "delayFirst", "(J)V"⟩ : MethodName) (head1 (Jvm.Cond.code (⟨"com/example/porter_drive/porterdrive/RequestQueue", "delayFirst", "(J)V"⟩ : MethodName) prog_24_method_6_code 3 none :: ws) rx6) (fun a U => a = #[(.ref b0), (.long x1)] ∧ Z.Warmed39 U.vm ∧ U.heap = h0) (fun _ _ _ _ _ => True) (fun _ U o' U' => ∃ v L, o' = .returned v ∧ Q6 Z x1 b0 u0_size b1 l1 b2 l2 h0 n0 o v U'.heap L ∧ FrameEnd U o' U' L rx6.cells rx6.slots) := by
  refine MetFree.of_bodySF (plainFor_of_name pn6) hisR ?_
  intro p e s m args below meth c s₁ Bd hml0 hP hK
  obtain ⟨rfl, hZ, hh⟩ := hP
  have X0 : Stand p l e rx6 s m #[(.ref b0), (.long x1)] below meth c s₁ [] 0 0 := Stand.of_body Bd
  have e0 : s₁.heap = h0 := by rw [← hh, Bd.state]; rfl
  exact OwnOut.at (ef6 m b0 x1) (w6_0 ⟨Bd.exec, hZ, hw, Bd.bytes, hml0, findClass_of_methodNamed Bd.named, Bd.returns, Bd.notSynchronized, (name_of_methodNamed Bd.named Bd.method).1⟩ _ _ _ x1 b0 u0_size b1 l1 b2 l2 o hr X0 e0 (Fr.nil n0) O0 (Keep.refl _ _) E0 F0_times F0_clients F0_size A1 A2 g0 g1 g2 ne0_1 ne0_2 ne1_2)
-- body 0 as 0: com/example/porter_drive/porterdrive/RequestQueueIsEmptyPinLaw.law:(IIIJ)Z
theorem pn0 : plainName "com/example/porter_drive/porterdrive/RequestQueueIsEmptyPinLaw" = true := by first | (simp [plainName, overriddenIn]; done) | decide +kernel
theorem pd0 : parseMethodDescriptor "(IIIJ)Z" = some ⟨[.int, .int, .int, .long], some .boolean⟩ := by decide +kernel
theorem ef0 (m : MethodId) (x0 : Int32) (x1 : Int32) (x2 : Int32) (x3 : Int64) : entryFrame m #[(.int x0), (.int x1), (.int x2), (.long x3)] maxLocals = mkF m 0 #[.val (.int x0), .val (.int x1), .val (.int x2), .val (.long x3), .second, .unset, .unset, .unset, .unset] [] := by first | (simp [entryFrame, mkF, argsToLocals, Value.category, maxLocals]; done) | rfl
abbrev Cx0 (Z : State) (a0 : Array Value) (p : Program) (s : State) (m : MethodId) (meth : Method) (c : Code) : Prop := p.tables.exec = Jvm.exec ∧ Z.Warmed39 s.vm ∧ (∀ d ∈ tables_1, d.before a0 Z = true) ∧ c.code = code ∧ c.maxLocals = 9 ∧ s.vm.findClass "com/example/porter_drive/porterdrive/RequestQueueIsEmptyPinLaw" = some m.cls ∧ meth.sig.returnType = (some .boolean) ∧ meth.locks = false ∧ meth.name = "law"
def Q0 (Z : State) (x0 : Int32) (x1 : Int32) (x2 : Int32) (x3 : Int64) (h0 : Heap) (n0 : Nat) (o : Int32) (v : Option Value) (h : Heap) (L : List Loc) : Prop := v = some (.int o) ∧ Fr n0 L
def f0_126 (y0 : Int32) (y1 : Int32) : Option (Int32) := (if y1 = y0 then some ((1 : Int32)) else some ((0 : Int32)))
set_option maxRecDepth 65536 in
set_option maxHeartbeats 40000000 in
theorem w0_126 {p : Program} {l : Launch} {e : Env} {s : State} {m : MethodId} {args : Array Value} {below : List Frame} {meth : Method} {c : Code} {Z : State} {a0 : Array Value} {h0 : Heap} {n0 : Nat} (C : Cx0 Z a0 p s m meth c) :
    ∀ (T : State) (locs : List Loc) (hA : Heap) (x0 : Int32) (x1 : Int32) (x2 : Int32) (x3 : Int64) (x5 : Int32) (x6 : Int32) (x8 : Int32) (y0 : Int32) (y1 : Int32) (b0 : Addr) (u0_size : Int32) (b1 : Addr) (l1 : List Int64) (b2 : Addr) (l2 : List Int32) (o : Int32), f0_126 y0 y1 = some o → Stand p l e room_1 s m args below meth c T locs 3 11 → T.heap = hA → Fr n0 locs → Old Z n0 hA → Keep h0 hA [] → (Exa Z hA b0 "com/example/porter_drive/porterdrive/RequestQueue") → (Fld Z hA b0 "com/example/porter_drive/porterdrive/RequestQueue" "times" "[J" (.ref b1)) → (Fld Z hA b0 "com/example/porter_drive/porterdrive/RequestQueue" "clients" "[I" (.ref b2)) → (Fld Z hA b0 "com/example/porter_drive/porterdrive/RequestQueue" "size" "I" (.int u0_size)) → (Arj Z hA b1 l1) → (Ari Z hA b2 .int l2) → (n0 ≤ b0) → (h0.size ≤ b0) → (n0 ≤ b1) → (h0.size ≤ b1) → (n0 ≤ b2) → (h0.size ≤ b2) → (b0 ≠ b1) → (b0 ≠ b2) → (b1 ≠ b2) →  OwnOut p e s below 16 128 (Q0 Z default default default default h0 n0 o) (T.setTop (mkF m 126 #[.val (.int x0), .val (.int x1), .val (.int x2), .val (.long x3), .second, .val (.int x5), .val (.int x6), .val (.ref b0), .val (.int x8)] [(.int y0), (.int y1)])) := by
    obtain ⟨hx, hZ, hw, hby, hml, hown, hret, hlk, hnm⟩ := C
    intro T locs hA x0 x1 x2 x3 x5 x6 x8 y0 y1 b0 u0_size b1 l1 b2 l2 o hr X0 e0 N0 O0 K0 E0 F0_times F0_clients F0_size A1 A2 g0 z0 g1 z1 g2 z2 ne0_1 ne0_2 ne1_2
    rw [f0_126] at hr
    by_cases hc126 : y1 = y0
    · rw [if_pos hc126] at hr
      refine OwnOut.go (fun t k => XS.icmpNo X0.here hx rfl (hb hby at_126) rfl (XT.ii_ne_f hc126) k) ?_
      show OwnOut p e s below 16 128 _ (T.setTop (mkF m 129 #[.val (.int x0), .val (.int x1), .val (.int x2), .val (.long x3), .second, .val (.int x5), .val (.int x6), .val (.ref b0), .val (.int x8)] []))
      refine OwnOut.go (fun t k => XT.iconstV X0.here hx rfl (1 : Int32) (hb hby at_129) rfl k) ?_
      show OwnOut p e s below 16 128 _ (T.setTop (mkF m 130 #[.val (.int x0), .val (.int x1), .val (.int x2), .val (.long x3), .second, .val (.int x5), .val (.int x6), .val (.ref b0), .val (.int x8)] [(.int (1 : Int32))]))
      refine OwnOut.go (fun t k => XS.goto X0.here hx rfl (pc0 := 130) (pc' := 134) rfl (hb hby at_130) (by decide) (by decide) k) ?_
      show OwnOut p e s below 16 128 _ (T.setTop (mkF m 134 #[.val (.int x0), .val (.int x1), .val (.int x2), .val (.long x3), .second, .val (.int x5), .val (.int x6), .val (.ref b0), .val (.int x8)] [(.int (1 : Int32))]))
      cases hr
      exact outZ X0 hx hret (hb hby at_134) hlk (by decide) (by decide) ⟨rfl, N0⟩
    · rw [if_neg hc126] at hr
      refine OwnOut.go (fun t k => XS.icmpYes X0.here hx rfl (pc0 := 126) (pc' := 133) rfl (hb hby at_126) rfl (XT.ii_ne_t hc126) (by decide) (by decide) k) ?_
      show OwnOut p e s below 16 128 _ (T.setTop (mkF m 133 #[.val (.int x0), .val (.int x1), .val (.int x2), .val (.long x3), .second, .val (.int x5), .val (.int x6), .val (.ref b0), .val (.int x8)] []))
      refine OwnOut.go (fun t k => XT.iconstV X0.here hx rfl (0 : Int32) (hb hby at_133) rfl k) ?_
      show OwnOut p e s below 16 128 _ (T.setTop (mkF m 134 #[.val (.int x0), .val (.int x1), .val (.int x2), .val (.long x3), .second, .val (.int x5), .val (.int x6), .val (.ref b0), .val (.int x8)] [(.int (0 : Int32))]))
      cases hr
      exact outZ X0 hx hret (hb hby at_134) hlk (by decide) (by decide) ⟨rfl, N0⟩
def f0_104 (x5 : Int32) (x6 : Int32) (x8 : Int32) (u0_size : Int32) (l1 : List Int64) (l2 : List Int32) : Option (Int32) := (if x8 = (0 : Int32) then some ((0 : Int32)) else ((f3 u0_size l1 l2).bind fun o4 => (if x6 = x5 then (f0_126 (1 : Int32) o4) else (f0_126 (0 : Int32) o4))))
set_option maxRecDepth 65536 in
set_option maxHeartbeats 40000000 in
theorem w0_104 {p : Program} {l : Launch} {e : Env} {s : State} {m : MethodId} {args : Array Value} {below : List Frame} {meth : Method} {c : Code} {Z : State} {a0 : Array Value} {h0 : Heap} {n0 : Nat} (C : Cx0 Z a0 p s m meth c) :
    ∀ (T : State) (locs : List Loc) (hA : Heap) (x0 : Int32) (x1 : Int32) (x2 : Int32) (x3 : Int64) (x5 : Int32) (x6 : Int32) (x8 : Int32) (b0 : Addr) (u0_size : Int32) (b1 : Addr) (l1 : List Int64) (b2 : Addr) (l2 : List Int32) (o : Int32), f0_104 x5 x6 x8 u0_size l1 l2 = some o → Stand p l e room_1 s m args below meth c T locs 3 11 → T.heap = hA → Fr n0 locs → Old Z n0 hA → Keep h0 hA [] → (Exa Z hA b0 "com/example/porter_drive/porterdrive/RequestQueue") → (Fld Z hA b0 "com/example/porter_drive/porterdrive/RequestQueue" "times" "[J" (.ref b1)) → (Fld Z hA b0 "com/example/porter_drive/porterdrive/RequestQueue" "clients" "[I" (.ref b2)) → (Fld Z hA b0 "com/example/porter_drive/porterdrive/RequestQueue" "size" "I" (.int u0_size)) → (Arj Z hA b1 l1) → (Ari Z hA b2 .int l2) → (n0 ≤ b0) → (h0.size ≤ b0) → (n0 ≤ b1) → (h0.size ≤ b1) → (n0 ≤ b2) → (h0.size ≤ b2) → (b0 ≠ b1) → (b0 ≠ b2) → (b1 ≠ b2) →  OwnOut p e s below 16 128 (Q0 Z default default default default h0 n0 o) (T.setTop (mkF m 104 #[.val (.int x0), .val (.int x1), .val (.int x2), .val (.long x3), .second, .val (.int x5), .val (.int x6), .val (.ref b0), .val (.int x8)] [])) := by
    obtain ⟨hx, hZ, hw, hby, hml, hown, hret, hlk, hnm⟩ := C
    intro T locs hA x0 x1 x2 x3 x5 x6 x8 b0 u0_size b1 l1 b2 l2 o hr X0 e0 N0 O0 K0 E0 F0_times F0_clients F0_size A1 A2 g0 z0 g1 z1 g2 z2 ne0_1 ne0_2 ne1_2
    rw [f0_104] at hr
    refine OwnOut.go (fun t k => XS.iload X0.here hx rfl (hb hby at_104) rfl k) ?_
    show OwnOut p e s below 16 128 _ (T.setTop (mkF m 106 #[.val (.int x0), .val (.int x1), .val (.int x2), .val (.long x3), .second, .val (.int x5), .val (.int x6), .val (.ref b0), .val (.int x8)] [(.int x8)]))
    by_cases hc106 : x8 = (0 : Int32)
    · rw [if_pos hc106] at hr
      refine OwnOut.go (fun t k => XS.ifYes X0.here hx rfl (pc0 := 106) (pc' := 133) rfl (hb hby at_106) rfl (XT.i0_eq_t hc106) (by decide) (by decide) k) ?_
      show OwnOut p e s below 16 128 _ (T.setTop (mkF m 133 #[.val (.int x0), .val (.int x1), .val (.int x2), .val (.long x3), .second, .val (.int x5), .val (.int x6), .val (.ref b0), .val (.int x8)] []))
      refine OwnOut.go (fun t k => XT.iconstV X0.here hx rfl (0 : Int32) (hb hby at_133) rfl k) ?_
      show OwnOut p e s below 16 128 _ (T.setTop (mkF m 134 #[.val (.int x0), .val (.int x1), .val (.int x2), .val (.long x3), .second, .val (.int x5), .val (.int x6), .val (.ref b0), .val (.int x8)] [(.int (0 : Int32))]))
      cases hr
      exact outZ X0 hx hret (hb hby at_134) hlk (by decide) (by decide) ⟨rfl, N0⟩
    · rw [if_neg hc106] at hr
      refine OwnOut.go (fun t k => XS.ifNo X0.here hx rfl (hb hby at_106) rfl (XT.i0_eq_f hc106) k) ?_
      show OwnOut p e s below 16 128 _ (T.setTop (mkF m 109 #[.val (.int x0), .val (.int x1), .val (.int x2), .val (.long x3), .second, .val (.int x5), .val (.int x6), .val (.ref b0), .val (.int x8)] []))
      refine OwnOut.go (fun t k => XS.aload X0.here hx rfl (hb hby at_109) rfl rfl k) ?_
      show OwnOut p e s below 16 128 _ (T.setTop (mkF m 111 #[.val (.int x0), .val (.int x1), .val (.int x2), .val (.long x3), .second, .val (.int x5), .val (.int x6), .val (.ref b0), .val (.int x8)] [(.ref b0)]))
      obtain ⟨o4, ho4, hr⟩ := Option.bind_eq_some_iff.mp hr
      obtain ⟨r4, T4, L4, X4', hQ4, st4⟩ := callV (W := 0) (rm := rx3) X0 hx hZ (y := (⟨"com/example/porter_drive/porterdrive/RequestQueue", "isEmpty", "()Z"⟩ : MethodName)) hown (hw _ (List.mem_of_getElem? (i := 18) rfl)) (hw _ (List.mem_of_getElem? (i := 19) rfl)) (hw _ (List.mem_of_getElem? (i := 21) rfl)) (hw _ (List.mem_of_getElem? (i := 20) rfl)) (hw _ (List.mem_of_getElem? (i := 3) rfl)) (hw _ (List.mem_of_getElem? (i := 22) rfl)) (by decide) (rm3 l Z a0 hw [] b0 u0_size b1 l1 b2 l2 hA o4 ho4 E0 F0_times F0_clients F0_size A1 A2) (by decide) (by decide) (by decide) (by decide) e0 E0 (g := (mkF m 111 #[.val (.int x0), .val (.int x1), .val (.int x2), .val (.long x3), .second, .val (.int x5), .val (.int x6), .val (.ref b0), .val (.int x8)] [(.ref b0)])) rfl (by rw [hml]; rfl) (argsL := []) (rest := []) (lenOf pd3 rfl) rfl (by show 2 * 0 + _ ≤ _; exact Nat.le_of_eq rfl) (hb hby at_111)
      obtain ⟨rfl, e4, rfl⟩ := hQ4
      rw [List.append_nil] at X4'
      have X4 : Stand p l e room_1 s m args below meth c T4 _ 3 11 := X4'
      refine OwnOut.go (fun t k => st4 _ k) ?_
      show OwnOut p e s below 16 128 _ (T4.setTop (mkF m 114 #[.val (.int x0), .val (.int x1), .val (.int x2), .val (.long x3), .second, .val (.int x5), .val (.int x6), .val (.ref b0), .val (.int x8)] [(.int o4)]))
      refine OwnOut.go (fun t k => XS.iload X4.here hx rfl (hb hby at_114) rfl k) ?_
      show OwnOut p e s below 16 128 _ (T4.setTop (mkF m 116 #[.val (.int x0), .val (.int x1), .val (.int x2), .val (.long x3), .second, .val (.int x5), .val (.int x6), .val (.ref b0), .val (.int x8)] [(.int x6), (.int o4)]))
      refine OwnOut.go (fun t k => XS.iload X4.here hx rfl (hb hby at_116) rfl k) ?_
      show OwnOut p e s below 16 128 _ (T4.setTop (mkF m 118 #[.val (.int x0), .val (.int x1), .val (.int x2), .val (.long x3), .second, .val (.int x5), .val (.int x6), .val (.ref b0), .val (.int x8)] [(.int x5), (.int x6), (.int o4)]))
      by_cases hc118 : x6 = x5
      · rw [if_pos hc118] at hr
        refine OwnOut.go (fun t k => XS.icmpNo X4.here hx rfl (hb hby at_118) rfl (XT.ii_ne_f hc118) k) ?_
        show OwnOut p e s below 16 128 _ (T4.setTop (mkF m 121 #[.val (.int x0), .val (.int x1), .val (.int x2), .val (.long x3), .second, .val (.int x5), .val (.int x6), .val (.ref b0), .val (.int x8)] [(.int o4)]))
        refine OwnOut.go (fun t k => XT.iconstV X4.here hx rfl (1 : Int32) (hb hby at_121) rfl k) ?_
        show OwnOut p e s below 16 128 _ (T4.setTop (mkF m 122 #[.val (.int x0), .val (.int x1), .val (.int x2), .val (.long x3), .second, .val (.int x5), .val (.int x6), .val (.ref b0), .val (.int x8)] [(.int (1 : Int32)), (.int o4)]))
        refine OwnOut.go (fun t k => XS.goto X4.here hx rfl (pc0 := 122) (pc' := 126) rfl (hb hby at_122) (by decide) (by decide) k) ?_
        show OwnOut p e s below 16 128 _ (T4.setTop (mkF m 126 #[.val (.int x0), .val (.int x1), .val (.int x2), .val (.long x3), .second, .val (.int x5), .val (.int x6), .val (.ref b0), .val (.int x8)] [(.int (1 : Int32)), (.int o4)]))
        exact w0_126 ⟨hx, hZ, hw, hby, hml, hown, hret, hlk, hnm⟩  _ _ _ x0 x1 x2 x3 x5 x6 x8 (1 : Int32) o4 b0 u0_size b1 l1 b2 l2 _ hr X4 e4 N0 O0 K0 E0 F0_times F0_clients F0_size A1 A2 g0 z0 g1 z1 g2 z2 ne0_1 ne0_2 ne1_2
      · rw [if_neg hc118] at hr
        refine OwnOut.go (fun t k => XS.icmpYes X4.here hx rfl (pc0 := 118) (pc' := 125) rfl (hb hby at_118) rfl (XT.ii_ne_t hc118) (by decide) (by decide) k) ?_
        show OwnOut p e s below 16 128 _ (T4.setTop (mkF m 125 #[.val (.int x0), .val (.int x1), .val (.int x2), .val (.long x3), .second, .val (.int x5), .val (.int x6), .val (.ref b0), .val (.int x8)] [(.int o4)]))
        refine OwnOut.go (fun t k => XT.iconstV X4.here hx rfl (0 : Int32) (hb hby at_125) rfl k) ?_
        show OwnOut p e s below 16 128 _ (T4.setTop (mkF m 126 #[.val (.int x0), .val (.int x1), .val (.int x2), .val (.long x3), .second, .val (.int x5), .val (.int x6), .val (.ref b0), .val (.int x8)] [(.int (0 : Int32)), (.int o4)]))
        exact w0_126 ⟨hx, hZ, hw, hby, hml, hown, hret, hlk, hnm⟩  _ _ _ x0 x1 x2 x3 x5 x6 x8 (0 : Int32) o4 b0 u0_size b1 l1 b2 l2 _ hr X4 e4 N0 O0 K0 E0 F0_times F0_clients F0_size A1 A2 g0 z0 g1 z1 g2 z2 ne0_1 ne0_2 ne1_2
def f0_93 (x5 : Int32) (x6 : Int32) (x8 : Int32) (u0_size : Int32) (l1 : List Int64) (l2 : List Int32) : Option (Int32) := (if x6 < (4 : Int32) then (f0_104 x5 x6 x8 u0_size l1 l2) else ((f4 u0_size l1 l2).bind fun o5 => (f0_104 x5 x6 x8 o5.1 o5.2.1 o5.2.2)))
set_option maxRecDepth 65536 in
set_option maxHeartbeats 40000000 in
theorem w0_93 {p : Program} {l : Launch} {e : Env} {s : State} {m : MethodId} {args : Array Value} {below : List Frame} {meth : Method} {c : Code} {Z : State} {a0 : Array Value} {h0 : Heap} {n0 : Nat} (C : Cx0 Z a0 p s m meth c) :
    ∀ (T : State) (locs : List Loc) (hA : Heap) (x0 : Int32) (x1 : Int32) (x2 : Int32) (x3 : Int64) (x5 : Int32) (x6 : Int32) (x8 : Int32) (b0 : Addr) (u0_size : Int32) (b1 : Addr) (l1 : List Int64) (b2 : Addr) (l2 : List Int32) (o : Int32), f0_93 x5 x6 x8 u0_size l1 l2 = some o → Stand p l e room_1 s m args below meth c T locs 3 11 → T.heap = hA → Fr n0 locs → Old Z n0 hA → Keep h0 hA [] → (Exa Z hA b0 "com/example/porter_drive/porterdrive/RequestQueue") → (Fld Z hA b0 "com/example/porter_drive/porterdrive/RequestQueue" "times" "[J" (.ref b1)) → (Fld Z hA b0 "com/example/porter_drive/porterdrive/RequestQueue" "clients" "[I" (.ref b2)) → (Fld Z hA b0 "com/example/porter_drive/porterdrive/RequestQueue" "size" "I" (.int u0_size)) → (Arj Z hA b1 l1) → (Ari Z hA b2 .int l2) → (n0 ≤ b0) → (h0.size ≤ b0) → (n0 ≤ b1) → (h0.size ≤ b1) → (n0 ≤ b2) → (h0.size ≤ b2) → (b0 ≠ b1) → (b0 ≠ b2) → (b1 ≠ b2) →  OwnOut p e s below 16 128 (Q0 Z default default default default h0 n0 o) (T.setTop (mkF m 93 #[.val (.int x0), .val (.int x1), .val (.int x2), .val (.long x3), .second, .val (.int x5), .val (.int x6), .val (.ref b0), .val (.int x8)] [])) := by
    obtain ⟨hx, hZ, hw, hby, hml, hown, hret, hlk, hnm⟩ := C
    intro T locs hA x0 x1 x2 x3 x5 x6 x8 b0 u0_size b1 l1 b2 l2 o hr X0 e0 N0 O0 K0 E0 F0_times F0_clients F0_size A1 A2 g0 z0 g1 z1 g2 z2 ne0_1 ne0_2 ne1_2
    rw [f0_93] at hr
    refine OwnOut.go (fun t k => XS.iload X0.here hx rfl (hb hby at_93) rfl k) ?_
    show OwnOut p e s below 16 128 _ (T.setTop (mkF m 95 #[.val (.int x0), .val (.int x1), .val (.int x2), .val (.long x3), .second, .val (.int x5), .val (.int x6), .val (.ref b0), .val (.int x8)] [(.int x6)]))
    refine OwnOut.go (fun t k => XT.iconstV X0.here hx rfl (4 : Int32) (hb hby at_95) rfl k) ?_
    show OwnOut p e s below 16 128 _ (T.setTop (mkF m 96 #[.val (.int x0), .val (.int x1), .val (.int x2), .val (.long x3), .second, .val (.int x5), .val (.int x6), .val (.ref b0), .val (.int x8)] [(.int (4 : Int32)), (.int x6)]))
    by_cases hc96 : x6 < (4 : Int32)
    · rw [if_pos hc96] at hr
      refine OwnOut.go (fun t k => XS.icmpYes X0.here hx rfl (pc0 := 96) (pc' := 104) rfl (hb hby at_96) rfl (XT.ii_lt_t hc96) (by decide) (by decide) k) ?_
      show OwnOut p e s below 16 128 _ (T.setTop (mkF m 104 #[.val (.int x0), .val (.int x1), .val (.int x2), .val (.long x3), .second, .val (.int x5), .val (.int x6), .val (.ref b0), .val (.int x8)] []))
      exact w0_104 ⟨hx, hZ, hw, hby, hml, hown, hret, hlk, hnm⟩  _ _ _ x0 x1 x2 x3 x5 x6 x8 b0 u0_size b1 l1 b2 l2 _ hr X0 e0 N0 O0 K0 E0 F0_times F0_clients F0_size A1 A2 g0 z0 g1 z1 g2 z2 ne0_1 ne0_2 ne1_2
    · rw [if_neg hc96] at hr
      refine OwnOut.go (fun t k => XS.icmpNo X0.here hx rfl (hb hby at_96) rfl (XT.ii_lt_f hc96) k) ?_
      show OwnOut p e s below 16 128 _ (T.setTop (mkF m 99 #[.val (.int x0), .val (.int x1), .val (.int x2), .val (.long x3), .second, .val (.int x5), .val (.int x6), .val (.ref b0), .val (.int x8)] []))
      refine OwnOut.go (fun t k => XS.aload X0.here hx rfl (hb hby at_99) rfl rfl k) ?_
      show OwnOut p e s below 16 128 _ (T.setTop (mkF m 101 #[.val (.int x0), .val (.int x1), .val (.int x2), .val (.long x3), .second, .val (.int x5), .val (.int x6), .val (.ref b0), .val (.int x8)] [(.ref b0)]))
      obtain ⟨o5, ho5, hr⟩ := Option.bind_eq_some_iff.mp hr
      obtain ⟨r5, T5, L5, X5', hQ5, st5⟩ := callV (W := 0) (rm := rx4) X0 hx hZ (y := (⟨"com/example/porter_drive/porterdrive/RequestQueue", "removeFirst", "()V"⟩ : MethodName)) hown (hw _ (List.mem_of_getElem? (i := 23) rfl)) (hw _ (List.mem_of_getElem? (i := 24) rfl)) (hw _ (List.mem_of_getElem? (i := 26) rfl)) (hw _ (List.mem_of_getElem? (i := 25) rfl)) (hw _ (List.mem_of_getElem? (i := 3) rfl)) (hw _ (List.mem_of_getElem? (i := 27) rfl)) (by decide) (rm4 l Z a0 hw [] b0 u0_size b1 l1 b2 l2 hA n0 o5 ho5 O0 E0 F0_times F0_clients F0_size A1 A2 g0 g1 g2 ne0_1 ne0_2 ne1_2) (by decide) (by decide) (by decide) (by decide) e0 E0 (g := (mkF m 101 #[.val (.int x0), .val (.int x1), .val (.int x2), .val (.long x3), .second, .val (.int x5), .val (.int x6), .val (.ref b0), .val (.int x8)] [(.ref b0)])) rfl (by rw [hml]; rfl) (argsL := []) (rest := []) (lenOf pd4 rfl) rfl (by show 2 * 0 + _ ≤ _; exact Nat.le_of_eq rfl) (hb hby at_101)
      obtain ⟨rfl, Nq5, Kq5, F0_times_5, F0_clients_5, F0_size_5, A1_5, A2_5⟩ := hQ5
      have X5 : Stand p l e room_1 s m args below meth c T5 _ 3 11 := X5'
      have E0_5 := E0.keep Kq5
      have N_5 := Fr.app N0 Nq5
      have O_5 := O0.keep Kq5 (allS g0 (allS g1 (allS g2 all0)))
      have K_5 := K0.trans Kq5 (allS (Or.inr z0) (allS (Or.inr z1) (allS (Or.inr z2) all0)))
      refine OwnOut.go (fun t k => st5 _ k) ?_
      show OwnOut p e s below 16 128 _ (T5.setTop (mkF m 104 #[.val (.int x0), .val (.int x1), .val (.int x2), .val (.long x3), .second, .val (.int x5), .val (.int x6), .val (.ref b0), .val (.int x8)] []))
      exact w0_104 ⟨hx, hZ, hw, hby, hml, hown, hret, hlk, hnm⟩  _ _ _ x0 x1 x2 x3 x5 x6 x8 b0 o5.1 b1 o5.2.1 b2 o5.2.2 _ hr X5 rfl N_5 O_5 K_5 E0_5 F0_times_5 F0_clients_5 F0_size_5 A1_5 A2_5 g0 z0 g1 z1 g2 z2 ne0_1 ne0_2 ne1_2
def f0_82 (x5 : Int32) (x6 : Int32) (x8 : Int32) (u0_size : Int32) (l1 : List Int64) (l2 : List Int32) : Option (Int32) := (if x6 < (3 : Int32) then (f0_93 x5 x6 x8 u0_size l1 l2) else ((f4 u0_size l1 l2).bind fun o6 => (f0_93 x5 x6 x8 o6.1 o6.2.1 o6.2.2)))
set_option maxRecDepth 65536 in
set_option maxHeartbeats 40000000 in
theorem w0_82 {p : Program} {l : Launch} {e : Env} {s : State} {m : MethodId} {args : Array Value} {below : List Frame} {meth : Method} {c : Code} {Z : State} {a0 : Array Value} {h0 : Heap} {n0 : Nat} (C : Cx0 Z a0 p s m meth c) :
    ∀ (T : State) (locs : List Loc) (hA : Heap) (x0 : Int32) (x1 : Int32) (x2 : Int32) (x3 : Int64) (x5 : Int32) (x6 : Int32) (x8 : Int32) (b0 : Addr) (u0_size : Int32) (b1 : Addr) (l1 : List Int64) (b2 : Addr) (l2 : List Int32) (o : Int32), f0_82 x5 x6 x8 u0_size l1 l2 = some o → Stand p l e room_1 s m args below meth c T locs 3 11 → T.heap = hA → Fr n0 locs → Old Z n0 hA → Keep h0 hA [] → (Exa Z hA b0 "com/example/porter_drive/porterdrive/RequestQueue") → (Fld Z hA b0 "com/example/porter_drive/porterdrive/RequestQueue" "times" "[J" (.ref b1)) → (Fld Z hA b0 "com/example/porter_drive/porterdrive/RequestQueue" "clients" "[I" (.ref b2)) → (Fld Z hA b0 "com/example/porter_drive/porterdrive/RequestQueue" "size" "I" (.int u0_size)) → (Arj Z hA b1 l1) → (Ari Z hA b2 .int l2) → (n0 ≤ b0) → (h0.size ≤ b0) → (n0 ≤ b1) → (h0.size ≤ b1) → (n0 ≤ b2) → (h0.size ≤ b2) → (b0 ≠ b1) → (b0 ≠ b2) → (b1 ≠ b2) →  OwnOut p e s below 16 128 (Q0 Z default default default default h0 n0 o) (T.setTop (mkF m 82 #[.val (.int x0), .val (.int x1), .val (.int x2), .val (.long x3), .second, .val (.int x5), .val (.int x6), .val (.ref b0), .val (.int x8)] [])) := by
    obtain ⟨hx, hZ, hw, hby, hml, hown, hret, hlk, hnm⟩ := C
    intro T locs hA x0 x1 x2 x3 x5 x6 x8 b0 u0_size b1 l1 b2 l2 o hr X0 e0 N0 O0 K0 E0 F0_times F0_clients F0_size A1 A2 g0 z0 g1 z1 g2 z2 ne0_1 ne0_2 ne1_2
    rw [f0_82] at hr
    refine OwnOut.go (fun t k => XS.iload X0.here hx rfl (hb hby at_82) rfl k) ?_
    show OwnOut p e s below 16 128 _ (T.setTop (mkF m 84 #[.val (.int x0), .val (.int x1), .val (.int x2), .val (.long x3), .second, .val (.int x5), .val (.int x6), .val (.ref b0), .val (.int x8)] [(.int x6)]))
    refine OwnOut.go (fun t k => XT.iconstV X0.here hx rfl (3 : Int32) (hb hby at_84) rfl k) ?_
    show OwnOut p e s below 16 128 _ (T.setTop (mkF m 85 #[.val (.int x0), .val (.int x1), .val (.int x2), .val (.long x3), .second, .val (.int x5), .val (.int x6), .val (.ref b0), .val (.int x8)] [(.int (3 : Int32)), (.int x6)]))
    by_cases hc85 : x6 < (3 : Int32)
    · rw [if_pos hc85] at hr
      refine OwnOut.go (fun t k => XS.icmpYes X0.here hx rfl (pc0 := 85) (pc' := 93) rfl (hb hby at_85) rfl (XT.ii_lt_t hc85) (by decide) (by decide) k) ?_
      show OwnOut p e s below 16 128 _ (T.setTop (mkF m 93 #[.val (.int x0), .val (.int x1), .val (.int x2), .val (.long x3), .second, .val (.int x5), .val (.int x6), .val (.ref b0), .val (.int x8)] []))
      exact w0_93 ⟨hx, hZ, hw, hby, hml, hown, hret, hlk, hnm⟩  _ _ _ x0 x1 x2 x3 x5 x6 x8 b0 u0_size b1 l1 b2 l2 _ hr X0 e0 N0 O0 K0 E0 F0_times F0_clients F0_size A1 A2 g0 z0 g1 z1 g2 z2 ne0_1 ne0_2 ne1_2
    · rw [if_neg hc85] at hr
      refine OwnOut.go (fun t k => XS.icmpNo X0.here hx rfl (hb hby at_85) rfl (XT.ii_lt_f hc85) k) ?_
      show OwnOut p e s below 16 128 _ (T.setTop (mkF m 88 #[.val (.int x0), .val (.int x1), .val (.int x2), .val (.long x3), .second, .val (.int x5), .val (.int x6), .val (.ref b0), .val (.int x8)] []))
      refine OwnOut.go (fun t k => XS.aload X0.here hx rfl (hb hby at_88) rfl rfl k) ?_
      show OwnOut p e s below 16 128 _ (T.setTop (mkF m 90 #[.val (.int x0), .val (.int x1), .val (.int x2), .val (.long x3), .second, .val (.int x5), .val (.int x6), .val (.ref b0), .val (.int x8)] [(.ref b0)]))
      obtain ⟨o6, ho6, hr⟩ := Option.bind_eq_some_iff.mp hr
      obtain ⟨r6, T6, L6, X6', hQ6, st6⟩ := callV (W := 0) (rm := rx4) X0 hx hZ (y := (⟨"com/example/porter_drive/porterdrive/RequestQueue", "removeFirst", "()V"⟩ : MethodName)) hown (hw _ (List.mem_of_getElem? (i := 23) rfl)) (hw _ (List.mem_of_getElem? (i := 24) rfl)) (hw _ (List.mem_of_getElem? (i := 26) rfl)) (hw _ (List.mem_of_getElem? (i := 25) rfl)) (hw _ (List.mem_of_getElem? (i := 3) rfl)) (hw _ (List.mem_of_getElem? (i := 27) rfl)) (by decide) (rm4 l Z a0 hw [] b0 u0_size b1 l1 b2 l2 hA n0 o6 ho6 O0 E0 F0_times F0_clients F0_size A1 A2 g0 g1 g2 ne0_1 ne0_2 ne1_2) (by decide) (by decide) (by decide) (by decide) e0 E0 (g := (mkF m 90 #[.val (.int x0), .val (.int x1), .val (.int x2), .val (.long x3), .second, .val (.int x5), .val (.int x6), .val (.ref b0), .val (.int x8)] [(.ref b0)])) rfl (by rw [hml]; rfl) (argsL := []) (rest := []) (lenOf pd4 rfl) rfl (by show 2 * 0 + _ ≤ _; exact Nat.le_of_eq rfl) (hb hby at_90)
      obtain ⟨rfl, Nq6, Kq6, F0_times_6, F0_clients_6, F0_size_6, A1_6, A2_6⟩ := hQ6
      have X6 : Stand p l e room_1 s m args below meth c T6 _ 3 11 := X6'
      have E0_6 := E0.keep Kq6
      have N_6 := Fr.app N0 Nq6
      have O_6 := O0.keep Kq6 (allS g0 (allS g1 (allS g2 all0)))
      have K_6 := K0.trans Kq6 (allS (Or.inr z0) (allS (Or.inr z1) (allS (Or.inr z2) all0)))
      refine OwnOut.go (fun t k => st6 _ k) ?_
      show OwnOut p e s below 16 128 _ (T6.setTop (mkF m 93 #[.val (.int x0), .val (.int x1), .val (.int x2), .val (.long x3), .second, .val (.int x5), .val (.int x6), .val (.ref b0), .val (.int x8)] []))
      exact w0_93 ⟨hx, hZ, hw, hby, hml, hown, hret, hlk, hnm⟩  _ _ _ x0 x1 x2 x3 x5 x6 x8 b0 o6.1 b1 o6.2.1 b2 o6.2.2 _ hr X6 rfl N_6 O_6 K_6 E0_6 F0_times_6 F0_clients_6 F0_size_6 A1_6 A2_6 g0 z0 g1 z1 g2 z2 ne0_1 ne0_2 ne1_2
def f0_71 (x5 : Int32) (x6 : Int32) (x8 : Int32) (u0_size : Int32) (l1 : List Int64) (l2 : List Int32) : Option (Int32) := (if x6 < (2 : Int32) then (f0_82 x5 x6 x8 u0_size l1 l2) else ((f4 u0_size l1 l2).bind fun o7 => (f0_82 x5 x6 x8 o7.1 o7.2.1 o7.2.2)))
set_option maxRecDepth 65536 in
set_option maxHeartbeats 40000000 in
theorem w0_71 {p : Program} {l : Launch} {e : Env} {s : State} {m : MethodId} {args : Array Value} {below : List Frame} {meth : Method} {c : Code} {Z : State} {a0 : Array Value} {h0 : Heap} {n0 : Nat} (C : Cx0 Z a0 p s m meth c) :
    ∀ (T : State) (locs : List Loc) (hA : Heap) (x0 : Int32) (x1 : Int32) (x2 : Int32) (x3 : Int64) (x5 : Int32) (x6 : Int32) (x8 : Int32) (b0 : Addr) (u0_size : Int32) (b1 : Addr) (l1 : List Int64) (b2 : Addr) (l2 : List Int32) (o : Int32), f0_71 x5 x6 x8 u0_size l1 l2 = some o → Stand p l e room_1 s m args below meth c T locs 3 11 → T.heap = hA → Fr n0 locs → Old Z n0 hA → Keep h0 hA [] → (Exa Z hA b0 "com/example/porter_drive/porterdrive/RequestQueue") → (Fld Z hA b0 "com/example/porter_drive/porterdrive/RequestQueue" "times" "[J" (.ref b1)) → (Fld Z hA b0 "com/example/porter_drive/porterdrive/RequestQueue" "clients" "[I" (.ref b2)) → (Fld Z hA b0 "com/example/porter_drive/porterdrive/RequestQueue" "size" "I" (.int u0_size)) → (Arj Z hA b1 l1) → (Ari Z hA b2 .int l2) → (n0 ≤ b0) → (h0.size ≤ b0) → (n0 ≤ b1) → (h0.size ≤ b1) → (n0 ≤ b2) → (h0.size ≤ b2) → (b0 ≠ b1) → (b0 ≠ b2) → (b1 ≠ b2) →  OwnOut p e s below 16 128 (Q0 Z default default default default h0 n0 o) (T.setTop (mkF m 71 #[.val (.int x0), .val (.int x1), .val (.int x2), .val (.long x3), .second, .val (.int x5), .val (.int x6), .val (.ref b0), .val (.int x8)] [])) := by
    obtain ⟨hx, hZ, hw, hby, hml, hown, hret, hlk, hnm⟩ := C
    intro T locs hA x0 x1 x2 x3 x5 x6 x8 b0 u0_size b1 l1 b2 l2 o hr X0 e0 N0 O0 K0 E0 F0_times F0_clients F0_size A1 A2 g0 z0 g1 z1 g2 z2 ne0_1 ne0_2 ne1_2
    rw [f0_71] at hr
    refine OwnOut.go (fun t k => XS.iload X0.here hx rfl (hb hby at_71) rfl k) ?_
    show OwnOut p e s below 16 128 _ (T.setTop (mkF m 73 #[.val (.int x0), .val (.int x1), .val (.int x2), .val (.long x3), .second, .val (.int x5), .val (.int x6), .val (.ref b0), .val (.int x8)] [(.int x6)]))
    refine OwnOut.go (fun t k => XT.iconstV X0.here hx rfl (2 : Int32) (hb hby at_73) rfl k) ?_
    show OwnOut p e s below 16 128 _ (T.setTop (mkF m 74 #[.val (.int x0), .val (.int x1), .val (.int x2), .val (.long x3), .second, .val (.int x5), .val (.int x6), .val (.ref b0), .val (.int x8)] [(.int (2 : Int32)), (.int x6)]))
    by_cases hc74 : x6 < (2 : Int32)
    · rw [if_pos hc74] at hr
      refine OwnOut.go (fun t k => XS.icmpYes X0.here hx rfl (pc0 := 74) (pc' := 82) rfl (hb hby at_74) rfl (XT.ii_lt_t hc74) (by decide) (by decide) k) ?_
      show OwnOut p e s below 16 128 _ (T.setTop (mkF m 82 #[.val (.int x0), .val (.int x1), .val (.int x2), .val (.long x3), .second, .val (.int x5), .val (.int x6), .val (.ref b0), .val (.int x8)] []))
      exact w0_82 ⟨hx, hZ, hw, hby, hml, hown, hret, hlk, hnm⟩  _ _ _ x0 x1 x2 x3 x5 x6 x8 b0 u0_size b1 l1 b2 l2 _ hr X0 e0 N0 O0 K0 E0 F0_times F0_clients F0_size A1 A2 g0 z0 g1 z1 g2 z2 ne0_1 ne0_2 ne1_2
    · rw [if_neg hc74] at hr
      refine OwnOut.go (fun t k => XS.icmpNo X0.here hx rfl (hb hby at_74) rfl (XT.ii_lt_f hc74) k) ?_
      show OwnOut p e s below 16 128 _ (T.setTop (mkF m 77 #[.val (.int x0), .val (.int x1), .val (.int x2), .val (.long x3), .second, .val (.int x5), .val (.int x6), .val (.ref b0), .val (.int x8)] []))
      refine OwnOut.go (fun t k => XS.aload X0.here hx rfl (hb hby at_77) rfl rfl k) ?_
      show OwnOut p e s below 16 128 _ (T.setTop (mkF m 79 #[.val (.int x0), .val (.int x1), .val (.int x2), .val (.long x3), .second, .val (.int x5), .val (.int x6), .val (.ref b0), .val (.int x8)] [(.ref b0)]))
      obtain ⟨o7, ho7, hr⟩ := Option.bind_eq_some_iff.mp hr
      obtain ⟨r7, T7, L7, X7', hQ7, st7⟩ := callV (W := 0) (rm := rx4) X0 hx hZ (y := (⟨"com/example/porter_drive/porterdrive/RequestQueue", "removeFirst", "()V"⟩ : MethodName)) hown (hw _ (List.mem_of_getElem? (i := 23) rfl)) (hw _ (List.mem_of_getElem? (i := 24) rfl)) (hw _ (List.mem_of_getElem? (i := 26) rfl)) (hw _ (List.mem_of_getElem? (i := 25) rfl)) (hw _ (List.mem_of_getElem? (i := 3) rfl)) (hw _ (List.mem_of_getElem? (i := 27) rfl)) (by decide) (rm4 l Z a0 hw [] b0 u0_size b1 l1 b2 l2 hA n0 o7 ho7 O0 E0 F0_times F0_clients F0_size A1 A2 g0 g1 g2 ne0_1 ne0_2 ne1_2) (by decide) (by decide) (by decide) (by decide) e0 E0 (g := (mkF m 79 #[.val (.int x0), .val (.int x1), .val (.int x2), .val (.long x3), .second, .val (.int x5), .val (.int x6), .val (.ref b0), .val (.int x8)] [(.ref b0)])) rfl (by rw [hml]; rfl) (argsL := []) (rest := []) (lenOf pd4 rfl) rfl (by show 2 * 0 + _ ≤ _; exact Nat.le_of_eq rfl) (hb hby at_79)
      obtain ⟨rfl, Nq7, Kq7, F0_times_7, F0_clients_7, F0_size_7, A1_7, A2_7⟩ := hQ7
      have X7 : Stand p l e room_1 s m args below meth c T7 _ 3 11 := X7'
      have E0_7 := E0.keep Kq7
      have N_7 := Fr.app N0 Nq7
      have O_7 := O0.keep Kq7 (allS g0 (allS g1 (allS g2 all0)))
      have K_7 := K0.trans Kq7 (allS (Or.inr z0) (allS (Or.inr z1) (allS (Or.inr z2) all0)))
      refine OwnOut.go (fun t k => st7 _ k) ?_
      show OwnOut p e s below 16 128 _ (T7.setTop (mkF m 82 #[.val (.int x0), .val (.int x1), .val (.int x2), .val (.long x3), .second, .val (.int x5), .val (.int x6), .val (.ref b0), .val (.int x8)] []))
      exact w0_82 ⟨hx, hZ, hw, hby, hml, hown, hret, hlk, hnm⟩  _ _ _ x0 x1 x2 x3 x5 x6 x8 b0 o7.1 b1 o7.2.1 b2 o7.2.2 _ hr X7 rfl N_7 O_7 K_7 E0_7 F0_times_7 F0_clients_7 F0_size_7 A1_7 A2_7 g0 z0 g1 z1 g2 z2 ne0_1 ne0_2 ne1_2
def f0_60 (x5 : Int32) (x6 : Int32) (x8 : Int32) (u0_size : Int32) (l1 : List Int64) (l2 : List Int32) : Option (Int32) := (if x6 < (1 : Int32) then (f0_71 x5 x6 x8 u0_size l1 l2) else ((f4 u0_size l1 l2).bind fun o8 => (f0_71 x5 x6 x8 o8.1 o8.2.1 o8.2.2)))
set_option maxRecDepth 65536 in
set_option maxHeartbeats 40000000 in
theorem w0_60 {p : Program} {l : Launch} {e : Env} {s : State} {m : MethodId} {args : Array Value} {below : List Frame} {meth : Method} {c : Code} {Z : State} {a0 : Array Value} {h0 : Heap} {n0 : Nat} (C : Cx0 Z a0 p s m meth c) :
    ∀ (T : State) (locs : List Loc) (hA : Heap) (x0 : Int32) (x1 : Int32) (x2 : Int32) (x3 : Int64) (x5 : Int32) (x6 : Int32) (x8 : Int32) (b0 : Addr) (u0_size : Int32) (b1 : Addr) (l1 : List Int64) (b2 : Addr) (l2 : List Int32) (o : Int32), f0_60 x5 x6 x8 u0_size l1 l2 = some o → Stand p l e room_1 s m args below meth c T locs 3 11 → T.heap = hA → Fr n0 locs → Old Z n0 hA → Keep h0 hA [] → (Exa Z hA b0 "com/example/porter_drive/porterdrive/RequestQueue") → (Fld Z hA b0 "com/example/porter_drive/porterdrive/RequestQueue" "times" "[J" (.ref b1)) → (Fld Z hA b0 "com/example/porter_drive/porterdrive/RequestQueue" "clients" "[I" (.ref b2)) → (Fld Z hA b0 "com/example/porter_drive/porterdrive/RequestQueue" "size" "I" (.int u0_size)) → (Arj Z hA b1 l1) → (Ari Z hA b2 .int l2) → (n0 ≤ b0) → (h0.size ≤ b0) → (n0 ≤ b1) → (h0.size ≤ b1) → (n0 ≤ b2) → (h0.size ≤ b2) → (b0 ≠ b1) → (b0 ≠ b2) → (b1 ≠ b2) →  OwnOut p e s below 16 128 (Q0 Z default default default default h0 n0 o) (T.setTop (mkF m 60 #[.val (.int x0), .val (.int x1), .val (.int x2), .val (.long x3), .second, .val (.int x5), .val (.int x6), .val (.ref b0), .val (.int x8)] [])) := by
    obtain ⟨hx, hZ, hw, hby, hml, hown, hret, hlk, hnm⟩ := C
    intro T locs hA x0 x1 x2 x3 x5 x6 x8 b0 u0_size b1 l1 b2 l2 o hr X0 e0 N0 O0 K0 E0 F0_times F0_clients F0_size A1 A2 g0 z0 g1 z1 g2 z2 ne0_1 ne0_2 ne1_2
    rw [f0_60] at hr
    refine OwnOut.go (fun t k => XS.iload X0.here hx rfl (hb hby at_60) rfl k) ?_
    show OwnOut p e s below 16 128 _ (T.setTop (mkF m 62 #[.val (.int x0), .val (.int x1), .val (.int x2), .val (.long x3), .second, .val (.int x5), .val (.int x6), .val (.ref b0), .val (.int x8)] [(.int x6)]))
    refine OwnOut.go (fun t k => XT.iconstV X0.here hx rfl (1 : Int32) (hb hby at_62) rfl k) ?_
    show OwnOut p e s below 16 128 _ (T.setTop (mkF m 63 #[.val (.int x0), .val (.int x1), .val (.int x2), .val (.long x3), .second, .val (.int x5), .val (.int x6), .val (.ref b0), .val (.int x8)] [(.int (1 : Int32)), (.int x6)]))
    by_cases hc63 : x6 < (1 : Int32)
    · rw [if_pos hc63] at hr
      refine OwnOut.go (fun t k => XS.icmpYes X0.here hx rfl (pc0 := 63) (pc' := 71) rfl (hb hby at_63) rfl (XT.ii_lt_t hc63) (by decide) (by decide) k) ?_
      show OwnOut p e s below 16 128 _ (T.setTop (mkF m 71 #[.val (.int x0), .val (.int x1), .val (.int x2), .val (.long x3), .second, .val (.int x5), .val (.int x6), .val (.ref b0), .val (.int x8)] []))
      exact w0_71 ⟨hx, hZ, hw, hby, hml, hown, hret, hlk, hnm⟩  _ _ _ x0 x1 x2 x3 x5 x6 x8 b0 u0_size b1 l1 b2 l2 _ hr X0 e0 N0 O0 K0 E0 F0_times F0_clients F0_size A1 A2 g0 z0 g1 z1 g2 z2 ne0_1 ne0_2 ne1_2
    · rw [if_neg hc63] at hr
      refine OwnOut.go (fun t k => XS.icmpNo X0.here hx rfl (hb hby at_63) rfl (XT.ii_lt_f hc63) k) ?_
      show OwnOut p e s below 16 128 _ (T.setTop (mkF m 66 #[.val (.int x0), .val (.int x1), .val (.int x2), .val (.long x3), .second, .val (.int x5), .val (.int x6), .val (.ref b0), .val (.int x8)] []))
      refine OwnOut.go (fun t k => XS.aload X0.here hx rfl (hb hby at_66) rfl rfl k) ?_
      show OwnOut p e s below 16 128 _ (T.setTop (mkF m 68 #[.val (.int x0), .val (.int x1), .val (.int x2), .val (.long x3), .second, .val (.int x5), .val (.int x6), .val (.ref b0), .val (.int x8)] [(.ref b0)]))
      obtain ⟨o8, ho8, hr⟩ := Option.bind_eq_some_iff.mp hr
      obtain ⟨r8, T8, L8, X8', hQ8, st8⟩ := callV (W := 0) (rm := rx4) X0 hx hZ (y := (⟨"com/example/porter_drive/porterdrive/RequestQueue", "removeFirst", "()V"⟩ : MethodName)) hown (hw _ (List.mem_of_getElem? (i := 23) rfl)) (hw _ (List.mem_of_getElem? (i := 24) rfl)) (hw _ (List.mem_of_getElem? (i := 26) rfl)) (hw _ (List.mem_of_getElem? (i := 25) rfl)) (hw _ (List.mem_of_getElem? (i := 3) rfl)) (hw _ (List.mem_of_getElem? (i := 27) rfl)) (by decide) (rm4 l Z a0 hw [] b0 u0_size b1 l1 b2 l2 hA n0 o8 ho8 O0 E0 F0_times F0_clients F0_size A1 A2 g0 g1 g2 ne0_1 ne0_2 ne1_2) (by decide) (by decide) (by decide) (by decide) e0 E0 (g := (mkF m 68 #[.val (.int x0), .val (.int x1), .val (.int x2), .val (.long x3), .second, .val (.int x5), .val (.int x6), .val (.ref b0), .val (.int x8)] [(.ref b0)])) rfl (by rw [hml]; rfl) (argsL := []) (rest := []) (lenOf pd4 rfl) rfl (by show 2 * 0 + _ ≤ _; exact Nat.le_of_eq rfl) (hb hby at_68)
      obtain ⟨rfl, Nq8, Kq8, F0_times_8, F0_clients_8, F0_size_8, A1_8, A2_8⟩ := hQ8
      have X8 : Stand p l e room_1 s m args below meth c T8 _ 3 11 := X8'
      have E0_8 := E0.keep Kq8
      have N_8 := Fr.app N0 Nq8
      have O_8 := O0.keep Kq8 (allS g0 (allS g1 (allS g2 all0)))
      have K_8 := K0.trans Kq8 (allS (Or.inr z0) (allS (Or.inr z1) (allS (Or.inr z2) all0)))
      refine OwnOut.go (fun t k => st8 _ k) ?_
      show OwnOut p e s below 16 128 _ (T8.setTop (mkF m 71 #[.val (.int x0), .val (.int x1), .val (.int x2), .val (.long x3), .second, .val (.int x5), .val (.int x6), .val (.ref b0), .val (.int x8)] []))
      exact w0_71 ⟨hx, hZ, hw, hby, hml, hown, hret, hlk, hnm⟩  _ _ _ x0 x1 x2 x3 x5 x6 x8 b0 o8.1 b1 o8.2.1 b2 o8.2.2 _ hr X8 rfl N_8 O_8 K_8 E0_8 F0_times_8 F0_clients_8 F0_size_8 A1_8 A2_8 g0 z0 g1 z1 g2 z2 ne0_1 ne0_2 ne1_2
def f0_42 (x2 : Int32) (x3 : Int64) (x5 : Int32) (x6 : Int32) (y0 : Int32) (u0_size : Int32) (l1 : List Int64) (l2 : List Int32) : Option (Int32) := (if (x2 &&& (1 : Int32)) = (0 : Int32) then (f0_60 x5 x6 y0 u0_size l1 l2) else ((f6 (x3 &&& (9223372036854775807 : Int64)) u0_size l1 l2).bind fun o9 => (f0_60 x5 x6 y0 u0_size o9.1 o9.2)))
set_option maxRecDepth 65536 in
set_option maxHeartbeats 40000000 in
theorem w0_42 {p : Program} {l : Launch} {e : Env} {s : State} {m : MethodId} {args : Array Value} {below : List Frame} {meth : Method} {c : Code} {Z : State} {a0 : Array Value} {h0 : Heap} {n0 : Nat} (C : Cx0 Z a0 p s m meth c) :
    ∀ (T : State) (locs : List Loc) (hA : Heap) (x0 : Int32) (x1 : Int32) (x2 : Int32) (x3 : Int64) (x5 : Int32) (x6 : Int32) (y0 : Int32) (b0 : Addr) (u0_size : Int32) (b1 : Addr) (l1 : List Int64) (b2 : Addr) (l2 : List Int32) (o : Int32), f0_42 x2 x3 x5 x6 y0 u0_size l1 l2 = some o → Stand p l e room_1 s m args below meth c T locs 3 11 → T.heap = hA → Fr n0 locs → Old Z n0 hA → Keep h0 hA [] → (Exa Z hA b0 "com/example/porter_drive/porterdrive/RequestQueue") → (Fld Z hA b0 "com/example/porter_drive/porterdrive/RequestQueue" "times" "[J" (.ref b1)) → (Fld Z hA b0 "com/example/porter_drive/porterdrive/RequestQueue" "clients" "[I" (.ref b2)) → (Fld Z hA b0 "com/example/porter_drive/porterdrive/RequestQueue" "size" "I" (.int u0_size)) → (Arj Z hA b1 l1) → (Ari Z hA b2 .int l2) → (n0 ≤ b0) → (h0.size ≤ b0) → (n0 ≤ b1) → (h0.size ≤ b1) → (n0 ≤ b2) → (h0.size ≤ b2) → (b0 ≠ b1) → (b0 ≠ b2) → (b1 ≠ b2) →  OwnOut p e s below 16 128 (Q0 Z default default default default h0 n0 o) (T.setTop (mkF m 42 #[.val (.int x0), .val (.int x1), .val (.int x2), .val (.long x3), .second, .val (.int x5), .val (.int x6), .val (.ref b0), .unset] [(.int y0)])) := by
    obtain ⟨hx, hZ, hw, hby, hml, hown, hret, hlk, hnm⟩ := C
    intro T locs hA x0 x1 x2 x3 x5 x6 y0 b0 u0_size b1 l1 b2 l2 o hr X0 e0 N0 O0 K0 E0 F0_times F0_clients F0_size A1 A2 g0 z0 g1 z1 g2 z2 ne0_1 ne0_2 ne1_2
    rw [f0_42] at hr
    refine OwnOut.go (fun t k => XS.istore X0.here hx rfl (hb hby at_42) rfl (l' := #[.val (.int x0), .val (.int x1), .val (.int x2), .val (.long x3), .second, .val (.int x5), .val (.int x6), .val (.ref b0), .val (.int y0)]) rfl k) ?_
    show OwnOut p e s below 16 128 _ (T.setTop (mkF m 44 #[.val (.int x0), .val (.int x1), .val (.int x2), .val (.long x3), .second, .val (.int x5), .val (.int x6), .val (.ref b0), .val (.int y0)] []))
    refine OwnOut.go (fun t k => XS.iloadN X0.here hx rfl (hb hby at_44) rfl k) ?_
    show OwnOut p e s below 16 128 _ (T.setTop (mkF m 45 #[.val (.int x0), .val (.int x1), .val (.int x2), .val (.long x3), .second, .val (.int x5), .val (.int x6), .val (.ref b0), .val (.int y0)] [(.int x2)]))
    refine OwnOut.go (fun t k => XT.iconstV X0.here hx rfl (1 : Int32) (hb hby at_45) rfl k) ?_
    show OwnOut p e s below 16 128 _ (T.setTop (mkF m 46 #[.val (.int x0), .val (.int x1), .val (.int x2), .val (.long x3), .second, .val (.int x5), .val (.int x6), .val (.ref b0), .val (.int y0)] [(.int (1 : Int32)), (.int x2)]))
    refine OwnOut.go (fun t k => XS.iand X0.here hx rfl (hb hby at_46) rfl k) ?_
    show OwnOut p e s below 16 128 _ (T.setTop (mkF m 47 #[.val (.int x0), .val (.int x1), .val (.int x2), .val (.long x3), .second, .val (.int x5), .val (.int x6), .val (.ref b0), .val (.int y0)] [(.int (x2 &&& (1 : Int32)))]))
    by_cases hc47 : (x2 &&& (1 : Int32)) = (0 : Int32)
    · rw [if_pos hc47] at hr
      refine OwnOut.go (fun t k => XS.ifYes X0.here hx rfl (pc0 := 47) (pc' := 60) rfl (hb hby at_47) rfl (XT.i0_eq_t hc47) (by decide) (by decide) k) ?_
      show OwnOut p e s below 16 128 _ (T.setTop (mkF m 60 #[.val (.int x0), .val (.int x1), .val (.int x2), .val (.long x3), .second, .val (.int x5), .val (.int x6), .val (.ref b0), .val (.int y0)] []))
      exact w0_60 ⟨hx, hZ, hw, hby, hml, hown, hret, hlk, hnm⟩  _ _ _ x0 x1 x2 x3 x5 x6 y0 b0 u0_size b1 l1 b2 l2 _ hr X0 e0 N0 O0 K0 E0 F0_times F0_clients F0_size A1 A2 g0 z0 g1 z1 g2 z2 ne0_1 ne0_2 ne1_2
    · rw [if_neg hc47] at hr
      refine OwnOut.go (fun t k => XS.ifNo X0.here hx rfl (hb hby at_47) rfl (XT.i0_eq_f hc47) k) ?_
      show OwnOut p e s below 16 128 _ (T.setTop (mkF m 50 #[.val (.int x0), .val (.int x1), .val (.int x2), .val (.long x3), .second, .val (.int x5), .val (.int x6), .val (.ref b0), .val (.int y0)] []))
      refine OwnOut.go (fun t k => XS.aload X0.here hx rfl (hb hby at_50) rfl rfl k) ?_
      show OwnOut p e s below 16 128 _ (T.setTop (mkF m 52 #[.val (.int x0), .val (.int x1), .val (.int x2), .val (.long x3), .second, .val (.int x5), .val (.int x6), .val (.ref b0), .val (.int y0)] [(.ref b0)]))
      refine OwnOut.go (fun t k => XS.lloadN X0.here hx rfl (hb hby at_52) rfl k) ?_
      show OwnOut p e s below 16 128 _ (T.setTop (mkF m 53 #[.val (.int x0), .val (.int x1), .val (.int x2), .val (.long x3), .second, .val (.int x5), .val (.int x6), .val (.ref b0), .val (.int y0)] [(.long x3), (.ref b0)]))
      refine OwnOut.go (fun t k => X0.ldc2Long hx hown (mvT hZ (hw _ (List.mem_of_getElem? (i := 32) rfl))) (g := (mkF m 53 #[.val (.int x0), .val (.int x1), .val (.int x2), .val (.long x3), .second, .val (.int x5), .val (.int x6), .val (.ref b0), .val (.int y0)] [(.long x3), (.ref b0)])) rfl (hb hby at_53) _ k) ?_
      show OwnOut p e s below 16 128 _ (T.setTop (mkF m 56 #[.val (.int x0), .val (.int x1), .val (.int x2), .val (.long x3), .second, .val (.int x5), .val (.int x6), .val (.ref b0), .val (.int y0)] [(.long (9223372036854775807 : Int64)), (.long x3), (.ref b0)]))
      refine OwnOut.go (fun t k => XS.land X0.here hx rfl (hb hby at_56) rfl k) ?_
      show OwnOut p e s below 16 128 _ (T.setTop (mkF m 57 #[.val (.int x0), .val (.int x1), .val (.int x2), .val (.long x3), .second, .val (.int x5), .val (.int x6), .val (.ref b0), .val (.int y0)] [(.long (x3 &&& (9223372036854775807 : Int64))), (.ref b0)]))
      obtain ⟨o9, ho9, hr⟩ := Option.bind_eq_some_iff.mp hr
      obtain ⟨r9, T9, L9, X9', hQ9, st9⟩ := callV (W := 0) (rm := rx6) X0 hx hZ (y := (⟨"com/example/porter_drive/porterdrive/RequestQueue", "delayFirst", "(J)V"⟩ : MethodName)) hown (hw _ (List.mem_of_getElem? (i := 33) rfl)) (hw _ (List.mem_of_getElem? (i := 34) rfl)) (hw _ (List.mem_of_getElem? (i := 36) rfl)) (hw _ (List.mem_of_getElem? (i := 35) rfl)) (hw _ (List.mem_of_getElem? (i := 3) rfl)) (hw _ (List.mem_of_getElem? (i := 37) rfl)) (by decide) (rm6 l Z a0 hw [] (x3 &&& (9223372036854775807 : Int64)) b0 u0_size b1 l1 b2 l2 hA n0 o9 ho9 O0 E0 F0_times F0_clients F0_size A1 A2 g0 g1 g2 ne0_1 ne0_2 ne1_2) (by decide) (by decide) (by decide) (by decide) e0 E0 (g := (mkF m 57 #[.val (.int x0), .val (.int x1), .val (.int x2), .val (.long x3), .second, .val (.int x5), .val (.int x6), .val (.ref b0), .val (.int y0)] [(.long (x3 &&& (9223372036854775807 : Int64))), (.ref b0)])) rfl (by rw [hml]; rfl) (argsL := [(.long (x3 &&& (9223372036854775807 : Int64)))]) (rest := []) (lenOf pd6 rfl) rfl (by show 2 * 0 + _ ≤ _; exact Nat.le_of_eq rfl) (hb hby at_57)
      obtain ⟨rfl, Nq9, Kq9, A1_9, A2_9⟩ := hQ9
      have X9 : Stand p l e room_1 s m args below meth c T9 _ 3 11 := X9'
      have E0_9 := E0.keep Kq9
      have F0_times_9 := F0_times.keep Kq9 (ninS ne0_1 (ninS ne0_2 nin0))
      have F0_clients_9 := F0_clients.keep Kq9 (ninS ne0_1 (ninS ne0_2 nin0))
      have F0_size_9 := F0_size.keep Kq9 (ninS ne0_1 (ninS ne0_2 nin0))
      have N_9 := Fr.app N0 Nq9
      have O_9 := O0.keep Kq9 (allS g1 (allS g2 all0))
      have K_9 := K0.trans Kq9 (allS (Or.inr z1) (allS (Or.inr z2) all0))
      refine OwnOut.go (fun t k => st9 _ k) ?_
      show OwnOut p e s below 16 128 _ (T9.setTop (mkF m 60 #[.val (.int x0), .val (.int x1), .val (.int x2), .val (.long x3), .second, .val (.int x5), .val (.int x6), .val (.ref b0), .val (.int y0)] []))
      exact w0_60 ⟨hx, hZ, hw, hby, hml, hown, hret, hlk, hnm⟩  _ _ _ x0 x1 x2 x3 x5 x6 y0 b0 u0_size b1 o9.1 b2 o9.2 _ hr X9 rfl N_9 O_9 K_9 E0_9 F0_times_9 F0_clients_9 F0_size_9 A1_9 A2_9 g0 z0 g1 z1 g2 z2 ne0_1 ne0_2 ne1_2
def f0_18 (x2 : Int32) (x3 : Int64) (x5 : Int32) (x6 : Int32) : Option (Int32) := ((f1 x5 (0 : Int32)).bind fun o2 => ((f3 o2.1 o2.2.1 o2.2.2).bind fun o3 => (if o3 = (0 : Int32) then (f0_42 x2 x3 x5 x6 (1 : Int32) o2.1 o2.2.1 o2.2.2) else (f0_42 x2 x3 x5 x6 (0 : Int32) o2.1 o2.2.1 o2.2.2))))
set_option maxRecDepth 65536 in
set_option maxHeartbeats 40000000 in
theorem w0_18 {p : Program} {l : Launch} {e : Env} {s : State} {m : MethodId} {args : Array Value} {below : List Frame} {meth : Method} {c : Code} {Z : State} {a0 : Array Value} {h0 : Heap} {n0 : Nat} (C : Cx0 Z a0 p s m meth c) :
    ∀ (T : State) (locs : List Loc) (hA : Heap) (x0 : Int32) (x1 : Int32) (x2 : Int32) (x3 : Int64) (x5 : Int32) (x6 : Int32) (o : Int32), f0_18 x2 x3 x5 x6 = some o → Stand p l e room_1 s m args below meth c T locs 0 0 → T.heap = hA → Fr n0 locs → Old Z n0 hA → Keep h0 hA [] →  OwnOut p e s below 16 128 (Q0 Z default default default default h0 n0 o) (T.setTop (mkF m 18 #[.val (.int x0), .val (.int x1), .val (.int x2), .val (.long x3), .second, .val (.int x5), .val (.int x6), .unset, .unset] [])) := by
    obtain ⟨hx, hZ, hw, hby, hml, hown, hret, hlk, hnm⟩ := C
    intro T locs hA x0 x1 x2 x3 x5 x6 o hr X0 e0 N0 O0 K0
    rw [f0_18] at hr
    obtain ⟨T1, h1, X1, e1, Ex1, E_1, Df1, -, st1⟩ := newO X0 hx hZ hown (hw _ (List.mem_of_getElem? (i := 1) rfl)) (hw _ (List.mem_of_getElem? (i := 2) rfl)) (hw _ (List.mem_of_getElem? (i := 3) rfl)) e0 (g := (mkF m 18 #[.val (.int x0), .val (.int x1), .val (.int x2), .val (.long x3), .second, .val (.int x5), .val (.int x6), .unset, .unset] [])) rfl (hb hby at_18) (by decide) (by decide)
    obtain ⟨c1, gc1⟩ : ∃ z, z = hA.size := ⟨_, rfl⟩
    rw [← gc1] at E_1 st1
    have F_times_1 : Fld Z h1 c1 "com/example/porter_drive/porterdrive/RequestQueue" "times" "[J" .null := by rw [gc1]; exact Df1 (Or.inr (hw _ (List.mem_of_getElem? (i := 12) rfl))) (ty := (.array .long)) (by decide)
    have F_clients_1 : Fld Z h1 c1 "com/example/porter_drive/porterdrive/RequestQueue" "clients" "[I" .null := by rw [gc1]; exact Df1 (Or.inr (hw _ (List.mem_of_getElem? (i := 15) rfl))) (ty := (.array .int)) (by decide)
    have F_size_1 : Fld Z h1 c1 "com/example/porter_drive/porterdrive/RequestQueue" "size" "I" (.int (0 : Int32)) := by rw [gc1]; exact Df1 (Or.inl (hw _ (List.mem_of_getElem? (i := 17) rfl))) (ty := .int) (by decide)
    refine OwnOut.go (fun t k => st1 _ k) ?_
    have g_1 : n0 ≤ c1 := gc1 ▸ (O0.1 ▸ O0.2.1)
    have z_1 : h0.size ≤ c1 := gc1 ▸ K0.1
    have O_1 := O0.ext Ex1
    have K_1 := K0.ext Ex1
    show OwnOut p e s below 16 128 _ (T1.setTop (mkF m 21 #[.val (.int x0), .val (.int x1), .val (.int x2), .val (.long x3), .second, .val (.int x5), .val (.int x6), .unset, .unset] [(.ref c1)]))
    refine OwnOut.go (fun t k => XS.dup X1.here hx rfl (hb hby at_21) rfl rfl k) ?_
    show OwnOut p e s below 16 128 _ (T1.setTop (mkF m 22 #[.val (.int x0), .val (.int x1), .val (.int x2), .val (.long x3), .second, .val (.int x5), .val (.int x6), .unset, .unset] [(.ref c1), (.ref c1)]))
    refine OwnOut.go (fun t k => XS.iload X1.here hx rfl (hb hby at_22) rfl k) ?_
    show OwnOut p e s below 16 128 _ (T1.setTop (mkF m 24 #[.val (.int x0), .val (.int x1), .val (.int x2), .val (.long x3), .second, .val (.int x5), .val (.int x6), .unset, .unset] [(.int x5), (.ref c1), (.ref c1)]))
    obtain ⟨o2, ho2, hr⟩ := Option.bind_eq_some_iff.mp hr
    obtain ⟨r2, T2, L2, X2', hQ2, st2⟩ := callN (W := 1) (rm := rx1) X1 hx hZ rfl (y := (⟨"com/example/porter_drive/porterdrive/RequestQueue", "<init>", "(I)V"⟩ : MethodName)) rfl hown (hw _ (List.mem_of_getElem? (i := 4) rfl)) (hw _ (List.mem_of_getElem? (i := 5) rfl)) (hw _ (List.mem_of_getElem? (i := 3) rfl)) (hw _ (List.mem_of_getElem? (i := 6) rfl)) (by decide) (rm1 l Z a0 hw [] x5 c1 (0 : Int32) h1 n0 o2 ho2 O_1 E_1 F_times_1 F_clients_1 F_size_1 g_1) (by decide) (by decide) (by decide) (by decide) e1 (g := (mkF m 24 #[.val (.int x0), .val (.int x1), .val (.int x2), .val (.long x3), .second, .val (.int x5), .val (.int x6), .unset, .unset] [(.int x5), (.ref c1), (.ref c1)])) rfl (by rw [hml]; rfl) (argsL := [(.int x5)]) (rest := [(.ref c1)]) (lenOf pd1 rfl) rfl (by show 2 * 0 + _ ≤ _; exact Nat.le_of_eq rfl) (hb hby at_24)
    obtain ⟨c2_0, c2_1, rfl, Nq2, Kq2, F0_times_2, F0_clients_2, F0_size_2, zq2_0, gq2_0, Aq2_0, zq2_1, gq2_1, Aq2_1, neq2_0_1⟩ := hQ2
    have X2 : Stand p l e room_1 s m args below meth c T2 _ 3 11 := X2'
    have ne0_1_2 : c1 ≠ c2_0 := Nat.ne_of_lt (Nat.lt_of_lt_of_le E_1.lt zq2_0)
    have z_2_0 : h0.size ≤ c2_0 := Nat.le_trans K_1.1 zq2_0
    have ne0_2_2 : c1 ≠ c2_1 := Nat.ne_of_lt (Nat.lt_of_lt_of_le E_1.lt zq2_1)
    have z_2_1 : h0.size ≤ c2_1 := Nat.le_trans K_1.1 zq2_1
    have E0_2 := E_1.keep Kq2
    have N_2 := Fr.app N0 Nq2
    have O_2 := O_1.keep Kq2 (allS g_1 all0)
    have K_2 := K_1.trans Kq2 (allS (Or.inr z_1) all0)
    refine OwnOut.go (fun t k => st2 _ k) ?_
    show OwnOut p e s below 16 128 _ (T2.setTop (mkF m 27 #[.val (.int x0), .val (.int x1), .val (.int x2), .val (.long x3), .second, .val (.int x5), .val (.int x6), .unset, .unset] [(.ref c1)]))
    refine OwnOut.go (fun t k => XS.astore X2.here hx rfl (hb hby at_27) rfl rfl (l' := #[.val (.int x0), .val (.int x1), .val (.int x2), .val (.long x3), .second, .val (.int x5), .val (.int x6), .val (.ref c1), .unset]) rfl k) ?_
    show OwnOut p e s below 16 128 _ (T2.setTop (mkF m 29 #[.val (.int x0), .val (.int x1), .val (.int x2), .val (.long x3), .second, .val (.int x5), .val (.int x6), .val (.ref c1), .unset] []))
    refine OwnOut.go (fun t k => XS.aload X2.here hx rfl (hb hby at_29) rfl rfl k) ?_
    show OwnOut p e s below 16 128 _ (T2.setTop (mkF m 31 #[.val (.int x0), .val (.int x1), .val (.int x2), .val (.long x3), .second, .val (.int x5), .val (.int x6), .val (.ref c1), .unset] [(.ref c1)]))
    obtain ⟨o3, ho3, hr⟩ := Option.bind_eq_some_iff.mp hr
    obtain ⟨r3, T3, L3, X3', hQ3, st3⟩ := callV (W := 0) (rm := rx3) X2 hx hZ (y := (⟨"com/example/porter_drive/porterdrive/RequestQueue", "isEmpty", "()Z"⟩ : MethodName)) hown (hw _ (List.mem_of_getElem? (i := 18) rfl)) (hw _ (List.mem_of_getElem? (i := 19) rfl)) (hw _ (List.mem_of_getElem? (i := 21) rfl)) (hw _ (List.mem_of_getElem? (i := 20) rfl)) (hw _ (List.mem_of_getElem? (i := 3) rfl)) (hw _ (List.mem_of_getElem? (i := 22) rfl)) (by decide) (rm3 l Z a0 hw [] c1 o2.1 c2_0 o2.2.1 c2_1 o2.2.2 T2.heap o3 ho3 E0_2 F0_times_2 F0_clients_2 F0_size_2 Aq2_0 Aq2_1) (by decide) (by decide) (by decide) (by decide) rfl E0_2 (g := (mkF m 31 #[.val (.int x0), .val (.int x1), .val (.int x2), .val (.long x3), .second, .val (.int x5), .val (.int x6), .val (.ref c1), .unset] [(.ref c1)])) rfl (by rw [hml]; rfl) (argsL := []) (rest := []) (lenOf pd3 rfl) rfl (by show 2 * 0 + _ ≤ _; exact Nat.le_of_eq rfl) (hb hby at_31)
    obtain ⟨rfl, e3, rfl⟩ := hQ3
    rw [List.append_nil] at X3'
    have X3 : Stand p l e room_1 s m args below meth c T3 _ 3 11 := X3'
    refine OwnOut.go (fun t k => st3 _ k) ?_
    show OwnOut p e s below 16 128 _ (T3.setTop (mkF m 34 #[.val (.int x0), .val (.int x1), .val (.int x2), .val (.long x3), .second, .val (.int x5), .val (.int x6), .val (.ref c1), .unset] [(.int o3)]))
    by_cases hc34 : o3 = (0 : Int32)
    · rw [if_pos hc34] at hr
      refine OwnOut.go (fun t k => XS.ifNo X3.here hx rfl (hb hby at_34) rfl (XT.i0_ne_f hc34) k) ?_
      show OwnOut p e s below 16 128 _ (T3.setTop (mkF m 37 #[.val (.int x0), .val (.int x1), .val (.int x2), .val (.long x3), .second, .val (.int x5), .val (.int x6), .val (.ref c1), .unset] []))
      refine OwnOut.go (fun t k => XT.iconstV X3.here hx rfl (1 : Int32) (hb hby at_37) rfl k) ?_
      show OwnOut p e s below 16 128 _ (T3.setTop (mkF m 38 #[.val (.int x0), .val (.int x1), .val (.int x2), .val (.long x3), .second, .val (.int x5), .val (.int x6), .val (.ref c1), .unset] [(.int (1 : Int32))]))
      refine OwnOut.go (fun t k => XS.goto X3.here hx rfl (pc0 := 38) (pc' := 42) rfl (hb hby at_38) (by decide) (by decide) k) ?_
      show OwnOut p e s below 16 128 _ (T3.setTop (mkF m 42 #[.val (.int x0), .val (.int x1), .val (.int x2), .val (.long x3), .second, .val (.int x5), .val (.int x6), .val (.ref c1), .unset] [(.int (1 : Int32))]))
      exact w0_42 ⟨hx, hZ, hw, hby, hml, hown, hret, hlk, hnm⟩  _ _ _ x0 x1 x2 x3 x5 x6 (1 : Int32) c1 o2.1 c2_0 o2.2.1 c2_1 o2.2.2 _ hr X3 e3 N_2 O_2 K_2 E0_2 F0_times_2 F0_clients_2 F0_size_2 Aq2_0 Aq2_1 g_1 z_1 gq2_0 z_2_0 gq2_1 z_2_1 ne0_1_2 ne0_2_2 neq2_0_1
    · rw [if_neg hc34] at hr
      refine OwnOut.go (fun t k => XS.ifYes X3.here hx rfl (pc0 := 34) (pc' := 41) rfl (hb hby at_34) rfl (XT.i0_ne_t hc34) (by decide) (by decide) k) ?_
      show OwnOut p e s below 16 128 _ (T3.setTop (mkF m 41 #[.val (.int x0), .val (.int x1), .val (.int x2), .val (.long x3), .second, .val (.int x5), .val (.int x6), .val (.ref c1), .unset] []))
      refine OwnOut.go (fun t k => XT.iconstV X3.here hx rfl (0 : Int32) (hb hby at_41) rfl k) ?_
      show OwnOut p e s below 16 128 _ (T3.setTop (mkF m 42 #[.val (.int x0), .val (.int x1), .val (.int x2), .val (.long x3), .second, .val (.int x5), .val (.int x6), .val (.ref c1), .unset] [(.int (0 : Int32))]))
      exact w0_42 ⟨hx, hZ, hw, hby, hml, hown, hret, hlk, hnm⟩  _ _ _ x0 x1 x2 x3 x5 x6 (0 : Int32) c1 o2.1 c2_0 o2.2.1 c2_1 o2.2.2 _ hr X3 e3 N_2 O_2 K_2 E0_2 F0_times_2 F0_clients_2 F0_size_2 Aq2_0 Aq2_1 g_1 z_1 gq2_0 z_2_0 gq2_1 z_2_1 ne0_1_2 ne0_2_2 neq2_0_1
def f0 (x0 : Int32) (x1 : Int32) (x2 : Int32) (x3 : Int64) : Option (Int32) := (if (((1 : Int32) + (x0 &&& (3 : Int32))) + (1 : Int32)) = (0 : Int32) then none else (f0_18 x2 x3 ((1 : Int32) + (x0 &&& (3 : Int32))) ((x1 &&& (2147483647 : Int32)) % (((1 : Int32) + (x0 &&& (3 : Int32))) + (1 : Int32)))))
set_option maxRecDepth 65536 in
set_option maxHeartbeats 40000000 in
theorem w0_0 {p : Program} {l : Launch} {e : Env} {s : State} {m : MethodId} {args : Array Value} {below : List Frame} {meth : Method} {c : Code} {Z : State} {a0 : Array Value} {h0 : Heap} {n0 : Nat} (C : Cx0 Z a0 p s m meth c) :
    ∀ (T : State) (locs : List Loc) (hA : Heap) (x0 : Int32) (x1 : Int32) (x2 : Int32) (x3 : Int64) (o : Int32), f0 x0 x1 x2 x3 = some o → Stand p l e room_1 s m args below meth c T locs 0 0 → T.heap = hA → Fr n0 locs → Old Z n0 hA → Keep h0 hA [] →  OwnOut p e s below 16 128 (Q0 Z default default default default h0 n0 o) (T.setTop (mkF m 0 #[.val (.int x0), .val (.int x1), .val (.int x2), .val (.long x3), .second, .unset, .unset, .unset, .unset] [])) := by
    obtain ⟨hx, hZ, hw, hby, hml, hown, hret, hlk, hnm⟩ := C
    intro T locs hA x0 x1 x2 x3 o hr X0 e0 N0 O0 K0
    rw [f0] at hr
    refine OwnOut.go (fun t k => XT.iconstV X0.here hx rfl (1 : Int32) (hb hby at_0) rfl k) ?_
    show OwnOut p e s below 16 128 _ (T.setTop (mkF m 1 #[.val (.int x0), .val (.int x1), .val (.int x2), .val (.long x3), .second, .unset, .unset, .unset, .unset] [(.int (1 : Int32))]))
    refine OwnOut.go (fun t k => XS.iloadN X0.here hx rfl (hb hby at_1) rfl k) ?_
    show OwnOut p e s below 16 128 _ (T.setTop (mkF m 2 #[.val (.int x0), .val (.int x1), .val (.int x2), .val (.long x3), .second, .unset, .unset, .unset, .unset] [(.int x0), (.int (1 : Int32))]))
    refine OwnOut.go (fun t k => XT.iconstV X0.here hx rfl (3 : Int32) (hb hby at_2) rfl k) ?_
    show OwnOut p e s below 16 128 _ (T.setTop (mkF m 3 #[.val (.int x0), .val (.int x1), .val (.int x2), .val (.long x3), .second, .unset, .unset, .unset, .unset] [(.int (3 : Int32)), (.int x0), (.int (1 : Int32))]))
    refine OwnOut.go (fun t k => XS.iand X0.here hx rfl (hb hby at_3) rfl k) ?_
    show OwnOut p e s below 16 128 _ (T.setTop (mkF m 4 #[.val (.int x0), .val (.int x1), .val (.int x2), .val (.long x3), .second, .unset, .unset, .unset, .unset] [(.int (x0 &&& (3 : Int32))), (.int (1 : Int32))]))
    refine OwnOut.go (fun t k => XS.iadd X0.here hx rfl (hb hby at_4) rfl k) ?_
    show OwnOut p e s below 16 128 _ (T.setTop (mkF m 5 #[.val (.int x0), .val (.int x1), .val (.int x2), .val (.long x3), .second, .unset, .unset, .unset, .unset] [(.int ((1 : Int32) + (x0 &&& (3 : Int32))))]))
    refine OwnOut.go (fun t k => XS.istore X0.here hx rfl (hb hby at_5) rfl (l' := #[.val (.int x0), .val (.int x1), .val (.int x2), .val (.long x3), .second, .val (.int ((1 : Int32) + (x0 &&& (3 : Int32)))), .unset, .unset, .unset]) rfl k) ?_
    show OwnOut p e s below 16 128 _ (T.setTop (mkF m 7 #[.val (.int x0), .val (.int x1), .val (.int x2), .val (.long x3), .second, .val (.int ((1 : Int32) + (x0 &&& (3 : Int32)))), .unset, .unset, .unset] []))
    refine OwnOut.go (fun t k => XS.iloadN X0.here hx rfl (hb hby at_7) rfl k) ?_
    show OwnOut p e s below 16 128 _ (T.setTop (mkF m 8 #[.val (.int x0), .val (.int x1), .val (.int x2), .val (.long x3), .second, .val (.int ((1 : Int32) + (x0 &&& (3 : Int32)))), .unset, .unset, .unset] [(.int x1)]))
    refine OwnOut.go (fun t k => X0.ldcInt hx hown (mvT hZ (hw _ (List.mem_of_getElem? (i := 0) rfl))) (g := (mkF m 8 #[.val (.int x0), .val (.int x1), .val (.int x2), .val (.long x3), .second, .val (.int ((1 : Int32) + (x0 &&& (3 : Int32)))), .unset, .unset, .unset] [(.int x1)])) rfl (hb hby at_8) _ k) ?_
    show OwnOut p e s below 16 128 _ (T.setTop (mkF m 10 #[.val (.int x0), .val (.int x1), .val (.int x2), .val (.long x3), .second, .val (.int ((1 : Int32) + (x0 &&& (3 : Int32)))), .unset, .unset, .unset] [(.int (2147483647 : Int32)), (.int x1)]))
    refine OwnOut.go (fun t k => XS.iand X0.here hx rfl (hb hby at_10) rfl k) ?_
    show OwnOut p e s below 16 128 _ (T.setTop (mkF m 11 #[.val (.int x0), .val (.int x1), .val (.int x2), .val (.long x3), .second, .val (.int ((1 : Int32) + (x0 &&& (3 : Int32)))), .unset, .unset, .unset] [(.int (x1 &&& (2147483647 : Int32)))]))
    refine OwnOut.go (fun t k => XS.iload X0.here hx rfl (hb hby at_11) rfl k) ?_
    show OwnOut p e s below 16 128 _ (T.setTop (mkF m 13 #[.val (.int x0), .val (.int x1), .val (.int x2), .val (.long x3), .second, .val (.int ((1 : Int32) + (x0 &&& (3 : Int32)))), .unset, .unset, .unset] [(.int ((1 : Int32) + (x0 &&& (3 : Int32)))), (.int (x1 &&& (2147483647 : Int32)))]))
    refine OwnOut.go (fun t k => XT.iconstV X0.here hx rfl (1 : Int32) (hb hby at_13) rfl k) ?_
    show OwnOut p e s below 16 128 _ (T.setTop (mkF m 14 #[.val (.int x0), .val (.int x1), .val (.int x2), .val (.long x3), .second, .val (.int ((1 : Int32) + (x0 &&& (3 : Int32)))), .unset, .unset, .unset] [(.int (1 : Int32)), (.int ((1 : Int32) + (x0 &&& (3 : Int32)))), (.int (x1 &&& (2147483647 : Int32)))]))
    refine OwnOut.go (fun t k => XS.iadd X0.here hx rfl (hb hby at_14) rfl k) ?_
    show OwnOut p e s below 16 128 _ (T.setTop (mkF m 15 #[.val (.int x0), .val (.int x1), .val (.int x2), .val (.long x3), .second, .val (.int ((1 : Int32) + (x0 &&& (3 : Int32)))), .unset, .unset, .unset] [(.int (((1 : Int32) + (x0 &&& (3 : Int32))) + (1 : Int32))), (.int (x1 &&& (2147483647 : Int32)))]))
    by_cases hz15 : (((1 : Int32) + (x0 &&& (3 : Int32))) + (1 : Int32)) = (0 : Int32)
    · rw [if_pos hz15] at hr; cases hr
    rw [if_neg hz15] at hr
    refine OwnOut.go (fun t k => iremM X0 hx rfl (hb hby at_15) rfl hz15 k) ?_
    show OwnOut p e s below 16 128 _ (T.setTop (mkF m 16 #[.val (.int x0), .val (.int x1), .val (.int x2), .val (.long x3), .second, .val (.int ((1 : Int32) + (x0 &&& (3 : Int32)))), .unset, .unset, .unset] [(.int ((x1 &&& (2147483647 : Int32)) % (((1 : Int32) + (x0 &&& (3 : Int32))) + (1 : Int32))))]))
    refine OwnOut.go (fun t k => XS.istore X0.here hx rfl (hb hby at_16) rfl (l' := #[.val (.int x0), .val (.int x1), .val (.int x2), .val (.long x3), .second, .val (.int ((1 : Int32) + (x0 &&& (3 : Int32)))), .val (.int ((x1 &&& (2147483647 : Int32)) % (((1 : Int32) + (x0 &&& (3 : Int32))) + (1 : Int32)))), .unset, .unset]) rfl k) ?_
    show OwnOut p e s below 16 128 _ (T.setTop (mkF m 18 #[.val (.int x0), .val (.int x1), .val (.int x2), .val (.long x3), .second, .val (.int ((1 : Int32) + (x0 &&& (3 : Int32)))), .val (.int ((x1 &&& (2147483647 : Int32)) % (((1 : Int32) + (x0 &&& (3 : Int32))) + (1 : Int32)))), .unset, .unset] []))
    exact w0_18 ⟨hx, hZ, hw, hby, hml, hown, hret, hlk, hnm⟩  _ _ _ x0 x1 x2 x3 ((1 : Int32) + (x0 &&& (3 : Int32))) ((x1 &&& (2147483647 : Int32)) % (((1 : Int32) + (x0 &&& (3 : Int32))) + (1 : Int32))) _ hr X0 e0 N0 O0 K0
set_option maxRecDepth 65536 in
set_option maxHeartbeats 40000000 in
theorem rm0 (l : Launch) (Z : State) (a0 : Array Value) (hw : ∀ d ∈ tables_1, d.before a0 Z = true) (ws : List Jvm.Cond) (x0 : Int32) (x1 : Int32) (x2 : Int32) (x3 : Int64) (h0 : Heap) (n0 : Nat) (o : Int32) (hr : f0 x0 x1 x2 x3 = some o) (O0 : Old Z n0 h0) :
    MetFree l x (head1 (Jvm.Cond.code x code maxLocals ret :: ws) room_1) (fun a U => a = #[(.int x0), (.int x1), (.int x2), (.long x3)] ∧ Z.Warmed39 U.vm ∧ U.heap = h0) (fun _ _ _ _ _ => True) (fun _ U o' U' => ∃ v L, o' = .returned v ∧ Q0 Z x0 x1 x2 x3 h0 n0 o v U'.heap L ∧ FrameEnd U o' U' L 16 128) := by
  refine MetFree.of_bodySF (plainFor_of_name pn0) hisR ?_
  intro p e s m args below meth c s₁ Bd hml0 hP hK
  obtain ⟨rfl, hZ, hh⟩ := hP
  have X0 : Stand p l e room_1 s m #[(.int x0), (.int x1), (.int x2), (.long x3)] below meth c s₁ [] 0 0 := Stand.of_body Bd
  have e0 : s₁.heap = h0 := by rw [← hh, Bd.state]; rfl
  exact OwnOut.at (ef0 m x0 x1 x2 x3) (w0_0 ⟨Bd.exec, hZ, hw, Bd.bytes, hml0, findClass_of_methodNamed Bd.named, Bd.returns, Bd.notSynchronized, (name_of_methodNamed Bd.named Bd.method).1⟩ _ _ _ x0 x1 x2 x3 o hr X0 e0 (Fr.nil n0) O0 (Keep.refl _ _) )
def own_bef (t : Int64) (c : Int32) (t' : Int64) (c' : Int32) : Bool := decide (t < t') || (decide (t = t') && decide (c < c'))
theorem own_f7 {α : Type} (t : Int64) (c : Int32) (t' : Int64) (c' : Int32) (g : Int32 → Option α) : (f7 t c t' c').bind g = if own_bef t c t' c' = true then g 1 else g 0 := by
  unfold f7 own_bef
  by_cases h1 : t < t'
  · simp [h1]
  by_cases h2 : t = t'
  · by_cases h3 : c < c'
    · simp [h1, h2, h3]
    · simp [h1, h2, h3]
  · simp [h1, h2]
theorem own_l1 {α : Type} {xs : List α} (h : xs.length = 1) : ∃ a, xs = [a] := match xs, h with | [a], _ => ⟨a, rfl⟩
theorem own_l2 {α : Type} {xs : List α} (h : xs.length = 2) : ∃ a b, xs = [a, b] := match xs, h with | [a, b], _ => ⟨a, b, rfl⟩
theorem own_l3 {α : Type} {xs : List α} (h : xs.length = 3) : ∃ a b c, xs = [a, b, c] := match xs, h with | [a, b, c], _ => ⟨a, b, c, rfl⟩
theorem own_l4 {α : Type} {xs : List α} (h : xs.length = 4) : ∃ a b c d, xs = [a, b, c, d] := match xs, h with | [a, b, c, d], _ => ⟨a, b, c, d, rfl⟩
set_option maxRecDepth 4096 in
set_option maxHeartbeats 2000000 in
theorem own_s1_0 (ts : List Int64) (cs : List Int32) (h1 : ts.length = 1) (h2 : cs.length = 1) : ∃ ts' cs', f5 0 ts cs = some (ts', cs') ∧ ts'.length = 1 ∧ cs'.length = 1 := by
  obtain ⟨t0, rfl⟩ := own_l1 h1
  obtain ⟨c0, rfl⟩ := own_l1 h2
  simp [f5, f5_20, f5_149, own_f7, ldx, stx]
  repeat' split
  all_goals first | exact ⟨_, _, ⟨rfl, rfl⟩, rfl, rfl⟩ | exact ⟨_, _, rfl, rfl, rfl⟩ | simp
set_option maxRecDepth 4096 in
set_option maxHeartbeats 2000000 in
theorem own_s1_1 (ts : List Int64) (cs : List Int32) (h1 : ts.length = 1) (h2 : cs.length = 1) : ∃ ts' cs', f5 1 ts cs = some (ts', cs') ∧ ts'.length = 1 ∧ cs'.length = 1 := by
  obtain ⟨t0, rfl⟩ := own_l1 h1
  obtain ⟨c0, rfl⟩ := own_l1 h2
  simp [f5, f5_20, f5_149, own_f7, ldx, stx]
  repeat' split
  all_goals first | exact ⟨_, _, ⟨rfl, rfl⟩, rfl, rfl⟩ | exact ⟨_, _, rfl, rfl, rfl⟩ | simp
theorem own_r1_1 (ts : List Int64) (cs : List Int32) (h1 : ts.length = 1) (h2 : cs.length = 1) : ∃ ts' cs', f4 1 ts cs = some (0, ts', cs') ∧ ts'.length = 1 ∧ cs'.length = 1 := by
  obtain ⟨t0, rfl⟩ := own_l1 h1
  obtain ⟨c0, rfl⟩ := own_l1 h2
  obtain ⟨ts', cs', q, r1, r2⟩ := own_s1_0 [t0] [c0] rfl rfl
  refine ⟨ts', cs', ?_, r1, r2⟩
  have e : (1 : Int32) - 1 = 0 := by decide
  have a1 : ldx [t0] (0 : Int32) = some t0 := rfl
  have a2 : stx [t0] (0 : Int32) t0 = some [t0] := rfl
  have a3 : ldx [c0] (0 : Int32) = some c0 := rfl
  have a4 : stx [c0] (0 : Int32) c0 = some [c0] := rfl
  simp only [f4, e, a1, a2, a3, a4, Option.bind_some, q]
theorem own_d1 (x : Int64) (ts : List Int64) (cs : List Int32) (h1 : ts.length = 1) (h2 : cs.length = 1) : ∃ ts' cs', f6 x 1 ts cs = some (ts', cs') ∧ ts'.length = 1 ∧ cs'.length = 1 := by
  obtain ⟨t0, rfl⟩ := own_l1 h1
  obtain ⟨ts', cs', q, r1, r2⟩ := own_s1_1 [x] cs rfl h2
  refine ⟨ts', cs', ?_, r1, r2⟩
  simp only [f6]
  show (f5 1 [x] cs).bind _ = _
  rw [q]; rfl
theorem own_i1 : f1 1 0 = some (1, [0], [0]) := by decide +kernel
theorem own_k1_0 (ts : List Int64) (cs : List Int32) (h1 : ts.length = 1) (h2 : cs.length = 1) : f0_60 1 0 1 1 ts cs = some 1 := by
  unfold f0_60
  rw [if_pos (by decide)]
  unfold f0_71
  rw [if_pos (by decide)]
  unfold f0_82
  rw [if_pos (by decide)]
  unfold f0_93
  rw [if_pos (by decide)]
  simp [f0_104, f3, f0_126]
theorem own_a1_0 (x : Int32) (y : Int64) : f0_18 x y 1 0 = some 1 := by
  unfold f0_18
  rw [own_i1]
  have e : ∀ ts cs, f3 1 ts cs = some 0 := fun _ _ => rfl
  simp only [Option.bind_some, e, if_true, f0_42]
  split
  · exact own_k1_0 _ _ rfl rfl
  · obtain ⟨ts', cs', q, r, s⟩ := own_d1 (y &&& 9223372036854775807) [0] [0] rfl rfl
    rw [q]
    exact own_k1_0 _ _ r s
theorem own_k1_1 (ts : List Int64) (cs : List Int32) (h1 : ts.length = 1) (h2 : cs.length = 1) : f0_60 1 1 1 1 ts cs = some 1 := by
  obtain ⟨ts1, cs1, q1, r1, s1⟩ := own_r1_1 ts cs h1 h2
  unfold f0_60
  rw [if_neg (by decide), q1]
  show f0_71 _ _ _ _ _ _ = _
  unfold f0_71
  rw [if_pos (by decide)]
  unfold f0_82
  rw [if_pos (by decide)]
  unfold f0_93
  rw [if_pos (by decide)]
  simp [f0_104, f3, f0_126]
theorem own_a1_1 (x : Int32) (y : Int64) : f0_18 x y 1 1 = some 1 := by
  unfold f0_18
  rw [own_i1]
  have e : ∀ ts cs, f3 1 ts cs = some 0 := fun _ _ => rfl
  simp only [Option.bind_some, e, if_true, f0_42]
  split
  · exact own_k1_1 _ _ rfl rfl
  · obtain ⟨ts', cs', q, r, s⟩ := own_d1 (y &&& 9223372036854775807) [0] [0] rfl rfl
    rw [q]
    exact own_k1_1 _ _ r s
set_option maxRecDepth 4096 in
set_option maxHeartbeats 2000000 in
theorem own_s2_0 (ts : List Int64) (cs : List Int32) (h1 : ts.length = 2) (h2 : cs.length = 2) : ∃ ts' cs', f5 0 ts cs = some (ts', cs') ∧ ts'.length = 2 ∧ cs'.length = 2 := by
  obtain ⟨t0, t1, rfl⟩ := own_l2 h1
  obtain ⟨c0, c1, rfl⟩ := own_l2 h2
  simp [f5, f5_20, f5_149, own_f7, ldx, stx]
  repeat' split
  all_goals first | exact ⟨_, _, ⟨rfl, rfl⟩, rfl, rfl⟩ | exact ⟨_, _, rfl, rfl, rfl⟩ | simp
set_option maxRecDepth 4096 in
set_option maxHeartbeats 2000000 in
theorem own_s2_1 (ts : List Int64) (cs : List Int32) (h1 : ts.length = 2) (h2 : cs.length = 2) : ∃ ts' cs', f5 1 ts cs = some (ts', cs') ∧ ts'.length = 2 ∧ cs'.length = 2 := by
  obtain ⟨t0, t1, rfl⟩ := own_l2 h1
  obtain ⟨c0, c1, rfl⟩ := own_l2 h2
  simp [f5, f5_20, f5_149, own_f7, ldx, stx]
  repeat' split
  all_goals first | exact ⟨_, _, ⟨rfl, rfl⟩, rfl, rfl⟩ | exact ⟨_, _, rfl, rfl, rfl⟩ | simp
set_option maxRecDepth 4096 in
set_option maxHeartbeats 2000000 in
theorem own_s2_2 (ts : List Int64) (cs : List Int32) (h1 : ts.length = 2) (h2 : cs.length = 2) : ∃ ts' cs', f5 2 ts cs = some (ts', cs') ∧ ts'.length = 2 ∧ cs'.length = 2 := by
  obtain ⟨t0, t1, rfl⟩ := own_l2 h1
  obtain ⟨c0, c1, rfl⟩ := own_l2 h2
  simp [f5, f5_20, f5_149, own_f7, ldx, stx]
  repeat' split
  all_goals first | exact ⟨_, _, ⟨rfl, rfl⟩, rfl, rfl⟩ | exact ⟨_, _, rfl, rfl, rfl⟩ | simp
theorem own_r2_1 (ts : List Int64) (cs : List Int32) (h1 : ts.length = 2) (h2 : cs.length = 2) : ∃ ts' cs', f4 1 ts cs = some (0, ts', cs') ∧ ts'.length = 2 ∧ cs'.length = 2 := by
  obtain ⟨t0, t1, rfl⟩ := own_l2 h1
  obtain ⟨c0, c1, rfl⟩ := own_l2 h2
  obtain ⟨ts', cs', q, r1, r2⟩ := own_s2_0 [t0, t1] [c0, c1] rfl rfl
  refine ⟨ts', cs', ?_, r1, r2⟩
  have e : (1 : Int32) - 1 = 0 := by decide
  have a1 : ldx [t0, t1] (0 : Int32) = some t0 := rfl
  have a2 : stx [t0, t1] (0 : Int32) t0 = some [t0, t1] := rfl
  have a3 : ldx [c0, c1] (0 : Int32) = some c0 := rfl
  have a4 : stx [c0, c1] (0 : Int32) c0 = some [c0, c1] := rfl
  simp only [f4, e, a1, a2, a3, a4, Option.bind_some, q]
theorem own_r2_2 (ts : List Int64) (cs : List Int32) (h1 : ts.length = 2) (h2 : cs.length = 2) : ∃ ts' cs', f4 2 ts cs = some (1, ts', cs') ∧ ts'.length = 2 ∧ cs'.length = 2 := by
  obtain ⟨t0, t1, rfl⟩ := own_l2 h1
  obtain ⟨c0, c1, rfl⟩ := own_l2 h2
  obtain ⟨ts', cs', q, r1, r2⟩ := own_s2_1 [t1, t1] [c1, c1] rfl rfl
  refine ⟨ts', cs', ?_, r1, r2⟩
  have e : (2 : Int32) - 1 = 1 := by decide
  have a1 : ldx [t0, t1] (1 : Int32) = some t1 := rfl
  have a2 : stx [t0, t1] (0 : Int32) t1 = some [t1, t1] := rfl
  have a3 : ldx [c0, c1] (1 : Int32) = some c1 := rfl
  have a4 : stx [c0, c1] (0 : Int32) c1 = some [c1, c1] := rfl
  simp only [f4, e, a1, a2, a3, a4, Option.bind_some, q]
theorem own_d2 (x : Int64) (ts : List Int64) (cs : List Int32) (h1 : ts.length = 2) (h2 : cs.length = 2) : ∃ ts' cs', f6 x 2 ts cs = some (ts', cs') ∧ ts'.length = 2 ∧ cs'.length = 2 := by
  obtain ⟨t0, t1, rfl⟩ := own_l2 h1
  obtain ⟨ts', cs', q, r1, r2⟩ := own_s2_2 [x, t1] cs rfl h2
  refine ⟨ts', cs', ?_, r1, r2⟩
  simp only [f6]
  show (f5 2 [x, t1] cs).bind _ = _
  rw [q]; rfl
theorem own_i2 : f1 2 0 = some (2, [0, 0], [0, 1]) := by decide +kernel
theorem own_k2_0 (ts : List Int64) (cs : List Int32) (h1 : ts.length = 2) (h2 : cs.length = 2) : f0_60 2 0 1 2 ts cs = some 1 := by
  unfold f0_60
  rw [if_pos (by decide)]
  unfold f0_71
  rw [if_pos (by decide)]
  unfold f0_82
  rw [if_pos (by decide)]
  unfold f0_93
  rw [if_pos (by decide)]
  simp [f0_104, f3, f0_126]
theorem own_a2_0 (x : Int32) (y : Int64) : f0_18 x y 2 0 = some 1 := by
  unfold f0_18
  rw [own_i2]
  have e : ∀ ts cs, f3 2 ts cs = some 0 := fun _ _ => rfl
  simp only [Option.bind_some, e, if_true, f0_42]
  split
  · exact own_k2_0 _ _ rfl rfl
  · obtain ⟨ts', cs', q, r, s⟩ := own_d2 (y &&& 9223372036854775807) [0, 0] [0, 1] rfl rfl
    rw [q]
    exact own_k2_0 _ _ r s
theorem own_k2_1 (ts : List Int64) (cs : List Int32) (h1 : ts.length = 2) (h2 : cs.length = 2) : f0_60 2 1 1 2 ts cs = some 1 := by
  obtain ⟨ts1, cs1, q1, r1, s1⟩ := own_r2_2 ts cs h1 h2
  unfold f0_60
  rw [if_neg (by decide), q1]
  show f0_71 _ _ _ _ _ _ = _
  unfold f0_71
  rw [if_pos (by decide)]
  unfold f0_82
  rw [if_pos (by decide)]
  unfold f0_93
  rw [if_pos (by decide)]
  simp [f0_104, f3, f0_126]
theorem own_a2_1 (x : Int32) (y : Int64) : f0_18 x y 2 1 = some 1 := by
  unfold f0_18
  rw [own_i2]
  have e : ∀ ts cs, f3 2 ts cs = some 0 := fun _ _ => rfl
  simp only [Option.bind_some, e, if_true, f0_42]
  split
  · exact own_k2_1 _ _ rfl rfl
  · obtain ⟨ts', cs', q, r, s⟩ := own_d2 (y &&& 9223372036854775807) [0, 0] [0, 1] rfl rfl
    rw [q]
    exact own_k2_1 _ _ r s
theorem own_k2_2 (ts : List Int64) (cs : List Int32) (h1 : ts.length = 2) (h2 : cs.length = 2) : f0_60 2 2 1 2 ts cs = some 1 := by
  obtain ⟨ts1, cs1, q1, r1, s1⟩ := own_r2_2 ts cs h1 h2
  unfold f0_60
  rw [if_neg (by decide), q1]
  show f0_71 _ _ _ _ _ _ = _
  obtain ⟨ts2, cs2, q2, r2, s2⟩ := own_r2_1 ts1 cs1 r1 s1
  unfold f0_71
  rw [if_neg (by decide), q2]
  show f0_82 _ _ _ _ _ _ = _
  unfold f0_82
  rw [if_pos (by decide)]
  unfold f0_93
  rw [if_pos (by decide)]
  simp [f0_104, f3, f0_126]
theorem own_a2_2 (x : Int32) (y : Int64) : f0_18 x y 2 2 = some 1 := by
  unfold f0_18
  rw [own_i2]
  have e : ∀ ts cs, f3 2 ts cs = some 0 := fun _ _ => rfl
  simp only [Option.bind_some, e, if_true, f0_42]
  split
  · exact own_k2_2 _ _ rfl rfl
  · obtain ⟨ts', cs', q, r, s⟩ := own_d2 (y &&& 9223372036854775807) [0, 0] [0, 1] rfl rfl
    rw [q]
    exact own_k2_2 _ _ r s
set_option maxRecDepth 4096 in
set_option maxHeartbeats 2000000 in
theorem own_s3_0 (ts : List Int64) (cs : List Int32) (h1 : ts.length = 3) (h2 : cs.length = 3) : ∃ ts' cs', f5 0 ts cs = some (ts', cs') ∧ ts'.length = 3 ∧ cs'.length = 3 := by
  obtain ⟨t0, t1, t2, rfl⟩ := own_l3 h1
  obtain ⟨c0, c1, c2, rfl⟩ := own_l3 h2
  simp [f5, f5_20, f5_149, own_f7, ldx, stx]
  repeat' split
  all_goals first | exact ⟨_, _, ⟨rfl, rfl⟩, rfl, rfl⟩ | exact ⟨_, _, rfl, rfl, rfl⟩ | simp
set_option maxRecDepth 4096 in
set_option maxHeartbeats 2000000 in
theorem own_s3_1 (ts : List Int64) (cs : List Int32) (h1 : ts.length = 3) (h2 : cs.length = 3) : ∃ ts' cs', f5 1 ts cs = some (ts', cs') ∧ ts'.length = 3 ∧ cs'.length = 3 := by
  obtain ⟨t0, t1, t2, rfl⟩ := own_l3 h1
  obtain ⟨c0, c1, c2, rfl⟩ := own_l3 h2
  simp [f5, f5_20, f5_149, own_f7, ldx, stx]
  repeat' split
  all_goals first | exact ⟨_, _, ⟨rfl, rfl⟩, rfl, rfl⟩ | exact ⟨_, _, rfl, rfl, rfl⟩ | simp
set_option maxRecDepth 4096 in
set_option maxHeartbeats 2000000 in
theorem own_s3_2 (ts : List Int64) (cs : List Int32) (h1 : ts.length = 3) (h2 : cs.length = 3) : ∃ ts' cs', f5 2 ts cs = some (ts', cs') ∧ ts'.length = 3 ∧ cs'.length = 3 := by
  obtain ⟨t0, t1, t2, rfl⟩ := own_l3 h1
  obtain ⟨c0, c1, c2, rfl⟩ := own_l3 h2
  simp [f5, f5_20, f5_149, own_f7, ldx, stx]
  repeat' split
  all_goals first | exact ⟨_, _, ⟨rfl, rfl⟩, rfl, rfl⟩ | exact ⟨_, _, rfl, rfl, rfl⟩ | simp
set_option maxRecDepth 4096 in
set_option maxHeartbeats 2000000 in
theorem own_s3_3 (ts : List Int64) (cs : List Int32) (h1 : ts.length = 3) (h2 : cs.length = 3) : ∃ ts' cs', f5 3 ts cs = some (ts', cs') ∧ ts'.length = 3 ∧ cs'.length = 3 := by
  obtain ⟨t0, t1, t2, rfl⟩ := own_l3 h1
  obtain ⟨c0, c1, c2, rfl⟩ := own_l3 h2
  simp [f5, f5_20, f5_149, own_f7, ldx, stx]
  repeat' split
  all_goals first | exact ⟨_, _, ⟨rfl, rfl⟩, rfl, rfl⟩ | exact ⟨_, _, rfl, rfl, rfl⟩ | simp
theorem own_r3_1 (ts : List Int64) (cs : List Int32) (h1 : ts.length = 3) (h2 : cs.length = 3) : ∃ ts' cs', f4 1 ts cs = some (0, ts', cs') ∧ ts'.length = 3 ∧ cs'.length = 3 := by
  obtain ⟨t0, t1, t2, rfl⟩ := own_l3 h1
  obtain ⟨c0, c1, c2, rfl⟩ := own_l3 h2
  obtain ⟨ts', cs', q, r1, r2⟩ := own_s3_0 [t0, t1, t2] [c0, c1, c2] rfl rfl
  refine ⟨ts', cs', ?_, r1, r2⟩
  have e : (1 : Int32) - 1 = 0 := by decide
  have a1 : ldx [t0, t1, t2] (0 : Int32) = some t0 := rfl
  have a2 : stx [t0, t1, t2] (0 : Int32) t0 = some [t0, t1, t2] := rfl
  have a3 : ldx [c0, c1, c2] (0 : Int32) = some c0 := rfl
  have a4 : stx [c0, c1, c2] (0 : Int32) c0 = some [c0, c1, c2] := rfl
  simp only [f4, e, a1, a2, a3, a4, Option.bind_some, q]
theorem own_r3_2 (ts : List Int64) (cs : List Int32) (h1 : ts.length = 3) (h2 : cs.length = 3) : ∃ ts' cs', f4 2 ts cs = some (1, ts', cs') ∧ ts'.length = 3 ∧ cs'.length = 3 := by
  obtain ⟨t0, t1, t2, rfl⟩ := own_l3 h1
  obtain ⟨c0, c1, c2, rfl⟩ := own_l3 h2
  obtain ⟨ts', cs', q, r1, r2⟩ := own_s3_1 [t1, t1, t2] [c1, c1, c2] rfl rfl
  refine ⟨ts', cs', ?_, r1, r2⟩
  have e : (2 : Int32) - 1 = 1 := by decide
  have a1 : ldx [t0, t1, t2] (1 : Int32) = some t1 := rfl
  have a2 : stx [t0, t1, t2] (0 : Int32) t1 = some [t1, t1, t2] := rfl
  have a3 : ldx [c0, c1, c2] (1 : Int32) = some c1 := rfl
  have a4 : stx [c0, c1, c2] (0 : Int32) c1 = some [c1, c1, c2] := rfl
  simp only [f4, e, a1, a2, a3, a4, Option.bind_some, q]
theorem own_r3_3 (ts : List Int64) (cs : List Int32) (h1 : ts.length = 3) (h2 : cs.length = 3) : ∃ ts' cs', f4 3 ts cs = some (2, ts', cs') ∧ ts'.length = 3 ∧ cs'.length = 3 := by
  obtain ⟨t0, t1, t2, rfl⟩ := own_l3 h1
  obtain ⟨c0, c1, c2, rfl⟩ := own_l3 h2
  obtain ⟨ts', cs', q, r1, r2⟩ := own_s3_2 [t2, t1, t2] [c2, c1, c2] rfl rfl
  refine ⟨ts', cs', ?_, r1, r2⟩
  have e : (3 : Int32) - 1 = 2 := by decide
  have a1 : ldx [t0, t1, t2] (2 : Int32) = some t2 := rfl
  have a2 : stx [t0, t1, t2] (0 : Int32) t2 = some [t2, t1, t2] := rfl
  have a3 : ldx [c0, c1, c2] (2 : Int32) = some c2 := rfl
  have a4 : stx [c0, c1, c2] (0 : Int32) c2 = some [c2, c1, c2] := rfl
  simp only [f4, e, a1, a2, a3, a4, Option.bind_some, q]
theorem own_d3 (x : Int64) (ts : List Int64) (cs : List Int32) (h1 : ts.length = 3) (h2 : cs.length = 3) : ∃ ts' cs', f6 x 3 ts cs = some (ts', cs') ∧ ts'.length = 3 ∧ cs'.length = 3 := by
  obtain ⟨t0, t1, t2, rfl⟩ := own_l3 h1
  obtain ⟨ts', cs', q, r1, r2⟩ := own_s3_3 [x, t1, t2] cs rfl h2
  refine ⟨ts', cs', ?_, r1, r2⟩
  simp only [f6]
  show (f5 3 [x, t1, t2] cs).bind _ = _
  rw [q]; rfl
theorem own_i3 : f1 3 0 = some (3, [0, 0, 0], [0, 1, 2]) := by decide +kernel
theorem own_k3_0 (ts : List Int64) (cs : List Int32) (h1 : ts.length = 3) (h2 : cs.length = 3) : f0_60 3 0 1 3 ts cs = some 1 := by
  unfold f0_60
  rw [if_pos (by decide)]
  unfold f0_71
  rw [if_pos (by decide)]
  unfold f0_82
  rw [if_pos (by decide)]
  unfold f0_93
  rw [if_pos (by decide)]
  simp [f0_104, f3, f0_126]
theorem own_a3_0 (x : Int32) (y : Int64) : f0_18 x y 3 0 = some 1 := by
  unfold f0_18
  rw [own_i3]
  have e : ∀ ts cs, f3 3 ts cs = some 0 := fun _ _ => rfl
  simp only [Option.bind_some, e, if_true, f0_42]
  split
  · exact own_k3_0 _ _ rfl rfl
  · obtain ⟨ts', cs', q, r, s⟩ := own_d3 (y &&& 9223372036854775807) [0, 0, 0] [0, 1, 2] rfl rfl
    rw [q]
    exact own_k3_0 _ _ r s
theorem own_k3_1 (ts : List Int64) (cs : List Int32) (h1 : ts.length = 3) (h2 : cs.length = 3) : f0_60 3 1 1 3 ts cs = some 1 := by
  obtain ⟨ts1, cs1, q1, r1, s1⟩ := own_r3_3 ts cs h1 h2
  unfold f0_60
  rw [if_neg (by decide), q1]
  show f0_71 _ _ _ _ _ _ = _
  unfold f0_71
  rw [if_pos (by decide)]
  unfold f0_82
  rw [if_pos (by decide)]
  unfold f0_93
  rw [if_pos (by decide)]
  simp [f0_104, f3, f0_126]
theorem own_a3_1 (x : Int32) (y : Int64) : f0_18 x y 3 1 = some 1 := by
  unfold f0_18
  rw [own_i3]
  have e : ∀ ts cs, f3 3 ts cs = some 0 := fun _ _ => rfl
  simp only [Option.bind_some, e, if_true, f0_42]
  split
  · exact own_k3_1 _ _ rfl rfl
  · obtain ⟨ts', cs', q, r, s⟩ := own_d3 (y &&& 9223372036854775807) [0, 0, 0] [0, 1, 2] rfl rfl
    rw [q]
    exact own_k3_1 _ _ r s
theorem own_k3_2 (ts : List Int64) (cs : List Int32) (h1 : ts.length = 3) (h2 : cs.length = 3) : f0_60 3 2 1 3 ts cs = some 1 := by
  obtain ⟨ts1, cs1, q1, r1, s1⟩ := own_r3_3 ts cs h1 h2
  unfold f0_60
  rw [if_neg (by decide), q1]
  show f0_71 _ _ _ _ _ _ = _
  obtain ⟨ts2, cs2, q2, r2, s2⟩ := own_r3_2 ts1 cs1 r1 s1
  unfold f0_71
  rw [if_neg (by decide), q2]
  show f0_82 _ _ _ _ _ _ = _
  unfold f0_82
  rw [if_pos (by decide)]
  unfold f0_93
  rw [if_pos (by decide)]
  simp [f0_104, f3, f0_126]
theorem own_a3_2 (x : Int32) (y : Int64) : f0_18 x y 3 2 = some 1 := by
  unfold f0_18
  rw [own_i3]
  have e : ∀ ts cs, f3 3 ts cs = some 0 := fun _ _ => rfl
  simp only [Option.bind_some, e, if_true, f0_42]
  split
  · exact own_k3_2 _ _ rfl rfl
  · obtain ⟨ts', cs', q, r, s⟩ := own_d3 (y &&& 9223372036854775807) [0, 0, 0] [0, 1, 2] rfl rfl
    rw [q]
    exact own_k3_2 _ _ r s
theorem own_k3_3 (ts : List Int64) (cs : List Int32) (h1 : ts.length = 3) (h2 : cs.length = 3) : f0_60 3 3 1 3 ts cs = some 1 := by
  obtain ⟨ts1, cs1, q1, r1, s1⟩ := own_r3_3 ts cs h1 h2
  unfold f0_60
  rw [if_neg (by decide), q1]
  show f0_71 _ _ _ _ _ _ = _
  obtain ⟨ts2, cs2, q2, r2, s2⟩ := own_r3_2 ts1 cs1 r1 s1
  unfold f0_71
  rw [if_neg (by decide), q2]
  show f0_82 _ _ _ _ _ _ = _
  obtain ⟨ts3, cs3, q3, r3, s3⟩ := own_r3_1 ts2 cs2 r2 s2
  unfold f0_82
  rw [if_neg (by decide), q3]
  show f0_93 _ _ _ _ _ _ = _
  unfold f0_93
  rw [if_pos (by decide)]
  simp [f0_104, f3, f0_126]
theorem own_a3_3 (x : Int32) (y : Int64) : f0_18 x y 3 3 = some 1 := by
  unfold f0_18
  rw [own_i3]
  have e : ∀ ts cs, f3 3 ts cs = some 0 := fun _ _ => rfl
  simp only [Option.bind_some, e, if_true, f0_42]
  split
  · exact own_k3_3 _ _ rfl rfl
  · obtain ⟨ts', cs', q, r, s⟩ := own_d3 (y &&& 9223372036854775807) [0, 0, 0] [0, 1, 2] rfl rfl
    rw [q]
    exact own_k3_3 _ _ r s
set_option maxRecDepth 4096 in
set_option maxHeartbeats 2000000 in
theorem own_s4_0 (ts : List Int64) (cs : List Int32) (h1 : ts.length = 4) (h2 : cs.length = 4) : ∃ ts' cs', f5 0 ts cs = some (ts', cs') ∧ ts'.length = 4 ∧ cs'.length = 4 := by
  obtain ⟨t0, t1, t2, t3, rfl⟩ := own_l4 h1
  obtain ⟨c0, c1, c2, c3, rfl⟩ := own_l4 h2
  simp [f5, f5_20, f5_149, own_f7, ldx, stx]
  repeat' split
  all_goals first | exact ⟨_, _, ⟨rfl, rfl⟩, rfl, rfl⟩ | exact ⟨_, _, rfl, rfl, rfl⟩ | simp
set_option maxRecDepth 4096 in
set_option maxHeartbeats 2000000 in
theorem own_s4_1 (ts : List Int64) (cs : List Int32) (h1 : ts.length = 4) (h2 : cs.length = 4) : ∃ ts' cs', f5 1 ts cs = some (ts', cs') ∧ ts'.length = 4 ∧ cs'.length = 4 := by
  obtain ⟨t0, t1, t2, t3, rfl⟩ := own_l4 h1
  obtain ⟨c0, c1, c2, c3, rfl⟩ := own_l4 h2
  simp [f5, f5_20, f5_149, own_f7, ldx, stx]
  repeat' split
  all_goals first | exact ⟨_, _, ⟨rfl, rfl⟩, rfl, rfl⟩ | exact ⟨_, _, rfl, rfl, rfl⟩ | simp
set_option maxRecDepth 4096 in
set_option maxHeartbeats 2000000 in
theorem own_s4_2 (ts : List Int64) (cs : List Int32) (h1 : ts.length = 4) (h2 : cs.length = 4) : ∃ ts' cs', f5 2 ts cs = some (ts', cs') ∧ ts'.length = 4 ∧ cs'.length = 4 := by
  obtain ⟨t0, t1, t2, t3, rfl⟩ := own_l4 h1
  obtain ⟨c0, c1, c2, c3, rfl⟩ := own_l4 h2
  simp [f5, f5_20, f5_149, own_f7, ldx, stx]
  repeat' split
  all_goals first | exact ⟨_, _, ⟨rfl, rfl⟩, rfl, rfl⟩ | exact ⟨_, _, rfl, rfl, rfl⟩ | simp
set_option maxRecDepth 4096 in
set_option maxHeartbeats 2000000 in
theorem own_s4_3 (ts : List Int64) (cs : List Int32) (h1 : ts.length = 4) (h2 : cs.length = 4) : ∃ ts' cs', f5 3 ts cs = some (ts', cs') ∧ ts'.length = 4 ∧ cs'.length = 4 := by
  obtain ⟨t0, t1, t2, t3, rfl⟩ := own_l4 h1
  obtain ⟨c0, c1, c2, c3, rfl⟩ := own_l4 h2
  simp [f5, f5_20, f5_149, own_f7, ldx, stx]
  repeat' split
  all_goals first | exact ⟨_, _, ⟨rfl, rfl⟩, rfl, rfl⟩ | exact ⟨_, _, rfl, rfl, rfl⟩ | simp
set_option maxRecDepth 4096 in
set_option maxHeartbeats 2000000 in
theorem own_s4_4 (ts : List Int64) (cs : List Int32) (h1 : ts.length = 4) (h2 : cs.length = 4) : ∃ ts' cs', f5 4 ts cs = some (ts', cs') ∧ ts'.length = 4 ∧ cs'.length = 4 := by
  obtain ⟨t0, t1, t2, t3, rfl⟩ := own_l4 h1
  obtain ⟨c0, c1, c2, c3, rfl⟩ := own_l4 h2
  simp [f5, f5_20, f5_149, own_f7, ldx, stx]
  repeat' split
  all_goals first | exact ⟨_, _, ⟨rfl, rfl⟩, rfl, rfl⟩ | exact ⟨_, _, rfl, rfl, rfl⟩ | simp
theorem own_r4_1 (ts : List Int64) (cs : List Int32) (h1 : ts.length = 4) (h2 : cs.length = 4) : ∃ ts' cs', f4 1 ts cs = some (0, ts', cs') ∧ ts'.length = 4 ∧ cs'.length = 4 := by
  obtain ⟨t0, t1, t2, t3, rfl⟩ := own_l4 h1
  obtain ⟨c0, c1, c2, c3, rfl⟩ := own_l4 h2
  obtain ⟨ts', cs', q, r1, r2⟩ := own_s4_0 [t0, t1, t2, t3] [c0, c1, c2, c3] rfl rfl
  refine ⟨ts', cs', ?_, r1, r2⟩
  have e : (1 : Int32) - 1 = 0 := by decide
  have a1 : ldx [t0, t1, t2, t3] (0 : Int32) = some t0 := rfl
  have a2 : stx [t0, t1, t2, t3] (0 : Int32) t0 = some [t0, t1, t2, t3] := rfl
  have a3 : ldx [c0, c1, c2, c3] (0 : Int32) = some c0 := rfl
  have a4 : stx [c0, c1, c2, c3] (0 : Int32) c0 = some [c0, c1, c2, c3] := rfl
  simp only [f4, e, a1, a2, a3, a4, Option.bind_some, q]
theorem own_r4_2 (ts : List Int64) (cs : List Int32) (h1 : ts.length = 4) (h2 : cs.length = 4) : ∃ ts' cs', f4 2 ts cs = some (1, ts', cs') ∧ ts'.length = 4 ∧ cs'.length = 4 := by
  obtain ⟨t0, t1, t2, t3, rfl⟩ := own_l4 h1
  obtain ⟨c0, c1, c2, c3, rfl⟩ := own_l4 h2
  obtain ⟨ts', cs', q, r1, r2⟩ := own_s4_1 [t1, t1, t2, t3] [c1, c1, c2, c3] rfl rfl
  refine ⟨ts', cs', ?_, r1, r2⟩
  have e : (2 : Int32) - 1 = 1 := by decide
  have a1 : ldx [t0, t1, t2, t3] (1 : Int32) = some t1 := rfl
  have a2 : stx [t0, t1, t2, t3] (0 : Int32) t1 = some [t1, t1, t2, t3] := rfl
  have a3 : ldx [c0, c1, c2, c3] (1 : Int32) = some c1 := rfl
  have a4 : stx [c0, c1, c2, c3] (0 : Int32) c1 = some [c1, c1, c2, c3] := rfl
  simp only [f4, e, a1, a2, a3, a4, Option.bind_some, q]
theorem own_r4_3 (ts : List Int64) (cs : List Int32) (h1 : ts.length = 4) (h2 : cs.length = 4) : ∃ ts' cs', f4 3 ts cs = some (2, ts', cs') ∧ ts'.length = 4 ∧ cs'.length = 4 := by
  obtain ⟨t0, t1, t2, t3, rfl⟩ := own_l4 h1
  obtain ⟨c0, c1, c2, c3, rfl⟩ := own_l4 h2
  obtain ⟨ts', cs', q, r1, r2⟩ := own_s4_2 [t2, t1, t2, t3] [c2, c1, c2, c3] rfl rfl
  refine ⟨ts', cs', ?_, r1, r2⟩
  have e : (3 : Int32) - 1 = 2 := by decide
  have a1 : ldx [t0, t1, t2, t3] (2 : Int32) = some t2 := rfl
  have a2 : stx [t0, t1, t2, t3] (0 : Int32) t2 = some [t2, t1, t2, t3] := rfl
  have a3 : ldx [c0, c1, c2, c3] (2 : Int32) = some c2 := rfl
  have a4 : stx [c0, c1, c2, c3] (0 : Int32) c2 = some [c2, c1, c2, c3] := rfl
  simp only [f4, e, a1, a2, a3, a4, Option.bind_some, q]
theorem own_r4_4 (ts : List Int64) (cs : List Int32) (h1 : ts.length = 4) (h2 : cs.length = 4) : ∃ ts' cs', f4 4 ts cs = some (3, ts', cs') ∧ ts'.length = 4 ∧ cs'.length = 4 := by
  obtain ⟨t0, t1, t2, t3, rfl⟩ := own_l4 h1
  obtain ⟨c0, c1, c2, c3, rfl⟩ := own_l4 h2
  obtain ⟨ts', cs', q, r1, r2⟩ := own_s4_3 [t3, t1, t2, t3] [c3, c1, c2, c3] rfl rfl
  refine ⟨ts', cs', ?_, r1, r2⟩
  have e : (4 : Int32) - 1 = 3 := by decide
  have a1 : ldx [t0, t1, t2, t3] (3 : Int32) = some t3 := rfl
  have a2 : stx [t0, t1, t2, t3] (0 : Int32) t3 = some [t3, t1, t2, t3] := rfl
  have a3 : ldx [c0, c1, c2, c3] (3 : Int32) = some c3 := rfl
  have a4 : stx [c0, c1, c2, c3] (0 : Int32) c3 = some [c3, c1, c2, c3] := rfl
  simp only [f4, e, a1, a2, a3, a4, Option.bind_some, q]
theorem own_d4 (x : Int64) (ts : List Int64) (cs : List Int32) (h1 : ts.length = 4) (h2 : cs.length = 4) : ∃ ts' cs', f6 x 4 ts cs = some (ts', cs') ∧ ts'.length = 4 ∧ cs'.length = 4 := by
  obtain ⟨t0, t1, t2, t3, rfl⟩ := own_l4 h1
  obtain ⟨ts', cs', q, r1, r2⟩ := own_s4_4 [x, t1, t2, t3] cs rfl h2
  refine ⟨ts', cs', ?_, r1, r2⟩
  simp only [f6]
  show (f5 4 [x, t1, t2, t3] cs).bind _ = _
  rw [q]; rfl
theorem own_i4 : f1 4 0 = some (4, [0, 0, 0, 0], [0, 1, 2, 3]) := by decide +kernel
theorem own_k4_0 (ts : List Int64) (cs : List Int32) (h1 : ts.length = 4) (h2 : cs.length = 4) : f0_60 4 0 1 4 ts cs = some 1 := by
  unfold f0_60
  rw [if_pos (by decide)]
  unfold f0_71
  rw [if_pos (by decide)]
  unfold f0_82
  rw [if_pos (by decide)]
  unfold f0_93
  rw [if_pos (by decide)]
  simp [f0_104, f3, f0_126]
theorem own_a4_0 (x : Int32) (y : Int64) : f0_18 x y 4 0 = some 1 := by
  unfold f0_18
  rw [own_i4]
  have e : ∀ ts cs, f3 4 ts cs = some 0 := fun _ _ => rfl
  simp only [Option.bind_some, e, if_true, f0_42]
  split
  · exact own_k4_0 _ _ rfl rfl
  · obtain ⟨ts', cs', q, r, s⟩ := own_d4 (y &&& 9223372036854775807) [0, 0, 0, 0] [0, 1, 2, 3] rfl rfl
    rw [q]
    exact own_k4_0 _ _ r s
theorem own_k4_1 (ts : List Int64) (cs : List Int32) (h1 : ts.length = 4) (h2 : cs.length = 4) : f0_60 4 1 1 4 ts cs = some 1 := by
  obtain ⟨ts1, cs1, q1, r1, s1⟩ := own_r4_4 ts cs h1 h2
  unfold f0_60
  rw [if_neg (by decide), q1]
  show f0_71 _ _ _ _ _ _ = _
  unfold f0_71
  rw [if_pos (by decide)]
  unfold f0_82
  rw [if_pos (by decide)]
  unfold f0_93
  rw [if_pos (by decide)]
  simp [f0_104, f3, f0_126]
theorem own_a4_1 (x : Int32) (y : Int64) : f0_18 x y 4 1 = some 1 := by
  unfold f0_18
  rw [own_i4]
  have e : ∀ ts cs, f3 4 ts cs = some 0 := fun _ _ => rfl
  simp only [Option.bind_some, e, if_true, f0_42]
  split
  · exact own_k4_1 _ _ rfl rfl
  · obtain ⟨ts', cs', q, r, s⟩ := own_d4 (y &&& 9223372036854775807) [0, 0, 0, 0] [0, 1, 2, 3] rfl rfl
    rw [q]
    exact own_k4_1 _ _ r s
theorem own_k4_2 (ts : List Int64) (cs : List Int32) (h1 : ts.length = 4) (h2 : cs.length = 4) : f0_60 4 2 1 4 ts cs = some 1 := by
  obtain ⟨ts1, cs1, q1, r1, s1⟩ := own_r4_4 ts cs h1 h2
  unfold f0_60
  rw [if_neg (by decide), q1]
  show f0_71 _ _ _ _ _ _ = _
  obtain ⟨ts2, cs2, q2, r2, s2⟩ := own_r4_3 ts1 cs1 r1 s1
  unfold f0_71
  rw [if_neg (by decide), q2]
  show f0_82 _ _ _ _ _ _ = _
  unfold f0_82
  rw [if_pos (by decide)]
  unfold f0_93
  rw [if_pos (by decide)]
  simp [f0_104, f3, f0_126]
theorem own_a4_2 (x : Int32) (y : Int64) : f0_18 x y 4 2 = some 1 := by
  unfold f0_18
  rw [own_i4]
  have e : ∀ ts cs, f3 4 ts cs = some 0 := fun _ _ => rfl
  simp only [Option.bind_some, e, if_true, f0_42]
  split
  · exact own_k4_2 _ _ rfl rfl
  · obtain ⟨ts', cs', q, r, s⟩ := own_d4 (y &&& 9223372036854775807) [0, 0, 0, 0] [0, 1, 2, 3] rfl rfl
    rw [q]
    exact own_k4_2 _ _ r s
theorem own_k4_3 (ts : List Int64) (cs : List Int32) (h1 : ts.length = 4) (h2 : cs.length = 4) : f0_60 4 3 1 4 ts cs = some 1 := by
  obtain ⟨ts1, cs1, q1, r1, s1⟩ := own_r4_4 ts cs h1 h2
  unfold f0_60
  rw [if_neg (by decide), q1]
  show f0_71 _ _ _ _ _ _ = _
  obtain ⟨ts2, cs2, q2, r2, s2⟩ := own_r4_3 ts1 cs1 r1 s1
  unfold f0_71
  rw [if_neg (by decide), q2]
  show f0_82 _ _ _ _ _ _ = _
  obtain ⟨ts3, cs3, q3, r3, s3⟩ := own_r4_2 ts2 cs2 r2 s2
  unfold f0_82
  rw [if_neg (by decide), q3]
  show f0_93 _ _ _ _ _ _ = _
  unfold f0_93
  rw [if_pos (by decide)]
  simp [f0_104, f3, f0_126]
theorem own_a4_3 (x : Int32) (y : Int64) : f0_18 x y 4 3 = some 1 := by
  unfold f0_18
  rw [own_i4]
  have e : ∀ ts cs, f3 4 ts cs = some 0 := fun _ _ => rfl
  simp only [Option.bind_some, e, if_true, f0_42]
  split
  · exact own_k4_3 _ _ rfl rfl
  · obtain ⟨ts', cs', q, r, s⟩ := own_d4 (y &&& 9223372036854775807) [0, 0, 0, 0] [0, 1, 2, 3] rfl rfl
    rw [q]
    exact own_k4_3 _ _ r s
theorem own_k4_4 (ts : List Int64) (cs : List Int32) (h1 : ts.length = 4) (h2 : cs.length = 4) : f0_60 4 4 1 4 ts cs = some 1 := by
  obtain ⟨ts1, cs1, q1, r1, s1⟩ := own_r4_4 ts cs h1 h2
  unfold f0_60
  rw [if_neg (by decide), q1]
  show f0_71 _ _ _ _ _ _ = _
  obtain ⟨ts2, cs2, q2, r2, s2⟩ := own_r4_3 ts1 cs1 r1 s1
  unfold f0_71
  rw [if_neg (by decide), q2]
  show f0_82 _ _ _ _ _ _ = _
  obtain ⟨ts3, cs3, q3, r3, s3⟩ := own_r4_2 ts2 cs2 r2 s2
  unfold f0_82
  rw [if_neg (by decide), q3]
  show f0_93 _ _ _ _ _ _ = _
  obtain ⟨ts4, cs4, q4, r4, s4⟩ := own_r4_1 ts3 cs3 r3 s3
  unfold f0_93
  rw [if_neg (by decide), q4]
  show f0_104 _ _ _ _ _ _ = _
  simp [f0_104, f3, f0_126]
theorem own_a4_4 (x : Int32) (y : Int64) : f0_18 x y 4 4 = some 1 := by
  unfold f0_18
  rw [own_i4]
  have e : ∀ ts cs, f3 4 ts cs = some 0 := fun _ _ => rfl
  simp only [Option.bind_some, e, if_true, f0_42]
  split
  · exact own_k4_4 _ _ rfl rfl
  · obtain ⟨ts', cs', q, r, s⟩ := own_d4 (y &&& 9223372036854775807) [0, 0, 0, 0] [0, 1, 2, 3] rfl rfl
    rw [q]
    exact own_k4_4 _ _ r s
theorem law_ok (a b c : Int32) (d : Int64) : f0 a b c d = some 1 := by
  have e1 : (a &&& 3).toInt = a.toInt % (2 ^ 2 : Nat) := c_mask a 3 2 (by decide) (by decide)
  have e2 : (b &&& 2147483647).toInt = b.toInt % (2 ^ 31 : Nat) := c_mask b 2147483647 31 (by decide) (by decide)
  have hc : (a &&& 3) = 0 ∨ (a &&& 3) = 1 ∨ (a &&& 3) = 2 ∨ (a &&& 3) = 3 := by
    simp only [← Int32.toInt_inj, Int32.reduceToInt]; omega
  unfold f0
  rcases hc with h | h | h | h
  · rw [h, show (1 : Int32) + 0 = 1 from by decide, show (1 : Int32) + 1 = 2 from by decide, if_neg (by decide)]
    have e3 := (c_irem (b &&& 2147483647) 2 2 (by decide)).1 (by omega)
    have hk : (b &&& 2147483647) % 2 = 0 ∨ (b &&& 2147483647) % 2 = 1 := by
      simp only [← Int32.toInt_inj, Int32.reduceToInt]; omega
    rcases hk with k | k <;> rw [k]
    · exact own_a1_0 _ _
    · exact own_a1_1 _ _
  · rw [h, show (1 : Int32) + 1 = 2 from by decide, show (2 : Int32) + 1 = 3 from by decide, if_neg (by decide)]
    have e3 := (c_irem (b &&& 2147483647) 3 3 (by decide)).1 (by omega)
    have hk : (b &&& 2147483647) % 3 = 0 ∨ (b &&& 2147483647) % 3 = 1 ∨ (b &&& 2147483647) % 3 = 2 := by
      simp only [← Int32.toInt_inj, Int32.reduceToInt]; omega
    rcases hk with k | k | k <;> rw [k]
    · exact own_a2_0 _ _
    · exact own_a2_1 _ _
    · exact own_a2_2 _ _
  · rw [h, show (1 : Int32) + 2 = 3 from by decide, show (3 : Int32) + 1 = 4 from by decide, if_neg (by decide)]
    have e3 := (c_irem (b &&& 2147483647) 4 4 (by decide)).1 (by omega)
    have hk : (b &&& 2147483647) % 4 = 0 ∨ (b &&& 2147483647) % 4 = 1 ∨ (b &&& 2147483647) % 4 = 2 ∨ (b &&& 2147483647) % 4 = 3 := by
      simp only [← Int32.toInt_inj, Int32.reduceToInt]; omega
    rcases hk with k | k | k | k <;> rw [k]
    · exact own_a3_0 _ _
    · exact own_a3_1 _ _
    · exact own_a3_2 _ _
    · exact own_a3_3 _ _
  · rw [h, show (1 : Int32) + 3 = 4 from by decide, show (4 : Int32) + 1 = 5 from by decide, if_neg (by decide)]
    have e3 := (c_irem (b &&& 2147483647) 5 5 (by decide)).1 (by omega)
    have hk : (b &&& 2147483647) % 5 = 0 ∨ (b &&& 2147483647) % 5 = 1 ∨ (b &&& 2147483647) % 5 = 2 ∨ (b &&& 2147483647) % 5 = 3 ∨ (b &&& 2147483647) % 5 = 4 := by
      simp only [← Int32.toInt_inj, Int32.reduceToInt]; omega
    rcases hk with k | k | k | k | k <;> rw [k]
    · exact own_a4_0 _ _
    · exact own_a4_1 _ _
    · exact own_a4_2 _ _
    · exact own_a4_3 _ _
    · exact own_a4_4 _ _
set_option maxRecDepth 65536 in
set_option maxHeartbeats 40000000 in
theorem comes_1 {Post : Tables → Env → Array Value → State → Outcome → State → Prop} (hpost : ∀ tb e args s v u, (limb_1_1.after args s (.returned v) u = true ∧ limb_1_2.after args s (.returned v) u = true ∧ True) → FrameEnd s (.returned v) u (Jvm.fieldLocs frame_1_writes args s ++ Jvm.arrayLocs frame_1_arrays args s ++ Jvm.staticLocs frame_1_statics s) 16 128 → Post tb e args s (.returned v) u) :
    ArmFor flags0 classFile x code maxLocals ret World_1 tables_1 room_1 Calls_1 rest_1 Pre_1 Post := by
  intro l hfl _ _ p e ha hc hk s m args below hf hA hF happ hP
  obtain ⟨hcalls, hrest, hpre⟩ := hP
  obtain ⟨-, -, -, hnamed, -, -, -, hat⟩ := (Spec.applies_iff hf).mp happ
  obtain ⟨hg, hn⟩ := and_e (Cond.before_iff.mp (show (Jvm.Cond.and given_1 narrow_1).before args s = true from hpre))
  obtain ⟨g1, g2⟩ := and_e hg
  obtain ⟨g3, g4⟩ := and_e g2
  obtain ⟨g5, g6⟩ := and_e g4
  obtain ⟨g7, g8⟩ := and_e g6
  obtain ⟨w0, w1, w2, w3, rfl⟩ : ∃ w0 w1 w2 w3 : Value, args = #[w0, w1, w2, w3] := by
    have hs : args.size = 4 := by simpa [Cond.value, given_1] using g1
    obtain ⟨L⟩ := args
    match L, hs with
    | [w0, w1, w2, w3], _ => exact ⟨w0, w1, w2, w3, rfl⟩
  have hw := fun d (hd : d ∈ tables_1) => atoms_spec (ws := Jvm.Cond.code x code maxLocals ret :: tables_1) hat d (List.mem_cons_of_mem _ hd)
  obtain ⟨i0, ei0⟩ := is_v g3
  obtain rfl : w0 = (.int i0) := Option.some.inj ei0
  obtain ⟨i1, ei1⟩ := is_v g5
  obtain rfl : w1 = (.int i1) := Option.some.inj ei1
  obtain ⟨i2, ei2⟩ := is_v g7
  obtain rfl : w2 = (.int i2) := Option.some.inj ei2
  obtain ⟨i3, ei3⟩ := isL_v g8
  obtain rfl : w3 = (.long i3) := Option.some.inj ei3
  obtain ⟨n, o, h1, h2, h3, _, L, rfl, ⟨rfl, N⟩, hq⟩ := rm0 l s _ hw tables_1 i0 i1 i2 i3 s.heap s.heap.size 1 (law_ok i0 i1 i2 i3) (Old.start s) p e ha hc hk s m _ below hf ((Spec.applies_iff_loose hf).mp happ).1 ⟨rfl, State.Warmed39.refl s, rfl⟩ trivial
  have hv : (1 : Int32) = 1 := rfl
  refine ⟨n, _, h1, h2, h3, hpost _ _ _ _ _ _ ⟨Cond.after_iff.mpr rfl, Cond.after_iff.mpr (eq_i res_at (Term.int_eval (1)) (congrArg Value.int hv)), trivial⟩ ⟨hq.1, hq.2.1, (hq.2.2.sift fun y hy => Or.inr (N y hy)).mono (by decide) (by decide)⟩⟩
theorem main_1_1 : Claimed_1_1 := comes_1 fun _ _ _ _ _ _ h hF => ⟨h.1, hF⟩
theorem main_1_2 : Claimed_1_2 := comes_1 fun _ _ _ _ _ _ h hF => ⟨h.2.1, hF⟩
end Jvm.Pilot.@@N@@
namespace Jvm.Pilot.@@N@@
open Jvm Jvm.ClassFile Sem Op Lib Jvm.Free Jvm.Stand Jvm.Pilot.@@N@@.Jvm.D
/-! MADE BY PROGRAM (witnessworld.py) out of the Statement's table words and the real class files: 11 classes; the members and pool entries that the words name. The judged class is class 1, her method 1. -/
namespace start1
open Jvm.ClassFile
def u (s : String) : CpInfo := .utf8 (stringToUtf16 s)
/-- a pool by its gaps: so many unusable entries, then the entry; so many at the end -/
def gap : Nat → List CpInfo → List CpInfo
  | 0, r => r
  | n + 1, r => .unusable :: gap n r
def poolList (es : List (Nat × CpInfo)) (last : Nat) : List CpInfo := es.foldr (fun e r => gap e.1 (e.2 :: r)) (gap last [])
def pool (es : List (Nat × CpInfo)) (last : Nat) : Array CpInfo := ⟨poolList es last⟩
def fileOf (pool : Array CpInfo) (this : Nat) (attrs : Array Attribute := #[]) (ms : Array MethodInfo := #[]) (fl : Nat := 33) (sup : Nat := 0) (ifs : Array Nat := #[]) (fds : Array FieldInfo := #[]) : ClassFile where
  minorVersion := 0
  majorVersion := 65
  constantPool := pool
  accessFlags := fl
  thisClass := this
  superClass := sup
  interfaces := ifs
  fields := fds
  methods := ms
  attributes := attrs
def plain (name : String) (sup : Option ClassId) : Class where
  name := name
  kind := .ordinary
  loader := none
  accessFlags := 33
  super := sup
  interfaces := #[]
  cf := none
  fields := #[]
  methods := #[]
  instanceTypes := #[]
  staticTypes := #[]
  resolved := #[]
  callSites := []
  init := .initialized
  statics := none
  mirror := none

def pool0 : Array CpInfo := pool [(5, u "<init>"), (0, u "()V"), (1, .class_ 10), (1, u "java/lang/Object")] 113

def k0c0 : Code := { maxStack := 0, maxLocals := 1, code := object_method_1_code, exceptionTable := #[], attributes := #[] }
def k0m0 : Method := { name := "<init>", desc := "()V", sig := { parameters := [], returnType := none }, accessFlags := 1, code := some k0c0 }
/-- java/lang/Object -/
def k0 : Class := { plain "java/lang/Object" none with
  accessFlags := 33
  interfaces := #[]
  cf := some (fileOf pool0 8 #[] #[{ accessFlags := 1, nameIndex := 5, descriptorIndex := 6, attributes := #[] }] 33 0 #[] #[])
  fields := #[]
  methods := #[k0m0]
  instanceTypes := #[]
  staticTypes := #[]
  resolved := Array.replicate 124 none
  statics := none }

def pool1 : Array CpInfo := pool [(2, .class_ 4), (1, u "java/lang/Object"), (0, u "<init>"), (0, u "()V"), (0, .integer 2147483647), (0, .class_ 9), (0, u "com/example/porter_drive/porterdrive/RequestQueue"), (0, .methodref 8 11), (0, .nameAndType 5 12), (0, u "(I)V"), (0, .methodref 8 14), (0, .nameAndType 15 16), (0, u "isEmpty"), (0, u "()Z"), (2, .long 9223372036854775807), (1, .methodref 8 22), (0, .nameAndType 23 24), (0, u "delayFirst"), (0, u "(J)V"), (0, .methodref 8 26), (0, .nameAndType 27 6), (0, u "removeFirst"), (0, .class_ 29), (0, u "com/example/porter_drive/porterdrive/RequestQueueIsEmptyPinLaw"), (2, u "law"), (0, u "(IIIJ)Z")] 3

def k1m0 : Method := { name := "<init>", desc := "()V", sig := { parameters := [], returnType := none }, accessFlags := 1, code := none }
def k1c1 : Code := { maxStack := 5, maxLocals := 9, code := code, exceptionTable := #[], attributes := #[] }
def k1m1 : Method := { name := "law", desc := "(IIIJ)Z", sig := { parameters := [.int, .int, .int, .long], returnType := some .boolean }, accessFlags := 9, code := some k1c1 }
/-- com/example/porter_drive/porterdrive/RequestQueueIsEmptyPinLaw -/
def k1 : Class := { plain "com/example/porter_drive/porterdrive/RequestQueueIsEmptyPinLaw" (some 0) with
  accessFlags := 49
  interfaces := #[]
  cf := some (fileOf pool1 28 #[] #[{ accessFlags := 1, nameIndex := 5, descriptorIndex := 6, attributes := #[] }, { accessFlags := 9, nameIndex := 32, descriptorIndex := 33, attributes := #[] }] 49 2 #[] #[])
  fields := #[]
  methods := #[k1m0, k1m1]
  instanceTypes := #[]
  staticTypes := #[]
  resolved := Array.replicate 37 none
  statics := none }

def pool2 : Array CpInfo := pool [(1, .methodref 2 3), (0, .class_ 4), (0, .nameAndType 5 6), (0, u "java/lang/Object"), (0, u "<init>"), (0, u "()V"), (0, .fieldref 8 9), (0, .class_ 10), (0, .nameAndType 11 12), (0, u "com/example/porter_drive/porterdrive/RequestQueue"), (0, u "times"), (0, u "[J"), (0, .fieldref 8 14), (0, .nameAndType 15 16), (0, u "clients"), (0, u "[I"), (0, .fieldref 8 18), (0, .nameAndType 19 20), (0, u "size"), (0, u "I"), (0, .methodref 8 22), (0, .nameAndType 23 6), (0, u "siftDown"), (0, .methodref 8 25), (0, .nameAndType 26 27), (0, u "isBefore"), (0, u "(JIJI)Z"), (0, u "(I)V"), (3, u "isEmpty"), (0, u "()Z"), (4, u "removeFirst"), (0, u "delayFirst"), (0, u "(J)V")] 2

def k2c0 : Code := { maxStack := 3, maxLocals := 3, code := prog_24_method_1_code, exceptionTable := #[], attributes := #[] }
def k2m0 : Method := { name := "<init>", desc := "(I)V", sig := { parameters := [.int], returnType := none }, accessFlags := 0, code := some k2c0 }
def k2c1 : Code := { maxStack := 1, maxLocals := 1, code := prog_24_method_2_code, exceptionTable := #[], attributes := #[] }
def k2m1 : Method := { name := "isEmpty", desc := "()Z", sig := { parameters := [], returnType := some .boolean }, accessFlags := 0, code := some k2c1 }
def k2c2 : Code := { maxStack := 4, maxLocals := 1, code := prog_24_method_5_code, exceptionTable := #[], attributes := #[] }
def k2m2 : Method := { name := "removeFirst", desc := "()V", sig := { parameters := [], returnType := none }, accessFlags := 0, code := some k2c2 }
def k2c3 : Code := { maxStack := 4, maxLocals := 3, code := prog_24_method_6_code, exceptionTable := #[], attributes := #[] }
def k2m3 : Method := { name := "delayFirst", desc := "(J)V", sig := { parameters := [.long], returnType := none }, accessFlags := 0, code := some k2c3 }
def k2c4 : Code := { maxStack := 7, maxLocals := 6, code := prog_24_method_7_code, exceptionTable := #[], attributes := #[] }
def k2m4 : Method := { name := "siftDown", desc := "()V", sig := { parameters := [], returnType := none }, accessFlags := 2, code := some k2c4 }
def k2c5 : Code := { maxStack := 4, maxLocals := 6, code := prog_24_method_8_code, exceptionTable := #[], attributes := #[] }
def k2m5 : Method := { name := "isBefore", desc := "(JIJI)Z", sig := { parameters := [.long, .int, .long, .int], returnType := some .boolean }, accessFlags := 10, code := some k2c5 }
/-- com/example/porter_drive/porterdrive/RequestQueue -/
def k2 : Class := { plain "com/example/porter_drive/porterdrive/RequestQueue" (some 0) with
  accessFlags := 32
  interfaces := #[]
  cf := some (fileOf pool2 8 #[] #[{ accessFlags := 0, nameIndex := 5, descriptorIndex := 28, attributes := #[] }, { accessFlags := 0, nameIndex := 32, descriptorIndex := 33, attributes := #[] }, { accessFlags := 0, nameIndex := 38, descriptorIndex := 6, attributes := #[] }, { accessFlags := 0, nameIndex := 39, descriptorIndex := 40, attributes := #[] }, { accessFlags := 2, nameIndex := 23, descriptorIndex := 6, attributes := #[] }, { accessFlags := 10, nameIndex := 26, descriptorIndex := 27, attributes := #[] }] 32 2 #[] #[{ accessFlags := 18, nameIndex := 11, descriptorIndex := 12, attributes := #[] }, { accessFlags := 18, nameIndex := 15, descriptorIndex := 16, attributes := #[] }, { accessFlags := 2, nameIndex := 19, descriptorIndex := 20, attributes := #[] }])
  fields := #[{ name := "times", type := (.array .long), accessFlags := 18, slot := 0, constantValue := 0 }, { name := "clients", type := (.array .int), accessFlags := 18, slot := 1, constantValue := 0 }, { name := "size", type := .int, accessFlags := 2, slot := 2, constantValue := 0 }]
  methods := #[k2m0, k2m1, k2m2, k2m3, k2m4, k2m5]
  instanceTypes := #[(.array .long), (.array .int), .int]
  staticTypes := #[]
  resolved := Array.replicate 43 none
  statics := none }

def pool3 : Array CpInfo := pool [(1, u "java/lang/Cloneable"), (0, .class_ 1), (0, u "java/lang/Object"), (0, .class_ 3)] 3

/-- java/lang/Cloneable -/
def k3 : Class := { plain "java/lang/Cloneable" (some 0) with
  accessFlags := 1537
  interfaces := #[]
  cf := some (fileOf pool3 2 #[] #[] 1537 4 #[] #[])
  fields := #[]
  methods := #[]
  instanceTypes := #[]
  staticTypes := #[]
  resolved := Array.replicate 8 none
  statics := none }

def pool4 : Array CpInfo := pool [(1, u "java/io/Serializable"), (0, .class_ 1), (0, u "java/lang/Object"), (0, .class_ 3)] 3

/-- java/io/Serializable -/
def k4 : Class := { plain "java/io/Serializable" (some 0) with
  accessFlags := 1537
  interfaces := #[]
  cf := some (fileOf pool4 2 #[] #[] 1537 4 #[] #[])
  fields := #[]
  methods := #[]
  instanceTypes := #[]
  staticTypes := #[]
  resolved := Array.replicate 8 none
  statics := none }

/-- the primitive byte -/
def k5 : Class := { plain "byte" none with kind := .primitive 'B', accessFlags := 0x411 }
/-- [B -/
def k6 : Class := { plain "[B" (some 0) with kind := .array 5 .byte, interfaces := #[3, 4], accessFlags := 1041 }

/-- the primitive int -/
def k7 : Class := { plain "int" none with kind := .primitive 'I', accessFlags := 0x411 }
/-- [I -/
def k8 : Class := { plain "[I" (some 0) with kind := .array 7 .int, interfaces := #[3, 4], accessFlags := 1041 }

/-- the primitive long -/
def k9 : Class := { plain "long" none with kind := .primitive 'J', accessFlags := 0x411 }
/-- [J -/
def k10 : Class := { plain "[J" (some 0) with kind := .array 9 .long, interfaces := #[3, 4], accessFlags := 1041 }

def heap : Heap := #[]
def classes : Array Class := #[k0, k1, k2, k3, k4, k5, k6, k7, k8, k9, k10]
def interned : List (Array UInt16 × Addr) := []
def slotsUsed : Nat := 0
def theMethod : MethodId := ⟨1, 1⟩
def args0 : Array Value := #[.int 5, .int 7, .int 3, .long 9]
def aboutOver (below : List Frame) : State where
  vm := { classes := classes, interned := interned.toArray }
  heap := heap
  slotsUsed := slotsUsed
  threads := #[{ frames := .invoking theMethod args0 :: below }]
def below0 : List Frame := [.native { method := ⟨0, 0⟩, args := #[] }]
def about1 : State := aboutOver below0
def p0 : Program := .bare "" "" ""
def e0 : Env := launch0.env 0 0 0
theorem w_frames : about1.frames = Frame.invoking theMethod args0 :: below0 := rfl
set_option maxRecDepth 65536 in
theorem w_args : argsFit about1.vm theMethod args0 = true := by decide +kernel
set_option maxRecDepth 65536 in
theorem w_heap : heapFits about1 = true := by decide +kernel
set_option maxRecDepth 65536 in
theorem w_runnable : about1.curStatus? = some .runnable := by decide +kernel
set_option maxRecDepth 65536 in
theorem w_alone : about1.alone = true := by decide +kernel
set_option maxRecDepth 65536 in
theorem w_named : about1.methodNamed? x = some theMethod := by decide +kernel
set_option maxRecDepth 65536 in
theorem w_hears : about1.hears theMethod below0 = true := by decide +kernel
set_option maxRecDepth 65536 in
theorem w_ripe : about1.ripe theMethod args0 below0 = true := by decide +kernel
theorem w_running : about1.status = .running := rfl
set_option maxRecDepth 65536 in
theorem w_room : about1.hasRoom e0.platform room_1 = true :=
  launch0.hasRoom_least _ room_1 (by decide +kernel) (by decide +kernel) (by decide +kernel) (by decide +kernel) (by decide +kernel) (by decide +kernel)
theorem allAtoms_all (ts : List Jvm.Cond) (a : Array Jvm.Value) (st : Jvm.State) : (allAtoms ts).before a st = ts.all (fun c => c.before a st) := by
  induction ts with
  | nil => rfl
  | cons c t ih =>
    show (Jvm.Cond.and c (allAtoms t)).before a st = _
    rw [Jvm.Cond.before_and, ih, List.all_cons]
def words1 : List Jvm.Cond := Jvm.Cond.code x code maxLocals ret :: tables_1
/-- a 'code' word, met by the world's own term for the bytes: nothing is compared byte by byte -/
theorem code_word {y : MethodName} {bytes : ByteArray} {mx : Nat} {rt : Option FieldType} {a : Array Value} {s : State} {m : MethodId} {meth : Method} {c : Code} (h1 : s.methodNamed? y = some m) (h2 : s.vm.method? m = some meth) (h3 : meth.code = some c) (h4 : c.code = bytes)
    (h5 : (c.maxLocals == mx && c.exceptionTable.isEmpty && decide (c.maxStack ≤ mostOperands) && decide (meth.sig.returnType = rt) && !meth.locks && decide (parseMethodDescriptor y.desc = some meth.sig)) = true) : (Jvm.Cond.code y bytes mx rt).before a s = true := by
  simp only [Bool.and_eq_true, beq_iff_eq, Bool.not_eq_true', decide_eq_true_eq] at h5
  obtain ⟨⟨⟨⟨⟨g1, g2⟩, g3⟩, g4⟩, g5⟩, g6⟩ := h5
  simp [Cond.before, Cond.holds, Cond.value, h1, h2, h3, h4, g1, g2, g3, g4, g5, g6]
def isCode : Jvm.Cond → Bool
  | .code _ _ _ _ => true
  | _ => false
theorem all_split {L : List Jvm.Cond} {P : Jvm.Cond → Bool} (h1 : L.all (fun c => isCode c || P c) = true) (h2 : ∀ c ∈ L.filter isCode, P c = true) : L.all P = true := by
  refine List.all_eq_true.mpr fun c hc => ?_
  have h := List.all_eq_true.mp h1 c hc
  rcases Bool.eq_false_or_eq_true (isCode c) with hi | hi
  · exact h2 c (List.mem_filter.mpr ⟨hc, hi⟩)
  · simpa [hi] using h
set_option maxRecDepth 65536 in
theorem w_c0 : (Jvm.Cond.code x code maxLocals ret).before args0 about1 = true := code_word (m := ⟨1, 1⟩) (meth := k1m1) (c := k1c1) (by decide +kernel) rfl rfl rfl (by decide +kernel)
set_option maxRecDepth 65536 in
theorem w_c1 : (Jvm.Cond.code ({ cls := "com/example/porter_drive/porterdrive/RequestQueue", name := "<init>", desc := "(I)V" } : Jvm.MethodName) prog_24_method_1_code (3 : Nat) (Option.none : Option Jvm.ClassFile.FieldType)).before args0 about1 = true := code_word (m := ⟨2, 0⟩) (meth := k2m0) (c := k2c0) (by decide +kernel) rfl rfl rfl (by decide +kernel)
set_option maxRecDepth 65536 in
theorem w_c2 : (Jvm.Cond.code ({ cls := "java/lang/Object", name := "<init>", desc := "()V" } : Jvm.MethodName) object_method_1_code (1 : Nat) (Option.none : Option Jvm.ClassFile.FieldType)).before args0 about1 = true := code_word (m := ⟨0, 0⟩) (meth := k0m0) (c := k0c0) (by decide +kernel) rfl rfl rfl (by decide +kernel)
set_option maxRecDepth 65536 in
theorem w_c3 : (Jvm.Cond.code ({ cls := "com/example/porter_drive/porterdrive/RequestQueue", name := "isEmpty", desc := "()Z" } : Jvm.MethodName) prog_24_method_2_code (1 : Nat) (Option.some Jvm.ClassFile.FieldType.boolean)).before args0 about1 = true := code_word (m := ⟨2, 1⟩) (meth := k2m1) (c := k2c1) (by decide +kernel) rfl rfl rfl (by decide +kernel)
set_option maxRecDepth 65536 in
theorem w_c4 : (Jvm.Cond.code ({ cls := "com/example/porter_drive/porterdrive/RequestQueue", name := "removeFirst", desc := "()V" } : Jvm.MethodName) prog_24_method_5_code (1 : Nat) (Option.none : Option Jvm.ClassFile.FieldType)).before args0 about1 = true := code_word (m := ⟨2, 2⟩) (meth := k2m2) (c := k2c2) (by decide +kernel) rfl rfl rfl (by decide +kernel)
set_option maxRecDepth 65536 in
theorem w_c5 : (Jvm.Cond.code ({ cls := "com/example/porter_drive/porterdrive/RequestQueue", name := "siftDown", desc := "()V" } : Jvm.MethodName) prog_24_method_7_code (6 : Nat) (Option.none : Option Jvm.ClassFile.FieldType)).before args0 about1 = true := code_word (m := ⟨2, 4⟩) (meth := k2m4) (c := k2c4) (by decide +kernel) rfl rfl rfl (by decide +kernel)
set_option maxRecDepth 65536 in
theorem w_c6 : (Jvm.Cond.code ({ cls := "com/example/porter_drive/porterdrive/RequestQueue", name := "delayFirst", desc := "(J)V" } : Jvm.MethodName) prog_24_method_6_code (3 : Nat) (Option.none : Option Jvm.ClassFile.FieldType)).before args0 about1 = true := code_word (m := ⟨2, 3⟩) (meth := k2m3) (c := k2c3) (by decide +kernel) rfl rfl rfl (by decide +kernel)
set_option maxRecDepth 65536 in
theorem w_c7 : (Jvm.Cond.code ({ cls := "com/example/porter_drive/porterdrive/RequestQueue", name := "isBefore", desc := "(JIJI)Z" } : Jvm.MethodName) prog_24_method_8_code (6 : Nat) (Option.some Jvm.ClassFile.FieldType.boolean)).before args0 about1 = true := code_word (m := ⟨2, 5⟩) (meth := k2m5) (c := k2c5) (by decide +kernel) rfl rfl rfl (by decide +kernel)
def codes1 : List Jvm.Cond := [Jvm.Cond.code x code maxLocals ret, Jvm.Cond.code ({ cls := "com/example/porter_drive/porterdrive/RequestQueue", name := "<init>", desc := "(I)V" } : Jvm.MethodName) prog_24_method_1_code (3 : Nat) (Option.none : Option Jvm.ClassFile.FieldType), Jvm.Cond.code ({ cls := "java/lang/Object", name := "<init>", desc := "()V" } : Jvm.MethodName) object_method_1_code (1 : Nat) (Option.none : Option Jvm.ClassFile.FieldType), Jvm.Cond.code ({ cls := "com/example/porter_drive/porterdrive/RequestQueue", name := "isEmpty", desc := "()Z" } : Jvm.MethodName) prog_24_method_2_code (1 : Nat) (Option.some Jvm.ClassFile.FieldType.boolean), Jvm.Cond.code ({ cls := "com/example/porter_drive/porterdrive/RequestQueue", name := "removeFirst", desc := "()V" } : Jvm.MethodName) prog_24_method_5_code (1 : Nat) (Option.none : Option Jvm.ClassFile.FieldType), Jvm.Cond.code ({ cls := "com/example/porter_drive/porterdrive/RequestQueue", name := "siftDown", desc := "()V" } : Jvm.MethodName) prog_24_method_7_code (6 : Nat) (Option.none : Option Jvm.ClassFile.FieldType), Jvm.Cond.code ({ cls := "com/example/porter_drive/porterdrive/RequestQueue", name := "delayFirst", desc := "(J)V" } : Jvm.MethodName) prog_24_method_6_code (3 : Nat) (Option.none : Option Jvm.ClassFile.FieldType), Jvm.Cond.code ({ cls := "com/example/porter_drive/porterdrive/RequestQueue", name := "isBefore", desc := "(JIJI)Z" } : Jvm.MethodName) prog_24_method_8_code (6 : Nat) (Option.some Jvm.ClassFile.FieldType.boolean)]
set_option maxRecDepth 65536 in
theorem codes_eq : words1.filter isCode = codes1 := rfl
theorem w_codes : ∀ c ∈ words1.filter isCode, c.before args0 about1 = true := by
  rw [codes_eq]
  intro c hc
  simp only [codes1, List.mem_cons, List.not_mem_nil, or_false] at hc
  rcases hc with rfl | rfl | rfl | rfl | rfl | rfl | rfl | rfl
  · exact w_c0
  · exact w_c1
  · exact w_c2
  · exact w_c3
  · exact w_c4
  · exact w_c5
  · exact w_c6
  · exact w_c7
set_option maxRecDepth 65536 in
theorem w_t1 : (words1.take 24).all (fun c => isCode c || c.before args0 about1) = true := by decide +kernel
set_option maxRecDepth 65536 in
theorem w_t2 : (words1.drop 24).all (fun c => isCode c || c.before args0 about1) = true := by decide +kernel
theorem w_tables : (allAtoms (Jvm.Cond.code x code maxLocals ret :: tables_1)).before args0 about1 = true := by
  rw [allAtoms_all]
  show words1.all (fun c => c.before args0 about1) = true
  refine all_split ?_ w_codes
  rw [← List.take_append_drop 24 words1, List.all_append, w_t1, w_t2]
  rfl
set_option maxRecDepth 65536 in
theorem w_case : (Jvm.Cond.and given_1 narrow_1).before args0 about1 = true := by decide +kernel
theorem w_applies : (headSpec (Jvm.Cond.code x code maxLocals ret :: tables_1) room_1).applies x e0.platform about1 = true :=
  (Spec.applies_iff w_frames).mpr ⟨w_running, w_runnable, w_alone, w_named, w_hears, w_ripe, w_room, w_tables⟩
theorem atStart : AtStart classFile x code maxLocals ret World_1 tables_1 room_1 Calls_1 rest_1 Pre_1 launch0 p0 e0 about1 theMethod args0 below0 :=
  ⟨lists_1, trivial, launch0.admits_env _ _ _, launch0.least_env, fairChoices_fair.cas, fairChoices_fair.clock, w_frames, w_args, w_heap, w_applies, trivial, trivial, w_case⟩
end start1
theorem witness_1 : WitnessClaimed_1 := ⟨start1.p0, start1.e0, start1.about1, start1.theMethod, start1.args0, start1.below0, start1.atStart⟩
end Jvm.Pilot.@@N@@
