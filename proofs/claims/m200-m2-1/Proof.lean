import JvmDerived
import JvmDerived.Pilot.@@N@@Statement
import JvmDerived.Pilot.@@N@@Code
set_option linter.unusedVariables false
set_option linter.unusedSimpArgs false
namespace Jvm.RoadKit
open Sem ClassFile Op Lib Jvm.Stand Jvm.Free Jvm.LawKit
section Own
variable {p : Program} {l : Launch} {e : Env} {R : Room} {s : State} {m : MethodId} {args : Array Value} {below : List Frame} {meth : Method} {c : Code} {T : State} {locs : List Loc} {cells slots : Nat} {k n : Nat} {Q : Option Value → Heap → List Loc → Prop} {W W' : State} {Z : State} {a0 : Array Value} {h : Heap}
/-- the run from W comes back, with what Q says -/
def OwnOut (p : Program) (e : Env) (s : State) (below : List Frame) (k n : Nat) (Q : Option Value → Heap → List Loc → Prop) (W : State) : Prop :=
  ∃ s₂ o, Steps p.tables e below W s₂ ∧ s₂.status = .running ∧ Ended s₂ below o ∧ ∃ v L, o = .returned v ∧ Q v s₂.heap L ∧ FrameEnd s o s₂ L k n
theorem OwnOut.go (h : ∀ t, Steps p.tables e below W' t → Steps p.tables e below W t) (H : OwnOut p e s below k n Q W') : OwnOut p e s below k n Q W := by
  obtain ⟨s₂, o, h1, h2⟩ := H
  exact ⟨s₂, o, h _ h1, h2⟩
theorem OwnOut.at {g g' : JFrame} (q : g = g') (H : OwnOut p e s below k n Q (T.setTop g')) : OwnOut p e s below k n Q (T.setTop g) := q ▸ H
theorem OwnOut.imp {Q' : Option Value → Heap → List Loc → Prop} (q : ∀ v h L, Q' v h L → Q v h L) (H : OwnOut p e s below k n Q' W) : OwnOut p e s below k n Q W := by
  obtain ⟨s₂, o, h1, h2, h3, v, L, h4, h5, h6⟩ := H
  exact ⟨s₂, o, h1, h2, h3, v, L, h4, q _ _ _ h5, h6⟩
theorem outI (X : Stand p l e R s m args below meth c T locs cells slots) (hx : p.tables.exec = Jvm.exec) {pc : Nat} {Ls : Array Slot} {z : Int32} (hret : meth.sig.returnType = some .int) (hd : decode c.code pc = .ok (.ireturn, 1)) (hlk : meth.locks = false) (hk : cells ≤ k) (hn : slots ≤ n) (q : Q (some (.int z)) T.heap locs) :
    OwnOut p e s below k n Q (T.setTop (mkF m pc Ls [.int z])) := by
  obtain ⟨fs, hr, hrun, hended, hW, hsame⟩ := X.leave (v := some (.int z)) (fun h => by rw [hret] at h; cases h) hlk
  exact ⟨_, _, X.ireturnOut hx hret rfl (Or.inl rfl) hd hr, hrun, hended, _, _, rfl, q, ⟨_, rfl⟩, hW, hsame.mono hk hn⟩
theorem outZ (X : Stand p l e R s m args below meth c T locs cells slots) (hx : p.tables.exec = Jvm.exec) {pc : Nat} {Ls : Array Slot} {z : Int32} (hret : meth.sig.returnType = some .boolean) (hd : decode c.code pc = .ok (.ireturn, 1)) (hlk : meth.locks = false) (hk : cells ≤ k) (hn : slots ≤ n) (q : Q (some (.int (z &&& 1))) T.heap locs) :
    OwnOut p e s below k n Q (T.setTop (mkF m pc Ls [.int z])) := by
  obtain ⟨fs, hr, hrun, hended, hW, hsame⟩ := X.leave (v := some (.int (z &&& 1))) (fun h => by rw [hret] at h; cases h) hlk
  exact ⟨_, _, retN X hx (t := .boolean) hret (by simp) hd hr, hrun, hended, _, _, rfl, q, ⟨_, rfl⟩, hW, hsame.mono hk hn⟩
theorem outJ (X : Stand p l e R s m args below meth c T locs cells slots) (hx : p.tables.exec = Jvm.exec) {pc : Nat} {Ls : Array Slot} {z : Int64} (hret : meth.sig.returnType = some .long) (hd : decode c.code pc = .ok (.lreturn, 1)) (hlk : meth.locks = false) (hk : cells ≤ k) (hn : slots ≤ n) (q : Q (some (.long z)) T.heap locs) :
    OwnOut p e s below k n Q (T.setTop (mkF m pc Ls [.long z])) := by
  obtain ⟨fs, hr, hrun, hended, hW, hsame⟩ := X.leave (v := some (.long z)) (fun h => by rw [hret] at h; cases h) hlk
  exact ⟨_, _, X.lreturnOut hx hret hd hr, hrun, hended, _, _, rfl, q, ⟨_, rfl⟩, hW, hsame.mono hk hn⟩
theorem outA (X : Stand p l e R s m args below meth c T locs cells slots) (hx : p.tables.exec = Jvm.exec) {pc : Nat} {Ls : Array Slot} {w : Value} {t : FieldType} (hw : w.isRef = true) (hret : meth.sig.returnType = some t) (ht : t.isReference = true) (hd : decode c.code pc = .ok (.areturn, 1)) (hlk : meth.locks = false) (hk : cells ≤ k) (hn : slots ≤ n) (q : Q (some w) T.heap locs) :
    OwnOut p e s below k n Q (T.setTop (mkF m pc Ls [w])) := by
  obtain ⟨fs, hr, hrun, hended, hW, hsame⟩ := X.leave (v := some w) (fun h => by rw [hret] at h; cases h) hlk
  exact ⟨_, _, X.areturnOut hx hw hret ht hd hr, hrun, hended, _, _, rfl, q, ⟨_, rfl⟩, hW, hsame.mono hk hn⟩
theorem outV (X : Stand p l e R s m args below meth c T locs cells slots) (hx : p.tables.exec = Jvm.exec) {pc : Nat} {Ls : Array Slot} (hret : meth.sig.returnType = none) (hd : decode c.code pc = .ok (.return_, 1)) (hlk : meth.locks = false) (hk : cells ≤ k) (hn : slots ≤ n) (q : Q none T.heap locs) :
    OwnOut p e s below k n Q (T.setTop (mkF m pc Ls [])) := by
  obtain ⟨fs, hr, hrun, hended, hW, hsame⟩ := X.leave (v := none) (fun _ => rfl) hlk
  exact ⟨_, _, X.returnOut hx hret hd hr, hrun, hended, _, _, rfl, q, ⟨_, rfl⟩, hW, hsame.mono hk hn⟩
theorem lremM {g : JFrame} {target : State} (X : Stand p l e R s m args below meth c T locs cells slots) (hx : p.tables.exec = Jvm.exec) (hg : g.method = m) {x y : Int64} {rest : List Value} (hd : decode c.code g.pc = .ok (.lrem, 1)) (hs : g.stack = .long y :: .long x :: rest) (hy : y ≠ 0)
    (hr : Steps p.tables e below (T.setTop { g with pc := g.pc + 1, stack := .long (x % y) :: rest }) target) : Steps p.tables e below (T.setTop g) target :=
  XS.lrem X.here hx hg hd hs hy (by rw [lrem_mod]; exact hr)
/-- a body that touches nothing: what it returns, the heap as it was, nothing written -/
def QP (h0 : Heap) (w : Option Value) (v : Option Value) (h : Heap) (L : List Loc) : Prop := v = w ∧ h = h0 ∧ L = []
/-- a static call of such a body -/
theorem callP (X : Stand p l e R s m args below meth c T locs cells slots) (hx : p.tables.exec = Jvm.exec) (hZ : Z.Warmed39 s.vm) {own : String} {index : Nat} {y : MethodName} {bytes : ByteArray} {maxL : Nat} {ret : Option FieldType} {rm : Room} {as' : Array Value} {w : Option Value}
    (hown : s.vm.findClass own = some m.cls) (w1 : (Cond.methodLink own index y).before a0 Z = true) (w2 : (Cond.static y).before a0 Z = true) (w3 : (Cond.initialized y.cls).before a0 Z = true) (w4 : (Cond.code y bytes maxL ret).before a0 Z = true) (hy : y.cls ≠ "java/lang/invoke/MethodHandle" ∧ y.cls ≠ "java/lang/invoke/VarHandle")
    (hM : MetFree l y (head1 [Cond.code y bytes maxL ret] rm) (fun a U => a = as' ∧ Z.Warmed39 U.vm ∧ U.heap = h) (fun _ _ _ _ _ => True) (fun _ U o U' => ∃ v L, o = .returned v ∧ QP h w v U'.heap L ∧ FrameEnd U o U' L rm.cells rm.slots))
    {W : Nat} (hf : rm.frames + 1 ≤ R.frames) (hl : W + (maxL + 11) + rm.locals ≤ R.locals) (z1 : rm.cells = 0) (z2 : rm.slots = 0) (hc : cells ≤ R.cells) (hs' : slots ≤ R.slots) (eT : T.heap = h)
    {g : JFrame} (hg : g.method = m) (hsize : g.locals.size = c.maxLocals) {argsL rest : List Value} (hlen : ∀ sig, parseMethodDescriptor y.desc = some sig → argsL.length = sig.parameters.length)
    (hstack : g.stack = argsL.reverse ++ rest) (hW : 2 * g.monitorRoom + (rest.map fun v => v.category).sum ≤ W) (hdg : decode c.code g.pc = .ok (.invokestatic index, 3)) (has : argsL.toArray = as' := by rfl) :
    ∃ T', Stand p l e R s m args below meth c T' locs cells slots ∧ T'.heap = h ∧ ∀ target, Steps p.tables e below (T'.setTop { g with pc := g.pc + 3, stack := w.toList ++ rest }) target → Steps p.tables e below (T.setTop g) target := by
  obtain ⟨v, vm₁, ⟨T', L', k', n'⟩, -, X', ⟨Lc, ⟨rfl, q2, rfl⟩, l1, y1, z3⟩, st⟩ := Jvm.LawKit.callS X hx (y := y) hown (mvT hZ w1) (mvT hZ w2) (mvT hZ w3) (mvT hZ w4) hy (backOf (W := W) hM hZ w4 w3 hf hl) hg hsize hlen hstack hW hdg (fun _ _ => ⟨has, eT, by rw [z1]; exact hc, by rw [z2]; exact hs'⟩)
  dsimp only [Pt.U, Pt.locs, Pt.cells, Pt.slots] at X' l1 y1 z3 st q2
  rw [z1] at y1; rw [z2] at z3
  rw [List.append_nil] at l1
  subst l1 y1 z3
  exact ⟨T', X', q2, st⟩
end Own
end Jvm.RoadKit
namespace Jvm.RoadKit
open Sem ClassFile Op Lib Jvm.Stand Jvm.Free Jvm.LawKit
section Own2
variable {p : Program} {l : Launch} {e : Env} {R : Room} {s : State} {m : MethodId} {args : Array Value} {below : List Frame} {meth : Method} {c : Code} {T : State} {locs : List Loc} {cells slots : Nat} {Z : State} {a0 : Array Value} {h h' : Heap} {a b : Addr} {ty : FieldType} {vs : List Value} {sl : Nat} {v : Value} {ws : List Addr}
/-- an array, by the list of what it holds -/
def Ar (Z : State) (h : Heap) (a : Addr) (ty : FieldType) (vs : List Value) : Prop := ∃ c : Cell, Arr Z h a c ty ∧ c.slots.toList = vs ∧ vs.length < 2 ^ 31
theorem Ar.lt (A : Ar Z h a ty vs) : a < h.size := by obtain ⟨c, q, -⟩ := A; exact q.lt
theorem Ar.ext (A : Ar Z h a ty vs) (E : Ext h h') : Ar Z h' a ty vs := by obtain ⟨c, q, r⟩ := A; exact ⟨c, q.ext E, r⟩
theorem Ar.other (A : Ar Z h b ty vs) (W : Wr h h' a sl v) (q : b ≠ a) : Ar Z h' b ty vs := by obtain ⟨c, r, t⟩ := A; exact ⟨c, r.other W q, t⟩
theorem Ar.keep (A : Ar Z h a ty vs) (K : Keep h h' ws) (q : a ∉ ws) : Ar Z h' a ty vs := by obtain ⟨c, r, t⟩ := A; exact ⟨c, ⟨K.2.1 a c r.1 q, r.2⟩, t⟩
theorem Ar.same (A : Ar Z h a ty vs) (W : Wr h h' a sl v) : Ar Z h' a ty (vs.set sl v) := by
  obtain ⟨c, r, t, u⟩ := A
  refine ⟨_, r.same W, ?_, by rw [List.length_set]; exact u⟩
  show (c.slots.setIfInBounds sl v).toList = _
  rw [Array.toList_setIfInBounds, t]
abbrev Ari (Z : State) (h : Heap) (a : Addr) (ty : FieldType) (xs : List Int32) : Prop := Ar Z h a ty (xs.map Value.int)
abbrev Arj (Z : State) (h : Heap) (a : Addr) (xs : List Int64) : Prop := Ar Z h a .long (xs.map Value.long)
/-- what an array's place holds -/
def ldx {α : Type} (xs : List α) (j : Int32) : Option α := if j < 0 then none else xs[j.toNatClampNeg]?
def stx {α : Type} (xs : List α) (j : Int32) (v : α) : Option (List α) := if j < 0 then none else if xs.length ≤ j.toNatClampNeg then none else some (xs.set j.toNatClampNeg v)
def nwx {α : Type} (d : α) (cap : Nat) (n : Int32) : Option (List α) := if n < 0 then none else if cap < n.toNatClampNeg then none else some (List.replicate n.toNatClampNeg d)
def lenx {α : Type} (xs : List α) : Int32 := xs.length.toInt32
theorem ldx_at {α : Type} {f : α → Value} {xs : List α} {j : Int32} {x : α} {cl : Cell} (hv : ldx xs j = some x) (q : cl.slots.toList = xs.map f) : ¬ (j < 0 ∨ cl.slots.size ≤ j.toNatClampNeg) ∧ cl.slots[j.toNatClampNeg]? = some (f x) := by
  unfold ldx at hv
  by_cases hj : j < 0
  · rw [if_pos hj] at hv; cases hv
  rw [if_neg hj] at hv
  have h1 : cl.slots[j.toNatClampNeg]? = some (f x) := by rw [← Array.getElem?_toList, q, List.getElem?_map, hv]; rfl
  refine ⟨fun z => z.elim hj fun z => ?_, h1⟩
  rw [Array.getElem?_eq_none z] at h1; cases h1
theorem stx_at {α : Type} {f : α → Value} {xs ys : List α} {j : Int32} {x : α} {cl : Cell} (hv : stx xs j x = some ys) (q : cl.slots.toList = xs.map f) : ¬ (j < 0 ∨ cl.slots.size ≤ j.toNatClampNeg) ∧ ys = xs.set j.toNatClampNeg x := by
  unfold stx at hv
  by_cases hj : j < 0
  · rw [if_pos hj] at hv; cases hv
  rw [if_neg hj] at hv
  by_cases hl : xs.length ≤ j.toNatClampNeg
  · rw [if_pos hl] at hv; cases hv
  rw [if_neg hl] at hv
  refine ⟨fun z => z.elim hj fun z => hl ?_, (Option.some.inj hv).symm⟩
  have : cl.slots.size = xs.length := by rw [← Array.length_toList, q, List.length_map]
  omega
theorem ldI (X : Stand p l e R s m args below meth c T locs cells slots) (hx : p.tables.exec = Jvm.exec) (hZ : Z.Warmed39 s.vm) (eT : T.heap = h) {xs : List Int32} (A : Ari Z h a .int xs) {j v : Int32} (hv : ldx xs j = some v) {g : JFrame} (hg : g.method = m) {rest : List Value} (hs : g.stack = .int j :: .ref a :: rest) (hd : decode c.code g.pc = .ok (.iaload, 1)) (target : State)
    (hr : Steps p.tables e below (T.setTop { g with pc := g.pc + 1, stack := .int v :: rest }) target) : Steps p.tables e below (T.setTop g) target := by
  obtain ⟨cl, A1, A2, -⟩ := A
  obtain ⟨hj, hat⟩ := ldx_at hv A2
  exact X.iaload hx (by rw [eT]; exact A1.1) (State.isArrayOf_alike hZ.alike A1.2.1) A1.2.2 hj hat hg hs hd target hr
theorem ldB (X : Stand p l e R s m args below meth c T locs cells slots) (hx : p.tables.exec = Jvm.exec) (hZ : Z.Warmed39 s.vm) (eT : T.heap = h) {xs : List Int32} (A : Ari Z h a .byte xs) {j v : Int32} (hv : ldx xs j = some v) {g : JFrame} (hg : g.method = m) {rest : List Value} (hs : g.stack = .int j :: .ref a :: rest) (hd : decode c.code g.pc = .ok (.baload, 1)) (target : State)
    (hr : Steps p.tables e below (T.setTop { g with pc := g.pc + 1, stack := .int v :: rest }) target) : Steps p.tables e below (T.setTop g) target := by
  obtain ⟨cl, A1, A2, -⟩ := A
  obtain ⟨hj, hat⟩ := ldx_at hv A2
  exact X.baloadBytes hx (by rw [eT]; exact A1.1) (State.isArrayOf_alike hZ.alike A1.2.1) A1.2.2 hj hat hg hs hd target hr
theorem ldZ (X : Stand p l e R s m args below meth c T locs cells slots) (hx : p.tables.exec = Jvm.exec) (hZ : Z.Warmed39 s.vm) (eT : T.heap = h) {xs : List Int32} (A : Ari Z h a .boolean xs) {j v : Int32} (hv : ldx xs j = some v) {g : JFrame} (hg : g.method = m) {rest : List Value} (hs : g.stack = .int j :: .ref a :: rest) (hd : decode c.code g.pc = .ok (.baload, 1)) (target : State)
    (hr : Steps p.tables e below (T.setTop { g with pc := g.pc + 1, stack := .int v :: rest }) target) : Steps p.tables e below (T.setTop g) target := by
  obtain ⟨cl, A1, A2, -⟩ := A
  obtain ⟨hj, hat⟩ := ldx_at hv A2
  exact X.baloadBooleans hx (by rw [eT]; exact A1.1) (State.isArrayOf_alike hZ.alike A1.2.1) A1.2.2 hj hat hg hs hd target hr
theorem ldJ (X : Stand p l e R s m args below meth c T locs cells slots) (hx : p.tables.exec = Jvm.exec) (hZ : Z.Warmed39 s.vm) (eT : T.heap = h) {xs : List Int64} (A : Arj Z h a xs) {j : Int32} {v : Int64} (hv : ldx xs j = some v) {g : JFrame} (hg : g.method = m) {rest : List Value} (hs : g.stack = .int j :: .ref a :: rest) (hd : decode c.code g.pc = .ok (.laload, 1)) (target : State)
    (hr : Steps p.tables e below (T.setTop { g with pc := g.pc + 1, stack := .long v :: rest }) target) : Steps p.tables e below (T.setTop g) target := by
  obtain ⟨cl, A1, A2, -⟩ := A
  obtain ⟨hj, hat⟩ := ldx_at hv A2
  exact X.laload hx (by rw [eT]; exact A1.1) (State.isArrayOf_alike hZ.alike A1.2.1) A1.2.2 hj hat hg hs hd target hr
theorem lenA (X : Stand p l e R s m args below meth c T locs cells slots) (hx : p.tables.exec = Jvm.exec) (hZ : Z.Warmed39 s.vm) (eT : T.heap = h) {α : Type} {f : α → Value} {xs : List α} (A : Ar Z h a ty (xs.map f)) {g : JFrame} (hg : g.method = m) {rest : List Value} (hs : g.stack = .ref a :: rest) (hd : decode c.code g.pc = .ok (.arraylength, 1)) (target : State)
    (hr : Steps p.tables e below (T.setTop { g with pc := g.pc + 1, stack := .int (lenx xs) :: rest }) target) : Steps p.tables e below (T.setTop g) target := by
  obtain ⟨cl, A1, A2, -⟩ := A
  have : cl.slots.size = xs.length := by rw [← Array.length_toList, A2, List.length_map]
  refine X.arraylength hx (by rw [eT]; exact A1.1) (State.isArrayOf_alike hZ.alike A1.2.1) hg hs hd target ?_
  rw [this]; exact hr
theorem saI (X : Stand p l e R s m args below meth c T locs cells slots) (hx : p.tables.exec = Jvm.exec) (hZ : Z.Warmed39 s.vm) (eT : T.heap = h) {xs ys : List Int32} (A : Ari Z h a .int xs) {j v : Int32} (hv : stx xs j v = some ys) {g : JFrame} (hg : g.method = m) {rest : List Value} (hs : g.stack = .int v :: .int j :: .ref a :: rest) (hd : decode c.code g.pc = .ok (.iastore, 1)) :
    ∃ T' h', Stand p l e R s m args below meth c T' (locs ++ [⟨a, j.toNatClampNeg⟩]) cells slots ∧ T'.heap = h' ∧ Wr h h' a j.toNatClampNeg (.int v) ∧ Ari Z h' a .int ys ∧ ∀ target, Steps p.tables e below (T'.setTop { g with pc := g.pc + 1, stack := rest }) target → Steps p.tables e below (T.setTop g) target := by
  have A' := A
  obtain ⟨cl, A1, A2, -⟩ := A
  obtain ⟨hj, rfl⟩ := stx_at hv A2
  obtain ⟨T', h', X', e', W', st⟩ := stI X hx hZ eT A1 hj hg hs hd
  exact ⟨T', h', X', e', W', by have q := A'.same W'; rw [← List.map_set] at q; exact q, st⟩
theorem saB (X : Stand p l e R s m args below meth c T locs cells slots) (hx : p.tables.exec = Jvm.exec) (hZ : Z.Warmed39 s.vm) (eT : T.heap = h) {xs ys : List Int32} (A : Ari Z h a .byte xs) {j v : Int32} (hv : stx xs j v.toInt8.toInt32 = some ys) {g : JFrame} (hg : g.method = m) {rest : List Value} (hs : g.stack = .int v :: .int j :: .ref a :: rest) (hd : decode c.code g.pc = .ok (.bastore, 1)) :
    ∃ T' h', Stand p l e R s m args below meth c T' (locs ++ [⟨a, j.toNatClampNeg⟩]) cells slots ∧ T'.heap = h' ∧ Wr h h' a j.toNatClampNeg (.int v.toInt8.toInt32) ∧ Ari Z h' a .byte ys ∧ ∀ target, Steps p.tables e below (T'.setTop { g with pc := g.pc + 1, stack := rest }) target → Steps p.tables e below (T.setTop g) target := by
  have A' := A
  obtain ⟨cl, A1, A2, -⟩ := A
  obtain ⟨hj, rfl⟩ := stx_at hv A2
  obtain ⟨T', h', X', e', W', st⟩ := stB X hx hZ eT A1 hj hg hs hd
  exact ⟨T', h', X', e', W', by have q := A'.same W'; rw [show Value.int (nar .byte v) = Value.int v.toInt8.toInt32 from rfl, ← List.map_set] at q; exact q, st⟩
theorem saZ (X : Stand p l e R s m args below meth c T locs cells slots) (hx : p.tables.exec = Jvm.exec) (hZ : Z.Warmed39 s.vm) (eT : T.heap = h) {xs ys : List Int32} (A : Ari Z h a .boolean xs) {j v : Int32} (hv : stx xs j (v &&& 1) = some ys) {g : JFrame} (hg : g.method = m) {rest : List Value} (hs : g.stack = .int v :: .int j :: .ref a :: rest) (hd : decode c.code g.pc = .ok (.bastore, 1)) :
    ∃ T' h', Stand p l e R s m args below meth c T' (locs ++ [⟨a, j.toNatClampNeg⟩]) cells slots ∧ T'.heap = h' ∧ Wr h h' a j.toNatClampNeg (.int (v &&& 1)) ∧ Ari Z h' a .boolean ys ∧ ∀ target, Steps p.tables e below (T'.setTop { g with pc := g.pc + 1, stack := rest }) target → Steps p.tables e below (T.setTop g) target := by
  have A' := A
  obtain ⟨cl, A1, A2, -⟩ := A
  obtain ⟨hj, rfl⟩ := stx_at hv A2
  obtain ⟨T', h', X', e', W', st⟩ := stZ X hx hZ eT A1 hj hg hs hd
  exact ⟨T', h', X', e', W', by have q := A'.same W'; rw [show Value.int (nar .boolean v) = Value.int (v &&& 1) from rfl, ← List.map_set] at q; exact q, st⟩
theorem saJ (X : Stand p l e R s m args below meth c T locs cells slots) (hx : p.tables.exec = Jvm.exec) (hZ : Z.Warmed39 s.vm) (eT : T.heap = h) {xs ys : List Int64} (A : Arj Z h a xs) {j : Int32} {v : Int64} (hv : stx xs j v = some ys) {g : JFrame} (hg : g.method = m) {rest : List Value} (hs : g.stack = .long v :: .int j :: .ref a :: rest) (hd : decode c.code g.pc = .ok (.lastore, 1)) :
    ∃ T' h', Stand p l e R s m args below meth c T' (locs ++ [⟨a, j.toNatClampNeg⟩]) cells slots ∧ T'.heap = h' ∧ Wr h h' a j.toNatClampNeg (.long v) ∧ Arj Z h' a ys ∧ ∀ target, Steps p.tables e below (T'.setTop { g with pc := g.pc + 1, stack := rest }) target → Steps p.tables e below (T.setTop g) target := by
  have A' := A
  obtain ⟨cl, A1, A2, -⟩ := A
  obtain ⟨hj, rfl⟩ := stx_at hv A2
  obtain ⟨T', h', X', e', W', st⟩ := stJ X hx hZ eT A1 hj hg hs hd
  exact ⟨T', h', X', e', W', by have q := A'.same W'; rw [← List.map_set] at q; exact q, st⟩
theorem nwx_at {α : Type} {d : α} {cap : Nat} {n : Int32} {xs : List α} (hv : nwx d cap n = some xs) : ¬ n < 0 ∧ n.toNatClampNeg ≤ cap ∧ xs = List.replicate n.toNatClampNeg d := by
  unfold nwx at hv
  by_cases hj : n < 0
  · rw [if_pos hj] at hv; cases hv
  rw [if_neg hj] at hv
  by_cases hl : cap < n.toNatClampNeg
  · rw [if_pos hl] at hv; cases hv
  rw [if_neg hl] at hv
  exact ⟨hj, Nat.le_of_not_lt hl, (Option.some.inj hv).symm⟩
theorem Ar.new {α : Type} {f : α → Value} {d : α} {n : Int32} {cA : ClassId} (A : Arr Z h a (newA cA ty n) ty) (q : ¬ n < 0) (hd : defaultValue ty = f d) : Ar Z h a ty ((List.replicate n.toNatClampNeg d).map f) := by
  refine ⟨_, A, ?_, ?_⟩
  · show (Array.replicate n.toNatClampNeg (defaultValue ty)).toList = _
    rw [Array.toList_replicate, List.map_replicate, hd]
  · rw [List.length_map, List.length_replicate]; exact (back32 q).2
/-- a new array of ints, bytes, booleans .. -/
theorem nwA (X : Stand p l e R s m args below meth c T locs cells slots) (hx : p.tables.exec = Jvm.exec) (hZ : Z.Warmed39 s.vm) {aty : ArrayType} (w : (Cond.arrayClass (newarray.typeOf aty)).before a0 Z = true) (eT : T.heap = h) {α : Type} {f : α → Value} {d : α} {cap : Nat} {n : Int32} {xs : List α} (hv : nwx d cap n = some xs) (hdf : defaultValue (newarray.typeOf aty) = f d)
    {g : JFrame} (hg : g.method = m) {rest : List Value} (hs : g.stack = .int n :: rest) (hd : decode c.code g.pc = .ok (.newarray aty, 2)) (hb : cap * 8 ≤ 536870912) (hc : cells + 1 ≤ R.cells) (hl : slots + cap ≤ R.slots) :
    ∃ T' h', Stand p l e R s m args below meth c T' locs (cells + 1) (slots + cap) ∧ T'.heap = h' ∧ Ext h h' ∧ Ar Z h' h.size (newarray.typeOf aty) (xs.map f) ∧ ∀ target, Steps p.tables e below (T'.setTop { g with pc := g.pc + 2, stack := .ref h.size :: rest }) target → Steps p.tables e below (T.setTop g) target := by
  obtain ⟨q1, q2, rfl⟩ := nwx_at hv
  obtain ⟨T', h', cA, X', e', E', A', st⟩ := newP X hx hZ w eT hg hd hs q1 (cap := cap) q2 hb hc hl
  exact ⟨T', h', X', e', E', Ar.new A' q1 hdf, st⟩
variable {y : MethodName} {bytes : ByteArray} {maxL : Nat} {ret : Option FieldType} {rm : Room} {as' : Array Value} {Q : Option Value → Heap → List Loc → Prop} {own : String} {index : Nat}
/-- a static call by the callee's contract -/
theorem callQ (X : Stand p l e R s m args below meth c T locs cells slots) (hx : p.tables.exec = Jvm.exec) (hZ : Z.Warmed39 s.vm)
    (hown : s.vm.findClass own = some m.cls) (w1 : (Cond.methodLink own index y).before a0 Z = true) (w2 : (Cond.static y).before a0 Z = true) (w3 : (Cond.initialized y.cls).before a0 Z = true) (w4 : (Cond.code y bytes maxL ret).before a0 Z = true) (hy : y.cls ≠ "java/lang/invoke/MethodHandle" ∧ y.cls ≠ "java/lang/invoke/VarHandle")
    (hM : MetFree l y (head1 [Cond.code y bytes maxL ret] rm) (fun a U => a = as' ∧ Z.Warmed39 U.vm ∧ U.heap = h) (fun _ _ _ _ _ => True) (fun _ U o U' => ∃ v L, o = .returned v ∧ Q v U'.heap L ∧ FrameEnd U o U' L rm.cells rm.slots))
    {W : Nat} (hf : rm.frames + 1 ≤ R.frames) (hl : W + (maxL + 11) + rm.locals ≤ R.locals) (hc : cells + rm.cells ≤ R.cells) (hs' : slots + rm.slots ≤ R.slots) (eT : T.heap = h)
    {g : JFrame} (hg : g.method = m) (hsize : g.locals.size = c.maxLocals) {argsL rest : List Value} (hlen : ∀ sig, parseMethodDescriptor y.desc = some sig → argsL.length = sig.parameters.length)
    (hstack : g.stack = argsL.reverse ++ rest) (hW : 2 * g.monitorRoom + (rest.map fun v => v.category).sum ≤ W) (hdg : decode c.code g.pc = .ok (.invokestatic index, 3)) (has : argsL.toArray = as' := by rfl) :
    ∃ v T' L', Stand p l e R s m args below meth c T' (locs ++ L') (cells + rm.cells) (slots + rm.slots) ∧ Q v T'.heap L' ∧ ∀ target, Steps p.tables e below (T'.setTop { g with pc := g.pc + 3, stack := v.toList ++ rest }) target → Steps p.tables e below (T.setTop g) target := by
  obtain ⟨v, vm₁, ⟨T', L', k', n'⟩, -, X', ⟨Lc, q2, l1, y1, z3⟩, st⟩ := Jvm.LawKit.callS X hx (y := y) hown (mvT hZ w1) (mvT hZ w2) (mvT hZ w3) (mvT hZ w4) hy (backOf (W := W) hM hZ w4 w3 hf hl) hg hsize hlen hstack hW hdg (fun _ _ => ⟨has, eT, hc, hs'⟩)
  dsimp only [Pt.U, Pt.locs, Pt.cells, Pt.slots] at X' l1 y1 z3 st q2
  subst l1 y1 z3
  exact ⟨v, T', Lc, X', q2, st⟩
/-- a constructor by its contract -/
theorem callN {ret : Option FieldType} (X : Stand p l e R s m args below meth c T locs cells slots) (hx : p.tables.exec = Jvm.exec) (hZ : Z.Warmed39 s.vm) (hret : ret = none) (hnm : y.name = "<init>")
    (hown : s.vm.findClass own = some m.cls) (w1 : (Cond.methodLink own index y).before a0 Z = true) (w2 : (Cond.instanceMethod y).before a0 Z = true) (w3 : (Cond.initialized y.cls).before a0 Z = true) (w4 : (Cond.code y bytes maxL ret).before a0 Z = true) (hy : y.cls ≠ "java/lang/invoke/MethodHandle" ∧ y.cls ≠ "java/lang/invoke/VarHandle")
    (hM : MetFree l y (head1 [Cond.code y bytes maxL ret] rm) (fun a U => a = as' ∧ Z.Warmed39 U.vm ∧ U.heap = h) (fun _ _ _ _ _ => True) (fun _ U o U' => ∃ v L, o = .returned v ∧ Q v U'.heap L ∧ FrameEnd U o U' L rm.cells rm.slots))
    {W : Nat} (hf : rm.frames + 1 ≤ R.frames) (hl : W + (maxL + 11) + rm.locals ≤ R.locals) (hc : cells + rm.cells ≤ R.cells) (hs' : slots + rm.slots ≤ R.slots) (eT : T.heap = h)
    {g : JFrame} (hg : g.method = m) (hsize : g.locals.size = c.maxLocals) {a : Addr} {argsL rest : List Value} (hlen : ∀ sig, parseMethodDescriptor y.desc = some sig → argsL.length = sig.parameters.length)
    (hstack : g.stack = argsL.reverse ++ .ref a :: rest) (hW : 2 * g.monitorRoom + (rest.map fun v => v.category).sum ≤ W) (hdg : decode c.code g.pc = .ok (.invokespecial index, 3)) (has : (Value.ref a :: argsL).toArray = as' := by rfl) :
    ∃ v T' L', Stand p l e R s m args below meth c T' (locs ++ L') (cells + rm.cells) (slots + rm.slots) ∧ Q v T'.heap L' ∧ ∀ target, Steps p.tables e below (T'.setTop { g with pc := g.pc + 3, stack := v.toList ++ rest }) target → Steps p.tables e below (T.setTop g) target := by
  subst hret
  obtain ⟨v, vm₁, ⟨T', L', k', n'⟩, -, X', ⟨Lc, q2, l1, y1, z3⟩, st⟩ := X.specialBack hx (y := y) hnm hown (mvT hZ w1) (mvT hZ w2) (mvT hZ w4) hy (backOf (W := W) hM hZ w4 w3 hf hl) hg hsize (Steps.refl _) hlen hstack hW hdg (fun _ _ => ⟨has, eT, hc, hs'⟩)
  dsimp only [Pt.U, Pt.locs, Pt.cells, Pt.slots] at X' l1 y1 z3 st q2
  subst l1 y1 z3
  exact ⟨v, T', Lc, X', q2, fun t k => st.trans k⟩
/-- an instance method by its contract -/
theorem callV (X : Stand p l e R s m args below meth c T locs cells slots) (hx : p.tables.exec = Jvm.exec) (hZ : Z.Warmed39 s.vm)
    (hown : s.vm.findClass own = some m.cls) (w1 : (Cond.methodLink own index y).before a0 Z = true) (w2 : (Cond.declares y).before a0 Z = true) (w3 : (Cond.selects y.cls y y).before a0 Z = true) (w5 : (Cond.instanceMethod y).before a0 Z = true) (w6 : (Cond.initialized y.cls).before a0 Z = true) (w4 : (Cond.code y bytes maxL ret).before a0 Z = true) (hy : y.cls ≠ "java/lang/invoke/MethodHandle" ∧ y.cls ≠ "java/lang/invoke/VarHandle")
    (hM : MetFree l y (head1 [Cond.code y bytes maxL ret] rm) (fun a U => a = as' ∧ Z.Warmed39 U.vm ∧ U.heap = h) (fun _ _ _ _ _ => True) (fun _ U o U' => ∃ v L, o = .returned v ∧ Q v U'.heap L ∧ FrameEnd U o U' L rm.cells rm.slots))
    {W : Nat} (hf : rm.frames + 1 ≤ R.frames) (hl : W + (maxL + 11) + rm.locals ≤ R.locals) (hc : cells + rm.cells ≤ R.cells) (hs' : slots + rm.slots ≤ R.slots) (eT : T.heap = h) {a : Addr} (E : Exa Z h a y.cls)
    {g : JFrame} (hg : g.method = m) (hsize : g.locals.size = c.maxLocals) {argsL rest : List Value} (hlen : ∀ sig, parseMethodDescriptor y.desc = some sig → argsL.length = sig.parameters.length)
    (hstack : g.stack = argsL.reverse ++ .ref a :: rest) (hW : 2 * g.monitorRoom + (rest.map fun v => v.category).sum ≤ W) (hdg : decode c.code g.pc = .ok (.invokevirtual index, 3)) (has : (Value.ref a :: argsL).toArray = as' := by rfl) :
    ∃ v T' L', Stand p l e R s m args below meth c T' (locs ++ L') (cells + rm.cells) (slots + rm.slots) ∧ Q v T'.heap L' ∧ ∀ target, Steps p.tables e below (T'.setTop { g with pc := g.pc + 3, stack := v.toList ++ rest }) target → Steps p.tables e below (T.setTop g) target := by
  obtain ⟨cq, kq, qa, qb, qc⟩ := isOf hZ eT E
  obtain ⟨v, vm₁, ⟨T', L', k', n'⟩, -, X', ⟨Lc, q2, l1, y1, z3⟩, st⟩ := X.virtualBack hx (y := y) (z := y) hown (mvT hZ w1) (mvT hZ w2) (notFace_of_selects (args := #[]) (mvT hZ w3)) (mvT hZ w3) (mvT hZ w5) hy (backOf (W := W) hM hZ w4 w6 hf hl) qa qc hg hsize (Steps.refl _) hlen hstack hW hdg (fun _ _ => ⟨has, eT, hc, hs'⟩)
  dsimp only [Pt.U, Pt.locs, Pt.cells, Pt.slots] at X' l1 y1 z3 st q2
  subst l1 y1 z3
  exact ⟨v, T', Lc, X', q2, fun t k => st.trans k⟩
/-- a private method by its contract -/
theorem callR (X : Stand p l e R s m args below meth c T locs cells slots) (hx : p.tables.exec = Jvm.exec) (hZ : Z.Warmed39 s.vm)
    (hown : s.vm.findClass own = some m.cls) (w1 : (Cond.methodLink own index y).before a0 Z = true) (w2 : (Cond.privateMethod y).before a0 Z = true) {kk : Nat} (w3 : (Cond.instantiable y.cls kk).before a0 Z = true) (w5 : (Cond.instanceMethod y).before a0 Z = true) (w6 : (Cond.initialized y.cls).before a0 Z = true) (w4 : (Cond.code y bytes maxL ret).before a0 Z = true) (hy : y.cls ≠ "java/lang/invoke/MethodHandle" ∧ y.cls ≠ "java/lang/invoke/VarHandle")
    (hM : MetFree l y (head1 [Cond.code y bytes maxL ret] rm) (fun a U => a = as' ∧ Z.Warmed39 U.vm ∧ U.heap = h) (fun _ _ _ _ _ => True) (fun _ U o U' => ∃ v L, o = .returned v ∧ Q v U'.heap L ∧ FrameEnd U o U' L rm.cells rm.slots))
    {W : Nat} (hf : rm.frames + 1 ≤ R.frames) (hl : W + (maxL + 11) + rm.locals ≤ R.locals) (hc : cells + rm.cells ≤ R.cells) (hs' : slots + rm.slots ≤ R.slots) (eT : T.heap = h) {a : Addr} (E : Exa Z h a y.cls)
    {g : JFrame} (hg : g.method = m) (hsize : g.locals.size = c.maxLocals) {argsL rest : List Value} (hlen : ∀ sig, parseMethodDescriptor y.desc = some sig → argsL.length = sig.parameters.length)
    (hstack : g.stack = argsL.reverse ++ .ref a :: rest) (hW : 2 * g.monitorRoom + (rest.map fun v => v.category).sum ≤ W) (hdg : decode c.code g.pc = .ok (.invokevirtual index, 3)) (has : (Value.ref a :: argsL).toArray = as' := by rfl) :
    ∃ v T' L', Stand p l e R s m args below meth c T' (locs ++ L') (cells + rm.cells) (slots + rm.slots) ∧ Q v T'.heap L' ∧ ∀ target, Steps p.tables e below (T'.setTop { g with pc := g.pc + 3, stack := v.toList ++ rest }) target → Steps p.tables e below (T.setTop g) target := by
  obtain ⟨cq, q, q'⟩ := E.cell
  have hpr := Cond.privateMethod_at (mvP hZ w2 (args := args))
  obtain ⟨c4, k2, i1, i2, -, i4, -⟩ := Cond.instantiable_spec (mvT hZ w3 : (Cond.instantiable y.cls kk).before args s = true)
  have hsel := selects_self_of_private (args := args) i1 i2 (by simp only [Bool.or_eq_false_iff] at i4; exact i4.1) hpr (mvT hZ w5) hy
  obtain ⟨v, vm₁, ⟨T', L', k', n'⟩, -, X', ⟨Lc, q2, l1, y1, z3⟩, st⟩ := X.privateBack hx (y := y) hown (mvT hZ w1) (mvT hZ w5) hsel hpr (mvT hZ w4) hy (backOf (W := W) hM hZ w4 w6 hf hl) hg hsize (Steps.refl _) (by rw [eT]; exact q) q' hlen hstack hW hdg (fun _ _ => ⟨has, eT, hc, hs'⟩)
  dsimp only [Pt.U, Pt.locs, Pt.cells, Pt.slots] at X' l1 y1 z3 st q2
  subst l1 y1 z3
  exact ⟨v, T', Lc, X', q2, fun t k => st.trans k⟩
end Own2
end Jvm.RoadKit
namespace Jvm.Pilot.@@N@@
open Jvm Jvm.ClassFile Sem Op Lib Jvm.Free Jvm.Stand Jvm.LawKit Jvm.RoadKit Bundle Jvm.Pilot.@@N@@.Jvm.D
-- body 1 as 1: com/example/porter_drive/porterdrive/RequestQueue.<init>:(I)V
theorem d1_0 : decode prog_24_method_1_code 0 = .ok (.aload_n 0, 1) := by decide +kernel
theorem d1_1 : decode prog_24_method_1_code 1 = .ok (.invokespecial 1, 3) := by decide +kernel
theorem d1_4 : decode prog_24_method_1_code 4 = .ok (.aload_n 0, 1) := by decide +kernel
theorem d1_5 : decode prog_24_method_1_code 5 = .ok (.iload_n 1, 1) := by decide +kernel
theorem d1_6 : decode prog_24_method_1_code 6 = .ok (.newarray .long, 2) := by decide +kernel
theorem d1_8 : decode prog_24_method_1_code 8 = .ok (.putfield 7, 3) := by decide +kernel
theorem d1_11 : decode prog_24_method_1_code 11 = .ok (.aload_n 0, 1) := by decide +kernel
theorem d1_12 : decode prog_24_method_1_code 12 = .ok (.iload_n 1, 1) := by decide +kernel
theorem d1_13 : decode prog_24_method_1_code 13 = .ok (.newarray .int, 2) := by decide +kernel
theorem d1_15 : decode prog_24_method_1_code 15 = .ok (.putfield 13, 3) := by decide +kernel
theorem d1_18 : decode prog_24_method_1_code 18 = .ok (.iconst 0, 1) := by decide +kernel
theorem d1_19 : decode prog_24_method_1_code 19 = .ok (.istore_n 2, 1) := by decide +kernel
theorem d1_20 : decode prog_24_method_1_code 20 = .ok (.iload_n 2, 1) := by decide +kernel
theorem d1_21 : decode prog_24_method_1_code 21 = .ok (.iload_n 1, 1) := by decide +kernel
theorem d1_22 : decode prog_24_method_1_code 22 = .ok (.if_icmp .ge 16, 3) := by decide +kernel
theorem d1_25 : decode prog_24_method_1_code 25 = .ok (.aload_n 0, 1) := by decide +kernel
theorem d1_26 : decode prog_24_method_1_code 26 = .ok (.getfield 13, 3) := by decide +kernel
theorem d1_29 : decode prog_24_method_1_code 29 = .ok (.iload_n 2, 1) := by decide +kernel
theorem d1_30 : decode prog_24_method_1_code 30 = .ok (.iload_n 2, 1) := by decide +kernel
theorem d1_31 : decode prog_24_method_1_code 31 = .ok (.iastore, 1) := by decide +kernel
theorem d1_32 : decode prog_24_method_1_code 32 = .ok (.iinc 2 1, 3) := by decide +kernel
theorem d1_35 : decode prog_24_method_1_code 35 = .ok (.goto (-15), 3) := by decide +kernel
theorem d1_38 : decode prog_24_method_1_code 38 = .ok (.aload_n 0, 1) := by decide +kernel
theorem d1_39 : decode prog_24_method_1_code 39 = .ok (.iload_n 1, 1) := by decide +kernel
theorem d1_40 : decode prog_24_method_1_code 40 = .ok (.putfield 17, 3) := by decide +kernel
theorem d1_43 : decode prog_24_method_1_code 43 = .ok (.return_, 1) := by decide +kernel
theorem pn1 : plainName "com/example/porter_drive/porterdrive/RequestQueue" = true := by first | (simp [plainName, overriddenIn]; done) | decide +kernel
theorem pd1 : parseMethodDescriptor "(I)V" = some ⟨[.int], none⟩ := by decide +kernel
theorem ef1 (m : MethodId) (b0 : Addr) (x1 : Int32) : entryFrame m #[(.ref b0), (.int x1)] 3 = mkF m 0 #[.val (.ref b0), .val (.int x1), .unset] [] := by first | (simp [entryFrame, mkF, argsToLocals, Value.category]; done) | rfl
abbrev rx1 : Room := { frames := 1, cells := 2, slots := 8, locals := 12 }
abbrev Cx1 (Z : State) (a0 : Array Value) (p : Program) (s : State) (m : MethodId) (meth : Method) (c : Code) : Prop := p.tables.exec = Jvm.exec ∧ Z.Warmed39 s.vm ∧ (∀ d ∈ tables_1, d.before a0 Z = true) ∧ c.code = prog_24_method_1_code ∧ c.maxLocals = 3 ∧ s.vm.findClass "com/example/porter_drive/porterdrive/RequestQueue" = some m.cls ∧ meth.sig.returnType = none ∧ meth.locks = false ∧ meth.name = "<init>"
def Q1 (Z : State) (x1 : Int32) (b0 : Addr) (u0_size : Int32) (h0 : Heap) (n0 : Nat) (o : Int32 × List Int64 × List Int32) (v : Option Value) (h : Heap) (L : List Loc) : Prop := ∃ c0 c1 : Addr, v = none ∧ Fr n0 L ∧ Keep h0 h [b0] ∧ Fld Z h b0 "com/example/porter_drive/porterdrive/RequestQueue" "times" "[J" (.ref c0) ∧ Fld Z h b0 "com/example/porter_drive/porterdrive/RequestQueue" "clients" "[I" (.ref c1) ∧ Fld Z h b0 "com/example/porter_drive/porterdrive/RequestQueue" "size" "I" (.int o.1) ∧ h0.size ≤ c0 ∧ n0 ≤ c0 ∧ Arj Z h c0 o.2.1 ∧ h0.size ≤ c1 ∧ n0 ≤ c1 ∧ Ari Z h c1 .int o.2.2 ∧ c0 ≠ c1
def f1_20 : Nat → Int32 → Int32 → Int32 → (List Int64) → (List Int32) → Option (Int32 × List Int64 × List Int32)
  | 0, _, _, _, _, _ => none
  | n + 1, x1, x2, u0_size, l1, l2 => (if x2 < x1 then ((stx l2 x2 x2).bind fun l_7 => (f1_20 n x1 (x2 + (1 : Int32)) u0_size l1 l_7)) else some (x1, l1, l2))
set_option maxRecDepth 65536 in
set_option maxHeartbeats 40000000 in
theorem w1_20 {p : Program} {l : Launch} {e : Env} {s : State} {m : MethodId} {args : Array Value} {below : List Frame} {meth : Method} {c : Code} {Z : State} {a0 : Array Value} {h0 : Heap} {n0 : Nat} (C : Cx1 Z a0 p s m meth c) (n : Nat) :
    ∀ (T : State) (locs : List Loc) (hA : Heap) (x1 : Int32) (x2 : Int32) (b0 : Addr) (u0_size : Int32) (b1 : Addr) (l1 : List Int64) (b2 : Addr) (l2 : List Int32) (o : Int32 × List Int64 × List Int32), f1_20 n x1 x2 u0_size l1 l2 = some o → Stand p l e rx1 s m args below meth c T locs 2 8 → T.heap = hA → Fr n0 locs → Old Z n0 hA → Keep h0 hA [b0] → (Exa Z hA b0 "com/example/porter_drive/porterdrive/RequestQueue") → (Fld Z hA b0 "com/example/porter_drive/porterdrive/RequestQueue" "times" "[J" (.ref b1)) → (Fld Z hA b0 "com/example/porter_drive/porterdrive/RequestQueue" "clients" "[I" (.ref b2)) → (Fld Z hA b0 "com/example/porter_drive/porterdrive/RequestQueue" "size" "I" (.int u0_size)) → (Arj Z hA b1 l1) → (Ari Z hA b2 .int l2) → (n0 ≤ b0) → (n0 ≤ b1) → (h0.size ≤ b1) → (n0 ≤ b2) → (h0.size ≤ b2) → (b0 ≠ b1) → (b0 ≠ b2) → (b1 ≠ b2) →  OwnOut p e s below 2 8 (Q1 Z default b0 default h0 n0 o) (T.setTop (mkF m 20 #[.val (.ref b0), .val (.int x1), .val (.int x2)] [])) := by
  obtain ⟨hx, hZ, hw, hby, hml, hown, hret, hlk, hnm⟩ := C
  induction n with
  | zero => intro T locs hA x1 x2 b0 u0_size b1 l1 b2 l2 o hr X0 e0 N0 O0 K0 E0 F0_times F0_clients F0_size A1 A2 g0 g1 z1 g2 z2 ne0_1 ne0_2 ne1_2; rw [f1_20] at hr; cases hr
  | succ n ih =>
    intro T locs hA x1 x2 b0 u0_size b1 l1 b2 l2 o hr X0 e0 N0 O0 K0 E0 F0_times F0_clients F0_size A1 A2 g0 g1 z1 g2 z2 ne0_1 ne0_2 ne1_2
    rw [f1_20] at hr
    refine OwnOut.go (fun t k => XS.iloadN X0.here hx rfl (hb hby d1_20) rfl k) ?_
    show OwnOut p e s below 2 8 _ (T.setTop (mkF m 21 #[.val (.ref b0), .val (.int x1), .val (.int x2)] [(.int x2)]))
    refine OwnOut.go (fun t k => XS.iloadN X0.here hx rfl (hb hby d1_21) rfl k) ?_
    show OwnOut p e s below 2 8 _ (T.setTop (mkF m 22 #[.val (.ref b0), .val (.int x1), .val (.int x2)] [(.int x1), (.int x2)]))
    by_cases hc22 : x2 < x1
    · rw [if_pos hc22] at hr
      refine OwnOut.go (fun t k => XS.icmpNo X0.here hx rfl (hb hby d1_22) rfl (XT.ii_ge_f hc22) k) ?_
      show OwnOut p e s below 2 8 _ (T.setTop (mkF m 25 #[.val (.ref b0), .val (.int x1), .val (.int x2)] []))
      refine OwnOut.go (fun t k => XS.aloadN X0.here hx rfl (hb hby d1_25) rfl rfl k) ?_
      show OwnOut p e s below 2 8 _ (T.setTop (mkF m 26 #[.val (.ref b0), .val (.int x1), .val (.int x2)] [(.ref b0)]))
      obtain ⟨T6, X6, e6, st6⟩ := getF X0 hx hZ hown (host := "") (Or.inl (hw _ (List.mem_of_getElem? (i := 15) rfl))) Via.refl e0 F0_clients (g := (mkF m 26 #[.val (.ref b0), .val (.int x1), .val (.int x2)] [(.ref b0)])) rfl rfl (hb hby d1_26)
      refine OwnOut.go (fun t k => st6 _ k) ?_
      show OwnOut p e s below 2 8 _ (T6.setTop (mkF m 29 #[.val (.ref b0), .val (.int x1), .val (.int x2)] [(.ref b2)]))
      refine OwnOut.go (fun t k => XS.iloadN X6.here hx rfl (hb hby d1_29) rfl k) ?_
      show OwnOut p e s below 2 8 _ (T6.setTop (mkF m 30 #[.val (.ref b0), .val (.int x1), .val (.int x2)] [(.int x2), (.ref b2)]))
      refine OwnOut.go (fun t k => XS.iloadN X6.here hx rfl (hb hby d1_30) rfl k) ?_
      show OwnOut p e s below 2 8 _ (T6.setTop (mkF m 31 #[.val (.ref b0), .val (.int x1), .val (.int x2)] [(.int x2), (.int x2), (.ref b2)]))
      obtain ⟨l_7, hl7, hr⟩ := Option.bind_eq_some_iff.mp hr
      obtain ⟨T7, h7, X7, e7, W7, A_7, st7⟩ := saI X6 hx hZ e6 A2 hl7 (g := (mkF m 31 #[.val (.ref b0), .val (.int x1), .val (.int x2)] [(.int x2), (.int x2), (.ref b2)])) rfl rfl (hb hby d1_31)
      refine OwnOut.go (fun t k => st7 _ k) ?_
      have E0_7 := E0.wr W7
      have F0_times_7 := F0_times.other W7 (Or.inl ne0_2)
      have F0_clients_7 := F0_clients.other W7 (Or.inl ne0_2)
      have F0_size_7 := F0_size.other W7 (Or.inl ne0_2)
      have A1_7 := A1.other W7 ne1_2
      have N_7 := Fr.snoc X7 N0 g2
      have O_7 := O0.wr W7 g2
      have K_7 := K0.wr W7 (Or.inr z2)
      show OwnOut p e s below 2 8 _ (T7.setTop (mkF m 32 #[.val (.ref b0), .val (.int x1), .val (.int x2)] []))
      refine OwnOut.go (fun t k => XT.iincV X7.here hx rfl (1 : Int32) (hb hby d1_32) rfl rfl (l' := #[.val (.ref b0), .val (.int x1), .val (.int (x2 + (1 : Int32)))]) rfl k) ?_
      show OwnOut p e s below 2 8 _ (T7.setTop (mkF m 35 #[.val (.ref b0), .val (.int x1), .val (.int (x2 + (1 : Int32)))] []))
      refine OwnOut.go (fun t k => XS.goto X7.here hx rfl (pc0 := 35) (pc' := 20) rfl (hb hby d1_35) (by decide) (by decide) k) ?_
      show OwnOut p e s below 2 8 _ (T7.setTop (mkF m 20 #[.val (.ref b0), .val (.int x1), .val (.int (x2 + (1 : Int32)))] []))
      exact ih _ _ _ x1 (x2 + (1 : Int32)) b0 u0_size b1 l1 b2 l_7 _ hr X7 e7 N_7 O_7 K_7 E0_7 F0_times_7 F0_clients_7 F0_size_7 A1_7 A_7 g0 g1 z1 g2 z2 ne0_1 ne0_2 ne1_2
    · rw [if_neg hc22] at hr
      refine OwnOut.go (fun t k => XS.icmpYes X0.here hx rfl (pc0 := 22) (pc' := 38) rfl (hb hby d1_22) rfl (XT.ii_ge_t hc22) (by decide) (by decide) k) ?_
      show OwnOut p e s below 2 8 _ (T.setTop (mkF m 38 #[.val (.ref b0), .val (.int x1), .val (.int x2)] []))
      refine OwnOut.go (fun t k => XS.aloadN X0.here hx rfl (hb hby d1_38) rfl rfl k) ?_
      show OwnOut p e s below 2 8 _ (T.setTop (mkF m 39 #[.val (.ref b0), .val (.int x1), .val (.int x2)] [(.ref b0)]))
      refine OwnOut.go (fun t k => XS.iloadN X0.here hx rfl (hb hby d1_39) rfl k) ?_
      show OwnOut p e s below 2 8 _ (T.setTop (mkF m 40 #[.val (.ref b0), .val (.int x1), .val (.int x2)] [(.int x1), (.ref b0)]))
      obtain ⟨T8, h8, X8, e8, W8, st8⟩ := putF X0 hx hZ hown (host := "") (Or.inl (hw _ (List.mem_of_getElem? (i := 17) rfl))) Via.refl e0 F0_size E0 (Or.inl (hw _ (List.mem_of_getElem? (i := 18) rfl))) (hw _ (List.mem_of_getElem? (i := 4) rfl)) (ty := .int) (by decide) rfl rfl (g := (mkF m 40 #[.val (.ref b0), .val (.int x1), .val (.int x2)] [(.int x1), (.ref b0)])) rfl rfl (hb hby d1_40)
      refine OwnOut.go (fun t k => st8 _ k) ?_
      have E0_8 := E0.wr W8
      have F0_times_8 := F0_times.other W8 (Or.inr (slot_ne (Or.inr (hw _ (List.mem_of_getElem? (i := 13) rfl))) (Or.inl (hw _ (List.mem_of_getElem? (i := 18) rfl))) (by decide) (t := (.array .long)) (t' := .int) (by decide) (by decide)))
      have F0_clients_8 := F0_clients.other W8 (Or.inr (slot_ne (Or.inr (hw _ (List.mem_of_getElem? (i := 16) rfl))) (Or.inl (hw _ (List.mem_of_getElem? (i := 18) rfl))) (by decide) (t := (.array .int)) (t' := .int) (by decide) (by decide)))
      have F0_size_8 := F0_size.same W8
      have A1_8 := A1.other W8 (Ne.symm ne0_1)
      have A2_8 := A2.other W8 (Ne.symm ne0_2)
      have N_8 := Fr.snoc X8 N0 g0
      have O_8 := O0.wr W8 g0
      have K_8 := K0.wr W8 (Or.inl (List.mem_of_getElem? (i := 0) rfl))
      show OwnOut p e s below 2 8 _ (T8.setTop (mkF m 43 #[.val (.ref b0), .val (.int x1), .val (.int x2)] []))
      cases hr
      exact outV X8 hx hret (hb hby d1_43) hlk (by decide) (by decide) (by rw [e8]; exact ⟨b1, b2, rfl, N_8, K_8, F0_times_8, F0_clients_8, F0_size_8, z1, g1, A1_8, z2, g2, A2_8, ne1_2⟩)
def f1 (x1 : Int32) (u0_size : Int32) : Option (Int32 × List Int64 × List Int32) := ((nwx (0 : Int64) 4 x1).bind fun l_2 => ((nwx (0 : Int32) 4 x1).bind fun l_4 => (f1_20 8 x1 (0 : Int32) u0_size l_2 l_4)))
set_option maxRecDepth 65536 in
set_option maxHeartbeats 40000000 in
theorem w1_0 {p : Program} {l : Launch} {e : Env} {s : State} {m : MethodId} {args : Array Value} {below : List Frame} {meth : Method} {c : Code} {Z : State} {a0 : Array Value} {h0 : Heap} {n0 : Nat} (C : Cx1 Z a0 p s m meth c) :
    ∀ (T : State) (locs : List Loc) (hA : Heap) (x1 : Int32) (b0 : Addr) (u0_size : Int32) (o : Int32 × List Int64 × List Int32), f1 x1 u0_size = some o → Stand p l e rx1 s m args below meth c T locs 0 0 → T.heap = hA → Fr n0 locs → Old Z n0 hA → Keep h0 hA [b0] → (Exa Z hA b0 "com/example/porter_drive/porterdrive/RequestQueue") → (Fld Z hA b0 "com/example/porter_drive/porterdrive/RequestQueue" "times" "[J" .null) → (Fld Z hA b0 "com/example/porter_drive/porterdrive/RequestQueue" "clients" "[I" .null) → (Fld Z hA b0 "com/example/porter_drive/porterdrive/RequestQueue" "size" "I" (.int u0_size)) → (n0 ≤ b0) →  OwnOut p e s below 2 8 (Q1 Z default b0 default h0 n0 o) (T.setTop (mkF m 0 #[.val (.ref b0), .val (.int x1), .unset] [])) := by
    obtain ⟨hx, hZ, hw, hby, hml, hown, hret, hlk, hnm⟩ := C
    intro T locs hA x1 b0 u0_size o hr X0 e0 N0 O0 K0 E0 F0_times F0_clients F0_size g0
    rw [f1] at hr
    refine OwnOut.go (fun t k => XS.aloadN X0.here hx rfl (hb hby d1_0) rfl rfl k) ?_
    show OwnOut p e s below 2 8 _ (T.setTop (mkF m 1 #[.val (.ref b0), .val (.int x1), .unset] [(.ref b0)]))
    obtain ⟨T1, X1, e1, st1⟩ := initO X0 hx hZ hown (hw _ (List.mem_of_getElem? (i := 9) rfl)) (hw _ (List.mem_of_getElem? (i := 10) rfl)) (hw _ (List.mem_of_getElem? (i := 11) rfl)) e0 (g := (mkF m 1 #[.val (.ref b0), .val (.int x1), .unset] [(.ref b0)])) rfl (by rw [hml]; rfl) rfl (hb hby d1_1) (by decide) (W := 0) (by show 2 * 0 + _ ≤ _; exact Nat.le_of_eq rfl) (by decide)
    refine OwnOut.go (fun t k => st1 _ k) ?_
    show OwnOut p e s below 2 8 _ (T1.setTop (mkF m 4 #[.val (.ref b0), .val (.int x1), .unset] []))
    refine OwnOut.go (fun t k => XS.aloadN X1.here hx rfl (hb hby d1_4) rfl rfl k) ?_
    show OwnOut p e s below 2 8 _ (T1.setTop (mkF m 5 #[.val (.ref b0), .val (.int x1), .unset] [(.ref b0)]))
    refine OwnOut.go (fun t k => XS.iloadN X1.here hx rfl (hb hby d1_5) rfl k) ?_
    show OwnOut p e s below 2 8 _ (T1.setTop (mkF m 6 #[.val (.ref b0), .val (.int x1), .unset] [(.int x1), (.ref b0)]))
    obtain ⟨l_2, hl2, hr⟩ := Option.bind_eq_some_iff.mp hr
    obtain ⟨T2, h2, X2, e2, Ex2, A_2, st2⟩ := nwA X1 hx hZ (hw _ (List.mem_of_getElem? (i := 1) rfl)) e1 hl2 (f := Value.long) rfl (g := (mkF m 6 #[.val (.ref b0), .val (.int x1), .unset] [(.int x1), (.ref b0)])) rfl rfl (hb hby d1_6) (by decide) (by decide) (by decide)
    obtain ⟨c2, gc2⟩ : ∃ z, z = hA.size := ⟨_, rfl⟩
    rw [← gc2] at A_2 st2
    refine OwnOut.go (fun t k => st2 _ k) ?_
    have ne0_1_2 : b0 ≠ c2 := Nat.ne_of_lt (gc2 ▸ E0.lt)
    have E0_2 := E0.ext Ex2
    have F0_times_2 := F0_times.ext Ex2
    have F0_clients_2 := F0_clients.ext Ex2
    have F0_size_2 := F0_size.ext Ex2
    have g_2 : n0 ≤ c2 := gc2 ▸ (O0.1 ▸ O0.2.1)
    have z_2 : h0.size ≤ c2 := gc2 ▸ K0.1
    have O_2 := O0.ext Ex2
    have K_2 := K0.ext Ex2
    show OwnOut p e s below 2 8 _ (T2.setTop (mkF m 8 #[.val (.ref b0), .val (.int x1), .unset] [(.ref c2), (.ref b0)]))
    obtain ⟨T3, h3, X3, e3, W3, st3⟩ := putF X2 hx hZ hown (host := "") (Or.inl (hw _ (List.mem_of_getElem? (i := 12) rfl))) Via.refl e2 F0_times_2 E0_2 (Or.inr ⟨(hw _ (List.mem_of_getElem? (i := 13) rfl)), rfl, hnm⟩) (hw _ (List.mem_of_getElem? (i := 4) rfl)) (ty := (.array .long)) (by decide) rfl rfl (g := (mkF m 8 #[.val (.ref b0), .val (.int x1), .unset] [(.ref c2), (.ref b0)])) rfl rfl (hb hby d1_8)
    refine OwnOut.go (fun t k => st3 _ k) ?_
    have E0_3 := E0_2.wr W3
    have F0_times_3 := F0_times_2.same W3
    have F0_clients_3 := F0_clients_2.other W3 (Or.inr (slot_ne (Or.inr (hw _ (List.mem_of_getElem? (i := 16) rfl))) (Or.inr (hw _ (List.mem_of_getElem? (i := 13) rfl))) (by decide) (t := (.array .int)) (t' := (.array .long)) (by decide) (by decide)))
    have F0_size_3 := F0_size_2.other W3 (Or.inr (slot_ne (Or.inl (hw _ (List.mem_of_getElem? (i := 18) rfl))) (Or.inr (hw _ (List.mem_of_getElem? (i := 13) rfl))) (by decide) (t := .int) (t' := (.array .long)) (by decide) (by decide)))
    have A1_3 := A_2.other W3 (Ne.symm ne0_1_2)
    have N_3 := Fr.snoc X3 N0 g0
    have O_3 := O_2.wr W3 g0
    have K_3 := K_2.wr W3 (Or.inl (List.mem_of_getElem? (i := 0) rfl))
    show OwnOut p e s below 2 8 _ (T3.setTop (mkF m 11 #[.val (.ref b0), .val (.int x1), .unset] []))
    refine OwnOut.go (fun t k => XS.aloadN X3.here hx rfl (hb hby d1_11) rfl rfl k) ?_
    show OwnOut p e s below 2 8 _ (T3.setTop (mkF m 12 #[.val (.ref b0), .val (.int x1), .unset] [(.ref b0)]))
    refine OwnOut.go (fun t k => XS.iloadN X3.here hx rfl (hb hby d1_12) rfl k) ?_
    show OwnOut p e s below 2 8 _ (T3.setTop (mkF m 13 #[.val (.ref b0), .val (.int x1), .unset] [(.int x1), (.ref b0)]))
    obtain ⟨l_4, hl4, hr⟩ := Option.bind_eq_some_iff.mp hr
    obtain ⟨T4, h4, X4, e4, Ex4, A_4, st4⟩ := nwA X3 hx hZ (hw _ (List.mem_of_getElem? (i := 14) rfl)) e3 hl4 (f := Value.int) rfl (g := (mkF m 13 #[.val (.ref b0), .val (.int x1), .unset] [(.int x1), (.ref b0)])) rfl rfl (hb hby d1_13) (by decide) (by decide) (by decide)
    obtain ⟨c4, gc4⟩ : ∃ z, z = h3.size := ⟨_, rfl⟩
    rw [← gc4] at A_4 st4
    refine OwnOut.go (fun t k => st4 _ k) ?_
    have ne0_2_4 : b0 ≠ c4 := Nat.ne_of_lt (gc4 ▸ E0_3.lt)
    have ne1_2_4 : c2 ≠ c4 := Nat.ne_of_lt (gc4 ▸ A1_3.lt)
    have E0_4 := E0_3.ext Ex4
    have F0_times_4 := F0_times_3.ext Ex4
    have F0_clients_4 := F0_clients_3.ext Ex4
    have F0_size_4 := F0_size_3.ext Ex4
    have A1_4 := A1_3.ext Ex4
    have g_4 : n0 ≤ c4 := gc4 ▸ (O_3.1 ▸ O_3.2.1)
    have z_4 : h0.size ≤ c4 := gc4 ▸ K_3.1
    have O_4 := O_3.ext Ex4
    have K_4 := K_3.ext Ex4
    show OwnOut p e s below 2 8 _ (T4.setTop (mkF m 15 #[.val (.ref b0), .val (.int x1), .unset] [(.ref c4), (.ref b0)]))
    obtain ⟨T5, h5, X5, e5, W5, st5⟩ := putF X4 hx hZ hown (host := "") (Or.inl (hw _ (List.mem_of_getElem? (i := 15) rfl))) Via.refl e4 F0_clients_4 E0_4 (Or.inr ⟨(hw _ (List.mem_of_getElem? (i := 16) rfl)), rfl, hnm⟩) (hw _ (List.mem_of_getElem? (i := 4) rfl)) (ty := (.array .int)) (by decide) rfl rfl (g := (mkF m 15 #[.val (.ref b0), .val (.int x1), .unset] [(.ref c4), (.ref b0)])) rfl rfl (hb hby d1_15)
    refine OwnOut.go (fun t k => st5 _ k) ?_
    have E0_5 := E0_4.wr W5
    have F0_times_5 := F0_times_4.other W5 (Or.inr (slot_ne (Or.inr (hw _ (List.mem_of_getElem? (i := 13) rfl))) (Or.inr (hw _ (List.mem_of_getElem? (i := 16) rfl))) (by decide) (t := (.array .long)) (t' := (.array .int)) (by decide) (by decide)))
    have F0_clients_5 := F0_clients_4.same W5
    have F0_size_5 := F0_size_4.other W5 (Or.inr (slot_ne (Or.inl (hw _ (List.mem_of_getElem? (i := 18) rfl))) (Or.inr (hw _ (List.mem_of_getElem? (i := 16) rfl))) (by decide) (t := .int) (t' := (.array .int)) (by decide) (by decide)))
    have A1_5 := A1_4.other W5 (Ne.symm ne0_1_2)
    have A2_5 := A_4.other W5 (Ne.symm ne0_2_4)
    have N_5 := Fr.snoc X5 N_3 g0
    have O_5 := O_4.wr W5 g0
    have K_5 := K_4.wr W5 (Or.inl (List.mem_of_getElem? (i := 0) rfl))
    show OwnOut p e s below 2 8 _ (T5.setTop (mkF m 18 #[.val (.ref b0), .val (.int x1), .unset] []))
    refine OwnOut.go (fun t k => XT.iconstV X5.here hx rfl (0 : Int32) (hb hby d1_18) rfl k) ?_
    show OwnOut p e s below 2 8 _ (T5.setTop (mkF m 19 #[.val (.ref b0), .val (.int x1), .unset] [(.int (0 : Int32))]))
    refine OwnOut.go (fun t k => XS.istoreN X5.here hx rfl (hb hby d1_19) rfl (l' := #[.val (.ref b0), .val (.int x1), .val (.int (0 : Int32))]) rfl k) ?_
    show OwnOut p e s below 2 8 _ (T5.setTop (mkF m 20 #[.val (.ref b0), .val (.int x1), .val (.int (0 : Int32))] []))
    exact w1_20 ⟨hx, hZ, hw, hby, hml, hown, hret, hlk, hnm⟩ 8  _ _ _ x1 (0 : Int32) b0 u0_size c2 l_2 c4 l_4 _ hr X5 e5 N_5 O_5 K_5 E0_5 F0_times_5 F0_clients_5 F0_size_5 A1_5 A2_5 g0 g_2 z_2 g_4 z_4 ne0_1_2 ne0_2_4 ne1_2_4
set_option maxRecDepth 65536 in
set_option maxHeartbeats 40000000 in
theorem rm1 (l : Launch) (Z : State) (a0 : Array Value) (hw : ∀ d ∈ tables_1, d.before a0 Z = true) (ws : List Jvm.Cond) (x1 : Int32) (b0 : Addr) (u0_size : Int32) (h0 : Heap) (n0 : Nat) (o : Int32 × List Int64 × List Int32) (hr : f1 x1 u0_size = some o) (O0 : Old Z n0 h0) (E0 : Exa Z h0 b0 "com/example/porter_drive/porterdrive/RequestQueue") (F0_times : Fld Z h0 b0 "com/example/porter_drive/porterdrive/RequestQueue" "times" "[J" .null) (F0_clients : Fld Z h0 b0 "com/example/porter_drive/porterdrive/RequestQueue" "clients" "[I" .null) (F0_size : Fld Z h0 b0 "com/example/porter_drive/porterdrive/RequestQueue" "size" "I" (.int u0_size)) (g0 : n0 ≤ b0) :
    MetFree l (⟨"com/example/porter_drive/porterdrive/RequestQueue", "<init>", "(I)V"⟩ : MethodName) (head1 (Jvm.Cond.code (⟨"com/example/porter_drive/porterdrive/RequestQueue", "<init>", "(I)V"⟩ : MethodName) prog_24_method_1_code 3 none :: ws) rx1) (fun a U => a = #[(.ref b0), (.int x1)] ∧ Z.Warmed39 U.vm ∧ U.heap = h0) (fun _ _ _ _ _ => True) (fun _ U o' U' => ∃ v L, o' = .returned v ∧ Q1 Z x1 b0 u0_size h0 n0 o v U'.heap L ∧ FrameEnd U o' U' L rx1.cells rx1.slots) := by
  refine MetFree.of_bodySF (plainFor_of_name pn1) hisR ?_
  intro p e s m args below meth c s₁ Bd hml0 hP hK
  obtain ⟨rfl, hZ, hh⟩ := hP
  have X0 : Stand p l e rx1 s m #[(.ref b0), (.int x1)] below meth c s₁ [] 0 0 := Stand.of_body Bd
  have e0 : s₁.heap = h0 := by rw [← hh, Bd.state]; rfl
  exact OwnOut.at (ef1 m b0 x1) (w1_0 ⟨Bd.exec, hZ, hw, Bd.bytes, hml0, findClass_of_methodNamed Bd.named, Bd.returns, Bd.notSynchronized, (name_of_methodNamed Bd.named Bd.method).1⟩ _ _ _ x1 b0 u0_size o hr X0 e0 (Fr.nil n0) O0 (Keep.refl _ _) E0 F0_times F0_clients F0_size g0)
-- body 4 as 4: com/example/porter_drive/porterdrive/RequestQueueRemoveFirstPinLaw.pick:([J[ZII)I (touches nothing)
theorem d4_0 : decode method_4_code 0 = .ok (.aload_n 1, 1) := by decide +kernel
theorem d4_1 : decode method_4_code 1 = .ok (.iload_n 3, 1) := by decide +kernel
theorem d4_2 : decode method_4_code 2 = .ok (.baload, 1) := by decide +kernel
theorem d4_3 : decode method_4_code 3 = .ok (.ifCond .eq 5, 3) := by decide +kernel
theorem d4_6 : decode method_4_code 6 = .ok (.iload_n 2, 1) := by decide +kernel
theorem d4_7 : decode method_4_code 7 = .ok (.ireturn, 1) := by decide +kernel
theorem d4_8 : decode method_4_code 8 = .ok (.iload_n 2, 1) := by decide +kernel
theorem d4_9 : decode method_4_code 9 = .ok (.ifCond .ge 5, 3) := by decide +kernel
theorem d4_12 : decode method_4_code 12 = .ok (.iload_n 3, 1) := by decide +kernel
theorem d4_13 : decode method_4_code 13 = .ok (.ireturn, 1) := by decide +kernel
theorem d4_14 : decode method_4_code 14 = .ok (.aload_n 0, 1) := by decide +kernel
theorem d4_15 : decode method_4_code 15 = .ok (.iload_n 3, 1) := by decide +kernel
theorem d4_16 : decode method_4_code 16 = .ok (.laload, 1) := by decide +kernel
theorem d4_17 : decode method_4_code 17 = .ok (.aload_n 0, 1) := by decide +kernel
theorem d4_18 : decode method_4_code 18 = .ok (.iload_n 2, 1) := by decide +kernel
theorem d4_19 : decode method_4_code 19 = .ok (.laload, 1) := by decide +kernel
theorem d4_20 : decode method_4_code 20 = .ok (.lcmp, 1) := by decide +kernel
theorem d4_21 : decode method_4_code 21 = .ok (.ifCond .ge 5, 3) := by decide +kernel
theorem d4_24 : decode method_4_code 24 = .ok (.iload_n 3, 1) := by decide +kernel
theorem d4_25 : decode method_4_code 25 = .ok (.ireturn, 1) := by decide +kernel
theorem d4_26 : decode method_4_code 26 = .ok (.iload_n 2, 1) := by decide +kernel
theorem d4_27 : decode method_4_code 27 = .ok (.ireturn, 1) := by decide +kernel
theorem pn4 : plainName "com/example/porter_drive/porterdrive/RequestQueueRemoveFirstPinLaw" = true := by first | (simp [plainName, overriddenIn]; done) | decide +kernel
theorem pd4 : parseMethodDescriptor "([J[ZII)I" = some ⟨[(.array .long), (.array .boolean), .int, .int], some .int⟩ := by decide +kernel
theorem ef4 (m : MethodId) (b0 : Addr) (b1 : Addr) (x2 : Int32) (x3 : Int32) : entryFrame m #[(.ref b0), (.ref b1), (.int x2), (.int x3)] 4 = mkF m 0 #[.val (.ref b0), .val (.ref b1), .val (.int x2), .val (.int x3)] [] := by first | (simp [entryFrame, mkF, argsToLocals, Value.category]; done) | rfl
abbrev rx4 : Room := { frames := 0, cells := 0, slots := 0, locals := 0 }
abbrev Cx4 (Z : State) (a0 : Array Value) (p : Program) (s : State) (m : MethodId) (meth : Method) (c : Code) : Prop := p.tables.exec = Jvm.exec ∧ Z.Warmed39 s.vm ∧ (∀ d ∈ tables_1, d.before a0 Z = true) ∧ c.code = method_4_code ∧ c.maxLocals = 4 ∧ s.vm.findClass "com/example/porter_drive/porterdrive/RequestQueueRemoveFirstPinLaw" = some m.cls ∧ meth.sig.returnType = (some .int) ∧ meth.locks = false ∧ meth.name = "pick"
def Q4 (Z : State) (x2 : Int32) (x3 : Int32) (b0 : Addr) (l0 : List Int64) (b1 : Addr) (l1 : List Int32) (h0 : Heap) (o : Int32) (v : Option Value) (h : Heap) (L : List Loc) : Prop := v = some (.int o) ∧ h = h0 ∧ L = []
def f4 (x2 : Int32) (x3 : Int32) (l0 : List Int64) (l1 : List Int32) : Option (Int32) := ((ldx l1 x3).bind fun v1 => (if v1 = (0 : Int32) then (if x2 < (0 : Int32) then some (x3) else ((ldx l0 x3).bind fun v2 => ((ldx l0 x2).bind fun v3 => (if v2 < v3 then some (x3) else some (x2))))) else some (x2)))
set_option maxRecDepth 65536 in
set_option maxHeartbeats 40000000 in
theorem w4_0 {p : Program} {l : Launch} {e : Env} {s : State} {m : MethodId} {args : Array Value} {below : List Frame} {meth : Method} {c : Code} {Z : State} {a0 : Array Value} {h0 : Heap} (C : Cx4 Z a0 p s m meth c) :
    ∀ (T : State) (x2 : Int32) (x3 : Int32) (b0 : Addr) (l0 : List Int64) (b1 : Addr) (l1 : List Int32) (o : Int32), f4 x2 x3 l0 l1 = some o → Stand p l e rx4 s m args below meth c T [] 0 0 → T.heap = h0 → (Arj Z h0 b0 l0) → (Ari Z h0 b1 .boolean l1) →  OwnOut p e s below 0 0 (Q4 Z default default b0 l0 b1 l1 h0 o) (T.setTop (mkF m 0 #[.val (.ref b0), .val (.ref b1), .val (.int x2), .val (.int x3)] [])) := by
    obtain ⟨hx, hZ, hw, hby, hml, hown, hret, hlk, hnm⟩ := C
    intro T x2 x3 b0 l0 b1 l1 o hr X0 e0 A0 A1
    rw [f4] at hr
    refine OwnOut.go (fun t k => XS.aloadN X0.here hx rfl (hb hby d4_0) rfl rfl k) ?_
    show OwnOut p e s below 0 0 _ (T.setTop (mkF m 1 #[.val (.ref b0), .val (.ref b1), .val (.int x2), .val (.int x3)] [(.ref b1)]))
    refine OwnOut.go (fun t k => XS.iloadN X0.here hx rfl (hb hby d4_1) rfl k) ?_
    show OwnOut p e s below 0 0 _ (T.setTop (mkF m 2 #[.val (.ref b0), .val (.ref b1), .val (.int x2), .val (.int x3)] [(.int x3), (.ref b1)]))
    obtain ⟨v1, hv1, hr⟩ := Option.bind_eq_some_iff.mp hr
    refine OwnOut.go (fun t k => ldZ X0 hx hZ e0 A1 hv1 (g := (mkF m 2 #[.val (.ref b0), .val (.ref b1), .val (.int x2), .val (.int x3)] [(.int x3), (.ref b1)])) rfl rfl (hb hby d4_2) t k) ?_
    show OwnOut p e s below 0 0 _ (T.setTop (mkF m 3 #[.val (.ref b0), .val (.ref b1), .val (.int x2), .val (.int x3)] [(.int v1)]))
    by_cases hc3 : v1 = (0 : Int32)
    · rw [if_pos hc3] at hr
      refine OwnOut.go (fun t k => XS.ifYes X0.here hx rfl (pc0 := 3) (pc' := 8) rfl (hb hby d4_3) rfl (XT.i0_eq_t hc3) (by decide) (by decide) k) ?_
      show OwnOut p e s below 0 0 _ (T.setTop (mkF m 8 #[.val (.ref b0), .val (.ref b1), .val (.int x2), .val (.int x3)] []))
      refine OwnOut.go (fun t k => XS.iloadN X0.here hx rfl (hb hby d4_8) rfl k) ?_
      show OwnOut p e s below 0 0 _ (T.setTop (mkF m 9 #[.val (.ref b0), .val (.ref b1), .val (.int x2), .val (.int x3)] [(.int x2)]))
      by_cases hc9 : x2 < (0 : Int32)
      · rw [if_pos hc9] at hr
        refine OwnOut.go (fun t k => XS.ifNo X0.here hx rfl (hb hby d4_9) rfl (XT.i0_ge_f hc9) k) ?_
        show OwnOut p e s below 0 0 _ (T.setTop (mkF m 12 #[.val (.ref b0), .val (.ref b1), .val (.int x2), .val (.int x3)] []))
        refine OwnOut.go (fun t k => XS.iloadN X0.here hx rfl (hb hby d4_12) rfl k) ?_
        show OwnOut p e s below 0 0 _ (T.setTop (mkF m 13 #[.val (.ref b0), .val (.ref b1), .val (.int x2), .val (.int x3)] [(.int x3)]))
        cases hr
        exact outI X0 hx hret (hb hby d4_13) hlk (by decide) (by decide) ⟨rfl, e0, rfl⟩
      · rw [if_neg hc9] at hr
        refine OwnOut.go (fun t k => XS.ifYes X0.here hx rfl (pc0 := 9) (pc' := 14) rfl (hb hby d4_9) rfl (XT.i0_ge_t hc9) (by decide) (by decide) k) ?_
        show OwnOut p e s below 0 0 _ (T.setTop (mkF m 14 #[.val (.ref b0), .val (.ref b1), .val (.int x2), .val (.int x3)] []))
        refine OwnOut.go (fun t k => XS.aloadN X0.here hx rfl (hb hby d4_14) rfl rfl k) ?_
        show OwnOut p e s below 0 0 _ (T.setTop (mkF m 15 #[.val (.ref b0), .val (.ref b1), .val (.int x2), .val (.int x3)] [(.ref b0)]))
        refine OwnOut.go (fun t k => XS.iloadN X0.here hx rfl (hb hby d4_15) rfl k) ?_
        show OwnOut p e s below 0 0 _ (T.setTop (mkF m 16 #[.val (.ref b0), .val (.ref b1), .val (.int x2), .val (.int x3)] [(.int x3), (.ref b0)]))
        obtain ⟨v2, hv2, hr⟩ := Option.bind_eq_some_iff.mp hr
        refine OwnOut.go (fun t k => ldJ X0 hx hZ e0 A0 hv2 (g := (mkF m 16 #[.val (.ref b0), .val (.ref b1), .val (.int x2), .val (.int x3)] [(.int x3), (.ref b0)])) rfl rfl (hb hby d4_16) t k) ?_
        show OwnOut p e s below 0 0 _ (T.setTop (mkF m 17 #[.val (.ref b0), .val (.ref b1), .val (.int x2), .val (.int x3)] [(.long v2)]))
        refine OwnOut.go (fun t k => XS.aloadN X0.here hx rfl (hb hby d4_17) rfl rfl k) ?_
        show OwnOut p e s below 0 0 _ (T.setTop (mkF m 18 #[.val (.ref b0), .val (.ref b1), .val (.int x2), .val (.int x3)] [(.ref b0), (.long v2)]))
        refine OwnOut.go (fun t k => XS.iloadN X0.here hx rfl (hb hby d4_18) rfl k) ?_
        show OwnOut p e s below 0 0 _ (T.setTop (mkF m 19 #[.val (.ref b0), .val (.ref b1), .val (.int x2), .val (.int x3)] [(.int x2), (.ref b0), (.long v2)]))
        obtain ⟨v3, hv3, hr⟩ := Option.bind_eq_some_iff.mp hr
        refine OwnOut.go (fun t k => ldJ X0 hx hZ e0 A0 hv3 (g := (mkF m 19 #[.val (.ref b0), .val (.ref b1), .val (.int x2), .val (.int x3)] [(.int x2), (.ref b0), (.long v2)])) rfl rfl (hb hby d4_19) t k) ?_
        show OwnOut p e s below 0 0 _ (T.setTop (mkF m 20 #[.val (.ref b0), .val (.ref b1), .val (.int x2), .val (.int x3)] [(.long v3), (.long v2)]))
        refine OwnOut.go (fun t k => XS.lcmp X0.here hx rfl (hb hby d4_20) rfl k) ?_
        show OwnOut p e s below 0 0 _ (T.setTop (mkF m 21 #[.val (.ref b0), .val (.ref b1), .val (.int x2), .val (.int x3)] [(.int (XT.cmpL v2 v3))]))
        by_cases hc21 : v2 < v3
        · rw [if_pos hc21] at hr
          refine OwnOut.go (fun t k => XS.ifNo X0.here hx rfl (hb hby d4_21) rfl (XT.ll_ge_f hc21) k) ?_
          show OwnOut p e s below 0 0 _ (T.setTop (mkF m 24 #[.val (.ref b0), .val (.ref b1), .val (.int x2), .val (.int x3)] []))
          refine OwnOut.go (fun t k => XS.iloadN X0.here hx rfl (hb hby d4_24) rfl k) ?_
          show OwnOut p e s below 0 0 _ (T.setTop (mkF m 25 #[.val (.ref b0), .val (.ref b1), .val (.int x2), .val (.int x3)] [(.int x3)]))
          cases hr
          exact outI X0 hx hret (hb hby d4_25) hlk (by decide) (by decide) ⟨rfl, e0, rfl⟩
        · rw [if_neg hc21] at hr
          refine OwnOut.go (fun t k => XS.ifYes X0.here hx rfl (pc0 := 21) (pc' := 26) rfl (hb hby d4_21) rfl (XT.ll_ge_t hc21) (by decide) (by decide) k) ?_
          show OwnOut p e s below 0 0 _ (T.setTop (mkF m 26 #[.val (.ref b0), .val (.ref b1), .val (.int x2), .val (.int x3)] []))
          refine OwnOut.go (fun t k => XS.iloadN X0.here hx rfl (hb hby d4_26) rfl k) ?_
          show OwnOut p e s below 0 0 _ (T.setTop (mkF m 27 #[.val (.ref b0), .val (.ref b1), .val (.int x2), .val (.int x3)] [(.int x2)]))
          cases hr
          exact outI X0 hx hret (hb hby d4_27) hlk (by decide) (by decide) ⟨rfl, e0, rfl⟩
    · rw [if_neg hc3] at hr
      refine OwnOut.go (fun t k => XS.ifNo X0.here hx rfl (hb hby d4_3) rfl (XT.i0_eq_f hc3) k) ?_
      show OwnOut p e s below 0 0 _ (T.setTop (mkF m 6 #[.val (.ref b0), .val (.ref b1), .val (.int x2), .val (.int x3)] []))
      refine OwnOut.go (fun t k => XS.iloadN X0.here hx rfl (hb hby d4_6) rfl k) ?_
      show OwnOut p e s below 0 0 _ (T.setTop (mkF m 7 #[.val (.ref b0), .val (.ref b1), .val (.int x2), .val (.int x3)] [(.int x2)]))
      cases hr
      exact outI X0 hx hret (hb hby d4_7) hlk (by decide) (by decide) ⟨rfl, e0, rfl⟩
set_option maxRecDepth 65536 in
set_option maxHeartbeats 40000000 in
theorem rm4 (l : Launch) (Z : State) (a0 : Array Value) (hw : ∀ d ∈ tables_1, d.before a0 Z = true) (ws : List Jvm.Cond) (x2 : Int32) (x3 : Int32) (b0 : Addr) (l0 : List Int64) (b1 : Addr) (l1 : List Int32) (h0 : Heap) (o : Int32) (hr : f4 x2 x3 l0 l1 = some o) (A0 : Arj Z h0 b0 l0) (A1 : Ari Z h0 b1 .boolean l1) :
    MetFree l (⟨"com/example/porter_drive/porterdrive/RequestQueueRemoveFirstPinLaw", "pick", "([J[ZII)I"⟩ : MethodName) (head1 (Jvm.Cond.code (⟨"com/example/porter_drive/porterdrive/RequestQueueRemoveFirstPinLaw", "pick", "([J[ZII)I"⟩ : MethodName) method_4_code 4 (some .int) :: ws) rx4) (fun a U => a = #[(.ref b0), (.ref b1), (.int x2), (.int x3)] ∧ Z.Warmed39 U.vm ∧ U.heap = h0) (fun _ _ _ _ _ => True) (fun _ U o' U' => ∃ v L, o' = .returned v ∧ Q4 Z x2 x3 b0 l0 b1 l1 h0 o v U'.heap L ∧ FrameEnd U o' U' L rx4.cells rx4.slots) := by
  refine MetFree.of_bodySF (plainFor_of_name pn4) hisR ?_
  intro p e s m args below meth c s₁ Bd hml0 hP hK
  obtain ⟨rfl, hZ, hh⟩ := hP
  have X0 : Stand p l e rx4 s m #[(.ref b0), (.ref b1), (.int x2), (.int x3)] below meth c s₁ [] 0 0 := Stand.of_body Bd
  have e0 : s₁.heap = h0 := by rw [← hh, Bd.state]; rfl
  exact OwnOut.at (ef4 m b0 b1 x2 x3) (w4_0 ⟨Bd.exec, hZ, hw, Bd.bytes, hml0, findClass_of_methodNamed Bd.named, Bd.returns, Bd.notSynchronized, (name_of_methodNamed Bd.named Bd.method).1⟩ _ x2 x3 b0 l0 b1 l1 o hr X0 e0  A0 A1)
-- body 3 as 3: com/example/porter_drive/porterdrive/RequestQueueRemoveFirstPinLaw.first:([J[Z)I (touches nothing)
theorem d3_0 : decode method_3_code 0 = .ok (.iconst (-1), 1) := by decide +kernel
theorem d3_1 : decode method_3_code 1 = .ok (.istore_n 2, 1) := by decide +kernel
theorem d3_2 : decode method_3_code 2 = .ok (.aload_n 0, 1) := by decide +kernel
theorem d3_3 : decode method_3_code 3 = .ok (.aload_n 1, 1) := by decide +kernel
theorem d3_4 : decode method_3_code 4 = .ok (.iload_n 2, 1) := by decide +kernel
theorem d3_5 : decode method_3_code 5 = .ok (.iconst 0, 1) := by decide +kernel
theorem d3_6 : decode method_3_code 6 = .ok (.invokestatic 45, 3) := by decide +kernel
theorem d3_9 : decode method_3_code 9 = .ok (.istore_n 2, 1) := by decide +kernel
theorem d3_10 : decode method_3_code 10 = .ok (.aload_n 0, 1) := by decide +kernel
theorem d3_11 : decode method_3_code 11 = .ok (.aload_n 1, 1) := by decide +kernel
theorem d3_12 : decode method_3_code 12 = .ok (.iload_n 2, 1) := by decide +kernel
theorem d3_13 : decode method_3_code 13 = .ok (.iconst 1, 1) := by decide +kernel
theorem d3_14 : decode method_3_code 14 = .ok (.invokestatic 45, 3) := by decide +kernel
theorem d3_17 : decode method_3_code 17 = .ok (.istore_n 2, 1) := by decide +kernel
theorem d3_18 : decode method_3_code 18 = .ok (.aload_n 0, 1) := by decide +kernel
theorem d3_19 : decode method_3_code 19 = .ok (.aload_n 1, 1) := by decide +kernel
theorem d3_20 : decode method_3_code 20 = .ok (.iload_n 2, 1) := by decide +kernel
theorem d3_21 : decode method_3_code 21 = .ok (.iconst 2, 1) := by decide +kernel
theorem d3_22 : decode method_3_code 22 = .ok (.invokestatic 45, 3) := by decide +kernel
theorem d3_25 : decode method_3_code 25 = .ok (.istore_n 2, 1) := by decide +kernel
theorem d3_26 : decode method_3_code 26 = .ok (.aload_n 0, 1) := by decide +kernel
theorem d3_27 : decode method_3_code 27 = .ok (.aload_n 1, 1) := by decide +kernel
theorem d3_28 : decode method_3_code 28 = .ok (.iload_n 2, 1) := by decide +kernel
theorem d3_29 : decode method_3_code 29 = .ok (.iconst 3, 1) := by decide +kernel
theorem d3_30 : decode method_3_code 30 = .ok (.invokestatic 45, 3) := by decide +kernel
theorem d3_33 : decode method_3_code 33 = .ok (.istore_n 2, 1) := by decide +kernel
theorem d3_34 : decode method_3_code 34 = .ok (.iload_n 2, 1) := by decide +kernel
theorem d3_35 : decode method_3_code 35 = .ok (.ireturn, 1) := by decide +kernel
theorem pn3 : plainName "com/example/porter_drive/porterdrive/RequestQueueRemoveFirstPinLaw" = true := by first | (simp [plainName, overriddenIn]; done) | decide +kernel
theorem pd3 : parseMethodDescriptor "([J[Z)I" = some ⟨[(.array .long), (.array .boolean)], some .int⟩ := by decide +kernel
theorem ef3 (m : MethodId) (b0 : Addr) (b1 : Addr) : entryFrame m #[(.ref b0), (.ref b1)] 3 = mkF m 0 #[.val (.ref b0), .val (.ref b1), .unset] [] := by first | (simp [entryFrame, mkF, argsToLocals, Value.category]; done) | rfl
abbrev rx3 : Room := { frames := 1, cells := 0, slots := 0, locals := 15 }
abbrev Cx3 (Z : State) (a0 : Array Value) (p : Program) (s : State) (m : MethodId) (meth : Method) (c : Code) : Prop := p.tables.exec = Jvm.exec ∧ Z.Warmed39 s.vm ∧ (∀ d ∈ tables_1, d.before a0 Z = true) ∧ c.code = method_3_code ∧ c.maxLocals = 3 ∧ s.vm.findClass "com/example/porter_drive/porterdrive/RequestQueueRemoveFirstPinLaw" = some m.cls ∧ meth.sig.returnType = (some .int) ∧ meth.locks = false ∧ meth.name = "first"
def Q3 (Z : State) (b0 : Addr) (l0 : List Int64) (b1 : Addr) (l1 : List Int32) (h0 : Heap) (o : Int32) (v : Option Value) (h : Heap) (L : List Loc) : Prop := v = some (.int o) ∧ h = h0 ∧ L = []
def f3 (l0 : List Int64) (l1 : List Int32) : Option (Int32) := ((f4 (-1 : Int32) (0 : Int32) l0 l1).bind fun o1 => ((f4 o1 (1 : Int32) l0 l1).bind fun o2 => ((f4 o2 (2 : Int32) l0 l1).bind fun o3 => ((f4 o3 (3 : Int32) l0 l1).bind fun o4 => some (o4)))))
set_option maxRecDepth 65536 in
set_option maxHeartbeats 40000000 in
theorem w3_0 {p : Program} {l : Launch} {e : Env} {s : State} {m : MethodId} {args : Array Value} {below : List Frame} {meth : Method} {c : Code} {Z : State} {a0 : Array Value} {h0 : Heap} (C : Cx3 Z a0 p s m meth c) :
    ∀ (T : State) (b0 : Addr) (l0 : List Int64) (b1 : Addr) (l1 : List Int32) (o : Int32), f3 l0 l1 = some o → Stand p l e rx3 s m args below meth c T [] 0 0 → T.heap = h0 → (Arj Z h0 b0 l0) → (Ari Z h0 b1 .boolean l1) →  OwnOut p e s below 0 0 (Q3 Z b0 l0 b1 l1 h0 o) (T.setTop (mkF m 0 #[.val (.ref b0), .val (.ref b1), .unset] [])) := by
    obtain ⟨hx, hZ, hw, hby, hml, hown, hret, hlk, hnm⟩ := C
    intro T b0 l0 b1 l1 o hr X0 e0 A0 A1
    rw [f3] at hr
    refine OwnOut.go (fun t k => XT.iconstV X0.here hx rfl (-1 : Int32) (hb hby d3_0) rfl k) ?_
    show OwnOut p e s below 0 0 _ (T.setTop (mkF m 1 #[.val (.ref b0), .val (.ref b1), .unset] [(.int (-1 : Int32))]))
    refine OwnOut.go (fun t k => XS.istoreN X0.here hx rfl (hb hby d3_1) rfl (l' := #[.val (.ref b0), .val (.ref b1), .val (.int (-1 : Int32))]) rfl k) ?_
    show OwnOut p e s below 0 0 _ (T.setTop (mkF m 2 #[.val (.ref b0), .val (.ref b1), .val (.int (-1 : Int32))] []))
    refine OwnOut.go (fun t k => XS.aloadN X0.here hx rfl (hb hby d3_2) rfl rfl k) ?_
    show OwnOut p e s below 0 0 _ (T.setTop (mkF m 3 #[.val (.ref b0), .val (.ref b1), .val (.int (-1 : Int32))] [(.ref b0)]))
    refine OwnOut.go (fun t k => XS.aloadN X0.here hx rfl (hb hby d3_3) rfl rfl k) ?_
    show OwnOut p e s below 0 0 _ (T.setTop (mkF m 4 #[.val (.ref b0), .val (.ref b1), .val (.int (-1 : Int32))] [(.ref b1), (.ref b0)]))
    refine OwnOut.go (fun t k => XS.iloadN X0.here hx rfl (hb hby d3_4) rfl k) ?_
    show OwnOut p e s below 0 0 _ (T.setTop (mkF m 5 #[.val (.ref b0), .val (.ref b1), .val (.int (-1 : Int32))] [(.int (-1 : Int32)), (.ref b1), (.ref b0)]))
    refine OwnOut.go (fun t k => XT.iconstV X0.here hx rfl (0 : Int32) (hb hby d3_5) rfl k) ?_
    show OwnOut p e s below 0 0 _ (T.setTop (mkF m 6 #[.val (.ref b0), .val (.ref b1), .val (.int (-1 : Int32))] [(.int (0 : Int32)), (.int (-1 : Int32)), (.ref b1), (.ref b0)]))
    obtain ⟨o1, ho1, hr⟩ := Option.bind_eq_some_iff.mp hr
    obtain ⟨r1, T1, L1, X1', hQ1, st1⟩ := callQ (W := 0) (rm := rx4) X0 hx hZ (y := (⟨"com/example/porter_drive/porterdrive/RequestQueueRemoveFirstPinLaw", "pick", "([J[ZII)I"⟩ : MethodName)) hown (hw _ (List.mem_of_getElem? (i := 23) rfl)) (hw _ (List.mem_of_getElem? (i := 24) rfl)) (hw _ (List.mem_of_getElem? (i := 21) rfl)) (hw _ (List.mem_of_getElem? (i := 25) rfl)) (by decide) (rm4 l Z a0 hw [] (-1 : Int32) (0 : Int32) b0 l0 b1 l1 h0 o1 ho1 A0 A1) (by decide) (by decide) (by decide) (by decide) e0 (g := (mkF m 6 #[.val (.ref b0), .val (.ref b1), .val (.int (-1 : Int32))] [(.int (0 : Int32)), (.int (-1 : Int32)), (.ref b1), (.ref b0)])) rfl (by rw [hml]; rfl) (argsL := [(.ref b0), (.ref b1), (.int (-1 : Int32)), (.int (0 : Int32))]) (rest := []) (lenOf pd4 rfl) rfl (by show 2 * 0 + _ ≤ _; exact Nat.le_of_eq rfl) (hb hby d3_6)
    obtain ⟨rfl, e1, rfl⟩ := hQ1
    rw [List.append_nil] at X1'
    have X1 : Stand p l e rx3 s m args below meth c T1 _ 0 0 := X1'
    refine OwnOut.go (fun t k => st1 _ k) ?_
    show OwnOut p e s below 0 0 _ (T1.setTop (mkF m 9 #[.val (.ref b0), .val (.ref b1), .val (.int (-1 : Int32))] [(.int o1)]))
    refine OwnOut.go (fun t k => XS.istoreN X1.here hx rfl (hb hby d3_9) rfl (l' := #[.val (.ref b0), .val (.ref b1), .val (.int o1)]) rfl k) ?_
    show OwnOut p e s below 0 0 _ (T1.setTop (mkF m 10 #[.val (.ref b0), .val (.ref b1), .val (.int o1)] []))
    refine OwnOut.go (fun t k => XS.aloadN X1.here hx rfl (hb hby d3_10) rfl rfl k) ?_
    show OwnOut p e s below 0 0 _ (T1.setTop (mkF m 11 #[.val (.ref b0), .val (.ref b1), .val (.int o1)] [(.ref b0)]))
    refine OwnOut.go (fun t k => XS.aloadN X1.here hx rfl (hb hby d3_11) rfl rfl k) ?_
    show OwnOut p e s below 0 0 _ (T1.setTop (mkF m 12 #[.val (.ref b0), .val (.ref b1), .val (.int o1)] [(.ref b1), (.ref b0)]))
    refine OwnOut.go (fun t k => XS.iloadN X1.here hx rfl (hb hby d3_12) rfl k) ?_
    show OwnOut p e s below 0 0 _ (T1.setTop (mkF m 13 #[.val (.ref b0), .val (.ref b1), .val (.int o1)] [(.int o1), (.ref b1), (.ref b0)]))
    refine OwnOut.go (fun t k => XT.iconstV X1.here hx rfl (1 : Int32) (hb hby d3_13) rfl k) ?_
    show OwnOut p e s below 0 0 _ (T1.setTop (mkF m 14 #[.val (.ref b0), .val (.ref b1), .val (.int o1)] [(.int (1 : Int32)), (.int o1), (.ref b1), (.ref b0)]))
    obtain ⟨o2, ho2, hr⟩ := Option.bind_eq_some_iff.mp hr
    obtain ⟨r2, T2, L2, X2', hQ2, st2⟩ := callQ (W := 0) (rm := rx4) X1 hx hZ (y := (⟨"com/example/porter_drive/porterdrive/RequestQueueRemoveFirstPinLaw", "pick", "([J[ZII)I"⟩ : MethodName)) hown (hw _ (List.mem_of_getElem? (i := 23) rfl)) (hw _ (List.mem_of_getElem? (i := 24) rfl)) (hw _ (List.mem_of_getElem? (i := 21) rfl)) (hw _ (List.mem_of_getElem? (i := 25) rfl)) (by decide) (rm4 l Z a0 hw [] o1 (1 : Int32) b0 l0 b1 l1 h0 o2 ho2 A0 A1) (by decide) (by decide) (by decide) (by decide) e1 (g := (mkF m 14 #[.val (.ref b0), .val (.ref b1), .val (.int o1)] [(.int (1 : Int32)), (.int o1), (.ref b1), (.ref b0)])) rfl (by rw [hml]; rfl) (argsL := [(.ref b0), (.ref b1), (.int o1), (.int (1 : Int32))]) (rest := []) (lenOf pd4 rfl) rfl (by show 2 * 0 + _ ≤ _; exact Nat.le_of_eq rfl) (hb hby d3_14)
    obtain ⟨rfl, e2, rfl⟩ := hQ2
    rw [List.append_nil] at X2'
    have X2 : Stand p l e rx3 s m args below meth c T2 _ 0 0 := X2'
    refine OwnOut.go (fun t k => st2 _ k) ?_
    show OwnOut p e s below 0 0 _ (T2.setTop (mkF m 17 #[.val (.ref b0), .val (.ref b1), .val (.int o1)] [(.int o2)]))
    refine OwnOut.go (fun t k => XS.istoreN X2.here hx rfl (hb hby d3_17) rfl (l' := #[.val (.ref b0), .val (.ref b1), .val (.int o2)]) rfl k) ?_
    show OwnOut p e s below 0 0 _ (T2.setTop (mkF m 18 #[.val (.ref b0), .val (.ref b1), .val (.int o2)] []))
    refine OwnOut.go (fun t k => XS.aloadN X2.here hx rfl (hb hby d3_18) rfl rfl k) ?_
    show OwnOut p e s below 0 0 _ (T2.setTop (mkF m 19 #[.val (.ref b0), .val (.ref b1), .val (.int o2)] [(.ref b0)]))
    refine OwnOut.go (fun t k => XS.aloadN X2.here hx rfl (hb hby d3_19) rfl rfl k) ?_
    show OwnOut p e s below 0 0 _ (T2.setTop (mkF m 20 #[.val (.ref b0), .val (.ref b1), .val (.int o2)] [(.ref b1), (.ref b0)]))
    refine OwnOut.go (fun t k => XS.iloadN X2.here hx rfl (hb hby d3_20) rfl k) ?_
    show OwnOut p e s below 0 0 _ (T2.setTop (mkF m 21 #[.val (.ref b0), .val (.ref b1), .val (.int o2)] [(.int o2), (.ref b1), (.ref b0)]))
    refine OwnOut.go (fun t k => XT.iconstV X2.here hx rfl (2 : Int32) (hb hby d3_21) rfl k) ?_
    show OwnOut p e s below 0 0 _ (T2.setTop (mkF m 22 #[.val (.ref b0), .val (.ref b1), .val (.int o2)] [(.int (2 : Int32)), (.int o2), (.ref b1), (.ref b0)]))
    obtain ⟨o3, ho3, hr⟩ := Option.bind_eq_some_iff.mp hr
    obtain ⟨r3, T3, L3, X3', hQ3, st3⟩ := callQ (W := 0) (rm := rx4) X2 hx hZ (y := (⟨"com/example/porter_drive/porterdrive/RequestQueueRemoveFirstPinLaw", "pick", "([J[ZII)I"⟩ : MethodName)) hown (hw _ (List.mem_of_getElem? (i := 23) rfl)) (hw _ (List.mem_of_getElem? (i := 24) rfl)) (hw _ (List.mem_of_getElem? (i := 21) rfl)) (hw _ (List.mem_of_getElem? (i := 25) rfl)) (by decide) (rm4 l Z a0 hw [] o2 (2 : Int32) b0 l0 b1 l1 h0 o3 ho3 A0 A1) (by decide) (by decide) (by decide) (by decide) e2 (g := (mkF m 22 #[.val (.ref b0), .val (.ref b1), .val (.int o2)] [(.int (2 : Int32)), (.int o2), (.ref b1), (.ref b0)])) rfl (by rw [hml]; rfl) (argsL := [(.ref b0), (.ref b1), (.int o2), (.int (2 : Int32))]) (rest := []) (lenOf pd4 rfl) rfl (by show 2 * 0 + _ ≤ _; exact Nat.le_of_eq rfl) (hb hby d3_22)
    obtain ⟨rfl, e3, rfl⟩ := hQ3
    rw [List.append_nil] at X3'
    have X3 : Stand p l e rx3 s m args below meth c T3 _ 0 0 := X3'
    refine OwnOut.go (fun t k => st3 _ k) ?_
    show OwnOut p e s below 0 0 _ (T3.setTop (mkF m 25 #[.val (.ref b0), .val (.ref b1), .val (.int o2)] [(.int o3)]))
    refine OwnOut.go (fun t k => XS.istoreN X3.here hx rfl (hb hby d3_25) rfl (l' := #[.val (.ref b0), .val (.ref b1), .val (.int o3)]) rfl k) ?_
    show OwnOut p e s below 0 0 _ (T3.setTop (mkF m 26 #[.val (.ref b0), .val (.ref b1), .val (.int o3)] []))
    refine OwnOut.go (fun t k => XS.aloadN X3.here hx rfl (hb hby d3_26) rfl rfl k) ?_
    show OwnOut p e s below 0 0 _ (T3.setTop (mkF m 27 #[.val (.ref b0), .val (.ref b1), .val (.int o3)] [(.ref b0)]))
    refine OwnOut.go (fun t k => XS.aloadN X3.here hx rfl (hb hby d3_27) rfl rfl k) ?_
    show OwnOut p e s below 0 0 _ (T3.setTop (mkF m 28 #[.val (.ref b0), .val (.ref b1), .val (.int o3)] [(.ref b1), (.ref b0)]))
    refine OwnOut.go (fun t k => XS.iloadN X3.here hx rfl (hb hby d3_28) rfl k) ?_
    show OwnOut p e s below 0 0 _ (T3.setTop (mkF m 29 #[.val (.ref b0), .val (.ref b1), .val (.int o3)] [(.int o3), (.ref b1), (.ref b0)]))
    refine OwnOut.go (fun t k => XT.iconstV X3.here hx rfl (3 : Int32) (hb hby d3_29) rfl k) ?_
    show OwnOut p e s below 0 0 _ (T3.setTop (mkF m 30 #[.val (.ref b0), .val (.ref b1), .val (.int o3)] [(.int (3 : Int32)), (.int o3), (.ref b1), (.ref b0)]))
    obtain ⟨o4, ho4, hr⟩ := Option.bind_eq_some_iff.mp hr
    obtain ⟨r4, T4, L4, X4', hQ4, st4⟩ := callQ (W := 0) (rm := rx4) X3 hx hZ (y := (⟨"com/example/porter_drive/porterdrive/RequestQueueRemoveFirstPinLaw", "pick", "([J[ZII)I"⟩ : MethodName)) hown (hw _ (List.mem_of_getElem? (i := 23) rfl)) (hw _ (List.mem_of_getElem? (i := 24) rfl)) (hw _ (List.mem_of_getElem? (i := 21) rfl)) (hw _ (List.mem_of_getElem? (i := 25) rfl)) (by decide) (rm4 l Z a0 hw [] o3 (3 : Int32) b0 l0 b1 l1 h0 o4 ho4 A0 A1) (by decide) (by decide) (by decide) (by decide) e3 (g := (mkF m 30 #[.val (.ref b0), .val (.ref b1), .val (.int o3)] [(.int (3 : Int32)), (.int o3), (.ref b1), (.ref b0)])) rfl (by rw [hml]; rfl) (argsL := [(.ref b0), (.ref b1), (.int o3), (.int (3 : Int32))]) (rest := []) (lenOf pd4 rfl) rfl (by show 2 * 0 + _ ≤ _; exact Nat.le_of_eq rfl) (hb hby d3_30)
    obtain ⟨rfl, e4, rfl⟩ := hQ4
    rw [List.append_nil] at X4'
    have X4 : Stand p l e rx3 s m args below meth c T4 _ 0 0 := X4'
    refine OwnOut.go (fun t k => st4 _ k) ?_
    show OwnOut p e s below 0 0 _ (T4.setTop (mkF m 33 #[.val (.ref b0), .val (.ref b1), .val (.int o3)] [(.int o4)]))
    refine OwnOut.go (fun t k => XS.istoreN X4.here hx rfl (hb hby d3_33) rfl (l' := #[.val (.ref b0), .val (.ref b1), .val (.int o4)]) rfl k) ?_
    show OwnOut p e s below 0 0 _ (T4.setTop (mkF m 34 #[.val (.ref b0), .val (.ref b1), .val (.int o4)] []))
    refine OwnOut.go (fun t k => XS.iloadN X4.here hx rfl (hb hby d3_34) rfl k) ?_
    show OwnOut p e s below 0 0 _ (T4.setTop (mkF m 35 #[.val (.ref b0), .val (.ref b1), .val (.int o4)] [(.int o4)]))
    cases hr
    exact outI X4 hx hret (hb hby d3_35) hlk (by decide) (by decide) ⟨rfl, e4, rfl⟩
set_option maxRecDepth 65536 in
set_option maxHeartbeats 40000000 in
theorem rm3 (l : Launch) (Z : State) (a0 : Array Value) (hw : ∀ d ∈ tables_1, d.before a0 Z = true) (ws : List Jvm.Cond) (b0 : Addr) (l0 : List Int64) (b1 : Addr) (l1 : List Int32) (h0 : Heap) (o : Int32) (hr : f3 l0 l1 = some o) (A0 : Arj Z h0 b0 l0) (A1 : Ari Z h0 b1 .boolean l1) :
    MetFree l (⟨"com/example/porter_drive/porterdrive/RequestQueueRemoveFirstPinLaw", "first", "([J[Z)I"⟩ : MethodName) (head1 (Jvm.Cond.code (⟨"com/example/porter_drive/porterdrive/RequestQueueRemoveFirstPinLaw", "first", "([J[Z)I"⟩ : MethodName) method_3_code 3 (some .int) :: ws) rx3) (fun a U => a = #[(.ref b0), (.ref b1)] ∧ Z.Warmed39 U.vm ∧ U.heap = h0) (fun _ _ _ _ _ => True) (fun _ U o' U' => ∃ v L, o' = .returned v ∧ Q3 Z b0 l0 b1 l1 h0 o v U'.heap L ∧ FrameEnd U o' U' L rx3.cells rx3.slots) := by
  refine MetFree.of_bodySF (plainFor_of_name pn3) hisR ?_
  intro p e s m args below meth c s₁ Bd hml0 hP hK
  obtain ⟨rfl, hZ, hh⟩ := hP
  have X0 : Stand p l e rx3 s m #[(.ref b0), (.ref b1)] below meth c s₁ [] 0 0 := Stand.of_body Bd
  have e0 : s₁.heap = h0 := by rw [← hh, Bd.state]; rfl
  exact OwnOut.at (ef3 m b0 b1) (w3_0 ⟨Bd.exec, hZ, hw, Bd.bytes, hml0, findClass_of_methodNamed Bd.named, Bd.returns, Bd.notSynchronized, (name_of_methodNamed Bd.named Bd.method).1⟩ _ b0 l0 b1 l1 o hr X0 e0  A0 A1)
-- body 5 as 5: java/lang/Math.max:(JJ)J (touches nothing)
theorem d5_0 : decode jdk_29_method_66_code 0 = .ok (.lload_n 0, 1) := by decide +kernel
theorem d5_1 : decode jdk_29_method_66_code 1 = .ok (.lload_n 2, 1) := by decide +kernel
theorem d5_2 : decode jdk_29_method_66_code 2 = .ok (.lcmp, 1) := by decide +kernel
theorem d5_3 : decode jdk_29_method_66_code 3 = .ok (.ifCond .lt 7, 3) := by decide +kernel
theorem d5_6 : decode jdk_29_method_66_code 6 = .ok (.lload_n 0, 1) := by decide +kernel
theorem d5_7 : decode jdk_29_method_66_code 7 = .ok (.goto 4, 3) := by decide +kernel
theorem d5_10 : decode jdk_29_method_66_code 10 = .ok (.lload_n 2, 1) := by decide +kernel
theorem d5_11 : decode jdk_29_method_66_code 11 = .ok (.lreturn, 1) := by decide +kernel
theorem pd5 : parseMethodDescriptor "(JJ)J" = some ⟨[.long, .long], some .long⟩ := by decide +kernel
theorem ef5 (m : MethodId) (x0 : Int64) (x2 : Int64) : entryFrame m #[(.long x0), (.long x2)] 4 = mkF m 0 #[.val (.long x0), .second, .val (.long x2), .second] [] := by first | (simp [entryFrame, mkF, argsToLocals, Value.category]; done) | rfl
abbrev rx5 : Room := { frames := 0, cells := 0, slots := 0, locals := 0 }
abbrev Cx5 (Z : State) (a0 : Array Value) (p : Program) (s : State) (m : MethodId) (meth : Method) (c : Code) : Prop := p.tables.exec = Jvm.exec ∧ Z.Warmed39 s.vm ∧ (∀ d ∈ tables_1, d.before a0 Z = true) ∧ c.code = jdk_29_method_66_code ∧ c.maxLocals = 4 ∧ s.vm.findClass "java/lang/Math" = some m.cls ∧ meth.sig.returnType = (some .long) ∧ meth.locks = false ∧ meth.name = "max"
def Q5 (Z : State) (x0 : Int64) (x2 : Int64) (h0 : Heap) (o : Int64) (v : Option Value) (h : Heap) (L : List Loc) : Prop := v = some (.long o) ∧ h = h0 ∧ L = []
def f5 (x0 : Int64) (x2 : Int64) : Option (Int64) := (if x0 < x2 then some (x2) else some (x0))
set_option maxRecDepth 65536 in
set_option maxHeartbeats 40000000 in
theorem w5_0 {p : Program} {l : Launch} {e : Env} {s : State} {m : MethodId} {args : Array Value} {below : List Frame} {meth : Method} {c : Code} {Z : State} {a0 : Array Value} {h0 : Heap} (C : Cx5 Z a0 p s m meth c) :
    ∀ (T : State) (x0 : Int64) (x2 : Int64) (o : Int64), f5 x0 x2 = some o → Stand p l e rx5 s m args below meth c T [] 0 0 → T.heap = h0 →  OwnOut p e s below 0 0 (Q5 Z default default h0 o) (T.setTop (mkF m 0 #[.val (.long x0), .second, .val (.long x2), .second] [])) := by
    obtain ⟨hx, hZ, hw, hby, hml, hown, hret, hlk, hnm⟩ := C
    intro T x0 x2 o hr X0 e0
    rw [f5] at hr
    refine OwnOut.go (fun t k => XS.lloadN X0.here hx rfl (hb hby d5_0) rfl k) ?_
    show OwnOut p e s below 0 0 _ (T.setTop (mkF m 1 #[.val (.long x0), .second, .val (.long x2), .second] [(.long x0)]))
    refine OwnOut.go (fun t k => XS.lloadN X0.here hx rfl (hb hby d5_1) rfl k) ?_
    show OwnOut p e s below 0 0 _ (T.setTop (mkF m 2 #[.val (.long x0), .second, .val (.long x2), .second] [(.long x2), (.long x0)]))
    refine OwnOut.go (fun t k => XS.lcmp X0.here hx rfl (hb hby d5_2) rfl k) ?_
    show OwnOut p e s below 0 0 _ (T.setTop (mkF m 3 #[.val (.long x0), .second, .val (.long x2), .second] [(.int (XT.cmpL x0 x2))]))
    by_cases hc3 : x0 < x2
    · rw [if_pos hc3] at hr
      refine OwnOut.go (fun t k => XS.ifYes X0.here hx rfl (pc0 := 3) (pc' := 10) rfl (hb hby d5_3) rfl (XT.ll_lt_t hc3) (by decide) (by decide) k) ?_
      show OwnOut p e s below 0 0 _ (T.setTop (mkF m 10 #[.val (.long x0), .second, .val (.long x2), .second] []))
      refine OwnOut.go (fun t k => XS.lloadN X0.here hx rfl (hb hby d5_10) rfl k) ?_
      show OwnOut p e s below 0 0 _ (T.setTop (mkF m 11 #[.val (.long x0), .second, .val (.long x2), .second] [(.long x2)]))
      cases hr
      exact outJ X0 hx hret (hb hby d5_11) hlk (by decide) (by decide) ⟨rfl, e0, rfl⟩
    · rw [if_neg hc3] at hr
      refine OwnOut.go (fun t k => XS.ifNo X0.here hx rfl (hb hby d5_3) rfl (XT.ll_lt_f hc3) k) ?_
      show OwnOut p e s below 0 0 _ (T.setTop (mkF m 6 #[.val (.long x0), .second, .val (.long x2), .second] []))
      refine OwnOut.go (fun t k => XS.lloadN X0.here hx rfl (hb hby d5_6) rfl k) ?_
      show OwnOut p e s below 0 0 _ (T.setTop (mkF m 7 #[.val (.long x0), .second, .val (.long x2), .second] [(.long x0)]))
      refine OwnOut.go (fun t k => XS.goto X0.here hx rfl (pc0 := 7) (pc' := 11) rfl (hb hby d5_7) (by decide) (by decide) k) ?_
      show OwnOut p e s below 0 0 _ (T.setTop (mkF m 11 #[.val (.long x0), .second, .val (.long x2), .second] [(.long x0)]))
      cases hr
      exact outJ X0 hx hret (hb hby d5_11) hlk (by decide) (by decide) ⟨rfl, e0, rfl⟩
set_option maxRecDepth 65536 in
set_option maxHeartbeats 40000000 in
theorem rm5 (l : Launch) (Z : State) (a0 : Array Value) (hw : ∀ d ∈ tables_1, d.before a0 Z = true) (ws : List Jvm.Cond) (x0 : Int64) (x2 : Int64) (h0 : Heap) (o : Int64) (hr : f5 x0 x2 = some o) :
    MetFree l (⟨"java/lang/Math", "max", "(JJ)J"⟩ : MethodName) (head1 (Jvm.Cond.code (⟨"java/lang/Math", "max", "(JJ)J"⟩ : MethodName) jdk_29_method_66_code 4 (some .long) :: ws) rx5) (fun a U => a = #[(.long x0), (.long x2)] ∧ Z.Warmed39 U.vm ∧ U.heap = h0) (fun _ _ _ _ _ => True) (fun _ U o' U' => ∃ v L, o' = .returned v ∧ Q5 Z x0 x2 h0 o v U'.heap L ∧ FrameEnd U o' U' L rx5.cells rx5.slots) := by
  refine MetFree.of_bodySF (Jvm.Free.JP.mathPlain rfl (by decide +kernel)) hisR ?_
  intro p e s m args below meth c s₁ Bd hml0 hP hK
  obtain ⟨rfl, hZ, hh⟩ := hP
  have X0 : Stand p l e rx5 s m #[(.long x0), (.long x2)] below meth c s₁ [] 0 0 := Stand.of_body Bd
  have e0 : s₁.heap = h0 := by rw [← hh, Bd.state]; rfl
  exact OwnOut.at (ef5 m x0 x2) (w5_0 ⟨Bd.exec, hZ, hw, Bd.bytes, hml0, findClass_of_methodNamed Bd.named, Bd.returns, Bd.notSynchronized, (name_of_methodNamed Bd.named Bd.method).1⟩ _ x0 x2 o hr X0 e0  )
-- body 8 as 8: com/example/porter_drive/porterdrive/RequestQueue.isBefore:(JIJI)Z (touches nothing)
theorem d8_0 : decode prog_24_method_8_code 0 = .ok (.lload_n 0, 1) := by decide +kernel
theorem d8_1 : decode prog_24_method_8_code 1 = .ok (.lload_n 3, 1) := by decide +kernel
theorem d8_2 : decode prog_24_method_8_code 2 = .ok (.lcmp, 1) := by decide +kernel
theorem d8_3 : decode prog_24_method_8_code 3 = .ok (.ifCond .lt 15, 3) := by decide +kernel
theorem d8_6 : decode prog_24_method_8_code 6 = .ok (.lload_n 0, 1) := by decide +kernel
theorem d8_7 : decode prog_24_method_8_code 7 = .ok (.lload_n 3, 1) := by decide +kernel
theorem d8_8 : decode prog_24_method_8_code 8 = .ok (.lcmp, 1) := by decide +kernel
theorem d8_9 : decode prog_24_method_8_code 9 = .ok (.ifCond .ne 13, 3) := by decide +kernel
theorem d8_12 : decode prog_24_method_8_code 12 = .ok (.iload_n 2, 1) := by decide +kernel
theorem d8_13 : decode prog_24_method_8_code 13 = .ok (.iload 5, 2) := by decide +kernel
theorem d8_15 : decode prog_24_method_8_code 15 = .ok (.if_icmp .ge 7, 3) := by decide +kernel
theorem d8_18 : decode prog_24_method_8_code 18 = .ok (.iconst 1, 1) := by decide +kernel
theorem d8_19 : decode prog_24_method_8_code 19 = .ok (.goto 4, 3) := by decide +kernel
theorem d8_22 : decode prog_24_method_8_code 22 = .ok (.iconst 0, 1) := by decide +kernel
theorem d8_23 : decode prog_24_method_8_code 23 = .ok (.ireturn, 1) := by decide +kernel
theorem pn8 : plainName "com/example/porter_drive/porterdrive/RequestQueue" = true := by first | (simp [plainName, overriddenIn]; done) | decide +kernel
theorem pd8 : parseMethodDescriptor "(JIJI)Z" = some ⟨[.long, .int, .long, .int], some .boolean⟩ := by decide +kernel
theorem ef8 (m : MethodId) (x0 : Int64) (x2 : Int32) (x3 : Int64) (x5 : Int32) : entryFrame m #[(.long x0), (.int x2), (.long x3), (.int x5)] 6 = mkF m 0 #[.val (.long x0), .second, .val (.int x2), .val (.long x3), .second, .val (.int x5)] [] := by first | (simp [entryFrame, mkF, argsToLocals, Value.category]; done) | rfl
abbrev rx8 : Room := { frames := 0, cells := 0, slots := 0, locals := 0 }
abbrev Cx8 (Z : State) (a0 : Array Value) (p : Program) (s : State) (m : MethodId) (meth : Method) (c : Code) : Prop := p.tables.exec = Jvm.exec ∧ Z.Warmed39 s.vm ∧ (∀ d ∈ tables_1, d.before a0 Z = true) ∧ c.code = prog_24_method_8_code ∧ c.maxLocals = 6 ∧ s.vm.findClass "com/example/porter_drive/porterdrive/RequestQueue" = some m.cls ∧ meth.sig.returnType = (some .boolean) ∧ meth.locks = false ∧ meth.name = "isBefore"
def Q8 (Z : State) (x0 : Int64) (x2 : Int32) (x3 : Int64) (x5 : Int32) (h0 : Heap) (o : Int32) (v : Option Value) (h : Heap) (L : List Loc) : Prop := v = some (.int o) ∧ h = h0 ∧ L = []
def f8 (x0 : Int64) (x2 : Int32) (x3 : Int64) (x5 : Int32) : Option (Int32) := (if x0 < x3 then some ((1 : Int32)) else (if x0 = x3 then (if x2 < x5 then some ((1 : Int32)) else some ((0 : Int32))) else some ((0 : Int32))))
set_option maxRecDepth 65536 in
set_option maxHeartbeats 40000000 in
theorem w8_0 {p : Program} {l : Launch} {e : Env} {s : State} {m : MethodId} {args : Array Value} {below : List Frame} {meth : Method} {c : Code} {Z : State} {a0 : Array Value} {h0 : Heap} (C : Cx8 Z a0 p s m meth c) :
    ∀ (T : State) (x0 : Int64) (x2 : Int32) (x3 : Int64) (x5 : Int32) (o : Int32), f8 x0 x2 x3 x5 = some o → Stand p l e rx8 s m args below meth c T [] 0 0 → T.heap = h0 →  OwnOut p e s below 0 0 (Q8 Z default default default default h0 o) (T.setTop (mkF m 0 #[.val (.long x0), .second, .val (.int x2), .val (.long x3), .second, .val (.int x5)] [])) := by
    obtain ⟨hx, hZ, hw, hby, hml, hown, hret, hlk, hnm⟩ := C
    intro T x0 x2 x3 x5 o hr X0 e0
    rw [f8] at hr
    refine OwnOut.go (fun t k => XS.lloadN X0.here hx rfl (hb hby d8_0) rfl k) ?_
    show OwnOut p e s below 0 0 _ (T.setTop (mkF m 1 #[.val (.long x0), .second, .val (.int x2), .val (.long x3), .second, .val (.int x5)] [(.long x0)]))
    refine OwnOut.go (fun t k => XS.lloadN X0.here hx rfl (hb hby d8_1) rfl k) ?_
    show OwnOut p e s below 0 0 _ (T.setTop (mkF m 2 #[.val (.long x0), .second, .val (.int x2), .val (.long x3), .second, .val (.int x5)] [(.long x3), (.long x0)]))
    refine OwnOut.go (fun t k => XS.lcmp X0.here hx rfl (hb hby d8_2) rfl k) ?_
    show OwnOut p e s below 0 0 _ (T.setTop (mkF m 3 #[.val (.long x0), .second, .val (.int x2), .val (.long x3), .second, .val (.int x5)] [(.int (XT.cmpL x0 x3))]))
    by_cases hc3 : x0 < x3
    · rw [if_pos hc3] at hr
      refine OwnOut.go (fun t k => XS.ifYes X0.here hx rfl (pc0 := 3) (pc' := 18) rfl (hb hby d8_3) rfl (XT.ll_lt_t hc3) (by decide) (by decide) k) ?_
      show OwnOut p e s below 0 0 _ (T.setTop (mkF m 18 #[.val (.long x0), .second, .val (.int x2), .val (.long x3), .second, .val (.int x5)] []))
      refine OwnOut.go (fun t k => XT.iconstV X0.here hx rfl (1 : Int32) (hb hby d8_18) rfl k) ?_
      show OwnOut p e s below 0 0 _ (T.setTop (mkF m 19 #[.val (.long x0), .second, .val (.int x2), .val (.long x3), .second, .val (.int x5)] [(.int (1 : Int32))]))
      refine OwnOut.go (fun t k => XS.goto X0.here hx rfl (pc0 := 19) (pc' := 23) rfl (hb hby d8_19) (by decide) (by decide) k) ?_
      show OwnOut p e s below 0 0 _ (T.setTop (mkF m 23 #[.val (.long x0), .second, .val (.int x2), .val (.long x3), .second, .val (.int x5)] [(.int (1 : Int32))]))
      cases hr
      exact outZ X0 hx hret (hb hby d8_23) hlk (by decide) (by decide) ⟨rfl, e0, rfl⟩
    · rw [if_neg hc3] at hr
      refine OwnOut.go (fun t k => XS.ifNo X0.here hx rfl (hb hby d8_3) rfl (XT.ll_lt_f hc3) k) ?_
      show OwnOut p e s below 0 0 _ (T.setTop (mkF m 6 #[.val (.long x0), .second, .val (.int x2), .val (.long x3), .second, .val (.int x5)] []))
      refine OwnOut.go (fun t k => XS.lloadN X0.here hx rfl (hb hby d8_6) rfl k) ?_
      show OwnOut p e s below 0 0 _ (T.setTop (mkF m 7 #[.val (.long x0), .second, .val (.int x2), .val (.long x3), .second, .val (.int x5)] [(.long x0)]))
      refine OwnOut.go (fun t k => XS.lloadN X0.here hx rfl (hb hby d8_7) rfl k) ?_
      show OwnOut p e s below 0 0 _ (T.setTop (mkF m 8 #[.val (.long x0), .second, .val (.int x2), .val (.long x3), .second, .val (.int x5)] [(.long x3), (.long x0)]))
      refine OwnOut.go (fun t k => XS.lcmp X0.here hx rfl (hb hby d8_8) rfl k) ?_
      show OwnOut p e s below 0 0 _ (T.setTop (mkF m 9 #[.val (.long x0), .second, .val (.int x2), .val (.long x3), .second, .val (.int x5)] [(.int (XT.cmpL x0 x3))]))
      by_cases hc9 : x0 = x3
      · rw [if_pos hc9] at hr
        refine OwnOut.go (fun t k => XS.ifNo X0.here hx rfl (hb hby d8_9) rfl (XT.ll_ne_f hc9) k) ?_
        show OwnOut p e s below 0 0 _ (T.setTop (mkF m 12 #[.val (.long x0), .second, .val (.int x2), .val (.long x3), .second, .val (.int x5)] []))
        refine OwnOut.go (fun t k => XS.iloadN X0.here hx rfl (hb hby d8_12) rfl k) ?_
        show OwnOut p e s below 0 0 _ (T.setTop (mkF m 13 #[.val (.long x0), .second, .val (.int x2), .val (.long x3), .second, .val (.int x5)] [(.int x2)]))
        refine OwnOut.go (fun t k => XS.iload X0.here hx rfl (hb hby d8_13) rfl k) ?_
        show OwnOut p e s below 0 0 _ (T.setTop (mkF m 15 #[.val (.long x0), .second, .val (.int x2), .val (.long x3), .second, .val (.int x5)] [(.int x5), (.int x2)]))
        by_cases hc15 : x2 < x5
        · rw [if_pos hc15] at hr
          refine OwnOut.go (fun t k => XS.icmpNo X0.here hx rfl (hb hby d8_15) rfl (XT.ii_ge_f hc15) k) ?_
          show OwnOut p e s below 0 0 _ (T.setTop (mkF m 18 #[.val (.long x0), .second, .val (.int x2), .val (.long x3), .second, .val (.int x5)] []))
          refine OwnOut.go (fun t k => XT.iconstV X0.here hx rfl (1 : Int32) (hb hby d8_18) rfl k) ?_
          show OwnOut p e s below 0 0 _ (T.setTop (mkF m 19 #[.val (.long x0), .second, .val (.int x2), .val (.long x3), .second, .val (.int x5)] [(.int (1 : Int32))]))
          refine OwnOut.go (fun t k => XS.goto X0.here hx rfl (pc0 := 19) (pc' := 23) rfl (hb hby d8_19) (by decide) (by decide) k) ?_
          show OwnOut p e s below 0 0 _ (T.setTop (mkF m 23 #[.val (.long x0), .second, .val (.int x2), .val (.long x3), .second, .val (.int x5)] [(.int (1 : Int32))]))
          cases hr
          exact outZ X0 hx hret (hb hby d8_23) hlk (by decide) (by decide) ⟨rfl, e0, rfl⟩
        · rw [if_neg hc15] at hr
          refine OwnOut.go (fun t k => XS.icmpYes X0.here hx rfl (pc0 := 15) (pc' := 22) rfl (hb hby d8_15) rfl (XT.ii_ge_t hc15) (by decide) (by decide) k) ?_
          show OwnOut p e s below 0 0 _ (T.setTop (mkF m 22 #[.val (.long x0), .second, .val (.int x2), .val (.long x3), .second, .val (.int x5)] []))
          refine OwnOut.go (fun t k => XT.iconstV X0.here hx rfl (0 : Int32) (hb hby d8_22) rfl k) ?_
          show OwnOut p e s below 0 0 _ (T.setTop (mkF m 23 #[.val (.long x0), .second, .val (.int x2), .val (.long x3), .second, .val (.int x5)] [(.int (0 : Int32))]))
          cases hr
          exact outZ X0 hx hret (hb hby d8_23) hlk (by decide) (by decide) ⟨rfl, e0, rfl⟩
      · rw [if_neg hc9] at hr
        refine OwnOut.go (fun t k => XS.ifYes X0.here hx rfl (pc0 := 9) (pc' := 22) rfl (hb hby d8_9) rfl (XT.ll_ne_t hc9) (by decide) (by decide) k) ?_
        show OwnOut p e s below 0 0 _ (T.setTop (mkF m 22 #[.val (.long x0), .second, .val (.int x2), .val (.long x3), .second, .val (.int x5)] []))
        refine OwnOut.go (fun t k => XT.iconstV X0.here hx rfl (0 : Int32) (hb hby d8_22) rfl k) ?_
        show OwnOut p e s below 0 0 _ (T.setTop (mkF m 23 #[.val (.long x0), .second, .val (.int x2), .val (.long x3), .second, .val (.int x5)] [(.int (0 : Int32))]))
        cases hr
        exact outZ X0 hx hret (hb hby d8_23) hlk (by decide) (by decide) ⟨rfl, e0, rfl⟩
set_option maxRecDepth 65536 in
set_option maxHeartbeats 40000000 in
theorem rm8 (l : Launch) (Z : State) (a0 : Array Value) (hw : ∀ d ∈ tables_1, d.before a0 Z = true) (ws : List Jvm.Cond) (x0 : Int64) (x2 : Int32) (x3 : Int64) (x5 : Int32) (h0 : Heap) (o : Int32) (hr : f8 x0 x2 x3 x5 = some o) :
    MetFree l (⟨"com/example/porter_drive/porterdrive/RequestQueue", "isBefore", "(JIJI)Z"⟩ : MethodName) (head1 (Jvm.Cond.code (⟨"com/example/porter_drive/porterdrive/RequestQueue", "isBefore", "(JIJI)Z"⟩ : MethodName) prog_24_method_8_code 6 (some .boolean) :: ws) rx8) (fun a U => a = #[(.long x0), (.int x2), (.long x3), (.int x5)] ∧ Z.Warmed39 U.vm ∧ U.heap = h0) (fun _ _ _ _ _ => True) (fun _ U o' U' => ∃ v L, o' = .returned v ∧ Q8 Z x0 x2 x3 x5 h0 o v U'.heap L ∧ FrameEnd U o' U' L rx8.cells rx8.slots) := by
  refine MetFree.of_bodySF (plainFor_of_name pn8) hisR ?_
  intro p e s m args below meth c s₁ Bd hml0 hP hK
  obtain ⟨rfl, hZ, hh⟩ := hP
  have X0 : Stand p l e rx8 s m #[(.long x0), (.int x2), (.long x3), (.int x5)] below meth c s₁ [] 0 0 := Stand.of_body Bd
  have e0 : s₁.heap = h0 := by rw [← hh, Bd.state]; rfl
  exact OwnOut.at (ef8 m x0 x2 x3 x5) (w8_0 ⟨Bd.exec, hZ, hw, Bd.bytes, hml0, findClass_of_methodNamed Bd.named, Bd.returns, Bd.notSynchronized, (name_of_methodNamed Bd.named Bd.method).1⟩ _ x0 x2 x3 x5 o hr X0 e0  )
-- body 7 as 7: com/example/porter_drive/porterdrive/RequestQueue.siftDown:()V
theorem d7_0 : decode prog_24_method_7_code 0 = .ok (.aload_n 0, 1) := by decide +kernel
theorem d7_1 : decode prog_24_method_7_code 1 = .ok (.getfield 7, 3) := by decide +kernel
theorem d7_4 : decode prog_24_method_7_code 4 = .ok (.iconst 0, 1) := by decide +kernel
theorem d7_5 : decode prog_24_method_7_code 5 = .ok (.laload, 1) := by decide +kernel
theorem d7_6 : decode prog_24_method_7_code 6 = .ok (.lstore_n 1, 1) := by decide +kernel
theorem d7_7 : decode prog_24_method_7_code 7 = .ok (.aload_n 0, 1) := by decide +kernel
theorem d7_8 : decode prog_24_method_7_code 8 = .ok (.getfield 13, 3) := by decide +kernel
theorem d7_11 : decode prog_24_method_7_code 11 = .ok (.iconst 0, 1) := by decide +kernel
theorem d7_12 : decode prog_24_method_7_code 12 = .ok (.iaload, 1) := by decide +kernel
theorem d7_13 : decode prog_24_method_7_code 13 = .ok (.istore_n 3, 1) := by decide +kernel
theorem d7_14 : decode prog_24_method_7_code 14 = .ok (.iconst 0, 1) := by decide +kernel
theorem d7_15 : decode prog_24_method_7_code 15 = .ok (.istore 4, 2) := by decide +kernel
theorem d7_17 : decode prog_24_method_7_code 17 = .ok (.iconst 1, 1) := by decide +kernel
theorem d7_18 : decode prog_24_method_7_code 18 = .ok (.istore 5, 2) := by decide +kernel
theorem d7_20 : decode prog_24_method_7_code 20 = .ok (.iload 5, 2) := by decide +kernel
theorem d7_22 : decode prog_24_method_7_code 22 = .ok (.aload_n 0, 1) := by decide +kernel
theorem d7_23 : decode prog_24_method_7_code 23 = .ok (.getfield 17, 3) := by decide +kernel
theorem d7_26 : decode prog_24_method_7_code 26 = .ok (.if_icmp .ge 123, 3) := by decide +kernel
theorem d7_29 : decode prog_24_method_7_code 29 = .ok (.iload 5, 2) := by decide +kernel
theorem d7_31 : decode prog_24_method_7_code 31 = .ok (.iconst 1, 1) := by decide +kernel
theorem d7_32 : decode prog_24_method_7_code 32 = .ok (.iadd, 1) := by decide +kernel
theorem d7_33 : decode prog_24_method_7_code 33 = .ok (.aload_n 0, 1) := by decide +kernel
theorem d7_34 : decode prog_24_method_7_code 34 = .ok (.getfield 17, 3) := by decide +kernel
theorem d7_37 : decode prog_24_method_7_code 37 = .ok (.if_icmp .ge 44, 3) := by decide +kernel
theorem d7_40 : decode prog_24_method_7_code 40 = .ok (.aload_n 0, 1) := by decide +kernel
theorem d7_41 : decode prog_24_method_7_code 41 = .ok (.getfield 7, 3) := by decide +kernel
theorem d7_44 : decode prog_24_method_7_code 44 = .ok (.iload 5, 2) := by decide +kernel
theorem d7_46 : decode prog_24_method_7_code 46 = .ok (.iconst 1, 1) := by decide +kernel
theorem d7_47 : decode prog_24_method_7_code 47 = .ok (.iadd, 1) := by decide +kernel
theorem d7_48 : decode prog_24_method_7_code 48 = .ok (.laload, 1) := by decide +kernel
theorem d7_49 : decode prog_24_method_7_code 49 = .ok (.aload_n 0, 1) := by decide +kernel
theorem d7_50 : decode prog_24_method_7_code 50 = .ok (.getfield 13, 3) := by decide +kernel
theorem d7_53 : decode prog_24_method_7_code 53 = .ok (.iload 5, 2) := by decide +kernel
theorem d7_55 : decode prog_24_method_7_code 55 = .ok (.iconst 1, 1) := by decide +kernel
theorem d7_56 : decode prog_24_method_7_code 56 = .ok (.iadd, 1) := by decide +kernel
theorem d7_57 : decode prog_24_method_7_code 57 = .ok (.iaload, 1) := by decide +kernel
theorem d7_58 : decode prog_24_method_7_code 58 = .ok (.aload_n 0, 1) := by decide +kernel
theorem d7_59 : decode prog_24_method_7_code 59 = .ok (.getfield 7, 3) := by decide +kernel
theorem d7_62 : decode prog_24_method_7_code 62 = .ok (.iload 5, 2) := by decide +kernel
theorem d7_64 : decode prog_24_method_7_code 64 = .ok (.laload, 1) := by decide +kernel
theorem d7_65 : decode prog_24_method_7_code 65 = .ok (.aload_n 0, 1) := by decide +kernel
theorem d7_66 : decode prog_24_method_7_code 66 = .ok (.getfield 13, 3) := by decide +kernel
theorem d7_69 : decode prog_24_method_7_code 69 = .ok (.iload 5, 2) := by decide +kernel
theorem d7_71 : decode prog_24_method_7_code 71 = .ok (.iaload, 1) := by decide +kernel
theorem d7_72 : decode prog_24_method_7_code 72 = .ok (.invokestatic 24, 3) := by decide +kernel
theorem d7_75 : decode prog_24_method_7_code 75 = .ok (.ifCond .eq 6, 3) := by decide +kernel
theorem d7_78 : decode prog_24_method_7_code 78 = .ok (.iinc 5 1, 3) := by decide +kernel
theorem d7_81 : decode prog_24_method_7_code 81 = .ok (.aload_n 0, 1) := by decide +kernel
theorem d7_82 : decode prog_24_method_7_code 82 = .ok (.getfield 7, 3) := by decide +kernel
theorem d7_85 : decode prog_24_method_7_code 85 = .ok (.iload 5, 2) := by decide +kernel
theorem d7_87 : decode prog_24_method_7_code 87 = .ok (.laload, 1) := by decide +kernel
theorem d7_88 : decode prog_24_method_7_code 88 = .ok (.aload_n 0, 1) := by decide +kernel
theorem d7_89 : decode prog_24_method_7_code 89 = .ok (.getfield 13, 3) := by decide +kernel
theorem d7_92 : decode prog_24_method_7_code 92 = .ok (.iload 5, 2) := by decide +kernel
theorem d7_94 : decode prog_24_method_7_code 94 = .ok (.iaload, 1) := by decide +kernel
theorem d7_95 : decode prog_24_method_7_code 95 = .ok (.lload_n 1, 1) := by decide +kernel
theorem d7_96 : decode prog_24_method_7_code 96 = .ok (.iload_n 3, 1) := by decide +kernel
theorem d7_97 : decode prog_24_method_7_code 97 = .ok (.invokestatic 24, 3) := by decide +kernel
theorem d7_100 : decode prog_24_method_7_code 100 = .ok (.ifCond .ne 6, 3) := by decide +kernel
theorem d7_103 : decode prog_24_method_7_code 103 = .ok (.goto 46, 3) := by decide +kernel
theorem d7_106 : decode prog_24_method_7_code 106 = .ok (.aload_n 0, 1) := by decide +kernel
theorem d7_107 : decode prog_24_method_7_code 107 = .ok (.getfield 7, 3) := by decide +kernel
theorem d7_110 : decode prog_24_method_7_code 110 = .ok (.iload 4, 2) := by decide +kernel
theorem d7_112 : decode prog_24_method_7_code 112 = .ok (.aload_n 0, 1) := by decide +kernel
theorem d7_113 : decode prog_24_method_7_code 113 = .ok (.getfield 7, 3) := by decide +kernel
theorem d7_116 : decode prog_24_method_7_code 116 = .ok (.iload 5, 2) := by decide +kernel
theorem d7_118 : decode prog_24_method_7_code 118 = .ok (.laload, 1) := by decide +kernel
theorem d7_119 : decode prog_24_method_7_code 119 = .ok (.lastore, 1) := by decide +kernel
theorem d7_120 : decode prog_24_method_7_code 120 = .ok (.aload_n 0, 1) := by decide +kernel
theorem d7_121 : decode prog_24_method_7_code 121 = .ok (.getfield 13, 3) := by decide +kernel
theorem d7_124 : decode prog_24_method_7_code 124 = .ok (.iload 4, 2) := by decide +kernel
theorem d7_126 : decode prog_24_method_7_code 126 = .ok (.aload_n 0, 1) := by decide +kernel
theorem d7_127 : decode prog_24_method_7_code 127 = .ok (.getfield 13, 3) := by decide +kernel
theorem d7_130 : decode prog_24_method_7_code 130 = .ok (.iload 5, 2) := by decide +kernel
theorem d7_132 : decode prog_24_method_7_code 132 = .ok (.iaload, 1) := by decide +kernel
theorem d7_133 : decode prog_24_method_7_code 133 = .ok (.iastore, 1) := by decide +kernel
theorem d7_134 : decode prog_24_method_7_code 134 = .ok (.iload 5, 2) := by decide +kernel
theorem d7_136 : decode prog_24_method_7_code 136 = .ok (.istore 4, 2) := by decide +kernel
theorem d7_138 : decode prog_24_method_7_code 138 = .ok (.iconst 2, 1) := by decide +kernel
theorem d7_139 : decode prog_24_method_7_code 139 = .ok (.iload 4, 2) := by decide +kernel
theorem d7_141 : decode prog_24_method_7_code 141 = .ok (.imul, 1) := by decide +kernel
theorem d7_142 : decode prog_24_method_7_code 142 = .ok (.iconst 1, 1) := by decide +kernel
theorem d7_143 : decode prog_24_method_7_code 143 = .ok (.iadd, 1) := by decide +kernel
theorem d7_144 : decode prog_24_method_7_code 144 = .ok (.istore 5, 2) := by decide +kernel
theorem d7_146 : decode prog_24_method_7_code 146 = .ok (.goto (-126), 3) := by decide +kernel
theorem d7_149 : decode prog_24_method_7_code 149 = .ok (.aload_n 0, 1) := by decide +kernel
theorem d7_150 : decode prog_24_method_7_code 150 = .ok (.getfield 7, 3) := by decide +kernel
theorem d7_153 : decode prog_24_method_7_code 153 = .ok (.iload 4, 2) := by decide +kernel
theorem d7_155 : decode prog_24_method_7_code 155 = .ok (.lload_n 1, 1) := by decide +kernel
theorem d7_156 : decode prog_24_method_7_code 156 = .ok (.lastore, 1) := by decide +kernel
theorem d7_157 : decode prog_24_method_7_code 157 = .ok (.aload_n 0, 1) := by decide +kernel
theorem d7_158 : decode prog_24_method_7_code 158 = .ok (.getfield 13, 3) := by decide +kernel
theorem d7_161 : decode prog_24_method_7_code 161 = .ok (.iload 4, 2) := by decide +kernel
theorem d7_163 : decode prog_24_method_7_code 163 = .ok (.iload_n 3, 1) := by decide +kernel
theorem d7_164 : decode prog_24_method_7_code 164 = .ok (.iastore, 1) := by decide +kernel
theorem d7_165 : decode prog_24_method_7_code 165 = .ok (.return_, 1) := by decide +kernel
theorem pn7 : plainName "com/example/porter_drive/porterdrive/RequestQueue" = true := by first | (simp [plainName, overriddenIn]; done) | decide +kernel
theorem pd7 : parseMethodDescriptor "()V" = some ⟨[], none⟩ := by decide +kernel
theorem ef7 (m : MethodId) (b0 : Addr) : entryFrame m #[(.ref b0)] 6 = mkF m 0 #[.val (.ref b0), .unset, .unset, .unset, .unset, .unset] [] := by first | (simp [entryFrame, mkF, argsToLocals, Value.category]; done) | rfl
abbrev rx7 : Room := { frames := 1, cells := 0, slots := 0, locals := 17 }
abbrev Cx7 (Z : State) (a0 : Array Value) (p : Program) (s : State) (m : MethodId) (meth : Method) (c : Code) : Prop := p.tables.exec = Jvm.exec ∧ Z.Warmed39 s.vm ∧ (∀ d ∈ tables_1, d.before a0 Z = true) ∧ c.code = prog_24_method_7_code ∧ c.maxLocals = 6 ∧ s.vm.findClass "com/example/porter_drive/porterdrive/RequestQueue" = some m.cls ∧ meth.sig.returnType = none ∧ meth.locks = false ∧ meth.name = "siftDown"
def Q7 (Z : State) (b0 : Addr) (u0_size : Int32) (b1 : Addr) (l1 : List Int64) (b2 : Addr) (l2 : List Int32) (h0 : Heap) (n0 : Nat) (o : List Int64 × List Int32) (v : Option Value) (h : Heap) (L : List Loc) : Prop := v = none ∧ Fr n0 L ∧ Keep h0 h [b1, b2] ∧ Arj Z h b1 o.1 ∧ Ari Z h b2 .int o.2
def f7_149 (x1 : Int64) (x3 : Int32) (x4 : Int32) (u0_size : Int32) (l1 : List Int64) (l2 : List Int32) : Option (List Int64 × List Int32) := ((stx l1 x4 x1).bind fun l_22 => ((stx l2 x4 x3).bind fun l_24 => some (l_22, l_24)))
set_option maxRecDepth 65536 in
set_option maxHeartbeats 40000000 in
theorem w7_149 {p : Program} {l : Launch} {e : Env} {s : State} {m : MethodId} {args : Array Value} {below : List Frame} {meth : Method} {c : Code} {Z : State} {a0 : Array Value} {h0 : Heap} {n0 : Nat} (C : Cx7 Z a0 p s m meth c) :
    ∀ (T : State) (locs : List Loc) (hA : Heap) (x1 : Int64) (x3 : Int32) (x4 : Int32) (x5 : Int32) (b0 : Addr) (u0_size : Int32) (b1 : Addr) (l1 : List Int64) (b2 : Addr) (l2 : List Int32) (o : List Int64 × List Int32), f7_149 x1 x3 x4 u0_size l1 l2 = some o → Stand p l e rx7 s m args below meth c T locs 0 0 → T.heap = hA → Fr n0 locs → Old Z n0 hA → Keep h0 hA [b1, b2] → (Exa Z hA b0 "com/example/porter_drive/porterdrive/RequestQueue") → (Fld Z hA b0 "com/example/porter_drive/porterdrive/RequestQueue" "times" "[J" (.ref b1)) → (Fld Z hA b0 "com/example/porter_drive/porterdrive/RequestQueue" "clients" "[I" (.ref b2)) → (Fld Z hA b0 "com/example/porter_drive/porterdrive/RequestQueue" "size" "I" (.int u0_size)) → (Arj Z hA b1 l1) → (Ari Z hA b2 .int l2) → (n0 ≤ b0) → (n0 ≤ b1) → (n0 ≤ b2) → (b0 ≠ b1) → (b0 ≠ b2) → (b1 ≠ b2) →  OwnOut p e s below 0 0 (Q7 Z b0 u0_size b1 [] b2 [] h0 n0 o) (T.setTop (mkF m 149 #[.val (.ref b0), .val (.long x1), .second, .val (.int x3), .val (.int x4), .val (.int x5)] [])) := by
    obtain ⟨hx, hZ, hw, hby, hml, hown, hret, hlk, hnm⟩ := C
    intro T locs hA x1 x3 x4 x5 b0 u0_size b1 l1 b2 l2 o hr X0 e0 N0 O0 K0 E0 F0_times F0_clients F0_size A1 A2 g0 g1 g2 ne0_1 ne0_2 ne1_2
    rw [f7_149] at hr
    refine OwnOut.go (fun t k => XS.aloadN X0.here hx rfl (hb hby d7_149) rfl rfl k) ?_
    show OwnOut p e s below 0 0 _ (T.setTop (mkF m 150 #[.val (.ref b0), .val (.long x1), .second, .val (.int x3), .val (.int x4), .val (.int x5)] [(.ref b0)]))
    obtain ⟨T21, X21, e21, st21⟩ := getF X0 hx hZ hown (host := "") (Or.inl (hw _ (List.mem_of_getElem? (i := 12) rfl))) Via.refl e0 F0_times (g := (mkF m 150 #[.val (.ref b0), .val (.long x1), .second, .val (.int x3), .val (.int x4), .val (.int x5)] [(.ref b0)])) rfl rfl (hb hby d7_150)
    refine OwnOut.go (fun t k => st21 _ k) ?_
    show OwnOut p e s below 0 0 _ (T21.setTop (mkF m 153 #[.val (.ref b0), .val (.long x1), .second, .val (.int x3), .val (.int x4), .val (.int x5)] [(.ref b1)]))
    refine OwnOut.go (fun t k => XS.iload X21.here hx rfl (hb hby d7_153) rfl k) ?_
    show OwnOut p e s below 0 0 _ (T21.setTop (mkF m 155 #[.val (.ref b0), .val (.long x1), .second, .val (.int x3), .val (.int x4), .val (.int x5)] [(.int x4), (.ref b1)]))
    refine OwnOut.go (fun t k => XS.lloadN X21.here hx rfl (hb hby d7_155) rfl k) ?_
    show OwnOut p e s below 0 0 _ (T21.setTop (mkF m 156 #[.val (.ref b0), .val (.long x1), .second, .val (.int x3), .val (.int x4), .val (.int x5)] [(.long x1), (.int x4), (.ref b1)]))
    obtain ⟨l_22, hl22, hr⟩ := Option.bind_eq_some_iff.mp hr
    obtain ⟨T22, h22, X22, e22, W22, A_22, st22⟩ := saJ X21 hx hZ e21 A1 hl22 (g := (mkF m 156 #[.val (.ref b0), .val (.long x1), .second, .val (.int x3), .val (.int x4), .val (.int x5)] [(.long x1), (.int x4), (.ref b1)])) rfl rfl (hb hby d7_156)
    refine OwnOut.go (fun t k => st22 _ k) ?_
    have E0_22 := E0.wr W22
    have F0_times_22 := F0_times.other W22 (Or.inl ne0_1)
    have F0_clients_22 := F0_clients.other W22 (Or.inl ne0_1)
    have F0_size_22 := F0_size.other W22 (Or.inl ne0_1)
    have A2_22 := A2.other W22 (Ne.symm ne1_2)
    have N_22 := Fr.snoc X22 N0 g1
    have O_22 := O0.wr W22 g1
    have K_22 := K0.wr W22 (Or.inl (List.mem_of_getElem? (i := 0) rfl))
    show OwnOut p e s below 0 0 _ (T22.setTop (mkF m 157 #[.val (.ref b0), .val (.long x1), .second, .val (.int x3), .val (.int x4), .val (.int x5)] []))
    refine OwnOut.go (fun t k => XS.aloadN X22.here hx rfl (hb hby d7_157) rfl rfl k) ?_
    show OwnOut p e s below 0 0 _ (T22.setTop (mkF m 158 #[.val (.ref b0), .val (.long x1), .second, .val (.int x3), .val (.int x4), .val (.int x5)] [(.ref b0)]))
    obtain ⟨T23, X23, e23, st23⟩ := getF X22 hx hZ hown (host := "") (Or.inl (hw _ (List.mem_of_getElem? (i := 15) rfl))) Via.refl e22 F0_clients_22 (g := (mkF m 158 #[.val (.ref b0), .val (.long x1), .second, .val (.int x3), .val (.int x4), .val (.int x5)] [(.ref b0)])) rfl rfl (hb hby d7_158)
    refine OwnOut.go (fun t k => st23 _ k) ?_
    show OwnOut p e s below 0 0 _ (T23.setTop (mkF m 161 #[.val (.ref b0), .val (.long x1), .second, .val (.int x3), .val (.int x4), .val (.int x5)] [(.ref b2)]))
    refine OwnOut.go (fun t k => XS.iload X23.here hx rfl (hb hby d7_161) rfl k) ?_
    show OwnOut p e s below 0 0 _ (T23.setTop (mkF m 163 #[.val (.ref b0), .val (.long x1), .second, .val (.int x3), .val (.int x4), .val (.int x5)] [(.int x4), (.ref b2)]))
    refine OwnOut.go (fun t k => XS.iloadN X23.here hx rfl (hb hby d7_163) rfl k) ?_
    show OwnOut p e s below 0 0 _ (T23.setTop (mkF m 164 #[.val (.ref b0), .val (.long x1), .second, .val (.int x3), .val (.int x4), .val (.int x5)] [(.int x3), (.int x4), (.ref b2)]))
    obtain ⟨l_24, hl24, hr⟩ := Option.bind_eq_some_iff.mp hr
    obtain ⟨T24, h24, X24, e24, W24, A_24, st24⟩ := saI X23 hx hZ e23 A2_22 hl24 (g := (mkF m 164 #[.val (.ref b0), .val (.long x1), .second, .val (.int x3), .val (.int x4), .val (.int x5)] [(.int x3), (.int x4), (.ref b2)])) rfl rfl (hb hby d7_164)
    refine OwnOut.go (fun t k => st24 _ k) ?_
    have E0_24 := E0_22.wr W24
    have F0_times_24 := F0_times_22.other W24 (Or.inl ne0_2)
    have F0_clients_24 := F0_clients_22.other W24 (Or.inl ne0_2)
    have F0_size_24 := F0_size_22.other W24 (Or.inl ne0_2)
    have A1_24 := A_22.other W24 ne1_2
    have N_24 := Fr.snoc X24 N_22 g2
    have O_24 := O_22.wr W24 g2
    have K_24 := K_22.wr W24 (Or.inl (List.mem_of_getElem? (i := 1) rfl))
    show OwnOut p e s below 0 0 _ (T24.setTop (mkF m 165 #[.val (.ref b0), .val (.long x1), .second, .val (.int x3), .val (.int x4), .val (.int x5)] []))
    cases hr
    exact outV X24 hx hret (hb hby d7_165) hlk (by decide) (by decide) (by rw [e24]; exact ⟨rfl, N_24, K_24, A1_24, A_24⟩)
def f7_20 : Nat → Int64 → Int32 → Int32 → Int32 → Int32 → (List Int64) → (List Int32) → Option (List Int64 × List Int32)
  | 0, _, _, _, _, _, _, _ => none
  | n + 1, x1, x3, x4, x5, u0_size, l1, l2 => (if x5 < u0_size then (if (x5 + (1 : Int32)) < u0_size then ((ldx l1 (x5 + (1 : Int32))).bind fun v8 => ((ldx l2 (x5 + (1 : Int32))).bind fun v10 => ((ldx l1 x5).bind fun v12 => ((ldx l2 x5).bind fun v14 => ((f8 v8 v10 v12 v14).bind fun o15 => (if o15 = (0 : Int32) then ((ldx l1 x5).bind fun v17 => ((ldx l2 x5).bind fun v19 => ((f8 v17 v19 x1 x3).bind fun o20 => (if o20 = (0 : Int32) then (f7_149 x1 x3 x4 u0_size l1 l2) else ((ldx l1 x5).bind fun v27 => ((stx l1 x4 v27).bind fun l_28 => ((ldx l2 x5).bind fun v31 => ((stx l2 x4 v31).bind fun l_32 => (f7_20 n x1 x3 x5 (((2 : Int32) * x5) + (1 : Int32)) u0_size l_28 l_32))))))))) else ((ldx l1 (x5 + (1 : Int32))).bind fun v34 => ((ldx l2 (x5 + (1 : Int32))).bind fun v36 => ((f8 v34 v36 x1 x3).bind fun o37 => (if o37 = (0 : Int32) then (f7_149 x1 x3 x4 u0_size l1 l2) else ((ldx l1 (x5 + (1 : Int32))).bind fun v40 => ((stx l1 x4 v40).bind fun l_41 => ((ldx l2 (x5 + (1 : Int32))).bind fun v44 => ((stx l2 x4 v44).bind fun l_45 => (f7_20 n x1 x3 (x5 + (1 : Int32)) (((2 : Int32) * (x5 + (1 : Int32))) + (1 : Int32)) u0_size l_41 l_45))))))))))))))) else ((ldx l1 x5).bind fun v47 => ((ldx l2 x5).bind fun v49 => ((f8 v47 v49 x1 x3).bind fun o50 => (if o50 = (0 : Int32) then (f7_149 x1 x3 x4 u0_size l1 l2) else ((ldx l1 x5).bind fun v53 => ((stx l1 x4 v53).bind fun l_54 => ((ldx l2 x5).bind fun v57 => ((stx l2 x4 v57).bind fun l_58 => (f7_20 n x1 x3 x5 (((2 : Int32) * x5) + (1 : Int32)) u0_size l_54 l_58)))))))))) else (f7_149 x1 x3 x4 u0_size l1 l2))
set_option maxRecDepth 65536 in
set_option maxHeartbeats 40000000 in
theorem w7_20 {p : Program} {l : Launch} {e : Env} {s : State} {m : MethodId} {args : Array Value} {below : List Frame} {meth : Method} {c : Code} {Z : State} {a0 : Array Value} {h0 : Heap} {n0 : Nat} (C : Cx7 Z a0 p s m meth c) (n : Nat) :
    ∀ (T : State) (locs : List Loc) (hA : Heap) (x1 : Int64) (x3 : Int32) (x4 : Int32) (x5 : Int32) (b0 : Addr) (u0_size : Int32) (b1 : Addr) (l1 : List Int64) (b2 : Addr) (l2 : List Int32) (o : List Int64 × List Int32), f7_20 n x1 x3 x4 x5 u0_size l1 l2 = some o → Stand p l e rx7 s m args below meth c T locs 0 0 → T.heap = hA → Fr n0 locs → Old Z n0 hA → Keep h0 hA [b1, b2] → (Exa Z hA b0 "com/example/porter_drive/porterdrive/RequestQueue") → (Fld Z hA b0 "com/example/porter_drive/porterdrive/RequestQueue" "times" "[J" (.ref b1)) → (Fld Z hA b0 "com/example/porter_drive/porterdrive/RequestQueue" "clients" "[I" (.ref b2)) → (Fld Z hA b0 "com/example/porter_drive/porterdrive/RequestQueue" "size" "I" (.int u0_size)) → (Arj Z hA b1 l1) → (Ari Z hA b2 .int l2) → (n0 ≤ b0) → (n0 ≤ b1) → (n0 ≤ b2) → (b0 ≠ b1) → (b0 ≠ b2) → (b1 ≠ b2) →  OwnOut p e s below 0 0 (Q7 Z b0 u0_size b1 [] b2 [] h0 n0 o) (T.setTop (mkF m 20 #[.val (.ref b0), .val (.long x1), .second, .val (.int x3), .val (.int x4), .val (.int x5)] [])) := by
  obtain ⟨hx, hZ, hw, hby, hml, hown, hret, hlk, hnm⟩ := C
  induction n with
  | zero => intro T locs hA x1 x3 x4 x5 b0 u0_size b1 l1 b2 l2 o hr X0 e0 N0 O0 K0 E0 F0_times F0_clients F0_size A1 A2 g0 g1 g2 ne0_1 ne0_2 ne1_2; rw [f7_20] at hr; cases hr
  | succ n ih =>
    intro T locs hA x1 x3 x4 x5 b0 u0_size b1 l1 b2 l2 o hr X0 e0 N0 O0 K0 E0 F0_times F0_clients F0_size A1 A2 g0 g1 g2 ne0_1 ne0_2 ne1_2
    rw [f7_20] at hr
    refine OwnOut.go (fun t k => XS.iload X0.here hx rfl (hb hby d7_20) rfl k) ?_
    show OwnOut p e s below 0 0 _ (T.setTop (mkF m 22 #[.val (.ref b0), .val (.long x1), .second, .val (.int x3), .val (.int x4), .val (.int x5)] [(.int x5)]))
    refine OwnOut.go (fun t k => XS.aloadN X0.here hx rfl (hb hby d7_22) rfl rfl k) ?_
    show OwnOut p e s below 0 0 _ (T.setTop (mkF m 23 #[.val (.ref b0), .val (.long x1), .second, .val (.int x3), .val (.int x4), .val (.int x5)] [(.ref b0), (.int x5)]))
    obtain ⟨T5, X5, e5, st5⟩ := getF X0 hx hZ hown (host := "") (Or.inl (hw _ (List.mem_of_getElem? (i := 17) rfl))) Via.refl e0 F0_size (g := (mkF m 23 #[.val (.ref b0), .val (.long x1), .second, .val (.int x3), .val (.int x4), .val (.int x5)] [(.ref b0), (.int x5)])) rfl rfl (hb hby d7_23)
    refine OwnOut.go (fun t k => st5 _ k) ?_
    show OwnOut p e s below 0 0 _ (T5.setTop (mkF m 26 #[.val (.ref b0), .val (.long x1), .second, .val (.int x3), .val (.int x4), .val (.int x5)] [(.int u0_size), (.int x5)]))
    by_cases hc26 : x5 < u0_size
    · rw [if_pos hc26] at hr
      refine OwnOut.go (fun t k => XS.icmpNo X5.here hx rfl (hb hby d7_26) rfl (XT.ii_ge_f hc26) k) ?_
      show OwnOut p e s below 0 0 _ (T5.setTop (mkF m 29 #[.val (.ref b0), .val (.long x1), .second, .val (.int x3), .val (.int x4), .val (.int x5)] []))
      refine OwnOut.go (fun t k => XS.iload X5.here hx rfl (hb hby d7_29) rfl k) ?_
      show OwnOut p e s below 0 0 _ (T5.setTop (mkF m 31 #[.val (.ref b0), .val (.long x1), .second, .val (.int x3), .val (.int x4), .val (.int x5)] [(.int x5)]))
      refine OwnOut.go (fun t k => XT.iconstV X5.here hx rfl (1 : Int32) (hb hby d7_31) rfl k) ?_
      show OwnOut p e s below 0 0 _ (T5.setTop (mkF m 32 #[.val (.ref b0), .val (.long x1), .second, .val (.int x3), .val (.int x4), .val (.int x5)] [(.int (1 : Int32)), (.int x5)]))
      refine OwnOut.go (fun t k => XS.iadd X5.here hx rfl (hb hby d7_32) rfl k) ?_
      show OwnOut p e s below 0 0 _ (T5.setTop (mkF m 33 #[.val (.ref b0), .val (.long x1), .second, .val (.int x3), .val (.int x4), .val (.int x5)] [(.int (x5 + (1 : Int32)))]))
      refine OwnOut.go (fun t k => XS.aloadN X5.here hx rfl (hb hby d7_33) rfl rfl k) ?_
      show OwnOut p e s below 0 0 _ (T5.setTop (mkF m 34 #[.val (.ref b0), .val (.long x1), .second, .val (.int x3), .val (.int x4), .val (.int x5)] [(.ref b0), (.int (x5 + (1 : Int32)))]))
      obtain ⟨T6, X6, e6, st6⟩ := getF X5 hx hZ hown (host := "") (Or.inl (hw _ (List.mem_of_getElem? (i := 17) rfl))) Via.refl e5 F0_size (g := (mkF m 34 #[.val (.ref b0), .val (.long x1), .second, .val (.int x3), .val (.int x4), .val (.int x5)] [(.ref b0), (.int (x5 + (1 : Int32)))])) rfl rfl (hb hby d7_34)
      refine OwnOut.go (fun t k => st6 _ k) ?_
      show OwnOut p e s below 0 0 _ (T6.setTop (mkF m 37 #[.val (.ref b0), .val (.long x1), .second, .val (.int x3), .val (.int x4), .val (.int x5)] [(.int u0_size), (.int (x5 + (1 : Int32)))]))
      by_cases hc37 : (x5 + (1 : Int32)) < u0_size
      · rw [if_pos hc37] at hr
        refine OwnOut.go (fun t k => XS.icmpNo X6.here hx rfl (hb hby d7_37) rfl (XT.ii_ge_f hc37) k) ?_
        show OwnOut p e s below 0 0 _ (T6.setTop (mkF m 40 #[.val (.ref b0), .val (.long x1), .second, .val (.int x3), .val (.int x4), .val (.int x5)] []))
        refine OwnOut.go (fun t k => XS.aloadN X6.here hx rfl (hb hby d7_40) rfl rfl k) ?_
        show OwnOut p e s below 0 0 _ (T6.setTop (mkF m 41 #[.val (.ref b0), .val (.long x1), .second, .val (.int x3), .val (.int x4), .val (.int x5)] [(.ref b0)]))
        obtain ⟨T7, X7, e7, st7⟩ := getF X6 hx hZ hown (host := "") (Or.inl (hw _ (List.mem_of_getElem? (i := 12) rfl))) Via.refl e6 F0_times (g := (mkF m 41 #[.val (.ref b0), .val (.long x1), .second, .val (.int x3), .val (.int x4), .val (.int x5)] [(.ref b0)])) rfl rfl (hb hby d7_41)
        refine OwnOut.go (fun t k => st7 _ k) ?_
        show OwnOut p e s below 0 0 _ (T7.setTop (mkF m 44 #[.val (.ref b0), .val (.long x1), .second, .val (.int x3), .val (.int x4), .val (.int x5)] [(.ref b1)]))
        refine OwnOut.go (fun t k => XS.iload X7.here hx rfl (hb hby d7_44) rfl k) ?_
        show OwnOut p e s below 0 0 _ (T7.setTop (mkF m 46 #[.val (.ref b0), .val (.long x1), .second, .val (.int x3), .val (.int x4), .val (.int x5)] [(.int x5), (.ref b1)]))
        refine OwnOut.go (fun t k => XT.iconstV X7.here hx rfl (1 : Int32) (hb hby d7_46) rfl k) ?_
        show OwnOut p e s below 0 0 _ (T7.setTop (mkF m 47 #[.val (.ref b0), .val (.long x1), .second, .val (.int x3), .val (.int x4), .val (.int x5)] [(.int (1 : Int32)), (.int x5), (.ref b1)]))
        refine OwnOut.go (fun t k => XS.iadd X7.here hx rfl (hb hby d7_47) rfl k) ?_
        show OwnOut p e s below 0 0 _ (T7.setTop (mkF m 48 #[.val (.ref b0), .val (.long x1), .second, .val (.int x3), .val (.int x4), .val (.int x5)] [(.int (x5 + (1 : Int32))), (.ref b1)]))
        obtain ⟨v8, hv8, hr⟩ := Option.bind_eq_some_iff.mp hr
        refine OwnOut.go (fun t k => ldJ X7 hx hZ e7 A1 hv8 (g := (mkF m 48 #[.val (.ref b0), .val (.long x1), .second, .val (.int x3), .val (.int x4), .val (.int x5)] [(.int (x5 + (1 : Int32))), (.ref b1)])) rfl rfl (hb hby d7_48) t k) ?_
        show OwnOut p e s below 0 0 _ (T7.setTop (mkF m 49 #[.val (.ref b0), .val (.long x1), .second, .val (.int x3), .val (.int x4), .val (.int x5)] [(.long v8)]))
        refine OwnOut.go (fun t k => XS.aloadN X7.here hx rfl (hb hby d7_49) rfl rfl k) ?_
        show OwnOut p e s below 0 0 _ (T7.setTop (mkF m 50 #[.val (.ref b0), .val (.long x1), .second, .val (.int x3), .val (.int x4), .val (.int x5)] [(.ref b0), (.long v8)]))
        obtain ⟨T9, X9, e9, st9⟩ := getF X7 hx hZ hown (host := "") (Or.inl (hw _ (List.mem_of_getElem? (i := 15) rfl))) Via.refl e7 F0_clients (g := (mkF m 50 #[.val (.ref b0), .val (.long x1), .second, .val (.int x3), .val (.int x4), .val (.int x5)] [(.ref b0), (.long v8)])) rfl rfl (hb hby d7_50)
        refine OwnOut.go (fun t k => st9 _ k) ?_
        show OwnOut p e s below 0 0 _ (T9.setTop (mkF m 53 #[.val (.ref b0), .val (.long x1), .second, .val (.int x3), .val (.int x4), .val (.int x5)] [(.ref b2), (.long v8)]))
        refine OwnOut.go (fun t k => XS.iload X9.here hx rfl (hb hby d7_53) rfl k) ?_
        show OwnOut p e s below 0 0 _ (T9.setTop (mkF m 55 #[.val (.ref b0), .val (.long x1), .second, .val (.int x3), .val (.int x4), .val (.int x5)] [(.int x5), (.ref b2), (.long v8)]))
        refine OwnOut.go (fun t k => XT.iconstV X9.here hx rfl (1 : Int32) (hb hby d7_55) rfl k) ?_
        show OwnOut p e s below 0 0 _ (T9.setTop (mkF m 56 #[.val (.ref b0), .val (.long x1), .second, .val (.int x3), .val (.int x4), .val (.int x5)] [(.int (1 : Int32)), (.int x5), (.ref b2), (.long v8)]))
        refine OwnOut.go (fun t k => XS.iadd X9.here hx rfl (hb hby d7_56) rfl k) ?_
        show OwnOut p e s below 0 0 _ (T9.setTop (mkF m 57 #[.val (.ref b0), .val (.long x1), .second, .val (.int x3), .val (.int x4), .val (.int x5)] [(.int (x5 + (1 : Int32))), (.ref b2), (.long v8)]))
        obtain ⟨v10, hv10, hr⟩ := Option.bind_eq_some_iff.mp hr
        refine OwnOut.go (fun t k => ldI X9 hx hZ e9 A2 hv10 (g := (mkF m 57 #[.val (.ref b0), .val (.long x1), .second, .val (.int x3), .val (.int x4), .val (.int x5)] [(.int (x5 + (1 : Int32))), (.ref b2), (.long v8)])) rfl rfl (hb hby d7_57) t k) ?_
        show OwnOut p e s below 0 0 _ (T9.setTop (mkF m 58 #[.val (.ref b0), .val (.long x1), .second, .val (.int x3), .val (.int x4), .val (.int x5)] [(.int v10), (.long v8)]))
        refine OwnOut.go (fun t k => XS.aloadN X9.here hx rfl (hb hby d7_58) rfl rfl k) ?_
        show OwnOut p e s below 0 0 _ (T9.setTop (mkF m 59 #[.val (.ref b0), .val (.long x1), .second, .val (.int x3), .val (.int x4), .val (.int x5)] [(.ref b0), (.int v10), (.long v8)]))
        obtain ⟨T11, X11, e11, st11⟩ := getF X9 hx hZ hown (host := "") (Or.inl (hw _ (List.mem_of_getElem? (i := 12) rfl))) Via.refl e9 F0_times (g := (mkF m 59 #[.val (.ref b0), .val (.long x1), .second, .val (.int x3), .val (.int x4), .val (.int x5)] [(.ref b0), (.int v10), (.long v8)])) rfl rfl (hb hby d7_59)
        refine OwnOut.go (fun t k => st11 _ k) ?_
        show OwnOut p e s below 0 0 _ (T11.setTop (mkF m 62 #[.val (.ref b0), .val (.long x1), .second, .val (.int x3), .val (.int x4), .val (.int x5)] [(.ref b1), (.int v10), (.long v8)]))
        refine OwnOut.go (fun t k => XS.iload X11.here hx rfl (hb hby d7_62) rfl k) ?_
        show OwnOut p e s below 0 0 _ (T11.setTop (mkF m 64 #[.val (.ref b0), .val (.long x1), .second, .val (.int x3), .val (.int x4), .val (.int x5)] [(.int x5), (.ref b1), (.int v10), (.long v8)]))
        obtain ⟨v12, hv12, hr⟩ := Option.bind_eq_some_iff.mp hr
        refine OwnOut.go (fun t k => ldJ X11 hx hZ e11 A1 hv12 (g := (mkF m 64 #[.val (.ref b0), .val (.long x1), .second, .val (.int x3), .val (.int x4), .val (.int x5)] [(.int x5), (.ref b1), (.int v10), (.long v8)])) rfl rfl (hb hby d7_64) t k) ?_
        show OwnOut p e s below 0 0 _ (T11.setTop (mkF m 65 #[.val (.ref b0), .val (.long x1), .second, .val (.int x3), .val (.int x4), .val (.int x5)] [(.long v12), (.int v10), (.long v8)]))
        refine OwnOut.go (fun t k => XS.aloadN X11.here hx rfl (hb hby d7_65) rfl rfl k) ?_
        show OwnOut p e s below 0 0 _ (T11.setTop (mkF m 66 #[.val (.ref b0), .val (.long x1), .second, .val (.int x3), .val (.int x4), .val (.int x5)] [(.ref b0), (.long v12), (.int v10), (.long v8)]))
        obtain ⟨T13, X13, e13, st13⟩ := getF X11 hx hZ hown (host := "") (Or.inl (hw _ (List.mem_of_getElem? (i := 15) rfl))) Via.refl e11 F0_clients (g := (mkF m 66 #[.val (.ref b0), .val (.long x1), .second, .val (.int x3), .val (.int x4), .val (.int x5)] [(.ref b0), (.long v12), (.int v10), (.long v8)])) rfl rfl (hb hby d7_66)
        refine OwnOut.go (fun t k => st13 _ k) ?_
        show OwnOut p e s below 0 0 _ (T13.setTop (mkF m 69 #[.val (.ref b0), .val (.long x1), .second, .val (.int x3), .val (.int x4), .val (.int x5)] [(.ref b2), (.long v12), (.int v10), (.long v8)]))
        refine OwnOut.go (fun t k => XS.iload X13.here hx rfl (hb hby d7_69) rfl k) ?_
        show OwnOut p e s below 0 0 _ (T13.setTop (mkF m 71 #[.val (.ref b0), .val (.long x1), .second, .val (.int x3), .val (.int x4), .val (.int x5)] [(.int x5), (.ref b2), (.long v12), (.int v10), (.long v8)]))
        obtain ⟨v14, hv14, hr⟩ := Option.bind_eq_some_iff.mp hr
        refine OwnOut.go (fun t k => ldI X13 hx hZ e13 A2 hv14 (g := (mkF m 71 #[.val (.ref b0), .val (.long x1), .second, .val (.int x3), .val (.int x4), .val (.int x5)] [(.int x5), (.ref b2), (.long v12), (.int v10), (.long v8)])) rfl rfl (hb hby d7_71) t k) ?_
        show OwnOut p e s below 0 0 _ (T13.setTop (mkF m 72 #[.val (.ref b0), .val (.long x1), .second, .val (.int x3), .val (.int x4), .val (.int x5)] [(.int v14), (.long v12), (.int v10), (.long v8)]))
        obtain ⟨o15, ho15, hr⟩ := Option.bind_eq_some_iff.mp hr
        obtain ⟨r15, T15, L15, X15', hQ15, st15⟩ := callQ (W := 0) (rm := rx8) X13 hx hZ (y := (⟨"com/example/porter_drive/porterdrive/RequestQueue", "isBefore", "(JIJI)Z"⟩ : MethodName)) hown (hw _ (List.mem_of_getElem? (i := 39) rfl)) (hw _ (List.mem_of_getElem? (i := 40) rfl)) (hw _ (List.mem_of_getElem? (i := 5) rfl)) (hw _ (List.mem_of_getElem? (i := 41) rfl)) (by decide) (rm8 l Z a0 hw [] v8 v10 v12 v14 hA o15 ho15 ) (by decide) (by decide) (by decide) (by decide) e13 (g := (mkF m 72 #[.val (.ref b0), .val (.long x1), .second, .val (.int x3), .val (.int x4), .val (.int x5)] [(.int v14), (.long v12), (.int v10), (.long v8)])) rfl (by rw [hml]; rfl) (argsL := [(.long v8), (.int v10), (.long v12), (.int v14)]) (rest := []) (lenOf pd8 rfl) rfl (by show 2 * 0 + _ ≤ _; exact Nat.le_of_eq rfl) (hb hby d7_72)
        obtain ⟨rfl, e15, rfl⟩ := hQ15
        rw [List.append_nil] at X15'
        have X15 : Stand p l e rx7 s m args below meth c T15 _ 0 0 := X15'
        refine OwnOut.go (fun t k => st15 _ k) ?_
        show OwnOut p e s below 0 0 _ (T15.setTop (mkF m 75 #[.val (.ref b0), .val (.long x1), .second, .val (.int x3), .val (.int x4), .val (.int x5)] [(.int o15)]))
        by_cases hc75 : o15 = (0 : Int32)
        · rw [if_pos hc75] at hr
          refine OwnOut.go (fun t k => XS.ifYes X15.here hx rfl (pc0 := 75) (pc' := 81) rfl (hb hby d7_75) rfl (XT.i0_eq_t hc75) (by decide) (by decide) k) ?_
          show OwnOut p e s below 0 0 _ (T15.setTop (mkF m 81 #[.val (.ref b0), .val (.long x1), .second, .val (.int x3), .val (.int x4), .val (.int x5)] []))
          refine OwnOut.go (fun t k => XS.aloadN X15.here hx rfl (hb hby d7_81) rfl rfl k) ?_
          show OwnOut p e s below 0 0 _ (T15.setTop (mkF m 82 #[.val (.ref b0), .val (.long x1), .second, .val (.int x3), .val (.int x4), .val (.int x5)] [(.ref b0)]))
          obtain ⟨T16, X16, e16, st16⟩ := getF X15 hx hZ hown (host := "") (Or.inl (hw _ (List.mem_of_getElem? (i := 12) rfl))) Via.refl e15 F0_times (g := (mkF m 82 #[.val (.ref b0), .val (.long x1), .second, .val (.int x3), .val (.int x4), .val (.int x5)] [(.ref b0)])) rfl rfl (hb hby d7_82)
          refine OwnOut.go (fun t k => st16 _ k) ?_
          show OwnOut p e s below 0 0 _ (T16.setTop (mkF m 85 #[.val (.ref b0), .val (.long x1), .second, .val (.int x3), .val (.int x4), .val (.int x5)] [(.ref b1)]))
          refine OwnOut.go (fun t k => XS.iload X16.here hx rfl (hb hby d7_85) rfl k) ?_
          show OwnOut p e s below 0 0 _ (T16.setTop (mkF m 87 #[.val (.ref b0), .val (.long x1), .second, .val (.int x3), .val (.int x4), .val (.int x5)] [(.int x5), (.ref b1)]))
          obtain ⟨v17, hv17, hr⟩ := Option.bind_eq_some_iff.mp hr
          refine OwnOut.go (fun t k => ldJ X16 hx hZ e16 A1 hv17 (g := (mkF m 87 #[.val (.ref b0), .val (.long x1), .second, .val (.int x3), .val (.int x4), .val (.int x5)] [(.int x5), (.ref b1)])) rfl rfl (hb hby d7_87) t k) ?_
          show OwnOut p e s below 0 0 _ (T16.setTop (mkF m 88 #[.val (.ref b0), .val (.long x1), .second, .val (.int x3), .val (.int x4), .val (.int x5)] [(.long v17)]))
          refine OwnOut.go (fun t k => XS.aloadN X16.here hx rfl (hb hby d7_88) rfl rfl k) ?_
          show OwnOut p e s below 0 0 _ (T16.setTop (mkF m 89 #[.val (.ref b0), .val (.long x1), .second, .val (.int x3), .val (.int x4), .val (.int x5)] [(.ref b0), (.long v17)]))
          obtain ⟨T18, X18, e18, st18⟩ := getF X16 hx hZ hown (host := "") (Or.inl (hw _ (List.mem_of_getElem? (i := 15) rfl))) Via.refl e16 F0_clients (g := (mkF m 89 #[.val (.ref b0), .val (.long x1), .second, .val (.int x3), .val (.int x4), .val (.int x5)] [(.ref b0), (.long v17)])) rfl rfl (hb hby d7_89)
          refine OwnOut.go (fun t k => st18 _ k) ?_
          show OwnOut p e s below 0 0 _ (T18.setTop (mkF m 92 #[.val (.ref b0), .val (.long x1), .second, .val (.int x3), .val (.int x4), .val (.int x5)] [(.ref b2), (.long v17)]))
          refine OwnOut.go (fun t k => XS.iload X18.here hx rfl (hb hby d7_92) rfl k) ?_
          show OwnOut p e s below 0 0 _ (T18.setTop (mkF m 94 #[.val (.ref b0), .val (.long x1), .second, .val (.int x3), .val (.int x4), .val (.int x5)] [(.int x5), (.ref b2), (.long v17)]))
          obtain ⟨v19, hv19, hr⟩ := Option.bind_eq_some_iff.mp hr
          refine OwnOut.go (fun t k => ldI X18 hx hZ e18 A2 hv19 (g := (mkF m 94 #[.val (.ref b0), .val (.long x1), .second, .val (.int x3), .val (.int x4), .val (.int x5)] [(.int x5), (.ref b2), (.long v17)])) rfl rfl (hb hby d7_94) t k) ?_
          show OwnOut p e s below 0 0 _ (T18.setTop (mkF m 95 #[.val (.ref b0), .val (.long x1), .second, .val (.int x3), .val (.int x4), .val (.int x5)] [(.int v19), (.long v17)]))
          refine OwnOut.go (fun t k => XS.lloadN X18.here hx rfl (hb hby d7_95) rfl k) ?_
          show OwnOut p e s below 0 0 _ (T18.setTop (mkF m 96 #[.val (.ref b0), .val (.long x1), .second, .val (.int x3), .val (.int x4), .val (.int x5)] [(.long x1), (.int v19), (.long v17)]))
          refine OwnOut.go (fun t k => XS.iloadN X18.here hx rfl (hb hby d7_96) rfl k) ?_
          show OwnOut p e s below 0 0 _ (T18.setTop (mkF m 97 #[.val (.ref b0), .val (.long x1), .second, .val (.int x3), .val (.int x4), .val (.int x5)] [(.int x3), (.long x1), (.int v19), (.long v17)]))
          obtain ⟨o20, ho20, hr⟩ := Option.bind_eq_some_iff.mp hr
          obtain ⟨r20, T20, L20, X20', hQ20, st20⟩ := callQ (W := 0) (rm := rx8) X18 hx hZ (y := (⟨"com/example/porter_drive/porterdrive/RequestQueue", "isBefore", "(JIJI)Z"⟩ : MethodName)) hown (hw _ (List.mem_of_getElem? (i := 39) rfl)) (hw _ (List.mem_of_getElem? (i := 40) rfl)) (hw _ (List.mem_of_getElem? (i := 5) rfl)) (hw _ (List.mem_of_getElem? (i := 41) rfl)) (by decide) (rm8 l Z a0 hw [] v17 v19 x1 x3 hA o20 ho20 ) (by decide) (by decide) (by decide) (by decide) e18 (g := (mkF m 97 #[.val (.ref b0), .val (.long x1), .second, .val (.int x3), .val (.int x4), .val (.int x5)] [(.int x3), (.long x1), (.int v19), (.long v17)])) rfl (by rw [hml]; rfl) (argsL := [(.long v17), (.int v19), (.long x1), (.int x3)]) (rest := []) (lenOf pd8 rfl) rfl (by show 2 * 0 + _ ≤ _; exact Nat.le_of_eq rfl) (hb hby d7_97)
          obtain ⟨rfl, e20, rfl⟩ := hQ20
          rw [List.append_nil] at X20'
          have X20 : Stand p l e rx7 s m args below meth c T20 _ 0 0 := X20'
          refine OwnOut.go (fun t k => st20 _ k) ?_
          show OwnOut p e s below 0 0 _ (T20.setTop (mkF m 100 #[.val (.ref b0), .val (.long x1), .second, .val (.int x3), .val (.int x4), .val (.int x5)] [(.int o20)]))
          by_cases hc100 : o20 = (0 : Int32)
          · rw [if_pos hc100] at hr
            refine OwnOut.go (fun t k => XS.ifNo X20.here hx rfl (hb hby d7_100) rfl (XT.i0_ne_f hc100) k) ?_
            show OwnOut p e s below 0 0 _ (T20.setTop (mkF m 103 #[.val (.ref b0), .val (.long x1), .second, .val (.int x3), .val (.int x4), .val (.int x5)] []))
            refine OwnOut.go (fun t k => XS.goto X20.here hx rfl (pc0 := 103) (pc' := 149) rfl (hb hby d7_103) (by decide) (by decide) k) ?_
            show OwnOut p e s below 0 0 _ (T20.setTop (mkF m 149 #[.val (.ref b0), .val (.long x1), .second, .val (.int x3), .val (.int x4), .val (.int x5)] []))
            exact w7_149 ⟨hx, hZ, hw, hby, hml, hown, hret, hlk, hnm⟩  _ _ _ x1 x3 x4 x5 b0 u0_size b1 l1 b2 l2 _ hr X20 e20 N0 O0 K0 E0 F0_times F0_clients F0_size A1 A2 g0 g1 g2 ne0_1 ne0_2 ne1_2
          · rw [if_neg hc100] at hr
            refine OwnOut.go (fun t k => XS.ifYes X20.here hx rfl (pc0 := 100) (pc' := 106) rfl (hb hby d7_100) rfl (XT.i0_ne_t hc100) (by decide) (by decide) k) ?_
            show OwnOut p e s below 0 0 _ (T20.setTop (mkF m 106 #[.val (.ref b0), .val (.long x1), .second, .val (.int x3), .val (.int x4), .val (.int x5)] []))
            refine OwnOut.go (fun t k => XS.aloadN X20.here hx rfl (hb hby d7_106) rfl rfl k) ?_
            show OwnOut p e s below 0 0 _ (T20.setTop (mkF m 107 #[.val (.ref b0), .val (.long x1), .second, .val (.int x3), .val (.int x4), .val (.int x5)] [(.ref b0)]))
            obtain ⟨T25, X25, e25, st25⟩ := getF X20 hx hZ hown (host := "") (Or.inl (hw _ (List.mem_of_getElem? (i := 12) rfl))) Via.refl e20 F0_times (g := (mkF m 107 #[.val (.ref b0), .val (.long x1), .second, .val (.int x3), .val (.int x4), .val (.int x5)] [(.ref b0)])) rfl rfl (hb hby d7_107)
            refine OwnOut.go (fun t k => st25 _ k) ?_
            show OwnOut p e s below 0 0 _ (T25.setTop (mkF m 110 #[.val (.ref b0), .val (.long x1), .second, .val (.int x3), .val (.int x4), .val (.int x5)] [(.ref b1)]))
            refine OwnOut.go (fun t k => XS.iload X25.here hx rfl (hb hby d7_110) rfl k) ?_
            show OwnOut p e s below 0 0 _ (T25.setTop (mkF m 112 #[.val (.ref b0), .val (.long x1), .second, .val (.int x3), .val (.int x4), .val (.int x5)] [(.int x4), (.ref b1)]))
            refine OwnOut.go (fun t k => XS.aloadN X25.here hx rfl (hb hby d7_112) rfl rfl k) ?_
            show OwnOut p e s below 0 0 _ (T25.setTop (mkF m 113 #[.val (.ref b0), .val (.long x1), .second, .val (.int x3), .val (.int x4), .val (.int x5)] [(.ref b0), (.int x4), (.ref b1)]))
            obtain ⟨T26, X26, e26, st26⟩ := getF X25 hx hZ hown (host := "") (Or.inl (hw _ (List.mem_of_getElem? (i := 12) rfl))) Via.refl e25 F0_times (g := (mkF m 113 #[.val (.ref b0), .val (.long x1), .second, .val (.int x3), .val (.int x4), .val (.int x5)] [(.ref b0), (.int x4), (.ref b1)])) rfl rfl (hb hby d7_113)
            refine OwnOut.go (fun t k => st26 _ k) ?_
            show OwnOut p e s below 0 0 _ (T26.setTop (mkF m 116 #[.val (.ref b0), .val (.long x1), .second, .val (.int x3), .val (.int x4), .val (.int x5)] [(.ref b1), (.int x4), (.ref b1)]))
            refine OwnOut.go (fun t k => XS.iload X26.here hx rfl (hb hby d7_116) rfl k) ?_
            show OwnOut p e s below 0 0 _ (T26.setTop (mkF m 118 #[.val (.ref b0), .val (.long x1), .second, .val (.int x3), .val (.int x4), .val (.int x5)] [(.int x5), (.ref b1), (.int x4), (.ref b1)]))
            obtain ⟨v27, hv27, hr⟩ := Option.bind_eq_some_iff.mp hr
            refine OwnOut.go (fun t k => ldJ X26 hx hZ e26 A1 hv27 (g := (mkF m 118 #[.val (.ref b0), .val (.long x1), .second, .val (.int x3), .val (.int x4), .val (.int x5)] [(.int x5), (.ref b1), (.int x4), (.ref b1)])) rfl rfl (hb hby d7_118) t k) ?_
            show OwnOut p e s below 0 0 _ (T26.setTop (mkF m 119 #[.val (.ref b0), .val (.long x1), .second, .val (.int x3), .val (.int x4), .val (.int x5)] [(.long v27), (.int x4), (.ref b1)]))
            obtain ⟨l_28, hl28, hr⟩ := Option.bind_eq_some_iff.mp hr
            obtain ⟨T28, h28, X28, e28, W28, A_28, st28⟩ := saJ X26 hx hZ e26 A1 hl28 (g := (mkF m 119 #[.val (.ref b0), .val (.long x1), .second, .val (.int x3), .val (.int x4), .val (.int x5)] [(.long v27), (.int x4), (.ref b1)])) rfl rfl (hb hby d7_119)
            refine OwnOut.go (fun t k => st28 _ k) ?_
            have E0_28 := E0.wr W28
            have F0_times_28 := F0_times.other W28 (Or.inl ne0_1)
            have F0_clients_28 := F0_clients.other W28 (Or.inl ne0_1)
            have F0_size_28 := F0_size.other W28 (Or.inl ne0_1)
            have A2_28 := A2.other W28 (Ne.symm ne1_2)
            have N_28 := Fr.snoc X28 N0 g1
            have O_28 := O0.wr W28 g1
            have K_28 := K0.wr W28 (Or.inl (List.mem_of_getElem? (i := 0) rfl))
            show OwnOut p e s below 0 0 _ (T28.setTop (mkF m 120 #[.val (.ref b0), .val (.long x1), .second, .val (.int x3), .val (.int x4), .val (.int x5)] []))
            refine OwnOut.go (fun t k => XS.aloadN X28.here hx rfl (hb hby d7_120) rfl rfl k) ?_
            show OwnOut p e s below 0 0 _ (T28.setTop (mkF m 121 #[.val (.ref b0), .val (.long x1), .second, .val (.int x3), .val (.int x4), .val (.int x5)] [(.ref b0)]))
            obtain ⟨T29, X29, e29, st29⟩ := getF X28 hx hZ hown (host := "") (Or.inl (hw _ (List.mem_of_getElem? (i := 15) rfl))) Via.refl e28 F0_clients_28 (g := (mkF m 121 #[.val (.ref b0), .val (.long x1), .second, .val (.int x3), .val (.int x4), .val (.int x5)] [(.ref b0)])) rfl rfl (hb hby d7_121)
            refine OwnOut.go (fun t k => st29 _ k) ?_
            show OwnOut p e s below 0 0 _ (T29.setTop (mkF m 124 #[.val (.ref b0), .val (.long x1), .second, .val (.int x3), .val (.int x4), .val (.int x5)] [(.ref b2)]))
            refine OwnOut.go (fun t k => XS.iload X29.here hx rfl (hb hby d7_124) rfl k) ?_
            show OwnOut p e s below 0 0 _ (T29.setTop (mkF m 126 #[.val (.ref b0), .val (.long x1), .second, .val (.int x3), .val (.int x4), .val (.int x5)] [(.int x4), (.ref b2)]))
            refine OwnOut.go (fun t k => XS.aloadN X29.here hx rfl (hb hby d7_126) rfl rfl k) ?_
            show OwnOut p e s below 0 0 _ (T29.setTop (mkF m 127 #[.val (.ref b0), .val (.long x1), .second, .val (.int x3), .val (.int x4), .val (.int x5)] [(.ref b0), (.int x4), (.ref b2)]))
            obtain ⟨T30, X30, e30, st30⟩ := getF X29 hx hZ hown (host := "") (Or.inl (hw _ (List.mem_of_getElem? (i := 15) rfl))) Via.refl e29 F0_clients_28 (g := (mkF m 127 #[.val (.ref b0), .val (.long x1), .second, .val (.int x3), .val (.int x4), .val (.int x5)] [(.ref b0), (.int x4), (.ref b2)])) rfl rfl (hb hby d7_127)
            refine OwnOut.go (fun t k => st30 _ k) ?_
            show OwnOut p e s below 0 0 _ (T30.setTop (mkF m 130 #[.val (.ref b0), .val (.long x1), .second, .val (.int x3), .val (.int x4), .val (.int x5)] [(.ref b2), (.int x4), (.ref b2)]))
            refine OwnOut.go (fun t k => XS.iload X30.here hx rfl (hb hby d7_130) rfl k) ?_
            show OwnOut p e s below 0 0 _ (T30.setTop (mkF m 132 #[.val (.ref b0), .val (.long x1), .second, .val (.int x3), .val (.int x4), .val (.int x5)] [(.int x5), (.ref b2), (.int x4), (.ref b2)]))
            obtain ⟨v31, hv31, hr⟩ := Option.bind_eq_some_iff.mp hr
            refine OwnOut.go (fun t k => ldI X30 hx hZ e30 A2_28 hv31 (g := (mkF m 132 #[.val (.ref b0), .val (.long x1), .second, .val (.int x3), .val (.int x4), .val (.int x5)] [(.int x5), (.ref b2), (.int x4), (.ref b2)])) rfl rfl (hb hby d7_132) t k) ?_
            show OwnOut p e s below 0 0 _ (T30.setTop (mkF m 133 #[.val (.ref b0), .val (.long x1), .second, .val (.int x3), .val (.int x4), .val (.int x5)] [(.int v31), (.int x4), (.ref b2)]))
            obtain ⟨l_32, hl32, hr⟩ := Option.bind_eq_some_iff.mp hr
            obtain ⟨T32, h32, X32, e32, W32, A_32, st32⟩ := saI X30 hx hZ e30 A2_28 hl32 (g := (mkF m 133 #[.val (.ref b0), .val (.long x1), .second, .val (.int x3), .val (.int x4), .val (.int x5)] [(.int v31), (.int x4), (.ref b2)])) rfl rfl (hb hby d7_133)
            refine OwnOut.go (fun t k => st32 _ k) ?_
            have E0_32 := E0_28.wr W32
            have F0_times_32 := F0_times_28.other W32 (Or.inl ne0_2)
            have F0_clients_32 := F0_clients_28.other W32 (Or.inl ne0_2)
            have F0_size_32 := F0_size_28.other W32 (Or.inl ne0_2)
            have A1_32 := A_28.other W32 ne1_2
            have N_32 := Fr.snoc X32 N_28 g2
            have O_32 := O_28.wr W32 g2
            have K_32 := K_28.wr W32 (Or.inl (List.mem_of_getElem? (i := 1) rfl))
            show OwnOut p e s below 0 0 _ (T32.setTop (mkF m 134 #[.val (.ref b0), .val (.long x1), .second, .val (.int x3), .val (.int x4), .val (.int x5)] []))
            refine OwnOut.go (fun t k => XS.iload X32.here hx rfl (hb hby d7_134) rfl k) ?_
            show OwnOut p e s below 0 0 _ (T32.setTop (mkF m 136 #[.val (.ref b0), .val (.long x1), .second, .val (.int x3), .val (.int x4), .val (.int x5)] [(.int x5)]))
            refine OwnOut.go (fun t k => XS.istore X32.here hx rfl (hb hby d7_136) rfl (l' := #[.val (.ref b0), .val (.long x1), .second, .val (.int x3), .val (.int x5), .val (.int x5)]) rfl k) ?_
            show OwnOut p e s below 0 0 _ (T32.setTop (mkF m 138 #[.val (.ref b0), .val (.long x1), .second, .val (.int x3), .val (.int x5), .val (.int x5)] []))
            refine OwnOut.go (fun t k => XT.iconstV X32.here hx rfl (2 : Int32) (hb hby d7_138) rfl k) ?_
            show OwnOut p e s below 0 0 _ (T32.setTop (mkF m 139 #[.val (.ref b0), .val (.long x1), .second, .val (.int x3), .val (.int x5), .val (.int x5)] [(.int (2 : Int32))]))
            refine OwnOut.go (fun t k => XS.iload X32.here hx rfl (hb hby d7_139) rfl k) ?_
            show OwnOut p e s below 0 0 _ (T32.setTop (mkF m 141 #[.val (.ref b0), .val (.long x1), .second, .val (.int x3), .val (.int x5), .val (.int x5)] [(.int x5), (.int (2 : Int32))]))
            refine OwnOut.go (fun t k => XS.imul X32.here hx rfl (hb hby d7_141) rfl k) ?_
            show OwnOut p e s below 0 0 _ (T32.setTop (mkF m 142 #[.val (.ref b0), .val (.long x1), .second, .val (.int x3), .val (.int x5), .val (.int x5)] [(.int ((2 : Int32) * x5))]))
            refine OwnOut.go (fun t k => XT.iconstV X32.here hx rfl (1 : Int32) (hb hby d7_142) rfl k) ?_
            show OwnOut p e s below 0 0 _ (T32.setTop (mkF m 143 #[.val (.ref b0), .val (.long x1), .second, .val (.int x3), .val (.int x5), .val (.int x5)] [(.int (1 : Int32)), (.int ((2 : Int32) * x5))]))
            refine OwnOut.go (fun t k => XS.iadd X32.here hx rfl (hb hby d7_143) rfl k) ?_
            show OwnOut p e s below 0 0 _ (T32.setTop (mkF m 144 #[.val (.ref b0), .val (.long x1), .second, .val (.int x3), .val (.int x5), .val (.int x5)] [(.int (((2 : Int32) * x5) + (1 : Int32)))]))
            refine OwnOut.go (fun t k => XS.istore X32.here hx rfl (hb hby d7_144) rfl (l' := #[.val (.ref b0), .val (.long x1), .second, .val (.int x3), .val (.int x5), .val (.int (((2 : Int32) * x5) + (1 : Int32)))]) rfl k) ?_
            show OwnOut p e s below 0 0 _ (T32.setTop (mkF m 146 #[.val (.ref b0), .val (.long x1), .second, .val (.int x3), .val (.int x5), .val (.int (((2 : Int32) * x5) + (1 : Int32)))] []))
            refine OwnOut.go (fun t k => XS.goto X32.here hx rfl (pc0 := 146) (pc' := 20) rfl (hb hby d7_146) (by decide) (by decide) k) ?_
            show OwnOut p e s below 0 0 _ (T32.setTop (mkF m 20 #[.val (.ref b0), .val (.long x1), .second, .val (.int x3), .val (.int x5), .val (.int (((2 : Int32) * x5) + (1 : Int32)))] []))
            exact ih _ _ _ x1 x3 x5 (((2 : Int32) * x5) + (1 : Int32)) b0 u0_size b1 l_28 b2 l_32 _ hr X32 e32 N_32 O_32 K_32 E0_32 F0_times_32 F0_clients_32 F0_size_32 A1_32 A_32 g0 g1 g2 ne0_1 ne0_2 ne1_2
        · rw [if_neg hc75] at hr
          refine OwnOut.go (fun t k => XS.ifNo X15.here hx rfl (hb hby d7_75) rfl (XT.i0_eq_f hc75) k) ?_
          show OwnOut p e s below 0 0 _ (T15.setTop (mkF m 78 #[.val (.ref b0), .val (.long x1), .second, .val (.int x3), .val (.int x4), .val (.int x5)] []))
          refine OwnOut.go (fun t k => XT.iincV X15.here hx rfl (1 : Int32) (hb hby d7_78) rfl rfl (l' := #[.val (.ref b0), .val (.long x1), .second, .val (.int x3), .val (.int x4), .val (.int (x5 + (1 : Int32)))]) rfl k) ?_
          show OwnOut p e s below 0 0 _ (T15.setTop (mkF m 81 #[.val (.ref b0), .val (.long x1), .second, .val (.int x3), .val (.int x4), .val (.int (x5 + (1 : Int32)))] []))
          refine OwnOut.go (fun t k => XS.aloadN X15.here hx rfl (hb hby d7_81) rfl rfl k) ?_
          show OwnOut p e s below 0 0 _ (T15.setTop (mkF m 82 #[.val (.ref b0), .val (.long x1), .second, .val (.int x3), .val (.int x4), .val (.int (x5 + (1 : Int32)))] [(.ref b0)]))
          obtain ⟨T33, X33, e33, st33⟩ := getF X15 hx hZ hown (host := "") (Or.inl (hw _ (List.mem_of_getElem? (i := 12) rfl))) Via.refl e15 F0_times (g := (mkF m 82 #[.val (.ref b0), .val (.long x1), .second, .val (.int x3), .val (.int x4), .val (.int (x5 + (1 : Int32)))] [(.ref b0)])) rfl rfl (hb hby d7_82)
          refine OwnOut.go (fun t k => st33 _ k) ?_
          show OwnOut p e s below 0 0 _ (T33.setTop (mkF m 85 #[.val (.ref b0), .val (.long x1), .second, .val (.int x3), .val (.int x4), .val (.int (x5 + (1 : Int32)))] [(.ref b1)]))
          refine OwnOut.go (fun t k => XS.iload X33.here hx rfl (hb hby d7_85) rfl k) ?_
          show OwnOut p e s below 0 0 _ (T33.setTop (mkF m 87 #[.val (.ref b0), .val (.long x1), .second, .val (.int x3), .val (.int x4), .val (.int (x5 + (1 : Int32)))] [(.int (x5 + (1 : Int32))), (.ref b1)]))
          obtain ⟨v34, hv34, hr⟩ := Option.bind_eq_some_iff.mp hr
          refine OwnOut.go (fun t k => ldJ X33 hx hZ e33 A1 hv34 (g := (mkF m 87 #[.val (.ref b0), .val (.long x1), .second, .val (.int x3), .val (.int x4), .val (.int (x5 + (1 : Int32)))] [(.int (x5 + (1 : Int32))), (.ref b1)])) rfl rfl (hb hby d7_87) t k) ?_
          show OwnOut p e s below 0 0 _ (T33.setTop (mkF m 88 #[.val (.ref b0), .val (.long x1), .second, .val (.int x3), .val (.int x4), .val (.int (x5 + (1 : Int32)))] [(.long v34)]))
          refine OwnOut.go (fun t k => XS.aloadN X33.here hx rfl (hb hby d7_88) rfl rfl k) ?_
          show OwnOut p e s below 0 0 _ (T33.setTop (mkF m 89 #[.val (.ref b0), .val (.long x1), .second, .val (.int x3), .val (.int x4), .val (.int (x5 + (1 : Int32)))] [(.ref b0), (.long v34)]))
          obtain ⟨T35, X35, e35, st35⟩ := getF X33 hx hZ hown (host := "") (Or.inl (hw _ (List.mem_of_getElem? (i := 15) rfl))) Via.refl e33 F0_clients (g := (mkF m 89 #[.val (.ref b0), .val (.long x1), .second, .val (.int x3), .val (.int x4), .val (.int (x5 + (1 : Int32)))] [(.ref b0), (.long v34)])) rfl rfl (hb hby d7_89)
          refine OwnOut.go (fun t k => st35 _ k) ?_
          show OwnOut p e s below 0 0 _ (T35.setTop (mkF m 92 #[.val (.ref b0), .val (.long x1), .second, .val (.int x3), .val (.int x4), .val (.int (x5 + (1 : Int32)))] [(.ref b2), (.long v34)]))
          refine OwnOut.go (fun t k => XS.iload X35.here hx rfl (hb hby d7_92) rfl k) ?_
          show OwnOut p e s below 0 0 _ (T35.setTop (mkF m 94 #[.val (.ref b0), .val (.long x1), .second, .val (.int x3), .val (.int x4), .val (.int (x5 + (1 : Int32)))] [(.int (x5 + (1 : Int32))), (.ref b2), (.long v34)]))
          obtain ⟨v36, hv36, hr⟩ := Option.bind_eq_some_iff.mp hr
          refine OwnOut.go (fun t k => ldI X35 hx hZ e35 A2 hv36 (g := (mkF m 94 #[.val (.ref b0), .val (.long x1), .second, .val (.int x3), .val (.int x4), .val (.int (x5 + (1 : Int32)))] [(.int (x5 + (1 : Int32))), (.ref b2), (.long v34)])) rfl rfl (hb hby d7_94) t k) ?_
          show OwnOut p e s below 0 0 _ (T35.setTop (mkF m 95 #[.val (.ref b0), .val (.long x1), .second, .val (.int x3), .val (.int x4), .val (.int (x5 + (1 : Int32)))] [(.int v36), (.long v34)]))
          refine OwnOut.go (fun t k => XS.lloadN X35.here hx rfl (hb hby d7_95) rfl k) ?_
          show OwnOut p e s below 0 0 _ (T35.setTop (mkF m 96 #[.val (.ref b0), .val (.long x1), .second, .val (.int x3), .val (.int x4), .val (.int (x5 + (1 : Int32)))] [(.long x1), (.int v36), (.long v34)]))
          refine OwnOut.go (fun t k => XS.iloadN X35.here hx rfl (hb hby d7_96) rfl k) ?_
          show OwnOut p e s below 0 0 _ (T35.setTop (mkF m 97 #[.val (.ref b0), .val (.long x1), .second, .val (.int x3), .val (.int x4), .val (.int (x5 + (1 : Int32)))] [(.int x3), (.long x1), (.int v36), (.long v34)]))
          obtain ⟨o37, ho37, hr⟩ := Option.bind_eq_some_iff.mp hr
          obtain ⟨r37, T37, L37, X37', hQ37, st37⟩ := callQ (W := 0) (rm := rx8) X35 hx hZ (y := (⟨"com/example/porter_drive/porterdrive/RequestQueue", "isBefore", "(JIJI)Z"⟩ : MethodName)) hown (hw _ (List.mem_of_getElem? (i := 39) rfl)) (hw _ (List.mem_of_getElem? (i := 40) rfl)) (hw _ (List.mem_of_getElem? (i := 5) rfl)) (hw _ (List.mem_of_getElem? (i := 41) rfl)) (by decide) (rm8 l Z a0 hw [] v34 v36 x1 x3 hA o37 ho37 ) (by decide) (by decide) (by decide) (by decide) e35 (g := (mkF m 97 #[.val (.ref b0), .val (.long x1), .second, .val (.int x3), .val (.int x4), .val (.int (x5 + (1 : Int32)))] [(.int x3), (.long x1), (.int v36), (.long v34)])) rfl (by rw [hml]; rfl) (argsL := [(.long v34), (.int v36), (.long x1), (.int x3)]) (rest := []) (lenOf pd8 rfl) rfl (by show 2 * 0 + _ ≤ _; exact Nat.le_of_eq rfl) (hb hby d7_97)
          obtain ⟨rfl, e37, rfl⟩ := hQ37
          rw [List.append_nil] at X37'
          have X37 : Stand p l e rx7 s m args below meth c T37 _ 0 0 := X37'
          refine OwnOut.go (fun t k => st37 _ k) ?_
          show OwnOut p e s below 0 0 _ (T37.setTop (mkF m 100 #[.val (.ref b0), .val (.long x1), .second, .val (.int x3), .val (.int x4), .val (.int (x5 + (1 : Int32)))] [(.int o37)]))
          by_cases hc100 : o37 = (0 : Int32)
          · rw [if_pos hc100] at hr
            refine OwnOut.go (fun t k => XS.ifNo X37.here hx rfl (hb hby d7_100) rfl (XT.i0_ne_f hc100) k) ?_
            show OwnOut p e s below 0 0 _ (T37.setTop (mkF m 103 #[.val (.ref b0), .val (.long x1), .second, .val (.int x3), .val (.int x4), .val (.int (x5 + (1 : Int32)))] []))
            refine OwnOut.go (fun t k => XS.goto X37.here hx rfl (pc0 := 103) (pc' := 149) rfl (hb hby d7_103) (by decide) (by decide) k) ?_
            show OwnOut p e s below 0 0 _ (T37.setTop (mkF m 149 #[.val (.ref b0), .val (.long x1), .second, .val (.int x3), .val (.int x4), .val (.int (x5 + (1 : Int32)))] []))
            exact w7_149 ⟨hx, hZ, hw, hby, hml, hown, hret, hlk, hnm⟩  _ _ _ x1 x3 x4 (x5 + (1 : Int32)) b0 u0_size b1 l1 b2 l2 _ hr X37 e37 N0 O0 K0 E0 F0_times F0_clients F0_size A1 A2 g0 g1 g2 ne0_1 ne0_2 ne1_2
          · rw [if_neg hc100] at hr
            refine OwnOut.go (fun t k => XS.ifYes X37.here hx rfl (pc0 := 100) (pc' := 106) rfl (hb hby d7_100) rfl (XT.i0_ne_t hc100) (by decide) (by decide) k) ?_
            show OwnOut p e s below 0 0 _ (T37.setTop (mkF m 106 #[.val (.ref b0), .val (.long x1), .second, .val (.int x3), .val (.int x4), .val (.int (x5 + (1 : Int32)))] []))
            refine OwnOut.go (fun t k => XS.aloadN X37.here hx rfl (hb hby d7_106) rfl rfl k) ?_
            show OwnOut p e s below 0 0 _ (T37.setTop (mkF m 107 #[.val (.ref b0), .val (.long x1), .second, .val (.int x3), .val (.int x4), .val (.int (x5 + (1 : Int32)))] [(.ref b0)]))
            obtain ⟨T38, X38, e38, st38⟩ := getF X37 hx hZ hown (host := "") (Or.inl (hw _ (List.mem_of_getElem? (i := 12) rfl))) Via.refl e37 F0_times (g := (mkF m 107 #[.val (.ref b0), .val (.long x1), .second, .val (.int x3), .val (.int x4), .val (.int (x5 + (1 : Int32)))] [(.ref b0)])) rfl rfl (hb hby d7_107)
            refine OwnOut.go (fun t k => st38 _ k) ?_
            show OwnOut p e s below 0 0 _ (T38.setTop (mkF m 110 #[.val (.ref b0), .val (.long x1), .second, .val (.int x3), .val (.int x4), .val (.int (x5 + (1 : Int32)))] [(.ref b1)]))
            refine OwnOut.go (fun t k => XS.iload X38.here hx rfl (hb hby d7_110) rfl k) ?_
            show OwnOut p e s below 0 0 _ (T38.setTop (mkF m 112 #[.val (.ref b0), .val (.long x1), .second, .val (.int x3), .val (.int x4), .val (.int (x5 + (1 : Int32)))] [(.int x4), (.ref b1)]))
            refine OwnOut.go (fun t k => XS.aloadN X38.here hx rfl (hb hby d7_112) rfl rfl k) ?_
            show OwnOut p e s below 0 0 _ (T38.setTop (mkF m 113 #[.val (.ref b0), .val (.long x1), .second, .val (.int x3), .val (.int x4), .val (.int (x5 + (1 : Int32)))] [(.ref b0), (.int x4), (.ref b1)]))
            obtain ⟨T39, X39, e39, st39⟩ := getF X38 hx hZ hown (host := "") (Or.inl (hw _ (List.mem_of_getElem? (i := 12) rfl))) Via.refl e38 F0_times (g := (mkF m 113 #[.val (.ref b0), .val (.long x1), .second, .val (.int x3), .val (.int x4), .val (.int (x5 + (1 : Int32)))] [(.ref b0), (.int x4), (.ref b1)])) rfl rfl (hb hby d7_113)
            refine OwnOut.go (fun t k => st39 _ k) ?_
            show OwnOut p e s below 0 0 _ (T39.setTop (mkF m 116 #[.val (.ref b0), .val (.long x1), .second, .val (.int x3), .val (.int x4), .val (.int (x5 + (1 : Int32)))] [(.ref b1), (.int x4), (.ref b1)]))
            refine OwnOut.go (fun t k => XS.iload X39.here hx rfl (hb hby d7_116) rfl k) ?_
            show OwnOut p e s below 0 0 _ (T39.setTop (mkF m 118 #[.val (.ref b0), .val (.long x1), .second, .val (.int x3), .val (.int x4), .val (.int (x5 + (1 : Int32)))] [(.int (x5 + (1 : Int32))), (.ref b1), (.int x4), (.ref b1)]))
            obtain ⟨v40, hv40, hr⟩ := Option.bind_eq_some_iff.mp hr
            refine OwnOut.go (fun t k => ldJ X39 hx hZ e39 A1 hv40 (g := (mkF m 118 #[.val (.ref b0), .val (.long x1), .second, .val (.int x3), .val (.int x4), .val (.int (x5 + (1 : Int32)))] [(.int (x5 + (1 : Int32))), (.ref b1), (.int x4), (.ref b1)])) rfl rfl (hb hby d7_118) t k) ?_
            show OwnOut p e s below 0 0 _ (T39.setTop (mkF m 119 #[.val (.ref b0), .val (.long x1), .second, .val (.int x3), .val (.int x4), .val (.int (x5 + (1 : Int32)))] [(.long v40), (.int x4), (.ref b1)]))
            obtain ⟨l_41, hl41, hr⟩ := Option.bind_eq_some_iff.mp hr
            obtain ⟨T41, h41, X41, e41, W41, A_41, st41⟩ := saJ X39 hx hZ e39 A1 hl41 (g := (mkF m 119 #[.val (.ref b0), .val (.long x1), .second, .val (.int x3), .val (.int x4), .val (.int (x5 + (1 : Int32)))] [(.long v40), (.int x4), (.ref b1)])) rfl rfl (hb hby d7_119)
            refine OwnOut.go (fun t k => st41 _ k) ?_
            have E0_41 := E0.wr W41
            have F0_times_41 := F0_times.other W41 (Or.inl ne0_1)
            have F0_clients_41 := F0_clients.other W41 (Or.inl ne0_1)
            have F0_size_41 := F0_size.other W41 (Or.inl ne0_1)
            have A2_41 := A2.other W41 (Ne.symm ne1_2)
            have N_41 := Fr.snoc X41 N0 g1
            have O_41 := O0.wr W41 g1
            have K_41 := K0.wr W41 (Or.inl (List.mem_of_getElem? (i := 0) rfl))
            show OwnOut p e s below 0 0 _ (T41.setTop (mkF m 120 #[.val (.ref b0), .val (.long x1), .second, .val (.int x3), .val (.int x4), .val (.int (x5 + (1 : Int32)))] []))
            refine OwnOut.go (fun t k => XS.aloadN X41.here hx rfl (hb hby d7_120) rfl rfl k) ?_
            show OwnOut p e s below 0 0 _ (T41.setTop (mkF m 121 #[.val (.ref b0), .val (.long x1), .second, .val (.int x3), .val (.int x4), .val (.int (x5 + (1 : Int32)))] [(.ref b0)]))
            obtain ⟨T42, X42, e42, st42⟩ := getF X41 hx hZ hown (host := "") (Or.inl (hw _ (List.mem_of_getElem? (i := 15) rfl))) Via.refl e41 F0_clients_41 (g := (mkF m 121 #[.val (.ref b0), .val (.long x1), .second, .val (.int x3), .val (.int x4), .val (.int (x5 + (1 : Int32)))] [(.ref b0)])) rfl rfl (hb hby d7_121)
            refine OwnOut.go (fun t k => st42 _ k) ?_
            show OwnOut p e s below 0 0 _ (T42.setTop (mkF m 124 #[.val (.ref b0), .val (.long x1), .second, .val (.int x3), .val (.int x4), .val (.int (x5 + (1 : Int32)))] [(.ref b2)]))
            refine OwnOut.go (fun t k => XS.iload X42.here hx rfl (hb hby d7_124) rfl k) ?_
            show OwnOut p e s below 0 0 _ (T42.setTop (mkF m 126 #[.val (.ref b0), .val (.long x1), .second, .val (.int x3), .val (.int x4), .val (.int (x5 + (1 : Int32)))] [(.int x4), (.ref b2)]))
            refine OwnOut.go (fun t k => XS.aloadN X42.here hx rfl (hb hby d7_126) rfl rfl k) ?_
            show OwnOut p e s below 0 0 _ (T42.setTop (mkF m 127 #[.val (.ref b0), .val (.long x1), .second, .val (.int x3), .val (.int x4), .val (.int (x5 + (1 : Int32)))] [(.ref b0), (.int x4), (.ref b2)]))
            obtain ⟨T43, X43, e43, st43⟩ := getF X42 hx hZ hown (host := "") (Or.inl (hw _ (List.mem_of_getElem? (i := 15) rfl))) Via.refl e42 F0_clients_41 (g := (mkF m 127 #[.val (.ref b0), .val (.long x1), .second, .val (.int x3), .val (.int x4), .val (.int (x5 + (1 : Int32)))] [(.ref b0), (.int x4), (.ref b2)])) rfl rfl (hb hby d7_127)
            refine OwnOut.go (fun t k => st43 _ k) ?_
            show OwnOut p e s below 0 0 _ (T43.setTop (mkF m 130 #[.val (.ref b0), .val (.long x1), .second, .val (.int x3), .val (.int x4), .val (.int (x5 + (1 : Int32)))] [(.ref b2), (.int x4), (.ref b2)]))
            refine OwnOut.go (fun t k => XS.iload X43.here hx rfl (hb hby d7_130) rfl k) ?_
            show OwnOut p e s below 0 0 _ (T43.setTop (mkF m 132 #[.val (.ref b0), .val (.long x1), .second, .val (.int x3), .val (.int x4), .val (.int (x5 + (1 : Int32)))] [(.int (x5 + (1 : Int32))), (.ref b2), (.int x4), (.ref b2)]))
            obtain ⟨v44, hv44, hr⟩ := Option.bind_eq_some_iff.mp hr
            refine OwnOut.go (fun t k => ldI X43 hx hZ e43 A2_41 hv44 (g := (mkF m 132 #[.val (.ref b0), .val (.long x1), .second, .val (.int x3), .val (.int x4), .val (.int (x5 + (1 : Int32)))] [(.int (x5 + (1 : Int32))), (.ref b2), (.int x4), (.ref b2)])) rfl rfl (hb hby d7_132) t k) ?_
            show OwnOut p e s below 0 0 _ (T43.setTop (mkF m 133 #[.val (.ref b0), .val (.long x1), .second, .val (.int x3), .val (.int x4), .val (.int (x5 + (1 : Int32)))] [(.int v44), (.int x4), (.ref b2)]))
            obtain ⟨l_45, hl45, hr⟩ := Option.bind_eq_some_iff.mp hr
            obtain ⟨T45, h45, X45, e45, W45, A_45, st45⟩ := saI X43 hx hZ e43 A2_41 hl45 (g := (mkF m 133 #[.val (.ref b0), .val (.long x1), .second, .val (.int x3), .val (.int x4), .val (.int (x5 + (1 : Int32)))] [(.int v44), (.int x4), (.ref b2)])) rfl rfl (hb hby d7_133)
            refine OwnOut.go (fun t k => st45 _ k) ?_
            have E0_45 := E0_41.wr W45
            have F0_times_45 := F0_times_41.other W45 (Or.inl ne0_2)
            have F0_clients_45 := F0_clients_41.other W45 (Or.inl ne0_2)
            have F0_size_45 := F0_size_41.other W45 (Or.inl ne0_2)
            have A1_45 := A_41.other W45 ne1_2
            have N_45 := Fr.snoc X45 N_41 g2
            have O_45 := O_41.wr W45 g2
            have K_45 := K_41.wr W45 (Or.inl (List.mem_of_getElem? (i := 1) rfl))
            show OwnOut p e s below 0 0 _ (T45.setTop (mkF m 134 #[.val (.ref b0), .val (.long x1), .second, .val (.int x3), .val (.int x4), .val (.int (x5 + (1 : Int32)))] []))
            refine OwnOut.go (fun t k => XS.iload X45.here hx rfl (hb hby d7_134) rfl k) ?_
            show OwnOut p e s below 0 0 _ (T45.setTop (mkF m 136 #[.val (.ref b0), .val (.long x1), .second, .val (.int x3), .val (.int x4), .val (.int (x5 + (1 : Int32)))] [(.int (x5 + (1 : Int32)))]))
            refine OwnOut.go (fun t k => XS.istore X45.here hx rfl (hb hby d7_136) rfl (l' := #[.val (.ref b0), .val (.long x1), .second, .val (.int x3), .val (.int (x5 + (1 : Int32))), .val (.int (x5 + (1 : Int32)))]) rfl k) ?_
            show OwnOut p e s below 0 0 _ (T45.setTop (mkF m 138 #[.val (.ref b0), .val (.long x1), .second, .val (.int x3), .val (.int (x5 + (1 : Int32))), .val (.int (x5 + (1 : Int32)))] []))
            refine OwnOut.go (fun t k => XT.iconstV X45.here hx rfl (2 : Int32) (hb hby d7_138) rfl k) ?_
            show OwnOut p e s below 0 0 _ (T45.setTop (mkF m 139 #[.val (.ref b0), .val (.long x1), .second, .val (.int x3), .val (.int (x5 + (1 : Int32))), .val (.int (x5 + (1 : Int32)))] [(.int (2 : Int32))]))
            refine OwnOut.go (fun t k => XS.iload X45.here hx rfl (hb hby d7_139) rfl k) ?_
            show OwnOut p e s below 0 0 _ (T45.setTop (mkF m 141 #[.val (.ref b0), .val (.long x1), .second, .val (.int x3), .val (.int (x5 + (1 : Int32))), .val (.int (x5 + (1 : Int32)))] [(.int (x5 + (1 : Int32))), (.int (2 : Int32))]))
            refine OwnOut.go (fun t k => XS.imul X45.here hx rfl (hb hby d7_141) rfl k) ?_
            show OwnOut p e s below 0 0 _ (T45.setTop (mkF m 142 #[.val (.ref b0), .val (.long x1), .second, .val (.int x3), .val (.int (x5 + (1 : Int32))), .val (.int (x5 + (1 : Int32)))] [(.int ((2 : Int32) * (x5 + (1 : Int32))))]))
            refine OwnOut.go (fun t k => XT.iconstV X45.here hx rfl (1 : Int32) (hb hby d7_142) rfl k) ?_
            show OwnOut p e s below 0 0 _ (T45.setTop (mkF m 143 #[.val (.ref b0), .val (.long x1), .second, .val (.int x3), .val (.int (x5 + (1 : Int32))), .val (.int (x5 + (1 : Int32)))] [(.int (1 : Int32)), (.int ((2 : Int32) * (x5 + (1 : Int32))))]))
            refine OwnOut.go (fun t k => XS.iadd X45.here hx rfl (hb hby d7_143) rfl k) ?_
            show OwnOut p e s below 0 0 _ (T45.setTop (mkF m 144 #[.val (.ref b0), .val (.long x1), .second, .val (.int x3), .val (.int (x5 + (1 : Int32))), .val (.int (x5 + (1 : Int32)))] [(.int (((2 : Int32) * (x5 + (1 : Int32))) + (1 : Int32)))]))
            refine OwnOut.go (fun t k => XS.istore X45.here hx rfl (hb hby d7_144) rfl (l' := #[.val (.ref b0), .val (.long x1), .second, .val (.int x3), .val (.int (x5 + (1 : Int32))), .val (.int (((2 : Int32) * (x5 + (1 : Int32))) + (1 : Int32)))]) rfl k) ?_
            show OwnOut p e s below 0 0 _ (T45.setTop (mkF m 146 #[.val (.ref b0), .val (.long x1), .second, .val (.int x3), .val (.int (x5 + (1 : Int32))), .val (.int (((2 : Int32) * (x5 + (1 : Int32))) + (1 : Int32)))] []))
            refine OwnOut.go (fun t k => XS.goto X45.here hx rfl (pc0 := 146) (pc' := 20) rfl (hb hby d7_146) (by decide) (by decide) k) ?_
            show OwnOut p e s below 0 0 _ (T45.setTop (mkF m 20 #[.val (.ref b0), .val (.long x1), .second, .val (.int x3), .val (.int (x5 + (1 : Int32))), .val (.int (((2 : Int32) * (x5 + (1 : Int32))) + (1 : Int32)))] []))
            exact ih _ _ _ x1 x3 (x5 + (1 : Int32)) (((2 : Int32) * (x5 + (1 : Int32))) + (1 : Int32)) b0 u0_size b1 l_41 b2 l_45 _ hr X45 e45 N_45 O_45 K_45 E0_45 F0_times_45 F0_clients_45 F0_size_45 A1_45 A_45 g0 g1 g2 ne0_1 ne0_2 ne1_2
      · rw [if_neg hc37] at hr
        refine OwnOut.go (fun t k => XS.icmpYes X6.here hx rfl (pc0 := 37) (pc' := 81) rfl (hb hby d7_37) rfl (XT.ii_ge_t hc37) (by decide) (by decide) k) ?_
        show OwnOut p e s below 0 0 _ (T6.setTop (mkF m 81 #[.val (.ref b0), .val (.long x1), .second, .val (.int x3), .val (.int x4), .val (.int x5)] []))
        refine OwnOut.go (fun t k => XS.aloadN X6.here hx rfl (hb hby d7_81) rfl rfl k) ?_
        show OwnOut p e s below 0 0 _ (T6.setTop (mkF m 82 #[.val (.ref b0), .val (.long x1), .second, .val (.int x3), .val (.int x4), .val (.int x5)] [(.ref b0)]))
        obtain ⟨T46, X46, e46, st46⟩ := getF X6 hx hZ hown (host := "") (Or.inl (hw _ (List.mem_of_getElem? (i := 12) rfl))) Via.refl e6 F0_times (g := (mkF m 82 #[.val (.ref b0), .val (.long x1), .second, .val (.int x3), .val (.int x4), .val (.int x5)] [(.ref b0)])) rfl rfl (hb hby d7_82)
        refine OwnOut.go (fun t k => st46 _ k) ?_
        show OwnOut p e s below 0 0 _ (T46.setTop (mkF m 85 #[.val (.ref b0), .val (.long x1), .second, .val (.int x3), .val (.int x4), .val (.int x5)] [(.ref b1)]))
        refine OwnOut.go (fun t k => XS.iload X46.here hx rfl (hb hby d7_85) rfl k) ?_
        show OwnOut p e s below 0 0 _ (T46.setTop (mkF m 87 #[.val (.ref b0), .val (.long x1), .second, .val (.int x3), .val (.int x4), .val (.int x5)] [(.int x5), (.ref b1)]))
        obtain ⟨v47, hv47, hr⟩ := Option.bind_eq_some_iff.mp hr
        refine OwnOut.go (fun t k => ldJ X46 hx hZ e46 A1 hv47 (g := (mkF m 87 #[.val (.ref b0), .val (.long x1), .second, .val (.int x3), .val (.int x4), .val (.int x5)] [(.int x5), (.ref b1)])) rfl rfl (hb hby d7_87) t k) ?_
        show OwnOut p e s below 0 0 _ (T46.setTop (mkF m 88 #[.val (.ref b0), .val (.long x1), .second, .val (.int x3), .val (.int x4), .val (.int x5)] [(.long v47)]))
        refine OwnOut.go (fun t k => XS.aloadN X46.here hx rfl (hb hby d7_88) rfl rfl k) ?_
        show OwnOut p e s below 0 0 _ (T46.setTop (mkF m 89 #[.val (.ref b0), .val (.long x1), .second, .val (.int x3), .val (.int x4), .val (.int x5)] [(.ref b0), (.long v47)]))
        obtain ⟨T48, X48, e48, st48⟩ := getF X46 hx hZ hown (host := "") (Or.inl (hw _ (List.mem_of_getElem? (i := 15) rfl))) Via.refl e46 F0_clients (g := (mkF m 89 #[.val (.ref b0), .val (.long x1), .second, .val (.int x3), .val (.int x4), .val (.int x5)] [(.ref b0), (.long v47)])) rfl rfl (hb hby d7_89)
        refine OwnOut.go (fun t k => st48 _ k) ?_
        show OwnOut p e s below 0 0 _ (T48.setTop (mkF m 92 #[.val (.ref b0), .val (.long x1), .second, .val (.int x3), .val (.int x4), .val (.int x5)] [(.ref b2), (.long v47)]))
        refine OwnOut.go (fun t k => XS.iload X48.here hx rfl (hb hby d7_92) rfl k) ?_
        show OwnOut p e s below 0 0 _ (T48.setTop (mkF m 94 #[.val (.ref b0), .val (.long x1), .second, .val (.int x3), .val (.int x4), .val (.int x5)] [(.int x5), (.ref b2), (.long v47)]))
        obtain ⟨v49, hv49, hr⟩ := Option.bind_eq_some_iff.mp hr
        refine OwnOut.go (fun t k => ldI X48 hx hZ e48 A2 hv49 (g := (mkF m 94 #[.val (.ref b0), .val (.long x1), .second, .val (.int x3), .val (.int x4), .val (.int x5)] [(.int x5), (.ref b2), (.long v47)])) rfl rfl (hb hby d7_94) t k) ?_
        show OwnOut p e s below 0 0 _ (T48.setTop (mkF m 95 #[.val (.ref b0), .val (.long x1), .second, .val (.int x3), .val (.int x4), .val (.int x5)] [(.int v49), (.long v47)]))
        refine OwnOut.go (fun t k => XS.lloadN X48.here hx rfl (hb hby d7_95) rfl k) ?_
        show OwnOut p e s below 0 0 _ (T48.setTop (mkF m 96 #[.val (.ref b0), .val (.long x1), .second, .val (.int x3), .val (.int x4), .val (.int x5)] [(.long x1), (.int v49), (.long v47)]))
        refine OwnOut.go (fun t k => XS.iloadN X48.here hx rfl (hb hby d7_96) rfl k) ?_
        show OwnOut p e s below 0 0 _ (T48.setTop (mkF m 97 #[.val (.ref b0), .val (.long x1), .second, .val (.int x3), .val (.int x4), .val (.int x5)] [(.int x3), (.long x1), (.int v49), (.long v47)]))
        obtain ⟨o50, ho50, hr⟩ := Option.bind_eq_some_iff.mp hr
        obtain ⟨r50, T50, L50, X50', hQ50, st50⟩ := callQ (W := 0) (rm := rx8) X48 hx hZ (y := (⟨"com/example/porter_drive/porterdrive/RequestQueue", "isBefore", "(JIJI)Z"⟩ : MethodName)) hown (hw _ (List.mem_of_getElem? (i := 39) rfl)) (hw _ (List.mem_of_getElem? (i := 40) rfl)) (hw _ (List.mem_of_getElem? (i := 5) rfl)) (hw _ (List.mem_of_getElem? (i := 41) rfl)) (by decide) (rm8 l Z a0 hw [] v47 v49 x1 x3 hA o50 ho50 ) (by decide) (by decide) (by decide) (by decide) e48 (g := (mkF m 97 #[.val (.ref b0), .val (.long x1), .second, .val (.int x3), .val (.int x4), .val (.int x5)] [(.int x3), (.long x1), (.int v49), (.long v47)])) rfl (by rw [hml]; rfl) (argsL := [(.long v47), (.int v49), (.long x1), (.int x3)]) (rest := []) (lenOf pd8 rfl) rfl (by show 2 * 0 + _ ≤ _; exact Nat.le_of_eq rfl) (hb hby d7_97)
        obtain ⟨rfl, e50, rfl⟩ := hQ50
        rw [List.append_nil] at X50'
        have X50 : Stand p l e rx7 s m args below meth c T50 _ 0 0 := X50'
        refine OwnOut.go (fun t k => st50 _ k) ?_
        show OwnOut p e s below 0 0 _ (T50.setTop (mkF m 100 #[.val (.ref b0), .val (.long x1), .second, .val (.int x3), .val (.int x4), .val (.int x5)] [(.int o50)]))
        by_cases hc100 : o50 = (0 : Int32)
        · rw [if_pos hc100] at hr
          refine OwnOut.go (fun t k => XS.ifNo X50.here hx rfl (hb hby d7_100) rfl (XT.i0_ne_f hc100) k) ?_
          show OwnOut p e s below 0 0 _ (T50.setTop (mkF m 103 #[.val (.ref b0), .val (.long x1), .second, .val (.int x3), .val (.int x4), .val (.int x5)] []))
          refine OwnOut.go (fun t k => XS.goto X50.here hx rfl (pc0 := 103) (pc' := 149) rfl (hb hby d7_103) (by decide) (by decide) k) ?_
          show OwnOut p e s below 0 0 _ (T50.setTop (mkF m 149 #[.val (.ref b0), .val (.long x1), .second, .val (.int x3), .val (.int x4), .val (.int x5)] []))
          exact w7_149 ⟨hx, hZ, hw, hby, hml, hown, hret, hlk, hnm⟩  _ _ _ x1 x3 x4 x5 b0 u0_size b1 l1 b2 l2 _ hr X50 e50 N0 O0 K0 E0 F0_times F0_clients F0_size A1 A2 g0 g1 g2 ne0_1 ne0_2 ne1_2
        · rw [if_neg hc100] at hr
          refine OwnOut.go (fun t k => XS.ifYes X50.here hx rfl (pc0 := 100) (pc' := 106) rfl (hb hby d7_100) rfl (XT.i0_ne_t hc100) (by decide) (by decide) k) ?_
          show OwnOut p e s below 0 0 _ (T50.setTop (mkF m 106 #[.val (.ref b0), .val (.long x1), .second, .val (.int x3), .val (.int x4), .val (.int x5)] []))
          refine OwnOut.go (fun t k => XS.aloadN X50.here hx rfl (hb hby d7_106) rfl rfl k) ?_
          show OwnOut p e s below 0 0 _ (T50.setTop (mkF m 107 #[.val (.ref b0), .val (.long x1), .second, .val (.int x3), .val (.int x4), .val (.int x5)] [(.ref b0)]))
          obtain ⟨T51, X51, e51, st51⟩ := getF X50 hx hZ hown (host := "") (Or.inl (hw _ (List.mem_of_getElem? (i := 12) rfl))) Via.refl e50 F0_times (g := (mkF m 107 #[.val (.ref b0), .val (.long x1), .second, .val (.int x3), .val (.int x4), .val (.int x5)] [(.ref b0)])) rfl rfl (hb hby d7_107)
          refine OwnOut.go (fun t k => st51 _ k) ?_
          show OwnOut p e s below 0 0 _ (T51.setTop (mkF m 110 #[.val (.ref b0), .val (.long x1), .second, .val (.int x3), .val (.int x4), .val (.int x5)] [(.ref b1)]))
          refine OwnOut.go (fun t k => XS.iload X51.here hx rfl (hb hby d7_110) rfl k) ?_
          show OwnOut p e s below 0 0 _ (T51.setTop (mkF m 112 #[.val (.ref b0), .val (.long x1), .second, .val (.int x3), .val (.int x4), .val (.int x5)] [(.int x4), (.ref b1)]))
          refine OwnOut.go (fun t k => XS.aloadN X51.here hx rfl (hb hby d7_112) rfl rfl k) ?_
          show OwnOut p e s below 0 0 _ (T51.setTop (mkF m 113 #[.val (.ref b0), .val (.long x1), .second, .val (.int x3), .val (.int x4), .val (.int x5)] [(.ref b0), (.int x4), (.ref b1)]))
          obtain ⟨T52, X52, e52, st52⟩ := getF X51 hx hZ hown (host := "") (Or.inl (hw _ (List.mem_of_getElem? (i := 12) rfl))) Via.refl e51 F0_times (g := (mkF m 113 #[.val (.ref b0), .val (.long x1), .second, .val (.int x3), .val (.int x4), .val (.int x5)] [(.ref b0), (.int x4), (.ref b1)])) rfl rfl (hb hby d7_113)
          refine OwnOut.go (fun t k => st52 _ k) ?_
          show OwnOut p e s below 0 0 _ (T52.setTop (mkF m 116 #[.val (.ref b0), .val (.long x1), .second, .val (.int x3), .val (.int x4), .val (.int x5)] [(.ref b1), (.int x4), (.ref b1)]))
          refine OwnOut.go (fun t k => XS.iload X52.here hx rfl (hb hby d7_116) rfl k) ?_
          show OwnOut p e s below 0 0 _ (T52.setTop (mkF m 118 #[.val (.ref b0), .val (.long x1), .second, .val (.int x3), .val (.int x4), .val (.int x5)] [(.int x5), (.ref b1), (.int x4), (.ref b1)]))
          obtain ⟨v53, hv53, hr⟩ := Option.bind_eq_some_iff.mp hr
          refine OwnOut.go (fun t k => ldJ X52 hx hZ e52 A1 hv53 (g := (mkF m 118 #[.val (.ref b0), .val (.long x1), .second, .val (.int x3), .val (.int x4), .val (.int x5)] [(.int x5), (.ref b1), (.int x4), (.ref b1)])) rfl rfl (hb hby d7_118) t k) ?_
          show OwnOut p e s below 0 0 _ (T52.setTop (mkF m 119 #[.val (.ref b0), .val (.long x1), .second, .val (.int x3), .val (.int x4), .val (.int x5)] [(.long v53), (.int x4), (.ref b1)]))
          obtain ⟨l_54, hl54, hr⟩ := Option.bind_eq_some_iff.mp hr
          obtain ⟨T54, h54, X54, e54, W54, A_54, st54⟩ := saJ X52 hx hZ e52 A1 hl54 (g := (mkF m 119 #[.val (.ref b0), .val (.long x1), .second, .val (.int x3), .val (.int x4), .val (.int x5)] [(.long v53), (.int x4), (.ref b1)])) rfl rfl (hb hby d7_119)
          refine OwnOut.go (fun t k => st54 _ k) ?_
          have E0_54 := E0.wr W54
          have F0_times_54 := F0_times.other W54 (Or.inl ne0_1)
          have F0_clients_54 := F0_clients.other W54 (Or.inl ne0_1)
          have F0_size_54 := F0_size.other W54 (Or.inl ne0_1)
          have A2_54 := A2.other W54 (Ne.symm ne1_2)
          have N_54 := Fr.snoc X54 N0 g1
          have O_54 := O0.wr W54 g1
          have K_54 := K0.wr W54 (Or.inl (List.mem_of_getElem? (i := 0) rfl))
          show OwnOut p e s below 0 0 _ (T54.setTop (mkF m 120 #[.val (.ref b0), .val (.long x1), .second, .val (.int x3), .val (.int x4), .val (.int x5)] []))
          refine OwnOut.go (fun t k => XS.aloadN X54.here hx rfl (hb hby d7_120) rfl rfl k) ?_
          show OwnOut p e s below 0 0 _ (T54.setTop (mkF m 121 #[.val (.ref b0), .val (.long x1), .second, .val (.int x3), .val (.int x4), .val (.int x5)] [(.ref b0)]))
          obtain ⟨T55, X55, e55, st55⟩ := getF X54 hx hZ hown (host := "") (Or.inl (hw _ (List.mem_of_getElem? (i := 15) rfl))) Via.refl e54 F0_clients_54 (g := (mkF m 121 #[.val (.ref b0), .val (.long x1), .second, .val (.int x3), .val (.int x4), .val (.int x5)] [(.ref b0)])) rfl rfl (hb hby d7_121)
          refine OwnOut.go (fun t k => st55 _ k) ?_
          show OwnOut p e s below 0 0 _ (T55.setTop (mkF m 124 #[.val (.ref b0), .val (.long x1), .second, .val (.int x3), .val (.int x4), .val (.int x5)] [(.ref b2)]))
          refine OwnOut.go (fun t k => XS.iload X55.here hx rfl (hb hby d7_124) rfl k) ?_
          show OwnOut p e s below 0 0 _ (T55.setTop (mkF m 126 #[.val (.ref b0), .val (.long x1), .second, .val (.int x3), .val (.int x4), .val (.int x5)] [(.int x4), (.ref b2)]))
          refine OwnOut.go (fun t k => XS.aloadN X55.here hx rfl (hb hby d7_126) rfl rfl k) ?_
          show OwnOut p e s below 0 0 _ (T55.setTop (mkF m 127 #[.val (.ref b0), .val (.long x1), .second, .val (.int x3), .val (.int x4), .val (.int x5)] [(.ref b0), (.int x4), (.ref b2)]))
          obtain ⟨T56, X56, e56, st56⟩ := getF X55 hx hZ hown (host := "") (Or.inl (hw _ (List.mem_of_getElem? (i := 15) rfl))) Via.refl e55 F0_clients_54 (g := (mkF m 127 #[.val (.ref b0), .val (.long x1), .second, .val (.int x3), .val (.int x4), .val (.int x5)] [(.ref b0), (.int x4), (.ref b2)])) rfl rfl (hb hby d7_127)
          refine OwnOut.go (fun t k => st56 _ k) ?_
          show OwnOut p e s below 0 0 _ (T56.setTop (mkF m 130 #[.val (.ref b0), .val (.long x1), .second, .val (.int x3), .val (.int x4), .val (.int x5)] [(.ref b2), (.int x4), (.ref b2)]))
          refine OwnOut.go (fun t k => XS.iload X56.here hx rfl (hb hby d7_130) rfl k) ?_
          show OwnOut p e s below 0 0 _ (T56.setTop (mkF m 132 #[.val (.ref b0), .val (.long x1), .second, .val (.int x3), .val (.int x4), .val (.int x5)] [(.int x5), (.ref b2), (.int x4), (.ref b2)]))
          obtain ⟨v57, hv57, hr⟩ := Option.bind_eq_some_iff.mp hr
          refine OwnOut.go (fun t k => ldI X56 hx hZ e56 A2_54 hv57 (g := (mkF m 132 #[.val (.ref b0), .val (.long x1), .second, .val (.int x3), .val (.int x4), .val (.int x5)] [(.int x5), (.ref b2), (.int x4), (.ref b2)])) rfl rfl (hb hby d7_132) t k) ?_
          show OwnOut p e s below 0 0 _ (T56.setTop (mkF m 133 #[.val (.ref b0), .val (.long x1), .second, .val (.int x3), .val (.int x4), .val (.int x5)] [(.int v57), (.int x4), (.ref b2)]))
          obtain ⟨l_58, hl58, hr⟩ := Option.bind_eq_some_iff.mp hr
          obtain ⟨T58, h58, X58, e58, W58, A_58, st58⟩ := saI X56 hx hZ e56 A2_54 hl58 (g := (mkF m 133 #[.val (.ref b0), .val (.long x1), .second, .val (.int x3), .val (.int x4), .val (.int x5)] [(.int v57), (.int x4), (.ref b2)])) rfl rfl (hb hby d7_133)
          refine OwnOut.go (fun t k => st58 _ k) ?_
          have E0_58 := E0_54.wr W58
          have F0_times_58 := F0_times_54.other W58 (Or.inl ne0_2)
          have F0_clients_58 := F0_clients_54.other W58 (Or.inl ne0_2)
          have F0_size_58 := F0_size_54.other W58 (Or.inl ne0_2)
          have A1_58 := A_54.other W58 ne1_2
          have N_58 := Fr.snoc X58 N_54 g2
          have O_58 := O_54.wr W58 g2
          have K_58 := K_54.wr W58 (Or.inl (List.mem_of_getElem? (i := 1) rfl))
          show OwnOut p e s below 0 0 _ (T58.setTop (mkF m 134 #[.val (.ref b0), .val (.long x1), .second, .val (.int x3), .val (.int x4), .val (.int x5)] []))
          refine OwnOut.go (fun t k => XS.iload X58.here hx rfl (hb hby d7_134) rfl k) ?_
          show OwnOut p e s below 0 0 _ (T58.setTop (mkF m 136 #[.val (.ref b0), .val (.long x1), .second, .val (.int x3), .val (.int x4), .val (.int x5)] [(.int x5)]))
          refine OwnOut.go (fun t k => XS.istore X58.here hx rfl (hb hby d7_136) rfl (l' := #[.val (.ref b0), .val (.long x1), .second, .val (.int x3), .val (.int x5), .val (.int x5)]) rfl k) ?_
          show OwnOut p e s below 0 0 _ (T58.setTop (mkF m 138 #[.val (.ref b0), .val (.long x1), .second, .val (.int x3), .val (.int x5), .val (.int x5)] []))
          refine OwnOut.go (fun t k => XT.iconstV X58.here hx rfl (2 : Int32) (hb hby d7_138) rfl k) ?_
          show OwnOut p e s below 0 0 _ (T58.setTop (mkF m 139 #[.val (.ref b0), .val (.long x1), .second, .val (.int x3), .val (.int x5), .val (.int x5)] [(.int (2 : Int32))]))
          refine OwnOut.go (fun t k => XS.iload X58.here hx rfl (hb hby d7_139) rfl k) ?_
          show OwnOut p e s below 0 0 _ (T58.setTop (mkF m 141 #[.val (.ref b0), .val (.long x1), .second, .val (.int x3), .val (.int x5), .val (.int x5)] [(.int x5), (.int (2 : Int32))]))
          refine OwnOut.go (fun t k => XS.imul X58.here hx rfl (hb hby d7_141) rfl k) ?_
          show OwnOut p e s below 0 0 _ (T58.setTop (mkF m 142 #[.val (.ref b0), .val (.long x1), .second, .val (.int x3), .val (.int x5), .val (.int x5)] [(.int ((2 : Int32) * x5))]))
          refine OwnOut.go (fun t k => XT.iconstV X58.here hx rfl (1 : Int32) (hb hby d7_142) rfl k) ?_
          show OwnOut p e s below 0 0 _ (T58.setTop (mkF m 143 #[.val (.ref b0), .val (.long x1), .second, .val (.int x3), .val (.int x5), .val (.int x5)] [(.int (1 : Int32)), (.int ((2 : Int32) * x5))]))
          refine OwnOut.go (fun t k => XS.iadd X58.here hx rfl (hb hby d7_143) rfl k) ?_
          show OwnOut p e s below 0 0 _ (T58.setTop (mkF m 144 #[.val (.ref b0), .val (.long x1), .second, .val (.int x3), .val (.int x5), .val (.int x5)] [(.int (((2 : Int32) * x5) + (1 : Int32)))]))
          refine OwnOut.go (fun t k => XS.istore X58.here hx rfl (hb hby d7_144) rfl (l' := #[.val (.ref b0), .val (.long x1), .second, .val (.int x3), .val (.int x5), .val (.int (((2 : Int32) * x5) + (1 : Int32)))]) rfl k) ?_
          show OwnOut p e s below 0 0 _ (T58.setTop (mkF m 146 #[.val (.ref b0), .val (.long x1), .second, .val (.int x3), .val (.int x5), .val (.int (((2 : Int32) * x5) + (1 : Int32)))] []))
          refine OwnOut.go (fun t k => XS.goto X58.here hx rfl (pc0 := 146) (pc' := 20) rfl (hb hby d7_146) (by decide) (by decide) k) ?_
          show OwnOut p e s below 0 0 _ (T58.setTop (mkF m 20 #[.val (.ref b0), .val (.long x1), .second, .val (.int x3), .val (.int x5), .val (.int (((2 : Int32) * x5) + (1 : Int32)))] []))
          exact ih _ _ _ x1 x3 x5 (((2 : Int32) * x5) + (1 : Int32)) b0 u0_size b1 l_54 b2 l_58 _ hr X58 e58 N_58 O_58 K_58 E0_58 F0_times_58 F0_clients_58 F0_size_58 A1_58 A_58 g0 g1 g2 ne0_1 ne0_2 ne1_2
    · rw [if_neg hc26] at hr
      refine OwnOut.go (fun t k => XS.icmpYes X5.here hx rfl (pc0 := 26) (pc' := 149) rfl (hb hby d7_26) rfl (XT.ii_ge_t hc26) (by decide) (by decide) k) ?_
      show OwnOut p e s below 0 0 _ (T5.setTop (mkF m 149 #[.val (.ref b0), .val (.long x1), .second, .val (.int x3), .val (.int x4), .val (.int x5)] []))
      exact w7_149 ⟨hx, hZ, hw, hby, hml, hown, hret, hlk, hnm⟩  _ _ _ x1 x3 x4 x5 b0 u0_size b1 l1 b2 l2 _ hr X5 e5 N0 O0 K0 E0 F0_times F0_clients F0_size A1 A2 g0 g1 g2 ne0_1 ne0_2 ne1_2
def f7 (u0_size : Int32) (l1 : List Int64) (l2 : List Int32) : Option (List Int64 × List Int32) := ((ldx l1 (0 : Int32)).bind fun v2 => ((ldx l2 (0 : Int32)).bind fun v4 => (f7_20 8 v2 v4 (0 : Int32) (1 : Int32) u0_size l1 l2)))
set_option maxRecDepth 65536 in
set_option maxHeartbeats 40000000 in
theorem w7_0 {p : Program} {l : Launch} {e : Env} {s : State} {m : MethodId} {args : Array Value} {below : List Frame} {meth : Method} {c : Code} {Z : State} {a0 : Array Value} {h0 : Heap} {n0 : Nat} (C : Cx7 Z a0 p s m meth c) :
    ∀ (T : State) (locs : List Loc) (hA : Heap) (b0 : Addr) (u0_size : Int32) (b1 : Addr) (l1 : List Int64) (b2 : Addr) (l2 : List Int32) (o : List Int64 × List Int32), f7 u0_size l1 l2 = some o → Stand p l e rx7 s m args below meth c T locs 0 0 → T.heap = hA → Fr n0 locs → Old Z n0 hA → Keep h0 hA [b1, b2] → (Exa Z hA b0 "com/example/porter_drive/porterdrive/RequestQueue") → (Fld Z hA b0 "com/example/porter_drive/porterdrive/RequestQueue" "times" "[J" (.ref b1)) → (Fld Z hA b0 "com/example/porter_drive/porterdrive/RequestQueue" "clients" "[I" (.ref b2)) → (Fld Z hA b0 "com/example/porter_drive/porterdrive/RequestQueue" "size" "I" (.int u0_size)) → (Arj Z hA b1 l1) → (Ari Z hA b2 .int l2) → (n0 ≤ b0) → (n0 ≤ b1) → (n0 ≤ b2) → (b0 ≠ b1) → (b0 ≠ b2) → (b1 ≠ b2) →  OwnOut p e s below 0 0 (Q7 Z b0 u0_size b1 [] b2 [] h0 n0 o) (T.setTop (mkF m 0 #[.val (.ref b0), .unset, .unset, .unset, .unset, .unset] [])) := by
    obtain ⟨hx, hZ, hw, hby, hml, hown, hret, hlk, hnm⟩ := C
    intro T locs hA b0 u0_size b1 l1 b2 l2 o hr X0 e0 N0 O0 K0 E0 F0_times F0_clients F0_size A1 A2 g0 g1 g2 ne0_1 ne0_2 ne1_2
    rw [f7] at hr
    refine OwnOut.go (fun t k => XS.aloadN X0.here hx rfl (hb hby d7_0) rfl rfl k) ?_
    show OwnOut p e s below 0 0 _ (T.setTop (mkF m 1 #[.val (.ref b0), .unset, .unset, .unset, .unset, .unset] [(.ref b0)]))
    obtain ⟨T1, X1, e1, st1⟩ := getF X0 hx hZ hown (host := "") (Or.inl (hw _ (List.mem_of_getElem? (i := 12) rfl))) Via.refl e0 F0_times (g := (mkF m 1 #[.val (.ref b0), .unset, .unset, .unset, .unset, .unset] [(.ref b0)])) rfl rfl (hb hby d7_1)
    refine OwnOut.go (fun t k => st1 _ k) ?_
    show OwnOut p e s below 0 0 _ (T1.setTop (mkF m 4 #[.val (.ref b0), .unset, .unset, .unset, .unset, .unset] [(.ref b1)]))
    refine OwnOut.go (fun t k => XT.iconstV X1.here hx rfl (0 : Int32) (hb hby d7_4) rfl k) ?_
    show OwnOut p e s below 0 0 _ (T1.setTop (mkF m 5 #[.val (.ref b0), .unset, .unset, .unset, .unset, .unset] [(.int (0 : Int32)), (.ref b1)]))
    obtain ⟨v2, hv2, hr⟩ := Option.bind_eq_some_iff.mp hr
    refine OwnOut.go (fun t k => ldJ X1 hx hZ e1 A1 hv2 (g := (mkF m 5 #[.val (.ref b0), .unset, .unset, .unset, .unset, .unset] [(.int (0 : Int32)), (.ref b1)])) rfl rfl (hb hby d7_5) t k) ?_
    show OwnOut p e s below 0 0 _ (T1.setTop (mkF m 6 #[.val (.ref b0), .unset, .unset, .unset, .unset, .unset] [(.long v2)]))
    refine OwnOut.go (fun t k => XS.lstoreN X1.here hx rfl (hb hby d7_6) rfl (l' := #[.val (.ref b0), .val (.long v2), .second, .unset, .unset, .unset]) rfl k) ?_
    show OwnOut p e s below 0 0 _ (T1.setTop (mkF m 7 #[.val (.ref b0), .val (.long v2), .second, .unset, .unset, .unset] []))
    refine OwnOut.go (fun t k => XS.aloadN X1.here hx rfl (hb hby d7_7) rfl rfl k) ?_
    show OwnOut p e s below 0 0 _ (T1.setTop (mkF m 8 #[.val (.ref b0), .val (.long v2), .second, .unset, .unset, .unset] [(.ref b0)]))
    obtain ⟨T3, X3, e3, st3⟩ := getF X1 hx hZ hown (host := "") (Or.inl (hw _ (List.mem_of_getElem? (i := 15) rfl))) Via.refl e1 F0_clients (g := (mkF m 8 #[.val (.ref b0), .val (.long v2), .second, .unset, .unset, .unset] [(.ref b0)])) rfl rfl (hb hby d7_8)
    refine OwnOut.go (fun t k => st3 _ k) ?_
    show OwnOut p e s below 0 0 _ (T3.setTop (mkF m 11 #[.val (.ref b0), .val (.long v2), .second, .unset, .unset, .unset] [(.ref b2)]))
    refine OwnOut.go (fun t k => XT.iconstV X3.here hx rfl (0 : Int32) (hb hby d7_11) rfl k) ?_
    show OwnOut p e s below 0 0 _ (T3.setTop (mkF m 12 #[.val (.ref b0), .val (.long v2), .second, .unset, .unset, .unset] [(.int (0 : Int32)), (.ref b2)]))
    obtain ⟨v4, hv4, hr⟩ := Option.bind_eq_some_iff.mp hr
    refine OwnOut.go (fun t k => ldI X3 hx hZ e3 A2 hv4 (g := (mkF m 12 #[.val (.ref b0), .val (.long v2), .second, .unset, .unset, .unset] [(.int (0 : Int32)), (.ref b2)])) rfl rfl (hb hby d7_12) t k) ?_
    show OwnOut p e s below 0 0 _ (T3.setTop (mkF m 13 #[.val (.ref b0), .val (.long v2), .second, .unset, .unset, .unset] [(.int v4)]))
    refine OwnOut.go (fun t k => XS.istoreN X3.here hx rfl (hb hby d7_13) rfl (l' := #[.val (.ref b0), .val (.long v2), .second, .val (.int v4), .unset, .unset]) rfl k) ?_
    show OwnOut p e s below 0 0 _ (T3.setTop (mkF m 14 #[.val (.ref b0), .val (.long v2), .second, .val (.int v4), .unset, .unset] []))
    refine OwnOut.go (fun t k => XT.iconstV X3.here hx rfl (0 : Int32) (hb hby d7_14) rfl k) ?_
    show OwnOut p e s below 0 0 _ (T3.setTop (mkF m 15 #[.val (.ref b0), .val (.long v2), .second, .val (.int v4), .unset, .unset] [(.int (0 : Int32))]))
    refine OwnOut.go (fun t k => XS.istore X3.here hx rfl (hb hby d7_15) rfl (l' := #[.val (.ref b0), .val (.long v2), .second, .val (.int v4), .val (.int (0 : Int32)), .unset]) rfl k) ?_
    show OwnOut p e s below 0 0 _ (T3.setTop (mkF m 17 #[.val (.ref b0), .val (.long v2), .second, .val (.int v4), .val (.int (0 : Int32)), .unset] []))
    refine OwnOut.go (fun t k => XT.iconstV X3.here hx rfl (1 : Int32) (hb hby d7_17) rfl k) ?_
    show OwnOut p e s below 0 0 _ (T3.setTop (mkF m 18 #[.val (.ref b0), .val (.long v2), .second, .val (.int v4), .val (.int (0 : Int32)), .unset] [(.int (1 : Int32))]))
    refine OwnOut.go (fun t k => XS.istore X3.here hx rfl (hb hby d7_18) rfl (l' := #[.val (.ref b0), .val (.long v2), .second, .val (.int v4), .val (.int (0 : Int32)), .val (.int (1 : Int32))]) rfl k) ?_
    show OwnOut p e s below 0 0 _ (T3.setTop (mkF m 20 #[.val (.ref b0), .val (.long v2), .second, .val (.int v4), .val (.int (0 : Int32)), .val (.int (1 : Int32))] []))
    exact w7_20 ⟨hx, hZ, hw, hby, hml, hown, hret, hlk, hnm⟩ 8  _ _ _ v2 v4 (0 : Int32) (1 : Int32) b0 u0_size b1 l1 b2 l2 _ hr X3 e3 N0 O0 K0 E0 F0_times F0_clients F0_size A1 A2 g0 g1 g2 ne0_1 ne0_2 ne1_2
set_option maxRecDepth 65536 in
set_option maxHeartbeats 40000000 in
theorem rm7 (l : Launch) (Z : State) (a0 : Array Value) (hw : ∀ d ∈ tables_1, d.before a0 Z = true) (ws : List Jvm.Cond) (b0 : Addr) (u0_size : Int32) (b1 : Addr) (l1 : List Int64) (b2 : Addr) (l2 : List Int32) (h0 : Heap) (n0 : Nat) (o : List Int64 × List Int32) (hr : f7 u0_size l1 l2 = some o) (O0 : Old Z n0 h0) (E0 : Exa Z h0 b0 "com/example/porter_drive/porterdrive/RequestQueue") (F0_times : Fld Z h0 b0 "com/example/porter_drive/porterdrive/RequestQueue" "times" "[J" (.ref b1)) (F0_clients : Fld Z h0 b0 "com/example/porter_drive/porterdrive/RequestQueue" "clients" "[I" (.ref b2)) (F0_size : Fld Z h0 b0 "com/example/porter_drive/porterdrive/RequestQueue" "size" "I" (.int u0_size)) (A1 : Arj Z h0 b1 l1) (A2 : Ari Z h0 b2 .int l2) (g0 : n0 ≤ b0) (g1 : n0 ≤ b1) (g2 : n0 ≤ b2) (ne0_1 : b0 ≠ b1) (ne0_2 : b0 ≠ b2) (ne1_2 : b1 ≠ b2) :
    MetFree l (⟨"com/example/porter_drive/porterdrive/RequestQueue", "siftDown", "()V"⟩ : MethodName) (head1 (Jvm.Cond.code (⟨"com/example/porter_drive/porterdrive/RequestQueue", "siftDown", "()V"⟩ : MethodName) prog_24_method_7_code 6 none :: ws) rx7) (fun a U => a = #[(.ref b0)] ∧ Z.Warmed39 U.vm ∧ U.heap = h0) (fun _ _ _ _ _ => True) (fun _ U o' U' => ∃ v L, o' = .returned v ∧ Q7 Z b0 u0_size b1 l1 b2 l2 h0 n0 o v U'.heap L ∧ FrameEnd U o' U' L rx7.cells rx7.slots) := by
  refine MetFree.of_bodySF (plainFor_of_name pn7) hisR ?_
  intro p e s m args below meth c s₁ Bd hml0 hP hK
  obtain ⟨rfl, hZ, hh⟩ := hP
  have X0 : Stand p l e rx7 s m #[(.ref b0)] below meth c s₁ [] 0 0 := Stand.of_body Bd
  have e0 : s₁.heap = h0 := by rw [← hh, Bd.state]; rfl
  exact OwnOut.at (ef7 m b0) (w7_0 ⟨Bd.exec, hZ, hw, Bd.bytes, hml0, findClass_of_methodNamed Bd.named, Bd.returns, Bd.notSynchronized, (name_of_methodNamed Bd.named Bd.method).1⟩ _ _ _ b0 u0_size b1 l1 b2 l2 o hr X0 e0 (Fr.nil n0) O0 (Keep.refl _ _) E0 F0_times F0_clients F0_size A1 A2 g0 g1 g2 ne0_1 ne0_2 ne1_2)
-- body 6 as 6: com/example/porter_drive/porterdrive/RequestQueue.delayFirst:(J)V
theorem d6_0 : decode prog_24_method_6_code 0 = .ok (.aload_n 0, 1) := by decide +kernel
theorem d6_1 : decode prog_24_method_6_code 1 = .ok (.getfield 7, 3) := by decide +kernel
theorem d6_4 : decode prog_24_method_6_code 4 = .ok (.iconst 0, 1) := by decide +kernel
theorem d6_5 : decode prog_24_method_6_code 5 = .ok (.lload_n 1, 1) := by decide +kernel
theorem d6_6 : decode prog_24_method_6_code 6 = .ok (.lastore, 1) := by decide +kernel
theorem d6_7 : decode prog_24_method_6_code 7 = .ok (.aload_n 0, 1) := by decide +kernel
theorem d6_8 : decode prog_24_method_6_code 8 = .ok (.invokevirtual 21, 3) := by decide +kernel
theorem d6_11 : decode prog_24_method_6_code 11 = .ok (.return_, 1) := by decide +kernel
theorem pn6 : plainName "com/example/porter_drive/porterdrive/RequestQueue" = true := by first | (simp [plainName, overriddenIn]; done) | decide +kernel
theorem pd6 : parseMethodDescriptor "(J)V" = some ⟨[.long], none⟩ := by decide +kernel
theorem ef6 (m : MethodId) (b0 : Addr) (x1 : Int64) : entryFrame m #[(.ref b0), (.long x1)] 3 = mkF m 0 #[.val (.ref b0), .val (.long x1), .second] [] := by first | (simp [entryFrame, mkF, argsToLocals, Value.category]; done) | rfl
abbrev rx6 : Room := { frames := 2, cells := 0, slots := 0, locals := 34 }
abbrev Cx6 (Z : State) (a0 : Array Value) (p : Program) (s : State) (m : MethodId) (meth : Method) (c : Code) : Prop := p.tables.exec = Jvm.exec ∧ Z.Warmed39 s.vm ∧ (∀ d ∈ tables_1, d.before a0 Z = true) ∧ c.code = prog_24_method_6_code ∧ c.maxLocals = 3 ∧ s.vm.findClass "com/example/porter_drive/porterdrive/RequestQueue" = some m.cls ∧ meth.sig.returnType = none ∧ meth.locks = false ∧ meth.name = "delayFirst"
def Q6 (Z : State) (x1 : Int64) (b0 : Addr) (u0_size : Int32) (b1 : Addr) (l1 : List Int64) (b2 : Addr) (l2 : List Int32) (h0 : Heap) (n0 : Nat) (o : List Int64 × List Int32) (v : Option Value) (h : Heap) (L : List Loc) : Prop := v = none ∧ Fr n0 L ∧ Keep h0 h [b1, b2] ∧ Arj Z h b1 o.1 ∧ Ari Z h b2 .int o.2
def f6 (x1 : Int64) (u0_size : Int32) (l1 : List Int64) (l2 : List Int32) : Option (List Int64 × List Int32) := ((stx l1 (0 : Int32) x1).bind fun l_2 => ((f7 u0_size l_2 l2).bind fun o3 => some (o3.1, o3.2)))
set_option maxRecDepth 65536 in
set_option maxHeartbeats 40000000 in
theorem w6_0 {p : Program} {l : Launch} {e : Env} {s : State} {m : MethodId} {args : Array Value} {below : List Frame} {meth : Method} {c : Code} {Z : State} {a0 : Array Value} {h0 : Heap} {n0 : Nat} (C : Cx6 Z a0 p s m meth c) :
    ∀ (T : State) (locs : List Loc) (hA : Heap) (x1 : Int64) (b0 : Addr) (u0_size : Int32) (b1 : Addr) (l1 : List Int64) (b2 : Addr) (l2 : List Int32) (o : List Int64 × List Int32), f6 x1 u0_size l1 l2 = some o → Stand p l e rx6 s m args below meth c T locs 0 0 → T.heap = hA → Fr n0 locs → Old Z n0 hA → Keep h0 hA [b1, b2] → (Exa Z hA b0 "com/example/porter_drive/porterdrive/RequestQueue") → (Fld Z hA b0 "com/example/porter_drive/porterdrive/RequestQueue" "times" "[J" (.ref b1)) → (Fld Z hA b0 "com/example/porter_drive/porterdrive/RequestQueue" "clients" "[I" (.ref b2)) → (Fld Z hA b0 "com/example/porter_drive/porterdrive/RequestQueue" "size" "I" (.int u0_size)) → (Arj Z hA b1 l1) → (Ari Z hA b2 .int l2) → (n0 ≤ b0) → (n0 ≤ b1) → (n0 ≤ b2) → (b0 ≠ b1) → (b0 ≠ b2) → (b1 ≠ b2) →  OwnOut p e s below 0 0 (Q6 Z default b0 u0_size b1 [] b2 [] h0 n0 o) (T.setTop (mkF m 0 #[.val (.ref b0), .val (.long x1), .second] [])) := by
    obtain ⟨hx, hZ, hw, hby, hml, hown, hret, hlk, hnm⟩ := C
    intro T locs hA x1 b0 u0_size b1 l1 b2 l2 o hr X0 e0 N0 O0 K0 E0 F0_times F0_clients F0_size A1 A2 g0 g1 g2 ne0_1 ne0_2 ne1_2
    rw [f6] at hr
    refine OwnOut.go (fun t k => XS.aloadN X0.here hx rfl (hb hby d6_0) rfl rfl k) ?_
    show OwnOut p e s below 0 0 _ (T.setTop (mkF m 1 #[.val (.ref b0), .val (.long x1), .second] [(.ref b0)]))
    obtain ⟨T1, X1, e1, st1⟩ := getF X0 hx hZ hown (host := "") (Or.inl (hw _ (List.mem_of_getElem? (i := 12) rfl))) Via.refl e0 F0_times (g := (mkF m 1 #[.val (.ref b0), .val (.long x1), .second] [(.ref b0)])) rfl rfl (hb hby d6_1)
    refine OwnOut.go (fun t k => st1 _ k) ?_
    show OwnOut p e s below 0 0 _ (T1.setTop (mkF m 4 #[.val (.ref b0), .val (.long x1), .second] [(.ref b1)]))
    refine OwnOut.go (fun t k => XT.iconstV X1.here hx rfl (0 : Int32) (hb hby d6_4) rfl k) ?_
    show OwnOut p e s below 0 0 _ (T1.setTop (mkF m 5 #[.val (.ref b0), .val (.long x1), .second] [(.int (0 : Int32)), (.ref b1)]))
    refine OwnOut.go (fun t k => XS.lloadN X1.here hx rfl (hb hby d6_5) rfl k) ?_
    show OwnOut p e s below 0 0 _ (T1.setTop (mkF m 6 #[.val (.ref b0), .val (.long x1), .second] [(.long x1), (.int (0 : Int32)), (.ref b1)]))
    obtain ⟨l_2, hl2, hr⟩ := Option.bind_eq_some_iff.mp hr
    obtain ⟨T2, h2, X2, e2, W2, A_2, st2⟩ := saJ X1 hx hZ e1 A1 hl2 (g := (mkF m 6 #[.val (.ref b0), .val (.long x1), .second] [(.long x1), (.int (0 : Int32)), (.ref b1)])) rfl rfl (hb hby d6_6)
    refine OwnOut.go (fun t k => st2 _ k) ?_
    have E0_2 := E0.wr W2
    have F0_times_2 := F0_times.other W2 (Or.inl ne0_1)
    have F0_clients_2 := F0_clients.other W2 (Or.inl ne0_1)
    have F0_size_2 := F0_size.other W2 (Or.inl ne0_1)
    have A2_2 := A2.other W2 (Ne.symm ne1_2)
    have N_2 := Fr.snoc X2 N0 g1
    have O_2 := O0.wr W2 g1
    have K_2 := K0.wr W2 (Or.inl (List.mem_of_getElem? (i := 0) rfl))
    show OwnOut p e s below 0 0 _ (T2.setTop (mkF m 7 #[.val (.ref b0), .val (.long x1), .second] []))
    refine OwnOut.go (fun t k => XS.aloadN X2.here hx rfl (hb hby d6_7) rfl rfl k) ?_
    show OwnOut p e s below 0 0 _ (T2.setTop (mkF m 8 #[.val (.ref b0), .val (.long x1), .second] [(.ref b0)]))
    obtain ⟨o3, ho3, hr⟩ := Option.bind_eq_some_iff.mp hr
    obtain ⟨r3, T3, L3, X3', hQ3, st3⟩ := callR (W := 0) (rm := rx7) X2 hx hZ (y := (⟨"com/example/porter_drive/porterdrive/RequestQueue", "siftDown", "()V"⟩ : MethodName)) hown (hw _ (List.mem_of_getElem? (i := 35) rfl)) (hw _ (List.mem_of_getElem? (i := 37) rfl)) (hw _ (List.mem_of_getElem? (i := 4) rfl)) (hw _ (List.mem_of_getElem? (i := 36) rfl)) (hw _ (List.mem_of_getElem? (i := 5) rfl)) (hw _ (List.mem_of_getElem? (i := 38) rfl)) (by decide) (rm7 l Z a0 hw [] b0 u0_size b1 l_2 b2 l2 h2 n0 o3 ho3 O_2 E0_2 F0_times_2 F0_clients_2 F0_size_2 A_2 A2_2 g0 g1 g2 ne0_1 ne0_2 ne1_2) (by decide) (by decide) (by decide) (by decide) e2 E0_2 (g := (mkF m 8 #[.val (.ref b0), .val (.long x1), .second] [(.ref b0)])) rfl (by rw [hml]; rfl) (argsL := []) (rest := []) (lenOf pd7 rfl) rfl (by show 2 * 0 + _ ≤ _; exact Nat.le_of_eq rfl) (hb hby d6_8)
    obtain ⟨rfl, Nq3, Kq3, A1_3, A2_3⟩ := hQ3
    have X3 : Stand p l e rx6 s m args below meth c T3 _ 0 0 := X3'
    have E0_3 := E0_2.keep Kq3
    have F0_times_3 := F0_times_2.keep Kq3 (ninS ne0_1 (ninS ne0_2 nin0))
    have F0_clients_3 := F0_clients_2.keep Kq3 (ninS ne0_1 (ninS ne0_2 nin0))
    have F0_size_3 := F0_size_2.keep Kq3 (ninS ne0_1 (ninS ne0_2 nin0))
    have N_3 := Fr.app N_2 Nq3
    have O_3 := O_2.keep Kq3 (allS g1 (allS g2 all0))
    have K_3 := K_2.trans Kq3 (allS (Or.inl (List.mem_of_getElem? (i := 0) rfl)) (allS (Or.inl (List.mem_of_getElem? (i := 1) rfl)) all0))
    refine OwnOut.go (fun t k => st3 _ k) ?_
    show OwnOut p e s below 0 0 _ (T3.setTop (mkF m 11 #[.val (.ref b0), .val (.long x1), .second] []))
    cases hr
    exact outV X3 hx hret (hb hby d6_11) hlk (by decide) (by decide) ⟨rfl, N_3, K_3, A1_3, A2_3⟩
set_option maxRecDepth 65536 in
set_option maxHeartbeats 40000000 in
theorem rm6 (l : Launch) (Z : State) (a0 : Array Value) (hw : ∀ d ∈ tables_1, d.before a0 Z = true) (ws : List Jvm.Cond) (x1 : Int64) (b0 : Addr) (u0_size : Int32) (b1 : Addr) (l1 : List Int64) (b2 : Addr) (l2 : List Int32) (h0 : Heap) (n0 : Nat) (o : List Int64 × List Int32) (hr : f6 x1 u0_size l1 l2 = some o) (O0 : Old Z n0 h0) (E0 : Exa Z h0 b0 "com/example/porter_drive/porterdrive/RequestQueue") (F0_times : Fld Z h0 b0 "com/example/porter_drive/porterdrive/RequestQueue" "times" "[J" (.ref b1)) (F0_clients : Fld Z h0 b0 "com/example/porter_drive/porterdrive/RequestQueue" "clients" "[I" (.ref b2)) (F0_size : Fld Z h0 b0 "com/example/porter_drive/porterdrive/RequestQueue" "size" "I" (.int u0_size)) (A1 : Arj Z h0 b1 l1) (A2 : Ari Z h0 b2 .int l2) (g0 : n0 ≤ b0) (g1 : n0 ≤ b1) (g2 : n0 ≤ b2) (ne0_1 : b0 ≠ b1) (ne0_2 : b0 ≠ b2) (ne1_2 : b1 ≠ b2) :
    MetFree l (⟨"com/example/porter_drive/porterdrive/RequestQueue", "delayFirst", "(J)V"⟩ : MethodName) (head1 (Jvm.Cond.code (⟨"com/example/porter_drive/porterdrive/RequestQueue", "delayFirst", "(J)V"⟩ : MethodName) prog_24_method_6_code 3 none :: ws) rx6) (fun a U => a = #[(.ref b0), (.long x1)] ∧ Z.Warmed39 U.vm ∧ U.heap = h0) (fun _ _ _ _ _ => True) (fun _ U o' U' => ∃ v L, o' = .returned v ∧ Q6 Z x1 b0 u0_size b1 l1 b2 l2 h0 n0 o v U'.heap L ∧ FrameEnd U o' U' L rx6.cells rx6.slots) := by
  refine MetFree.of_bodySF (plainFor_of_name pn6) hisR ?_
  intro p e s m args below meth c s₁ Bd hml0 hP hK
  obtain ⟨rfl, hZ, hh⟩ := hP
  have X0 : Stand p l e rx6 s m #[(.ref b0), (.long x1)] below meth c s₁ [] 0 0 := Stand.of_body Bd
  have e0 : s₁.heap = h0 := by rw [← hh, Bd.state]; rfl
  exact OwnOut.at (ef6 m b0 x1) (w6_0 ⟨Bd.exec, hZ, hw, Bd.bytes, hml0, findClass_of_methodNamed Bd.named, Bd.returns, Bd.notSynchronized, (name_of_methodNamed Bd.named Bd.method).1⟩ _ _ _ x1 b0 u0_size b1 l1 b2 l2 o hr X0 e0 (Fr.nil n0) O0 (Keep.refl _ _) E0 F0_times F0_clients F0_size A1 A2 g0 g1 g2 ne0_1 ne0_2 ne1_2)
-- body 9 as 9: com/example/porter_drive/porterdrive/RequestQueue.removeFirst:()V
theorem d9_0 : decode prog_24_method_5_code 0 = .ok (.aload_n 0, 1) := by decide +kernel
theorem d9_1 : decode prog_24_method_5_code 1 = .ok (.dup, 1) := by decide +kernel
theorem d9_2 : decode prog_24_method_5_code 2 = .ok (.getfield 17, 3) := by decide +kernel
theorem d9_5 : decode prog_24_method_5_code 5 = .ok (.iconst 1, 1) := by decide +kernel
theorem d9_6 : decode prog_24_method_5_code 6 = .ok (.isub, 1) := by decide +kernel
theorem d9_7 : decode prog_24_method_5_code 7 = .ok (.putfield 17, 3) := by decide +kernel
theorem d9_10 : decode prog_24_method_5_code 10 = .ok (.aload_n 0, 1) := by decide +kernel
theorem d9_11 : decode prog_24_method_5_code 11 = .ok (.getfield 7, 3) := by decide +kernel
theorem d9_14 : decode prog_24_method_5_code 14 = .ok (.iconst 0, 1) := by decide +kernel
theorem d9_15 : decode prog_24_method_5_code 15 = .ok (.aload_n 0, 1) := by decide +kernel
theorem d9_16 : decode prog_24_method_5_code 16 = .ok (.getfield 7, 3) := by decide +kernel
theorem d9_19 : decode prog_24_method_5_code 19 = .ok (.aload_n 0, 1) := by decide +kernel
theorem d9_20 : decode prog_24_method_5_code 20 = .ok (.getfield 17, 3) := by decide +kernel
theorem d9_23 : decode prog_24_method_5_code 23 = .ok (.laload, 1) := by decide +kernel
theorem d9_24 : decode prog_24_method_5_code 24 = .ok (.lastore, 1) := by decide +kernel
theorem d9_25 : decode prog_24_method_5_code 25 = .ok (.aload_n 0, 1) := by decide +kernel
theorem d9_26 : decode prog_24_method_5_code 26 = .ok (.getfield 13, 3) := by decide +kernel
theorem d9_29 : decode prog_24_method_5_code 29 = .ok (.iconst 0, 1) := by decide +kernel
theorem d9_30 : decode prog_24_method_5_code 30 = .ok (.aload_n 0, 1) := by decide +kernel
theorem d9_31 : decode prog_24_method_5_code 31 = .ok (.getfield 13, 3) := by decide +kernel
theorem d9_34 : decode prog_24_method_5_code 34 = .ok (.aload_n 0, 1) := by decide +kernel
theorem d9_35 : decode prog_24_method_5_code 35 = .ok (.getfield 17, 3) := by decide +kernel
theorem d9_38 : decode prog_24_method_5_code 38 = .ok (.iaload, 1) := by decide +kernel
theorem d9_39 : decode prog_24_method_5_code 39 = .ok (.iastore, 1) := by decide +kernel
theorem d9_40 : decode prog_24_method_5_code 40 = .ok (.aload_n 0, 1) := by decide +kernel
theorem d9_41 : decode prog_24_method_5_code 41 = .ok (.invokevirtual 21, 3) := by decide +kernel
theorem d9_44 : decode prog_24_method_5_code 44 = .ok (.return_, 1) := by decide +kernel
theorem pn9 : plainName "com/example/porter_drive/porterdrive/RequestQueue" = true := by first | (simp [plainName, overriddenIn]; done) | decide +kernel
theorem pd9 : parseMethodDescriptor "()V" = some ⟨[], none⟩ := by decide +kernel
theorem ef9 (m : MethodId) (b0 : Addr) : entryFrame m #[(.ref b0)] 1 = mkF m 0 #[.val (.ref b0)] [] := by first | (simp [entryFrame, mkF, argsToLocals, Value.category]; done) | rfl
abbrev rx9 : Room := { frames := 2, cells := 0, slots := 0, locals := 34 }
abbrev Cx9 (Z : State) (a0 : Array Value) (p : Program) (s : State) (m : MethodId) (meth : Method) (c : Code) : Prop := p.tables.exec = Jvm.exec ∧ Z.Warmed39 s.vm ∧ (∀ d ∈ tables_1, d.before a0 Z = true) ∧ c.code = prog_24_method_5_code ∧ c.maxLocals = 1 ∧ s.vm.findClass "com/example/porter_drive/porterdrive/RequestQueue" = some m.cls ∧ meth.sig.returnType = none ∧ meth.locks = false ∧ meth.name = "removeFirst"
def Q9 (Z : State) (b0 : Addr) (u0_size : Int32) (b1 : Addr) (l1 : List Int64) (b2 : Addr) (l2 : List Int32) (h0 : Heap) (n0 : Nat) (o : Int32 × List Int64 × List Int32) (v : Option Value) (h : Heap) (L : List Loc) : Prop := v = none ∧ Fr n0 L ∧ Keep h0 h [b0, b1, b2] ∧ Fld Z h b0 "com/example/porter_drive/porterdrive/RequestQueue" "times" "[J" (.ref b1) ∧ Fld Z h b0 "com/example/porter_drive/porterdrive/RequestQueue" "clients" "[I" (.ref b2) ∧ Fld Z h b0 "com/example/porter_drive/porterdrive/RequestQueue" "size" "I" (.int o.1) ∧ Arj Z h b1 o.2.1 ∧ Ari Z h b2 .int o.2.2
def f9 (u0_size : Int32) (l1 : List Int64) (l2 : List Int32) : Option (Int32 × List Int64 × List Int32) := ((ldx l1 (u0_size - (1 : Int32))).bind fun v6 => ((stx l1 (0 : Int32) v6).bind fun l_7 => ((ldx l2 (u0_size - (1 : Int32))).bind fun v11 => ((stx l2 (0 : Int32) v11).bind fun l_12 => ((f7 (u0_size - (1 : Int32)) l_7 l_12).bind fun o13 => some ((u0_size - (1 : Int32)), o13.1, o13.2))))))
set_option maxRecDepth 65536 in
set_option maxHeartbeats 40000000 in
theorem w9_0 {p : Program} {l : Launch} {e : Env} {s : State} {m : MethodId} {args : Array Value} {below : List Frame} {meth : Method} {c : Code} {Z : State} {a0 : Array Value} {h0 : Heap} {n0 : Nat} (C : Cx9 Z a0 p s m meth c) :
    ∀ (T : State) (locs : List Loc) (hA : Heap) (b0 : Addr) (u0_size : Int32) (b1 : Addr) (l1 : List Int64) (b2 : Addr) (l2 : List Int32) (o : Int32 × List Int64 × List Int32), f9 u0_size l1 l2 = some o → Stand p l e rx9 s m args below meth c T locs 0 0 → T.heap = hA → Fr n0 locs → Old Z n0 hA → Keep h0 hA [b0, b1, b2] → (Exa Z hA b0 "com/example/porter_drive/porterdrive/RequestQueue") → (Fld Z hA b0 "com/example/porter_drive/porterdrive/RequestQueue" "times" "[J" (.ref b1)) → (Fld Z hA b0 "com/example/porter_drive/porterdrive/RequestQueue" "clients" "[I" (.ref b2)) → (Fld Z hA b0 "com/example/porter_drive/porterdrive/RequestQueue" "size" "I" (.int u0_size)) → (Arj Z hA b1 l1) → (Ari Z hA b2 .int l2) → (n0 ≤ b0) → (n0 ≤ b1) → (n0 ≤ b2) → (b0 ≠ b1) → (b0 ≠ b2) → (b1 ≠ b2) →  OwnOut p e s below 0 0 (Q9 Z b0 default b1 [] b2 [] h0 n0 o) (T.setTop (mkF m 0 #[.val (.ref b0)] [])) := by
    obtain ⟨hx, hZ, hw, hby, hml, hown, hret, hlk, hnm⟩ := C
    intro T locs hA b0 u0_size b1 l1 b2 l2 o hr X0 e0 N0 O0 K0 E0 F0_times F0_clients F0_size A1 A2 g0 g1 g2 ne0_1 ne0_2 ne1_2
    rw [f9] at hr
    refine OwnOut.go (fun t k => XS.aloadN X0.here hx rfl (hb hby d9_0) rfl rfl k) ?_
    show OwnOut p e s below 0 0 _ (T.setTop (mkF m 1 #[.val (.ref b0)] [(.ref b0)]))
    refine OwnOut.go (fun t k => XS.dup X0.here hx rfl (hb hby d9_1) rfl rfl k) ?_
    show OwnOut p e s below 0 0 _ (T.setTop (mkF m 2 #[.val (.ref b0)] [(.ref b0), (.ref b0)]))
    obtain ⟨T1, X1, e1, st1⟩ := getF X0 hx hZ hown (host := "") (Or.inl (hw _ (List.mem_of_getElem? (i := 17) rfl))) Via.refl e0 F0_size (g := (mkF m 2 #[.val (.ref b0)] [(.ref b0), (.ref b0)])) rfl rfl (hb hby d9_2)
    refine OwnOut.go (fun t k => st1 _ k) ?_
    show OwnOut p e s below 0 0 _ (T1.setTop (mkF m 5 #[.val (.ref b0)] [(.int u0_size), (.ref b0)]))
    refine OwnOut.go (fun t k => XT.iconstV X1.here hx rfl (1 : Int32) (hb hby d9_5) rfl k) ?_
    show OwnOut p e s below 0 0 _ (T1.setTop (mkF m 6 #[.val (.ref b0)] [(.int (1 : Int32)), (.int u0_size), (.ref b0)]))
    refine OwnOut.go (fun t k => XS.isub X1.here hx rfl (hb hby d9_6) rfl k) ?_
    show OwnOut p e s below 0 0 _ (T1.setTop (mkF m 7 #[.val (.ref b0)] [(.int (u0_size - (1 : Int32))), (.ref b0)]))
    obtain ⟨T2, h2, X2, e2, W2, st2⟩ := putF X1 hx hZ hown (host := "") (Or.inl (hw _ (List.mem_of_getElem? (i := 17) rfl))) Via.refl e1 F0_size E0 (Or.inl (hw _ (List.mem_of_getElem? (i := 18) rfl))) (hw _ (List.mem_of_getElem? (i := 4) rfl)) (ty := .int) (by decide) rfl rfl (g := (mkF m 7 #[.val (.ref b0)] [(.int (u0_size - (1 : Int32))), (.ref b0)])) rfl rfl (hb hby d9_7)
    refine OwnOut.go (fun t k => st2 _ k) ?_
    have E0_2 := E0.wr W2
    have F0_times_2 := F0_times.other W2 (Or.inr (slot_ne (Or.inr (hw _ (List.mem_of_getElem? (i := 13) rfl))) (Or.inl (hw _ (List.mem_of_getElem? (i := 18) rfl))) (by decide) (t := (.array .long)) (t' := .int) (by decide) (by decide)))
    have F0_clients_2 := F0_clients.other W2 (Or.inr (slot_ne (Or.inr (hw _ (List.mem_of_getElem? (i := 16) rfl))) (Or.inl (hw _ (List.mem_of_getElem? (i := 18) rfl))) (by decide) (t := (.array .int)) (t' := .int) (by decide) (by decide)))
    have F0_size_2 := F0_size.same W2
    have A1_2 := A1.other W2 (Ne.symm ne0_1)
    have A2_2 := A2.other W2 (Ne.symm ne0_2)
    have N_2 := Fr.snoc X2 N0 g0
    have O_2 := O0.wr W2 g0
    have K_2 := K0.wr W2 (Or.inl (List.mem_of_getElem? (i := 0) rfl))
    show OwnOut p e s below 0 0 _ (T2.setTop (mkF m 10 #[.val (.ref b0)] []))
    refine OwnOut.go (fun t k => XS.aloadN X2.here hx rfl (hb hby d9_10) rfl rfl k) ?_
    show OwnOut p e s below 0 0 _ (T2.setTop (mkF m 11 #[.val (.ref b0)] [(.ref b0)]))
    obtain ⟨T3, X3, e3, st3⟩ := getF X2 hx hZ hown (host := "") (Or.inl (hw _ (List.mem_of_getElem? (i := 12) rfl))) Via.refl e2 F0_times_2 (g := (mkF m 11 #[.val (.ref b0)] [(.ref b0)])) rfl rfl (hb hby d9_11)
    refine OwnOut.go (fun t k => st3 _ k) ?_
    show OwnOut p e s below 0 0 _ (T3.setTop (mkF m 14 #[.val (.ref b0)] [(.ref b1)]))
    refine OwnOut.go (fun t k => XT.iconstV X3.here hx rfl (0 : Int32) (hb hby d9_14) rfl k) ?_
    show OwnOut p e s below 0 0 _ (T3.setTop (mkF m 15 #[.val (.ref b0)] [(.int (0 : Int32)), (.ref b1)]))
    refine OwnOut.go (fun t k => XS.aloadN X3.here hx rfl (hb hby d9_15) rfl rfl k) ?_
    show OwnOut p e s below 0 0 _ (T3.setTop (mkF m 16 #[.val (.ref b0)] [(.ref b0), (.int (0 : Int32)), (.ref b1)]))
    obtain ⟨T4, X4, e4, st4⟩ := getF X3 hx hZ hown (host := "") (Or.inl (hw _ (List.mem_of_getElem? (i := 12) rfl))) Via.refl e3 F0_times_2 (g := (mkF m 16 #[.val (.ref b0)] [(.ref b0), (.int (0 : Int32)), (.ref b1)])) rfl rfl (hb hby d9_16)
    refine OwnOut.go (fun t k => st4 _ k) ?_
    show OwnOut p e s below 0 0 _ (T4.setTop (mkF m 19 #[.val (.ref b0)] [(.ref b1), (.int (0 : Int32)), (.ref b1)]))
    refine OwnOut.go (fun t k => XS.aloadN X4.here hx rfl (hb hby d9_19) rfl rfl k) ?_
    show OwnOut p e s below 0 0 _ (T4.setTop (mkF m 20 #[.val (.ref b0)] [(.ref b0), (.ref b1), (.int (0 : Int32)), (.ref b1)]))
    obtain ⟨T5, X5, e5, st5⟩ := getF X4 hx hZ hown (host := "") (Or.inl (hw _ (List.mem_of_getElem? (i := 17) rfl))) Via.refl e4 F0_size_2 (g := (mkF m 20 #[.val (.ref b0)] [(.ref b0), (.ref b1), (.int (0 : Int32)), (.ref b1)])) rfl rfl (hb hby d9_20)
    refine OwnOut.go (fun t k => st5 _ k) ?_
    show OwnOut p e s below 0 0 _ (T5.setTop (mkF m 23 #[.val (.ref b0)] [(.int (u0_size - (1 : Int32))), (.ref b1), (.int (0 : Int32)), (.ref b1)]))
    obtain ⟨v6, hv6, hr⟩ := Option.bind_eq_some_iff.mp hr
    refine OwnOut.go (fun t k => ldJ X5 hx hZ e5 A1_2 hv6 (g := (mkF m 23 #[.val (.ref b0)] [(.int (u0_size - (1 : Int32))), (.ref b1), (.int (0 : Int32)), (.ref b1)])) rfl rfl (hb hby d9_23) t k) ?_
    show OwnOut p e s below 0 0 _ (T5.setTop (mkF m 24 #[.val (.ref b0)] [(.long v6), (.int (0 : Int32)), (.ref b1)]))
    obtain ⟨l_7, hl7, hr⟩ := Option.bind_eq_some_iff.mp hr
    obtain ⟨T7, h7, X7, e7, W7, A_7, st7⟩ := saJ X5 hx hZ e5 A1_2 hl7 (g := (mkF m 24 #[.val (.ref b0)] [(.long v6), (.int (0 : Int32)), (.ref b1)])) rfl rfl (hb hby d9_24)
    refine OwnOut.go (fun t k => st7 _ k) ?_
    have E0_7 := E0_2.wr W7
    have F0_times_7 := F0_times_2.other W7 (Or.inl ne0_1)
    have F0_clients_7 := F0_clients_2.other W7 (Or.inl ne0_1)
    have F0_size_7 := F0_size_2.other W7 (Or.inl ne0_1)
    have A2_7 := A2_2.other W7 (Ne.symm ne1_2)
    have N_7 := Fr.snoc X7 N_2 g1
    have O_7 := O_2.wr W7 g1
    have K_7 := K_2.wr W7 (Or.inl (List.mem_of_getElem? (i := 1) rfl))
    show OwnOut p e s below 0 0 _ (T7.setTop (mkF m 25 #[.val (.ref b0)] []))
    refine OwnOut.go (fun t k => XS.aloadN X7.here hx rfl (hb hby d9_25) rfl rfl k) ?_
    show OwnOut p e s below 0 0 _ (T7.setTop (mkF m 26 #[.val (.ref b0)] [(.ref b0)]))
    obtain ⟨T8, X8, e8, st8⟩ := getF X7 hx hZ hown (host := "") (Or.inl (hw _ (List.mem_of_getElem? (i := 15) rfl))) Via.refl e7 F0_clients_7 (g := (mkF m 26 #[.val (.ref b0)] [(.ref b0)])) rfl rfl (hb hby d9_26)
    refine OwnOut.go (fun t k => st8 _ k) ?_
    show OwnOut p e s below 0 0 _ (T8.setTop (mkF m 29 #[.val (.ref b0)] [(.ref b2)]))
    refine OwnOut.go (fun t k => XT.iconstV X8.here hx rfl (0 : Int32) (hb hby d9_29) rfl k) ?_
    show OwnOut p e s below 0 0 _ (T8.setTop (mkF m 30 #[.val (.ref b0)] [(.int (0 : Int32)), (.ref b2)]))
    refine OwnOut.go (fun t k => XS.aloadN X8.here hx rfl (hb hby d9_30) rfl rfl k) ?_
    show OwnOut p e s below 0 0 _ (T8.setTop (mkF m 31 #[.val (.ref b0)] [(.ref b0), (.int (0 : Int32)), (.ref b2)]))
    obtain ⟨T9, X9, e9, st9⟩ := getF X8 hx hZ hown (host := "") (Or.inl (hw _ (List.mem_of_getElem? (i := 15) rfl))) Via.refl e8 F0_clients_7 (g := (mkF m 31 #[.val (.ref b0)] [(.ref b0), (.int (0 : Int32)), (.ref b2)])) rfl rfl (hb hby d9_31)
    refine OwnOut.go (fun t k => st9 _ k) ?_
    show OwnOut p e s below 0 0 _ (T9.setTop (mkF m 34 #[.val (.ref b0)] [(.ref b2), (.int (0 : Int32)), (.ref b2)]))
    refine OwnOut.go (fun t k => XS.aloadN X9.here hx rfl (hb hby d9_34) rfl rfl k) ?_
    show OwnOut p e s below 0 0 _ (T9.setTop (mkF m 35 #[.val (.ref b0)] [(.ref b0), (.ref b2), (.int (0 : Int32)), (.ref b2)]))
    obtain ⟨T10, X10, e10, st10⟩ := getF X9 hx hZ hown (host := "") (Or.inl (hw _ (List.mem_of_getElem? (i := 17) rfl))) Via.refl e9 F0_size_7 (g := (mkF m 35 #[.val (.ref b0)] [(.ref b0), (.ref b2), (.int (0 : Int32)), (.ref b2)])) rfl rfl (hb hby d9_35)
    refine OwnOut.go (fun t k => st10 _ k) ?_
    show OwnOut p e s below 0 0 _ (T10.setTop (mkF m 38 #[.val (.ref b0)] [(.int (u0_size - (1 : Int32))), (.ref b2), (.int (0 : Int32)), (.ref b2)]))
    obtain ⟨v11, hv11, hr⟩ := Option.bind_eq_some_iff.mp hr
    refine OwnOut.go (fun t k => ldI X10 hx hZ e10 A2_7 hv11 (g := (mkF m 38 #[.val (.ref b0)] [(.int (u0_size - (1 : Int32))), (.ref b2), (.int (0 : Int32)), (.ref b2)])) rfl rfl (hb hby d9_38) t k) ?_
    show OwnOut p e s below 0 0 _ (T10.setTop (mkF m 39 #[.val (.ref b0)] [(.int v11), (.int (0 : Int32)), (.ref b2)]))
    obtain ⟨l_12, hl12, hr⟩ := Option.bind_eq_some_iff.mp hr
    obtain ⟨T12, h12, X12, e12, W12, A_12, st12⟩ := saI X10 hx hZ e10 A2_7 hl12 (g := (mkF m 39 #[.val (.ref b0)] [(.int v11), (.int (0 : Int32)), (.ref b2)])) rfl rfl (hb hby d9_39)
    refine OwnOut.go (fun t k => st12 _ k) ?_
    have E0_12 := E0_7.wr W12
    have F0_times_12 := F0_times_7.other W12 (Or.inl ne0_2)
    have F0_clients_12 := F0_clients_7.other W12 (Or.inl ne0_2)
    have F0_size_12 := F0_size_7.other W12 (Or.inl ne0_2)
    have A1_12 := A_7.other W12 ne1_2
    have N_12 := Fr.snoc X12 N_7 g2
    have O_12 := O_7.wr W12 g2
    have K_12 := K_7.wr W12 (Or.inl (List.mem_of_getElem? (i := 2) rfl))
    show OwnOut p e s below 0 0 _ (T12.setTop (mkF m 40 #[.val (.ref b0)] []))
    refine OwnOut.go (fun t k => XS.aloadN X12.here hx rfl (hb hby d9_40) rfl rfl k) ?_
    show OwnOut p e s below 0 0 _ (T12.setTop (mkF m 41 #[.val (.ref b0)] [(.ref b0)]))
    obtain ⟨o13, ho13, hr⟩ := Option.bind_eq_some_iff.mp hr
    obtain ⟨r13, T13, L13, X13', hQ13, st13⟩ := callR (W := 0) (rm := rx7) X12 hx hZ (y := (⟨"com/example/porter_drive/porterdrive/RequestQueue", "siftDown", "()V"⟩ : MethodName)) hown (hw _ (List.mem_of_getElem? (i := 35) rfl)) (hw _ (List.mem_of_getElem? (i := 37) rfl)) (hw _ (List.mem_of_getElem? (i := 4) rfl)) (hw _ (List.mem_of_getElem? (i := 36) rfl)) (hw _ (List.mem_of_getElem? (i := 5) rfl)) (hw _ (List.mem_of_getElem? (i := 38) rfl)) (by decide) (rm7 l Z a0 hw [] b0 (u0_size - (1 : Int32)) b1 l_7 b2 l_12 h12 n0 o13 ho13 O_12 E0_12 F0_times_12 F0_clients_12 F0_size_12 A1_12 A_12 g0 g1 g2 ne0_1 ne0_2 ne1_2) (by decide) (by decide) (by decide) (by decide) e12 E0_12 (g := (mkF m 41 #[.val (.ref b0)] [(.ref b0)])) rfl (by rw [hml]; rfl) (argsL := []) (rest := []) (lenOf pd7 rfl) rfl (by show 2 * 0 + _ ≤ _; exact Nat.le_of_eq rfl) (hb hby d9_41)
    obtain ⟨rfl, Nq13, Kq13, A1_13, A2_13⟩ := hQ13
    have X13 : Stand p l e rx9 s m args below meth c T13 _ 0 0 := X13'
    have E0_13 := E0_12.keep Kq13
    have F0_times_13 := F0_times_12.keep Kq13 (ninS ne0_1 (ninS ne0_2 nin0))
    have F0_clients_13 := F0_clients_12.keep Kq13 (ninS ne0_1 (ninS ne0_2 nin0))
    have F0_size_13 := F0_size_12.keep Kq13 (ninS ne0_1 (ninS ne0_2 nin0))
    have N_13 := Fr.app N_12 Nq13
    have O_13 := O_12.keep Kq13 (allS g1 (allS g2 all0))
    have K_13 := K_12.trans Kq13 (allS (Or.inl (List.mem_of_getElem? (i := 1) rfl)) (allS (Or.inl (List.mem_of_getElem? (i := 2) rfl)) all0))
    refine OwnOut.go (fun t k => st13 _ k) ?_
    show OwnOut p e s below 0 0 _ (T13.setTop (mkF m 44 #[.val (.ref b0)] []))
    cases hr
    exact outV X13 hx hret (hb hby d9_44) hlk (by decide) (by decide) ⟨rfl, N_13, K_13, F0_times_13, F0_clients_13, F0_size_13, A1_13, A2_13⟩
set_option maxRecDepth 65536 in
set_option maxHeartbeats 40000000 in
theorem rm9 (l : Launch) (Z : State) (a0 : Array Value) (hw : ∀ d ∈ tables_1, d.before a0 Z = true) (ws : List Jvm.Cond) (b0 : Addr) (u0_size : Int32) (b1 : Addr) (l1 : List Int64) (b2 : Addr) (l2 : List Int32) (h0 : Heap) (n0 : Nat) (o : Int32 × List Int64 × List Int32) (hr : f9 u0_size l1 l2 = some o) (O0 : Old Z n0 h0) (E0 : Exa Z h0 b0 "com/example/porter_drive/porterdrive/RequestQueue") (F0_times : Fld Z h0 b0 "com/example/porter_drive/porterdrive/RequestQueue" "times" "[J" (.ref b1)) (F0_clients : Fld Z h0 b0 "com/example/porter_drive/porterdrive/RequestQueue" "clients" "[I" (.ref b2)) (F0_size : Fld Z h0 b0 "com/example/porter_drive/porterdrive/RequestQueue" "size" "I" (.int u0_size)) (A1 : Arj Z h0 b1 l1) (A2 : Ari Z h0 b2 .int l2) (g0 : n0 ≤ b0) (g1 : n0 ≤ b1) (g2 : n0 ≤ b2) (ne0_1 : b0 ≠ b1) (ne0_2 : b0 ≠ b2) (ne1_2 : b1 ≠ b2) :
    MetFree l (⟨"com/example/porter_drive/porterdrive/RequestQueue", "removeFirst", "()V"⟩ : MethodName) (head1 (Jvm.Cond.code (⟨"com/example/porter_drive/porterdrive/RequestQueue", "removeFirst", "()V"⟩ : MethodName) prog_24_method_5_code 1 none :: ws) rx9) (fun a U => a = #[(.ref b0)] ∧ Z.Warmed39 U.vm ∧ U.heap = h0) (fun _ _ _ _ _ => True) (fun _ U o' U' => ∃ v L, o' = .returned v ∧ Q9 Z b0 u0_size b1 l1 b2 l2 h0 n0 o v U'.heap L ∧ FrameEnd U o' U' L rx9.cells rx9.slots) := by
  refine MetFree.of_bodySF (plainFor_of_name pn9) hisR ?_
  intro p e s m args below meth c s₁ Bd hml0 hP hK
  obtain ⟨rfl, hZ, hh⟩ := hP
  have X0 : Stand p l e rx9 s m #[(.ref b0)] below meth c s₁ [] 0 0 := Stand.of_body Bd
  have e0 : s₁.heap = h0 := by rw [← hh, Bd.state]; rfl
  exact OwnOut.at (ef9 m b0) (w9_0 ⟨Bd.exec, hZ, hw, Bd.bytes, hml0, findClass_of_methodNamed Bd.named, Bd.returns, Bd.notSynchronized, (name_of_methodNamed Bd.named Bd.method).1⟩ _ _ _ b0 u0_size b1 l1 b2 l2 o hr X0 e0 (Fr.nil n0) O0 (Keep.refl _ _) E0 F0_times F0_clients F0_size A1 A2 g0 g1 g2 ne0_1 ne0_2 ne1_2)
-- body 10 as 10: com/example/porter_drive/porterdrive/RequestQueue.firstClient:()I (touches nothing)
theorem d10_0 : decode prog_24_method_4_code 0 = .ok (.aload_n 0, 1) := by decide +kernel
theorem d10_1 : decode prog_24_method_4_code 1 = .ok (.getfield 13, 3) := by decide +kernel
theorem d10_4 : decode prog_24_method_4_code 4 = .ok (.iconst 0, 1) := by decide +kernel
theorem d10_5 : decode prog_24_method_4_code 5 = .ok (.iaload, 1) := by decide +kernel
theorem d10_6 : decode prog_24_method_4_code 6 = .ok (.ireturn, 1) := by decide +kernel
theorem pn10 : plainName "com/example/porter_drive/porterdrive/RequestQueue" = true := by first | (simp [plainName, overriddenIn]; done) | decide +kernel
theorem pd10 : parseMethodDescriptor "()I" = some ⟨[], some .int⟩ := by decide +kernel
theorem ef10 (m : MethodId) (b0 : Addr) : entryFrame m #[(.ref b0)] 1 = mkF m 0 #[.val (.ref b0)] [] := by first | (simp [entryFrame, mkF, argsToLocals, Value.category]; done) | rfl
abbrev rx10 : Room := { frames := 0, cells := 0, slots := 0, locals := 0 }
abbrev Cx10 (Z : State) (a0 : Array Value) (p : Program) (s : State) (m : MethodId) (meth : Method) (c : Code) : Prop := p.tables.exec = Jvm.exec ∧ Z.Warmed39 s.vm ∧ (∀ d ∈ tables_1, d.before a0 Z = true) ∧ c.code = prog_24_method_4_code ∧ c.maxLocals = 1 ∧ s.vm.findClass "com/example/porter_drive/porterdrive/RequestQueue" = some m.cls ∧ meth.sig.returnType = (some .int) ∧ meth.locks = false ∧ meth.name = "firstClient"
def Q10 (Z : State) (b0 : Addr) (u0_size : Int32) (b1 : Addr) (l1 : List Int64) (b2 : Addr) (l2 : List Int32) (h0 : Heap) (o : Int32) (v : Option Value) (h : Heap) (L : List Loc) : Prop := v = some (.int o) ∧ h = h0 ∧ L = []
def f10 (u0_size : Int32) (l1 : List Int64) (l2 : List Int32) : Option (Int32) := ((ldx l2 (0 : Int32)).bind fun v2 => some (v2))
set_option maxRecDepth 65536 in
set_option maxHeartbeats 40000000 in
theorem w10_0 {p : Program} {l : Launch} {e : Env} {s : State} {m : MethodId} {args : Array Value} {below : List Frame} {meth : Method} {c : Code} {Z : State} {a0 : Array Value} {h0 : Heap} (C : Cx10 Z a0 p s m meth c) :
    ∀ (T : State) (b0 : Addr) (u0_size : Int32) (b1 : Addr) (l1 : List Int64) (b2 : Addr) (l2 : List Int32) (o : Int32), f10 u0_size l1 l2 = some o → Stand p l e rx10 s m args below meth c T [] 0 0 → T.heap = h0 → (Exa Z h0 b0 "com/example/porter_drive/porterdrive/RequestQueue") → (Fld Z h0 b0 "com/example/porter_drive/porterdrive/RequestQueue" "times" "[J" (.ref b1)) → (Fld Z h0 b0 "com/example/porter_drive/porterdrive/RequestQueue" "clients" "[I" (.ref b2)) → (Fld Z h0 b0 "com/example/porter_drive/porterdrive/RequestQueue" "size" "I" (.int u0_size)) → (Arj Z h0 b1 l1) → (Ari Z h0 b2 .int l2) →  OwnOut p e s below 0 0 (Q10 Z b0 u0_size b1 l1 b2 l2 h0 o) (T.setTop (mkF m 0 #[.val (.ref b0)] [])) := by
    obtain ⟨hx, hZ, hw, hby, hml, hown, hret, hlk, hnm⟩ := C
    intro T b0 u0_size b1 l1 b2 l2 o hr X0 e0 E0 F0_times F0_clients F0_size A1 A2
    rw [f10] at hr
    refine OwnOut.go (fun t k => XS.aloadN X0.here hx rfl (hb hby d10_0) rfl rfl k) ?_
    show OwnOut p e s below 0 0 _ (T.setTop (mkF m 1 #[.val (.ref b0)] [(.ref b0)]))
    obtain ⟨T1, X1, e1, st1⟩ := getF X0 hx hZ hown (host := "") (Or.inl (hw _ (List.mem_of_getElem? (i := 15) rfl))) Via.refl e0 F0_clients (g := (mkF m 1 #[.val (.ref b0)] [(.ref b0)])) rfl rfl (hb hby d10_1)
    refine OwnOut.go (fun t k => st1 _ k) ?_
    show OwnOut p e s below 0 0 _ (T1.setTop (mkF m 4 #[.val (.ref b0)] [(.ref b2)]))
    refine OwnOut.go (fun t k => XT.iconstV X1.here hx rfl (0 : Int32) (hb hby d10_4) rfl k) ?_
    show OwnOut p e s below 0 0 _ (T1.setTop (mkF m 5 #[.val (.ref b0)] [(.int (0 : Int32)), (.ref b2)]))
    obtain ⟨v2, hv2, hr⟩ := Option.bind_eq_some_iff.mp hr
    refine OwnOut.go (fun t k => ldI X1 hx hZ e1 A2 hv2 (g := (mkF m 5 #[.val (.ref b0)] [(.int (0 : Int32)), (.ref b2)])) rfl rfl (hb hby d10_5) t k) ?_
    show OwnOut p e s below 0 0 _ (T1.setTop (mkF m 6 #[.val (.ref b0)] [(.int v2)]))
    cases hr
    exact outI X1 hx hret (hb hby d10_6) hlk (by decide) (by decide) ⟨rfl, e1, rfl⟩
set_option maxRecDepth 65536 in
set_option maxHeartbeats 40000000 in
theorem rm10 (l : Launch) (Z : State) (a0 : Array Value) (hw : ∀ d ∈ tables_1, d.before a0 Z = true) (ws : List Jvm.Cond) (b0 : Addr) (u0_size : Int32) (b1 : Addr) (l1 : List Int64) (b2 : Addr) (l2 : List Int32) (h0 : Heap) (o : Int32) (hr : f10 u0_size l1 l2 = some o) (E0 : Exa Z h0 b0 "com/example/porter_drive/porterdrive/RequestQueue") (F0_times : Fld Z h0 b0 "com/example/porter_drive/porterdrive/RequestQueue" "times" "[J" (.ref b1)) (F0_clients : Fld Z h0 b0 "com/example/porter_drive/porterdrive/RequestQueue" "clients" "[I" (.ref b2)) (F0_size : Fld Z h0 b0 "com/example/porter_drive/porterdrive/RequestQueue" "size" "I" (.int u0_size)) (A1 : Arj Z h0 b1 l1) (A2 : Ari Z h0 b2 .int l2) :
    MetFree l (⟨"com/example/porter_drive/porterdrive/RequestQueue", "firstClient", "()I"⟩ : MethodName) (head1 (Jvm.Cond.code (⟨"com/example/porter_drive/porterdrive/RequestQueue", "firstClient", "()I"⟩ : MethodName) prog_24_method_4_code 1 (some .int) :: ws) rx10) (fun a U => a = #[(.ref b0)] ∧ Z.Warmed39 U.vm ∧ U.heap = h0) (fun _ _ _ _ _ => True) (fun _ U o' U' => ∃ v L, o' = .returned v ∧ Q10 Z b0 u0_size b1 l1 b2 l2 h0 o v U'.heap L ∧ FrameEnd U o' U' L rx10.cells rx10.slots) := by
  refine MetFree.of_bodySF (plainFor_of_name pn10) hisR ?_
  intro p e s m args below meth c s₁ Bd hml0 hP hK
  obtain ⟨rfl, hZ, hh⟩ := hP
  have X0 : Stand p l e rx10 s m #[(.ref b0)] below meth c s₁ [] 0 0 := Stand.of_body Bd
  have e0 : s₁.heap = h0 := by rw [← hh, Bd.state]; rfl
  exact OwnOut.at (ef10 m b0) (w10_0 ⟨Bd.exec, hZ, hw, Bd.bytes, hml0, findClass_of_methodNamed Bd.named, Bd.returns, Bd.notSynchronized, (name_of_methodNamed Bd.named Bd.method).1⟩ _ b0 u0_size b1 l1 b2 l2 o hr X0 e0  E0 F0_times F0_clients F0_size A1 A2)
-- body 11 as 11: com/example/porter_drive/porterdrive/RequestQueue.firstTime:()J (touches nothing)
theorem d11_0 : decode prog_24_method_3_code 0 = .ok (.aload_n 0, 1) := by decide +kernel
theorem d11_1 : decode prog_24_method_3_code 1 = .ok (.getfield 7, 3) := by decide +kernel
theorem d11_4 : decode prog_24_method_3_code 4 = .ok (.iconst 0, 1) := by decide +kernel
theorem d11_5 : decode prog_24_method_3_code 5 = .ok (.laload, 1) := by decide +kernel
theorem d11_6 : decode prog_24_method_3_code 6 = .ok (.lreturn, 1) := by decide +kernel
theorem pn11 : plainName "com/example/porter_drive/porterdrive/RequestQueue" = true := by first | (simp [plainName, overriddenIn]; done) | decide +kernel
theorem pd11 : parseMethodDescriptor "()J" = some ⟨[], some .long⟩ := by decide +kernel
theorem ef11 (m : MethodId) (b0 : Addr) : entryFrame m #[(.ref b0)] 1 = mkF m 0 #[.val (.ref b0)] [] := by first | (simp [entryFrame, mkF, argsToLocals, Value.category]; done) | rfl
abbrev rx11 : Room := { frames := 0, cells := 0, slots := 0, locals := 0 }
abbrev Cx11 (Z : State) (a0 : Array Value) (p : Program) (s : State) (m : MethodId) (meth : Method) (c : Code) : Prop := p.tables.exec = Jvm.exec ∧ Z.Warmed39 s.vm ∧ (∀ d ∈ tables_1, d.before a0 Z = true) ∧ c.code = prog_24_method_3_code ∧ c.maxLocals = 1 ∧ s.vm.findClass "com/example/porter_drive/porterdrive/RequestQueue" = some m.cls ∧ meth.sig.returnType = (some .long) ∧ meth.locks = false ∧ meth.name = "firstTime"
def Q11 (Z : State) (b0 : Addr) (u0_size : Int32) (b1 : Addr) (l1 : List Int64) (b2 : Addr) (l2 : List Int32) (h0 : Heap) (o : Int64) (v : Option Value) (h : Heap) (L : List Loc) : Prop := v = some (.long o) ∧ h = h0 ∧ L = []
def f11 (u0_size : Int32) (l1 : List Int64) (l2 : List Int32) : Option (Int64) := ((ldx l1 (0 : Int32)).bind fun v2 => some (v2))
set_option maxRecDepth 65536 in
set_option maxHeartbeats 40000000 in
theorem w11_0 {p : Program} {l : Launch} {e : Env} {s : State} {m : MethodId} {args : Array Value} {below : List Frame} {meth : Method} {c : Code} {Z : State} {a0 : Array Value} {h0 : Heap} (C : Cx11 Z a0 p s m meth c) :
    ∀ (T : State) (b0 : Addr) (u0_size : Int32) (b1 : Addr) (l1 : List Int64) (b2 : Addr) (l2 : List Int32) (o : Int64), f11 u0_size l1 l2 = some o → Stand p l e rx11 s m args below meth c T [] 0 0 → T.heap = h0 → (Exa Z h0 b0 "com/example/porter_drive/porterdrive/RequestQueue") → (Fld Z h0 b0 "com/example/porter_drive/porterdrive/RequestQueue" "times" "[J" (.ref b1)) → (Fld Z h0 b0 "com/example/porter_drive/porterdrive/RequestQueue" "clients" "[I" (.ref b2)) → (Fld Z h0 b0 "com/example/porter_drive/porterdrive/RequestQueue" "size" "I" (.int u0_size)) → (Arj Z h0 b1 l1) → (Ari Z h0 b2 .int l2) →  OwnOut p e s below 0 0 (Q11 Z b0 u0_size b1 l1 b2 l2 h0 o) (T.setTop (mkF m 0 #[.val (.ref b0)] [])) := by
    obtain ⟨hx, hZ, hw, hby, hml, hown, hret, hlk, hnm⟩ := C
    intro T b0 u0_size b1 l1 b2 l2 o hr X0 e0 E0 F0_times F0_clients F0_size A1 A2
    rw [f11] at hr
    refine OwnOut.go (fun t k => XS.aloadN X0.here hx rfl (hb hby d11_0) rfl rfl k) ?_
    show OwnOut p e s below 0 0 _ (T.setTop (mkF m 1 #[.val (.ref b0)] [(.ref b0)]))
    obtain ⟨T1, X1, e1, st1⟩ := getF X0 hx hZ hown (host := "") (Or.inl (hw _ (List.mem_of_getElem? (i := 12) rfl))) Via.refl e0 F0_times (g := (mkF m 1 #[.val (.ref b0)] [(.ref b0)])) rfl rfl (hb hby d11_1)
    refine OwnOut.go (fun t k => st1 _ k) ?_
    show OwnOut p e s below 0 0 _ (T1.setTop (mkF m 4 #[.val (.ref b0)] [(.ref b1)]))
    refine OwnOut.go (fun t k => XT.iconstV X1.here hx rfl (0 : Int32) (hb hby d11_4) rfl k) ?_
    show OwnOut p e s below 0 0 _ (T1.setTop (mkF m 5 #[.val (.ref b0)] [(.int (0 : Int32)), (.ref b1)]))
    obtain ⟨v2, hv2, hr⟩ := Option.bind_eq_some_iff.mp hr
    refine OwnOut.go (fun t k => ldJ X1 hx hZ e1 A1 hv2 (g := (mkF m 5 #[.val (.ref b0)] [(.int (0 : Int32)), (.ref b1)])) rfl rfl (hb hby d11_5) t k) ?_
    show OwnOut p e s below 0 0 _ (T1.setTop (mkF m 6 #[.val (.ref b0)] [(.long v2)]))
    cases hr
    exact outJ X1 hx hret (hb hby d11_6) hlk (by decide) (by decide) ⟨rfl, e1, rfl⟩
set_option maxRecDepth 65536 in
set_option maxHeartbeats 40000000 in
theorem rm11 (l : Launch) (Z : State) (a0 : Array Value) (hw : ∀ d ∈ tables_1, d.before a0 Z = true) (ws : List Jvm.Cond) (b0 : Addr) (u0_size : Int32) (b1 : Addr) (l1 : List Int64) (b2 : Addr) (l2 : List Int32) (h0 : Heap) (o : Int64) (hr : f11 u0_size l1 l2 = some o) (E0 : Exa Z h0 b0 "com/example/porter_drive/porterdrive/RequestQueue") (F0_times : Fld Z h0 b0 "com/example/porter_drive/porterdrive/RequestQueue" "times" "[J" (.ref b1)) (F0_clients : Fld Z h0 b0 "com/example/porter_drive/porterdrive/RequestQueue" "clients" "[I" (.ref b2)) (F0_size : Fld Z h0 b0 "com/example/porter_drive/porterdrive/RequestQueue" "size" "I" (.int u0_size)) (A1 : Arj Z h0 b1 l1) (A2 : Ari Z h0 b2 .int l2) :
    MetFree l (⟨"com/example/porter_drive/porterdrive/RequestQueue", "firstTime", "()J"⟩ : MethodName) (head1 (Jvm.Cond.code (⟨"com/example/porter_drive/porterdrive/RequestQueue", "firstTime", "()J"⟩ : MethodName) prog_24_method_3_code 1 (some .long) :: ws) rx11) (fun a U => a = #[(.ref b0)] ∧ Z.Warmed39 U.vm ∧ U.heap = h0) (fun _ _ _ _ _ => True) (fun _ U o' U' => ∃ v L, o' = .returned v ∧ Q11 Z b0 u0_size b1 l1 b2 l2 h0 o v U'.heap L ∧ FrameEnd U o' U' L rx11.cells rx11.slots) := by
  refine MetFree.of_bodySF (plainFor_of_name pn11) hisR ?_
  intro p e s m args below meth c s₁ Bd hml0 hP hK
  obtain ⟨rfl, hZ, hh⟩ := hP
  have X0 : Stand p l e rx11 s m #[(.ref b0)] below meth c s₁ [] 0 0 := Stand.of_body Bd
  have e0 : s₁.heap = h0 := by rw [← hh, Bd.state]; rfl
  exact OwnOut.at (ef11 m b0) (w11_0 ⟨Bd.exec, hZ, hw, Bd.bytes, hml0, findClass_of_methodNamed Bd.named, Bd.returns, Bd.notSynchronized, (name_of_methodNamed Bd.named Bd.method).1⟩ _ b0 u0_size b1 l1 b2 l2 o hr X0 e0  E0 F0_times F0_clients F0_size A1 A2)
-- body 0 as 0: com/example/porter_drive/porterdrive/RequestQueueRemoveFirstPinLaw.law:(JJJJI)Z
theorem pn0 : plainName "com/example/porter_drive/porterdrive/RequestQueueRemoveFirstPinLaw" = true := by first | (simp [plainName, overriddenIn]; done) | decide +kernel
theorem pd0 : parseMethodDescriptor "(JJJJI)Z" = some ⟨[.long, .long, .long, .long, .int], some .boolean⟩ := by decide +kernel
theorem ef0 (m : MethodId) (x0 : Int64) (x2 : Int64) (x4 : Int64) (x6 : Int64) (x8 : Int32) : entryFrame m #[(.long x0), (.long x2), (.long x4), (.long x6), (.int x8)] maxLocals = mkF m 0 #[.val (.long x0), .second, .val (.long x2), .second, .val (.long x4), .second, .val (.long x6), .second, .val (.int x8), .unset, .unset, .unset, .unset, .unset, .unset, .unset, .unset, .unset] [] := by first | (simp [entryFrame, mkF, argsToLocals, Value.category, maxLocals]; done) | rfl
abbrev Cx0 (Z : State) (a0 : Array Value) (p : Program) (s : State) (m : MethodId) (meth : Method) (c : Code) : Prop := p.tables.exec = Jvm.exec ∧ Z.Warmed39 s.vm ∧ (∀ d ∈ tables_1, d.before a0 Z = true) ∧ c.code = code ∧ c.maxLocals = 18 ∧ s.vm.findClass "com/example/porter_drive/porterdrive/RequestQueueRemoveFirstPinLaw" = some m.cls ∧ meth.sig.returnType = (some .boolean) ∧ meth.locks = false ∧ meth.name = "law"
def Q0 (Z : State) (x0 : Int64) (x2 : Int64) (x4 : Int64) (x6 : Int64) (x8 : Int32) (h0 : Heap) (n0 : Nat) (o : Int32) (v : Option Value) (h : Heap) (L : List Loc) : Prop := v = some (.int o) ∧ Fr n0 L
def f0_16 (x0 : Int64) (x2 : Int64) (x4 : Int64) (x6 : Int64) (y0 : Int64) : Option (Int32) := ((f1 (4 : Int32) (0 : Int32)).bind fun o4 => ((f3 [(0 : Int64), (0 : Int64), (0 : Int64), (0 : Int64)] [(0 : Int32), (0 : Int32), (0 : Int32), (0 : Int32)]).bind fun o5 => ((ldx [(0 : Int64), (0 : Int64), (0 : Int64), (0 : Int64)] o5).bind fun v6 => ((f5 v6 (x0 &&& y0)).bind fun o7 => ((stx [(0 : Int64), (0 : Int64), (0 : Int64), (0 : Int64)] o5 o7).bind fun l_8 => ((f6 o7 o4.1 o4.2.1 o4.2.2).bind fun o9 => ((f3 l_8 [(0 : Int32), (0 : Int32), (0 : Int32), (0 : Int32)]).bind fun o10 => ((ldx l_8 o10).bind fun v11 => ((f5 v11 (x2 &&& y0)).bind fun o12 => ((stx l_8 o10 o12).bind fun l_13 => ((f6 o12 o4.1 o9.1 o9.2).bind fun o14 => ((f3 l_13 [(0 : Int32), (0 : Int32), (0 : Int32), (0 : Int32)]).bind fun o15 => ((ldx l_13 o15).bind fun v16 => ((f5 v16 (x4 &&& y0)).bind fun o17 => ((stx l_13 o15 o17).bind fun l_18 => ((f6 o17 o4.1 o14.1 o14.2).bind fun o19 => ((f3 l_18 [(0 : Int32), (0 : Int32), (0 : Int32), (0 : Int32)]).bind fun o20 => ((ldx l_18 o20).bind fun v21 => ((f5 v21 (x6 &&& y0)).bind fun o22 => ((stx l_18 o20 o22).bind fun l_23 => ((f6 o22 o4.1 o19.1 o19.2).bind fun o24 => ((f3 l_23 [(0 : Int32), (0 : Int32), (0 : Int32), (0 : Int32)]).bind fun o25 => ((stx [(0 : Int32), (0 : Int32), (0 : Int32), (0 : Int32)] o25 ((1 : Int32) &&& 1)).bind fun l_26 => ((f9 o4.1 o24.1 o24.2).bind fun o27 => ((f10 o27.1 o27.2.1 o27.2.2).bind fun o28 => ((f3 l_23 l_26).bind fun o29 => (if o28 = o29 then ((f3 l_23 l_26).bind fun o30 => ((stx l_26 o30 ((1 : Int32) &&& 1)).bind fun l_31 => ((f9 o27.1 o27.2.1 o27.2.2).bind fun o32 => ((f10 o32.1 o32.2.1 o32.2.2).bind fun o33 => ((f3 l_23 l_31).bind fun o34 => (if o33 = o34 then ((f3 l_23 l_31).bind fun o35 => ((stx l_31 o35 ((1 : Int32) &&& 1)).bind fun l_36 => ((f9 o32.1 o32.2.1 o32.2.2).bind fun o37 => ((f3 l_23 l_36).bind fun o38 => ((f10 o37.1 o37.2.1 o37.2.2).bind fun o39 => (if o39 = o38 then ((f11 o37.1 o37.2.1 o37.2.2).bind fun o40 => ((ldx l_23 o38).bind fun v41 => (if o40 = v41 then some ((1 : Int32)) else some ((0 : Int32))))) else some ((0 : Int32)))))))) else some ((0 : Int32)))))))) else some ((0 : Int32)))))))))))))))))))))))))))))
set_option maxRecDepth 65536 in
set_option maxHeartbeats 40000000 in
theorem w0_16 {p : Program} {l : Launch} {e : Env} {s : State} {m : MethodId} {args : Array Value} {below : List Frame} {meth : Method} {c : Code} {Z : State} {a0 : Array Value} {h0 : Heap} {n0 : Nat} (C : Cx0 Z a0 p s m meth c) :
    ∀ (T : State) (locs : List Loc) (hA : Heap) (x0 : Int64) (x2 : Int64) (x4 : Int64) (x6 : Int64) (x8 : Int32) (y0 : Int64) (o : Int32), f0_16 x0 x2 x4 x6 y0 = some o → Stand p l e room_1 s m args below meth c T locs 0 0 → T.heap = hA → Fr n0 locs → Old Z n0 hA → Keep h0 hA [] →  OwnOut p e s below 24 128 (Q0 Z default default default default default h0 n0 o) (T.setTop (mkF m 16 #[.val (.long x0), .second, .val (.long x2), .second, .val (.long x4), .second, .val (.long x6), .second, .val (.int x8), .unset, .unset, .unset, .unset, .unset, .unset, .unset, .unset, .unset] [(.long y0)])) := by
    obtain ⟨hx, hZ, hw, hby, hml, hown, hret, hlk, hnm⟩ := C
    intro T locs hA x0 x2 x4 x6 x8 y0 o hr X0 e0 N0 O0 K0
    rw [f0_16] at hr
    refine OwnOut.go (fun t k => XS.lstore X0.here hx rfl (hb hby at_16) rfl (l' := #[.val (.long x0), .second, .val (.long x2), .second, .val (.long x4), .second, .val (.long x6), .second, .val (.int x8), .val (.long y0), .second, .unset, .unset, .unset, .unset, .unset, .unset, .unset]) rfl k) ?_
    show OwnOut p e s below 24 128 _ (T.setTop (mkF m 18 #[.val (.long x0), .second, .val (.long x2), .second, .val (.long x4), .second, .val (.long x6), .second, .val (.int x8), .val (.long y0), .second, .unset, .unset, .unset, .unset, .unset, .unset, .unset] []))
    refine OwnOut.go (fun t k => XT.iconstV X0.here hx rfl (4 : Int32) (hb hby at_18) rfl k) ?_
    show OwnOut p e s below 24 128 _ (T.setTop (mkF m 19 #[.val (.long x0), .second, .val (.long x2), .second, .val (.long x4), .second, .val (.long x6), .second, .val (.int x8), .val (.long y0), .second, .unset, .unset, .unset, .unset, .unset, .unset, .unset] [(.int (4 : Int32))]))
    obtain ⟨T1, h1, X1, e1, Ex1, A_1, st1⟩ := nwA X0 hx hZ (hw _ (List.mem_of_getElem? (i := 1) rfl)) e0 (rfl : nwx (0 : Int64) 4 (4 : Int32) = some [(0 : Int64), (0 : Int64), (0 : Int64), (0 : Int64)]) (f := Value.long) rfl (g := (mkF m 19 #[.val (.long x0), .second, .val (.long x2), .second, .val (.long x4), .second, .val (.long x6), .second, .val (.int x8), .val (.long y0), .second, .unset, .unset, .unset, .unset, .unset, .unset, .unset] [(.int (4 : Int32))])) rfl rfl (hb hby at_19) (by decide) (by decide) (by decide)
    obtain ⟨c1, gc1⟩ : ∃ z, z = hA.size := ⟨_, rfl⟩
    rw [← gc1] at A_1 st1
    refine OwnOut.go (fun t k => st1 _ k) ?_
    have g_1 : n0 ≤ c1 := gc1 ▸ (O0.1 ▸ O0.2.1)
    have z_1 : h0.size ≤ c1 := gc1 ▸ K0.1
    have O_1 := O0.ext Ex1
    have K_1 := K0.ext Ex1
    show OwnOut p e s below 24 128 _ (T1.setTop (mkF m 21 #[.val (.long x0), .second, .val (.long x2), .second, .val (.long x4), .second, .val (.long x6), .second, .val (.int x8), .val (.long y0), .second, .unset, .unset, .unset, .unset, .unset, .unset, .unset] [(.ref c1)]))
    refine OwnOut.go (fun t k => XS.astore X1.here hx rfl (hb hby at_21) rfl rfl (l' := #[.val (.long x0), .second, .val (.long x2), .second, .val (.long x4), .second, .val (.long x6), .second, .val (.int x8), .val (.long y0), .second, .val (.ref c1), .unset, .unset, .unset, .unset, .unset, .unset]) rfl k) ?_
    show OwnOut p e s below 24 128 _ (T1.setTop (mkF m 23 #[.val (.long x0), .second, .val (.long x2), .second, .val (.long x4), .second, .val (.long x6), .second, .val (.int x8), .val (.long y0), .second, .val (.ref c1), .unset, .unset, .unset, .unset, .unset, .unset] []))
    refine OwnOut.go (fun t k => XT.iconstV X1.here hx rfl (4 : Int32) (hb hby at_23) rfl k) ?_
    show OwnOut p e s below 24 128 _ (T1.setTop (mkF m 24 #[.val (.long x0), .second, .val (.long x2), .second, .val (.long x4), .second, .val (.long x6), .second, .val (.int x8), .val (.long y0), .second, .val (.ref c1), .unset, .unset, .unset, .unset, .unset, .unset] [(.int (4 : Int32))]))
    obtain ⟨T2, h2, X2, e2, Ex2, A_2, st2⟩ := nwA X1 hx hZ (hw _ (List.mem_of_getElem? (i := 2) rfl)) e1 (rfl : nwx (0 : Int32) 4 (4 : Int32) = some [(0 : Int32), (0 : Int32), (0 : Int32), (0 : Int32)]) (f := Value.int) rfl (g := (mkF m 24 #[.val (.long x0), .second, .val (.long x2), .second, .val (.long x4), .second, .val (.long x6), .second, .val (.int x8), .val (.long y0), .second, .val (.ref c1), .unset, .unset, .unset, .unset, .unset, .unset] [(.int (4 : Int32))])) rfl rfl (hb hby at_24) (by decide) (by decide) (by decide)
    obtain ⟨c2, gc2⟩ : ∃ z, z = h1.size := ⟨_, rfl⟩
    rw [← gc2] at A_2 st2
    refine OwnOut.go (fun t k => st2 _ k) ?_
    have ne0_1_2 : c1 ≠ c2 := Nat.ne_of_lt (gc2 ▸ A_1.lt)
    have A0_2 := A_1.ext Ex2
    have g_2 : n0 ≤ c2 := gc2 ▸ (O_1.1 ▸ O_1.2.1)
    have z_2 : h0.size ≤ c2 := gc2 ▸ K_1.1
    have O_2 := O_1.ext Ex2
    have K_2 := K_1.ext Ex2
    show OwnOut p e s below 24 128 _ (T2.setTop (mkF m 26 #[.val (.long x0), .second, .val (.long x2), .second, .val (.long x4), .second, .val (.long x6), .second, .val (.int x8), .val (.long y0), .second, .val (.ref c1), .unset, .unset, .unset, .unset, .unset, .unset] [(.ref c2)]))
    refine OwnOut.go (fun t k => XS.astore X2.here hx rfl (hb hby at_26) rfl rfl (l' := #[.val (.long x0), .second, .val (.long x2), .second, .val (.long x4), .second, .val (.long x6), .second, .val (.int x8), .val (.long y0), .second, .val (.ref c1), .val (.ref c2), .unset, .unset, .unset, .unset, .unset]) rfl k) ?_
    show OwnOut p e s below 24 128 _ (T2.setTop (mkF m 28 #[.val (.long x0), .second, .val (.long x2), .second, .val (.long x4), .second, .val (.long x6), .second, .val (.int x8), .val (.long y0), .second, .val (.ref c1), .val (.ref c2), .unset, .unset, .unset, .unset, .unset] []))
    obtain ⟨T3, h3, X3, e3, Ex3, E_3, Df3, -, st3⟩ := newO X2 hx hZ hown (hw _ (List.mem_of_getElem? (i := 3) rfl)) (hw _ (List.mem_of_getElem? (i := 4) rfl)) (hw _ (List.mem_of_getElem? (i := 5) rfl)) e2 (g := (mkF m 28 #[.val (.long x0), .second, .val (.long x2), .second, .val (.long x4), .second, .val (.long x6), .second, .val (.int x8), .val (.long y0), .second, .val (.ref c1), .val (.ref c2), .unset, .unset, .unset, .unset, .unset] [])) rfl (hb hby at_28) (by decide) (by decide)
    obtain ⟨c3, gc3⟩ : ∃ z, z = h2.size := ⟨_, rfl⟩
    rw [← gc3] at E_3 st3
    have F_times_3 : Fld Z h3 c3 "com/example/porter_drive/porterdrive/RequestQueue" "times" "[J" .null := by rw [gc3]; exact Df3 (Or.inr (hw _ (List.mem_of_getElem? (i := 13) rfl))) (ty := (.array .long)) (by decide)
    have F_clients_3 : Fld Z h3 c3 "com/example/porter_drive/porterdrive/RequestQueue" "clients" "[I" .null := by rw [gc3]; exact Df3 (Or.inr (hw _ (List.mem_of_getElem? (i := 16) rfl))) (ty := (.array .int)) (by decide)
    have F_size_3 : Fld Z h3 c3 "com/example/porter_drive/porterdrive/RequestQueue" "size" "I" (.int (0 : Int32)) := by rw [gc3]; exact Df3 (Or.inl (hw _ (List.mem_of_getElem? (i := 18) rfl))) (ty := .int) (by decide)
    refine OwnOut.go (fun t k => st3 _ k) ?_
    have ne0_2_3 : c1 ≠ c3 := Nat.ne_of_lt (gc3 ▸ A0_2.lt)
    have ne1_2_3 : c2 ≠ c3 := Nat.ne_of_lt (gc3 ▸ A_2.lt)
    have A0_3 := A0_2.ext Ex3
    have A1_3 := A_2.ext Ex3
    have g_3 : n0 ≤ c3 := gc3 ▸ (O_2.1 ▸ O_2.2.1)
    have z_3 : h0.size ≤ c3 := gc3 ▸ K_2.1
    have O_3 := O_2.ext Ex3
    have K_3 := K_2.ext Ex3
    show OwnOut p e s below 24 128 _ (T3.setTop (mkF m 31 #[.val (.long x0), .second, .val (.long x2), .second, .val (.long x4), .second, .val (.long x6), .second, .val (.int x8), .val (.long y0), .second, .val (.ref c1), .val (.ref c2), .unset, .unset, .unset, .unset, .unset] [(.ref c3)]))
    refine OwnOut.go (fun t k => XS.dup X3.here hx rfl (hb hby at_31) rfl rfl k) ?_
    show OwnOut p e s below 24 128 _ (T3.setTop (mkF m 32 #[.val (.long x0), .second, .val (.long x2), .second, .val (.long x4), .second, .val (.long x6), .second, .val (.int x8), .val (.long y0), .second, .val (.ref c1), .val (.ref c2), .unset, .unset, .unset, .unset, .unset] [(.ref c3), (.ref c3)]))
    refine OwnOut.go (fun t k => XT.iconstV X3.here hx rfl (4 : Int32) (hb hby at_32) rfl k) ?_
    show OwnOut p e s below 24 128 _ (T3.setTop (mkF m 33 #[.val (.long x0), .second, .val (.long x2), .second, .val (.long x4), .second, .val (.long x6), .second, .val (.int x8), .val (.long y0), .second, .val (.ref c1), .val (.ref c2), .unset, .unset, .unset, .unset, .unset] [(.int (4 : Int32)), (.ref c3), (.ref c3)]))
    obtain ⟨o4, ho4, hr⟩ := Option.bind_eq_some_iff.mp hr
    obtain ⟨r4, T4, L4, X4', hQ4, st4⟩ := callN (W := 1) (rm := rx1) X3 hx hZ rfl (y := (⟨"com/example/porter_drive/porterdrive/RequestQueue", "<init>", "(I)V"⟩ : MethodName)) rfl hown (hw _ (List.mem_of_getElem? (i := 6) rfl)) (hw _ (List.mem_of_getElem? (i := 7) rfl)) (hw _ (List.mem_of_getElem? (i := 5) rfl)) (hw _ (List.mem_of_getElem? (i := 8) rfl)) (by decide) (rm1 l Z a0 hw [] (4 : Int32) c3 (0 : Int32) h3 n0 o4 ho4 O_3 E_3 F_times_3 F_clients_3 F_size_3 g_3) (by decide) (by decide) (by decide) (by decide) e3 (g := (mkF m 33 #[.val (.long x0), .second, .val (.long x2), .second, .val (.long x4), .second, .val (.long x6), .second, .val (.int x8), .val (.long y0), .second, .val (.ref c1), .val (.ref c2), .unset, .unset, .unset, .unset, .unset] [(.int (4 : Int32)), (.ref c3), (.ref c3)])) rfl (by rw [hml]; rfl) (argsL := [(.int (4 : Int32))]) (rest := [(.ref c3)]) (lenOf pd1 rfl) rfl (by show 2 * 0 + _ ≤ _; exact Nat.le_of_eq rfl) (hb hby at_33)
    obtain ⟨c4_0, c4_1, rfl, Nq4, Kq4, F2_times_4, F2_clients_4, F2_size_4, zq4_0, gq4_0, Aq4_0, zq4_1, gq4_1, Aq4_1, neq4_0_1⟩ := hQ4
    have X4 : Stand p l e room_1 s m args below meth c T4 _ 5 19 := X4'
    have ne0_3_4 : c1 ≠ c4_0 := Nat.ne_of_lt (Nat.lt_of_lt_of_le A0_3.lt zq4_0)
    have ne1_3_4 : c2 ≠ c4_0 := Nat.ne_of_lt (Nat.lt_of_lt_of_le A1_3.lt zq4_0)
    have ne2_3_4 : c3 ≠ c4_0 := Nat.ne_of_lt (Nat.lt_of_lt_of_le E_3.lt zq4_0)
    have z_4_0 : h0.size ≤ c4_0 := Nat.le_trans K_3.1 zq4_0
    have ne0_4_4 : c1 ≠ c4_1 := Nat.ne_of_lt (Nat.lt_of_lt_of_le A0_3.lt zq4_1)
    have ne1_4_4 : c2 ≠ c4_1 := Nat.ne_of_lt (Nat.lt_of_lt_of_le A1_3.lt zq4_1)
    have ne2_4_4 : c3 ≠ c4_1 := Nat.ne_of_lt (Nat.lt_of_lt_of_le E_3.lt zq4_1)
    have z_4_1 : h0.size ≤ c4_1 := Nat.le_trans K_3.1 zq4_1
    have A0_4 := A0_3.keep Kq4 (ninS ne0_2_3 nin0)
    have A1_4 := A1_3.keep Kq4 (ninS ne1_2_3 nin0)
    have E2_4 := E_3.keep Kq4
    have N_4 := Fr.app N0 Nq4
    have O_4 := O_3.keep Kq4 (allS g_3 all0)
    have K_4 := K_3.trans Kq4 (allS (Or.inr z_3) all0)
    refine OwnOut.go (fun t k => st4 _ k) ?_
    show OwnOut p e s below 24 128 _ (T4.setTop (mkF m 36 #[.val (.long x0), .second, .val (.long x2), .second, .val (.long x4), .second, .val (.long x6), .second, .val (.int x8), .val (.long y0), .second, .val (.ref c1), .val (.ref c2), .unset, .unset, .unset, .unset, .unset] [(.ref c3)]))
    refine OwnOut.go (fun t k => XS.astore X4.here hx rfl (hb hby at_36) rfl rfl (l' := #[.val (.long x0), .second, .val (.long x2), .second, .val (.long x4), .second, .val (.long x6), .second, .val (.int x8), .val (.long y0), .second, .val (.ref c1), .val (.ref c2), .val (.ref c3), .unset, .unset, .unset, .unset]) rfl k) ?_
    show OwnOut p e s below 24 128 _ (T4.setTop (mkF m 38 #[.val (.long x0), .second, .val (.long x2), .second, .val (.long x4), .second, .val (.long x6), .second, .val (.int x8), .val (.long y0), .second, .val (.ref c1), .val (.ref c2), .val (.ref c3), .unset, .unset, .unset, .unset] []))
    refine OwnOut.go (fun t k => XS.aload X4.here hx rfl (hb hby at_38) rfl rfl k) ?_
    show OwnOut p e s below 24 128 _ (T4.setTop (mkF m 40 #[.val (.long x0), .second, .val (.long x2), .second, .val (.long x4), .second, .val (.long x6), .second, .val (.int x8), .val (.long y0), .second, .val (.ref c1), .val (.ref c2), .val (.ref c3), .unset, .unset, .unset, .unset] [(.ref c1)]))
    refine OwnOut.go (fun t k => XS.aload X4.here hx rfl (hb hby at_40) rfl rfl k) ?_
    show OwnOut p e s below 24 128 _ (T4.setTop (mkF m 42 #[.val (.long x0), .second, .val (.long x2), .second, .val (.long x4), .second, .val (.long x6), .second, .val (.int x8), .val (.long y0), .second, .val (.ref c1), .val (.ref c2), .val (.ref c3), .unset, .unset, .unset, .unset] [(.ref c2), (.ref c1)]))
    obtain ⟨o5, ho5, hr⟩ := Option.bind_eq_some_iff.mp hr
    obtain ⟨r5, T5, L5, X5', hQ5, st5⟩ := callQ (W := 0) (rm := rx3) X4 hx hZ (y := (⟨"com/example/porter_drive/porterdrive/RequestQueueRemoveFirstPinLaw", "first", "([J[Z)I"⟩ : MethodName)) hown (hw _ (List.mem_of_getElem? (i := 19) rfl)) (hw _ (List.mem_of_getElem? (i := 20) rfl)) (hw _ (List.mem_of_getElem? (i := 21) rfl)) (hw _ (List.mem_of_getElem? (i := 22) rfl)) (by decide) (rm3 l Z a0 hw [] c1 [(0 : Int64), (0 : Int64), (0 : Int64), (0 : Int64)] c2 [(0 : Int32), (0 : Int32), (0 : Int32), (0 : Int32)] T4.heap o5 ho5 A0_4 A1_4) (by decide) (by decide) (by decide) (by decide) rfl (g := (mkF m 42 #[.val (.long x0), .second, .val (.long x2), .second, .val (.long x4), .second, .val (.long x6), .second, .val (.int x8), .val (.long y0), .second, .val (.ref c1), .val (.ref c2), .val (.ref c3), .unset, .unset, .unset, .unset] [(.ref c2), (.ref c1)])) rfl (by rw [hml]; rfl) (argsL := [(.ref c1), (.ref c2)]) (rest := []) (lenOf pd3 rfl) rfl (by show 2 * 0 + _ ≤ _; exact Nat.le_of_eq rfl) (hb hby at_42)
    obtain ⟨rfl, e5, rfl⟩ := hQ5
    rw [List.append_nil] at X5'
    have X5 : Stand p l e room_1 s m args below meth c T5 _ 5 19 := X5'
    refine OwnOut.go (fun t k => st5 _ k) ?_
    show OwnOut p e s below 24 128 _ (T5.setTop (mkF m 45 #[.val (.long x0), .second, .val (.long x2), .second, .val (.long x4), .second, .val (.long x6), .second, .val (.int x8), .val (.long y0), .second, .val (.ref c1), .val (.ref c2), .val (.ref c3), .unset, .unset, .unset, .unset] [(.int o5)]))
    refine OwnOut.go (fun t k => XS.istore X5.here hx rfl (hb hby at_45) rfl (l' := #[.val (.long x0), .second, .val (.long x2), .second, .val (.long x4), .second, .val (.long x6), .second, .val (.int x8), .val (.long y0), .second, .val (.ref c1), .val (.ref c2), .val (.ref c3), .val (.int o5), .unset, .unset, .unset]) rfl k) ?_
    show OwnOut p e s below 24 128 _ (T5.setTop (mkF m 47 #[.val (.long x0), .second, .val (.long x2), .second, .val (.long x4), .second, .val (.long x6), .second, .val (.int x8), .val (.long y0), .second, .val (.ref c1), .val (.ref c2), .val (.ref c3), .val (.int o5), .unset, .unset, .unset] []))
    refine OwnOut.go (fun t k => XS.aload X5.here hx rfl (hb hby at_47) rfl rfl k) ?_
    show OwnOut p e s below 24 128 _ (T5.setTop (mkF m 49 #[.val (.long x0), .second, .val (.long x2), .second, .val (.long x4), .second, .val (.long x6), .second, .val (.int x8), .val (.long y0), .second, .val (.ref c1), .val (.ref c2), .val (.ref c3), .val (.int o5), .unset, .unset, .unset] [(.ref c1)]))
    refine OwnOut.go (fun t k => XS.iload X5.here hx rfl (hb hby at_49) rfl k) ?_
    show OwnOut p e s below 24 128 _ (T5.setTop (mkF m 51 #[.val (.long x0), .second, .val (.long x2), .second, .val (.long x4), .second, .val (.long x6), .second, .val (.int x8), .val (.long y0), .second, .val (.ref c1), .val (.ref c2), .val (.ref c3), .val (.int o5), .unset, .unset, .unset] [(.int o5), (.ref c1)]))
    obtain ⟨v6, hv6, hr⟩ := Option.bind_eq_some_iff.mp hr
    refine OwnOut.go (fun t k => ldJ X5 hx hZ e5 A0_4 hv6 (g := (mkF m 51 #[.val (.long x0), .second, .val (.long x2), .second, .val (.long x4), .second, .val (.long x6), .second, .val (.int x8), .val (.long y0), .second, .val (.ref c1), .val (.ref c2), .val (.ref c3), .val (.int o5), .unset, .unset, .unset] [(.int o5), (.ref c1)])) rfl rfl (hb hby at_51) t k) ?_
    show OwnOut p e s below 24 128 _ (T5.setTop (mkF m 52 #[.val (.long x0), .second, .val (.long x2), .second, .val (.long x4), .second, .val (.long x6), .second, .val (.int x8), .val (.long y0), .second, .val (.ref c1), .val (.ref c2), .val (.ref c3), .val (.int o5), .unset, .unset, .unset] [(.long v6)]))
    refine OwnOut.go (fun t k => XS.lloadN X5.here hx rfl (hb hby at_52) rfl k) ?_
    show OwnOut p e s below 24 128 _ (T5.setTop (mkF m 53 #[.val (.long x0), .second, .val (.long x2), .second, .val (.long x4), .second, .val (.long x6), .second, .val (.int x8), .val (.long y0), .second, .val (.ref c1), .val (.ref c2), .val (.ref c3), .val (.int o5), .unset, .unset, .unset] [(.long x0), (.long v6)]))
    refine OwnOut.go (fun t k => XS.lload X5.here hx rfl (hb hby at_53) rfl k) ?_
    show OwnOut p e s below 24 128 _ (T5.setTop (mkF m 55 #[.val (.long x0), .second, .val (.long x2), .second, .val (.long x4), .second, .val (.long x6), .second, .val (.int x8), .val (.long y0), .second, .val (.ref c1), .val (.ref c2), .val (.ref c3), .val (.int o5), .unset, .unset, .unset] [(.long y0), (.long x0), (.long v6)]))
    refine OwnOut.go (fun t k => XS.land X5.here hx rfl (hb hby at_55) rfl k) ?_
    show OwnOut p e s below 24 128 _ (T5.setTop (mkF m 56 #[.val (.long x0), .second, .val (.long x2), .second, .val (.long x4), .second, .val (.long x6), .second, .val (.int x8), .val (.long y0), .second, .val (.ref c1), .val (.ref c2), .val (.ref c3), .val (.int o5), .unset, .unset, .unset] [(.long (x0 &&& y0)), (.long v6)]))
    obtain ⟨o7, ho7, hr⟩ := Option.bind_eq_some_iff.mp hr
    obtain ⟨r7, T7, L7, X7', hQ7, st7⟩ := callQ (W := 0) (rm := rx5) X5 hx hZ (y := (⟨"java/lang/Math", "max", "(JJ)J"⟩ : MethodName)) hown (hw _ (List.mem_of_getElem? (i := 26) rfl)) (hw _ (List.mem_of_getElem? (i := 27) rfl)) (hw _ (List.mem_of_getElem? (i := 28) rfl)) (hw _ (List.mem_of_getElem? (i := 29) rfl)) (by decide) (rm5 l Z a0 hw [] v6 (x0 &&& y0) T4.heap o7 ho7 ) (by decide) (by decide) (by decide) (by decide) e5 (g := (mkF m 56 #[.val (.long x0), .second, .val (.long x2), .second, .val (.long x4), .second, .val (.long x6), .second, .val (.int x8), .val (.long y0), .second, .val (.ref c1), .val (.ref c2), .val (.ref c3), .val (.int o5), .unset, .unset, .unset] [(.long (x0 &&& y0)), (.long v6)])) rfl (by rw [hml]; rfl) (argsL := [(.long v6), (.long (x0 &&& y0))]) (rest := []) (lenOf pd5 rfl) rfl (by show 2 * 0 + _ ≤ _; exact Nat.le_of_eq rfl) (hb hby at_56)
    obtain ⟨rfl, e7, rfl⟩ := hQ7
    rw [List.append_nil] at X7'
    have X7 : Stand p l e room_1 s m args below meth c T7 _ 5 19 := X7'
    refine OwnOut.go (fun t k => st7 _ k) ?_
    show OwnOut p e s below 24 128 _ (T7.setTop (mkF m 59 #[.val (.long x0), .second, .val (.long x2), .second, .val (.long x4), .second, .val (.long x6), .second, .val (.int x8), .val (.long y0), .second, .val (.ref c1), .val (.ref c2), .val (.ref c3), .val (.int o5), .unset, .unset, .unset] [(.long o7)]))
    refine OwnOut.go (fun t k => XS.lstore X7.here hx rfl (hb hby at_59) rfl (l' := #[.val (.long x0), .second, .val (.long x2), .second, .val (.long x4), .second, .val (.long x6), .second, .val (.int x8), .val (.long y0), .second, .val (.ref c1), .val (.ref c2), .val (.ref c3), .val (.int o5), .val (.long o7), .second, .unset]) rfl k) ?_
    show OwnOut p e s below 24 128 _ (T7.setTop (mkF m 61 #[.val (.long x0), .second, .val (.long x2), .second, .val (.long x4), .second, .val (.long x6), .second, .val (.int x8), .val (.long y0), .second, .val (.ref c1), .val (.ref c2), .val (.ref c3), .val (.int o5), .val (.long o7), .second, .unset] []))
    refine OwnOut.go (fun t k => XS.aload X7.here hx rfl (hb hby at_61) rfl rfl k) ?_
    show OwnOut p e s below 24 128 _ (T7.setTop (mkF m 63 #[.val (.long x0), .second, .val (.long x2), .second, .val (.long x4), .second, .val (.long x6), .second, .val (.int x8), .val (.long y0), .second, .val (.ref c1), .val (.ref c2), .val (.ref c3), .val (.int o5), .val (.long o7), .second, .unset] [(.ref c1)]))
    refine OwnOut.go (fun t k => XS.iload X7.here hx rfl (hb hby at_63) rfl k) ?_
    show OwnOut p e s below 24 128 _ (T7.setTop (mkF m 65 #[.val (.long x0), .second, .val (.long x2), .second, .val (.long x4), .second, .val (.long x6), .second, .val (.int x8), .val (.long y0), .second, .val (.ref c1), .val (.ref c2), .val (.ref c3), .val (.int o5), .val (.long o7), .second, .unset] [(.int o5), (.ref c1)]))
    refine OwnOut.go (fun t k => XS.lload X7.here hx rfl (hb hby at_65) rfl k) ?_
    show OwnOut p e s below 24 128 _ (T7.setTop (mkF m 67 #[.val (.long x0), .second, .val (.long x2), .second, .val (.long x4), .second, .val (.long x6), .second, .val (.int x8), .val (.long y0), .second, .val (.ref c1), .val (.ref c2), .val (.ref c3), .val (.int o5), .val (.long o7), .second, .unset] [(.long o7), (.int o5), (.ref c1)]))
    obtain ⟨l_8, hl8, hr⟩ := Option.bind_eq_some_iff.mp hr
    obtain ⟨T8, h8, X8, e8, W8, A_8, st8⟩ := saJ X7 hx hZ e7 A0_4 hl8 (g := (mkF m 67 #[.val (.long x0), .second, .val (.long x2), .second, .val (.long x4), .second, .val (.long x6), .second, .val (.int x8), .val (.long y0), .second, .val (.ref c1), .val (.ref c2), .val (.ref c3), .val (.int o5), .val (.long o7), .second, .unset] [(.long o7), (.int o5), (.ref c1)])) rfl rfl (hb hby at_67)
    refine OwnOut.go (fun t k => st8 _ k) ?_
    have A1_8 := A1_4.other W8 (Ne.symm ne0_1_2)
    have E2_8 := E2_4.wr W8
    have F2_times_8 := F2_times_4.other W8 (Or.inl (Ne.symm ne0_2_3))
    have F2_clients_8 := F2_clients_4.other W8 (Or.inl (Ne.symm ne0_2_3))
    have F2_size_8 := F2_size_4.other W8 (Or.inl (Ne.symm ne0_2_3))
    have A3_8 := Aq4_0.other W8 (Ne.symm ne0_3_4)
    have A4_8 := Aq4_1.other W8 (Ne.symm ne0_4_4)
    have N_8 := Fr.snoc X8 N_4 g_1
    have O_8 := O_4.wr W8 g_1
    have K_8 := K_4.wr W8 (Or.inr z_1)
    show OwnOut p e s below 24 128 _ (T8.setTop (mkF m 68 #[.val (.long x0), .second, .val (.long x2), .second, .val (.long x4), .second, .val (.long x6), .second, .val (.int x8), .val (.long y0), .second, .val (.ref c1), .val (.ref c2), .val (.ref c3), .val (.int o5), .val (.long o7), .second, .unset] []))
    refine OwnOut.go (fun t k => XS.aload X8.here hx rfl (hb hby at_68) rfl rfl k) ?_
    show OwnOut p e s below 24 128 _ (T8.setTop (mkF m 70 #[.val (.long x0), .second, .val (.long x2), .second, .val (.long x4), .second, .val (.long x6), .second, .val (.int x8), .val (.long y0), .second, .val (.ref c1), .val (.ref c2), .val (.ref c3), .val (.int o5), .val (.long o7), .second, .unset] [(.ref c3)]))
    refine OwnOut.go (fun t k => XS.lload X8.here hx rfl (hb hby at_70) rfl k) ?_
    show OwnOut p e s below 24 128 _ (T8.setTop (mkF m 72 #[.val (.long x0), .second, .val (.long x2), .second, .val (.long x4), .second, .val (.long x6), .second, .val (.int x8), .val (.long y0), .second, .val (.ref c1), .val (.ref c2), .val (.ref c3), .val (.int o5), .val (.long o7), .second, .unset] [(.long o7), (.ref c3)]))
    obtain ⟨o9, ho9, hr⟩ := Option.bind_eq_some_iff.mp hr
    obtain ⟨r9, T9, L9, X9', hQ9, st9⟩ := callV (W := 0) (rm := rx6) X8 hx hZ (y := (⟨"com/example/porter_drive/porterdrive/RequestQueue", "delayFirst", "(J)V"⟩ : MethodName)) hown (hw _ (List.mem_of_getElem? (i := 30) rfl)) (hw _ (List.mem_of_getElem? (i := 31) rfl)) (hw _ (List.mem_of_getElem? (i := 33) rfl)) (hw _ (List.mem_of_getElem? (i := 32) rfl)) (hw _ (List.mem_of_getElem? (i := 5) rfl)) (hw _ (List.mem_of_getElem? (i := 34) rfl)) (by decide) (rm6 l Z a0 hw [] o7 c3 o4.1 c4_0 o4.2.1 c4_1 o4.2.2 h8 n0 o9 ho9 O_8 E2_8 F2_times_8 F2_clients_8 F2_size_8 A3_8 A4_8 g_3 gq4_0 gq4_1 ne2_3_4 ne2_4_4 neq4_0_1) (by decide) (by decide) (by decide) (by decide) e8 E2_8 (g := (mkF m 72 #[.val (.long x0), .second, .val (.long x2), .second, .val (.long x4), .second, .val (.long x6), .second, .val (.int x8), .val (.long y0), .second, .val (.ref c1), .val (.ref c2), .val (.ref c3), .val (.int o5), .val (.long o7), .second, .unset] [(.long o7), (.ref c3)])) rfl (by rw [hml]; rfl) (argsL := [(.long o7)]) (rest := []) (lenOf pd6 rfl) rfl (by show 2 * 0 + _ ≤ _; exact Nat.le_of_eq rfl) (hb hby at_72)
    obtain ⟨rfl, Nq9, Kq9, A3_9, A4_9⟩ := hQ9
    have X9 : Stand p l e room_1 s m args below meth c T9 _ 5 19 := X9'
    have A0_9 := A_8.keep Kq9 (ninS ne0_3_4 (ninS ne0_4_4 nin0))
    have A1_9 := A1_8.keep Kq9 (ninS ne1_3_4 (ninS ne1_4_4 nin0))
    have E2_9 := E2_8.keep Kq9
    have F2_times_9 := F2_times_8.keep Kq9 (ninS ne2_3_4 (ninS ne2_4_4 nin0))
    have F2_clients_9 := F2_clients_8.keep Kq9 (ninS ne2_3_4 (ninS ne2_4_4 nin0))
    have F2_size_9 := F2_size_8.keep Kq9 (ninS ne2_3_4 (ninS ne2_4_4 nin0))
    have N_9 := Fr.app N_8 Nq9
    have O_9 := O_8.keep Kq9 (allS gq4_0 (allS gq4_1 all0))
    have K_9 := K_8.trans Kq9 (allS (Or.inr z_4_0) (allS (Or.inr z_4_1) all0))
    refine OwnOut.go (fun t k => st9 _ k) ?_
    show OwnOut p e s below 24 128 _ (T9.setTop (mkF m 75 #[.val (.long x0), .second, .val (.long x2), .second, .val (.long x4), .second, .val (.long x6), .second, .val (.int x8), .val (.long y0), .second, .val (.ref c1), .val (.ref c2), .val (.ref c3), .val (.int o5), .val (.long o7), .second, .unset] []))
    refine OwnOut.go (fun t k => XS.aload X9.here hx rfl (hb hby at_75) rfl rfl k) ?_
    show OwnOut p e s below 24 128 _ (T9.setTop (mkF m 77 #[.val (.long x0), .second, .val (.long x2), .second, .val (.long x4), .second, .val (.long x6), .second, .val (.int x8), .val (.long y0), .second, .val (.ref c1), .val (.ref c2), .val (.ref c3), .val (.int o5), .val (.long o7), .second, .unset] [(.ref c1)]))
    refine OwnOut.go (fun t k => XS.aload X9.here hx rfl (hb hby at_77) rfl rfl k) ?_
    show OwnOut p e s below 24 128 _ (T9.setTop (mkF m 79 #[.val (.long x0), .second, .val (.long x2), .second, .val (.long x4), .second, .val (.long x6), .second, .val (.int x8), .val (.long y0), .second, .val (.ref c1), .val (.ref c2), .val (.ref c3), .val (.int o5), .val (.long o7), .second, .unset] [(.ref c2), (.ref c1)]))
    obtain ⟨o10, ho10, hr⟩ := Option.bind_eq_some_iff.mp hr
    obtain ⟨r10, T10, L10, X10', hQ10, st10⟩ := callQ (W := 0) (rm := rx3) X9 hx hZ (y := (⟨"com/example/porter_drive/porterdrive/RequestQueueRemoveFirstPinLaw", "first", "([J[Z)I"⟩ : MethodName)) hown (hw _ (List.mem_of_getElem? (i := 19) rfl)) (hw _ (List.mem_of_getElem? (i := 20) rfl)) (hw _ (List.mem_of_getElem? (i := 21) rfl)) (hw _ (List.mem_of_getElem? (i := 22) rfl)) (by decide) (rm3 l Z a0 hw [] c1 l_8 c2 [(0 : Int32), (0 : Int32), (0 : Int32), (0 : Int32)] T9.heap o10 ho10 A0_9 A1_9) (by decide) (by decide) (by decide) (by decide) rfl (g := (mkF m 79 #[.val (.long x0), .second, .val (.long x2), .second, .val (.long x4), .second, .val (.long x6), .second, .val (.int x8), .val (.long y0), .second, .val (.ref c1), .val (.ref c2), .val (.ref c3), .val (.int o5), .val (.long o7), .second, .unset] [(.ref c2), (.ref c1)])) rfl (by rw [hml]; rfl) (argsL := [(.ref c1), (.ref c2)]) (rest := []) (lenOf pd3 rfl) rfl (by show 2 * 0 + _ ≤ _; exact Nat.le_of_eq rfl) (hb hby at_79)
    obtain ⟨rfl, e10, rfl⟩ := hQ10
    rw [List.append_nil] at X10'
    have X10 : Stand p l e room_1 s m args below meth c T10 _ 5 19 := X10'
    refine OwnOut.go (fun t k => st10 _ k) ?_
    show OwnOut p e s below 24 128 _ (T10.setTop (mkF m 82 #[.val (.long x0), .second, .val (.long x2), .second, .val (.long x4), .second, .val (.long x6), .second, .val (.int x8), .val (.long y0), .second, .val (.ref c1), .val (.ref c2), .val (.ref c3), .val (.int o5), .val (.long o7), .second, .unset] [(.int o10)]))
    refine OwnOut.go (fun t k => XS.istore X10.here hx rfl (hb hby at_82) rfl (l' := #[.val (.long x0), .second, .val (.long x2), .second, .val (.long x4), .second, .val (.long x6), .second, .val (.int x8), .val (.long y0), .second, .val (.ref c1), .val (.ref c2), .val (.ref c3), .val (.int o10), .val (.long o7), .second, .unset]) rfl k) ?_
    show OwnOut p e s below 24 128 _ (T10.setTop (mkF m 84 #[.val (.long x0), .second, .val (.long x2), .second, .val (.long x4), .second, .val (.long x6), .second, .val (.int x8), .val (.long y0), .second, .val (.ref c1), .val (.ref c2), .val (.ref c3), .val (.int o10), .val (.long o7), .second, .unset] []))
    refine OwnOut.go (fun t k => XS.aload X10.here hx rfl (hb hby at_84) rfl rfl k) ?_
    show OwnOut p e s below 24 128 _ (T10.setTop (mkF m 86 #[.val (.long x0), .second, .val (.long x2), .second, .val (.long x4), .second, .val (.long x6), .second, .val (.int x8), .val (.long y0), .second, .val (.ref c1), .val (.ref c2), .val (.ref c3), .val (.int o10), .val (.long o7), .second, .unset] [(.ref c1)]))
    refine OwnOut.go (fun t k => XS.iload X10.here hx rfl (hb hby at_86) rfl k) ?_
    show OwnOut p e s below 24 128 _ (T10.setTop (mkF m 88 #[.val (.long x0), .second, .val (.long x2), .second, .val (.long x4), .second, .val (.long x6), .second, .val (.int x8), .val (.long y0), .second, .val (.ref c1), .val (.ref c2), .val (.ref c3), .val (.int o10), .val (.long o7), .second, .unset] [(.int o10), (.ref c1)]))
    obtain ⟨v11, hv11, hr⟩ := Option.bind_eq_some_iff.mp hr
    refine OwnOut.go (fun t k => ldJ X10 hx hZ e10 A0_9 hv11 (g := (mkF m 88 #[.val (.long x0), .second, .val (.long x2), .second, .val (.long x4), .second, .val (.long x6), .second, .val (.int x8), .val (.long y0), .second, .val (.ref c1), .val (.ref c2), .val (.ref c3), .val (.int o10), .val (.long o7), .second, .unset] [(.int o10), (.ref c1)])) rfl rfl (hb hby at_88) t k) ?_
    show OwnOut p e s below 24 128 _ (T10.setTop (mkF m 89 #[.val (.long x0), .second, .val (.long x2), .second, .val (.long x4), .second, .val (.long x6), .second, .val (.int x8), .val (.long y0), .second, .val (.ref c1), .val (.ref c2), .val (.ref c3), .val (.int o10), .val (.long o7), .second, .unset] [(.long v11)]))
    refine OwnOut.go (fun t k => XS.lloadN X10.here hx rfl (hb hby at_89) rfl k) ?_
    show OwnOut p e s below 24 128 _ (T10.setTop (mkF m 90 #[.val (.long x0), .second, .val (.long x2), .second, .val (.long x4), .second, .val (.long x6), .second, .val (.int x8), .val (.long y0), .second, .val (.ref c1), .val (.ref c2), .val (.ref c3), .val (.int o10), .val (.long o7), .second, .unset] [(.long x2), (.long v11)]))
    refine OwnOut.go (fun t k => XS.lload X10.here hx rfl (hb hby at_90) rfl k) ?_
    show OwnOut p e s below 24 128 _ (T10.setTop (mkF m 92 #[.val (.long x0), .second, .val (.long x2), .second, .val (.long x4), .second, .val (.long x6), .second, .val (.int x8), .val (.long y0), .second, .val (.ref c1), .val (.ref c2), .val (.ref c3), .val (.int o10), .val (.long o7), .second, .unset] [(.long y0), (.long x2), (.long v11)]))
    refine OwnOut.go (fun t k => XS.land X10.here hx rfl (hb hby at_92) rfl k) ?_
    show OwnOut p e s below 24 128 _ (T10.setTop (mkF m 93 #[.val (.long x0), .second, .val (.long x2), .second, .val (.long x4), .second, .val (.long x6), .second, .val (.int x8), .val (.long y0), .second, .val (.ref c1), .val (.ref c2), .val (.ref c3), .val (.int o10), .val (.long o7), .second, .unset] [(.long (x2 &&& y0)), (.long v11)]))
    obtain ⟨o12, ho12, hr⟩ := Option.bind_eq_some_iff.mp hr
    obtain ⟨r12, T12, L12, X12', hQ12, st12⟩ := callQ (W := 0) (rm := rx5) X10 hx hZ (y := (⟨"java/lang/Math", "max", "(JJ)J"⟩ : MethodName)) hown (hw _ (List.mem_of_getElem? (i := 26) rfl)) (hw _ (List.mem_of_getElem? (i := 27) rfl)) (hw _ (List.mem_of_getElem? (i := 28) rfl)) (hw _ (List.mem_of_getElem? (i := 29) rfl)) (by decide) (rm5 l Z a0 hw [] v11 (x2 &&& y0) T9.heap o12 ho12 ) (by decide) (by decide) (by decide) (by decide) e10 (g := (mkF m 93 #[.val (.long x0), .second, .val (.long x2), .second, .val (.long x4), .second, .val (.long x6), .second, .val (.int x8), .val (.long y0), .second, .val (.ref c1), .val (.ref c2), .val (.ref c3), .val (.int o10), .val (.long o7), .second, .unset] [(.long (x2 &&& y0)), (.long v11)])) rfl (by rw [hml]; rfl) (argsL := [(.long v11), (.long (x2 &&& y0))]) (rest := []) (lenOf pd5 rfl) rfl (by show 2 * 0 + _ ≤ _; exact Nat.le_of_eq rfl) (hb hby at_93)
    obtain ⟨rfl, e12, rfl⟩ := hQ12
    rw [List.append_nil] at X12'
    have X12 : Stand p l e room_1 s m args below meth c T12 _ 5 19 := X12'
    refine OwnOut.go (fun t k => st12 _ k) ?_
    show OwnOut p e s below 24 128 _ (T12.setTop (mkF m 96 #[.val (.long x0), .second, .val (.long x2), .second, .val (.long x4), .second, .val (.long x6), .second, .val (.int x8), .val (.long y0), .second, .val (.ref c1), .val (.ref c2), .val (.ref c3), .val (.int o10), .val (.long o7), .second, .unset] [(.long o12)]))
    refine OwnOut.go (fun t k => XS.lstore X12.here hx rfl (hb hby at_96) rfl (l' := #[.val (.long x0), .second, .val (.long x2), .second, .val (.long x4), .second, .val (.long x6), .second, .val (.int x8), .val (.long y0), .second, .val (.ref c1), .val (.ref c2), .val (.ref c3), .val (.int o10), .val (.long o12), .second, .unset]) rfl k) ?_
    show OwnOut p e s below 24 128 _ (T12.setTop (mkF m 98 #[.val (.long x0), .second, .val (.long x2), .second, .val (.long x4), .second, .val (.long x6), .second, .val (.int x8), .val (.long y0), .second, .val (.ref c1), .val (.ref c2), .val (.ref c3), .val (.int o10), .val (.long o12), .second, .unset] []))
    refine OwnOut.go (fun t k => XS.aload X12.here hx rfl (hb hby at_98) rfl rfl k) ?_
    show OwnOut p e s below 24 128 _ (T12.setTop (mkF m 100 #[.val (.long x0), .second, .val (.long x2), .second, .val (.long x4), .second, .val (.long x6), .second, .val (.int x8), .val (.long y0), .second, .val (.ref c1), .val (.ref c2), .val (.ref c3), .val (.int o10), .val (.long o12), .second, .unset] [(.ref c1)]))
    refine OwnOut.go (fun t k => XS.iload X12.here hx rfl (hb hby at_100) rfl k) ?_
    show OwnOut p e s below 24 128 _ (T12.setTop (mkF m 102 #[.val (.long x0), .second, .val (.long x2), .second, .val (.long x4), .second, .val (.long x6), .second, .val (.int x8), .val (.long y0), .second, .val (.ref c1), .val (.ref c2), .val (.ref c3), .val (.int o10), .val (.long o12), .second, .unset] [(.int o10), (.ref c1)]))
    refine OwnOut.go (fun t k => XS.lload X12.here hx rfl (hb hby at_102) rfl k) ?_
    show OwnOut p e s below 24 128 _ (T12.setTop (mkF m 104 #[.val (.long x0), .second, .val (.long x2), .second, .val (.long x4), .second, .val (.long x6), .second, .val (.int x8), .val (.long y0), .second, .val (.ref c1), .val (.ref c2), .val (.ref c3), .val (.int o10), .val (.long o12), .second, .unset] [(.long o12), (.int o10), (.ref c1)]))
    obtain ⟨l_13, hl13, hr⟩ := Option.bind_eq_some_iff.mp hr
    obtain ⟨T13, h13, X13, e13, W13, A_13, st13⟩ := saJ X12 hx hZ e12 A0_9 hl13 (g := (mkF m 104 #[.val (.long x0), .second, .val (.long x2), .second, .val (.long x4), .second, .val (.long x6), .second, .val (.int x8), .val (.long y0), .second, .val (.ref c1), .val (.ref c2), .val (.ref c3), .val (.int o10), .val (.long o12), .second, .unset] [(.long o12), (.int o10), (.ref c1)])) rfl rfl (hb hby at_104)
    refine OwnOut.go (fun t k => st13 _ k) ?_
    have A1_13 := A1_9.other W13 (Ne.symm ne0_1_2)
    have E2_13 := E2_9.wr W13
    have F2_times_13 := F2_times_9.other W13 (Or.inl (Ne.symm ne0_2_3))
    have F2_clients_13 := F2_clients_9.other W13 (Or.inl (Ne.symm ne0_2_3))
    have F2_size_13 := F2_size_9.other W13 (Or.inl (Ne.symm ne0_2_3))
    have A3_13 := A3_9.other W13 (Ne.symm ne0_3_4)
    have A4_13 := A4_9.other W13 (Ne.symm ne0_4_4)
    have N_13 := Fr.snoc X13 N_9 g_1
    have O_13 := O_9.wr W13 g_1
    have K_13 := K_9.wr W13 (Or.inr z_1)
    show OwnOut p e s below 24 128 _ (T13.setTop (mkF m 105 #[.val (.long x0), .second, .val (.long x2), .second, .val (.long x4), .second, .val (.long x6), .second, .val (.int x8), .val (.long y0), .second, .val (.ref c1), .val (.ref c2), .val (.ref c3), .val (.int o10), .val (.long o12), .second, .unset] []))
    refine OwnOut.go (fun t k => XS.aload X13.here hx rfl (hb hby at_105) rfl rfl k) ?_
    show OwnOut p e s below 24 128 _ (T13.setTop (mkF m 107 #[.val (.long x0), .second, .val (.long x2), .second, .val (.long x4), .second, .val (.long x6), .second, .val (.int x8), .val (.long y0), .second, .val (.ref c1), .val (.ref c2), .val (.ref c3), .val (.int o10), .val (.long o12), .second, .unset] [(.ref c3)]))
    refine OwnOut.go (fun t k => XS.lload X13.here hx rfl (hb hby at_107) rfl k) ?_
    show OwnOut p e s below 24 128 _ (T13.setTop (mkF m 109 #[.val (.long x0), .second, .val (.long x2), .second, .val (.long x4), .second, .val (.long x6), .second, .val (.int x8), .val (.long y0), .second, .val (.ref c1), .val (.ref c2), .val (.ref c3), .val (.int o10), .val (.long o12), .second, .unset] [(.long o12), (.ref c3)]))
    obtain ⟨o14, ho14, hr⟩ := Option.bind_eq_some_iff.mp hr
    obtain ⟨r14, T14, L14, X14', hQ14, st14⟩ := callV (W := 0) (rm := rx6) X13 hx hZ (y := (⟨"com/example/porter_drive/porterdrive/RequestQueue", "delayFirst", "(J)V"⟩ : MethodName)) hown (hw _ (List.mem_of_getElem? (i := 30) rfl)) (hw _ (List.mem_of_getElem? (i := 31) rfl)) (hw _ (List.mem_of_getElem? (i := 33) rfl)) (hw _ (List.mem_of_getElem? (i := 32) rfl)) (hw _ (List.mem_of_getElem? (i := 5) rfl)) (hw _ (List.mem_of_getElem? (i := 34) rfl)) (by decide) (rm6 l Z a0 hw [] o12 c3 o4.1 c4_0 o9.1 c4_1 o9.2 h13 n0 o14 ho14 O_13 E2_13 F2_times_13 F2_clients_13 F2_size_13 A3_13 A4_13 g_3 gq4_0 gq4_1 ne2_3_4 ne2_4_4 neq4_0_1) (by decide) (by decide) (by decide) (by decide) e13 E2_13 (g := (mkF m 109 #[.val (.long x0), .second, .val (.long x2), .second, .val (.long x4), .second, .val (.long x6), .second, .val (.int x8), .val (.long y0), .second, .val (.ref c1), .val (.ref c2), .val (.ref c3), .val (.int o10), .val (.long o12), .second, .unset] [(.long o12), (.ref c3)])) rfl (by rw [hml]; rfl) (argsL := [(.long o12)]) (rest := []) (lenOf pd6 rfl) rfl (by show 2 * 0 + _ ≤ _; exact Nat.le_of_eq rfl) (hb hby at_109)
    obtain ⟨rfl, Nq14, Kq14, A3_14, A4_14⟩ := hQ14
    have X14 : Stand p l e room_1 s m args below meth c T14 _ 5 19 := X14'
    have A0_14 := A_13.keep Kq14 (ninS ne0_3_4 (ninS ne0_4_4 nin0))
    have A1_14 := A1_13.keep Kq14 (ninS ne1_3_4 (ninS ne1_4_4 nin0))
    have E2_14 := E2_13.keep Kq14
    have F2_times_14 := F2_times_13.keep Kq14 (ninS ne2_3_4 (ninS ne2_4_4 nin0))
    have F2_clients_14 := F2_clients_13.keep Kq14 (ninS ne2_3_4 (ninS ne2_4_4 nin0))
    have F2_size_14 := F2_size_13.keep Kq14 (ninS ne2_3_4 (ninS ne2_4_4 nin0))
    have N_14 := Fr.app N_13 Nq14
    have O_14 := O_13.keep Kq14 (allS gq4_0 (allS gq4_1 all0))
    have K_14 := K_13.trans Kq14 (allS (Or.inr z_4_0) (allS (Or.inr z_4_1) all0))
    refine OwnOut.go (fun t k => st14 _ k) ?_
    show OwnOut p e s below 24 128 _ (T14.setTop (mkF m 112 #[.val (.long x0), .second, .val (.long x2), .second, .val (.long x4), .second, .val (.long x6), .second, .val (.int x8), .val (.long y0), .second, .val (.ref c1), .val (.ref c2), .val (.ref c3), .val (.int o10), .val (.long o12), .second, .unset] []))
    refine OwnOut.go (fun t k => XS.aload X14.here hx rfl (hb hby at_112) rfl rfl k) ?_
    show OwnOut p e s below 24 128 _ (T14.setTop (mkF m 114 #[.val (.long x0), .second, .val (.long x2), .second, .val (.long x4), .second, .val (.long x6), .second, .val (.int x8), .val (.long y0), .second, .val (.ref c1), .val (.ref c2), .val (.ref c3), .val (.int o10), .val (.long o12), .second, .unset] [(.ref c1)]))
    refine OwnOut.go (fun t k => XS.aload X14.here hx rfl (hb hby at_114) rfl rfl k) ?_
    show OwnOut p e s below 24 128 _ (T14.setTop (mkF m 116 #[.val (.long x0), .second, .val (.long x2), .second, .val (.long x4), .second, .val (.long x6), .second, .val (.int x8), .val (.long y0), .second, .val (.ref c1), .val (.ref c2), .val (.ref c3), .val (.int o10), .val (.long o12), .second, .unset] [(.ref c2), (.ref c1)]))
    obtain ⟨o15, ho15, hr⟩ := Option.bind_eq_some_iff.mp hr
    obtain ⟨r15, T15, L15, X15', hQ15, st15⟩ := callQ (W := 0) (rm := rx3) X14 hx hZ (y := (⟨"com/example/porter_drive/porterdrive/RequestQueueRemoveFirstPinLaw", "first", "([J[Z)I"⟩ : MethodName)) hown (hw _ (List.mem_of_getElem? (i := 19) rfl)) (hw _ (List.mem_of_getElem? (i := 20) rfl)) (hw _ (List.mem_of_getElem? (i := 21) rfl)) (hw _ (List.mem_of_getElem? (i := 22) rfl)) (by decide) (rm3 l Z a0 hw [] c1 l_13 c2 [(0 : Int32), (0 : Int32), (0 : Int32), (0 : Int32)] T14.heap o15 ho15 A0_14 A1_14) (by decide) (by decide) (by decide) (by decide) rfl (g := (mkF m 116 #[.val (.long x0), .second, .val (.long x2), .second, .val (.long x4), .second, .val (.long x6), .second, .val (.int x8), .val (.long y0), .second, .val (.ref c1), .val (.ref c2), .val (.ref c3), .val (.int o10), .val (.long o12), .second, .unset] [(.ref c2), (.ref c1)])) rfl (by rw [hml]; rfl) (argsL := [(.ref c1), (.ref c2)]) (rest := []) (lenOf pd3 rfl) rfl (by show 2 * 0 + _ ≤ _; exact Nat.le_of_eq rfl) (hb hby at_116)
    obtain ⟨rfl, e15, rfl⟩ := hQ15
    rw [List.append_nil] at X15'
    have X15 : Stand p l e room_1 s m args below meth c T15 _ 5 19 := X15'
    refine OwnOut.go (fun t k => st15 _ k) ?_
    show OwnOut p e s below 24 128 _ (T15.setTop (mkF m 119 #[.val (.long x0), .second, .val (.long x2), .second, .val (.long x4), .second, .val (.long x6), .second, .val (.int x8), .val (.long y0), .second, .val (.ref c1), .val (.ref c2), .val (.ref c3), .val (.int o10), .val (.long o12), .second, .unset] [(.int o15)]))
    refine OwnOut.go (fun t k => XS.istore X15.here hx rfl (hb hby at_119) rfl (l' := #[.val (.long x0), .second, .val (.long x2), .second, .val (.long x4), .second, .val (.long x6), .second, .val (.int x8), .val (.long y0), .second, .val (.ref c1), .val (.ref c2), .val (.ref c3), .val (.int o15), .val (.long o12), .second, .unset]) rfl k) ?_
    show OwnOut p e s below 24 128 _ (T15.setTop (mkF m 121 #[.val (.long x0), .second, .val (.long x2), .second, .val (.long x4), .second, .val (.long x6), .second, .val (.int x8), .val (.long y0), .second, .val (.ref c1), .val (.ref c2), .val (.ref c3), .val (.int o15), .val (.long o12), .second, .unset] []))
    refine OwnOut.go (fun t k => XS.aload X15.here hx rfl (hb hby at_121) rfl rfl k) ?_
    show OwnOut p e s below 24 128 _ (T15.setTop (mkF m 123 #[.val (.long x0), .second, .val (.long x2), .second, .val (.long x4), .second, .val (.long x6), .second, .val (.int x8), .val (.long y0), .second, .val (.ref c1), .val (.ref c2), .val (.ref c3), .val (.int o15), .val (.long o12), .second, .unset] [(.ref c1)]))
    refine OwnOut.go (fun t k => XS.iload X15.here hx rfl (hb hby at_123) rfl k) ?_
    show OwnOut p e s below 24 128 _ (T15.setTop (mkF m 125 #[.val (.long x0), .second, .val (.long x2), .second, .val (.long x4), .second, .val (.long x6), .second, .val (.int x8), .val (.long y0), .second, .val (.ref c1), .val (.ref c2), .val (.ref c3), .val (.int o15), .val (.long o12), .second, .unset] [(.int o15), (.ref c1)]))
    obtain ⟨v16, hv16, hr⟩ := Option.bind_eq_some_iff.mp hr
    refine OwnOut.go (fun t k => ldJ X15 hx hZ e15 A0_14 hv16 (g := (mkF m 125 #[.val (.long x0), .second, .val (.long x2), .second, .val (.long x4), .second, .val (.long x6), .second, .val (.int x8), .val (.long y0), .second, .val (.ref c1), .val (.ref c2), .val (.ref c3), .val (.int o15), .val (.long o12), .second, .unset] [(.int o15), (.ref c1)])) rfl rfl (hb hby at_125) t k) ?_
    show OwnOut p e s below 24 128 _ (T15.setTop (mkF m 126 #[.val (.long x0), .second, .val (.long x2), .second, .val (.long x4), .second, .val (.long x6), .second, .val (.int x8), .val (.long y0), .second, .val (.ref c1), .val (.ref c2), .val (.ref c3), .val (.int o15), .val (.long o12), .second, .unset] [(.long v16)]))
    refine OwnOut.go (fun t k => XS.lload X15.here hx rfl (hb hby at_126) rfl k) ?_
    show OwnOut p e s below 24 128 _ (T15.setTop (mkF m 128 #[.val (.long x0), .second, .val (.long x2), .second, .val (.long x4), .second, .val (.long x6), .second, .val (.int x8), .val (.long y0), .second, .val (.ref c1), .val (.ref c2), .val (.ref c3), .val (.int o15), .val (.long o12), .second, .unset] [(.long x4), (.long v16)]))
    refine OwnOut.go (fun t k => XS.lload X15.here hx rfl (hb hby at_128) rfl k) ?_
    show OwnOut p e s below 24 128 _ (T15.setTop (mkF m 130 #[.val (.long x0), .second, .val (.long x2), .second, .val (.long x4), .second, .val (.long x6), .second, .val (.int x8), .val (.long y0), .second, .val (.ref c1), .val (.ref c2), .val (.ref c3), .val (.int o15), .val (.long o12), .second, .unset] [(.long y0), (.long x4), (.long v16)]))
    refine OwnOut.go (fun t k => XS.land X15.here hx rfl (hb hby at_130) rfl k) ?_
    show OwnOut p e s below 24 128 _ (T15.setTop (mkF m 131 #[.val (.long x0), .second, .val (.long x2), .second, .val (.long x4), .second, .val (.long x6), .second, .val (.int x8), .val (.long y0), .second, .val (.ref c1), .val (.ref c2), .val (.ref c3), .val (.int o15), .val (.long o12), .second, .unset] [(.long (x4 &&& y0)), (.long v16)]))
    obtain ⟨o17, ho17, hr⟩ := Option.bind_eq_some_iff.mp hr
    obtain ⟨r17, T17, L17, X17', hQ17, st17⟩ := callQ (W := 0) (rm := rx5) X15 hx hZ (y := (⟨"java/lang/Math", "max", "(JJ)J"⟩ : MethodName)) hown (hw _ (List.mem_of_getElem? (i := 26) rfl)) (hw _ (List.mem_of_getElem? (i := 27) rfl)) (hw _ (List.mem_of_getElem? (i := 28) rfl)) (hw _ (List.mem_of_getElem? (i := 29) rfl)) (by decide) (rm5 l Z a0 hw [] v16 (x4 &&& y0) T14.heap o17 ho17 ) (by decide) (by decide) (by decide) (by decide) e15 (g := (mkF m 131 #[.val (.long x0), .second, .val (.long x2), .second, .val (.long x4), .second, .val (.long x6), .second, .val (.int x8), .val (.long y0), .second, .val (.ref c1), .val (.ref c2), .val (.ref c3), .val (.int o15), .val (.long o12), .second, .unset] [(.long (x4 &&& y0)), (.long v16)])) rfl (by rw [hml]; rfl) (argsL := [(.long v16), (.long (x4 &&& y0))]) (rest := []) (lenOf pd5 rfl) rfl (by show 2 * 0 + _ ≤ _; exact Nat.le_of_eq rfl) (hb hby at_131)
    obtain ⟨rfl, e17, rfl⟩ := hQ17
    rw [List.append_nil] at X17'
    have X17 : Stand p l e room_1 s m args below meth c T17 _ 5 19 := X17'
    refine OwnOut.go (fun t k => st17 _ k) ?_
    show OwnOut p e s below 24 128 _ (T17.setTop (mkF m 134 #[.val (.long x0), .second, .val (.long x2), .second, .val (.long x4), .second, .val (.long x6), .second, .val (.int x8), .val (.long y0), .second, .val (.ref c1), .val (.ref c2), .val (.ref c3), .val (.int o15), .val (.long o12), .second, .unset] [(.long o17)]))
    refine OwnOut.go (fun t k => XS.lstore X17.here hx rfl (hb hby at_134) rfl (l' := #[.val (.long x0), .second, .val (.long x2), .second, .val (.long x4), .second, .val (.long x6), .second, .val (.int x8), .val (.long y0), .second, .val (.ref c1), .val (.ref c2), .val (.ref c3), .val (.int o15), .val (.long o17), .second, .unset]) rfl k) ?_
    show OwnOut p e s below 24 128 _ (T17.setTop (mkF m 136 #[.val (.long x0), .second, .val (.long x2), .second, .val (.long x4), .second, .val (.long x6), .second, .val (.int x8), .val (.long y0), .second, .val (.ref c1), .val (.ref c2), .val (.ref c3), .val (.int o15), .val (.long o17), .second, .unset] []))
    refine OwnOut.go (fun t k => XS.aload X17.here hx rfl (hb hby at_136) rfl rfl k) ?_
    show OwnOut p e s below 24 128 _ (T17.setTop (mkF m 138 #[.val (.long x0), .second, .val (.long x2), .second, .val (.long x4), .second, .val (.long x6), .second, .val (.int x8), .val (.long y0), .second, .val (.ref c1), .val (.ref c2), .val (.ref c3), .val (.int o15), .val (.long o17), .second, .unset] [(.ref c1)]))
    refine OwnOut.go (fun t k => XS.iload X17.here hx rfl (hb hby at_138) rfl k) ?_
    show OwnOut p e s below 24 128 _ (T17.setTop (mkF m 140 #[.val (.long x0), .second, .val (.long x2), .second, .val (.long x4), .second, .val (.long x6), .second, .val (.int x8), .val (.long y0), .second, .val (.ref c1), .val (.ref c2), .val (.ref c3), .val (.int o15), .val (.long o17), .second, .unset] [(.int o15), (.ref c1)]))
    refine OwnOut.go (fun t k => XS.lload X17.here hx rfl (hb hby at_140) rfl k) ?_
    show OwnOut p e s below 24 128 _ (T17.setTop (mkF m 142 #[.val (.long x0), .second, .val (.long x2), .second, .val (.long x4), .second, .val (.long x6), .second, .val (.int x8), .val (.long y0), .second, .val (.ref c1), .val (.ref c2), .val (.ref c3), .val (.int o15), .val (.long o17), .second, .unset] [(.long o17), (.int o15), (.ref c1)]))
    obtain ⟨l_18, hl18, hr⟩ := Option.bind_eq_some_iff.mp hr
    obtain ⟨T18, h18, X18, e18, W18, A_18, st18⟩ := saJ X17 hx hZ e17 A0_14 hl18 (g := (mkF m 142 #[.val (.long x0), .second, .val (.long x2), .second, .val (.long x4), .second, .val (.long x6), .second, .val (.int x8), .val (.long y0), .second, .val (.ref c1), .val (.ref c2), .val (.ref c3), .val (.int o15), .val (.long o17), .second, .unset] [(.long o17), (.int o15), (.ref c1)])) rfl rfl (hb hby at_142)
    refine OwnOut.go (fun t k => st18 _ k) ?_
    have A1_18 := A1_14.other W18 (Ne.symm ne0_1_2)
    have E2_18 := E2_14.wr W18
    have F2_times_18 := F2_times_14.other W18 (Or.inl (Ne.symm ne0_2_3))
    have F2_clients_18 := F2_clients_14.other W18 (Or.inl (Ne.symm ne0_2_3))
    have F2_size_18 := F2_size_14.other W18 (Or.inl (Ne.symm ne0_2_3))
    have A3_18 := A3_14.other W18 (Ne.symm ne0_3_4)
    have A4_18 := A4_14.other W18 (Ne.symm ne0_4_4)
    have N_18 := Fr.snoc X18 N_14 g_1
    have O_18 := O_14.wr W18 g_1
    have K_18 := K_14.wr W18 (Or.inr z_1)
    show OwnOut p e s below 24 128 _ (T18.setTop (mkF m 143 #[.val (.long x0), .second, .val (.long x2), .second, .val (.long x4), .second, .val (.long x6), .second, .val (.int x8), .val (.long y0), .second, .val (.ref c1), .val (.ref c2), .val (.ref c3), .val (.int o15), .val (.long o17), .second, .unset] []))
    refine OwnOut.go (fun t k => XS.aload X18.here hx rfl (hb hby at_143) rfl rfl k) ?_
    show OwnOut p e s below 24 128 _ (T18.setTop (mkF m 145 #[.val (.long x0), .second, .val (.long x2), .second, .val (.long x4), .second, .val (.long x6), .second, .val (.int x8), .val (.long y0), .second, .val (.ref c1), .val (.ref c2), .val (.ref c3), .val (.int o15), .val (.long o17), .second, .unset] [(.ref c3)]))
    refine OwnOut.go (fun t k => XS.lload X18.here hx rfl (hb hby at_145) rfl k) ?_
    show OwnOut p e s below 24 128 _ (T18.setTop (mkF m 147 #[.val (.long x0), .second, .val (.long x2), .second, .val (.long x4), .second, .val (.long x6), .second, .val (.int x8), .val (.long y0), .second, .val (.ref c1), .val (.ref c2), .val (.ref c3), .val (.int o15), .val (.long o17), .second, .unset] [(.long o17), (.ref c3)]))
    obtain ⟨o19, ho19, hr⟩ := Option.bind_eq_some_iff.mp hr
    obtain ⟨r19, T19, L19, X19', hQ19, st19⟩ := callV (W := 0) (rm := rx6) X18 hx hZ (y := (⟨"com/example/porter_drive/porterdrive/RequestQueue", "delayFirst", "(J)V"⟩ : MethodName)) hown (hw _ (List.mem_of_getElem? (i := 30) rfl)) (hw _ (List.mem_of_getElem? (i := 31) rfl)) (hw _ (List.mem_of_getElem? (i := 33) rfl)) (hw _ (List.mem_of_getElem? (i := 32) rfl)) (hw _ (List.mem_of_getElem? (i := 5) rfl)) (hw _ (List.mem_of_getElem? (i := 34) rfl)) (by decide) (rm6 l Z a0 hw [] o17 c3 o4.1 c4_0 o14.1 c4_1 o14.2 h18 n0 o19 ho19 O_18 E2_18 F2_times_18 F2_clients_18 F2_size_18 A3_18 A4_18 g_3 gq4_0 gq4_1 ne2_3_4 ne2_4_4 neq4_0_1) (by decide) (by decide) (by decide) (by decide) e18 E2_18 (g := (mkF m 147 #[.val (.long x0), .second, .val (.long x2), .second, .val (.long x4), .second, .val (.long x6), .second, .val (.int x8), .val (.long y0), .second, .val (.ref c1), .val (.ref c2), .val (.ref c3), .val (.int o15), .val (.long o17), .second, .unset] [(.long o17), (.ref c3)])) rfl (by rw [hml]; rfl) (argsL := [(.long o17)]) (rest := []) (lenOf pd6 rfl) rfl (by show 2 * 0 + _ ≤ _; exact Nat.le_of_eq rfl) (hb hby at_147)
    obtain ⟨rfl, Nq19, Kq19, A3_19, A4_19⟩ := hQ19
    have X19 : Stand p l e room_1 s m args below meth c T19 _ 5 19 := X19'
    have A0_19 := A_18.keep Kq19 (ninS ne0_3_4 (ninS ne0_4_4 nin0))
    have A1_19 := A1_18.keep Kq19 (ninS ne1_3_4 (ninS ne1_4_4 nin0))
    have E2_19 := E2_18.keep Kq19
    have F2_times_19 := F2_times_18.keep Kq19 (ninS ne2_3_4 (ninS ne2_4_4 nin0))
    have F2_clients_19 := F2_clients_18.keep Kq19 (ninS ne2_3_4 (ninS ne2_4_4 nin0))
    have F2_size_19 := F2_size_18.keep Kq19 (ninS ne2_3_4 (ninS ne2_4_4 nin0))
    have N_19 := Fr.app N_18 Nq19
    have O_19 := O_18.keep Kq19 (allS gq4_0 (allS gq4_1 all0))
    have K_19 := K_18.trans Kq19 (allS (Or.inr z_4_0) (allS (Or.inr z_4_1) all0))
    refine OwnOut.go (fun t k => st19 _ k) ?_
    show OwnOut p e s below 24 128 _ (T19.setTop (mkF m 150 #[.val (.long x0), .second, .val (.long x2), .second, .val (.long x4), .second, .val (.long x6), .second, .val (.int x8), .val (.long y0), .second, .val (.ref c1), .val (.ref c2), .val (.ref c3), .val (.int o15), .val (.long o17), .second, .unset] []))
    refine OwnOut.go (fun t k => XS.aload X19.here hx rfl (hb hby at_150) rfl rfl k) ?_
    show OwnOut p e s below 24 128 _ (T19.setTop (mkF m 152 #[.val (.long x0), .second, .val (.long x2), .second, .val (.long x4), .second, .val (.long x6), .second, .val (.int x8), .val (.long y0), .second, .val (.ref c1), .val (.ref c2), .val (.ref c3), .val (.int o15), .val (.long o17), .second, .unset] [(.ref c1)]))
    refine OwnOut.go (fun t k => XS.aload X19.here hx rfl (hb hby at_152) rfl rfl k) ?_
    show OwnOut p e s below 24 128 _ (T19.setTop (mkF m 154 #[.val (.long x0), .second, .val (.long x2), .second, .val (.long x4), .second, .val (.long x6), .second, .val (.int x8), .val (.long y0), .second, .val (.ref c1), .val (.ref c2), .val (.ref c3), .val (.int o15), .val (.long o17), .second, .unset] [(.ref c2), (.ref c1)]))
    obtain ⟨o20, ho20, hr⟩ := Option.bind_eq_some_iff.mp hr
    obtain ⟨r20, T20, L20, X20', hQ20, st20⟩ := callQ (W := 0) (rm := rx3) X19 hx hZ (y := (⟨"com/example/porter_drive/porterdrive/RequestQueueRemoveFirstPinLaw", "first", "([J[Z)I"⟩ : MethodName)) hown (hw _ (List.mem_of_getElem? (i := 19) rfl)) (hw _ (List.mem_of_getElem? (i := 20) rfl)) (hw _ (List.mem_of_getElem? (i := 21) rfl)) (hw _ (List.mem_of_getElem? (i := 22) rfl)) (by decide) (rm3 l Z a0 hw [] c1 l_18 c2 [(0 : Int32), (0 : Int32), (0 : Int32), (0 : Int32)] T19.heap o20 ho20 A0_19 A1_19) (by decide) (by decide) (by decide) (by decide) rfl (g := (mkF m 154 #[.val (.long x0), .second, .val (.long x2), .second, .val (.long x4), .second, .val (.long x6), .second, .val (.int x8), .val (.long y0), .second, .val (.ref c1), .val (.ref c2), .val (.ref c3), .val (.int o15), .val (.long o17), .second, .unset] [(.ref c2), (.ref c1)])) rfl (by rw [hml]; rfl) (argsL := [(.ref c1), (.ref c2)]) (rest := []) (lenOf pd3 rfl) rfl (by show 2 * 0 + _ ≤ _; exact Nat.le_of_eq rfl) (hb hby at_154)
    obtain ⟨rfl, e20, rfl⟩ := hQ20
    rw [List.append_nil] at X20'
    have X20 : Stand p l e room_1 s m args below meth c T20 _ 5 19 := X20'
    refine OwnOut.go (fun t k => st20 _ k) ?_
    show OwnOut p e s below 24 128 _ (T20.setTop (mkF m 157 #[.val (.long x0), .second, .val (.long x2), .second, .val (.long x4), .second, .val (.long x6), .second, .val (.int x8), .val (.long y0), .second, .val (.ref c1), .val (.ref c2), .val (.ref c3), .val (.int o15), .val (.long o17), .second, .unset] [(.int o20)]))
    refine OwnOut.go (fun t k => XS.istore X20.here hx rfl (hb hby at_157) rfl (l' := #[.val (.long x0), .second, .val (.long x2), .second, .val (.long x4), .second, .val (.long x6), .second, .val (.int x8), .val (.long y0), .second, .val (.ref c1), .val (.ref c2), .val (.ref c3), .val (.int o20), .val (.long o17), .second, .unset]) rfl k) ?_
    show OwnOut p e s below 24 128 _ (T20.setTop (mkF m 159 #[.val (.long x0), .second, .val (.long x2), .second, .val (.long x4), .second, .val (.long x6), .second, .val (.int x8), .val (.long y0), .second, .val (.ref c1), .val (.ref c2), .val (.ref c3), .val (.int o20), .val (.long o17), .second, .unset] []))
    refine OwnOut.go (fun t k => XS.aload X20.here hx rfl (hb hby at_159) rfl rfl k) ?_
    show OwnOut p e s below 24 128 _ (T20.setTop (mkF m 161 #[.val (.long x0), .second, .val (.long x2), .second, .val (.long x4), .second, .val (.long x6), .second, .val (.int x8), .val (.long y0), .second, .val (.ref c1), .val (.ref c2), .val (.ref c3), .val (.int o20), .val (.long o17), .second, .unset] [(.ref c1)]))
    refine OwnOut.go (fun t k => XS.iload X20.here hx rfl (hb hby at_161) rfl k) ?_
    show OwnOut p e s below 24 128 _ (T20.setTop (mkF m 163 #[.val (.long x0), .second, .val (.long x2), .second, .val (.long x4), .second, .val (.long x6), .second, .val (.int x8), .val (.long y0), .second, .val (.ref c1), .val (.ref c2), .val (.ref c3), .val (.int o20), .val (.long o17), .second, .unset] [(.int o20), (.ref c1)]))
    obtain ⟨v21, hv21, hr⟩ := Option.bind_eq_some_iff.mp hr
    refine OwnOut.go (fun t k => ldJ X20 hx hZ e20 A0_19 hv21 (g := (mkF m 163 #[.val (.long x0), .second, .val (.long x2), .second, .val (.long x4), .second, .val (.long x6), .second, .val (.int x8), .val (.long y0), .second, .val (.ref c1), .val (.ref c2), .val (.ref c3), .val (.int o20), .val (.long o17), .second, .unset] [(.int o20), (.ref c1)])) rfl rfl (hb hby at_163) t k) ?_
    show OwnOut p e s below 24 128 _ (T20.setTop (mkF m 164 #[.val (.long x0), .second, .val (.long x2), .second, .val (.long x4), .second, .val (.long x6), .second, .val (.int x8), .val (.long y0), .second, .val (.ref c1), .val (.ref c2), .val (.ref c3), .val (.int o20), .val (.long o17), .second, .unset] [(.long v21)]))
    refine OwnOut.go (fun t k => XS.lload X20.here hx rfl (hb hby at_164) rfl k) ?_
    show OwnOut p e s below 24 128 _ (T20.setTop (mkF m 166 #[.val (.long x0), .second, .val (.long x2), .second, .val (.long x4), .second, .val (.long x6), .second, .val (.int x8), .val (.long y0), .second, .val (.ref c1), .val (.ref c2), .val (.ref c3), .val (.int o20), .val (.long o17), .second, .unset] [(.long x6), (.long v21)]))
    refine OwnOut.go (fun t k => XS.lload X20.here hx rfl (hb hby at_166) rfl k) ?_
    show OwnOut p e s below 24 128 _ (T20.setTop (mkF m 168 #[.val (.long x0), .second, .val (.long x2), .second, .val (.long x4), .second, .val (.long x6), .second, .val (.int x8), .val (.long y0), .second, .val (.ref c1), .val (.ref c2), .val (.ref c3), .val (.int o20), .val (.long o17), .second, .unset] [(.long y0), (.long x6), (.long v21)]))
    refine OwnOut.go (fun t k => XS.land X20.here hx rfl (hb hby at_168) rfl k) ?_
    show OwnOut p e s below 24 128 _ (T20.setTop (mkF m 169 #[.val (.long x0), .second, .val (.long x2), .second, .val (.long x4), .second, .val (.long x6), .second, .val (.int x8), .val (.long y0), .second, .val (.ref c1), .val (.ref c2), .val (.ref c3), .val (.int o20), .val (.long o17), .second, .unset] [(.long (x6 &&& y0)), (.long v21)]))
    obtain ⟨o22, ho22, hr⟩ := Option.bind_eq_some_iff.mp hr
    obtain ⟨r22, T22, L22, X22', hQ22, st22⟩ := callQ (W := 0) (rm := rx5) X20 hx hZ (y := (⟨"java/lang/Math", "max", "(JJ)J"⟩ : MethodName)) hown (hw _ (List.mem_of_getElem? (i := 26) rfl)) (hw _ (List.mem_of_getElem? (i := 27) rfl)) (hw _ (List.mem_of_getElem? (i := 28) rfl)) (hw _ (List.mem_of_getElem? (i := 29) rfl)) (by decide) (rm5 l Z a0 hw [] v21 (x6 &&& y0) T19.heap o22 ho22 ) (by decide) (by decide) (by decide) (by decide) e20 (g := (mkF m 169 #[.val (.long x0), .second, .val (.long x2), .second, .val (.long x4), .second, .val (.long x6), .second, .val (.int x8), .val (.long y0), .second, .val (.ref c1), .val (.ref c2), .val (.ref c3), .val (.int o20), .val (.long o17), .second, .unset] [(.long (x6 &&& y0)), (.long v21)])) rfl (by rw [hml]; rfl) (argsL := [(.long v21), (.long (x6 &&& y0))]) (rest := []) (lenOf pd5 rfl) rfl (by show 2 * 0 + _ ≤ _; exact Nat.le_of_eq rfl) (hb hby at_169)
    obtain ⟨rfl, e22, rfl⟩ := hQ22
    rw [List.append_nil] at X22'
    have X22 : Stand p l e room_1 s m args below meth c T22 _ 5 19 := X22'
    refine OwnOut.go (fun t k => st22 _ k) ?_
    show OwnOut p e s below 24 128 _ (T22.setTop (mkF m 172 #[.val (.long x0), .second, .val (.long x2), .second, .val (.long x4), .second, .val (.long x6), .second, .val (.int x8), .val (.long y0), .second, .val (.ref c1), .val (.ref c2), .val (.ref c3), .val (.int o20), .val (.long o17), .second, .unset] [(.long o22)]))
    refine OwnOut.go (fun t k => XS.lstore X22.here hx rfl (hb hby at_172) rfl (l' := #[.val (.long x0), .second, .val (.long x2), .second, .val (.long x4), .second, .val (.long x6), .second, .val (.int x8), .val (.long y0), .second, .val (.ref c1), .val (.ref c2), .val (.ref c3), .val (.int o20), .val (.long o22), .second, .unset]) rfl k) ?_
    show OwnOut p e s below 24 128 _ (T22.setTop (mkF m 174 #[.val (.long x0), .second, .val (.long x2), .second, .val (.long x4), .second, .val (.long x6), .second, .val (.int x8), .val (.long y0), .second, .val (.ref c1), .val (.ref c2), .val (.ref c3), .val (.int o20), .val (.long o22), .second, .unset] []))
    refine OwnOut.go (fun t k => XS.aload X22.here hx rfl (hb hby at_174) rfl rfl k) ?_
    show OwnOut p e s below 24 128 _ (T22.setTop (mkF m 176 #[.val (.long x0), .second, .val (.long x2), .second, .val (.long x4), .second, .val (.long x6), .second, .val (.int x8), .val (.long y0), .second, .val (.ref c1), .val (.ref c2), .val (.ref c3), .val (.int o20), .val (.long o22), .second, .unset] [(.ref c1)]))
    refine OwnOut.go (fun t k => XS.iload X22.here hx rfl (hb hby at_176) rfl k) ?_
    show OwnOut p e s below 24 128 _ (T22.setTop (mkF m 178 #[.val (.long x0), .second, .val (.long x2), .second, .val (.long x4), .second, .val (.long x6), .second, .val (.int x8), .val (.long y0), .second, .val (.ref c1), .val (.ref c2), .val (.ref c3), .val (.int o20), .val (.long o22), .second, .unset] [(.int o20), (.ref c1)]))
    refine OwnOut.go (fun t k => XS.lload X22.here hx rfl (hb hby at_178) rfl k) ?_
    show OwnOut p e s below 24 128 _ (T22.setTop (mkF m 180 #[.val (.long x0), .second, .val (.long x2), .second, .val (.long x4), .second, .val (.long x6), .second, .val (.int x8), .val (.long y0), .second, .val (.ref c1), .val (.ref c2), .val (.ref c3), .val (.int o20), .val (.long o22), .second, .unset] [(.long o22), (.int o20), (.ref c1)]))
    obtain ⟨l_23, hl23, hr⟩ := Option.bind_eq_some_iff.mp hr
    obtain ⟨T23, h23, X23, e23, W23, A_23, st23⟩ := saJ X22 hx hZ e22 A0_19 hl23 (g := (mkF m 180 #[.val (.long x0), .second, .val (.long x2), .second, .val (.long x4), .second, .val (.long x6), .second, .val (.int x8), .val (.long y0), .second, .val (.ref c1), .val (.ref c2), .val (.ref c3), .val (.int o20), .val (.long o22), .second, .unset] [(.long o22), (.int o20), (.ref c1)])) rfl rfl (hb hby at_180)
    refine OwnOut.go (fun t k => st23 _ k) ?_
    have A1_23 := A1_19.other W23 (Ne.symm ne0_1_2)
    have E2_23 := E2_19.wr W23
    have F2_times_23 := F2_times_19.other W23 (Or.inl (Ne.symm ne0_2_3))
    have F2_clients_23 := F2_clients_19.other W23 (Or.inl (Ne.symm ne0_2_3))
    have F2_size_23 := F2_size_19.other W23 (Or.inl (Ne.symm ne0_2_3))
    have A3_23 := A3_19.other W23 (Ne.symm ne0_3_4)
    have A4_23 := A4_19.other W23 (Ne.symm ne0_4_4)
    have N_23 := Fr.snoc X23 N_19 g_1
    have O_23 := O_19.wr W23 g_1
    have K_23 := K_19.wr W23 (Or.inr z_1)
    show OwnOut p e s below 24 128 _ (T23.setTop (mkF m 181 #[.val (.long x0), .second, .val (.long x2), .second, .val (.long x4), .second, .val (.long x6), .second, .val (.int x8), .val (.long y0), .second, .val (.ref c1), .val (.ref c2), .val (.ref c3), .val (.int o20), .val (.long o22), .second, .unset] []))
    refine OwnOut.go (fun t k => XS.aload X23.here hx rfl (hb hby at_181) rfl rfl k) ?_
    show OwnOut p e s below 24 128 _ (T23.setTop (mkF m 183 #[.val (.long x0), .second, .val (.long x2), .second, .val (.long x4), .second, .val (.long x6), .second, .val (.int x8), .val (.long y0), .second, .val (.ref c1), .val (.ref c2), .val (.ref c3), .val (.int o20), .val (.long o22), .second, .unset] [(.ref c3)]))
    refine OwnOut.go (fun t k => XS.lload X23.here hx rfl (hb hby at_183) rfl k) ?_
    show OwnOut p e s below 24 128 _ (T23.setTop (mkF m 185 #[.val (.long x0), .second, .val (.long x2), .second, .val (.long x4), .second, .val (.long x6), .second, .val (.int x8), .val (.long y0), .second, .val (.ref c1), .val (.ref c2), .val (.ref c3), .val (.int o20), .val (.long o22), .second, .unset] [(.long o22), (.ref c3)]))
    obtain ⟨o24, ho24, hr⟩ := Option.bind_eq_some_iff.mp hr
    obtain ⟨r24, T24, L24, X24', hQ24, st24⟩ := callV (W := 0) (rm := rx6) X23 hx hZ (y := (⟨"com/example/porter_drive/porterdrive/RequestQueue", "delayFirst", "(J)V"⟩ : MethodName)) hown (hw _ (List.mem_of_getElem? (i := 30) rfl)) (hw _ (List.mem_of_getElem? (i := 31) rfl)) (hw _ (List.mem_of_getElem? (i := 33) rfl)) (hw _ (List.mem_of_getElem? (i := 32) rfl)) (hw _ (List.mem_of_getElem? (i := 5) rfl)) (hw _ (List.mem_of_getElem? (i := 34) rfl)) (by decide) (rm6 l Z a0 hw [] o22 c3 o4.1 c4_0 o19.1 c4_1 o19.2 h23 n0 o24 ho24 O_23 E2_23 F2_times_23 F2_clients_23 F2_size_23 A3_23 A4_23 g_3 gq4_0 gq4_1 ne2_3_4 ne2_4_4 neq4_0_1) (by decide) (by decide) (by decide) (by decide) e23 E2_23 (g := (mkF m 185 #[.val (.long x0), .second, .val (.long x2), .second, .val (.long x4), .second, .val (.long x6), .second, .val (.int x8), .val (.long y0), .second, .val (.ref c1), .val (.ref c2), .val (.ref c3), .val (.int o20), .val (.long o22), .second, .unset] [(.long o22), (.ref c3)])) rfl (by rw [hml]; rfl) (argsL := [(.long o22)]) (rest := []) (lenOf pd6 rfl) rfl (by show 2 * 0 + _ ≤ _; exact Nat.le_of_eq rfl) (hb hby at_185)
    obtain ⟨rfl, Nq24, Kq24, A3_24, A4_24⟩ := hQ24
    have X24 : Stand p l e room_1 s m args below meth c T24 _ 5 19 := X24'
    have A0_24 := A_23.keep Kq24 (ninS ne0_3_4 (ninS ne0_4_4 nin0))
    have A1_24 := A1_23.keep Kq24 (ninS ne1_3_4 (ninS ne1_4_4 nin0))
    have E2_24 := E2_23.keep Kq24
    have F2_times_24 := F2_times_23.keep Kq24 (ninS ne2_3_4 (ninS ne2_4_4 nin0))
    have F2_clients_24 := F2_clients_23.keep Kq24 (ninS ne2_3_4 (ninS ne2_4_4 nin0))
    have F2_size_24 := F2_size_23.keep Kq24 (ninS ne2_3_4 (ninS ne2_4_4 nin0))
    have N_24 := Fr.app N_23 Nq24
    have O_24 := O_23.keep Kq24 (allS gq4_0 (allS gq4_1 all0))
    have K_24 := K_23.trans Kq24 (allS (Or.inr z_4_0) (allS (Or.inr z_4_1) all0))
    refine OwnOut.go (fun t k => st24 _ k) ?_
    show OwnOut p e s below 24 128 _ (T24.setTop (mkF m 188 #[.val (.long x0), .second, .val (.long x2), .second, .val (.long x4), .second, .val (.long x6), .second, .val (.int x8), .val (.long y0), .second, .val (.ref c1), .val (.ref c2), .val (.ref c3), .val (.int o20), .val (.long o22), .second, .unset] []))
    refine OwnOut.go (fun t k => XS.aload X24.here hx rfl (hb hby at_188) rfl rfl k) ?_
    show OwnOut p e s below 24 128 _ (T24.setTop (mkF m 190 #[.val (.long x0), .second, .val (.long x2), .second, .val (.long x4), .second, .val (.long x6), .second, .val (.int x8), .val (.long y0), .second, .val (.ref c1), .val (.ref c2), .val (.ref c3), .val (.int o20), .val (.long o22), .second, .unset] [(.ref c2)]))
    refine OwnOut.go (fun t k => XS.aload X24.here hx rfl (hb hby at_190) rfl rfl k) ?_
    show OwnOut p e s below 24 128 _ (T24.setTop (mkF m 192 #[.val (.long x0), .second, .val (.long x2), .second, .val (.long x4), .second, .val (.long x6), .second, .val (.int x8), .val (.long y0), .second, .val (.ref c1), .val (.ref c2), .val (.ref c3), .val (.int o20), .val (.long o22), .second, .unset] [(.ref c1), (.ref c2)]))
    refine OwnOut.go (fun t k => XS.aload X24.here hx rfl (hb hby at_192) rfl rfl k) ?_
    show OwnOut p e s below 24 128 _ (T24.setTop (mkF m 194 #[.val (.long x0), .second, .val (.long x2), .second, .val (.long x4), .second, .val (.long x6), .second, .val (.int x8), .val (.long y0), .second, .val (.ref c1), .val (.ref c2), .val (.ref c3), .val (.int o20), .val (.long o22), .second, .unset] [(.ref c2), (.ref c1), (.ref c2)]))
    obtain ⟨o25, ho25, hr⟩ := Option.bind_eq_some_iff.mp hr
    obtain ⟨r25, T25, L25, X25', hQ25, st25⟩ := callQ (W := 1) (rm := rx3) X24 hx hZ (y := (⟨"com/example/porter_drive/porterdrive/RequestQueueRemoveFirstPinLaw", "first", "([J[Z)I"⟩ : MethodName)) hown (hw _ (List.mem_of_getElem? (i := 19) rfl)) (hw _ (List.mem_of_getElem? (i := 20) rfl)) (hw _ (List.mem_of_getElem? (i := 21) rfl)) (hw _ (List.mem_of_getElem? (i := 22) rfl)) (by decide) (rm3 l Z a0 hw [] c1 l_23 c2 [(0 : Int32), (0 : Int32), (0 : Int32), (0 : Int32)] T24.heap o25 ho25 A0_24 A1_24) (by decide) (by decide) (by decide) (by decide) rfl (g := (mkF m 194 #[.val (.long x0), .second, .val (.long x2), .second, .val (.long x4), .second, .val (.long x6), .second, .val (.int x8), .val (.long y0), .second, .val (.ref c1), .val (.ref c2), .val (.ref c3), .val (.int o20), .val (.long o22), .second, .unset] [(.ref c2), (.ref c1), (.ref c2)])) rfl (by rw [hml]; rfl) (argsL := [(.ref c1), (.ref c2)]) (rest := [(.ref c2)]) (lenOf pd3 rfl) rfl (by show 2 * 0 + _ ≤ _; exact Nat.le_of_eq rfl) (hb hby at_194)
    obtain ⟨rfl, e25, rfl⟩ := hQ25
    rw [List.append_nil] at X25'
    have X25 : Stand p l e room_1 s m args below meth c T25 _ 5 19 := X25'
    refine OwnOut.go (fun t k => st25 _ k) ?_
    show OwnOut p e s below 24 128 _ (T25.setTop (mkF m 197 #[.val (.long x0), .second, .val (.long x2), .second, .val (.long x4), .second, .val (.long x6), .second, .val (.int x8), .val (.long y0), .second, .val (.ref c1), .val (.ref c2), .val (.ref c3), .val (.int o20), .val (.long o22), .second, .unset] [(.int o25), (.ref c2)]))
    refine OwnOut.go (fun t k => XT.iconstV X25.here hx rfl (1 : Int32) (hb hby at_197) rfl k) ?_
    show OwnOut p e s below 24 128 _ (T25.setTop (mkF m 198 #[.val (.long x0), .second, .val (.long x2), .second, .val (.long x4), .second, .val (.long x6), .second, .val (.int x8), .val (.long y0), .second, .val (.ref c1), .val (.ref c2), .val (.ref c3), .val (.int o20), .val (.long o22), .second, .unset] [(.int (1 : Int32)), (.int o25), (.ref c2)]))
    obtain ⟨l_26, hl26, hr⟩ := Option.bind_eq_some_iff.mp hr
    obtain ⟨T26, h26, X26, e26, W26, A_26, st26⟩ := saZ X25 hx hZ e25 A1_24 hl26 (g := (mkF m 198 #[.val (.long x0), .second, .val (.long x2), .second, .val (.long x4), .second, .val (.long x6), .second, .val (.int x8), .val (.long y0), .second, .val (.ref c1), .val (.ref c2), .val (.ref c3), .val (.int o20), .val (.long o22), .second, .unset] [(.int (1 : Int32)), (.int o25), (.ref c2)])) rfl rfl (hb hby at_198)
    refine OwnOut.go (fun t k => st26 _ k) ?_
    have A0_26 := A0_24.other W26 ne0_1_2
    have E2_26 := E2_24.wr W26
    have F2_times_26 := F2_times_24.other W26 (Or.inl (Ne.symm ne1_2_3))
    have F2_clients_26 := F2_clients_24.other W26 (Or.inl (Ne.symm ne1_2_3))
    have F2_size_26 := F2_size_24.other W26 (Or.inl (Ne.symm ne1_2_3))
    have A3_26 := A3_24.other W26 (Ne.symm ne1_3_4)
    have A4_26 := A4_24.other W26 (Ne.symm ne1_4_4)
    have N_26 := Fr.snoc X26 N_24 g_2
    have O_26 := O_24.wr W26 g_2
    have K_26 := K_24.wr W26 (Or.inr z_2)
    show OwnOut p e s below 24 128 _ (T26.setTop (mkF m 199 #[.val (.long x0), .second, .val (.long x2), .second, .val (.long x4), .second, .val (.long x6), .second, .val (.int x8), .val (.long y0), .second, .val (.ref c1), .val (.ref c2), .val (.ref c3), .val (.int o20), .val (.long o22), .second, .unset] []))
    refine OwnOut.go (fun t k => XS.aload X26.here hx rfl (hb hby at_199) rfl rfl k) ?_
    show OwnOut p e s below 24 128 _ (T26.setTop (mkF m 201 #[.val (.long x0), .second, .val (.long x2), .second, .val (.long x4), .second, .val (.long x6), .second, .val (.int x8), .val (.long y0), .second, .val (.ref c1), .val (.ref c2), .val (.ref c3), .val (.int o20), .val (.long o22), .second, .unset] [(.ref c3)]))
    obtain ⟨o27, ho27, hr⟩ := Option.bind_eq_some_iff.mp hr
    obtain ⟨r27, T27, L27, X27', hQ27, st27⟩ := callV (W := 0) (rm := rx9) X26 hx hZ (y := (⟨"com/example/porter_drive/porterdrive/RequestQueue", "removeFirst", "()V"⟩ : MethodName)) hown (hw _ (List.mem_of_getElem? (i := 42) rfl)) (hw _ (List.mem_of_getElem? (i := 43) rfl)) (hw _ (List.mem_of_getElem? (i := 45) rfl)) (hw _ (List.mem_of_getElem? (i := 44) rfl)) (hw _ (List.mem_of_getElem? (i := 5) rfl)) (hw _ (List.mem_of_getElem? (i := 46) rfl)) (by decide) (rm9 l Z a0 hw [] c3 o4.1 c4_0 o24.1 c4_1 o24.2 h26 n0 o27 ho27 O_26 E2_26 F2_times_26 F2_clients_26 F2_size_26 A3_26 A4_26 g_3 gq4_0 gq4_1 ne2_3_4 ne2_4_4 neq4_0_1) (by decide) (by decide) (by decide) (by decide) e26 E2_26 (g := (mkF m 201 #[.val (.long x0), .second, .val (.long x2), .second, .val (.long x4), .second, .val (.long x6), .second, .val (.int x8), .val (.long y0), .second, .val (.ref c1), .val (.ref c2), .val (.ref c3), .val (.int o20), .val (.long o22), .second, .unset] [(.ref c3)])) rfl (by rw [hml]; rfl) (argsL := []) (rest := []) (lenOf pd9 rfl) rfl (by show 2 * 0 + _ ≤ _; exact Nat.le_of_eq rfl) (hb hby at_201)
    obtain ⟨rfl, Nq27, Kq27, F2_times_27, F2_clients_27, F2_size_27, A3_27, A4_27⟩ := hQ27
    have X27 : Stand p l e room_1 s m args below meth c T27 _ 5 19 := X27'
    have A0_27 := A0_26.keep Kq27 (ninS ne0_2_3 (ninS ne0_3_4 (ninS ne0_4_4 nin0)))
    have A1_27 := A_26.keep Kq27 (ninS ne1_2_3 (ninS ne1_3_4 (ninS ne1_4_4 nin0)))
    have E2_27 := E2_26.keep Kq27
    have N_27 := Fr.app N_26 Nq27
    have O_27 := O_26.keep Kq27 (allS g_3 (allS gq4_0 (allS gq4_1 all0)))
    have K_27 := K_26.trans Kq27 (allS (Or.inr z_3) (allS (Or.inr z_4_0) (allS (Or.inr z_4_1) all0)))
    refine OwnOut.go (fun t k => st27 _ k) ?_
    show OwnOut p e s below 24 128 _ (T27.setTop (mkF m 204 #[.val (.long x0), .second, .val (.long x2), .second, .val (.long x4), .second, .val (.long x6), .second, .val (.int x8), .val (.long y0), .second, .val (.ref c1), .val (.ref c2), .val (.ref c3), .val (.int o20), .val (.long o22), .second, .unset] []))
    refine OwnOut.go (fun t k => XS.aload X27.here hx rfl (hb hby at_204) rfl rfl k) ?_
    show OwnOut p e s below 24 128 _ (T27.setTop (mkF m 206 #[.val (.long x0), .second, .val (.long x2), .second, .val (.long x4), .second, .val (.long x6), .second, .val (.int x8), .val (.long y0), .second, .val (.ref c1), .val (.ref c2), .val (.ref c3), .val (.int o20), .val (.long o22), .second, .unset] [(.ref c3)]))
    obtain ⟨o28, ho28, hr⟩ := Option.bind_eq_some_iff.mp hr
    obtain ⟨r28, T28, L28, X28', hQ28, st28⟩ := callV (W := 0) (rm := rx10) X27 hx hZ (y := (⟨"com/example/porter_drive/porterdrive/RequestQueue", "firstClient", "()I"⟩ : MethodName)) hown (hw _ (List.mem_of_getElem? (i := 47) rfl)) (hw _ (List.mem_of_getElem? (i := 48) rfl)) (hw _ (List.mem_of_getElem? (i := 50) rfl)) (hw _ (List.mem_of_getElem? (i := 49) rfl)) (hw _ (List.mem_of_getElem? (i := 5) rfl)) (hw _ (List.mem_of_getElem? (i := 51) rfl)) (by decide) (rm10 l Z a0 hw [] c3 o27.1 c4_0 o27.2.1 c4_1 o27.2.2 T27.heap o28 ho28 E2_27 F2_times_27 F2_clients_27 F2_size_27 A3_27 A4_27) (by decide) (by decide) (by decide) (by decide) rfl E2_27 (g := (mkF m 206 #[.val (.long x0), .second, .val (.long x2), .second, .val (.long x4), .second, .val (.long x6), .second, .val (.int x8), .val (.long y0), .second, .val (.ref c1), .val (.ref c2), .val (.ref c3), .val (.int o20), .val (.long o22), .second, .unset] [(.ref c3)])) rfl (by rw [hml]; rfl) (argsL := []) (rest := []) (lenOf pd10 rfl) rfl (by show 2 * 0 + _ ≤ _; exact Nat.le_of_eq rfl) (hb hby at_206)
    obtain ⟨rfl, e28, rfl⟩ := hQ28
    rw [List.append_nil] at X28'
    have X28 : Stand p l e room_1 s m args below meth c T28 _ 5 19 := X28'
    refine OwnOut.go (fun t k => st28 _ k) ?_
    show OwnOut p e s below 24 128 _ (T28.setTop (mkF m 209 #[.val (.long x0), .second, .val (.long x2), .second, .val (.long x4), .second, .val (.long x6), .second, .val (.int x8), .val (.long y0), .second, .val (.ref c1), .val (.ref c2), .val (.ref c3), .val (.int o20), .val (.long o22), .second, .unset] [(.int o28)]))
    refine OwnOut.go (fun t k => XS.aload X28.here hx rfl (hb hby at_209) rfl rfl k) ?_
    show OwnOut p e s below 24 128 _ (T28.setTop (mkF m 211 #[.val (.long x0), .second, .val (.long x2), .second, .val (.long x4), .second, .val (.long x6), .second, .val (.int x8), .val (.long y0), .second, .val (.ref c1), .val (.ref c2), .val (.ref c3), .val (.int o20), .val (.long o22), .second, .unset] [(.ref c1), (.int o28)]))
    refine OwnOut.go (fun t k => XS.aload X28.here hx rfl (hb hby at_211) rfl rfl k) ?_
    show OwnOut p e s below 24 128 _ (T28.setTop (mkF m 213 #[.val (.long x0), .second, .val (.long x2), .second, .val (.long x4), .second, .val (.long x6), .second, .val (.int x8), .val (.long y0), .second, .val (.ref c1), .val (.ref c2), .val (.ref c3), .val (.int o20), .val (.long o22), .second, .unset] [(.ref c2), (.ref c1), (.int o28)]))
    obtain ⟨o29, ho29, hr⟩ := Option.bind_eq_some_iff.mp hr
    obtain ⟨r29, T29, L29, X29', hQ29, st29⟩ := callQ (W := 1) (rm := rx3) X28 hx hZ (y := (⟨"com/example/porter_drive/porterdrive/RequestQueueRemoveFirstPinLaw", "first", "([J[Z)I"⟩ : MethodName)) hown (hw _ (List.mem_of_getElem? (i := 19) rfl)) (hw _ (List.mem_of_getElem? (i := 20) rfl)) (hw _ (List.mem_of_getElem? (i := 21) rfl)) (hw _ (List.mem_of_getElem? (i := 22) rfl)) (by decide) (rm3 l Z a0 hw [] c1 l_23 c2 l_26 T27.heap o29 ho29 A0_27 A1_27) (by decide) (by decide) (by decide) (by decide) e28 (g := (mkF m 213 #[.val (.long x0), .second, .val (.long x2), .second, .val (.long x4), .second, .val (.long x6), .second, .val (.int x8), .val (.long y0), .second, .val (.ref c1), .val (.ref c2), .val (.ref c3), .val (.int o20), .val (.long o22), .second, .unset] [(.ref c2), (.ref c1), (.int o28)])) rfl (by rw [hml]; rfl) (argsL := [(.ref c1), (.ref c2)]) (rest := [(.int o28)]) (lenOf pd3 rfl) rfl (by show 2 * 0 + _ ≤ _; exact Nat.le_of_eq rfl) (hb hby at_213)
    obtain ⟨rfl, e29, rfl⟩ := hQ29
    rw [List.append_nil] at X29'
    have X29 : Stand p l e room_1 s m args below meth c T29 _ 5 19 := X29'
    refine OwnOut.go (fun t k => st29 _ k) ?_
    show OwnOut p e s below 24 128 _ (T29.setTop (mkF m 216 #[.val (.long x0), .second, .val (.long x2), .second, .val (.long x4), .second, .val (.long x6), .second, .val (.int x8), .val (.long y0), .second, .val (.ref c1), .val (.ref c2), .val (.ref c3), .val (.int o20), .val (.long o22), .second, .unset] [(.int o29), (.int o28)]))
    by_cases hc216 : o28 = o29
    · rw [if_pos hc216] at hr
      refine OwnOut.go (fun t k => XS.icmpYes X29.here hx rfl (pc0 := 216) (pc' := 221) rfl (hb hby at_216) rfl (XT.ii_eq_t hc216) (by decide) (by decide) k) ?_
      show OwnOut p e s below 24 128 _ (T29.setTop (mkF m 221 #[.val (.long x0), .second, .val (.long x2), .second, .val (.long x4), .second, .val (.long x6), .second, .val (.int x8), .val (.long y0), .second, .val (.ref c1), .val (.ref c2), .val (.ref c3), .val (.int o20), .val (.long o22), .second, .unset] []))
      refine OwnOut.go (fun t k => XS.aload X29.here hx rfl (hb hby at_221) rfl rfl k) ?_
      show OwnOut p e s below 24 128 _ (T29.setTop (mkF m 223 #[.val (.long x0), .second, .val (.long x2), .second, .val (.long x4), .second, .val (.long x6), .second, .val (.int x8), .val (.long y0), .second, .val (.ref c1), .val (.ref c2), .val (.ref c3), .val (.int o20), .val (.long o22), .second, .unset] [(.ref c2)]))
      refine OwnOut.go (fun t k => XS.aload X29.here hx rfl (hb hby at_223) rfl rfl k) ?_
      show OwnOut p e s below 24 128 _ (T29.setTop (mkF m 225 #[.val (.long x0), .second, .val (.long x2), .second, .val (.long x4), .second, .val (.long x6), .second, .val (.int x8), .val (.long y0), .second, .val (.ref c1), .val (.ref c2), .val (.ref c3), .val (.int o20), .val (.long o22), .second, .unset] [(.ref c1), (.ref c2)]))
      refine OwnOut.go (fun t k => XS.aload X29.here hx rfl (hb hby at_225) rfl rfl k) ?_
      show OwnOut p e s below 24 128 _ (T29.setTop (mkF m 227 #[.val (.long x0), .second, .val (.long x2), .second, .val (.long x4), .second, .val (.long x6), .second, .val (.int x8), .val (.long y0), .second, .val (.ref c1), .val (.ref c2), .val (.ref c3), .val (.int o20), .val (.long o22), .second, .unset] [(.ref c2), (.ref c1), (.ref c2)]))
      obtain ⟨o30, ho30, hr⟩ := Option.bind_eq_some_iff.mp hr
      obtain ⟨r30, T30, L30, X30', hQ30, st30⟩ := callQ (W := 1) (rm := rx3) X29 hx hZ (y := (⟨"com/example/porter_drive/porterdrive/RequestQueueRemoveFirstPinLaw", "first", "([J[Z)I"⟩ : MethodName)) hown (hw _ (List.mem_of_getElem? (i := 19) rfl)) (hw _ (List.mem_of_getElem? (i := 20) rfl)) (hw _ (List.mem_of_getElem? (i := 21) rfl)) (hw _ (List.mem_of_getElem? (i := 22) rfl)) (by decide) (rm3 l Z a0 hw [] c1 l_23 c2 l_26 T27.heap o30 ho30 A0_27 A1_27) (by decide) (by decide) (by decide) (by decide) e29 (g := (mkF m 227 #[.val (.long x0), .second, .val (.long x2), .second, .val (.long x4), .second, .val (.long x6), .second, .val (.int x8), .val (.long y0), .second, .val (.ref c1), .val (.ref c2), .val (.ref c3), .val (.int o20), .val (.long o22), .second, .unset] [(.ref c2), (.ref c1), (.ref c2)])) rfl (by rw [hml]; rfl) (argsL := [(.ref c1), (.ref c2)]) (rest := [(.ref c2)]) (lenOf pd3 rfl) rfl (by show 2 * 0 + _ ≤ _; exact Nat.le_of_eq rfl) (hb hby at_227)
      obtain ⟨rfl, e30, rfl⟩ := hQ30
      rw [List.append_nil] at X30'
      have X30 : Stand p l e room_1 s m args below meth c T30 _ 5 19 := X30'
      refine OwnOut.go (fun t k => st30 _ k) ?_
      show OwnOut p e s below 24 128 _ (T30.setTop (mkF m 230 #[.val (.long x0), .second, .val (.long x2), .second, .val (.long x4), .second, .val (.long x6), .second, .val (.int x8), .val (.long y0), .second, .val (.ref c1), .val (.ref c2), .val (.ref c3), .val (.int o20), .val (.long o22), .second, .unset] [(.int o30), (.ref c2)]))
      refine OwnOut.go (fun t k => XT.iconstV X30.here hx rfl (1 : Int32) (hb hby at_230) rfl k) ?_
      show OwnOut p e s below 24 128 _ (T30.setTop (mkF m 231 #[.val (.long x0), .second, .val (.long x2), .second, .val (.long x4), .second, .val (.long x6), .second, .val (.int x8), .val (.long y0), .second, .val (.ref c1), .val (.ref c2), .val (.ref c3), .val (.int o20), .val (.long o22), .second, .unset] [(.int (1 : Int32)), (.int o30), (.ref c2)]))
      obtain ⟨l_31, hl31, hr⟩ := Option.bind_eq_some_iff.mp hr
      obtain ⟨T31, h31, X31, e31, W31, A_31, st31⟩ := saZ X30 hx hZ e30 A1_27 hl31 (g := (mkF m 231 #[.val (.long x0), .second, .val (.long x2), .second, .val (.long x4), .second, .val (.long x6), .second, .val (.int x8), .val (.long y0), .second, .val (.ref c1), .val (.ref c2), .val (.ref c3), .val (.int o20), .val (.long o22), .second, .unset] [(.int (1 : Int32)), (.int o30), (.ref c2)])) rfl rfl (hb hby at_231)
      refine OwnOut.go (fun t k => st31 _ k) ?_
      have A0_31 := A0_27.other W31 ne0_1_2
      have E2_31 := E2_27.wr W31
      have F2_times_31 := F2_times_27.other W31 (Or.inl (Ne.symm ne1_2_3))
      have F2_clients_31 := F2_clients_27.other W31 (Or.inl (Ne.symm ne1_2_3))
      have F2_size_31 := F2_size_27.other W31 (Or.inl (Ne.symm ne1_2_3))
      have A3_31 := A3_27.other W31 (Ne.symm ne1_3_4)
      have A4_31 := A4_27.other W31 (Ne.symm ne1_4_4)
      have N_31 := Fr.snoc X31 N_27 g_2
      have O_31 := O_27.wr W31 g_2
      have K_31 := K_27.wr W31 (Or.inr z_2)
      show OwnOut p e s below 24 128 _ (T31.setTop (mkF m 232 #[.val (.long x0), .second, .val (.long x2), .second, .val (.long x4), .second, .val (.long x6), .second, .val (.int x8), .val (.long y0), .second, .val (.ref c1), .val (.ref c2), .val (.ref c3), .val (.int o20), .val (.long o22), .second, .unset] []))
      refine OwnOut.go (fun t k => XS.aload X31.here hx rfl (hb hby at_232) rfl rfl k) ?_
      show OwnOut p e s below 24 128 _ (T31.setTop (mkF m 234 #[.val (.long x0), .second, .val (.long x2), .second, .val (.long x4), .second, .val (.long x6), .second, .val (.int x8), .val (.long y0), .second, .val (.ref c1), .val (.ref c2), .val (.ref c3), .val (.int o20), .val (.long o22), .second, .unset] [(.ref c3)]))
      obtain ⟨o32, ho32, hr⟩ := Option.bind_eq_some_iff.mp hr
      obtain ⟨r32, T32, L32, X32', hQ32, st32⟩ := callV (W := 0) (rm := rx9) X31 hx hZ (y := (⟨"com/example/porter_drive/porterdrive/RequestQueue", "removeFirst", "()V"⟩ : MethodName)) hown (hw _ (List.mem_of_getElem? (i := 42) rfl)) (hw _ (List.mem_of_getElem? (i := 43) rfl)) (hw _ (List.mem_of_getElem? (i := 45) rfl)) (hw _ (List.mem_of_getElem? (i := 44) rfl)) (hw _ (List.mem_of_getElem? (i := 5) rfl)) (hw _ (List.mem_of_getElem? (i := 46) rfl)) (by decide) (rm9 l Z a0 hw [] c3 o27.1 c4_0 o27.2.1 c4_1 o27.2.2 h31 n0 o32 ho32 O_31 E2_31 F2_times_31 F2_clients_31 F2_size_31 A3_31 A4_31 g_3 gq4_0 gq4_1 ne2_3_4 ne2_4_4 neq4_0_1) (by decide) (by decide) (by decide) (by decide) e31 E2_31 (g := (mkF m 234 #[.val (.long x0), .second, .val (.long x2), .second, .val (.long x4), .second, .val (.long x6), .second, .val (.int x8), .val (.long y0), .second, .val (.ref c1), .val (.ref c2), .val (.ref c3), .val (.int o20), .val (.long o22), .second, .unset] [(.ref c3)])) rfl (by rw [hml]; rfl) (argsL := []) (rest := []) (lenOf pd9 rfl) rfl (by show 2 * 0 + _ ≤ _; exact Nat.le_of_eq rfl) (hb hby at_234)
      obtain ⟨rfl, Nq32, Kq32, F2_times_32, F2_clients_32, F2_size_32, A3_32, A4_32⟩ := hQ32
      have X32 : Stand p l e room_1 s m args below meth c T32 _ 5 19 := X32'
      have A0_32 := A0_31.keep Kq32 (ninS ne0_2_3 (ninS ne0_3_4 (ninS ne0_4_4 nin0)))
      have A1_32 := A_31.keep Kq32 (ninS ne1_2_3 (ninS ne1_3_4 (ninS ne1_4_4 nin0)))
      have E2_32 := E2_31.keep Kq32
      have N_32 := Fr.app N_31 Nq32
      have O_32 := O_31.keep Kq32 (allS g_3 (allS gq4_0 (allS gq4_1 all0)))
      have K_32 := K_31.trans Kq32 (allS (Or.inr z_3) (allS (Or.inr z_4_0) (allS (Or.inr z_4_1) all0)))
      refine OwnOut.go (fun t k => st32 _ k) ?_
      show OwnOut p e s below 24 128 _ (T32.setTop (mkF m 237 #[.val (.long x0), .second, .val (.long x2), .second, .val (.long x4), .second, .val (.long x6), .second, .val (.int x8), .val (.long y0), .second, .val (.ref c1), .val (.ref c2), .val (.ref c3), .val (.int o20), .val (.long o22), .second, .unset] []))
      refine OwnOut.go (fun t k => XS.aload X32.here hx rfl (hb hby at_237) rfl rfl k) ?_
      show OwnOut p e s below 24 128 _ (T32.setTop (mkF m 239 #[.val (.long x0), .second, .val (.long x2), .second, .val (.long x4), .second, .val (.long x6), .second, .val (.int x8), .val (.long y0), .second, .val (.ref c1), .val (.ref c2), .val (.ref c3), .val (.int o20), .val (.long o22), .second, .unset] [(.ref c3)]))
      obtain ⟨o33, ho33, hr⟩ := Option.bind_eq_some_iff.mp hr
      obtain ⟨r33, T33, L33, X33', hQ33, st33⟩ := callV (W := 0) (rm := rx10) X32 hx hZ (y := (⟨"com/example/porter_drive/porterdrive/RequestQueue", "firstClient", "()I"⟩ : MethodName)) hown (hw _ (List.mem_of_getElem? (i := 47) rfl)) (hw _ (List.mem_of_getElem? (i := 48) rfl)) (hw _ (List.mem_of_getElem? (i := 50) rfl)) (hw _ (List.mem_of_getElem? (i := 49) rfl)) (hw _ (List.mem_of_getElem? (i := 5) rfl)) (hw _ (List.mem_of_getElem? (i := 51) rfl)) (by decide) (rm10 l Z a0 hw [] c3 o32.1 c4_0 o32.2.1 c4_1 o32.2.2 T32.heap o33 ho33 E2_32 F2_times_32 F2_clients_32 F2_size_32 A3_32 A4_32) (by decide) (by decide) (by decide) (by decide) rfl E2_32 (g := (mkF m 239 #[.val (.long x0), .second, .val (.long x2), .second, .val (.long x4), .second, .val (.long x6), .second, .val (.int x8), .val (.long y0), .second, .val (.ref c1), .val (.ref c2), .val (.ref c3), .val (.int o20), .val (.long o22), .second, .unset] [(.ref c3)])) rfl (by rw [hml]; rfl) (argsL := []) (rest := []) (lenOf pd10 rfl) rfl (by show 2 * 0 + _ ≤ _; exact Nat.le_of_eq rfl) (hb hby at_239)
      obtain ⟨rfl, e33, rfl⟩ := hQ33
      rw [List.append_nil] at X33'
      have X33 : Stand p l e room_1 s m args below meth c T33 _ 5 19 := X33'
      refine OwnOut.go (fun t k => st33 _ k) ?_
      show OwnOut p e s below 24 128 _ (T33.setTop (mkF m 242 #[.val (.long x0), .second, .val (.long x2), .second, .val (.long x4), .second, .val (.long x6), .second, .val (.int x8), .val (.long y0), .second, .val (.ref c1), .val (.ref c2), .val (.ref c3), .val (.int o20), .val (.long o22), .second, .unset] [(.int o33)]))
      refine OwnOut.go (fun t k => XS.aload X33.here hx rfl (hb hby at_242) rfl rfl k) ?_
      show OwnOut p e s below 24 128 _ (T33.setTop (mkF m 244 #[.val (.long x0), .second, .val (.long x2), .second, .val (.long x4), .second, .val (.long x6), .second, .val (.int x8), .val (.long y0), .second, .val (.ref c1), .val (.ref c2), .val (.ref c3), .val (.int o20), .val (.long o22), .second, .unset] [(.ref c1), (.int o33)]))
      refine OwnOut.go (fun t k => XS.aload X33.here hx rfl (hb hby at_244) rfl rfl k) ?_
      show OwnOut p e s below 24 128 _ (T33.setTop (mkF m 246 #[.val (.long x0), .second, .val (.long x2), .second, .val (.long x4), .second, .val (.long x6), .second, .val (.int x8), .val (.long y0), .second, .val (.ref c1), .val (.ref c2), .val (.ref c3), .val (.int o20), .val (.long o22), .second, .unset] [(.ref c2), (.ref c1), (.int o33)]))
      obtain ⟨o34, ho34, hr⟩ := Option.bind_eq_some_iff.mp hr
      obtain ⟨r34, T34, L34, X34', hQ34, st34⟩ := callQ (W := 1) (rm := rx3) X33 hx hZ (y := (⟨"com/example/porter_drive/porterdrive/RequestQueueRemoveFirstPinLaw", "first", "([J[Z)I"⟩ : MethodName)) hown (hw _ (List.mem_of_getElem? (i := 19) rfl)) (hw _ (List.mem_of_getElem? (i := 20) rfl)) (hw _ (List.mem_of_getElem? (i := 21) rfl)) (hw _ (List.mem_of_getElem? (i := 22) rfl)) (by decide) (rm3 l Z a0 hw [] c1 l_23 c2 l_31 T32.heap o34 ho34 A0_32 A1_32) (by decide) (by decide) (by decide) (by decide) e33 (g := (mkF m 246 #[.val (.long x0), .second, .val (.long x2), .second, .val (.long x4), .second, .val (.long x6), .second, .val (.int x8), .val (.long y0), .second, .val (.ref c1), .val (.ref c2), .val (.ref c3), .val (.int o20), .val (.long o22), .second, .unset] [(.ref c2), (.ref c1), (.int o33)])) rfl (by rw [hml]; rfl) (argsL := [(.ref c1), (.ref c2)]) (rest := [(.int o33)]) (lenOf pd3 rfl) rfl (by show 2 * 0 + _ ≤ _; exact Nat.le_of_eq rfl) (hb hby at_246)
      obtain ⟨rfl, e34, rfl⟩ := hQ34
      rw [List.append_nil] at X34'
      have X34 : Stand p l e room_1 s m args below meth c T34 _ 5 19 := X34'
      refine OwnOut.go (fun t k => st34 _ k) ?_
      show OwnOut p e s below 24 128 _ (T34.setTop (mkF m 249 #[.val (.long x0), .second, .val (.long x2), .second, .val (.long x4), .second, .val (.long x6), .second, .val (.int x8), .val (.long y0), .second, .val (.ref c1), .val (.ref c2), .val (.ref c3), .val (.int o20), .val (.long o22), .second, .unset] [(.int o34), (.int o33)]))
      by_cases hc249 : o33 = o34
      · rw [if_pos hc249] at hr
        refine OwnOut.go (fun t k => XS.icmpYes X34.here hx rfl (pc0 := 249) (pc' := 254) rfl (hb hby at_249) rfl (XT.ii_eq_t hc249) (by decide) (by decide) k) ?_
        show OwnOut p e s below 24 128 _ (T34.setTop (mkF m 254 #[.val (.long x0), .second, .val (.long x2), .second, .val (.long x4), .second, .val (.long x6), .second, .val (.int x8), .val (.long y0), .second, .val (.ref c1), .val (.ref c2), .val (.ref c3), .val (.int o20), .val (.long o22), .second, .unset] []))
        refine OwnOut.go (fun t k => XS.aload X34.here hx rfl (hb hby at_254) rfl rfl k) ?_
        show OwnOut p e s below 24 128 _ (T34.setTop (mkF m 256 #[.val (.long x0), .second, .val (.long x2), .second, .val (.long x4), .second, .val (.long x6), .second, .val (.int x8), .val (.long y0), .second, .val (.ref c1), .val (.ref c2), .val (.ref c3), .val (.int o20), .val (.long o22), .second, .unset] [(.ref c2)]))
        refine OwnOut.go (fun t k => XS.aload X34.here hx rfl (hb hby at_256) rfl rfl k) ?_
        show OwnOut p e s below 24 128 _ (T34.setTop (mkF m 258 #[.val (.long x0), .second, .val (.long x2), .second, .val (.long x4), .second, .val (.long x6), .second, .val (.int x8), .val (.long y0), .second, .val (.ref c1), .val (.ref c2), .val (.ref c3), .val (.int o20), .val (.long o22), .second, .unset] [(.ref c1), (.ref c2)]))
        refine OwnOut.go (fun t k => XS.aload X34.here hx rfl (hb hby at_258) rfl rfl k) ?_
        show OwnOut p e s below 24 128 _ (T34.setTop (mkF m 260 #[.val (.long x0), .second, .val (.long x2), .second, .val (.long x4), .second, .val (.long x6), .second, .val (.int x8), .val (.long y0), .second, .val (.ref c1), .val (.ref c2), .val (.ref c3), .val (.int o20), .val (.long o22), .second, .unset] [(.ref c2), (.ref c1), (.ref c2)]))
        obtain ⟨o35, ho35, hr⟩ := Option.bind_eq_some_iff.mp hr
        obtain ⟨r35, T35, L35, X35', hQ35, st35⟩ := callQ (W := 1) (rm := rx3) X34 hx hZ (y := (⟨"com/example/porter_drive/porterdrive/RequestQueueRemoveFirstPinLaw", "first", "([J[Z)I"⟩ : MethodName)) hown (hw _ (List.mem_of_getElem? (i := 19) rfl)) (hw _ (List.mem_of_getElem? (i := 20) rfl)) (hw _ (List.mem_of_getElem? (i := 21) rfl)) (hw _ (List.mem_of_getElem? (i := 22) rfl)) (by decide) (rm3 l Z a0 hw [] c1 l_23 c2 l_31 T32.heap o35 ho35 A0_32 A1_32) (by decide) (by decide) (by decide) (by decide) e34 (g := (mkF m 260 #[.val (.long x0), .second, .val (.long x2), .second, .val (.long x4), .second, .val (.long x6), .second, .val (.int x8), .val (.long y0), .second, .val (.ref c1), .val (.ref c2), .val (.ref c3), .val (.int o20), .val (.long o22), .second, .unset] [(.ref c2), (.ref c1), (.ref c2)])) rfl (by rw [hml]; rfl) (argsL := [(.ref c1), (.ref c2)]) (rest := [(.ref c2)]) (lenOf pd3 rfl) rfl (by show 2 * 0 + _ ≤ _; exact Nat.le_of_eq rfl) (hb hby at_260)
        obtain ⟨rfl, e35, rfl⟩ := hQ35
        rw [List.append_nil] at X35'
        have X35 : Stand p l e room_1 s m args below meth c T35 _ 5 19 := X35'
        refine OwnOut.go (fun t k => st35 _ k) ?_
        show OwnOut p e s below 24 128 _ (T35.setTop (mkF m 263 #[.val (.long x0), .second, .val (.long x2), .second, .val (.long x4), .second, .val (.long x6), .second, .val (.int x8), .val (.long y0), .second, .val (.ref c1), .val (.ref c2), .val (.ref c3), .val (.int o20), .val (.long o22), .second, .unset] [(.int o35), (.ref c2)]))
        refine OwnOut.go (fun t k => XT.iconstV X35.here hx rfl (1 : Int32) (hb hby at_263) rfl k) ?_
        show OwnOut p e s below 24 128 _ (T35.setTop (mkF m 264 #[.val (.long x0), .second, .val (.long x2), .second, .val (.long x4), .second, .val (.long x6), .second, .val (.int x8), .val (.long y0), .second, .val (.ref c1), .val (.ref c2), .val (.ref c3), .val (.int o20), .val (.long o22), .second, .unset] [(.int (1 : Int32)), (.int o35), (.ref c2)]))
        obtain ⟨l_36, hl36, hr⟩ := Option.bind_eq_some_iff.mp hr
        obtain ⟨T36, h36, X36, e36, W36, A_36, st36⟩ := saZ X35 hx hZ e35 A1_32 hl36 (g := (mkF m 264 #[.val (.long x0), .second, .val (.long x2), .second, .val (.long x4), .second, .val (.long x6), .second, .val (.int x8), .val (.long y0), .second, .val (.ref c1), .val (.ref c2), .val (.ref c3), .val (.int o20), .val (.long o22), .second, .unset] [(.int (1 : Int32)), (.int o35), (.ref c2)])) rfl rfl (hb hby at_264)
        refine OwnOut.go (fun t k => st36 _ k) ?_
        have A0_36 := A0_32.other W36 ne0_1_2
        have E2_36 := E2_32.wr W36
        have F2_times_36 := F2_times_32.other W36 (Or.inl (Ne.symm ne1_2_3))
        have F2_clients_36 := F2_clients_32.other W36 (Or.inl (Ne.symm ne1_2_3))
        have F2_size_36 := F2_size_32.other W36 (Or.inl (Ne.symm ne1_2_3))
        have A3_36 := A3_32.other W36 (Ne.symm ne1_3_4)
        have A4_36 := A4_32.other W36 (Ne.symm ne1_4_4)
        have N_36 := Fr.snoc X36 N_32 g_2
        have O_36 := O_32.wr W36 g_2
        have K_36 := K_32.wr W36 (Or.inr z_2)
        show OwnOut p e s below 24 128 _ (T36.setTop (mkF m 265 #[.val (.long x0), .second, .val (.long x2), .second, .val (.long x4), .second, .val (.long x6), .second, .val (.int x8), .val (.long y0), .second, .val (.ref c1), .val (.ref c2), .val (.ref c3), .val (.int o20), .val (.long o22), .second, .unset] []))
        refine OwnOut.go (fun t k => XS.aload X36.here hx rfl (hb hby at_265) rfl rfl k) ?_
        show OwnOut p e s below 24 128 _ (T36.setTop (mkF m 267 #[.val (.long x0), .second, .val (.long x2), .second, .val (.long x4), .second, .val (.long x6), .second, .val (.int x8), .val (.long y0), .second, .val (.ref c1), .val (.ref c2), .val (.ref c3), .val (.int o20), .val (.long o22), .second, .unset] [(.ref c3)]))
        obtain ⟨o37, ho37, hr⟩ := Option.bind_eq_some_iff.mp hr
        obtain ⟨r37, T37, L37, X37', hQ37, st37⟩ := callV (W := 0) (rm := rx9) X36 hx hZ (y := (⟨"com/example/porter_drive/porterdrive/RequestQueue", "removeFirst", "()V"⟩ : MethodName)) hown (hw _ (List.mem_of_getElem? (i := 42) rfl)) (hw _ (List.mem_of_getElem? (i := 43) rfl)) (hw _ (List.mem_of_getElem? (i := 45) rfl)) (hw _ (List.mem_of_getElem? (i := 44) rfl)) (hw _ (List.mem_of_getElem? (i := 5) rfl)) (hw _ (List.mem_of_getElem? (i := 46) rfl)) (by decide) (rm9 l Z a0 hw [] c3 o32.1 c4_0 o32.2.1 c4_1 o32.2.2 h36 n0 o37 ho37 O_36 E2_36 F2_times_36 F2_clients_36 F2_size_36 A3_36 A4_36 g_3 gq4_0 gq4_1 ne2_3_4 ne2_4_4 neq4_0_1) (by decide) (by decide) (by decide) (by decide) e36 E2_36 (g := (mkF m 267 #[.val (.long x0), .second, .val (.long x2), .second, .val (.long x4), .second, .val (.long x6), .second, .val (.int x8), .val (.long y0), .second, .val (.ref c1), .val (.ref c2), .val (.ref c3), .val (.int o20), .val (.long o22), .second, .unset] [(.ref c3)])) rfl (by rw [hml]; rfl) (argsL := []) (rest := []) (lenOf pd9 rfl) rfl (by show 2 * 0 + _ ≤ _; exact Nat.le_of_eq rfl) (hb hby at_267)
        obtain ⟨rfl, Nq37, Kq37, F2_times_37, F2_clients_37, F2_size_37, A3_37, A4_37⟩ := hQ37
        have X37 : Stand p l e room_1 s m args below meth c T37 _ 5 19 := X37'
        have A0_37 := A0_36.keep Kq37 (ninS ne0_2_3 (ninS ne0_3_4 (ninS ne0_4_4 nin0)))
        have A1_37 := A_36.keep Kq37 (ninS ne1_2_3 (ninS ne1_3_4 (ninS ne1_4_4 nin0)))
        have E2_37 := E2_36.keep Kq37
        have N_37 := Fr.app N_36 Nq37
        have O_37 := O_36.keep Kq37 (allS g_3 (allS gq4_0 (allS gq4_1 all0)))
        have K_37 := K_36.trans Kq37 (allS (Or.inr z_3) (allS (Or.inr z_4_0) (allS (Or.inr z_4_1) all0)))
        refine OwnOut.go (fun t k => st37 _ k) ?_
        show OwnOut p e s below 24 128 _ (T37.setTop (mkF m 270 #[.val (.long x0), .second, .val (.long x2), .second, .val (.long x4), .second, .val (.long x6), .second, .val (.int x8), .val (.long y0), .second, .val (.ref c1), .val (.ref c2), .val (.ref c3), .val (.int o20), .val (.long o22), .second, .unset] []))
        refine OwnOut.go (fun t k => XS.aload X37.here hx rfl (hb hby at_270) rfl rfl k) ?_
        show OwnOut p e s below 24 128 _ (T37.setTop (mkF m 272 #[.val (.long x0), .second, .val (.long x2), .second, .val (.long x4), .second, .val (.long x6), .second, .val (.int x8), .val (.long y0), .second, .val (.ref c1), .val (.ref c2), .val (.ref c3), .val (.int o20), .val (.long o22), .second, .unset] [(.ref c1)]))
        refine OwnOut.go (fun t k => XS.aload X37.here hx rfl (hb hby at_272) rfl rfl k) ?_
        show OwnOut p e s below 24 128 _ (T37.setTop (mkF m 274 #[.val (.long x0), .second, .val (.long x2), .second, .val (.long x4), .second, .val (.long x6), .second, .val (.int x8), .val (.long y0), .second, .val (.ref c1), .val (.ref c2), .val (.ref c3), .val (.int o20), .val (.long o22), .second, .unset] [(.ref c2), (.ref c1)]))
        obtain ⟨o38, ho38, hr⟩ := Option.bind_eq_some_iff.mp hr
        obtain ⟨r38, T38, L38, X38', hQ38, st38⟩ := callQ (W := 0) (rm := rx3) X37 hx hZ (y := (⟨"com/example/porter_drive/porterdrive/RequestQueueRemoveFirstPinLaw", "first", "([J[Z)I"⟩ : MethodName)) hown (hw _ (List.mem_of_getElem? (i := 19) rfl)) (hw _ (List.mem_of_getElem? (i := 20) rfl)) (hw _ (List.mem_of_getElem? (i := 21) rfl)) (hw _ (List.mem_of_getElem? (i := 22) rfl)) (by decide) (rm3 l Z a0 hw [] c1 l_23 c2 l_36 T37.heap o38 ho38 A0_37 A1_37) (by decide) (by decide) (by decide) (by decide) rfl (g := (mkF m 274 #[.val (.long x0), .second, .val (.long x2), .second, .val (.long x4), .second, .val (.long x6), .second, .val (.int x8), .val (.long y0), .second, .val (.ref c1), .val (.ref c2), .val (.ref c3), .val (.int o20), .val (.long o22), .second, .unset] [(.ref c2), (.ref c1)])) rfl (by rw [hml]; rfl) (argsL := [(.ref c1), (.ref c2)]) (rest := []) (lenOf pd3 rfl) rfl (by show 2 * 0 + _ ≤ _; exact Nat.le_of_eq rfl) (hb hby at_274)
        obtain ⟨rfl, e38, rfl⟩ := hQ38
        rw [List.append_nil] at X38'
        have X38 : Stand p l e room_1 s m args below meth c T38 _ 5 19 := X38'
        refine OwnOut.go (fun t k => st38 _ k) ?_
        show OwnOut p e s below 24 128 _ (T38.setTop (mkF m 277 #[.val (.long x0), .second, .val (.long x2), .second, .val (.long x4), .second, .val (.long x6), .second, .val (.int x8), .val (.long y0), .second, .val (.ref c1), .val (.ref c2), .val (.ref c3), .val (.int o20), .val (.long o22), .second, .unset] [(.int o38)]))
        refine OwnOut.go (fun t k => XS.istore X38.here hx rfl (hb hby at_277) rfl (l' := #[.val (.long x0), .second, .val (.long x2), .second, .val (.long x4), .second, .val (.long x6), .second, .val (.int x8), .val (.long y0), .second, .val (.ref c1), .val (.ref c2), .val (.ref c3), .val (.int o20), .val (.long o22), .second, .val (.int o38)]) rfl k) ?_
        show OwnOut p e s below 24 128 _ (T38.setTop (mkF m 279 #[.val (.long x0), .second, .val (.long x2), .second, .val (.long x4), .second, .val (.long x6), .second, .val (.int x8), .val (.long y0), .second, .val (.ref c1), .val (.ref c2), .val (.ref c3), .val (.int o20), .val (.long o22), .second, .val (.int o38)] []))
        refine OwnOut.go (fun t k => XS.aload X38.here hx rfl (hb hby at_279) rfl rfl k) ?_
        show OwnOut p e s below 24 128 _ (T38.setTop (mkF m 281 #[.val (.long x0), .second, .val (.long x2), .second, .val (.long x4), .second, .val (.long x6), .second, .val (.int x8), .val (.long y0), .second, .val (.ref c1), .val (.ref c2), .val (.ref c3), .val (.int o20), .val (.long o22), .second, .val (.int o38)] [(.ref c3)]))
        obtain ⟨o39, ho39, hr⟩ := Option.bind_eq_some_iff.mp hr
        obtain ⟨r39, T39, L39, X39', hQ39, st39⟩ := callV (W := 0) (rm := rx10) X38 hx hZ (y := (⟨"com/example/porter_drive/porterdrive/RequestQueue", "firstClient", "()I"⟩ : MethodName)) hown (hw _ (List.mem_of_getElem? (i := 47) rfl)) (hw _ (List.mem_of_getElem? (i := 48) rfl)) (hw _ (List.mem_of_getElem? (i := 50) rfl)) (hw _ (List.mem_of_getElem? (i := 49) rfl)) (hw _ (List.mem_of_getElem? (i := 5) rfl)) (hw _ (List.mem_of_getElem? (i := 51) rfl)) (by decide) (rm10 l Z a0 hw [] c3 o37.1 c4_0 o37.2.1 c4_1 o37.2.2 T37.heap o39 ho39 E2_37 F2_times_37 F2_clients_37 F2_size_37 A3_37 A4_37) (by decide) (by decide) (by decide) (by decide) e38 E2_37 (g := (mkF m 281 #[.val (.long x0), .second, .val (.long x2), .second, .val (.long x4), .second, .val (.long x6), .second, .val (.int x8), .val (.long y0), .second, .val (.ref c1), .val (.ref c2), .val (.ref c3), .val (.int o20), .val (.long o22), .second, .val (.int o38)] [(.ref c3)])) rfl (by rw [hml]; rfl) (argsL := []) (rest := []) (lenOf pd10 rfl) rfl (by show 2 * 0 + _ ≤ _; exact Nat.le_of_eq rfl) (hb hby at_281)
        obtain ⟨rfl, e39, rfl⟩ := hQ39
        rw [List.append_nil] at X39'
        have X39 : Stand p l e room_1 s m args below meth c T39 _ 5 19 := X39'
        refine OwnOut.go (fun t k => st39 _ k) ?_
        show OwnOut p e s below 24 128 _ (T39.setTop (mkF m 284 #[.val (.long x0), .second, .val (.long x2), .second, .val (.long x4), .second, .val (.long x6), .second, .val (.int x8), .val (.long y0), .second, .val (.ref c1), .val (.ref c2), .val (.ref c3), .val (.int o20), .val (.long o22), .second, .val (.int o38)] [(.int o39)]))
        refine OwnOut.go (fun t k => XS.iload X39.here hx rfl (hb hby at_284) rfl k) ?_
        show OwnOut p e s below 24 128 _ (T39.setTop (mkF m 286 #[.val (.long x0), .second, .val (.long x2), .second, .val (.long x4), .second, .val (.long x6), .second, .val (.int x8), .val (.long y0), .second, .val (.ref c1), .val (.ref c2), .val (.ref c3), .val (.int o20), .val (.long o22), .second, .val (.int o38)] [(.int o38), (.int o39)]))
        by_cases hc286 : o39 = o38
        · rw [if_pos hc286] at hr
          refine OwnOut.go (fun t k => XS.icmpNo X39.here hx rfl (hb hby at_286) rfl (XT.ii_ne_f hc286) k) ?_
          show OwnOut p e s below 24 128 _ (T39.setTop (mkF m 289 #[.val (.long x0), .second, .val (.long x2), .second, .val (.long x4), .second, .val (.long x6), .second, .val (.int x8), .val (.long y0), .second, .val (.ref c1), .val (.ref c2), .val (.ref c3), .val (.int o20), .val (.long o22), .second, .val (.int o38)] []))
          refine OwnOut.go (fun t k => XS.aload X39.here hx rfl (hb hby at_289) rfl rfl k) ?_
          show OwnOut p e s below 24 128 _ (T39.setTop (mkF m 291 #[.val (.long x0), .second, .val (.long x2), .second, .val (.long x4), .second, .val (.long x6), .second, .val (.int x8), .val (.long y0), .second, .val (.ref c1), .val (.ref c2), .val (.ref c3), .val (.int o20), .val (.long o22), .second, .val (.int o38)] [(.ref c3)]))
          obtain ⟨o40, ho40, hr⟩ := Option.bind_eq_some_iff.mp hr
          obtain ⟨r40, T40, L40, X40', hQ40, st40⟩ := callV (W := 0) (rm := rx11) X39 hx hZ (y := (⟨"com/example/porter_drive/porterdrive/RequestQueue", "firstTime", "()J"⟩ : MethodName)) hown (hw _ (List.mem_of_getElem? (i := 52) rfl)) (hw _ (List.mem_of_getElem? (i := 53) rfl)) (hw _ (List.mem_of_getElem? (i := 55) rfl)) (hw _ (List.mem_of_getElem? (i := 54) rfl)) (hw _ (List.mem_of_getElem? (i := 5) rfl)) (hw _ (List.mem_of_getElem? (i := 56) rfl)) (by decide) (rm11 l Z a0 hw [] c3 o37.1 c4_0 o37.2.1 c4_1 o37.2.2 T37.heap o40 ho40 E2_37 F2_times_37 F2_clients_37 F2_size_37 A3_37 A4_37) (by decide) (by decide) (by decide) (by decide) e39 E2_37 (g := (mkF m 291 #[.val (.long x0), .second, .val (.long x2), .second, .val (.long x4), .second, .val (.long x6), .second, .val (.int x8), .val (.long y0), .second, .val (.ref c1), .val (.ref c2), .val (.ref c3), .val (.int o20), .val (.long o22), .second, .val (.int o38)] [(.ref c3)])) rfl (by rw [hml]; rfl) (argsL := []) (rest := []) (lenOf pd11 rfl) rfl (by show 2 * 0 + _ ≤ _; exact Nat.le_of_eq rfl) (hb hby at_291)
          obtain ⟨rfl, e40, rfl⟩ := hQ40
          rw [List.append_nil] at X40'
          have X40 : Stand p l e room_1 s m args below meth c T40 _ 5 19 := X40'
          refine OwnOut.go (fun t k => st40 _ k) ?_
          show OwnOut p e s below 24 128 _ (T40.setTop (mkF m 294 #[.val (.long x0), .second, .val (.long x2), .second, .val (.long x4), .second, .val (.long x6), .second, .val (.int x8), .val (.long y0), .second, .val (.ref c1), .val (.ref c2), .val (.ref c3), .val (.int o20), .val (.long o22), .second, .val (.int o38)] [(.long o40)]))
          refine OwnOut.go (fun t k => XS.aload X40.here hx rfl (hb hby at_294) rfl rfl k) ?_
          show OwnOut p e s below 24 128 _ (T40.setTop (mkF m 296 #[.val (.long x0), .second, .val (.long x2), .second, .val (.long x4), .second, .val (.long x6), .second, .val (.int x8), .val (.long y0), .second, .val (.ref c1), .val (.ref c2), .val (.ref c3), .val (.int o20), .val (.long o22), .second, .val (.int o38)] [(.ref c1), (.long o40)]))
          refine OwnOut.go (fun t k => XS.iload X40.here hx rfl (hb hby at_296) rfl k) ?_
          show OwnOut p e s below 24 128 _ (T40.setTop (mkF m 298 #[.val (.long x0), .second, .val (.long x2), .second, .val (.long x4), .second, .val (.long x6), .second, .val (.int x8), .val (.long y0), .second, .val (.ref c1), .val (.ref c2), .val (.ref c3), .val (.int o20), .val (.long o22), .second, .val (.int o38)] [(.int o38), (.ref c1), (.long o40)]))
          obtain ⟨v41, hv41, hr⟩ := Option.bind_eq_some_iff.mp hr
          refine OwnOut.go (fun t k => ldJ X40 hx hZ e40 A0_37 hv41 (g := (mkF m 298 #[.val (.long x0), .second, .val (.long x2), .second, .val (.long x4), .second, .val (.long x6), .second, .val (.int x8), .val (.long y0), .second, .val (.ref c1), .val (.ref c2), .val (.ref c3), .val (.int o20), .val (.long o22), .second, .val (.int o38)] [(.int o38), (.ref c1), (.long o40)])) rfl rfl (hb hby at_298) t k) ?_
          show OwnOut p e s below 24 128 _ (T40.setTop (mkF m 299 #[.val (.long x0), .second, .val (.long x2), .second, .val (.long x4), .second, .val (.long x6), .second, .val (.int x8), .val (.long y0), .second, .val (.ref c1), .val (.ref c2), .val (.ref c3), .val (.int o20), .val (.long o22), .second, .val (.int o38)] [(.long v41), (.long o40)]))
          refine OwnOut.go (fun t k => XS.lcmp X40.here hx rfl (hb hby at_299) rfl k) ?_
          show OwnOut p e s below 24 128 _ (T40.setTop (mkF m 300 #[.val (.long x0), .second, .val (.long x2), .second, .val (.long x4), .second, .val (.long x6), .second, .val (.int x8), .val (.long y0), .second, .val (.ref c1), .val (.ref c2), .val (.ref c3), .val (.int o20), .val (.long o22), .second, .val (.int o38)] [(.int (XT.cmpL o40 v41))]))
          by_cases hc300 : o40 = v41
          · rw [if_pos hc300] at hr
            refine OwnOut.go (fun t k => XS.ifNo X40.here hx rfl (hb hby at_300) rfl (XT.ll_ne_f hc300) k) ?_
            show OwnOut p e s below 24 128 _ (T40.setTop (mkF m 303 #[.val (.long x0), .second, .val (.long x2), .second, .val (.long x4), .second, .val (.long x6), .second, .val (.int x8), .val (.long y0), .second, .val (.ref c1), .val (.ref c2), .val (.ref c3), .val (.int o20), .val (.long o22), .second, .val (.int o38)] []))
            refine OwnOut.go (fun t k => XT.iconstV X40.here hx rfl (1 : Int32) (hb hby at_303) rfl k) ?_
            show OwnOut p e s below 24 128 _ (T40.setTop (mkF m 304 #[.val (.long x0), .second, .val (.long x2), .second, .val (.long x4), .second, .val (.long x6), .second, .val (.int x8), .val (.long y0), .second, .val (.ref c1), .val (.ref c2), .val (.ref c3), .val (.int o20), .val (.long o22), .second, .val (.int o38)] [(.int (1 : Int32))]))
            refine OwnOut.go (fun t k => XS.goto X40.here hx rfl (pc0 := 304) (pc' := 308) rfl (hb hby at_304) (by decide) (by decide) k) ?_
            show OwnOut p e s below 24 128 _ (T40.setTop (mkF m 308 #[.val (.long x0), .second, .val (.long x2), .second, .val (.long x4), .second, .val (.long x6), .second, .val (.int x8), .val (.long y0), .second, .val (.ref c1), .val (.ref c2), .val (.ref c3), .val (.int o20), .val (.long o22), .second, .val (.int o38)] [(.int (1 : Int32))]))
            cases hr
            exact outZ X40 hx hret (hb hby at_308) hlk (by decide) (by decide) ⟨rfl, N_37⟩
          · rw [if_neg hc300] at hr
            refine OwnOut.go (fun t k => XS.ifYes X40.here hx rfl (pc0 := 300) (pc' := 307) rfl (hb hby at_300) rfl (XT.ll_ne_t hc300) (by decide) (by decide) k) ?_
            show OwnOut p e s below 24 128 _ (T40.setTop (mkF m 307 #[.val (.long x0), .second, .val (.long x2), .second, .val (.long x4), .second, .val (.long x6), .second, .val (.int x8), .val (.long y0), .second, .val (.ref c1), .val (.ref c2), .val (.ref c3), .val (.int o20), .val (.long o22), .second, .val (.int o38)] []))
            refine OwnOut.go (fun t k => XT.iconstV X40.here hx rfl (0 : Int32) (hb hby at_307) rfl k) ?_
            show OwnOut p e s below 24 128 _ (T40.setTop (mkF m 308 #[.val (.long x0), .second, .val (.long x2), .second, .val (.long x4), .second, .val (.long x6), .second, .val (.int x8), .val (.long y0), .second, .val (.ref c1), .val (.ref c2), .val (.ref c3), .val (.int o20), .val (.long o22), .second, .val (.int o38)] [(.int (0 : Int32))]))
            cases hr
            exact outZ X40 hx hret (hb hby at_308) hlk (by decide) (by decide) ⟨rfl, N_37⟩
        · rw [if_neg hc286] at hr
          refine OwnOut.go (fun t k => XS.icmpYes X39.here hx rfl (pc0 := 286) (pc' := 307) rfl (hb hby at_286) rfl (XT.ii_ne_t hc286) (by decide) (by decide) k) ?_
          show OwnOut p e s below 24 128 _ (T39.setTop (mkF m 307 #[.val (.long x0), .second, .val (.long x2), .second, .val (.long x4), .second, .val (.long x6), .second, .val (.int x8), .val (.long y0), .second, .val (.ref c1), .val (.ref c2), .val (.ref c3), .val (.int o20), .val (.long o22), .second, .val (.int o38)] []))
          refine OwnOut.go (fun t k => XT.iconstV X39.here hx rfl (0 : Int32) (hb hby at_307) rfl k) ?_
          show OwnOut p e s below 24 128 _ (T39.setTop (mkF m 308 #[.val (.long x0), .second, .val (.long x2), .second, .val (.long x4), .second, .val (.long x6), .second, .val (.int x8), .val (.long y0), .second, .val (.ref c1), .val (.ref c2), .val (.ref c3), .val (.int o20), .val (.long o22), .second, .val (.int o38)] [(.int (0 : Int32))]))
          cases hr
          exact outZ X39 hx hret (hb hby at_308) hlk (by decide) (by decide) ⟨rfl, N_37⟩
      · rw [if_neg hc249] at hr
        refine OwnOut.go (fun t k => XS.icmpNo X34.here hx rfl (hb hby at_249) rfl (XT.ii_eq_f hc249) k) ?_
        show OwnOut p e s below 24 128 _ (T34.setTop (mkF m 252 #[.val (.long x0), .second, .val (.long x2), .second, .val (.long x4), .second, .val (.long x6), .second, .val (.int x8), .val (.long y0), .second, .val (.ref c1), .val (.ref c2), .val (.ref c3), .val (.int o20), .val (.long o22), .second, .unset] []))
        refine OwnOut.go (fun t k => XT.iconstV X34.here hx rfl (0 : Int32) (hb hby at_252) rfl k) ?_
        show OwnOut p e s below 24 128 _ (T34.setTop (mkF m 253 #[.val (.long x0), .second, .val (.long x2), .second, .val (.long x4), .second, .val (.long x6), .second, .val (.int x8), .val (.long y0), .second, .val (.ref c1), .val (.ref c2), .val (.ref c3), .val (.int o20), .val (.long o22), .second, .unset] [(.int (0 : Int32))]))
        cases hr
        exact outZ X34 hx hret (hb hby at_253) hlk (by decide) (by decide) ⟨rfl, N_32⟩
    · rw [if_neg hc216] at hr
      refine OwnOut.go (fun t k => XS.icmpNo X29.here hx rfl (hb hby at_216) rfl (XT.ii_eq_f hc216) k) ?_
      show OwnOut p e s below 24 128 _ (T29.setTop (mkF m 219 #[.val (.long x0), .second, .val (.long x2), .second, .val (.long x4), .second, .val (.long x6), .second, .val (.int x8), .val (.long y0), .second, .val (.ref c1), .val (.ref c2), .val (.ref c3), .val (.int o20), .val (.long o22), .second, .unset] []))
      refine OwnOut.go (fun t k => XT.iconstV X29.here hx rfl (0 : Int32) (hb hby at_219) rfl k) ?_
      show OwnOut p e s below 24 128 _ (T29.setTop (mkF m 220 #[.val (.long x0), .second, .val (.long x2), .second, .val (.long x4), .second, .val (.long x6), .second, .val (.int x8), .val (.long y0), .second, .val (.ref c1), .val (.ref c2), .val (.ref c3), .val (.int o20), .val (.long o22), .second, .unset] [(.int (0 : Int32))]))
      cases hr
      exact outZ X29 hx hret (hb hby at_220) hlk (by decide) (by decide) ⟨rfl, N_27⟩
def f0 (x0 : Int64) (x2 : Int64) (x4 : Int64) (x6 : Int64) (x8 : Int32) : Option (Int32) := (if (x8 &&& (1 : Int32)) = (0 : Int32) then (f0_16 x0 x2 x4 x6 (9223372036854775807 : Int64)) else (f0_16 x0 x2 x4 x6 (3 : Int64)))
set_option maxRecDepth 65536 in
set_option maxHeartbeats 40000000 in
theorem w0_0 {p : Program} {l : Launch} {e : Env} {s : State} {m : MethodId} {args : Array Value} {below : List Frame} {meth : Method} {c : Code} {Z : State} {a0 : Array Value} {h0 : Heap} {n0 : Nat} (C : Cx0 Z a0 p s m meth c) :
    ∀ (T : State) (locs : List Loc) (hA : Heap) (x0 : Int64) (x2 : Int64) (x4 : Int64) (x6 : Int64) (x8 : Int32) (o : Int32), f0 x0 x2 x4 x6 x8 = some o → Stand p l e room_1 s m args below meth c T locs 0 0 → T.heap = hA → Fr n0 locs → Old Z n0 hA → Keep h0 hA [] →  OwnOut p e s below 24 128 (Q0 Z default default default default default h0 n0 o) (T.setTop (mkF m 0 #[.val (.long x0), .second, .val (.long x2), .second, .val (.long x4), .second, .val (.long x6), .second, .val (.int x8), .unset, .unset, .unset, .unset, .unset, .unset, .unset, .unset, .unset] [])) := by
    obtain ⟨hx, hZ, hw, hby, hml, hown, hret, hlk, hnm⟩ := C
    intro T locs hA x0 x2 x4 x6 x8 o hr X0 e0 N0 O0 K0
    rw [f0] at hr
    refine OwnOut.go (fun t k => XS.iload X0.here hx rfl (hb hby at_0) rfl k) ?_
    show OwnOut p e s below 24 128 _ (T.setTop (mkF m 2 #[.val (.long x0), .second, .val (.long x2), .second, .val (.long x4), .second, .val (.long x6), .second, .val (.int x8), .unset, .unset, .unset, .unset, .unset, .unset, .unset, .unset, .unset] [(.int x8)]))
    refine OwnOut.go (fun t k => XT.iconstV X0.here hx rfl (1 : Int32) (hb hby at_2) rfl k) ?_
    show OwnOut p e s below 24 128 _ (T.setTop (mkF m 3 #[.val (.long x0), .second, .val (.long x2), .second, .val (.long x4), .second, .val (.long x6), .second, .val (.int x8), .unset, .unset, .unset, .unset, .unset, .unset, .unset, .unset, .unset] [(.int (1 : Int32)), (.int x8)]))
    refine OwnOut.go (fun t k => XS.iand X0.here hx rfl (hb hby at_3) rfl k) ?_
    show OwnOut p e s below 24 128 _ (T.setTop (mkF m 4 #[.val (.long x0), .second, .val (.long x2), .second, .val (.long x4), .second, .val (.long x6), .second, .val (.int x8), .unset, .unset, .unset, .unset, .unset, .unset, .unset, .unset, .unset] [(.int (x8 &&& (1 : Int32)))]))
    by_cases hc4 : (x8 &&& (1 : Int32)) = (0 : Int32)
    · rw [if_pos hc4] at hr
      refine OwnOut.go (fun t k => XS.ifYes X0.here hx rfl (pc0 := 4) (pc' := 13) rfl (hb hby at_4) rfl (XT.i0_eq_t hc4) (by decide) (by decide) k) ?_
      show OwnOut p e s below 24 128 _ (T.setTop (mkF m 13 #[.val (.long x0), .second, .val (.long x2), .second, .val (.long x4), .second, .val (.long x6), .second, .val (.int x8), .unset, .unset, .unset, .unset, .unset, .unset, .unset, .unset, .unset] []))
      refine OwnOut.go (fun t k => X0.ldc2Long hx hown (mvT hZ (hw _ (List.mem_of_getElem? (i := 57) rfl))) (g := (mkF m 13 #[.val (.long x0), .second, .val (.long x2), .second, .val (.long x4), .second, .val (.long x6), .second, .val (.int x8), .unset, .unset, .unset, .unset, .unset, .unset, .unset, .unset, .unset] [])) rfl (hb hby at_13) _ k) ?_
      show OwnOut p e s below 24 128 _ (T.setTop (mkF m 16 #[.val (.long x0), .second, .val (.long x2), .second, .val (.long x4), .second, .val (.long x6), .second, .val (.int x8), .unset, .unset, .unset, .unset, .unset, .unset, .unset, .unset, .unset] [(.long (9223372036854775807 : Int64))]))
      exact w0_16 ⟨hx, hZ, hw, hby, hml, hown, hret, hlk, hnm⟩  _ _ _ x0 x2 x4 x6 x8 (9223372036854775807 : Int64) _ hr X0 e0 N0 O0 K0
    · rw [if_neg hc4] at hr
      refine OwnOut.go (fun t k => XS.ifNo X0.here hx rfl (hb hby at_4) rfl (XT.i0_eq_f hc4) k) ?_
      show OwnOut p e s below 24 128 _ (T.setTop (mkF m 7 #[.val (.long x0), .second, .val (.long x2), .second, .val (.long x4), .second, .val (.long x6), .second, .val (.int x8), .unset, .unset, .unset, .unset, .unset, .unset, .unset, .unset, .unset] []))
      refine OwnOut.go (fun t k => X0.ldc2Long hx hown (mvT hZ (hw _ (List.mem_of_getElem? (i := 0) rfl))) (g := (mkF m 7 #[.val (.long x0), .second, .val (.long x2), .second, .val (.long x4), .second, .val (.long x6), .second, .val (.int x8), .unset, .unset, .unset, .unset, .unset, .unset, .unset, .unset, .unset] [])) rfl (hb hby at_7) _ k) ?_
      show OwnOut p e s below 24 128 _ (T.setTop (mkF m 10 #[.val (.long x0), .second, .val (.long x2), .second, .val (.long x4), .second, .val (.long x6), .second, .val (.int x8), .unset, .unset, .unset, .unset, .unset, .unset, .unset, .unset, .unset] [(.long (3 : Int64))]))
      refine OwnOut.go (fun t k => XS.goto X0.here hx rfl (pc0 := 10) (pc' := 16) rfl (hb hby at_10) (by decide) (by decide) k) ?_
      show OwnOut p e s below 24 128 _ (T.setTop (mkF m 16 #[.val (.long x0), .second, .val (.long x2), .second, .val (.long x4), .second, .val (.long x6), .second, .val (.int x8), .unset, .unset, .unset, .unset, .unset, .unset, .unset, .unset, .unset] [(.long (3 : Int64))]))
      exact w0_16 ⟨hx, hZ, hw, hby, hml, hown, hret, hlk, hnm⟩  _ _ _ x0 x2 x4 x6 x8 (3 : Int64) _ hr X0 e0 N0 O0 K0
set_option maxRecDepth 65536 in
set_option maxHeartbeats 40000000 in
theorem rm0 (l : Launch) (Z : State) (a0 : Array Value) (hw : ∀ d ∈ tables_1, d.before a0 Z = true) (ws : List Jvm.Cond) (x0 : Int64) (x2 : Int64) (x4 : Int64) (x6 : Int64) (x8 : Int32) (h0 : Heap) (n0 : Nat) (o : Int32) (hr : f0 x0 x2 x4 x6 x8 = some o) (O0 : Old Z n0 h0) :
    MetFree l x (head1 (Jvm.Cond.code x code maxLocals ret :: ws) room_1) (fun a U => a = #[(.long x0), (.long x2), (.long x4), (.long x6), (.int x8)] ∧ Z.Warmed39 U.vm ∧ U.heap = h0) (fun _ _ _ _ _ => True) (fun _ U o' U' => ∃ v L, o' = .returned v ∧ Q0 Z x0 x2 x4 x6 x8 h0 n0 o v U'.heap L ∧ FrameEnd U o' U' L 24 128) := by
  refine MetFree.of_bodySF (plainFor_of_name pn0) hisR ?_
  intro p e s m args below meth c s₁ Bd hml0 hP hK
  obtain ⟨rfl, hZ, hh⟩ := hP
  have X0 : Stand p l e room_1 s m #[(.long x0), (.long x2), (.long x4), (.long x6), (.int x8)] below meth c s₁ [] 0 0 := Stand.of_body Bd
  have e0 : s₁.heap = h0 := by rw [← hh, Bd.state]; rfl
  exact OwnOut.at (ef0 m x0 x2 x4 x6 x8) (w0_0 ⟨Bd.exec, hZ, hw, Bd.bytes, hml0, findClass_of_methodNamed Bd.named, Bd.returns, Bd.notSynchronized, (name_of_methodNamed Bd.named Bd.method).1⟩ _ _ _ x0 x2 x4 x6 x8 o hr X0 e0 (Fr.nil n0) O0 (Keep.refl _ _) )
def own_bef (t : Int64) (c : Int32) (t' : Int64) (c' : Int32) : Bool := decide (t < t') || (decide (t = t') && decide (c < c'))
theorem own_bt (t : Int64) (c : Int32) (t' : Int64) (c' : Int32) : own_bef t c t' c' = true ↔ t.toInt < t'.toInt ∨ (t.toInt = t'.toInt ∧ c.toInt < c'.toInt) := by
  simp [own_bef, Int64.lt_iff_toInt_lt, Int32.lt_iff_toInt_lt, ← Int64.toInt_inj]
theorem own_bF (t : Int64) (c : Int32) (t' : Int64) (c' : Int32) : own_bef t c t' c' = false ↔ ¬ (t.toInt < t'.toInt ∨ (t.toInt = t'.toInt ∧ c.toInt < c'.toInt)) := by
  rw [← own_bt]; simp
theorem own_f8 {α : Type} (t : Int64) (c : Int32) (t' : Int64) (c' : Int32) (g : Int32 → Option α) : (f8 t c t' c').bind g = if own_bef t c t' c' = true then g 1 else g 0 := by
  unfold f8 own_bef
  by_cases h1 : t < t'
  · simp [h1]
  by_cases h2 : t = t'
  · by_cases h3 : c < c'
    · simp [h1, h2, h3]
    · simp [h1, h2, h3]
  · simp [h1, h2]
theorem own_l1 {α : Type} {xs : List α} (h : xs.length = 1) : ∃ a, xs = [a] := match xs, h with | [a], _ => ⟨a, rfl⟩
theorem own_l2 {α : Type} {xs : List α} (h : xs.length = 2) : ∃ a b, xs = [a, b] := match xs, h with | [a, b], _ => ⟨a, b, rfl⟩
theorem own_l3 {α : Type} {xs : List α} (h : xs.length = 3) : ∃ a b c, xs = [a, b, c] := match xs, h with | [a, b, c], _ => ⟨a, b, c, rfl⟩
theorem own_l4 {α : Type} {xs : List α} (h : xs.length = 4) : ∃ a b c d, xs = [a, b, c, d] := match xs, h with | [a, b, c, d], _ => ⟨a, b, c, d, rfl⟩
/-- not later -/
def own_le (p q : Int64 × Int32) : Prop := own_bef q.1 q.2 p.1 p.2 = false
theorem own_letr {p q r : Int64 × Int32} (h1 : own_le p q) (h2 : own_le q r) : own_le p r := by
  unfold own_le at *
  rw [own_bF] at *
  omega
theorem own_lerefl (p : Int64 × Int32) : own_le p p := by unfold own_le; rw [own_bF]; omega
def own_tail : List (Int64 × Int32) → Prop
  | [_, p1, _, p3] => own_le p1 p3
  | _ => True
def own_heap : List (Int64 × Int32) → Prop
  | [_] => True
  | [p0, p1] => own_le p0 p1
  | [p0, p1, p2] => own_le p0 p1 ∧ own_le p0 p2
  | [p0, p1, p2, p3] => own_le p0 p1 ∧ own_le p0 p2 ∧ own_le p1 p3
  | _ => False
theorem own_ht {L : List (Int64 × Int32)} (h : own_heap L) : own_tail L := by
  match L, h with
  | [_], _ => trivial
  | [_, _], _ => trivial
  | [_, _, _], _ => trivial
  | [_, _, _, _], h => exact h.2.2
theorem own_min {p : Int64 × Int32} {L : List (Int64 × Int32)} (h : own_heap (p :: L)) : ∀ q ∈ p :: L, own_le p q := by
  intro q hq
  rcases L with _ | ⟨a, _ | ⟨b, _ | ⟨c, _ | ⟨d, L⟩⟩⟩⟩
  · simp at hq; subst hq; exact own_lerefl _
  · simp at hq
    rcases hq with rfl | rfl
    · exact own_lerefl _
    · exact h
  · simp at hq
    rcases hq with rfl | rfl | rfl
    · exact own_lerefl _
    · exact h.1
    · exact h.2
  · simp at hq
    rcases hq with rfl | rfl | rfl | rfl
    · exact own_lerefl _
    · exact h.1
    · exact h.2.1
    · exact own_letr h.1 h.2.2
  · exact absurd h (by simp [own_heap])
theorem own_tl {p q : Int64 × Int32} {L : List (Int64 × Int32)} (h : own_tail (p :: L)) : own_tail (q :: L) := by
  match L, h with
  | [], _ => trivial
  | [_], _ => trivial
  | [_, _], _ => trivial
  | [_, _, _], h => exact h
  | _ :: _ :: _ :: _ :: _, _ => trivial
theorem own_p1 {α : Type} (a b c : α) (l : List α) : (c :: b :: a :: l).Perm (a :: b :: c :: l) := ((List.Perm.swap b c _).trans ((List.Perm.swap a c _).cons b)).trans (List.Perm.swap a b _)
theorem own_p3 {α : Type} (a b c d : α) : [b, d, c, a].Perm [a, b, c, d] := ((own_p1 a c d []).cons b).trans (List.Perm.swap a b _)
theorem own_p2 {α : Type} (a b c : α) : [c, a, b].Perm [a, b, c] := (List.Perm.swap a c _).trans ((List.Perm.swap b c _).cons a)
def own_Sift (n : Nat) (N : Int32) : Prop := ∀ (ts : List Int64) (cs : List Int32), ts.length = 4 → cs.length = 4 → own_tail ((ts.zip cs).take n) → ∃ ts' cs', f7 N ts cs = some (ts', cs') ∧ ts'.length = 4 ∧ cs'.length = 4 ∧ own_heap ((ts'.zip cs').take n) ∧ ((ts'.zip cs').take n).Perm ((ts.zip cs).take n)
set_option maxHeartbeats 8000000 in
theorem own_sift1 : own_Sift 1 1 := by
  intro ts cs h1 h2 h3
  obtain ⟨t0, t1, t2, t3, rfl⟩ := own_l4 h1
  obtain ⟨c0, c1, c2, c3, rfl⟩ := own_l4 h2
  exact ⟨[t0, t1, t2, t3], [c0, c1, c2, c3], by simp [f7, f7_20, f7_149, own_f8, ldx, stx], rfl, rfl, trivial, List.Perm.refl _⟩
set_option maxHeartbeats 8000000 in
theorem own_sift2 : own_Sift 2 2 := by
  intro ts cs h1 h2 h3
  obtain ⟨t0, t1, t2, t3, rfl⟩ := own_l4 h1
  obtain ⟨c0, c1, c2, c3, rfl⟩ := own_l4 h2
  by_cases b1 : own_bef t1 c1 t0 c0 = true
  · exact ⟨[t1, t0, t2, t3], [c1, c0, c2, c3], by simp [f7, f7_20, f7_149, own_f8, ldx, stx, b1], rfl, rfl, (by rw [own_bt] at b1; (show own_le _ _; unfold own_le; rw [own_bF]; dsimp only; omega)), List.Perm.swap _ _ _⟩
  · exact ⟨[t0, t1, t2, t3], [c0, c1, c2, c3], by simp [f7, f7_20, f7_149, own_f8, ldx, stx, b1], rfl, rfl, (by rw [own_bt] at b1; (show own_le _ _; unfold own_le; rw [own_bF]; dsimp only; omega)), List.Perm.refl _⟩
set_option maxHeartbeats 8000000 in
theorem own_sift3 : own_Sift 3 3 := by
  intro ts cs h1 h2 h3
  obtain ⟨t0, t1, t2, t3, rfl⟩ := own_l4 h1
  obtain ⟨c0, c1, c2, c3, rfl⟩ := own_l4 h2
  by_cases b0 : own_bef t2 c2 t1 c1 = true
  · by_cases b1 : own_bef t2 c2 t0 c0 = true
    · exact ⟨[t2, t1, t0, t3], [c2, c1, c0, c3], by simp [f7, f7_20, f7_149, own_f8, ldx, stx, b0, b1], rfl, rfl, (by rw [own_bt] at b0 b1; refine ⟨?_, ?_⟩ <;> (show own_le _ _; unfold own_le; rw [own_bF]; dsimp only; omega)), own_p1 _ _ _ _⟩
    · exact ⟨[t0, t1, t2, t3], [c0, c1, c2, c3], by simp [f7, f7_20, f7_149, own_f8, ldx, stx, b0, b1], rfl, rfl, (by rw [own_bt] at b0 b1; refine ⟨?_, ?_⟩ <;> (show own_le _ _; unfold own_le; rw [own_bF]; dsimp only; omega)), List.Perm.refl _⟩
  · by_cases b1 : own_bef t1 c1 t0 c0 = true
    · exact ⟨[t1, t0, t2, t3], [c1, c0, c2, c3], by simp [f7, f7_20, f7_149, own_f8, ldx, stx, b0, b1], rfl, rfl, (by rw [own_bt] at b0 b1; refine ⟨?_, ?_⟩ <;> (show own_le _ _; unfold own_le; rw [own_bF]; dsimp only; omega)), List.Perm.swap _ _ _⟩
    · exact ⟨[t0, t1, t2, t3], [c0, c1, c2, c3], by simp [f7, f7_20, f7_149, own_f8, ldx, stx, b0, b1], rfl, rfl, (by rw [own_bt] at b0 b1; refine ⟨?_, ?_⟩ <;> (show own_le _ _; unfold own_le; rw [own_bF]; dsimp only; omega)), List.Perm.refl _⟩
set_option maxHeartbeats 8000000 in
theorem own_sift4 : own_Sift 4 4 := by
  intro ts cs h1 h2 h3
  obtain ⟨t0, t1, t2, t3, rfl⟩ := own_l4 h1
  obtain ⟨c0, c1, c2, c3, rfl⟩ := own_l4 h2
  have h3' : own_bef t3 c3 t1 c1 = false := h3
  rw [own_bF] at h3'
  by_cases b0 : own_bef t2 c2 t1 c1 = true
  · by_cases b1 : own_bef t2 c2 t0 c0 = true
    · exact ⟨[t2, t1, t0, t3], [c2, c1, c0, c3], by simp [f7, f7_20, f7_149, own_f8, ldx, stx, b0, b1], rfl, rfl, (by rw [own_bt] at b0 b1; refine ⟨?_, ?_, ?_⟩ <;> (show own_le _ _; unfold own_le; rw [own_bF]; dsimp only; omega)), own_p1 _ _ _ _⟩
    · exact ⟨[t0, t1, t2, t3], [c0, c1, c2, c3], by simp [f7, f7_20, f7_149, own_f8, ldx, stx, b0, b1], rfl, rfl, (by rw [own_bt] at b0 b1; refine ⟨?_, ?_, ?_⟩ <;> (show own_le _ _; unfold own_le; rw [own_bF]; dsimp only; omega)), List.Perm.refl _⟩
  · by_cases b1 : own_bef t1 c1 t0 c0 = true
    · by_cases b2 : own_bef t3 c3 t0 c0 = true
      · exact ⟨[t1, t3, t2, t0], [c1, c3, c2, c0], by simp [f7, f7_20, f7_149, own_f8, ldx, stx, b0, b1, b2], rfl, rfl, (by rw [own_bt] at b0 b1 b2; refine ⟨?_, ?_, ?_⟩ <;> (show own_le _ _; unfold own_le; rw [own_bF]; dsimp only; omega)), own_p3 _ _ _ _⟩
      · exact ⟨[t1, t0, t2, t3], [c1, c0, c2, c3], by simp [f7, f7_20, f7_149, own_f8, ldx, stx, b0, b1, b2], rfl, rfl, (by rw [own_bt] at b0 b1 b2; refine ⟨?_, ?_, ?_⟩ <;> (show own_le _ _; unfold own_le; rw [own_bF]; dsimp only; omega)), List.Perm.swap _ _ _⟩
    · exact ⟨[t0, t1, t2, t3], [c0, c1, c2, c3], by simp [f7, f7_20, f7_149, own_f8, ldx, stx, b0, b1], rfl, rfl, (by rw [own_bt] at b0 b1; refine ⟨?_, ?_, ?_⟩ <;> (show own_le _ _; unfold own_le; rw [own_bF]; dsimp only; omega)), List.Perm.refl _⟩
theorem own_st {α : Type} {xs : List α} {j : Int32} {t v : α} (h : ldx xs j = some t) : ∃ ys, stx xs j v = some ys ∧ ys.length = xs.length ∧ ldx ys j = some v ∧ ∀ k, k ≠ j → ldx ys k = ldx xs k := by
  unfold ldx at h
  by_cases hj : j < 0
  · rw [if_pos hj] at h; cases h
  rw [if_neg hj] at h
  have hlt : j.toNatClampNeg < xs.length := by
    rw [List.getElem?_eq_some_iff] at h
    exact h.1
  refine ⟨xs.set j.toNatClampNeg v, ?_, by simp, ?_, ?_⟩
  · unfold stx; rw [if_neg hj, if_neg (by omega)]
  · unfold ldx; rw [if_neg hj]; simp [hlt]
  · intro k hk
    unfold ldx
    by_cases hk0 : k < 0
    · rw [if_pos hk0, if_pos hk0]
    · rw [if_neg hk0, if_neg hk0, List.getElem?_set_ne]
      intro e
      apply hk
      rw [Int32.lt_iff_toInt_lt] at hj hk0
      have z : (0 : Int32).toInt = 0 := by decide
      have e' : j.toInt.toNat = k.toInt.toNat := e
      exact Int32.toInt_inj.mp (by omega)
def own_ids : List Int32 := [0, 1, 2, 3]
set_option maxHeartbeats 16000000 in
theorem own_first (ms : List Int64) (gs : List Int32) (h1 : ms.length = 4) (h2 : gs.length = 4) (c : Int32) (t : Int64) (hc : c ∈ own_ids) (ht : ldx ms c = some t) (hg : ldx gs c = some 0) (hm : ∀ k ∈ own_ids, ldx gs k = some 0 → ∀ v, ldx ms k = some v → own_bef v k t c = false) : f3 ms gs = some c := by
  obtain ⟨m0, m1, m2, m3, rfl⟩ := own_l4 h1
  obtain ⟨g0, g1, g2, g3, rfl⟩ := own_l4 h2
  have q0 : g0 = 0 → own_bef m0 0 t c = false := fun z => hm 0 (by simp [own_ids]) (by rw [z]; rfl) m0 rfl
  have q1 : g1 = 0 → own_bef m1 1 t c = false := fun z => hm 1 (by simp [own_ids]) (by rw [z]; rfl) m1 rfl
  have q2 : g2 = 0 → own_bef m2 2 t c = false := fun z => hm 2 (by simp [own_ids]) (by rw [z]; rfl) m2 rfl
  have q3 : g3 = 0 → own_bef m3 3 t c = false := fun z => hm 3 (by simp [own_ids]) (by rw [z]; rfl) m3 rfl
  clear hm
  simp only [own_bF] at q0 q1 q2 q3
  have w0 : (0 : Int32).toInt = 0 := by decide
  have w1 : (1 : Int32).toInt = 1 := by decide
  have w2 : (2 : Int32).toInt = 2 := by decide
  have w3 : (3 : Int32).toInt = 3 := by decide
  simp only [own_ids, List.mem_cons, List.not_mem_nil, or_false] at hc
  rcases hc with rfl | rfl | rfl | rfl
  · obtain rfl : m0 = t := Option.some.inj ht
    obtain rfl : g0 = 0 := Option.some.inj hg
    have q0' := q0 rfl
    by_cases z1 : g1 = 0 <;> by_cases z2 : g2 = 0 <;> by_cases z3 : g3 = 0 <;> simp only [z1, z2, z3, true_implies, false_implies] at q1 q2 q3 <;> simp [f3, f4, ldx, z1, z2, z3, Int64.lt_iff_toInt_lt] <;> (repeat' (first | rfl | omega | (split <;> try simp [ldx, z1, z2, z3, Int64.lt_iff_toInt_lt])))
  · obtain rfl : m1 = t := Option.some.inj ht
    obtain rfl : g1 = 0 := Option.some.inj hg
    have q1' := q1 rfl
    by_cases z0 : g0 = 0 <;> by_cases z2 : g2 = 0 <;> by_cases z3 : g3 = 0 <;> simp only [z0, z2, z3, true_implies, false_implies] at q0 q2 q3 <;> simp [f3, f4, ldx, z0, z2, z3, Int64.lt_iff_toInt_lt] <;> (repeat' (first | rfl | omega | (split <;> try simp [ldx, z0, z2, z3, Int64.lt_iff_toInt_lt])))
  · obtain rfl : m2 = t := Option.some.inj ht
    obtain rfl : g2 = 0 := Option.some.inj hg
    have q2' := q2 rfl
    by_cases z0 : g0 = 0 <;> by_cases z1 : g1 = 0 <;> by_cases z3 : g3 = 0 <;> simp only [z0, z1, z3, true_implies, false_implies] at q0 q1 q3 <;> simp [f3, f4, ldx, z0, z1, z3, Int64.lt_iff_toInt_lt] <;> (repeat' (first | rfl | omega | (split <;> try simp [ldx, z0, z1, z3, Int64.lt_iff_toInt_lt])))
  · obtain rfl : m3 = t := Option.some.inj ht
    obtain rfl : g3 = 0 := Option.some.inj hg
    have q3' := q3 rfl
    by_cases z0 : g0 = 0 <;> by_cases z1 : g1 = 0 <;> by_cases z2 : g2 = 0 <;> simp only [z0, z1, z2, true_implies, false_implies] at q0 q1 q2 <;> simp [f3, f4, ldx, z0, z1, z2, Int64.lt_iff_toInt_lt] <;> (repeat' (first | rfl | omega | (split <;> try simp [ldx, z0, z1, z2, Int64.lt_iff_toInt_lt])))
def own_inv (n : Nat) (ts : List Int64) (cs : List Int32) (ms : List Int64) (gs : List Int32) : Prop := ts.length = 4 ∧ cs.length = 4 ∧ ms.length = 4 ∧ gs.length = 4 ∧ own_heap ((ts.zip cs).take n) ∧ (((ts.zip cs).take n).map Prod.snd).Nodup ∧ (∀ p ∈ (ts.zip cs).take n, p.2 ∈ own_ids ∧ ldx ms p.2 = some p.1 ∧ ldx gs p.2 = some 0) ∧ ∀ k ∈ own_ids, ldx gs k = some 0 → k ∈ ((ts.zip cs).take n).map Prod.snd
theorem own_root {n : Nat} {t0 t1 t2 t3 : Int64} {c0 c1 c2 c3 : Int32} {ms : List Int64} {gs : List Int32} (h : own_inv (n + 1) [t0, t1, t2, t3] [c0, c1, c2, c3] ms gs) : f3 ms gs = some c0 ∧ ldx ms c0 = some t0 ∧ ldx gs c0 = some 0 := by
  obtain ⟨-, -, h3, h4, h5, h6, h7, h8⟩ := h
  have e : (([t0, t1, t2, t3] : List Int64).zip [c0, c1, c2, c3]).take (n + 1) = (t0, c0) :: ([(t1, c1), (t2, c2), (t3, c3)].take n) := rfl
  rw [e] at h5 h6 h7 h8
  obtain ⟨q1, q2, q3⟩ := h7 (t0, c0) (by simp)
  refine ⟨own_first ms gs h3 h4 c0 t0 q1 q2 q3 ?_, q2, q3⟩
  intro k hk hz v hv
  obtain ⟨p, hp, rfl⟩ := List.mem_map.mp (h8 k hk hz)
  have r := (h7 p hp).2.1
  rw [hv] at r
  obtain rfl := Option.some.inj r
  exact own_min h5 p hp
theorem own_step (x : Int64) {ts : List Int64} {cs : List Int32} {ms : List Int64} {gs : List Int32} (h : own_inv 4 ts cs ms gs) :
    ∃ c t w ms' ts' cs', f3 ms gs = some c ∧ ldx ms c = some t ∧ f5 t x = some w ∧ stx ms c w = some ms' ∧ f6 w 4 ts cs = some (ts', cs') ∧ own_inv 4 ts' cs' ms' gs := by
  obtain ⟨t0, t1, t2, t3, rfl⟩ := own_l4 h.1
  obtain ⟨c0, c1, c2, c3, rfl⟩ := own_l4 h.2.1
  obtain ⟨r1, r2, r3⟩ := own_root (n := 3) h
  obtain ⟨w, hw⟩ : ∃ w, f5 t0 x = some w := by unfold f5; split <;> exact ⟨_, rfl⟩
  obtain ⟨ms', m1, m2, m3, m4⟩ := own_st (v := w) r2
  obtain ⟨-, -, h3, h4, h5, h6, h7, h8⟩ := h
  obtain ⟨ts', cs', s1, s2, s3, s4, s5⟩ := own_sift4 [w, t1, t2, t3] [c0, c1, c2, c3] rfl rfl (own_tl (own_ht h5))
  have e : (([w, t1, t2, t3] : List Int64).zip [c0, c1, c2, c3]).take 4 = [(w, c0), (t1, c1), (t2, c2), (t3, c3)] := rfl
  have e0 : (([t0, t1, t2, t3] : List Int64).zip [c0, c1, c2, c3]).take 4 = [(t0, c0), (t1, c1), (t2, c2), (t3, c3)] := rfl
  rw [e] at s5
  rw [e0] at h6 h7 h8
  refine ⟨c0, t0, w, ms', ts', cs', r1, r2, hw, m1, ?_, s2, s3, by rw [m2]; exact h3, h4, s4, ?_, ?_, ?_⟩
  · have a1 : stx [t0, t1, t2, t3] (0 : Int32) w = some [w, t1, t2, t3] := rfl
    simp only [f6, a1, Option.bind_some, s1]
  · exact (s5.map Prod.snd).nodup_iff.mpr h6
  · intro p hp
    have hp' := s5.mem_iff.mp hp
    rcases List.mem_cons.mp hp' with rfl | hq
    · exact ⟨(h7 (t0, c0) (by simp)).1, m3, r3⟩
    · have hz := h7 p (List.mem_cons_of_mem _ hq)
      refine ⟨hz.1, ?_, hz.2.2⟩
      rw [m4 _ (fun z => by have y := List.mem_map_of_mem (f := Prod.snd) hq; rw [z] at y; exact (List.nodup_cons.mp h6).1 y)]
      exact hz.2.1
  · intro k hk hz
    exact (s5.map Prod.snd).mem_iff.mpr (h8 k hk hz)
theorem own_rem4 {ts : List Int64} {cs : List Int32} {ms : List Int64} {gs : List Int32} (h : own_inv 4 ts cs ms gs) :
    ∃ c gs' ts' cs' c', f3 ms gs = some c ∧ stx gs c ((1 : Int32) &&& 1) = some gs' ∧ f9 4 ts cs = some (3, ts', cs') ∧ own_inv 3 ts' cs' ms gs' ∧ f10 3 ts' cs' = some c' ∧ f3 ms gs' = some c' := by
  obtain ⟨t0, t1, t2, t3, rfl⟩ := own_l4 h.1
  obtain ⟨c0, c1, c2, c3, rfl⟩ := own_l4 h.2.1
  obtain ⟨r1, r2, r3⟩ := own_root (n := 3) h
  obtain ⟨gs', m1, m2, m3, m4⟩ := own_st (v := (1 : Int32) &&& 1) r3
  obtain ⟨-, -, h3, h4, h5, h6, h7, h8⟩ := h
  obtain ⟨ts', cs', s1, s2, s3, s4, s5⟩ := own_sift3 [t3, t1, t2, t3] [c3, c1, c2, c3] rfl rfl trivial
  have e : (([t3, t1, t2, t3] : List Int64).zip [c3, c1, c2, c3]).take 3 = [(t3, c3), (t1, c1), (t2, c2)] := rfl
  have e0 : (([t0, t1, t2, t3] : List Int64).zip [c0, c1, c2, c3]).take 4 = [(t0, c0), (t1, c1), (t2, c2), (t3, c3)] := rfl
  rw [e] at s5
  rw [e0] at h6 h7 h8
  have pm : ((t0, c0) :: [(t3, c3), (t1, c1), (t2, c2)]).Perm [(t0, c0), (t1, c1), (t2, c2), (t3, c3)] := (List.Perm.cons _ (own_p2 _ _ _))
  have h6' := (pm.map Prod.snd).nodup_iff.mpr h6
  have inv' : own_inv 3 ts' cs' ms gs' := by
    refine ⟨s2, s3, h3, by rw [m2]; exact h4, s4, (s5.map Prod.snd).nodup_iff.mpr (List.nodup_cons.mp h6').2, ?_, ?_⟩
    · intro p hp
      have hp' := s5.mem_iff.mp hp
      have hz := h7 p (pm.mem_iff.mp (List.mem_cons_of_mem _ hp'))
      refine ⟨hz.1, hz.2.1, ?_⟩
      rw [m4 _ (fun z => by have y := List.mem_map_of_mem (f := Prod.snd) hp'; rw [z] at y; exact (List.nodup_cons.mp h6').1 y)]
      exact hz.2.2
    · intro k hk hz
      have hne : k ≠ c0 := by
        intro z; subst z; rw [m3] at hz
        exact absurd (Option.some.inj hz) (by decide)
      rw [m4 k hne] at hz
      have := (pm.map Prod.snd).mem_iff.mpr (h8 k hk hz)
      rw [List.map_cons] at this
      exact (s5.map Prod.snd).mem_iff.mpr ((List.mem_cons.mp this).resolve_left hne)
  have hf : f9 4 [t0, t1, t2, t3] [c0, c1, c2, c3] = some (3, ts', cs') := by
    have e1 : (4 : Int32) - 1 = 3 := by decide
    have a1 : ldx [t0, t1, t2, t3] (3 : Int32) = some t3 := rfl
    have a2 : stx [t0, t1, t2, t3] (0 : Int32) t3 = some [t3, t1, t2, t3] := rfl
    have a3 : ldx [c0, c1, c2, c3] (3 : Int32) = some c3 := rfl
    have a4 : stx [c0, c1, c2, c3] (0 : Int32) c3 = some [c3, c1, c2, c3] := rfl
    simp only [f9, e1, a1, a2, a3, a4, Option.bind_some, s1]
  obtain ⟨t0', t1', t2', t3', rfl⟩ := own_l4 s2
  obtain ⟨c0', c1', c2', c3', rfl⟩ := own_l4 s3
  exact ⟨c0, gs', _, _, c0', r1, m1, hf, inv', rfl, (own_root (n := 2) inv').1⟩
theorem own_rem3 {ts : List Int64} {cs : List Int32} {ms : List Int64} {gs : List Int32} (h : own_inv 3 ts cs ms gs) :
    ∃ c gs' ts' cs' c', f3 ms gs = some c ∧ stx gs c ((1 : Int32) &&& 1) = some gs' ∧ f9 3 ts cs = some (2, ts', cs') ∧ own_inv 2 ts' cs' ms gs' ∧ f10 2 ts' cs' = some c' ∧ f3 ms gs' = some c' := by
  obtain ⟨t0, t1, t2, t3, rfl⟩ := own_l4 h.1
  obtain ⟨c0, c1, c2, c3, rfl⟩ := own_l4 h.2.1
  obtain ⟨r1, r2, r3⟩ := own_root (n := 2) h
  obtain ⟨gs', m1, m2, m3, m4⟩ := own_st (v := (1 : Int32) &&& 1) r3
  obtain ⟨-, -, h3, h4, h5, h6, h7, h8⟩ := h
  obtain ⟨ts', cs', s1, s2, s3, s4, s5⟩ := own_sift2 [t2, t1, t2, t3] [c2, c1, c2, c3] rfl rfl trivial
  have e : (([t2, t1, t2, t3] : List Int64).zip [c2, c1, c2, c3]).take 2 = [(t2, c2), (t1, c1)] := rfl
  have e0 : (([t0, t1, t2, t3] : List Int64).zip [c0, c1, c2, c3]).take 3 = [(t0, c0), (t1, c1), (t2, c2)] := rfl
  rw [e] at s5
  rw [e0] at h6 h7 h8
  have pm : ((t0, c0) :: [(t2, c2), (t1, c1)]).Perm [(t0, c0), (t1, c1), (t2, c2)] := (List.Perm.cons _ (List.Perm.swap _ _ _))
  have h6' := (pm.map Prod.snd).nodup_iff.mpr h6
  have inv' : own_inv 2 ts' cs' ms gs' := by
    refine ⟨s2, s3, h3, by rw [m2]; exact h4, s4, (s5.map Prod.snd).nodup_iff.mpr (List.nodup_cons.mp h6').2, ?_, ?_⟩
    · intro p hp
      have hp' := s5.mem_iff.mp hp
      have hz := h7 p (pm.mem_iff.mp (List.mem_cons_of_mem _ hp'))
      refine ⟨hz.1, hz.2.1, ?_⟩
      rw [m4 _ (fun z => by have y := List.mem_map_of_mem (f := Prod.snd) hp'; rw [z] at y; exact (List.nodup_cons.mp h6').1 y)]
      exact hz.2.2
    · intro k hk hz
      have hne : k ≠ c0 := by
        intro z; subst z; rw [m3] at hz
        exact absurd (Option.some.inj hz) (by decide)
      rw [m4 k hne] at hz
      have := (pm.map Prod.snd).mem_iff.mpr (h8 k hk hz)
      rw [List.map_cons] at this
      exact (s5.map Prod.snd).mem_iff.mpr ((List.mem_cons.mp this).resolve_left hne)
  have hf : f9 3 [t0, t1, t2, t3] [c0, c1, c2, c3] = some (2, ts', cs') := by
    have e1 : (3 : Int32) - 1 = 2 := by decide
    have a1 : ldx [t0, t1, t2, t3] (2 : Int32) = some t2 := rfl
    have a2 : stx [t0, t1, t2, t3] (0 : Int32) t2 = some [t2, t1, t2, t3] := rfl
    have a3 : ldx [c0, c1, c2, c3] (2 : Int32) = some c2 := rfl
    have a4 : stx [c0, c1, c2, c3] (0 : Int32) c2 = some [c2, c1, c2, c3] := rfl
    simp only [f9, e1, a1, a2, a3, a4, Option.bind_some, s1]
  obtain ⟨t0', t1', t2', t3', rfl⟩ := own_l4 s2
  obtain ⟨c0', c1', c2', c3', rfl⟩ := own_l4 s3
  exact ⟨c0, gs', _, _, c0', r1, m1, hf, inv', rfl, (own_root (n := 1) inv').1⟩
theorem own_rem2 {ts : List Int64} {cs : List Int32} {ms : List Int64} {gs : List Int32} (h : own_inv 2 ts cs ms gs) :
    ∃ c gs' ts' cs' c', f3 ms gs = some c ∧ stx gs c ((1 : Int32) &&& 1) = some gs' ∧ f9 2 ts cs = some (1, ts', cs') ∧ own_inv 1 ts' cs' ms gs' ∧ f10 1 ts' cs' = some c' ∧ f3 ms gs' = some c' := by
  obtain ⟨t0, t1, t2, t3, rfl⟩ := own_l4 h.1
  obtain ⟨c0, c1, c2, c3, rfl⟩ := own_l4 h.2.1
  obtain ⟨r1, r2, r3⟩ := own_root (n := 1) h
  obtain ⟨gs', m1, m2, m3, m4⟩ := own_st (v := (1 : Int32) &&& 1) r3
  obtain ⟨-, -, h3, h4, h5, h6, h7, h8⟩ := h
  obtain ⟨ts', cs', s1, s2, s3, s4, s5⟩ := own_sift1 [t1, t1, t2, t3] [c1, c1, c2, c3] rfl rfl trivial
  have e : (([t1, t1, t2, t3] : List Int64).zip [c1, c1, c2, c3]).take 1 = [(t1, c1)] := rfl
  have e0 : (([t0, t1, t2, t3] : List Int64).zip [c0, c1, c2, c3]).take 2 = [(t0, c0), (t1, c1)] := rfl
  rw [e] at s5
  rw [e0] at h6 h7 h8
  have pm : ((t0, c0) :: [(t1, c1)]).Perm [(t0, c0), (t1, c1)] := (List.Perm.refl _)
  have h6' := (pm.map Prod.snd).nodup_iff.mpr h6
  have inv' : own_inv 1 ts' cs' ms gs' := by
    refine ⟨s2, s3, h3, by rw [m2]; exact h4, s4, (s5.map Prod.snd).nodup_iff.mpr (List.nodup_cons.mp h6').2, ?_, ?_⟩
    · intro p hp
      have hp' := s5.mem_iff.mp hp
      have hz := h7 p (pm.mem_iff.mp (List.mem_cons_of_mem _ hp'))
      refine ⟨hz.1, hz.2.1, ?_⟩
      rw [m4 _ (fun z => by have y := List.mem_map_of_mem (f := Prod.snd) hp'; rw [z] at y; exact (List.nodup_cons.mp h6').1 y)]
      exact hz.2.2
    · intro k hk hz
      have hne : k ≠ c0 := by
        intro z; subst z; rw [m3] at hz
        exact absurd (Option.some.inj hz) (by decide)
      rw [m4 k hne] at hz
      have := (pm.map Prod.snd).mem_iff.mpr (h8 k hk hz)
      rw [List.map_cons] at this
      exact (s5.map Prod.snd).mem_iff.mpr ((List.mem_cons.mp this).resolve_left hne)
  have hf : f9 2 [t0, t1, t2, t3] [c0, c1, c2, c3] = some (1, ts', cs') := by
    have e1 : (2 : Int32) - 1 = 1 := by decide
    have a1 : ldx [t0, t1, t2, t3] (1 : Int32) = some t1 := rfl
    have a2 : stx [t0, t1, t2, t3] (0 : Int32) t1 = some [t1, t1, t2, t3] := rfl
    have a3 : ldx [c0, c1, c2, c3] (1 : Int32) = some c1 := rfl
    have a4 : stx [c0, c1, c2, c3] (0 : Int32) c1 = some [c1, c1, c2, c3] := rfl
    simp only [f9, e1, a1, a2, a3, a4, Option.bind_some, s1]
  obtain ⟨t0', t1', t2', t3', rfl⟩ := own_l4 s2
  obtain ⟨c0', c1', c2', c3', rfl⟩ := own_l4 s3
  exact ⟨c0, gs', _, _, c0', r1, m1, hf, inv', rfl, (own_root (n := 0) inv').1⟩
theorem own_16 (a b c d y : Int64) : f0_16 a b c d y = some 1 := by
  have hi : f1 4 0 = some (4, [0, 0, 0, 0], [0, 1, 2, 3]) := by decide +kernel
  have z : ∀ c c' : Int32, own_bef 0 c 0 c' = decide (c < c') := by intro c c'; simp [own_bef]
  have i0 : own_inv 4 [0, 0, 0, 0] [0, 1, 2, 3] [0, 0, 0, 0] [0, 0, 0, 0] := ⟨rfl, rfl, rfl, rfl, by simp [own_heap, own_le, z], by decide, by simp [ldx, own_ids], by simp [own_ids]⟩
  obtain ⟨k1, t1, w1, ms1, ts1, cs1, a1, a2, a3, a4, a5, i1⟩ := own_step (a &&& y) i0
  obtain ⟨k2, t2, w2, ms2, ts2, cs2, b1, b2, b3, b4, b5, i2⟩ := own_step (b &&& y) i1
  obtain ⟨k3, t3, w3, ms3, ts3, cs3, c1, c2, c3, c4, c5, i3⟩ := own_step (c &&& y) i2
  obtain ⟨k4, t4, w4, ms4, ts4, cs4, d1, d2, d3, d4, d5, i4⟩ := own_step (d &&& y) i3
  obtain ⟨k5, g5, ts5, cs5, r5, e1, e2, e3, i5, e4, e5⟩ := own_rem4 i4
  obtain ⟨k6, g6, ts6, cs6, r6, f1', f2', f3', i6, f4', f5'⟩ := own_rem3 i5
  obtain ⟨k7, g7, ts7, cs7, r7, g1', g2', g3', i7, g4', g5'⟩ := own_rem2 i6
  rw [e5] at f1'
  obtain rfl := Option.some.inj f1'
  rw [f5'] at g1'
  obtain rfl := Option.some.inj g1'
  obtain ⟨p0, p1, p2, p3, rfl⟩ := own_l4 i7.1
  obtain ⟨q0, q1, q2, q3, rfl⟩ := own_l4 i7.2.1
  obtain ⟨v1, v2, v3⟩ := own_root (n := 0) i7
  rw [v1] at g5'
  obtain rfl := Option.some.inj g5'
  have hl : f11 1 [p0, p1, p2, p3] [q0, q1, q2, q3] = some p0 := rfl
  simp only [f0_16, hi, Option.bind_some, a1, a2, a3, a4, a5, b1, b2, b3, b4, b5, c1, c2, c3, c4, c5, d1, d2, d3, d4, d5, e1, e2, e3, e4, e5, if_true, f2', f3', f4', f5', g2', g3', g4', v1, v2, hl]
theorem law_ok (a b c d : Int64) (m : Int32) : f0 a b c d m = some 1 := by
  unfold f0
  split
  · exact own_16 _ _ _ _ _
  · exact own_16 _ _ _ _ _
set_option maxRecDepth 65536 in
set_option maxHeartbeats 40000000 in
theorem comes_1 {Post : Tables → Env → Array Value → State → Outcome → State → Prop} (hpost : ∀ tb e args s v u, (limb_1_1.after args s (.returned v) u = true ∧ limb_1_2.after args s (.returned v) u = true ∧ True) → FrameEnd s (.returned v) u (Jvm.fieldLocs frame_1_writes args s ++ Jvm.arrayLocs frame_1_arrays args s ++ Jvm.staticLocs frame_1_statics s) 24 128 → Post tb e args s (.returned v) u) :
    ArmFor flags0 classFile x code maxLocals ret World_1 tables_1 room_1 Calls_1 rest_1 Pre_1 Post := by
  intro l hfl _ _ p e ha hc hk s m args below hf hA hF happ hP
  obtain ⟨hcalls, hrest, hpre⟩ := hP
  obtain ⟨-, -, -, hnamed, -, -, -, hat⟩ := (Spec.applies_iff hf).mp happ
  obtain ⟨hg, hn⟩ := and_e (Cond.before_iff.mp (show (Jvm.Cond.and given_1 narrow_1).before args s = true from hpre))
  obtain ⟨g1, g2⟩ := and_e hg
  obtain ⟨g3, g4⟩ := and_e g2
  obtain ⟨g5, g6⟩ := and_e g4
  obtain ⟨g7, g8⟩ := and_e g6
  obtain ⟨g9, g10⟩ := and_e g8
  obtain ⟨w0, w1, w2, w3, w4, rfl⟩ : ∃ w0 w1 w2 w3 w4 : Value, args = #[w0, w1, w2, w3, w4] := by
    have hs : args.size = 5 := by simpa [Cond.value, given_1] using g1
    obtain ⟨L⟩ := args
    match L, hs with
    | [w0, w1, w2, w3, w4], _ => exact ⟨w0, w1, w2, w3, w4, rfl⟩
  have hw := fun d (hd : d ∈ tables_1) => atoms_spec (ws := Jvm.Cond.code x code maxLocals ret :: tables_1) hat d (List.mem_cons_of_mem _ hd)
  obtain ⟨i0, ei0⟩ := isL_v g3
  obtain rfl : w0 = (.long i0) := Option.some.inj ei0
  obtain ⟨i1, ei1⟩ := isL_v g5
  obtain rfl : w1 = (.long i1) := Option.some.inj ei1
  obtain ⟨i2, ei2⟩ := isL_v g7
  obtain rfl : w2 = (.long i2) := Option.some.inj ei2
  obtain ⟨i3, ei3⟩ := isL_v g9
  obtain rfl : w3 = (.long i3) := Option.some.inj ei3
  obtain ⟨i4, ei4⟩ := is_v g10
  obtain rfl : w4 = (.int i4) := Option.some.inj ei4
  obtain ⟨n, o, h1, h2, h3, _, L, rfl, ⟨rfl, N⟩, hq⟩ := rm0 l s _ hw tables_1 i0 i1 i2 i3 i4 s.heap s.heap.size 1 (law_ok i0 i1 i2 i3 i4) (Old.start s) p e ha hc hk s m _ below hf ((Spec.applies_iff_loose hf).mp happ).1 ⟨rfl, State.Warmed39.refl s, rfl⟩ trivial
  have hv : (1 : Int32) = 1 := rfl
  refine ⟨n, _, h1, h2, h3, hpost _ _ _ _ _ _ ⟨Cond.after_iff.mpr rfl, Cond.after_iff.mpr (eq_i res_at (Term.int_eval (1)) (congrArg Value.int hv)), trivial⟩ ⟨hq.1, hq.2.1, (hq.2.2.sift fun y hy => Or.inr (N y hy)).mono (by decide) (by decide)⟩⟩
theorem main_1_1 : Claimed_1_1 := comes_1 fun _ _ _ _ _ _ h hF => ⟨h.1, hF⟩
theorem main_1_2 : Claimed_1_2 := comes_1 fun _ _ _ _ _ _ h hF => ⟨h.2.1, hF⟩
end Jvm.Pilot.@@N@@
namespace Jvm.Pilot.@@N@@
open Jvm Jvm.ClassFile Sem Op Lib Jvm.Free Jvm.Stand Jvm.Pilot.@@N@@.Jvm.D
/-! MADE BY PROGRAM (witnessworld.py) out of the Statement's table words and the real class files: 14 classes; the members and pool entries that the words name. The judged class is class 1, her method 1. -/
namespace start1
open Jvm.ClassFile
def u (s : String) : CpInfo := .utf8 (stringToUtf16 s)
/-- a pool by its gaps: so many unusable entries, then the entry; so many at the end -/
def gap : Nat → List CpInfo → List CpInfo
  | 0, r => r
  | n + 1, r => .unusable :: gap n r
def poolList (es : List (Nat × CpInfo)) (last : Nat) : List CpInfo := es.foldr (fun e r => gap e.1 (e.2 :: r)) (gap last [])
def pool (es : List (Nat × CpInfo)) (last : Nat) : Array CpInfo := ⟨poolList es last⟩
def fileOf (pool : Array CpInfo) (this : Nat) (attrs : Array Attribute := #[]) (ms : Array MethodInfo := #[]) (fl : Nat := 33) (sup : Nat := 0) (ifs : Array Nat := #[]) (fds : Array FieldInfo := #[]) : ClassFile where
  minorVersion := 0
  majorVersion := 65
  constantPool := pool
  accessFlags := fl
  thisClass := this
  superClass := sup
  interfaces := ifs
  fields := fds
  methods := ms
  attributes := attrs
def plain (name : String) (sup : Option ClassId) : Class where
  name := name
  kind := .ordinary
  loader := none
  accessFlags := 33
  super := sup
  interfaces := #[]
  cf := none
  fields := #[]
  methods := #[]
  instanceTypes := #[]
  staticTypes := #[]
  resolved := #[]
  callSites := []
  init := .initialized
  statics := none
  mirror := none

def pool0 : Array CpInfo := pool [(5, u "<init>"), (0, u "()V"), (1, .class_ 10), (1, u "java/lang/Object")] 113

def k0c0 : Code := { maxStack := 0, maxLocals := 1, code := object_method_1_code, exceptionTable := #[], attributes := #[] }
def k0m0 : Method := { name := "<init>", desc := "()V", sig := { parameters := [], returnType := none }, accessFlags := 1, code := some k0c0 }
/-- java/lang/Object -/
def k0 : Class := { plain "java/lang/Object" none with
  accessFlags := 33
  interfaces := #[]
  cf := some (fileOf pool0 8 #[] #[{ accessFlags := 1, nameIndex := 5, descriptorIndex := 6, attributes := #[] }] 33 0 #[] #[])
  fields := #[]
  methods := #[k0m0]
  instanceTypes := #[]
  staticTypes := #[]
  resolved := Array.replicate 124 none
  statics := none }

def pool1 : Array CpInfo := pool [(2, .class_ 4), (1, u "java/lang/Object"), (0, u "<init>"), (0, u "()V"), (0, .long 3), (3, .long 9223372036854775807), (1, .class_ 14), (0, u "com/example/porter_drive/porterdrive/RequestQueue"), (0, .methodref 13 16), (0, .nameAndType 5 17), (0, u "(I)V"), (0, .methodref 19 20), (0, .class_ 21), (0, .nameAndType 22 23), (0, u "com/example/porter_drive/porterdrive/RequestQueueRemoveFirstPinLaw"), (0, u "first"), (0, u "([J[Z)I"), (0, .methodref 25 26), (0, .class_ 27), (0, .nameAndType 28 29), (0, u "java/lang/Math"), (0, u "max"), (0, u "(JJ)J"), (0, .methodref 13 31), (0, .nameAndType 32 33), (0, u "delayFirst"), (0, u "(J)V"), (0, .methodref 13 35), (0, .nameAndType 36 6), (0, u "removeFirst"), (0, .methodref 13 38), (0, .nameAndType 39 40), (0, u "firstClient"), (0, u "()I"), (0, .methodref 13 42), (0, .nameAndType 43 44), (0, u "firstTime"), (0, u "()J"), (0, .methodref 19 46), (0, .nameAndType 47 48), (0, u "pick"), (0, u "([J[ZII)I"), (2, u "law"), (0, u "(JJJJI)Z")] 7

def k1m0 : Method := { name := "<init>", desc := "()V", sig := { parameters := [], returnType := none }, accessFlags := 1, code := none }
def k1c1 : Code := { maxStack := 6, maxLocals := 18, code := code, exceptionTable := #[], attributes := #[] }
def k1m1 : Method := { name := "law", desc := "(JJJJI)Z", sig := { parameters := [.long, .long, .long, .long, .int], returnType := some .boolean }, accessFlags := 9, code := some k1c1 }
def k1c2 : Code := { maxStack := 4, maxLocals := 3, code := method_3_code, exceptionTable := #[], attributes := #[] }
def k1m2 : Method := { name := "first", desc := "([J[Z)I", sig := { parameters := [(.array .long), (.array .boolean)], returnType := some .int }, accessFlags := 10, code := some k1c2 }
def k1c3 : Code := { maxStack := 4, maxLocals := 4, code := method_4_code, exceptionTable := #[], attributes := #[] }
def k1m3 : Method := { name := "pick", desc := "([J[ZII)I", sig := { parameters := [(.array .long), (.array .boolean), .int, .int], returnType := some .int }, accessFlags := 10, code := some k1c3 }
/-- com/example/porter_drive/porterdrive/RequestQueueRemoveFirstPinLaw -/
def k1 : Class := { plain "com/example/porter_drive/porterdrive/RequestQueueRemoveFirstPinLaw" (some 0) with
  accessFlags := 49
  interfaces := #[]
  cf := some (fileOf pool1 19 #[] #[{ accessFlags := 1, nameIndex := 5, descriptorIndex := 6, attributes := #[] }, { accessFlags := 9, nameIndex := 51, descriptorIndex := 52, attributes := #[] }, { accessFlags := 10, nameIndex := 22, descriptorIndex := 23, attributes := #[] }, { accessFlags := 10, nameIndex := 47, descriptorIndex := 48, attributes := #[] }] 49 2 #[] #[])
  fields := #[]
  methods := #[k1m0, k1m1, k1m2, k1m3]
  instanceTypes := #[]
  staticTypes := #[]
  resolved := Array.replicate 60 none
  statics := none }

def pool2 : Array CpInfo := pool [(1, .methodref 2 3), (0, .class_ 4), (0, .nameAndType 5 6), (0, u "java/lang/Object"), (0, u "<init>"), (0, u "()V"), (0, .fieldref 8 9), (0, .class_ 10), (0, .nameAndType 11 12), (0, u "com/example/porter_drive/porterdrive/RequestQueue"), (0, u "times"), (0, u "[J"), (0, .fieldref 8 14), (0, .nameAndType 15 16), (0, u "clients"), (0, u "[I"), (0, .fieldref 8 18), (0, .nameAndType 19 20), (0, u "size"), (0, u "I"), (0, .methodref 8 22), (0, .nameAndType 23 6), (0, u "siftDown"), (0, .methodref 8 25), (0, .nameAndType 26 27), (0, u "isBefore"), (0, u "(JIJI)Z"), (0, u "(I)V"), (5, u "firstTime"), (0, u "()J"), (0, u "firstClient"), (0, u "()I"), (0, u "removeFirst"), (0, u "delayFirst"), (0, u "(J)V")] 2

def k2c0 : Code := { maxStack := 3, maxLocals := 3, code := prog_24_method_1_code, exceptionTable := #[], attributes := #[] }
def k2m0 : Method := { name := "<init>", desc := "(I)V", sig := { parameters := [.int], returnType := none }, accessFlags := 0, code := some k2c0 }
def k2c1 : Code := { maxStack := 2, maxLocals := 1, code := prog_24_method_3_code, exceptionTable := #[], attributes := #[] }
def k2m1 : Method := { name := "firstTime", desc := "()J", sig := { parameters := [], returnType := some .long }, accessFlags := 0, code := some k2c1 }
def k2c2 : Code := { maxStack := 2, maxLocals := 1, code := prog_24_method_4_code, exceptionTable := #[], attributes := #[] }
def k2m2 : Method := { name := "firstClient", desc := "()I", sig := { parameters := [], returnType := some .int }, accessFlags := 0, code := some k2c2 }
def k2c3 : Code := { maxStack := 4, maxLocals := 1, code := prog_24_method_5_code, exceptionTable := #[], attributes := #[] }
def k2m3 : Method := { name := "removeFirst", desc := "()V", sig := { parameters := [], returnType := none }, accessFlags := 0, code := some k2c3 }
def k2c4 : Code := { maxStack := 4, maxLocals := 3, code := prog_24_method_6_code, exceptionTable := #[], attributes := #[] }
def k2m4 : Method := { name := "delayFirst", desc := "(J)V", sig := { parameters := [.long], returnType := none }, accessFlags := 0, code := some k2c4 }
def k2c5 : Code := { maxStack := 7, maxLocals := 6, code := prog_24_method_7_code, exceptionTable := #[], attributes := #[] }
def k2m5 : Method := { name := "siftDown", desc := "()V", sig := { parameters := [], returnType := none }, accessFlags := 2, code := some k2c5 }
def k2c6 : Code := { maxStack := 4, maxLocals := 6, code := prog_24_method_8_code, exceptionTable := #[], attributes := #[] }
def k2m6 : Method := { name := "isBefore", desc := "(JIJI)Z", sig := { parameters := [.long, .int, .long, .int], returnType := some .boolean }, accessFlags := 10, code := some k2c6 }
/-- com/example/porter_drive/porterdrive/RequestQueue -/
def k2 : Class := { plain "com/example/porter_drive/porterdrive/RequestQueue" (some 0) with
  accessFlags := 32
  interfaces := #[]
  cf := some (fileOf pool2 8 #[] #[{ accessFlags := 0, nameIndex := 5, descriptorIndex := 28, attributes := #[] }, { accessFlags := 0, nameIndex := 34, descriptorIndex := 35, attributes := #[] }, { accessFlags := 0, nameIndex := 36, descriptorIndex := 37, attributes := #[] }, { accessFlags := 0, nameIndex := 38, descriptorIndex := 6, attributes := #[] }, { accessFlags := 0, nameIndex := 39, descriptorIndex := 40, attributes := #[] }, { accessFlags := 2, nameIndex := 23, descriptorIndex := 6, attributes := #[] }, { accessFlags := 10, nameIndex := 26, descriptorIndex := 27, attributes := #[] }] 32 2 #[] #[{ accessFlags := 18, nameIndex := 11, descriptorIndex := 12, attributes := #[] }, { accessFlags := 18, nameIndex := 15, descriptorIndex := 16, attributes := #[] }, { accessFlags := 2, nameIndex := 19, descriptorIndex := 20, attributes := #[] }])
  fields := #[{ name := "times", type := (.array .long), accessFlags := 18, slot := 0, constantValue := 0 }, { name := "clients", type := (.array .int), accessFlags := 18, slot := 1, constantValue := 0 }, { name := "size", type := .int, accessFlags := 2, slot := 2, constantValue := 0 }]
  methods := #[k2m0, k2m1, k2m2, k2m3, k2m4, k2m5, k2m6]
  instanceTypes := #[(.array .long), (.array .int), .int]
  staticTypes := #[]
  resolved := Array.replicate 43 none
  statics := none }

def pool3 : Array CpInfo := pool [(1, .class_ 2), (0, u "java/lang/Math"), (1, .class_ 6), (1, u "java/lang/Object"), (0, u "<init>"), (0, u "()V"), (89, .class_ 100), (1, u "java/lang/Math$RandomNumberGeneratorHolder"), (20, u "(JJ)J"), (50, u "negativeZeroFloatBits"), (0, u "J"), (2, u "negativeZeroDoubleBits"), (21, u "max"), (46, u "$assertionsDisabled"), (0, u "Z"), (91, u "twoToTheDoubleScaleDown"), (0, u "D"), (4, u "twoToTheDoubleScaleUp"), (9, u "E"), (3, u "PI"), (2, u "TAU"), (2, u "DEGREES_TO_RADIANS"), (0, u "RADIANS_TO_DEGREES")] 94

def k3m0 : Method := { name := "<init>", desc := "()V", sig := { parameters := [], returnType := none }, accessFlags := 2, code := none }
def k3c1 : Code := { maxStack := 4, maxLocals := 4, code := jdk_29_method_66_code, exceptionTable := #[], attributes := #[] }
def k3m1 : Method := { name := "max", desc := "(JJ)J", sig := { parameters := [.long, .long], returnType := some .long }, accessFlags := 9, code := some k3c1 }
/-- java/lang/Math -/
def k3 : Class := { plain "java/lang/Math" (some 0) with
  accessFlags := 49
  interfaces := #[]
  cf := some (fileOf pool3 1 #[.nestMembers #[98]] #[{ accessFlags := 2, nameIndex := 7, descriptorIndex := 8, attributes := #[] }, { accessFlags := 9, nameIndex := 198, descriptorIndex := 121, attributes := #[] }] 49 4 #[] #[{ accessFlags := 25, nameIndex := 354, descriptorIndex := 339, attributes := #[] }, { accessFlags := 25, nameIndex := 358, descriptorIndex := 339, attributes := #[] }, { accessFlags := 25, nameIndex := 361, descriptorIndex := 339, attributes := #[] }, { accessFlags := 26, nameIndex := 364, descriptorIndex := 339, attributes := #[] }, { accessFlags := 26, nameIndex := 365, descriptorIndex := 339, attributes := #[] }, { accessFlags := 26, nameIndex := 172, descriptorIndex := 173, attributes := #[] }, { accessFlags := 26, nameIndex := 176, descriptorIndex := 173, attributes := #[] }, { accessFlags := 8, nameIndex := 344, descriptorIndex := 339, attributes := #[] }, { accessFlags := 8, nameIndex := 338, descriptorIndex := 339, attributes := #[] }, { accessFlags := 4120, nameIndex := 245, descriptorIndex := 246, attributes := #[] }])
  fields := #[{ name := "E", type := .double, accessFlags := 25, slot := 0, constantValue := 0 }, { name := "PI", type := .double, accessFlags := 25, slot := 1, constantValue := 0 }, { name := "TAU", type := .double, accessFlags := 25, slot := 2, constantValue := 0 }, { name := "DEGREES_TO_RADIANS", type := .double, accessFlags := 26, slot := 3, constantValue := 0 }, { name := "RADIANS_TO_DEGREES", type := .double, accessFlags := 26, slot := 4, constantValue := 0 }, { name := "negativeZeroFloatBits", type := .long, accessFlags := 26, slot := 5, constantValue := 0 }, { name := "negativeZeroDoubleBits", type := .long, accessFlags := 26, slot := 6, constantValue := 0 }, { name := "twoToTheDoubleScaleUp", type := .double, accessFlags := 8, slot := 7, constantValue := 0 }, { name := "twoToTheDoubleScaleDown", type := .double, accessFlags := 8, slot := 8, constantValue := 0 }, { name := "$assertionsDisabled", type := .boolean, accessFlags := 4120, slot := 9, constantValue := 0 }]
  methods := #[k3m0, k3m1]
  instanceTypes := #[]
  staticTypes := #[.double, .double, .double, .double, .double, .long, .long, .double, .double, .boolean]
  resolved := Array.replicate 460 none
  statics := none }

def pool4 : Array CpInfo := pool [(1, u "java/lang/Cloneable"), (0, .class_ 1), (0, u "java/lang/Object"), (0, .class_ 3)] 3

/-- java/lang/Cloneable -/
def k4 : Class := { plain "java/lang/Cloneable" (some 0) with
  accessFlags := 1537
  interfaces := #[]
  cf := some (fileOf pool4 2 #[] #[] 1537 4 #[] #[])
  fields := #[]
  methods := #[]
  instanceTypes := #[]
  staticTypes := #[]
  resolved := Array.replicate 8 none
  statics := none }

def pool5 : Array CpInfo := pool [(1, u "java/io/Serializable"), (0, .class_ 1), (0, u "java/lang/Object"), (0, .class_ 3)] 3

/-- java/io/Serializable -/
def k5 : Class := { plain "java/io/Serializable" (some 0) with
  accessFlags := 1537
  interfaces := #[]
  cf := some (fileOf pool5 2 #[] #[] 1537 4 #[] #[])
  fields := #[]
  methods := #[]
  instanceTypes := #[]
  staticTypes := #[]
  resolved := Array.replicate 8 none
  statics := none }

/-- the primitive boolean -/
def k6 : Class := { plain "boolean" none with kind := .primitive 'Z', accessFlags := 0x411 }
/-- [Z -/
def k7 : Class := { plain "[Z" (some 0) with kind := .array 6 .boolean, interfaces := #[4, 5], accessFlags := 1041 }

/-- the primitive byte -/
def k8 : Class := { plain "byte" none with kind := .primitive 'B', accessFlags := 0x411 }
/-- [B -/
def k9 : Class := { plain "[B" (some 0) with kind := .array 8 .byte, interfaces := #[4, 5], accessFlags := 1041 }

/-- the primitive int -/
def k10 : Class := { plain "int" none with kind := .primitive 'I', accessFlags := 0x411 }
/-- [I -/
def k11 : Class := { plain "[I" (some 0) with kind := .array 10 .int, interfaces := #[4, 5], accessFlags := 1041 }

/-- the primitive long -/
def k12 : Class := { plain "long" none with kind := .primitive 'J', accessFlags := 0x411 }
/-- [J -/
def k13 : Class := { plain "[J" (some 0) with kind := .array 12 .long, interfaces := #[4, 5], accessFlags := 1041 }

def heap : Heap := #[]
def classes : Array Class := #[k0, k1, k2, k3, k4, k5, k6, k7, k8, k9, k10, k11, k12, k13]
def interned : List (Array UInt16 × Addr) := []
def slotsUsed : Nat := 0
def theMethod : MethodId := ⟨1, 1⟩
def args0 : Array Value := #[.long 5, .long 7, .long 3, .long 9, .int 2]
def aboutOver (below : List Frame) : State where
  vm := { classes := classes, interned := interned.toArray }
  heap := heap
  slotsUsed := slotsUsed
  threads := #[{ frames := .invoking theMethod args0 :: below }]
def below0 : List Frame := [.native { method := ⟨0, 0⟩, args := #[] }]
def about1 : State := aboutOver below0
def p0 : Program := .bare "" "" ""
def e0 : Env := launch0.env 0 0 0
theorem w_frames : about1.frames = Frame.invoking theMethod args0 :: below0 := rfl
set_option maxRecDepth 65536 in
theorem w_args : argsFit about1.vm theMethod args0 = true := by decide +kernel
set_option maxRecDepth 65536 in
theorem w_heap : heapFits about1 = true := by decide +kernel
set_option maxRecDepth 65536 in
theorem w_runnable : about1.curStatus? = some .runnable := by decide +kernel
set_option maxRecDepth 65536 in
theorem w_alone : about1.alone = true := by decide +kernel
set_option maxRecDepth 65536 in
theorem w_named : about1.methodNamed? x = some theMethod := by decide +kernel
set_option maxRecDepth 65536 in
theorem w_hears : about1.hears theMethod below0 = true := by decide +kernel
set_option maxRecDepth 65536 in
theorem w_ripe : about1.ripe theMethod args0 below0 = true := by decide +kernel
theorem w_running : about1.status = .running := rfl
set_option maxRecDepth 65536 in
theorem w_room : about1.hasRoom e0.platform room_1 = true :=
  launch0.hasRoom_least _ room_1 (by decide +kernel) (by decide +kernel) (by decide +kernel) (by decide +kernel) (by decide +kernel) (by decide +kernel)
theorem allAtoms_all (ts : List Jvm.Cond) (a : Array Jvm.Value) (st : Jvm.State) : (allAtoms ts).before a st = ts.all (fun c => c.before a st) := by
  induction ts with
  | nil => rfl
  | cons c t ih =>
    show (Jvm.Cond.and c (allAtoms t)).before a st = _
    rw [Jvm.Cond.before_and, ih, List.all_cons]
def words1 : List Jvm.Cond := Jvm.Cond.code x code maxLocals ret :: tables_1
/-- a 'code' word, met by the world's own term for the bytes: nothing is compared byte by byte -/
theorem code_word {y : MethodName} {bytes : ByteArray} {mx : Nat} {rt : Option FieldType} {a : Array Value} {s : State} {m : MethodId} {meth : Method} {c : Code} (h1 : s.methodNamed? y = some m) (h2 : s.vm.method? m = some meth) (h3 : meth.code = some c) (h4 : c.code = bytes)
    (h5 : (c.maxLocals == mx && c.exceptionTable.isEmpty && decide (c.maxStack ≤ mostOperands) && decide (meth.sig.returnType = rt) && !meth.locks && decide (parseMethodDescriptor y.desc = some meth.sig)) = true) : (Jvm.Cond.code y bytes mx rt).before a s = true := by
  simp only [Bool.and_eq_true, beq_iff_eq, Bool.not_eq_true', decide_eq_true_eq] at h5
  obtain ⟨⟨⟨⟨⟨g1, g2⟩, g3⟩, g4⟩, g5⟩, g6⟩ := h5
  simp [Cond.before, Cond.holds, Cond.value, h1, h2, h3, h4, g1, g2, g3, g4, g5, g6]
def isCode : Jvm.Cond → Bool
  | .code _ _ _ _ => true
  | _ => false
theorem all_split {L : List Jvm.Cond} {P : Jvm.Cond → Bool} (h1 : L.all (fun c => isCode c || P c) = true) (h2 : ∀ c ∈ L.filter isCode, P c = true) : L.all P = true := by
  refine List.all_eq_true.mpr fun c hc => ?_
  have h := List.all_eq_true.mp h1 c hc
  rcases Bool.eq_false_or_eq_true (isCode c) with hi | hi
  · exact h2 c (List.mem_filter.mpr ⟨hc, hi⟩)
  · simpa [hi] using h
set_option maxRecDepth 65536 in
theorem w_c0 : (Jvm.Cond.code x code maxLocals ret).before args0 about1 = true := code_word (m := ⟨1, 1⟩) (meth := k1m1) (c := k1c1) (by decide +kernel) rfl rfl rfl (by decide +kernel)
set_option maxRecDepth 65536 in
theorem w_c1 : (Jvm.Cond.code ({ cls := "com/example/porter_drive/porterdrive/RequestQueue", name := "<init>", desc := "(I)V" } : Jvm.MethodName) prog_24_method_1_code (3 : Nat) (Option.none : Option Jvm.ClassFile.FieldType)).before args0 about1 = true := code_word (m := ⟨2, 0⟩) (meth := k2m0) (c := k2c0) (by decide +kernel) rfl rfl rfl (by decide +kernel)
set_option maxRecDepth 65536 in
theorem w_c2 : (Jvm.Cond.code ({ cls := "java/lang/Object", name := "<init>", desc := "()V" } : Jvm.MethodName) object_method_1_code (1 : Nat) (Option.none : Option Jvm.ClassFile.FieldType)).before args0 about1 = true := code_word (m := ⟨0, 0⟩) (meth := k0m0) (c := k0c0) (by decide +kernel) rfl rfl rfl (by decide +kernel)
set_option maxRecDepth 65536 in
theorem w_c3 : (Jvm.Cond.code ({ cls := "com/example/porter_drive/porterdrive/RequestQueueRemoveFirstPinLaw", name := "first", desc := "([J[Z)I" } : Jvm.MethodName) method_3_code (3 : Nat) (Option.some Jvm.ClassFile.FieldType.int)).before args0 about1 = true := code_word (m := ⟨1, 2⟩) (meth := k1m2) (c := k1c2) (by decide +kernel) rfl rfl rfl (by decide +kernel)
set_option maxRecDepth 65536 in
theorem w_c4 : (Jvm.Cond.code ({ cls := "com/example/porter_drive/porterdrive/RequestQueueRemoveFirstPinLaw", name := "pick", desc := "([J[ZII)I" } : Jvm.MethodName) method_4_code (4 : Nat) (Option.some Jvm.ClassFile.FieldType.int)).before args0 about1 = true := code_word (m := ⟨1, 3⟩) (meth := k1m3) (c := k1c3) (by decide +kernel) rfl rfl rfl (by decide +kernel)
set_option maxRecDepth 65536 in
theorem w_c5 : (Jvm.Cond.code ({ cls := "java/lang/Math", name := "max", desc := "(JJ)J" } : Jvm.MethodName) jdk_29_method_66_code (4 : Nat) (Option.some Jvm.ClassFile.FieldType.long)).before args0 about1 = true := code_word (m := ⟨3, 1⟩) (meth := k3m1) (c := k3c1) (by decide +kernel) rfl rfl rfl (by decide +kernel)
set_option maxRecDepth 65536 in
theorem w_c6 : (Jvm.Cond.code ({ cls := "com/example/porter_drive/porterdrive/RequestQueue", name := "delayFirst", desc := "(J)V" } : Jvm.MethodName) prog_24_method_6_code (3 : Nat) (Option.none : Option Jvm.ClassFile.FieldType)).before args0 about1 = true := code_word (m := ⟨2, 4⟩) (meth := k2m4) (c := k2c4) (by decide +kernel) rfl rfl rfl (by decide +kernel)
set_option maxRecDepth 65536 in
theorem w_c7 : (Jvm.Cond.code ({ cls := "com/example/porter_drive/porterdrive/RequestQueue", name := "siftDown", desc := "()V" } : Jvm.MethodName) prog_24_method_7_code (6 : Nat) (Option.none : Option Jvm.ClassFile.FieldType)).before args0 about1 = true := code_word (m := ⟨2, 5⟩) (meth := k2m5) (c := k2c5) (by decide +kernel) rfl rfl rfl (by decide +kernel)
set_option maxRecDepth 65536 in
theorem w_c8 : (Jvm.Cond.code ({ cls := "com/example/porter_drive/porterdrive/RequestQueue", name := "isBefore", desc := "(JIJI)Z" } : Jvm.MethodName) prog_24_method_8_code (6 : Nat) (Option.some Jvm.ClassFile.FieldType.boolean)).before args0 about1 = true := code_word (m := ⟨2, 6⟩) (meth := k2m6) (c := k2c6) (by decide +kernel) rfl rfl rfl (by decide +kernel)
set_option maxRecDepth 65536 in
theorem w_c9 : (Jvm.Cond.code ({ cls := "com/example/porter_drive/porterdrive/RequestQueue", name := "removeFirst", desc := "()V" } : Jvm.MethodName) prog_24_method_5_code (1 : Nat) (Option.none : Option Jvm.ClassFile.FieldType)).before args0 about1 = true := code_word (m := ⟨2, 3⟩) (meth := k2m3) (c := k2c3) (by decide +kernel) rfl rfl rfl (by decide +kernel)
set_option maxRecDepth 65536 in
theorem w_c10 : (Jvm.Cond.code ({ cls := "com/example/porter_drive/porterdrive/RequestQueue", name := "firstClient", desc := "()I" } : Jvm.MethodName) prog_24_method_4_code (1 : Nat) (Option.some Jvm.ClassFile.FieldType.int)).before args0 about1 = true := code_word (m := ⟨2, 2⟩) (meth := k2m2) (c := k2c2) (by decide +kernel) rfl rfl rfl (by decide +kernel)
set_option maxRecDepth 65536 in
theorem w_c11 : (Jvm.Cond.code ({ cls := "com/example/porter_drive/porterdrive/RequestQueue", name := "firstTime", desc := "()J" } : Jvm.MethodName) prog_24_method_3_code (1 : Nat) (Option.some Jvm.ClassFile.FieldType.long)).before args0 about1 = true := code_word (m := ⟨2, 1⟩) (meth := k2m1) (c := k2c1) (by decide +kernel) rfl rfl rfl (by decide +kernel)
def codes1 : List Jvm.Cond := [Jvm.Cond.code x code maxLocals ret, Jvm.Cond.code ({ cls := "com/example/porter_drive/porterdrive/RequestQueue", name := "<init>", desc := "(I)V" } : Jvm.MethodName) prog_24_method_1_code (3 : Nat) (Option.none : Option Jvm.ClassFile.FieldType), Jvm.Cond.code ({ cls := "java/lang/Object", name := "<init>", desc := "()V" } : Jvm.MethodName) object_method_1_code (1 : Nat) (Option.none : Option Jvm.ClassFile.FieldType), Jvm.Cond.code ({ cls := "com/example/porter_drive/porterdrive/RequestQueueRemoveFirstPinLaw", name := "first", desc := "([J[Z)I" } : Jvm.MethodName) method_3_code (3 : Nat) (Option.some Jvm.ClassFile.FieldType.int), Jvm.Cond.code ({ cls := "com/example/porter_drive/porterdrive/RequestQueueRemoveFirstPinLaw", name := "pick", desc := "([J[ZII)I" } : Jvm.MethodName) method_4_code (4 : Nat) (Option.some Jvm.ClassFile.FieldType.int), Jvm.Cond.code ({ cls := "java/lang/Math", name := "max", desc := "(JJ)J" } : Jvm.MethodName) jdk_29_method_66_code (4 : Nat) (Option.some Jvm.ClassFile.FieldType.long), Jvm.Cond.code ({ cls := "com/example/porter_drive/porterdrive/RequestQueue", name := "delayFirst", desc := "(J)V" } : Jvm.MethodName) prog_24_method_6_code (3 : Nat) (Option.none : Option Jvm.ClassFile.FieldType), Jvm.Cond.code ({ cls := "com/example/porter_drive/porterdrive/RequestQueue", name := "siftDown", desc := "()V" } : Jvm.MethodName) prog_24_method_7_code (6 : Nat) (Option.none : Option Jvm.ClassFile.FieldType), Jvm.Cond.code ({ cls := "com/example/porter_drive/porterdrive/RequestQueue", name := "isBefore", desc := "(JIJI)Z" } : Jvm.MethodName) prog_24_method_8_code (6 : Nat) (Option.some Jvm.ClassFile.FieldType.boolean), Jvm.Cond.code ({ cls := "com/example/porter_drive/porterdrive/RequestQueue", name := "removeFirst", desc := "()V" } : Jvm.MethodName) prog_24_method_5_code (1 : Nat) (Option.none : Option Jvm.ClassFile.FieldType), Jvm.Cond.code ({ cls := "com/example/porter_drive/porterdrive/RequestQueue", name := "firstClient", desc := "()I" } : Jvm.MethodName) prog_24_method_4_code (1 : Nat) (Option.some Jvm.ClassFile.FieldType.int), Jvm.Cond.code ({ cls := "com/example/porter_drive/porterdrive/RequestQueue", name := "firstTime", desc := "()J" } : Jvm.MethodName) prog_24_method_3_code (1 : Nat) (Option.some Jvm.ClassFile.FieldType.long)]
set_option maxRecDepth 65536 in
theorem codes_eq : words1.filter isCode = codes1 := rfl
theorem w_codes : ∀ c ∈ words1.filter isCode, c.before args0 about1 = true := by
  rw [codes_eq]
  intro c hc
  simp only [codes1, List.mem_cons, List.not_mem_nil, or_false] at hc
  rcases hc with rfl | rfl | rfl | rfl | rfl | rfl | rfl | rfl | rfl | rfl | rfl | rfl
  · exact w_c0
  · exact w_c1
  · exact w_c2
  · exact w_c3
  · exact w_c4
  · exact w_c5
  · exact w_c6
  · exact w_c7
  · exact w_c8
  · exact w_c9
  · exact w_c10
  · exact w_c11
set_option maxRecDepth 65536 in
theorem w_t1 : (words1.take 24).all (fun c => isCode c || c.before args0 about1) = true := by decide +kernel
set_option maxRecDepth 65536 in
theorem w_t2 : ((words1.drop 24).take 24).all (fun c => isCode c || c.before args0 about1) = true := by decide +kernel
set_option maxRecDepth 65536 in
theorem w_t3 : ((words1.drop 24).drop 24).all (fun c => isCode c || c.before args0 about1) = true := by decide +kernel
theorem w_tables : (allAtoms (Jvm.Cond.code x code maxLocals ret :: tables_1)).before args0 about1 = true := by
  rw [allAtoms_all]
  show words1.all (fun c => c.before args0 about1) = true
  refine all_split ?_ w_codes
  rw [← List.take_append_drop 24 words1, List.all_append, w_t1, ← List.take_append_drop 24 (words1.drop 24), List.all_append, w_t2, w_t3]
  rfl
set_option maxRecDepth 65536 in
theorem w_case : (Jvm.Cond.and given_1 narrow_1).before args0 about1 = true := by decide +kernel
theorem w_applies : (headSpec (Jvm.Cond.code x code maxLocals ret :: tables_1) room_1).applies x e0.platform about1 = true :=
  (Spec.applies_iff w_frames).mpr ⟨w_running, w_runnable, w_alone, w_named, w_hears, w_ripe, w_room, w_tables⟩
theorem atStart : AtStart classFile x code maxLocals ret World_1 tables_1 room_1 Calls_1 rest_1 Pre_1 launch0 p0 e0 about1 theMethod args0 below0 :=
  ⟨lists_1, trivial, launch0.admits_env _ _ _, launch0.least_env, fairChoices_fair.cas, fairChoices_fair.clock, w_frames, w_args, w_heap, w_applies, trivial, trivial, w_case⟩
end start1
theorem witness_1 : WitnessClaimed_1 := ⟨start1.p0, start1.e0, start1.about1, start1.theMethod, start1.args0, start1.below0, start1.atStart⟩
end Jvm.Pilot.@@N@@
