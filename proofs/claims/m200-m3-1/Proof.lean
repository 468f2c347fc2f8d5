import JvmDerived
import JvmDerived.Pilot.@@N@@Statement
import JvmDerived.Pilot.@@N@@Code
set_option linter.unusedVariables false
set_option linter.unusedSimpArgs false
namespace Jvm.RoadKit
open Sem ClassFile Op Lib Jvm.Stand Jvm.Free Jvm.LawKit
section Own
variable {p : Program} {l : Launch} {e : Env} {R : Room} {s : State} {m : MethodId} {args : Array Value} {below : List Frame} {meth : Method} {c : Code} {T : State} {locs : List Loc} {cells slots : Nat} {k n : Nat} {Q : Option Value → Heap → List Loc → Prop} {W W' : State} {Z : State} {a0 : Array Value} {h : Heap}
/-- the run from W comes back, with what Q says -/
def OwnOut (p : Program) (e : Env) (s : State) (below : List Frame) (k n : Nat) (Q : Option Value → Heap → List Loc → Prop) (W : State) : Prop :=
  ∃ s₂ o, Steps p.tables e below W s₂ ∧ s₂.status = .running ∧ Ended s₂ below o ∧ ∃ v L, o = .returned v ∧ Q v s₂.heap L ∧ FrameEnd s o s₂ L k n
theorem OwnOut.go (h : ∀ t, Steps p.tables e below W' t → Steps p.tables e below W t) (H : OwnOut p e s below k n Q W') : OwnOut p e s below k n Q W := by
  obtain ⟨s₂, o, h1, h2⟩ := H
  exact ⟨s₂, o, h _ h1, h2⟩
theorem OwnOut.at {g g' : JFrame} (q : g = g') (H : OwnOut p e s below k n Q (T.setTop g')) : OwnOut p e s below k n Q (T.setTop g) := q ▸ H
theorem OwnOut.imp {Q' : Option Value → Heap → List Loc → Prop} (q : ∀ v h L, Q' v h L → Q v h L) (H : OwnOut p e s below k n Q' W) : OwnOut p e s below k n Q W := by
  obtain ⟨s₂, o, h1, h2, h3, v, L, h4, h5, h6⟩ := H
  exact ⟨s₂, o, h1, h2, h3, v, L, h4, q _ _ _ h5, h6⟩
theorem outI (X : Stand p l e R s m args below meth c T locs cells slots) (hx : p.tables.exec = Jvm.exec) {pc : Nat} {Ls : Array Slot} {z : Int32} (hret : meth.sig.returnType = some .int) (hd : decode c.code pc = .ok (.ireturn, 1)) (hlk : meth.locks = false) (hk : cells ≤ k) (hn : slots ≤ n) (q : Q (some (.int z)) T.heap locs) :
    OwnOut p e s below k n Q (T.setTop (mkF m pc Ls [.int z])) := by
  obtain ⟨fs, hr, hrun, hended, hW, hsame⟩ := X.leave (v := some (.int z)) (fun h => by rw [hret] at h; cases h) hlk
  exact ⟨_, _, X.ireturnOut hx hret rfl (Or.inl rfl) hd hr, hrun, hended, _, _, rfl, q, ⟨_, rfl⟩, hW, hsame.mono hk hn⟩
theorem outZ (X : Stand p l e R s m args below meth c T locs cells slots) (hx : p.tables.exec = Jvm.exec) {pc : Nat} {Ls : Array Slot} {z : Int32} (hret : meth.sig.returnType = some .boolean) (hd : decode c.code pc = .ok (.ireturn, 1)) (hlk : meth.locks = false) (hk : cells ≤ k) (hn : slots ≤ n) (q : Q (some (.int (z &&& 1))) T.heap locs) :
    OwnOut p e s below k n Q (T.setTop (mkF m pc Ls [.int z])) := by
  obtain ⟨fs, hr, hrun, hended, hW, hsame⟩ := X.leave (v := some (.int (z &&& 1))) (fun h => by rw [hret] at h; cases h) hlk
  exact ⟨_, _, retN X hx (t := .boolean) hret (by simp) hd hr, hrun, hended, _, _, rfl, q, ⟨_, rfl⟩, hW, hsame.mono hk hn⟩
theorem outJ (X : Stand p l e R s m args below meth c T locs cells slots) (hx : p.tables.exec = Jvm.exec) {pc : Nat} {Ls : Array Slot} {z : Int64} (hret : meth.sig.returnType = some .long) (hd : decode c.code pc = .ok (.lreturn, 1)) (hlk : meth.locks = false) (hk : cells ≤ k) (hn : slots ≤ n) (q : Q (some (.long z)) T.heap locs) :
    OwnOut p e s below k n Q (T.setTop (mkF m pc Ls [.long z])) := by
  obtain ⟨fs, hr, hrun, hended, hW, hsame⟩ := X.leave (v := some (.long z)) (fun h => by rw [hret] at h; cases h) hlk
  exact ⟨_, _, X.lreturnOut hx hret hd hr, hrun, hended, _, _, rfl, q, ⟨_, rfl⟩, hW, hsame.mono hk hn⟩
theorem outA (X : Stand p l e R s m args below meth c T locs cells slots) (hx : p.tables.exec = Jvm.exec) {pc : Nat} {Ls : Array Slot} {w : Value} {t : FieldType} (hw : w.isRef = true) (hret : meth.sig.returnType = some t) (ht : t.isReference = true) (hd : decode c.code pc = .ok (.areturn, 1)) (hlk : meth.locks = false) (hk : cells ≤ k) (hn : slots ≤ n) (q : Q (some w) T.heap locs) :
    OwnOut p e s below k n Q (T.setTop (mkF m pc Ls [w])) := by
  obtain ⟨fs, hr, hrun, hended, hW, hsame⟩ := X.leave (v := some w) (fun h => by rw [hret] at h; cases h) hlk
  exact ⟨_, _, X.areturnOut hx hw hret ht hd hr, hrun, hended, _, _, rfl, q, ⟨_, rfl⟩, hW, hsame.mono hk hn⟩
theorem outV (X : Stand p l e R s m args below meth c T locs cells slots) (hx : p.tables.exec = Jvm.exec) {pc : Nat} {Ls : Array Slot} (hret : meth.sig.returnType = none) (hd : decode c.code pc = .ok (.return_, 1)) (hlk : meth.locks = false) (hk : cells ≤ k) (hn : slots ≤ n) (q : Q none T.heap locs) :
    OwnOut p e s below k n Q (T.setTop (mkF m pc Ls [])) := by
  obtain ⟨fs, hr, hrun, hended, hW, hsame⟩ := X.leave (v := none) (fun _ => rfl) hlk
  exact ⟨_, _, X.returnOut hx hret hd hr, hrun, hended, _, _, rfl, q, ⟨_, rfl⟩, hW, hsame.mono hk hn⟩
theorem lremM {g : JFrame} {target : State} (X : Stand p l e R s m args below meth c T locs cells slots) (hx : p.tables.exec = Jvm.exec) (hg : g.method = m) {x y : Int64} {rest : List Value} (hd : decode c.code g.pc = .ok (.lrem, 1)) (hs : g.stack = .long y :: .long x :: rest) (hy : y ≠ 0)
    (hr : Steps p.tables e below (T.setTop { g with pc := g.pc + 1, stack := .long (x % y) :: rest }) target) : Steps p.tables e below (T.setTop g) target :=
  XS.lrem X.here hx hg hd hs hy (by rw [lrem_mod]; exact hr)
/-- a body that touches nothing: what it returns, the heap as it was, nothing written -/
def QP (h0 : Heap) (w : Option Value) (v : Option Value) (h : Heap) (L : List Loc) : Prop := v = w ∧ h = h0 ∧ L = []
/-- a static call of such a body -/
theorem callP (X : Stand p l e R s m args below meth c T locs cells slots) (hx : p.tables.exec = Jvm.exec) (hZ : Z.Warmed39 s.vm) {own : String} {index : Nat} {y : MethodName} {bytes : ByteArray} {maxL : Nat} {ret : Option FieldType} {rm : Room} {as' : Array Value} {w : Option Value}
    (hown : s.vm.findClass own = some m.cls) (w1 : (Cond.methodLink own index y).before a0 Z = true) (w2 : (Cond.static y).before a0 Z = true) (w3 : (Cond.initialized y.cls).before a0 Z = true) (w4 : (Cond.code y bytes maxL ret).before a0 Z = true) (hy : y.cls ≠ "java/lang/invoke/MethodHandle" ∧ y.cls ≠ "java/lang/invoke/VarHandle")
    (hM : MetFree l y (head1 [Cond.code y bytes maxL ret] rm) (fun a U => a = as' ∧ Z.Warmed39 U.vm ∧ U.heap = h) (fun _ _ _ _ _ => True) (fun _ U o U' => ∃ v L, o = .returned v ∧ QP h w v U'.heap L ∧ FrameEnd U o U' L rm.cells rm.slots))
    {W : Nat} (hf : rm.frames + 1 ≤ R.frames) (hl : W + (maxL + 11) + rm.locals ≤ R.locals) (z1 : rm.cells = 0) (z2 : rm.slots = 0) (hc : cells ≤ R.cells) (hs' : slots ≤ R.slots) (eT : T.heap = h)
    {g : JFrame} (hg : g.method = m) (hsize : g.locals.size = c.maxLocals) {argsL rest : List Value} (hlen : ∀ sig, parseMethodDescriptor y.desc = some sig → argsL.length = sig.parameters.length)
    (hstack : g.stack = argsL.reverse ++ rest) (hW : 2 * g.monitorRoom + (rest.map fun v => v.category).sum ≤ W) (hdg : decode c.code g.pc = .ok (.invokestatic index, 3)) (has : argsL.toArray = as' := by rfl) :
    ∃ T', Stand p l e R s m args below meth c T' locs cells slots ∧ T'.heap = h ∧ ∀ target, Steps p.tables e below (T'.setTop { g with pc := g.pc + 3, stack := w.toList ++ rest }) target → Steps p.tables e below (T.setTop g) target := by
  obtain ⟨v, vm₁, ⟨T', L', k', n'⟩, -, X', ⟨Lc, ⟨rfl, q2, rfl⟩, l1, y1, z3⟩, st⟩ := Jvm.LawKit.callS X hx (y := y) hown (mvT hZ w1) (mvT hZ w2) (mvT hZ w3) (mvT hZ w4) hy (backOf (W := W) hM hZ w4 w3 hf hl) hg hsize hlen hstack hW hdg (fun _ _ => ⟨has, eT, by rw [z1]; exact hc, by rw [z2]; exact hs'⟩)
  dsimp only [Pt.U, Pt.locs, Pt.cells, Pt.slots] at X' l1 y1 z3 st q2
  rw [z1] at y1; rw [z2] at z3
  rw [List.append_nil] at l1
  subst l1 y1 z3
  exact ⟨T', X', q2, st⟩
end Own
end Jvm.RoadKit
namespace Jvm.RoadKit
open Sem ClassFile Op Lib Jvm.Stand Jvm.Free Jvm.LawKit
section Own2
variable {p : Program} {l : Launch} {e : Env} {R : Room} {s : State} {m : MethodId} {args : Array Value} {below : List Frame} {meth : Method} {c : Code} {T : State} {locs : List Loc} {cells slots : Nat} {Z : State} {a0 : Array Value} {h h' : Heap} {a b : Addr} {ty : FieldType} {vs : List Value} {sl : Nat} {v : Value} {ws : List Addr}
/-- an array, by the list of what it holds -/
def Ar (Z : State) (h : Heap) (a : Addr) (ty : FieldType) (vs : List Value) : Prop := ∃ c : Cell, Arr Z h a c ty ∧ c.slots.toList = vs ∧ vs.length < 2 ^ 31
theorem Ar.lt (A : Ar Z h a ty vs) : a < h.size := by obtain ⟨c, q, -⟩ := A; exact q.lt
theorem Ar.ext (A : Ar Z h a ty vs) (E : Ext h h') : Ar Z h' a ty vs := by obtain ⟨c, q, r⟩ := A; exact ⟨c, q.ext E, r⟩
theorem Ar.other (A : Ar Z h b ty vs) (W : Wr h h' a sl v) (q : b ≠ a) : Ar Z h' b ty vs := by obtain ⟨c, r, t⟩ := A; exact ⟨c, r.other W q, t⟩
theorem Ar.keep (A : Ar Z h a ty vs) (K : Keep h h' ws) (q : a ∉ ws) : Ar Z h' a ty vs := by obtain ⟨c, r, t⟩ := A; exact ⟨c, ⟨K.2.1 a c r.1 q, r.2⟩, t⟩
theorem Ar.same (A : Ar Z h a ty vs) (W : Wr h h' a sl v) : Ar Z h' a ty (vs.set sl v) := by
  obtain ⟨c, r, t, u⟩ := A
  refine ⟨_, r.same W, ?_, by rw [List.length_set]; exact u⟩
  show (c.slots.setIfInBounds sl v).toList = _
  rw [Array.toList_setIfInBounds, t]
abbrev Ari (Z : State) (h : Heap) (a : Addr) (ty : FieldType) (xs : List Int32) : Prop := Ar Z h a ty (xs.map Value.int)
abbrev Arj (Z : State) (h : Heap) (a : Addr) (xs : List Int64) : Prop := Ar Z h a .long (xs.map Value.long)
/-- what an array's place holds -/
def ldx {α : Type} (xs : List α) (j : Int32) : Option α := if j < 0 then none else xs[j.toNatClampNeg]?
def stx {α : Type} (xs : List α) (j : Int32) (v : α) : Option (List α) := if j < 0 then none else if xs.length ≤ j.toNatClampNeg then none else some (xs.set j.toNatClampNeg v)
def nwx {α : Type} (d : α) (cap : Nat) (n : Int32) : Option (List α) := if n < 0 then none else if cap < n.toNatClampNeg then none else some (List.replicate n.toNatClampNeg d)
def lenx {α : Type} (xs : List α) : Int32 := xs.length.toInt32
theorem ldx_at {α : Type} {f : α → Value} {xs : List α} {j : Int32} {x : α} {cl : Cell} (hv : ldx xs j = some x) (q : cl.slots.toList = xs.map f) : ¬ (j < 0 ∨ cl.slots.size ≤ j.toNatClampNeg) ∧ cl.slots[j.toNatClampNeg]? = some (f x) := by
  unfold ldx at hv
  by_cases hj : j < 0
  · rw [if_pos hj] at hv; cases hv
  rw [if_neg hj] at hv
  have h1 : cl.slots[j.toNatClampNeg]? = some (f x) := by rw [← Array.getElem?_toList, q, List.getElem?_map, hv]; rfl
  refine ⟨fun z => z.elim hj fun z => ?_, h1⟩
  rw [Array.getElem?_eq_none z] at h1; cases h1
theorem stx_at {α : Type} {f : α → Value} {xs ys : List α} {j : Int32} {x : α} {cl : Cell} (hv : stx xs j x = some ys) (q : cl.slots.toList = xs.map f) : ¬ (j < 0 ∨ cl.slots.size ≤ j.toNatClampNeg) ∧ ys = xs.set j.toNatClampNeg x := by
  unfold stx at hv
  by_cases hj : j < 0
  · rw [if_pos hj] at hv; cases hv
  rw [if_neg hj] at hv
  by_cases hl : xs.length ≤ j.toNatClampNeg
  · rw [if_pos hl] at hv; cases hv
  rw [if_neg hl] at hv
  refine ⟨fun z => z.elim hj fun z => hl ?_, (Option.some.inj hv).symm⟩
  have : cl.slots.size = xs.length := by rw [← Array.length_toList, q, List.length_map]
  omega
theorem ldI (X : Stand p l e R s m args below meth c T locs cells slots) (hx : p.tables.exec = Jvm.exec) (hZ : Z.Warmed39 s.vm) (eT : T.heap = h) {xs : List Int32} (A : Ari Z h a .int xs) {j v : Int32} (hv : ldx xs j = some v) {g : JFrame} (hg : g.method = m) {rest : List Value} (hs : g.stack = .int j :: .ref a :: rest) (hd : decode c.code g.pc = .ok (.iaload, 1)) (target : State)
    (hr : Steps p.tables e below (T.setTop { g with pc := g.pc + 1, stack := .int v :: rest }) target) : Steps p.tables e below (T.setTop g) target := by
  obtain ⟨cl, A1, A2, -⟩ := A
  obtain ⟨hj, hat⟩ := ldx_at hv A2
  exact X.iaload hx (by rw [eT]; exact A1.1) (State.isArrayOf_alike hZ.alike A1.2.1) A1.2.2 hj hat hg hs hd target hr
theorem ldB (X : Stand p l e R s m args below meth c T locs cells slots) (hx : p.tables.exec = Jvm.exec) (hZ : Z.Warmed39 s.vm) (eT : T.heap = h) {xs : List Int32} (A : Ari Z h a .byte xs) {j v : Int32} (hv : ldx xs j = some v) {g : JFrame} (hg : g.method = m) {rest : List Value} (hs : g.stack = .int j :: .ref a :: rest) (hd : decode c.code g.pc = .ok (.baload, 1)) (target : State)
    (hr : Steps p.tables e below (T.setTop { g with pc := g.pc + 1, stack := .int v :: rest }) target) : Steps p.tables e below (T.setTop g) target := by
  obtain ⟨cl, A1, A2, -⟩ := A
  obtain ⟨hj, hat⟩ := ldx_at hv A2
  exact X.baloadBytes hx (by rw [eT]; exact A1.1) (State.isArrayOf_alike hZ.alike A1.2.1) A1.2.2 hj hat hg hs hd target hr
theorem ldZ (X : Stand p l e R s m args below meth c T locs cells slots) (hx : p.tables.exec = Jvm.exec) (hZ : Z.Warmed39 s.vm) (eT : T.heap = h) {xs : List Int32} (A : Ari Z h a .boolean xs) {j v : Int32} (hv : ldx xs j = some v) {g : JFrame} (hg : g.method = m) {rest : List Value} (hs : g.stack = .int j :: .ref a :: rest) (hd : decode c.code g.pc = .ok (.baload, 1)) (target : State)
    (hr : Steps p.tables e below (T.setTop { g with pc := g.pc + 1, stack := .int v :: rest }) target) : Steps p.tables e below (T.setTop g) target := by
  obtain ⟨cl, A1, A2, -⟩ := A
  obtain ⟨hj, hat⟩ := ldx_at hv A2
  exact X.baloadBooleans hx (by rw [eT]; exact A1.1) (State.isArrayOf_alike hZ.alike A1.2.1) A1.2.2 hj hat hg hs hd target hr
theorem ldJ (X : Stand p l e R s m args below meth c T locs cells slots) (hx : p.tables.exec = Jvm.exec) (hZ : Z.Warmed39 s.vm) (eT : T.heap = h) {xs : List Int64} (A : Arj Z h a xs) {j : Int32} {v : Int64} (hv : ldx xs j = some v) {g : JFrame} (hg : g.method = m) {rest : List Value} (hs : g.stack = .int j :: .ref a :: rest) (hd : decode c.code g.pc = .ok (.laload, 1)) (target : State)
    (hr : Steps p.tables e below (T.setTop { g with pc := g.pc + 1, stack := .long v :: rest }) target) : Steps p.tables e below (T.setTop g) target := by
  obtain ⟨cl, A1, A2, -⟩ := A
  obtain ⟨hj, hat⟩ := ldx_at hv A2
  exact X.laload hx (by rw [eT]; exact A1.1) (State.isArrayOf_alike hZ.alike A1.2.1) A1.2.2 hj hat hg hs hd target hr
theorem lenA (X : Stand p l e R s m args below meth c T locs cells slots) (hx : p.tables.exec = Jvm.exec) (hZ : Z.Warmed39 s.vm) (eT : T.heap = h) {α : Type} {f : α → Value} {xs : List α} (A : Ar Z h a ty (xs.map f)) {g : JFrame} (hg : g.method = m) {rest : List Value} (hs : g.stack = .ref a :: rest) (hd : decode c.code g.pc = .ok (.arraylength, 1)) (target : State)
    (hr : Steps p.tables e below (T.setTop { g with pc := g.pc + 1, stack := .int (lenx xs) :: rest }) target) : Steps p.tables e below (T.setTop g) target := by
  obtain ⟨cl, A1, A2, -⟩ := A
  have : cl.slots.size = xs.length := by rw [← Array.length_toList, A2, List.length_map]
  refine X.arraylength hx (by rw [eT]; exact A1.1) (State.isArrayOf_alike hZ.alike A1.2.1) hg hs hd target ?_
  rw [this]; exact hr
theorem saI (X : Stand p l e R s m args below meth c T locs cells slots) (hx : p.tables.exec = Jvm.exec) (hZ : Z.Warmed39 s.vm) (eT : T.heap = h) {xs ys : List Int32} (A : Ari Z h a .int xs) {j v : Int32} (hv : stx xs j v = some ys) {g : JFrame} (hg : g.method = m) {rest : List Value} (hs : g.stack = .int v :: .int j :: .ref a :: rest) (hd : decode c.code g.pc = .ok (.iastore, 1)) :
    ∃ T' h', Stand p l e R s m args below meth c T' (locs ++ [⟨a, j.toNatClampNeg⟩]) cells slots ∧ T'.heap = h' ∧ Wr h h' a j.toNatClampNeg (.int v) ∧ Ari Z h' a .int ys ∧ ∀ target, Steps p.tables e below (T'.setTop { g with pc := g.pc + 1, stack := rest }) target → Steps p.tables e below (T.setTop g) target := by
  have A' := A
  obtain ⟨cl, A1, A2, -⟩ := A
  obtain ⟨hj, rfl⟩ := stx_at hv A2
  obtain ⟨T', h', X', e', W', st⟩ := stI X hx hZ eT A1 hj hg hs hd
  exact ⟨T', h', X', e', W', by have q := A'.same W'; rw [← List.map_set] at q; exact q, st⟩
theorem saB (X : Stand p l e R s m args below meth c T locs cells slots) (hx : p.tables.exec = Jvm.exec) (hZ : Z.Warmed39 s.vm) (eT : T.heap = h) {xs ys : List Int32} (A : Ari Z h a .byte xs) {j v : Int32} (hv : stx xs j v.toInt8.toInt32 = some ys) {g : JFrame} (hg : g.method = m) {rest : List Value} (hs : g.stack = .int v :: .int j :: .ref a :: rest) (hd : decode c.code g.pc = .ok (.bastore, 1)) :
    ∃ T' h', Stand p l e R s m args below meth c T' (locs ++ [⟨a, j.toNatClampNeg⟩]) cells slots ∧ T'.heap = h' ∧ Wr h h' a j.toNatClampNeg (.int v.toInt8.toInt32) ∧ Ari Z h' a .byte ys ∧ ∀ target, Steps p.tables e below (T'.setTop { g with pc := g.pc + 1, stack := rest }) target → Steps p.tables e below (T.setTop g) target := by
  have A' := A
  obtain ⟨cl, A1, A2, -⟩ := A
  obtain ⟨hj, rfl⟩ := stx_at hv A2
  obtain ⟨T', h', X', e', W', st⟩ := stB X hx hZ eT A1 hj hg hs hd
  exact ⟨T', h', X', e', W', by have q := A'.same W'; rw [show Value.int (nar .byte v) = Value.int v.toInt8.toInt32 from rfl, ← List.map_set] at q; exact q, st⟩
theorem saZ (X : Stand p l e R s m args below meth c T locs cells slots) (hx : p.tables.exec = Jvm.exec) (hZ : Z.Warmed39 s.vm) (eT : T.heap = h) {xs ys : List Int32} (A : Ari Z h a .boolean xs) {j v : Int32} (hv : stx xs j (v &&& 1) = some ys) {g : JFrame} (hg : g.method = m) {rest : List Value} (hs : g.stack = .int v :: .int j :: .ref a :: rest) (hd : decode c.code g.pc = .ok (.bastore, 1)) :
    ∃ T' h', Stand p l e R s m args below meth c T' (locs ++ [⟨a, j.toNatClampNeg⟩]) cells slots ∧ T'.heap = h' ∧ Wr h h' a j.toNatClampNeg (.int (v &&& 1)) ∧ Ari Z h' a .boolean ys ∧ ∀ target, Steps p.tables e below (T'.setTop { g with pc := g.pc + 1, stack := rest }) target → Steps p.tables e below (T.setTop g) target := by
  have A' := A
  obtain ⟨cl, A1, A2, -⟩ := A
  obtain ⟨hj, rfl⟩ := stx_at hv A2
  obtain ⟨T', h', X', e', W', st⟩ := stZ X hx hZ eT A1 hj hg hs hd
  exact ⟨T', h', X', e', W', by have q := A'.same W'; rw [show Value.int (nar .boolean v) = Value.int (v &&& 1) from rfl, ← List.map_set] at q; exact q, st⟩
theorem saJ (X : Stand p l e R s m args below meth c T locs cells slots) (hx : p.tables.exec = Jvm.exec) (hZ : Z.Warmed39 s.vm) (eT : T.heap = h) {xs ys : List Int64} (A : Arj Z h a xs) {j : Int32} {v : Int64} (hv : stx xs j v = some ys) {g : JFrame} (hg : g.method = m) {rest : List Value} (hs : g.stack = .long v :: .int j :: .ref a :: rest) (hd : decode c.code g.pc = .ok (.lastore, 1)) :
    ∃ T' h', Stand p l e R s m args below meth c T' (locs ++ [⟨a, j.toNatClampNeg⟩]) cells slots ∧ T'.heap = h' ∧ Wr h h' a j.toNatClampNeg (.long v) ∧ Arj Z h' a ys ∧ ∀ target, Steps p.tables e below (T'.setTop { g with pc := g.pc + 1, stack := rest }) target → Steps p.tables e below (T.setTop g) target := by
  have A' := A
  obtain ⟨cl, A1, A2, -⟩ := A
  obtain ⟨hj, rfl⟩ := stx_at hv A2
  obtain ⟨T', h', X', e', W', st⟩ := stJ X hx hZ eT A1 hj hg hs hd
  exact ⟨T', h', X', e', W', by have q := A'.same W'; rw [← List.map_set] at q; exact q, st⟩
theorem nwx_at {α : Type} {d : α} {cap : Nat} {n : Int32} {xs : List α} (hv : nwx d cap n = some xs) : ¬ n < 0 ∧ n.toNatClampNeg ≤ cap ∧ xs = List.replicate n.toNatClampNeg d := by
  unfold nwx at hv
  by_cases hj : n < 0
  · rw [if_pos hj] at hv; cases hv
  rw [if_neg hj] at hv
  by_cases hl : cap < n.toNatClampNeg
  · rw [if_pos hl] at hv; cases hv
  rw [if_neg hl] at hv
  exact ⟨hj, Nat.le_of_not_lt hl, (Option.some.inj hv).symm⟩
theorem Ar.new {α : Type} {f : α → Value} {d : α} {n : Int32} {cA : ClassId} (A : Arr Z h a (newA cA ty n) ty) (q : ¬ n < 0) (hd : defaultValue ty = f d) : Ar Z h a ty ((List.replicate n.toNatClampNeg d).map f) := by
  refine ⟨_, A, ?_, ?_⟩
  · show (Array.replicate n.toNatClampNeg (defaultValue ty)).toList = _
    rw [Array.toList_replicate, List.map_replicate, hd]
  · rw [List.length_map, List.length_replicate]; exact (back32 q).2
/-- a new array of ints, bytes, booleans .. -/
theorem nwA (X : Stand p l e R s m args below meth c T locs cells slots) (hx : p.tables.exec = Jvm.exec) (hZ : Z.Warmed39 s.vm) {aty : ArrayType} (w : (Cond.arrayClass (newarray.typeOf aty)).before a0 Z = true) (eT : T.heap = h) {α : Type} {f : α → Value} {d : α} {cap : Nat} {n : Int32} {xs : List α} (hv : nwx d cap n = some xs) (hdf : defaultValue (newarray.typeOf aty) = f d)
    {g : JFrame} (hg : g.method = m) {rest : List Value} (hs : g.stack = .int n :: rest) (hd : decode c.code g.pc = .ok (.newarray aty, 2)) (hb : cap * 8 ≤ 536870912) (hc : cells + 1 ≤ R.cells) (hl : slots + cap ≤ R.slots) :
    ∃ T' h', Stand p l e R s m args below meth c T' locs (cells + 1) (slots + cap) ∧ T'.heap = h' ∧ Ext h h' ∧ Ar Z h' h.size (newarray.typeOf aty) (xs.map f) ∧ ∀ target, Steps p.tables e below (T'.setTop { g with pc := g.pc + 2, stack := .ref h.size :: rest }) target → Steps p.tables e below (T.setTop g) target := by
  obtain ⟨q1, q2, rfl⟩ := nwx_at hv
  obtain ⟨T', h', cA, X', e', E', A', st⟩ := newP X hx hZ w eT hg hd hs q1 (cap := cap) q2 hb hc hl
  exact ⟨T', h', X', e', E', Ar.new A' q1 hdf, st⟩
variable {y : MethodName} {bytes : ByteArray} {maxL : Nat} {ret : Option FieldType} {rm : Room} {as' : Array Value} {Q : Option Value → Heap → List Loc → Prop} {own : String} {index : Nat}
/-- a static call by the callee's contract -/
theorem callQ (X : Stand p l e R s m args below meth c T locs cells slots) (hx : p.tables.exec = Jvm.exec) (hZ : Z.Warmed39 s.vm)
    (hown : s.vm.findClass own = some m.cls) (w1 : (Cond.methodLink own index y).before a0 Z = true) (w2 : (Cond.static y).before a0 Z = true) (w3 : (Cond.initialized y.cls).before a0 Z = true) (w4 : (Cond.code y bytes maxL ret).before a0 Z = true) (hy : y.cls ≠ "java/lang/invoke/MethodHandle" ∧ y.cls ≠ "java/lang/invoke/VarHandle")
    (hM : MetFree l y (head1 [Cond.code y bytes maxL ret] rm) (fun a U => a = as' ∧ Z.Warmed39 U.vm ∧ U.heap = h) (fun _ _ _ _ _ => True) (fun _ U o U' => ∃ v L, o = .returned v ∧ Q v U'.heap L ∧ FrameEnd U o U' L rm.cells rm.slots))
    {W : Nat} (hf : rm.frames + 1 ≤ R.frames) (hl : W + (maxL + 11) + rm.locals ≤ R.locals) (hc : cells + rm.cells ≤ R.cells) (hs' : slots + rm.slots ≤ R.slots) (eT : T.heap = h)
    {g : JFrame} (hg : g.method = m) (hsize : g.locals.size = c.maxLocals) {argsL rest : List Value} (hlen : ∀ sig, parseMethodDescriptor y.desc = some sig → argsL.length = sig.parameters.length)
    (hstack : g.stack = argsL.reverse ++ rest) (hW : 2 * g.monitorRoom + (rest.map fun v => v.category).sum ≤ W) (hdg : decode c.code g.pc = .ok (.invokestatic index, 3)) (has : argsL.toArray = as' := by rfl) :
    ∃ v T' L', Stand p l e R s m args below meth c T' (locs ++ L') (cells + rm.cells) (slots + rm.slots) ∧ Q v T'.heap L' ∧ ∀ target, Steps p.tables e below (T'.setTop { g with pc := g.pc + 3, stack := v.toList ++ rest }) target → Steps p.tables e below (T.setTop g) target := by
  obtain ⟨v, vm₁, ⟨T', L', k', n'⟩, -, X', ⟨Lc, q2, l1, y1, z3⟩, st⟩ := Jvm.LawKit.callS X hx (y := y) hown (mvT hZ w1) (mvT hZ w2) (mvT hZ w3) (mvT hZ w4) hy (backOf (W := W) hM hZ w4 w3 hf hl) hg hsize hlen hstack hW hdg (fun _ _ => ⟨has, eT, hc, hs'⟩)
  dsimp only [Pt.U, Pt.locs, Pt.cells, Pt.slots] at X' l1 y1 z3 st q2
  subst l1 y1 z3
  exact ⟨v, T', Lc, X', q2, st⟩
/-- a constructor by its contract -/
theorem callN {ret : Option FieldType} (X : Stand p l e R s m args below meth c T locs cells slots) (hx : p.tables.exec = Jvm.exec) (hZ : Z.Warmed39 s.vm) (hret : ret = none) (hnm : y.name = "<init>")
    (hown : s.vm.findClass own = some m.cls) (w1 : (Cond.methodLink own index y).before a0 Z = true) (w2 : (Cond.instanceMethod y).before a0 Z = true) (w3 : (Cond.initialized y.cls).before a0 Z = true) (w4 : (Cond.code y bytes maxL ret).before a0 Z = true) (hy : y.cls ≠ "java/lang/invoke/MethodHandle" ∧ y.cls ≠ "java/lang/invoke/VarHandle")
    (hM : MetFree l y (head1 [Cond.code y bytes maxL ret] rm) (fun a U => a = as' ∧ Z.Warmed39 U.vm ∧ U.heap = h) (fun _ _ _ _ _ => True) (fun _ U o U' => ∃ v L, o = .returned v ∧ Q v U'.heap L ∧ FrameEnd U o U' L rm.cells rm.slots))
    {W : Nat} (hf : rm.frames + 1 ≤ R.frames) (hl : W + (maxL + 11) + rm.locals ≤ R.locals) (hc : cells + rm.cells ≤ R.cells) (hs' : slots + rm.slots ≤ R.slots) (eT : T.heap = h)
    {g : JFrame} (hg : g.method = m) (hsize : g.locals.size = c.maxLocals) {a : Addr} {argsL rest : List Value} (hlen : ∀ sig, parseMethodDescriptor y.desc = some sig → argsL.length = sig.parameters.length)
    (hstack : g.stack = argsL.reverse ++ .ref a :: rest) (hW : 2 * g.monitorRoom + (rest.map fun v => v.category).sum ≤ W) (hdg : decode c.code g.pc = .ok (.invokespecial index, 3)) (has : (Value.ref a :: argsL).toArray = as' := by rfl) :
    ∃ v T' L', Stand p l e R s m args below meth c T' (locs ++ L') (cells + rm.cells) (slots + rm.slots) ∧ Q v T'.heap L' ∧ ∀ target, Steps p.tables e below (T'.setTop { g with pc := g.pc + 3, stack := v.toList ++ rest }) target → Steps p.tables e below (T.setTop g) target := by
  subst hret
  obtain ⟨v, vm₁, ⟨T', L', k', n'⟩, -, X', ⟨Lc, q2, l1, y1, z3⟩, st⟩ := X.specialBack hx (y := y) hnm hown (mvT hZ w1) (mvT hZ w2) (mvT hZ w4) hy (backOf (W := W) hM hZ w4 w3 hf hl) hg hsize (Steps.refl _) hlen hstack hW hdg (fun _ _ => ⟨has, eT, hc, hs'⟩)
  dsimp only [Pt.U, Pt.locs, Pt.cells, Pt.slots] at X' l1 y1 z3 st q2
  subst l1 y1 z3
  exact ⟨v, T', Lc, X', q2, fun t k => st.trans k⟩
/-- an instance method by its contract -/
theorem callV (X : Stand p l e R s m args below meth c T locs cells slots) (hx : p.tables.exec = Jvm.exec) (hZ : Z.Warmed39 s.vm)
    (hown : s.vm.findClass own = some m.cls) (w1 : (Cond.methodLink own index y).before a0 Z = true) (w2 : (Cond.declares y).before a0 Z = true) (w3 : (Cond.selects y.cls y y).before a0 Z = true) (w5 : (Cond.instanceMethod y).before a0 Z = true) (w6 : (Cond.initialized y.cls).before a0 Z = true) (w4 : (Cond.code y bytes maxL ret).before a0 Z = true) (hy : y.cls ≠ "java/lang/invoke/MethodHandle" ∧ y.cls ≠ "java/lang/invoke/VarHandle")
    (hM : MetFree l y (head1 [Cond.code y bytes maxL ret] rm) (fun a U => a = as' ∧ Z.Warmed39 U.vm ∧ U.heap = h) (fun _ _ _ _ _ => True) (fun _ U o U' => ∃ v L, o = .returned v ∧ Q v U'.heap L ∧ FrameEnd U o U' L rm.cells rm.slots))
    {W : Nat} (hf : rm.frames + 1 ≤ R.frames) (hl : W + (maxL + 11) + rm.locals ≤ R.locals) (hc : cells + rm.cells ≤ R.cells) (hs' : slots + rm.slots ≤ R.slots) (eT : T.heap = h) {a : Addr} (E : Exa Z h a y.cls)
    {g : JFrame} (hg : g.method = m) (hsize : g.locals.size = c.maxLocals) {argsL rest : List Value} (hlen : ∀ sig, parseMethodDescriptor y.desc = some sig → argsL.length = sig.parameters.length)
    (hstack : g.stack = argsL.reverse ++ .ref a :: rest) (hW : 2 * g.monitorRoom + (rest.map fun v => v.category).sum ≤ W) (hdg : decode c.code g.pc = .ok (.invokevirtual index, 3)) (has : (Value.ref a :: argsL).toArray = as' := by rfl) :
    ∃ v T' L', Stand p l e R s m args below meth c T' (locs ++ L') (cells + rm.cells) (slots + rm.slots) ∧ Q v T'.heap L' ∧ ∀ target, Steps p.tables e below (T'.setTop { g with pc := g.pc + 3, stack := v.toList ++ rest }) target → Steps p.tables e below (T.setTop g) target := by
  obtain ⟨cq, kq, qa, qb, qc⟩ := isOf hZ eT E
  obtain ⟨v, vm₁, ⟨T', L', k', n'⟩, -, X', ⟨Lc, q2, l1, y1, z3⟩, st⟩ := X.virtualBack hx (y := y) (z := y) hown (mvT hZ w1) (mvT hZ w2) (notFace_of_selects (args := #[]) (mvT hZ w3)) (mvT hZ w3) (mvT hZ w5) hy (backOf (W := W) hM hZ w4 w6 hf hl) qa qc hg hsize (Steps.refl _) hlen hstack hW hdg (fun _ _ => ⟨has, eT, hc, hs'⟩)
  dsimp only [Pt.U, Pt.locs, Pt.cells, Pt.slots] at X' l1 y1 z3 st q2
  subst l1 y1 z3
  exact ⟨v, T', Lc, X', q2, fun t k => st.trans k⟩
/-- a private method by its contract -/
theorem callR (X : Stand p l e R s m args below meth c T locs cells slots) (hx : p.tables.exec = Jvm.exec) (hZ : Z.Warmed39 s.vm)
    (hown : s.vm.findClass own = some m.cls) (w1 : (Cond.methodLink own index y).before a0 Z = true) (w2 : (Cond.privateMethod y).before a0 Z = true) {kk : Nat} (w3 : (Cond.instantiable y.cls kk).before a0 Z = true) (w5 : (Cond.instanceMethod y).before a0 Z = true) (w6 : (Cond.initialized y.cls).before a0 Z = true) (w4 : (Cond.code y bytes maxL ret).before a0 Z = true) (hy : y.cls ≠ "java/lang/invoke/MethodHandle" ∧ y.cls ≠ "java/lang/invoke/VarHandle")
    (hM : MetFree l y (head1 [Cond.code y bytes maxL ret] rm) (fun a U => a = as' ∧ Z.Warmed39 U.vm ∧ U.heap = h) (fun _ _ _ _ _ => True) (fun _ U o U' => ∃ v L, o = .returned v ∧ Q v U'.heap L ∧ FrameEnd U o U' L rm.cells rm.slots))
    {W : Nat} (hf : rm.frames + 1 ≤ R.frames) (hl : W + (maxL + 11) + rm.locals ≤ R.locals) (hc : cells + rm.cells ≤ R.cells) (hs' : slots + rm.slots ≤ R.slots) (eT : T.heap = h) {a : Addr} (E : Exa Z h a y.cls)
    {g : JFrame} (hg : g.method = m) (hsize : g.locals.size = c.maxLocals) {argsL rest : List Value} (hlen : ∀ sig, parseMethodDescriptor y.desc = some sig → argsL.length = sig.parameters.length)
    (hstack : g.stack = argsL.reverse ++ .ref a :: rest) (hW : 2 * g.monitorRoom + (rest.map fun v => v.category).sum ≤ W) (hdg : decode c.code g.pc = .ok (.invokevirtual index, 3)) (has : (Value.ref a :: argsL).toArray = as' := by rfl) :
    ∃ v T' L', Stand p l e R s m args below meth c T' (locs ++ L') (cells + rm.cells) (slots + rm.slots) ∧ Q v T'.heap L' ∧ ∀ target, Steps p.tables e below (T'.setTop { g with pc := g.pc + 3, stack := v.toList ++ rest }) target → Steps p.tables e below (T.setTop g) target := by
  obtain ⟨cq, q, q'⟩ := E.cell
  have hpr := Cond.privateMethod_at (mvP hZ w2 (args := args))
  obtain ⟨c4, k2, i1, i2, -, i4, -⟩ := Cond.instantiable_spec (mvT hZ w3 : (Cond.instantiable y.cls kk).before args s = true)
  have hsel := selects_self_of_private (args := args) i1 i2 (by simp only [Bool.or_eq_false_iff] at i4; exact i4.1) hpr (mvT hZ w5) hy
  obtain ⟨v, vm₁, ⟨T', L', k', n'⟩, -, X', ⟨Lc, q2, l1, y1, z3⟩, st⟩ := X.privateBack hx (y := y) hown (mvT hZ w1) (mvT hZ w5) hsel hpr (mvT hZ w4) hy (backOf (W := W) hM hZ w4 w6 hf hl) hg hsize (Steps.refl _) (by rw [eT]; exact q) q' hlen hstack hW hdg (fun _ _ => ⟨has, eT, hc, hs'⟩)
  dsimp only [Pt.U, Pt.locs, Pt.cells, Pt.slots] at X' l1 y1 z3 st q2
  subst l1 y1 z3
  exact ⟨v, T', Lc, X', q2, fun t k => st.trans k⟩
end Own2
end Jvm.RoadKit
namespace Jvm.Pilot.@@N@@
open Jvm Jvm.ClassFile Sem Op Lib Jvm.Free Jvm.Stand Jvm.LawKit Jvm.RoadKit Bundle Jvm.Pilot.@@N@@.Jvm.D
-- body 1 as 1: com/example/porter_drive/porterdrive/RequestQueue.<init>:(I)V
theorem d1_0 : decode prog_24_method_1_code 0 = .ok (.aload_n 0, 1) := by decide +kernel
theorem d1_1 : decode prog_24_method_1_code 1 = .ok (.invokespecial 1, 3) := by decide +kernel
theorem d1_4 : decode prog_24_method_1_code 4 = .ok (.aload_n 0, 1) := by decide +kernel
theorem d1_5 : decode prog_24_method_1_code 5 = .ok (.iload_n 1, 1) := by decide +kernel
theorem d1_6 : decode prog_24_method_1_code 6 = .ok (.newarray .long, 2) := by decide +kernel
theorem d1_8 : decode prog_24_method_1_code 8 = .ok (.putfield 7, 3) := by decide +kernel
theorem d1_11 : decode prog_24_method_1_code 11 = .ok (.aload_n 0, 1) := by decide +kernel
theorem d1_12 : decode prog_24_method_1_code 12 = .ok (.iload_n 1, 1) := by decide +kernel
theorem d1_13 : decode prog_24_method_1_code 13 = .ok (.newarray .int, 2) := by decide +kernel
theorem d1_15 : decode prog_24_method_1_code 15 = .ok (.putfield 13, 3) := by decide +kernel
theorem d1_18 : decode prog_24_method_1_code 18 = .ok (.iconst 0, 1) := by decide +kernel
theorem d1_19 : decode prog_24_method_1_code 19 = .ok (.istore_n 2, 1) := by decide +kernel
theorem d1_20 : decode prog_24_method_1_code 20 = .ok (.iload_n 2, 1) := by decide +kernel
theorem d1_21 : decode prog_24_method_1_code 21 = .ok (.iload_n 1, 1) := by decide +kernel
theorem d1_22 : decode prog_24_method_1_code 22 = .ok (.if_icmp .ge 16, 3) := by decide +kernel
theorem d1_25 : decode prog_24_method_1_code 25 = .ok (.aload_n 0, 1) := by decide +kernel
theorem d1_26 : decode prog_24_method_1_code 26 = .ok (.getfield 13, 3) := by decide +kernel
theorem d1_29 : decode prog_24_method_1_code 29 = .ok (.iload_n 2, 1) := by decide +kernel
theorem d1_30 : decode prog_24_method_1_code 30 = .ok (.iload_n 2, 1) := by decide +kernel
theorem d1_31 : decode prog_24_method_1_code 31 = .ok (.iastore, 1) := by decide +kernel
theorem d1_32 : decode prog_24_method_1_code 32 = .ok (.iinc 2 1, 3) := by decide +kernel
theorem d1_35 : decode prog_24_method_1_code 35 = .ok (.goto (-15), 3) := by decide +kernel
theorem d1_38 : decode prog_24_method_1_code 38 = .ok (.aload_n 0, 1) := by decide +kernel
theorem d1_39 : decode prog_24_method_1_code 39 = .ok (.iload_n 1, 1) := by decide +kernel
theorem d1_40 : decode prog_24_method_1_code 40 = .ok (.putfield 17, 3) := by decide +kernel
theorem d1_43 : decode prog_24_method_1_code 43 = .ok (.return_, 1) := by decide +kernel
theorem pn1 : plainName "com/example/porter_drive/porterdrive/RequestQueue" = true := by first | (simp [plainName, overriddenIn]; done) | decide +kernel
theorem pd1 : parseMethodDescriptor "(I)V" = some ⟨[.int], none⟩ := by decide +kernel
theorem ef1 (m : MethodId) (b0 : Addr) (x1 : Int32) : entryFrame m #[(.ref b0), (.int x1)] 3 = mkF m 0 #[.val (.ref b0), .val (.int x1), .unset] [] := by first | (simp [entryFrame, mkF, argsToLocals, Value.category]; done) | rfl
abbrev rx1 : Room := { frames := 1, cells := 2, slots := 8, locals := 12 }
abbrev Cx1 (Z : State) (a0 : Array Value) (p : Program) (s : State) (m : MethodId) (meth : Method) (c : Code) : Prop := p.tables.exec = Jvm.exec ∧ Z.Warmed39 s.vm ∧ (∀ d ∈ tables_1, d.before a0 Z = true) ∧ c.code = prog_24_method_1_code ∧ c.maxLocals = 3 ∧ s.vm.findClass "com/example/porter_drive/porterdrive/RequestQueue" = some m.cls ∧ meth.sig.returnType = none ∧ meth.locks = false ∧ meth.name = "<init>"
def Q1 (Z : State) (x1 : Int32) (b0 : Addr) (u0_size : Int32) (h0 : Heap) (n0 : Nat) (o : Int32 × List Int64 × List Int32) (v : Option Value) (h : Heap) (L : List Loc) : Prop := ∃ c0 c1 : Addr, v = none ∧ Fr n0 L ∧ Keep h0 h [b0] ∧ Fld Z h b0 "com/example/porter_drive/porterdrive/RequestQueue" "times" "[J" (.ref c0) ∧ Fld Z h b0 "com/example/porter_drive/porterdrive/RequestQueue" "clients" "[I" (.ref c1) ∧ Fld Z h b0 "com/example/porter_drive/porterdrive/RequestQueue" "size" "I" (.int o.1) ∧ h0.size ≤ c0 ∧ n0 ≤ c0 ∧ Arj Z h c0 o.2.1 ∧ h0.size ≤ c1 ∧ n0 ≤ c1 ∧ Ari Z h c1 .int o.2.2 ∧ c0 ≠ c1
def f1_20 : Nat → Int32 → Int32 → Int32 → (List Int64) → (List Int32) → Option (Int32 × List Int64 × List Int32)
  | 0, _, _, _, _, _ => none
  | n + 1, x1, x2, u0_size, l1, l2 => (if x2 < x1 then ((stx l2 x2 x2).bind fun l_7 => (f1_20 n x1 (x2 + (1 : Int32)) u0_size l1 l_7)) else some (x1, l1, l2))
set_option maxRecDepth 65536 in
set_option maxHeartbeats 40000000 in
theorem w1_20 {p : Program} {l : Launch} {e : Env} {s : State} {m : MethodId} {args : Array Value} {below : List Frame} {meth : Method} {c : Code} {Z : State} {a0 : Array Value} {h0 : Heap} {n0 : Nat} (C : Cx1 Z a0 p s m meth c) (n : Nat) :
    ∀ (T : State) (locs : List Loc) (hA : Heap) (x1 : Int32) (x2 : Int32) (b0 : Addr) (u0_size : Int32) (b1 : Addr) (l1 : List Int64) (b2 : Addr) (l2 : List Int32) (o : Int32 × List Int64 × List Int32), f1_20 n x1 x2 u0_size l1 l2 = some o → Stand p l e rx1 s m args below meth c T locs 2 8 → T.heap = hA → Fr n0 locs → Old Z n0 hA → Keep h0 hA [b0] → (Exa Z hA b0 "com/example/porter_drive/porterdrive/RequestQueue") → (Fld Z hA b0 "com/example/porter_drive/porterdrive/RequestQueue" "times" "[J" (.ref b1)) → (Fld Z hA b0 "com/example/porter_drive/porterdrive/RequestQueue" "clients" "[I" (.ref b2)) → (Fld Z hA b0 "com/example/porter_drive/porterdrive/RequestQueue" "size" "I" (.int u0_size)) → (Arj Z hA b1 l1) → (Ari Z hA b2 .int l2) → (n0 ≤ b0) → (n0 ≤ b1) → (h0.size ≤ b1) → (n0 ≤ b2) → (h0.size ≤ b2) → (b0 ≠ b1) → (b0 ≠ b2) → (b1 ≠ b2) →  OwnOut p e s below 2 8 (Q1 Z default b0 default h0 n0 o) (T.setTop (mkF m 20 #[.val (.ref b0), .val (.int x1), .val (.int x2)] [])) := by
  obtain ⟨hx, hZ, hw, hby, hml, hown, hret, hlk, hnm⟩ := C
  induction n with
  | zero => intro T locs hA x1 x2 b0 u0_size b1 l1 b2 l2 o hr X0 e0 N0 O0 K0 E0 F0_times F0_clients F0_size A1 A2 g0 g1 z1 g2 z2 ne0_1 ne0_2 ne1_2; rw [f1_20] at hr; cases hr
  | succ n ih =>
    intro T locs hA x1 x2 b0 u0_size b1 l1 b2 l2 o hr X0 e0 N0 O0 K0 E0 F0_times F0_clients F0_size A1 A2 g0 g1 z1 g2 z2 ne0_1 ne0_2 ne1_2
    rw [f1_20] at hr
    refine OwnOut.go (fun t k => XS.iloadN X0.here hx rfl (hb hby d1_20) rfl k) ?_
    show OwnOut p e s below 2 8 _ (T.setTop (mkF m 21 #[.val (.ref b0), .val (.int x1), .val (.int x2)] [(.int x2)]))
    refine OwnOut.go (fun t k => XS.iloadN X0.here hx rfl (hb hby d1_21) rfl k) ?_
    show OwnOut p e s below 2 8 _ (T.setTop (mkF m 22 #[.val (.ref b0), .val (.int x1), .val (.int x2)] [(.int x1), (.int x2)]))
    by_cases hc22 : x2 < x1
    · rw [if_pos hc22] at hr
      refine OwnOut.go (fun t k => XS.icmpNo X0.here hx rfl (hb hby d1_22) rfl (XT.ii_ge_f hc22) k) ?_
      show OwnOut p e s below 2 8 _ (T.setTop (mkF m 25 #[.val (.ref b0), .val (.int x1), .val (.int x2)] []))
      refine OwnOut.go (fun t k => XS.aloadN X0.here hx rfl (hb hby d1_25) rfl rfl k) ?_
      show OwnOut p e s below 2 8 _ (T.setTop (mkF m 26 #[.val (.ref b0), .val (.int x1), .val (.int x2)] [(.ref b0)]))
      obtain ⟨T6, X6, e6, st6⟩ := getF X0 hx hZ hown (host := "") (Or.inl (hw _ (List.mem_of_getElem? (i := 13) rfl))) Via.refl e0 F0_clients (g := (mkF m 26 #[.val (.ref b0), .val (.int x1), .val (.int x2)] [(.ref b0)])) rfl rfl (hb hby d1_26)
      refine OwnOut.go (fun t k => st6 _ k) ?_
      show OwnOut p e s below 2 8 _ (T6.setTop (mkF m 29 #[.val (.ref b0), .val (.int x1), .val (.int x2)] [(.ref b2)]))
      refine OwnOut.go (fun t k => XS.iloadN X6.here hx rfl (hb hby d1_29) rfl k) ?_
      show OwnOut p e s below 2 8 _ (T6.setTop (mkF m 30 #[.val (.ref b0), .val (.int x1), .val (.int x2)] [(.int x2), (.ref b2)]))
      refine OwnOut.go (fun t k => XS.iloadN X6.here hx rfl (hb hby d1_30) rfl k) ?_
      show OwnOut p e s below 2 8 _ (T6.setTop (mkF m 31 #[.val (.ref b0), .val (.int x1), .val (.int x2)] [(.int x2), (.int x2), (.ref b2)]))
      obtain ⟨l_7, hl7, hr⟩ := Option.bind_eq_some_iff.mp hr
      obtain ⟨T7, h7, X7, e7, W7, A_7, st7⟩ := saI X6 hx hZ e6 A2 hl7 (g := (mkF m 31 #[.val (.ref b0), .val (.int x1), .val (.int x2)] [(.int x2), (.int x2), (.ref b2)])) rfl rfl (hb hby d1_31)
      refine OwnOut.go (fun t k => st7 _ k) ?_
      have E0_7 := E0.wr W7
      have F0_times_7 := F0_times.other W7 (Or.inl ne0_2)
      have F0_clients_7 := F0_clients.other W7 (Or.inl ne0_2)
      have F0_size_7 := F0_size.other W7 (Or.inl ne0_2)
      have A1_7 := A1.other W7 ne1_2
      have N_7 := Fr.snoc X7 N0 g2
      have O_7 := O0.wr W7 g2
      have K_7 := K0.wr W7 (Or.inr z2)
      show OwnOut p e s below 2 8 _ (T7.setTop (mkF m 32 #[.val (.ref b0), .val (.int x1), .val (.int x2)] []))
      refine OwnOut.go (fun t k => XT.iincV X7.here hx rfl (1 : Int32) (hb hby d1_32) rfl rfl (l' := #[.val (.ref b0), .val (.int x1), .val (.int (x2 + (1 : Int32)))]) rfl k) ?_
      show OwnOut p e s below 2 8 _ (T7.setTop (mkF m 35 #[.val (.ref b0), .val (.int x1), .val (.int (x2 + (1 : Int32)))] []))
      refine OwnOut.go (fun t k => XS.goto X7.here hx rfl (pc0 := 35) (pc' := 20) rfl (hb hby d1_35) (by decide) (by decide) k) ?_
      show OwnOut p e s below 2 8 _ (T7.setTop (mkF m 20 #[.val (.ref b0), .val (.int x1), .val (.int (x2 + (1 : Int32)))] []))
      exact ih _ _ _ x1 (x2 + (1 : Int32)) b0 u0_size b1 l1 b2 l_7 _ hr X7 e7 N_7 O_7 K_7 E0_7 F0_times_7 F0_clients_7 F0_size_7 A1_7 A_7 g0 g1 z1 g2 z2 ne0_1 ne0_2 ne1_2
    · rw [if_neg hc22] at hr
      refine OwnOut.go (fun t k => XS.icmpYes X0.here hx rfl (pc0 := 22) (pc' := 38) rfl (hb hby d1_22) rfl (XT.ii_ge_t hc22) (by decide) (by decide) k) ?_
      show OwnOut p e s below 2 8 _ (T.setTop (mkF m 38 #[.val (.ref b0), .val (.int x1), .val (.int x2)] []))
      refine OwnOut.go (fun t k => XS.aloadN X0.here hx rfl (hb hby d1_38) rfl rfl k) ?_
      show OwnOut p e s below 2 8 _ (T.setTop (mkF m 39 #[.val (.ref b0), .val (.int x1), .val (.int x2)] [(.ref b0)]))
      refine OwnOut.go (fun t k => XS.iloadN X0.here hx rfl (hb hby d1_39) rfl k) ?_
      show OwnOut p e s below 2 8 _ (T.setTop (mkF m 40 #[.val (.ref b0), .val (.int x1), .val (.int x2)] [(.int x1), (.ref b0)]))
      obtain ⟨T8, h8, X8, e8, W8, st8⟩ := putF X0 hx hZ hown (host := "") (Or.inl (hw _ (List.mem_of_getElem? (i := 15) rfl))) Via.refl e0 F0_size E0 (Or.inl (hw _ (List.mem_of_getElem? (i := 16) rfl))) (hw _ (List.mem_of_getElem? (i := 2) rfl)) (ty := .int) (by decide) rfl rfl (g := (mkF m 40 #[.val (.ref b0), .val (.int x1), .val (.int x2)] [(.int x1), (.ref b0)])) rfl rfl (hb hby d1_40)
      refine OwnOut.go (fun t k => st8 _ k) ?_
      have E0_8 := E0.wr W8
      have F0_times_8 := F0_times.other W8 (Or.inr (slot_ne (Or.inr (hw _ (List.mem_of_getElem? (i := 11) rfl))) (Or.inl (hw _ (List.mem_of_getElem? (i := 16) rfl))) (by decide) (t := (.array .long)) (t' := .int) (by decide) (by decide)))
      have F0_clients_8 := F0_clients.other W8 (Or.inr (slot_ne (Or.inr (hw _ (List.mem_of_getElem? (i := 14) rfl))) (Or.inl (hw _ (List.mem_of_getElem? (i := 16) rfl))) (by decide) (t := (.array .int)) (t' := .int) (by decide) (by decide)))
      have F0_size_8 := F0_size.same W8
      have A1_8 := A1.other W8 (Ne.symm ne0_1)
      have A2_8 := A2.other W8 (Ne.symm ne0_2)
      have N_8 := Fr.snoc X8 N0 g0
      have O_8 := O0.wr W8 g0
      have K_8 := K0.wr W8 (Or.inl (List.mem_of_getElem? (i := 0) rfl))
      show OwnOut p e s below 2 8 _ (T8.setTop (mkF m 43 #[.val (.ref b0), .val (.int x1), .val (.int x2)] []))
      cases hr
      exact outV X8 hx hret (hb hby d1_43) hlk (by decide) (by decide) (by rw [e8]; exact ⟨b1, b2, rfl, N_8, K_8, F0_times_8, F0_clients_8, F0_size_8, z1, g1, A1_8, z2, g2, A2_8, ne1_2⟩)
def f1 (x1 : Int32) (u0_size : Int32) : Option (Int32 × List Int64 × List Int32) := ((nwx (0 : Int64) 4 x1).bind fun l_2 => ((nwx (0 : Int32) 4 x1).bind fun l_4 => (f1_20 8 x1 (0 : Int32) u0_size l_2 l_4)))
set_option maxRecDepth 65536 in
set_option maxHeartbeats 40000000 in
theorem w1_0 {p : Program} {l : Launch} {e : Env} {s : State} {m : MethodId} {args : Array Value} {below : List Frame} {meth : Method} {c : Code} {Z : State} {a0 : Array Value} {h0 : Heap} {n0 : Nat} (C : Cx1 Z a0 p s m meth c) :
    ∀ (T : State) (locs : List Loc) (hA : Heap) (x1 : Int32) (b0 : Addr) (u0_size : Int32) (o : Int32 × List Int64 × List Int32), f1 x1 u0_size = some o → Stand p l e rx1 s m args below meth c T locs 0 0 → T.heap = hA → Fr n0 locs → Old Z n0 hA → Keep h0 hA [b0] → (Exa Z hA b0 "com/example/porter_drive/porterdrive/RequestQueue") → (Fld Z hA b0 "com/example/porter_drive/porterdrive/RequestQueue" "times" "[J" .null) → (Fld Z hA b0 "com/example/porter_drive/porterdrive/RequestQueue" "clients" "[I" .null) → (Fld Z hA b0 "com/example/porter_drive/porterdrive/RequestQueue" "size" "I" (.int u0_size)) → (n0 ≤ b0) →  OwnOut p e s below 2 8 (Q1 Z default b0 default h0 n0 o) (T.setTop (mkF m 0 #[.val (.ref b0), .val (.int x1), .unset] [])) := by
    obtain ⟨hx, hZ, hw, hby, hml, hown, hret, hlk, hnm⟩ := C
    intro T locs hA x1 b0 u0_size o hr X0 e0 N0 O0 K0 E0 F0_times F0_clients F0_size g0
    rw [f1] at hr
    refine OwnOut.go (fun t k => XS.aloadN X0.here hx rfl (hb hby d1_0) rfl rfl k) ?_
    show OwnOut p e s below 2 8 _ (T.setTop (mkF m 1 #[.val (.ref b0), .val (.int x1), .unset] [(.ref b0)]))
    obtain ⟨T1, X1, e1, st1⟩ := initO X0 hx hZ hown (hw _ (List.mem_of_getElem? (i := 7) rfl)) (hw _ (List.mem_of_getElem? (i := 8) rfl)) (hw _ (List.mem_of_getElem? (i := 9) rfl)) e0 (g := (mkF m 1 #[.val (.ref b0), .val (.int x1), .unset] [(.ref b0)])) rfl (by rw [hml]; rfl) rfl (hb hby d1_1) (by decide) (W := 0) (by show 2 * 0 + _ ≤ _; exact Nat.le_of_eq rfl) (by decide)
    refine OwnOut.go (fun t k => st1 _ k) ?_
    show OwnOut p e s below 2 8 _ (T1.setTop (mkF m 4 #[.val (.ref b0), .val (.int x1), .unset] []))
    refine OwnOut.go (fun t k => XS.aloadN X1.here hx rfl (hb hby d1_4) rfl rfl k) ?_
    show OwnOut p e s below 2 8 _ (T1.setTop (mkF m 5 #[.val (.ref b0), .val (.int x1), .unset] [(.ref b0)]))
    refine OwnOut.go (fun t k => XS.iloadN X1.here hx rfl (hb hby d1_5) rfl k) ?_
    show OwnOut p e s below 2 8 _ (T1.setTop (mkF m 6 #[.val (.ref b0), .val (.int x1), .unset] [(.int x1), (.ref b0)]))
    obtain ⟨l_2, hl2, hr⟩ := Option.bind_eq_some_iff.mp hr
    obtain ⟨T2, h2, X2, e2, Ex2, A_2, st2⟩ := nwA X1 hx hZ (hw _ (List.mem_of_getElem? (i := 0) rfl)) e1 hl2 (f := Value.long) rfl (g := (mkF m 6 #[.val (.ref b0), .val (.int x1), .unset] [(.int x1), (.ref b0)])) rfl rfl (hb hby d1_6) (by decide) (by decide) (by decide)
    obtain ⟨c2, gc2⟩ : ∃ z, z = hA.size := ⟨_, rfl⟩
    rw [← gc2] at A_2 st2
    refine OwnOut.go (fun t k => st2 _ k) ?_
    have ne0_1_2 : b0 ≠ c2 := Nat.ne_of_lt (gc2 ▸ E0.lt)
    have E0_2 := E0.ext Ex2
    have F0_times_2 := F0_times.ext Ex2
    have F0_clients_2 := F0_clients.ext Ex2
    have F0_size_2 := F0_size.ext Ex2
    have g_2 : n0 ≤ c2 := gc2 ▸ (O0.1 ▸ O0.2.1)
    have z_2 : h0.size ≤ c2 := gc2 ▸ K0.1
    have O_2 := O0.ext Ex2
    have K_2 := K0.ext Ex2
    show OwnOut p e s below 2 8 _ (T2.setTop (mkF m 8 #[.val (.ref b0), .val (.int x1), .unset] [(.ref c2), (.ref b0)]))
    obtain ⟨T3, h3, X3, e3, W3, st3⟩ := putF X2 hx hZ hown (host := "") (Or.inl (hw _ (List.mem_of_getElem? (i := 10) rfl))) Via.refl e2 F0_times_2 E0_2 (Or.inr ⟨(hw _ (List.mem_of_getElem? (i := 11) rfl)), rfl, hnm⟩) (hw _ (List.mem_of_getElem? (i := 2) rfl)) (ty := (.array .long)) (by decide) rfl rfl (g := (mkF m 8 #[.val (.ref b0), .val (.int x1), .unset] [(.ref c2), (.ref b0)])) rfl rfl (hb hby d1_8)
    refine OwnOut.go (fun t k => st3 _ k) ?_
    have E0_3 := E0_2.wr W3
    have F0_times_3 := F0_times_2.same W3
    have F0_clients_3 := F0_clients_2.other W3 (Or.inr (slot_ne (Or.inr (hw _ (List.mem_of_getElem? (i := 14) rfl))) (Or.inr (hw _ (List.mem_of_getElem? (i := 11) rfl))) (by decide) (t := (.array .int)) (t' := (.array .long)) (by decide) (by decide)))
    have F0_size_3 := F0_size_2.other W3 (Or.inr (slot_ne (Or.inl (hw _ (List.mem_of_getElem? (i := 16) rfl))) (Or.inr (hw _ (List.mem_of_getElem? (i := 11) rfl))) (by decide) (t := .int) (t' := (.array .long)) (by decide) (by decide)))
    have A1_3 := A_2.other W3 (Ne.symm ne0_1_2)
    have N_3 := Fr.snoc X3 N0 g0
    have O_3 := O_2.wr W3 g0
    have K_3 := K_2.wr W3 (Or.inl (List.mem_of_getElem? (i := 0) rfl))
    show OwnOut p e s below 2 8 _ (T3.setTop (mkF m 11 #[.val (.ref b0), .val (.int x1), .unset] []))
    refine OwnOut.go (fun t k => XS.aloadN X3.here hx rfl (hb hby d1_11) rfl rfl k) ?_
    show OwnOut p e s below 2 8 _ (T3.setTop (mkF m 12 #[.val (.ref b0), .val (.int x1), .unset] [(.ref b0)]))
    refine OwnOut.go (fun t k => XS.iloadN X3.here hx rfl (hb hby d1_12) rfl k) ?_
    show OwnOut p e s below 2 8 _ (T3.setTop (mkF m 13 #[.val (.ref b0), .val (.int x1), .unset] [(.int x1), (.ref b0)]))
    obtain ⟨l_4, hl4, hr⟩ := Option.bind_eq_some_iff.mp hr
    obtain ⟨T4, h4, X4, e4, Ex4, A_4, st4⟩ := nwA X3 hx hZ (hw _ (List.mem_of_getElem? (i := 12) rfl)) e3 hl4 (f := Value.int) rfl (g := (mkF m 13 #[.val (.ref b0), .val (.int x1), .unset] [(.int x1), (.ref b0)])) rfl rfl (hb hby d1_13) (by decide) (by decide) (by decide)
    obtain ⟨c4, gc4⟩ : ∃ z, z = h3.size := ⟨_, rfl⟩
    rw [← gc4] at A_4 st4
    refine OwnOut.go (fun t k => st4 _ k) ?_
    have ne0_2_4 : b0 ≠ c4 := Nat.ne_of_lt (gc4 ▸ E0_3.lt)
    have ne1_2_4 : c2 ≠ c4 := Nat.ne_of_lt (gc4 ▸ A1_3.lt)
    have E0_4 := E0_3.ext Ex4
    have F0_times_4 := F0_times_3.ext Ex4
    have F0_clients_4 := F0_clients_3.ext Ex4
    have F0_size_4 := F0_size_3.ext Ex4
    have A1_4 := A1_3.ext Ex4
    have g_4 : n0 ≤ c4 := gc4 ▸ (O_3.1 ▸ O_3.2.1)
    have z_4 : h0.size ≤ c4 := gc4 ▸ K_3.1
    have O_4 := O_3.ext Ex4
    have K_4 := K_3.ext Ex4
    show OwnOut p e s below 2 8 _ (T4.setTop (mkF m 15 #[.val (.ref b0), .val (.int x1), .unset] [(.ref c4), (.ref b0)]))
    obtain ⟨T5, h5, X5, e5, W5, st5⟩ := putF X4 hx hZ hown (host := "") (Or.inl (hw _ (List.mem_of_getElem? (i := 13) rfl))) Via.refl e4 F0_clients_4 E0_4 (Or.inr ⟨(hw _ (List.mem_of_getElem? (i := 14) rfl)), rfl, hnm⟩) (hw _ (List.mem_of_getElem? (i := 2) rfl)) (ty := (.array .int)) (by decide) rfl rfl (g := (mkF m 15 #[.val (.ref b0), .val (.int x1), .unset] [(.ref c4), (.ref b0)])) rfl rfl (hb hby d1_15)
    refine OwnOut.go (fun t k => st5 _ k) ?_
    have E0_5 := E0_4.wr W5
    have F0_times_5 := F0_times_4.other W5 (Or.inr (slot_ne (Or.inr (hw _ (List.mem_of_getElem? (i := 11) rfl))) (Or.inr (hw _ (List.mem_of_getElem? (i := 14) rfl))) (by decide) (t := (.array .long)) (t' := (.array .int)) (by decide) (by decide)))
    have F0_clients_5 := F0_clients_4.same W5
    have F0_size_5 := F0_size_4.other W5 (Or.inr (slot_ne (Or.inl (hw _ (List.mem_of_getElem? (i := 16) rfl))) (Or.inr (hw _ (List.mem_of_getElem? (i := 14) rfl))) (by decide) (t := .int) (t' := (.array .int)) (by decide) (by decide)))
    have A1_5 := A1_4.other W5 (Ne.symm ne0_1_2)
    have A2_5 := A_4.other W5 (Ne.symm ne0_2_4)
    have N_5 := Fr.snoc X5 N_3 g0
    have O_5 := O_4.wr W5 g0
    have K_5 := K_4.wr W5 (Or.inl (List.mem_of_getElem? (i := 0) rfl))
    show OwnOut p e s below 2 8 _ (T5.setTop (mkF m 18 #[.val (.ref b0), .val (.int x1), .unset] []))
    refine OwnOut.go (fun t k => XT.iconstV X5.here hx rfl (0 : Int32) (hb hby d1_18) rfl k) ?_
    show OwnOut p e s below 2 8 _ (T5.setTop (mkF m 19 #[.val (.ref b0), .val (.int x1), .unset] [(.int (0 : Int32))]))
    refine OwnOut.go (fun t k => XS.istoreN X5.here hx rfl (hb hby d1_19) rfl (l' := #[.val (.ref b0), .val (.int x1), .val (.int (0 : Int32))]) rfl k) ?_
    show OwnOut p e s below 2 8 _ (T5.setTop (mkF m 20 #[.val (.ref b0), .val (.int x1), .val (.int (0 : Int32))] []))
    exact w1_20 ⟨hx, hZ, hw, hby, hml, hown, hret, hlk, hnm⟩ 8  _ _ _ x1 (0 : Int32) b0 u0_size c2 l_2 c4 l_4 _ hr X5 e5 N_5 O_5 K_5 E0_5 F0_times_5 F0_clients_5 F0_size_5 A1_5 A2_5 g0 g_2 z_2 g_4 z_4 ne0_1_2 ne0_2_4 ne1_2_4
set_option maxRecDepth 65536 in
set_option maxHeartbeats 40000000 in
theorem rm1 (l : Launch) (Z : State) (a0 : Array Value) (hw : ∀ d ∈ tables_1, d.before a0 Z = true) (ws : List Jvm.Cond) (x1 : Int32) (b0 : Addr) (u0_size : Int32) (h0 : Heap) (n0 : Nat) (o : Int32 × List Int64 × List Int32) (hr : f1 x1 u0_size = some o) (O0 : Old Z n0 h0) (E0 : Exa Z h0 b0 "com/example/porter_drive/porterdrive/RequestQueue") (F0_times : Fld Z h0 b0 "com/example/porter_drive/porterdrive/RequestQueue" "times" "[J" .null) (F0_clients : Fld Z h0 b0 "com/example/porter_drive/porterdrive/RequestQueue" "clients" "[I" .null) (F0_size : Fld Z h0 b0 "com/example/porter_drive/porterdrive/RequestQueue" "size" "I" (.int u0_size)) (g0 : n0 ≤ b0) :
    MetFree l (⟨"com/example/porter_drive/porterdrive/RequestQueue", "<init>", "(I)V"⟩ : MethodName) (head1 (Jvm.Cond.code (⟨"com/example/porter_drive/porterdrive/RequestQueue", "<init>", "(I)V"⟩ : MethodName) prog_24_method_1_code 3 none :: ws) rx1) (fun a U => a = #[(.ref b0), (.int x1)] ∧ Z.Warmed39 U.vm ∧ U.heap = h0) (fun _ _ _ _ _ => True) (fun _ U o' U' => ∃ v L, o' = .returned v ∧ Q1 Z x1 b0 u0_size h0 n0 o v U'.heap L ∧ FrameEnd U o' U' L rx1.cells rx1.slots) := by
  refine MetFree.of_bodySF (plainFor_of_name pn1) hisR ?_
  intro p e s m args below meth c s₁ Bd hml0 hP hK
  obtain ⟨rfl, hZ, hh⟩ := hP
  have X0 : Stand p l e rx1 s m #[(.ref b0), (.int x1)] below meth c s₁ [] 0 0 := Stand.of_body Bd
  have e0 : s₁.heap = h0 := by rw [← hh, Bd.state]; rfl
  exact OwnOut.at (ef1 m b0 x1) (w1_0 ⟨Bd.exec, hZ, hw, Bd.bytes, hml0, findClass_of_methodNamed Bd.named, Bd.returns, Bd.notSynchronized, (name_of_methodNamed Bd.named Bd.method).1⟩ _ _ _ x1 b0 u0_size o hr X0 e0 (Fr.nil n0) O0 (Keep.refl _ _) E0 F0_times F0_clients F0_size g0)
-- body 4 as 4: com/example/porter_drive/porterdrive/RequestQueueDelayFirstPinLaw.first:([JI)I (touches nothing)
theorem d4_0 : decode method_4_code 0 = .ok (.iconst 0, 1) := by decide +kernel
theorem d4_1 : decode method_4_code 1 = .ok (.istore_n 2, 1) := by decide +kernel
theorem d4_2 : decode method_4_code 2 = .ok (.iload_n 1, 1) := by decide +kernel
theorem d4_3 : decode method_4_code 3 = .ok (.iconst 1, 1) := by decide +kernel
theorem d4_4 : decode method_4_code 4 = .ok (.if_icmp .le 15, 3) := by decide +kernel
theorem d4_7 : decode method_4_code 7 = .ok (.aload_n 0, 1) := by decide +kernel
theorem d4_8 : decode method_4_code 8 = .ok (.iconst 1, 1) := by decide +kernel
theorem d4_9 : decode method_4_code 9 = .ok (.laload, 1) := by decide +kernel
theorem d4_10 : decode method_4_code 10 = .ok (.aload_n 0, 1) := by decide +kernel
theorem d4_11 : decode method_4_code 11 = .ok (.iload_n 2, 1) := by decide +kernel
theorem d4_12 : decode method_4_code 12 = .ok (.laload, 1) := by decide +kernel
theorem d4_13 : decode method_4_code 13 = .ok (.lcmp, 1) := by decide +kernel
theorem d4_14 : decode method_4_code 14 = .ok (.ifCond .ge 5, 3) := by decide +kernel
theorem d4_17 : decode method_4_code 17 = .ok (.iconst 1, 1) := by decide +kernel
theorem d4_18 : decode method_4_code 18 = .ok (.istore_n 2, 1) := by decide +kernel
theorem d4_19 : decode method_4_code 19 = .ok (.iload_n 1, 1) := by decide +kernel
theorem d4_20 : decode method_4_code 20 = .ok (.iconst 2, 1) := by decide +kernel
theorem d4_21 : decode method_4_code 21 = .ok (.if_icmp .le 15, 3) := by decide +kernel
theorem d4_24 : decode method_4_code 24 = .ok (.aload_n 0, 1) := by decide +kernel
theorem d4_25 : decode method_4_code 25 = .ok (.iconst 2, 1) := by decide +kernel
theorem d4_26 : decode method_4_code 26 = .ok (.laload, 1) := by decide +kernel
theorem d4_27 : decode method_4_code 27 = .ok (.aload_n 0, 1) := by decide +kernel
theorem d4_28 : decode method_4_code 28 = .ok (.iload_n 2, 1) := by decide +kernel
theorem d4_29 : decode method_4_code 29 = .ok (.laload, 1) := by decide +kernel
theorem d4_30 : decode method_4_code 30 = .ok (.lcmp, 1) := by decide +kernel
theorem d4_31 : decode method_4_code 31 = .ok (.ifCond .ge 5, 3) := by decide +kernel
theorem d4_34 : decode method_4_code 34 = .ok (.iconst 2, 1) := by decide +kernel
theorem d4_35 : decode method_4_code 35 = .ok (.istore_n 2, 1) := by decide +kernel
theorem d4_36 : decode method_4_code 36 = .ok (.iload_n 1, 1) := by decide +kernel
theorem d4_37 : decode method_4_code 37 = .ok (.iconst 3, 1) := by decide +kernel
theorem d4_38 : decode method_4_code 38 = .ok (.if_icmp .le 15, 3) := by decide +kernel
theorem d4_41 : decode method_4_code 41 = .ok (.aload_n 0, 1) := by decide +kernel
theorem d4_42 : decode method_4_code 42 = .ok (.iconst 3, 1) := by decide +kernel
theorem d4_43 : decode method_4_code 43 = .ok (.laload, 1) := by decide +kernel
theorem d4_44 : decode method_4_code 44 = .ok (.aload_n 0, 1) := by decide +kernel
theorem d4_45 : decode method_4_code 45 = .ok (.iload_n 2, 1) := by decide +kernel
theorem d4_46 : decode method_4_code 46 = .ok (.laload, 1) := by decide +kernel
theorem d4_47 : decode method_4_code 47 = .ok (.lcmp, 1) := by decide +kernel
theorem d4_48 : decode method_4_code 48 = .ok (.ifCond .ge 5, 3) := by decide +kernel
theorem d4_51 : decode method_4_code 51 = .ok (.iconst 3, 1) := by decide +kernel
theorem d4_52 : decode method_4_code 52 = .ok (.istore_n 2, 1) := by decide +kernel
theorem d4_53 : decode method_4_code 53 = .ok (.iload_n 2, 1) := by decide +kernel
theorem d4_54 : decode method_4_code 54 = .ok (.ireturn, 1) := by decide +kernel
theorem pn4 : plainName "com/example/porter_drive/porterdrive/RequestQueueDelayFirstPinLaw" = true := by first | (simp [plainName, overriddenIn]; done) | decide +kernel
theorem pd4 : parseMethodDescriptor "([JI)I" = some ⟨[(.array .long), .int], some .int⟩ := by decide +kernel
theorem ef4 (m : MethodId) (b0 : Addr) (x1 : Int32) : entryFrame m #[(.ref b0), (.int x1)] 3 = mkF m 0 #[.val (.ref b0), .val (.int x1), .unset] [] := by first | (simp [entryFrame, mkF, argsToLocals, Value.category]; done) | rfl
abbrev rx4 : Room := { frames := 0, cells := 0, slots := 0, locals := 0 }
abbrev Cx4 (Z : State) (a0 : Array Value) (p : Program) (s : State) (m : MethodId) (meth : Method) (c : Code) : Prop := p.tables.exec = Jvm.exec ∧ Z.Warmed39 s.vm ∧ (∀ d ∈ tables_1, d.before a0 Z = true) ∧ c.code = method_4_code ∧ c.maxLocals = 3 ∧ s.vm.findClass "com/example/porter_drive/porterdrive/RequestQueueDelayFirstPinLaw" = some m.cls ∧ meth.sig.returnType = (some .int) ∧ meth.locks = false ∧ meth.name = "first"
def Q4 (Z : State) (x1 : Int32) (b0 : Addr) (l0 : List Int64) (h0 : Heap) (o : Int32) (v : Option Value) (h : Heap) (L : List Loc) : Prop := v = some (.int o) ∧ h = h0 ∧ L = []
def f4_36 (x1 : Int32) (x2 : Int32) (l0 : List Int64) : Option (Int32) := (if (3 : Int32) < x1 then ((ldx l0 (3 : Int32)).bind fun v5 => ((ldx l0 x2).bind fun v6 => (if v5 < v6 then some ((3 : Int32)) else some (x2)))) else some (x2))
set_option maxRecDepth 65536 in
set_option maxHeartbeats 40000000 in
theorem w4_36 {p : Program} {l : Launch} {e : Env} {s : State} {m : MethodId} {args : Array Value} {below : List Frame} {meth : Method} {c : Code} {Z : State} {a0 : Array Value} {h0 : Heap} (C : Cx4 Z a0 p s m meth c) :
    ∀ (T : State) (x1 : Int32) (x2 : Int32) (b0 : Addr) (l0 : List Int64) (o : Int32), f4_36 x1 x2 l0 = some o → Stand p l e rx4 s m args below meth c T [] 0 0 → T.heap = h0 → (Arj Z h0 b0 l0) →  OwnOut p e s below 0 0 (Q4 Z default b0 l0 h0 o) (T.setTop (mkF m 36 #[.val (.ref b0), .val (.int x1), .val (.int x2)] [])) := by
    obtain ⟨hx, hZ, hw, hby, hml, hown, hret, hlk, hnm⟩ := C
    intro T x1 x2 b0 l0 o hr X0 e0 A0
    rw [f4_36] at hr
    refine OwnOut.go (fun t k => XS.iloadN X0.here hx rfl (hb hby d4_36) rfl k) ?_
    show OwnOut p e s below 0 0 _ (T.setTop (mkF m 37 #[.val (.ref b0), .val (.int x1), .val (.int x2)] [(.int x1)]))
    refine OwnOut.go (fun t k => XT.iconstV X0.here hx rfl (3 : Int32) (hb hby d4_37) rfl k) ?_
    show OwnOut p e s below 0 0 _ (T.setTop (mkF m 38 #[.val (.ref b0), .val (.int x1), .val (.int x2)] [(.int (3 : Int32)), (.int x1)]))
    by_cases hc38 : (3 : Int32) < x1
    · rw [if_pos hc38] at hr
      refine OwnOut.go (fun t k => XS.icmpNo X0.here hx rfl (hb hby d4_38) rfl (XT.ii_le_f hc38) k) ?_
      show OwnOut p e s below 0 0 _ (T.setTop (mkF m 41 #[.val (.ref b0), .val (.int x1), .val (.int x2)] []))
      refine OwnOut.go (fun t k => XS.aloadN X0.here hx rfl (hb hby d4_41) rfl rfl k) ?_
      show OwnOut p e s below 0 0 _ (T.setTop (mkF m 42 #[.val (.ref b0), .val (.int x1), .val (.int x2)] [(.ref b0)]))
      refine OwnOut.go (fun t k => XT.iconstV X0.here hx rfl (3 : Int32) (hb hby d4_42) rfl k) ?_
      show OwnOut p e s below 0 0 _ (T.setTop (mkF m 43 #[.val (.ref b0), .val (.int x1), .val (.int x2)] [(.int (3 : Int32)), (.ref b0)]))
      obtain ⟨v5, hv5, hr⟩ := Option.bind_eq_some_iff.mp hr
      refine OwnOut.go (fun t k => ldJ X0 hx hZ e0 A0 hv5 (g := (mkF m 43 #[.val (.ref b0), .val (.int x1), .val (.int x2)] [(.int (3 : Int32)), (.ref b0)])) rfl rfl (hb hby d4_43) t k) ?_
      show OwnOut p e s below 0 0 _ (T.setTop (mkF m 44 #[.val (.ref b0), .val (.int x1), .val (.int x2)] [(.long v5)]))
      refine OwnOut.go (fun t k => XS.aloadN X0.here hx rfl (hb hby d4_44) rfl rfl k) ?_
      show OwnOut p e s below 0 0 _ (T.setTop (mkF m 45 #[.val (.ref b0), .val (.int x1), .val (.int x2)] [(.ref b0), (.long v5)]))
      refine OwnOut.go (fun t k => XS.iloadN X0.here hx rfl (hb hby d4_45) rfl k) ?_
      show OwnOut p e s below 0 0 _ (T.setTop (mkF m 46 #[.val (.ref b0), .val (.int x1), .val (.int x2)] [(.int x2), (.ref b0), (.long v5)]))
      obtain ⟨v6, hv6, hr⟩ := Option.bind_eq_some_iff.mp hr
      refine OwnOut.go (fun t k => ldJ X0 hx hZ e0 A0 hv6 (g := (mkF m 46 #[.val (.ref b0), .val (.int x1), .val (.int x2)] [(.int x2), (.ref b0), (.long v5)])) rfl rfl (hb hby d4_46) t k) ?_
      show OwnOut p e s below 0 0 _ (T.setTop (mkF m 47 #[.val (.ref b0), .val (.int x1), .val (.int x2)] [(.long v6), (.long v5)]))
      refine OwnOut.go (fun t k => XS.lcmp X0.here hx rfl (hb hby d4_47) rfl k) ?_
      show OwnOut p e s below 0 0 _ (T.setTop (mkF m 48 #[.val (.ref b0), .val (.int x1), .val (.int x2)] [(.int (XT.cmpL v5 v6))]))
      by_cases hc48 : v5 < v6
      · rw [if_pos hc48] at hr
        refine OwnOut.go (fun t k => XS.ifNo X0.here hx rfl (hb hby d4_48) rfl (XT.ll_ge_f hc48) k) ?_
        show OwnOut p e s below 0 0 _ (T.setTop (mkF m 51 #[.val (.ref b0), .val (.int x1), .val (.int x2)] []))
        refine OwnOut.go (fun t k => XT.iconstV X0.here hx rfl (3 : Int32) (hb hby d4_51) rfl k) ?_
        show OwnOut p e s below 0 0 _ (T.setTop (mkF m 52 #[.val (.ref b0), .val (.int x1), .val (.int x2)] [(.int (3 : Int32))]))
        refine OwnOut.go (fun t k => XS.istoreN X0.here hx rfl (hb hby d4_52) rfl (l' := #[.val (.ref b0), .val (.int x1), .val (.int (3 : Int32))]) rfl k) ?_
        show OwnOut p e s below 0 0 _ (T.setTop (mkF m 53 #[.val (.ref b0), .val (.int x1), .val (.int (3 : Int32))] []))
        refine OwnOut.go (fun t k => XS.iloadN X0.here hx rfl (hb hby d4_53) rfl k) ?_
        show OwnOut p e s below 0 0 _ (T.setTop (mkF m 54 #[.val (.ref b0), .val (.int x1), .val (.int (3 : Int32))] [(.int (3 : Int32))]))
        cases hr
        exact outI X0 hx hret (hb hby d4_54) hlk (by decide) (by decide) ⟨rfl, e0, rfl⟩
      · rw [if_neg hc48] at hr
        refine OwnOut.go (fun t k => XS.ifYes X0.here hx rfl (pc0 := 48) (pc' := 53) rfl (hb hby d4_48) rfl (XT.ll_ge_t hc48) (by decide) (by decide) k) ?_
        show OwnOut p e s below 0 0 _ (T.setTop (mkF m 53 #[.val (.ref b0), .val (.int x1), .val (.int x2)] []))
        refine OwnOut.go (fun t k => XS.iloadN X0.here hx rfl (hb hby d4_53) rfl k) ?_
        show OwnOut p e s below 0 0 _ (T.setTop (mkF m 54 #[.val (.ref b0), .val (.int x1), .val (.int x2)] [(.int x2)]))
        cases hr
        exact outI X0 hx hret (hb hby d4_54) hlk (by decide) (by decide) ⟨rfl, e0, rfl⟩
    · rw [if_neg hc38] at hr
      refine OwnOut.go (fun t k => XS.icmpYes X0.here hx rfl (pc0 := 38) (pc' := 53) rfl (hb hby d4_38) rfl (XT.ii_le_t hc38) (by decide) (by decide) k) ?_
      show OwnOut p e s below 0 0 _ (T.setTop (mkF m 53 #[.val (.ref b0), .val (.int x1), .val (.int x2)] []))
      refine OwnOut.go (fun t k => XS.iloadN X0.here hx rfl (hb hby d4_53) rfl k) ?_
      show OwnOut p e s below 0 0 _ (T.setTop (mkF m 54 #[.val (.ref b0), .val (.int x1), .val (.int x2)] [(.int x2)]))
      cases hr
      exact outI X0 hx hret (hb hby d4_54) hlk (by decide) (by decide) ⟨rfl, e0, rfl⟩
def f4_19 (x1 : Int32) (x2 : Int32) (l0 : List Int64) : Option (Int32) := (if (2 : Int32) < x1 then ((ldx l0 (2 : Int32)).bind fun v3 => ((ldx l0 x2).bind fun v4 => (if v3 < v4 then (f4_36 x1 (2 : Int32) l0) else (f4_36 x1 x2 l0)))) else (f4_36 x1 x2 l0))
set_option maxRecDepth 65536 in
set_option maxHeartbeats 40000000 in
theorem w4_19 {p : Program} {l : Launch} {e : Env} {s : State} {m : MethodId} {args : Array Value} {below : List Frame} {meth : Method} {c : Code} {Z : State} {a0 : Array Value} {h0 : Heap} (C : Cx4 Z a0 p s m meth c) :
    ∀ (T : State) (x1 : Int32) (x2 : Int32) (b0 : Addr) (l0 : List Int64) (o : Int32), f4_19 x1 x2 l0 = some o → Stand p l e rx4 s m args below meth c T [] 0 0 → T.heap = h0 → (Arj Z h0 b0 l0) →  OwnOut p e s below 0 0 (Q4 Z default b0 l0 h0 o) (T.setTop (mkF m 19 #[.val (.ref b0), .val (.int x1), .val (.int x2)] [])) := by
    obtain ⟨hx, hZ, hw, hby, hml, hown, hret, hlk, hnm⟩ := C
    intro T x1 x2 b0 l0 o hr X0 e0 A0
    rw [f4_19] at hr
    refine OwnOut.go (fun t k => XS.iloadN X0.here hx rfl (hb hby d4_19) rfl k) ?_
    show OwnOut p e s below 0 0 _ (T.setTop (mkF m 20 #[.val (.ref b0), .val (.int x1), .val (.int x2)] [(.int x1)]))
    refine OwnOut.go (fun t k => XT.iconstV X0.here hx rfl (2 : Int32) (hb hby d4_20) rfl k) ?_
    show OwnOut p e s below 0 0 _ (T.setTop (mkF m 21 #[.val (.ref b0), .val (.int x1), .val (.int x2)] [(.int (2 : Int32)), (.int x1)]))
    by_cases hc21 : (2 : Int32) < x1
    · rw [if_pos hc21] at hr
      refine OwnOut.go (fun t k => XS.icmpNo X0.here hx rfl (hb hby d4_21) rfl (XT.ii_le_f hc21) k) ?_
      show OwnOut p e s below 0 0 _ (T.setTop (mkF m 24 #[.val (.ref b0), .val (.int x1), .val (.int x2)] []))
      refine OwnOut.go (fun t k => XS.aloadN X0.here hx rfl (hb hby d4_24) rfl rfl k) ?_
      show OwnOut p e s below 0 0 _ (T.setTop (mkF m 25 #[.val (.ref b0), .val (.int x1), .val (.int x2)] [(.ref b0)]))
      refine OwnOut.go (fun t k => XT.iconstV X0.here hx rfl (2 : Int32) (hb hby d4_25) rfl k) ?_
      show OwnOut p e s below 0 0 _ (T.setTop (mkF m 26 #[.val (.ref b0), .val (.int x1), .val (.int x2)] [(.int (2 : Int32)), (.ref b0)]))
      obtain ⟨v3, hv3, hr⟩ := Option.bind_eq_some_iff.mp hr
      refine OwnOut.go (fun t k => ldJ X0 hx hZ e0 A0 hv3 (g := (mkF m 26 #[.val (.ref b0), .val (.int x1), .val (.int x2)] [(.int (2 : Int32)), (.ref b0)])) rfl rfl (hb hby d4_26) t k) ?_
      show OwnOut p e s below 0 0 _ (T.setTop (mkF m 27 #[.val (.ref b0), .val (.int x1), .val (.int x2)] [(.long v3)]))
      refine OwnOut.go (fun t k => XS.aloadN X0.here hx rfl (hb hby d4_27) rfl rfl k) ?_
      show OwnOut p e s below 0 0 _ (T.setTop (mkF m 28 #[.val (.ref b0), .val (.int x1), .val (.int x2)] [(.ref b0), (.long v3)]))
      refine OwnOut.go (fun t k => XS.iloadN X0.here hx rfl (hb hby d4_28) rfl k) ?_
      show OwnOut p e s below 0 0 _ (T.setTop (mkF m 29 #[.val (.ref b0), .val (.int x1), .val (.int x2)] [(.int x2), (.ref b0), (.long v3)]))
      obtain ⟨v4, hv4, hr⟩ := Option.bind_eq_some_iff.mp hr
      refine OwnOut.go (fun t k => ldJ X0 hx hZ e0 A0 hv4 (g := (mkF m 29 #[.val (.ref b0), .val (.int x1), .val (.int x2)] [(.int x2), (.ref b0), (.long v3)])) rfl rfl (hb hby d4_29) t k) ?_
      show OwnOut p e s below 0 0 _ (T.setTop (mkF m 30 #[.val (.ref b0), .val (.int x1), .val (.int x2)] [(.long v4), (.long v3)]))
      refine OwnOut.go (fun t k => XS.lcmp X0.here hx rfl (hb hby d4_30) rfl k) ?_
      show OwnOut p e s below 0 0 _ (T.setTop (mkF m 31 #[.val (.ref b0), .val (.int x1), .val (.int x2)] [(.int (XT.cmpL v3 v4))]))
      by_cases hc31 : v3 < v4
      · rw [if_pos hc31] at hr
        refine OwnOut.go (fun t k => XS.ifNo X0.here hx rfl (hb hby d4_31) rfl (XT.ll_ge_f hc31) k) ?_
        show OwnOut p e s below 0 0 _ (T.setTop (mkF m 34 #[.val (.ref b0), .val (.int x1), .val (.int x2)] []))
        refine OwnOut.go (fun t k => XT.iconstV X0.here hx rfl (2 : Int32) (hb hby d4_34) rfl k) ?_
        show OwnOut p e s below 0 0 _ (T.setTop (mkF m 35 #[.val (.ref b0), .val (.int x1), .val (.int x2)] [(.int (2 : Int32))]))
        refine OwnOut.go (fun t k => XS.istoreN X0.here hx rfl (hb hby d4_35) rfl (l' := #[.val (.ref b0), .val (.int x1), .val (.int (2 : Int32))]) rfl k) ?_
        show OwnOut p e s below 0 0 _ (T.setTop (mkF m 36 #[.val (.ref b0), .val (.int x1), .val (.int (2 : Int32))] []))
        exact w4_36 ⟨hx, hZ, hw, hby, hml, hown, hret, hlk, hnm⟩  _ x1 (2 : Int32) b0 l0 _ hr X0 e0 A0
      · rw [if_neg hc31] at hr
        refine OwnOut.go (fun t k => XS.ifYes X0.here hx rfl (pc0 := 31) (pc' := 36) rfl (hb hby d4_31) rfl (XT.ll_ge_t hc31) (by decide) (by decide) k) ?_
        show OwnOut p e s below 0 0 _ (T.setTop (mkF m 36 #[.val (.ref b0), .val (.int x1), .val (.int x2)] []))
        exact w4_36 ⟨hx, hZ, hw, hby, hml, hown, hret, hlk, hnm⟩  _ x1 x2 b0 l0 _ hr X0 e0 A0
    · rw [if_neg hc21] at hr
      refine OwnOut.go (fun t k => XS.icmpYes X0.here hx rfl (pc0 := 21) (pc' := 36) rfl (hb hby d4_21) rfl (XT.ii_le_t hc21) (by decide) (by decide) k) ?_
      show OwnOut p e s below 0 0 _ (T.setTop (mkF m 36 #[.val (.ref b0), .val (.int x1), .val (.int x2)] []))
      exact w4_36 ⟨hx, hZ, hw, hby, hml, hown, hret, hlk, hnm⟩  _ x1 x2 b0 l0 _ hr X0 e0 A0
def f4 (x1 : Int32) (l0 : List Int64) : Option (Int32) := (if (1 : Int32) < x1 then ((ldx l0 (1 : Int32)).bind fun v1 => ((ldx l0 (0 : Int32)).bind fun v2 => (if v1 < v2 then (f4_19 x1 (1 : Int32) l0) else (f4_19 x1 (0 : Int32) l0)))) else (f4_19 x1 (0 : Int32) l0))
set_option maxRecDepth 65536 in
set_option maxHeartbeats 40000000 in
theorem w4_0 {p : Program} {l : Launch} {e : Env} {s : State} {m : MethodId} {args : Array Value} {below : List Frame} {meth : Method} {c : Code} {Z : State} {a0 : Array Value} {h0 : Heap} (C : Cx4 Z a0 p s m meth c) :
    ∀ (T : State) (x1 : Int32) (b0 : Addr) (l0 : List Int64) (o : Int32), f4 x1 l0 = some o → Stand p l e rx4 s m args below meth c T [] 0 0 → T.heap = h0 → (Arj Z h0 b0 l0) →  OwnOut p e s below 0 0 (Q4 Z default b0 l0 h0 o) (T.setTop (mkF m 0 #[.val (.ref b0), .val (.int x1), .unset] [])) := by
    obtain ⟨hx, hZ, hw, hby, hml, hown, hret, hlk, hnm⟩ := C
    intro T x1 b0 l0 o hr X0 e0 A0
    rw [f4] at hr
    refine OwnOut.go (fun t k => XT.iconstV X0.here hx rfl (0 : Int32) (hb hby d4_0) rfl k) ?_
    show OwnOut p e s below 0 0 _ (T.setTop (mkF m 1 #[.val (.ref b0), .val (.int x1), .unset] [(.int (0 : Int32))]))
    refine OwnOut.go (fun t k => XS.istoreN X0.here hx rfl (hb hby d4_1) rfl (l' := #[.val (.ref b0), .val (.int x1), .val (.int (0 : Int32))]) rfl k) ?_
    show OwnOut p e s below 0 0 _ (T.setTop (mkF m 2 #[.val (.ref b0), .val (.int x1), .val (.int (0 : Int32))] []))
    refine OwnOut.go (fun t k => XS.iloadN X0.here hx rfl (hb hby d4_2) rfl k) ?_
    show OwnOut p e s below 0 0 _ (T.setTop (mkF m 3 #[.val (.ref b0), .val (.int x1), .val (.int (0 : Int32))] [(.int x1)]))
    refine OwnOut.go (fun t k => XT.iconstV X0.here hx rfl (1 : Int32) (hb hby d4_3) rfl k) ?_
    show OwnOut p e s below 0 0 _ (T.setTop (mkF m 4 #[.val (.ref b0), .val (.int x1), .val (.int (0 : Int32))] [(.int (1 : Int32)), (.int x1)]))
    by_cases hc4 : (1 : Int32) < x1
    · rw [if_pos hc4] at hr
      refine OwnOut.go (fun t k => XS.icmpNo X0.here hx rfl (hb hby d4_4) rfl (XT.ii_le_f hc4) k) ?_
      show OwnOut p e s below 0 0 _ (T.setTop (mkF m 7 #[.val (.ref b0), .val (.int x1), .val (.int (0 : Int32))] []))
      refine OwnOut.go (fun t k => XS.aloadN X0.here hx rfl (hb hby d4_7) rfl rfl k) ?_
      show OwnOut p e s below 0 0 _ (T.setTop (mkF m 8 #[.val (.ref b0), .val (.int x1), .val (.int (0 : Int32))] [(.ref b0)]))
      refine OwnOut.go (fun t k => XT.iconstV X0.here hx rfl (1 : Int32) (hb hby d4_8) rfl k) ?_
      show OwnOut p e s below 0 0 _ (T.setTop (mkF m 9 #[.val (.ref b0), .val (.int x1), .val (.int (0 : Int32))] [(.int (1 : Int32)), (.ref b0)]))
      obtain ⟨v1, hv1, hr⟩ := Option.bind_eq_some_iff.mp hr
      refine OwnOut.go (fun t k => ldJ X0 hx hZ e0 A0 hv1 (g := (mkF m 9 #[.val (.ref b0), .val (.int x1), .val (.int (0 : Int32))] [(.int (1 : Int32)), (.ref b0)])) rfl rfl (hb hby d4_9) t k) ?_
      show OwnOut p e s below 0 0 _ (T.setTop (mkF m 10 #[.val (.ref b0), .val (.int x1), .val (.int (0 : Int32))] [(.long v1)]))
      refine OwnOut.go (fun t k => XS.aloadN X0.here hx rfl (hb hby d4_10) rfl rfl k) ?_
      show OwnOut p e s below 0 0 _ (T.setTop (mkF m 11 #[.val (.ref b0), .val (.int x1), .val (.int (0 : Int32))] [(.ref b0), (.long v1)]))
      refine OwnOut.go (fun t k => XS.iloadN X0.here hx rfl (hb hby d4_11) rfl k) ?_
      show OwnOut p e s below 0 0 _ (T.setTop (mkF m 12 #[.val (.ref b0), .val (.int x1), .val (.int (0 : Int32))] [(.int (0 : Int32)), (.ref b0), (.long v1)]))
      obtain ⟨v2, hv2, hr⟩ := Option.bind_eq_some_iff.mp hr
      refine OwnOut.go (fun t k => ldJ X0 hx hZ e0 A0 hv2 (g := (mkF m 12 #[.val (.ref b0), .val (.int x1), .val (.int (0 : Int32))] [(.int (0 : Int32)), (.ref b0), (.long v1)])) rfl rfl (hb hby d4_12) t k) ?_
      show OwnOut p e s below 0 0 _ (T.setTop (mkF m 13 #[.val (.ref b0), .val (.int x1), .val (.int (0 : Int32))] [(.long v2), (.long v1)]))
      refine OwnOut.go (fun t k => XS.lcmp X0.here hx rfl (hb hby d4_13) rfl k) ?_
      show OwnOut p e s below 0 0 _ (T.setTop (mkF m 14 #[.val (.ref b0), .val (.int x1), .val (.int (0 : Int32))] [(.int (XT.cmpL v1 v2))]))
      by_cases hc14 : v1 < v2
      · rw [if_pos hc14] at hr
        refine OwnOut.go (fun t k => XS.ifNo X0.here hx rfl (hb hby d4_14) rfl (XT.ll_ge_f hc14) k) ?_
        show OwnOut p e s below 0 0 _ (T.setTop (mkF m 17 #[.val (.ref b0), .val (.int x1), .val (.int (0 : Int32))] []))
        refine OwnOut.go (fun t k => XT.iconstV X0.here hx rfl (1 : Int32) (hb hby d4_17) rfl k) ?_
        show OwnOut p e s below 0 0 _ (T.setTop (mkF m 18 #[.val (.ref b0), .val (.int x1), .val (.int (0 : Int32))] [(.int (1 : Int32))]))
        refine OwnOut.go (fun t k => XS.istoreN X0.here hx rfl (hb hby d4_18) rfl (l' := #[.val (.ref b0), .val (.int x1), .val (.int (1 : Int32))]) rfl k) ?_
        show OwnOut p e s below 0 0 _ (T.setTop (mkF m 19 #[.val (.ref b0), .val (.int x1), .val (.int (1 : Int32))] []))
        exact w4_19 ⟨hx, hZ, hw, hby, hml, hown, hret, hlk, hnm⟩  _ x1 (1 : Int32) b0 l0 _ hr X0 e0 A0
      · rw [if_neg hc14] at hr
        refine OwnOut.go (fun t k => XS.ifYes X0.here hx rfl (pc0 := 14) (pc' := 19) rfl (hb hby d4_14) rfl (XT.ll_ge_t hc14) (by decide) (by decide) k) ?_
        show OwnOut p e s below 0 0 _ (T.setTop (mkF m 19 #[.val (.ref b0), .val (.int x1), .val (.int (0 : Int32))] []))
        exact w4_19 ⟨hx, hZ, hw, hby, hml, hown, hret, hlk, hnm⟩  _ x1 (0 : Int32) b0 l0 _ hr X0 e0 A0
    · rw [if_neg hc4] at hr
      refine OwnOut.go (fun t k => XS.icmpYes X0.here hx rfl (pc0 := 4) (pc' := 19) rfl (hb hby d4_4) rfl (XT.ii_le_t hc4) (by decide) (by decide) k) ?_
      show OwnOut p e s below 0 0 _ (T.setTop (mkF m 19 #[.val (.ref b0), .val (.int x1), .val (.int (0 : Int32))] []))
      exact w4_19 ⟨hx, hZ, hw, hby, hml, hown, hret, hlk, hnm⟩  _ x1 (0 : Int32) b0 l0 _ hr X0 e0 A0
set_option maxRecDepth 65536 in
set_option maxHeartbeats 40000000 in
theorem rm4 (l : Launch) (Z : State) (a0 : Array Value) (hw : ∀ d ∈ tables_1, d.before a0 Z = true) (ws : List Jvm.Cond) (x1 : Int32) (b0 : Addr) (l0 : List Int64) (h0 : Heap) (o : Int32) (hr : f4 x1 l0 = some o) (A0 : Arj Z h0 b0 l0) :
    MetFree l (⟨"com/example/porter_drive/porterdrive/RequestQueueDelayFirstPinLaw", "first", "([JI)I"⟩ : MethodName) (head1 (Jvm.Cond.code (⟨"com/example/porter_drive/porterdrive/RequestQueueDelayFirstPinLaw", "first", "([JI)I"⟩ : MethodName) method_4_code 3 (some .int) :: ws) rx4) (fun a U => a = #[(.ref b0), (.int x1)] ∧ Z.Warmed39 U.vm ∧ U.heap = h0) (fun _ _ _ _ _ => True) (fun _ U o' U' => ∃ v L, o' = .returned v ∧ Q4 Z x1 b0 l0 h0 o v U'.heap L ∧ FrameEnd U o' U' L rx4.cells rx4.slots) := by
  refine MetFree.of_bodySF (plainFor_of_name pn4) hisR ?_
  intro p e s m args below meth c s₁ Bd hml0 hP hK
  obtain ⟨rfl, hZ, hh⟩ := hP
  have X0 : Stand p l e rx4 s m #[(.ref b0), (.int x1)] below meth c s₁ [] 0 0 := Stand.of_body Bd
  have e0 : s₁.heap = h0 := by rw [← hh, Bd.state]; rfl
  exact OwnOut.at (ef4 m b0 x1) (w4_0 ⟨Bd.exec, hZ, hw, Bd.bytes, hml0, findClass_of_methodNamed Bd.named, Bd.returns, Bd.notSynchronized, (name_of_methodNamed Bd.named Bd.method).1⟩ _ x1 b0 l0 o hr X0 e0  A0)
-- body 5 as 5: java/lang/Math.max:(JJ)J (touches nothing)
theorem d5_0 : decode jdk_29_method_66_code 0 = .ok (.lload_n 0, 1) := by decide +kernel
theorem d5_1 : decode jdk_29_method_66_code 1 = .ok (.lload_n 2, 1) := by decide +kernel
theorem d5_2 : decode jdk_29_method_66_code 2 = .ok (.lcmp, 1) := by decide +kernel
theorem d5_3 : decode jdk_29_method_66_code 3 = .ok (.ifCond .lt 7, 3) := by decide +kernel
theorem d5_6 : decode jdk_29_method_66_code 6 = .ok (.lload_n 0, 1) := by decide +kernel
theorem d5_7 : decode jdk_29_method_66_code 7 = .ok (.goto 4, 3) := by decide +kernel
theorem d5_10 : decode jdk_29_method_66_code 10 = .ok (.lload_n 2, 1) := by decide +kernel
theorem d5_11 : decode jdk_29_method_66_code 11 = .ok (.lreturn, 1) := by decide +kernel
theorem pd5 : parseMethodDescriptor "(JJ)J" = some ⟨[.long, .long], some .long⟩ := by decide +kernel
theorem ef5 (m : MethodId) (x0 : Int64) (x2 : Int64) : entryFrame m #[(.long x0), (.long x2)] 4 = mkF m 0 #[.val (.long x0), .second, .val (.long x2), .second] [] := by first | (simp [entryFrame, mkF, argsToLocals, Value.category]; done) | rfl
abbrev rx5 : Room := { frames := 0, cells := 0, slots := 0, locals := 0 }
abbrev Cx5 (Z : State) (a0 : Array Value) (p : Program) (s : State) (m : MethodId) (meth : Method) (c : Code) : Prop := p.tables.exec = Jvm.exec ∧ Z.Warmed39 s.vm ∧ (∀ d ∈ tables_1, d.before a0 Z = true) ∧ c.code = jdk_29_method_66_code ∧ c.maxLocals = 4 ∧ s.vm.findClass "java/lang/Math" = some m.cls ∧ meth.sig.returnType = (some .long) ∧ meth.locks = false ∧ meth.name = "max"
def Q5 (Z : State) (x0 : Int64) (x2 : Int64) (h0 : Heap) (o : Int64) (v : Option Value) (h : Heap) (L : List Loc) : Prop := v = some (.long o) ∧ h = h0 ∧ L = []
def f5 (x0 : Int64) (x2 : Int64) : Option (Int64) := (if x0 < x2 then some (x2) else some (x0))
set_option maxRecDepth 65536 in
set_option maxHeartbeats 40000000 in
theorem w5_0 {p : Program} {l : Launch} {e : Env} {s : State} {m : MethodId} {args : Array Value} {below : List Frame} {meth : Method} {c : Code} {Z : State} {a0 : Array Value} {h0 : Heap} (C : Cx5 Z a0 p s m meth c) :
    ∀ (T : State) (x0 : Int64) (x2 : Int64) (o : Int64), f5 x0 x2 = some o → Stand p l e rx5 s m args below meth c T [] 0 0 → T.heap = h0 →  OwnOut p e s below 0 0 (Q5 Z default default h0 o) (T.setTop (mkF m 0 #[.val (.long x0), .second, .val (.long x2), .second] [])) := by
    obtain ⟨hx, hZ, hw, hby, hml, hown, hret, hlk, hnm⟩ := C
    intro T x0 x2 o hr X0 e0
    rw [f5] at hr
    refine OwnOut.go (fun t k => XS.lloadN X0.here hx rfl (hb hby d5_0) rfl k) ?_
    show OwnOut p e s below 0 0 _ (T.setTop (mkF m 1 #[.val (.long x0), .second, .val (.long x2), .second] [(.long x0)]))
    refine OwnOut.go (fun t k => XS.lloadN X0.here hx rfl (hb hby d5_1) rfl k) ?_
    show OwnOut p e s below 0 0 _ (T.setTop (mkF m 2 #[.val (.long x0), .second, .val (.long x2), .second] [(.long x2), (.long x0)]))
    refine OwnOut.go (fun t k => XS.lcmp X0.here hx rfl (hb hby d5_2) rfl k) ?_
    show OwnOut p e s below 0 0 _ (T.setTop (mkF m 3 #[.val (.long x0), .second, .val (.long x2), .second] [(.int (XT.cmpL x0 x2))]))
    by_cases hc3 : x0 < x2
    · rw [if_pos hc3] at hr
      refine OwnOut.go (fun t k => XS.ifYes X0.here hx rfl (pc0 := 3) (pc' := 10) rfl (hb hby d5_3) rfl (XT.ll_lt_t hc3) (by decide) (by decide) k) ?_
      show OwnOut p e s below 0 0 _ (T.setTop (mkF m 10 #[.val (.long x0), .second, .val (.long x2), .second] []))
      refine OwnOut.go (fun t k => XS.lloadN X0.here hx rfl (hb hby d5_10) rfl k) ?_
      show OwnOut p e s below 0 0 _ (T.setTop (mkF m 11 #[.val (.long x0), .second, .val (.long x2), .second] [(.long x2)]))
      cases hr
      exact outJ X0 hx hret (hb hby d5_11) hlk (by decide) (by decide) ⟨rfl, e0, rfl⟩
    · rw [if_neg hc3] at hr
      refine OwnOut.go (fun t k => XS.ifNo X0.here hx rfl (hb hby d5_3) rfl (XT.ll_lt_f hc3) k) ?_
      show OwnOut p e s below 0 0 _ (T.setTop (mkF m 6 #[.val (.long x0), .second, .val (.long x2), .second] []))
      refine OwnOut.go (fun t k => XS.lloadN X0.here hx rfl (hb hby d5_6) rfl k) ?_
      show OwnOut p e s below 0 0 _ (T.setTop (mkF m 7 #[.val (.long x0), .second, .val (.long x2), .second] [(.long x0)]))
      refine OwnOut.go (fun t k => XS.goto X0.here hx rfl (pc0 := 7) (pc' := 11) rfl (hb hby d5_7) (by decide) (by decide) k) ?_
      show OwnOut p e s below 0 0 _ (T.setTop (mkF m 11 #[.val (.long x0), .second, .val (.long x2), .second] [(.long x0)]))
      cases hr
      exact outJ X0 hx hret (hb hby d5_11) hlk (by decide) (by decide) ⟨rfl, e0, rfl⟩
set_option maxRecDepth 65536 in
set_option maxHeartbeats 40000000 in
theorem rm5 (l : Launch) (Z : State) (a0 : Array Value) (hw : ∀ d ∈ tables_1, d.before a0 Z = true) (ws : List Jvm.Cond) (x0 : Int64) (x2 : Int64) (h0 : Heap) (o : Int64) (hr : f5 x0 x2 = some o) :
    MetFree l (⟨"java/lang/Math", "max", "(JJ)J"⟩ : MethodName) (head1 (Jvm.Cond.code (⟨"java/lang/Math", "max", "(JJ)J"⟩ : MethodName) jdk_29_method_66_code 4 (some .long) :: ws) rx5) (fun a U => a = #[(.long x0), (.long x2)] ∧ Z.Warmed39 U.vm ∧ U.heap = h0) (fun _ _ _ _ _ => True) (fun _ U o' U' => ∃ v L, o' = .returned v ∧ Q5 Z x0 x2 h0 o v U'.heap L ∧ FrameEnd U o' U' L rx5.cells rx5.slots) := by
  refine MetFree.of_bodySF (Jvm.Free.JP.mathPlain rfl (by decide +kernel)) hisR ?_
  intro p e s m args below meth c s₁ Bd hml0 hP hK
  obtain ⟨rfl, hZ, hh⟩ := hP
  have X0 : Stand p l e rx5 s m #[(.long x0), (.long x2)] below meth c s₁ [] 0 0 := Stand.of_body Bd
  have e0 : s₁.heap = h0 := by rw [← hh, Bd.state]; rfl
  exact OwnOut.at (ef5 m x0 x2) (w5_0 ⟨Bd.exec, hZ, hw, Bd.bytes, hml0, findClass_of_methodNamed Bd.named, Bd.returns, Bd.notSynchronized, (name_of_methodNamed Bd.named Bd.method).1⟩ _ x0 x2 o hr X0 e0  )
-- body 10 as 10: com/example/porter_drive/porterdrive/RequestQueue.isBefore:(JIJI)Z (touches nothing)
theorem d10_0 : decode prog_24_method_8_code 0 = .ok (.lload_n 0, 1) := by decide +kernel
theorem d10_1 : decode prog_24_method_8_code 1 = .ok (.lload_n 3, 1) := by decide +kernel
theorem d10_2 : decode prog_24_method_8_code 2 = .ok (.lcmp, 1) := by decide +kernel
theorem d10_3 : decode prog_24_method_8_code 3 = .ok (.ifCond .lt 15, 3) := by decide +kernel
theorem d10_6 : decode prog_24_method_8_code 6 = .ok (.lload_n 0, 1) := by decide +kernel
theorem d10_7 : decode prog_24_method_8_code 7 = .ok (.lload_n 3, 1) := by decide +kernel
theorem d10_8 : decode prog_24_method_8_code 8 = .ok (.lcmp, 1) := by decide +kernel
theorem d10_9 : decode prog_24_method_8_code 9 = .ok (.ifCond .ne 13, 3) := by decide +kernel
theorem d10_12 : decode prog_24_method_8_code 12 = .ok (.iload_n 2, 1) := by decide +kernel
theorem d10_13 : decode prog_24_method_8_code 13 = .ok (.iload 5, 2) := by decide +kernel
theorem d10_15 : decode prog_24_method_8_code 15 = .ok (.if_icmp .ge 7, 3) := by decide +kernel
theorem d10_18 : decode prog_24_method_8_code 18 = .ok (.iconst 1, 1) := by decide +kernel
theorem d10_19 : decode prog_24_method_8_code 19 = .ok (.goto 4, 3) := by decide +kernel
theorem d10_22 : decode prog_24_method_8_code 22 = .ok (.iconst 0, 1) := by decide +kernel
theorem d10_23 : decode prog_24_method_8_code 23 = .ok (.ireturn, 1) := by decide +kernel
theorem pn10 : plainName "com/example/porter_drive/porterdrive/RequestQueue" = true := by first | (simp [plainName, overriddenIn]; done) | decide +kernel
theorem pd10 : parseMethodDescriptor "(JIJI)Z" = some ⟨[.long, .int, .long, .int], some .boolean⟩ := by decide +kernel
theorem ef10 (m : MethodId) (x0 : Int64) (x2 : Int32) (x3 : Int64) (x5 : Int32) : entryFrame m #[(.long x0), (.int x2), (.long x3), (.int x5)] 6 = mkF m 0 #[.val (.long x0), .second, .val (.int x2), .val (.long x3), .second, .val (.int x5)] [] := by first | (simp [entryFrame, mkF, argsToLocals, Value.category]; done) | rfl
abbrev rx10 : Room := { frames := 0, cells := 0, slots := 0, locals := 0 }
abbrev Cx10 (Z : State) (a0 : Array Value) (p : Program) (s : State) (m : MethodId) (meth : Method) (c : Code) : Prop := p.tables.exec = Jvm.exec ∧ Z.Warmed39 s.vm ∧ (∀ d ∈ tables_1, d.before a0 Z = true) ∧ c.code = prog_24_method_8_code ∧ c.maxLocals = 6 ∧ s.vm.findClass "com/example/porter_drive/porterdrive/RequestQueue" = some m.cls ∧ meth.sig.returnType = (some .boolean) ∧ meth.locks = false ∧ meth.name = "isBefore"
def Q10 (Z : State) (x0 : Int64) (x2 : Int32) (x3 : Int64) (x5 : Int32) (h0 : Heap) (o : Int32) (v : Option Value) (h : Heap) (L : List Loc) : Prop := v = some (.int o) ∧ h = h0 ∧ L = []
def f10 (x0 : Int64) (x2 : Int32) (x3 : Int64) (x5 : Int32) : Option (Int32) := (if x0 < x3 then some ((1 : Int32)) else (if x0 = x3 then (if x2 < x5 then some ((1 : Int32)) else some ((0 : Int32))) else some ((0 : Int32))))
set_option maxRecDepth 65536 in
set_option maxHeartbeats 40000000 in
theorem w10_0 {p : Program} {l : Launch} {e : Env} {s : State} {m : MethodId} {args : Array Value} {below : List Frame} {meth : Method} {c : Code} {Z : State} {a0 : Array Value} {h0 : Heap} (C : Cx10 Z a0 p s m meth c) :
    ∀ (T : State) (x0 : Int64) (x2 : Int32) (x3 : Int64) (x5 : Int32) (o : Int32), f10 x0 x2 x3 x5 = some o → Stand p l e rx10 s m args below meth c T [] 0 0 → T.heap = h0 →  OwnOut p e s below 0 0 (Q10 Z default default default default h0 o) (T.setTop (mkF m 0 #[.val (.long x0), .second, .val (.int x2), .val (.long x3), .second, .val (.int x5)] [])) := by
    obtain ⟨hx, hZ, hw, hby, hml, hown, hret, hlk, hnm⟩ := C
    intro T x0 x2 x3 x5 o hr X0 e0
    rw [f10] at hr
    refine OwnOut.go (fun t k => XS.lloadN X0.here hx rfl (hb hby d10_0) rfl k) ?_
    show OwnOut p e s below 0 0 _ (T.setTop (mkF m 1 #[.val (.long x0), .second, .val (.int x2), .val (.long x3), .second, .val (.int x5)] [(.long x0)]))
    refine OwnOut.go (fun t k => XS.lloadN X0.here hx rfl (hb hby d10_1) rfl k) ?_
    show OwnOut p e s below 0 0 _ (T.setTop (mkF m 2 #[.val (.long x0), .second, .val (.int x2), .val (.long x3), .second, .val (.int x5)] [(.long x3), (.long x0)]))
    refine OwnOut.go (fun t k => XS.lcmp X0.here hx rfl (hb hby d10_2) rfl k) ?_
    show OwnOut p e s below 0 0 _ (T.setTop (mkF m 3 #[.val (.long x0), .second, .val (.int x2), .val (.long x3), .second, .val (.int x5)] [(.int (XT.cmpL x0 x3))]))
    by_cases hc3 : x0 < x3
    · rw [if_pos hc3] at hr
      refine OwnOut.go (fun t k => XS.ifYes X0.here hx rfl (pc0 := 3) (pc' := 18) rfl (hb hby d10_3) rfl (XT.ll_lt_t hc3) (by decide) (by decide) k) ?_
      show OwnOut p e s below 0 0 _ (T.setTop (mkF m 18 #[.val (.long x0), .second, .val (.int x2), .val (.long x3), .second, .val (.int x5)] []))
      refine OwnOut.go (fun t k => XT.iconstV X0.here hx rfl (1 : Int32) (hb hby d10_18) rfl k) ?_
      show OwnOut p e s below 0 0 _ (T.setTop (mkF m 19 #[.val (.long x0), .second, .val (.int x2), .val (.long x3), .second, .val (.int x5)] [(.int (1 : Int32))]))
      refine OwnOut.go (fun t k => XS.goto X0.here hx rfl (pc0 := 19) (pc' := 23) rfl (hb hby d10_19) (by decide) (by decide) k) ?_
      show OwnOut p e s below 0 0 _ (T.setTop (mkF m 23 #[.val (.long x0), .second, .val (.int x2), .val (.long x3), .second, .val (.int x5)] [(.int (1 : Int32))]))
      cases hr
      exact outZ X0 hx hret (hb hby d10_23) hlk (by decide) (by decide) ⟨rfl, e0, rfl⟩
    · rw [if_neg hc3] at hr
      refine OwnOut.go (fun t k => XS.ifNo X0.here hx rfl (hb hby d10_3) rfl (XT.ll_lt_f hc3) k) ?_
      show OwnOut p e s below 0 0 _ (T.setTop (mkF m 6 #[.val (.long x0), .second, .val (.int x2), .val (.long x3), .second, .val (.int x5)] []))
      refine OwnOut.go (fun t k => XS.lloadN X0.here hx rfl (hb hby d10_6) rfl k) ?_
      show OwnOut p e s below 0 0 _ (T.setTop (mkF m 7 #[.val (.long x0), .second, .val (.int x2), .val (.long x3), .second, .val (.int x5)] [(.long x0)]))
      refine OwnOut.go (fun t k => XS.lloadN X0.here hx rfl (hb hby d10_7) rfl k) ?_
      show OwnOut p e s below 0 0 _ (T.setTop (mkF m 8 #[.val (.long x0), .second, .val (.int x2), .val (.long x3), .second, .val (.int x5)] [(.long x3), (.long x0)]))
      refine OwnOut.go (fun t k => XS.lcmp X0.here hx rfl (hb hby d10_8) rfl k) ?_
      show OwnOut p e s below 0 0 _ (T.setTop (mkF m 9 #[.val (.long x0), .second, .val (.int x2), .val (.long x3), .second, .val (.int x5)] [(.int (XT.cmpL x0 x3))]))
      by_cases hc9 : x0 = x3
      · rw [if_pos hc9] at hr
        refine OwnOut.go (fun t k => XS.ifNo X0.here hx rfl (hb hby d10_9) rfl (XT.ll_ne_f hc9) k) ?_
        show OwnOut p e s below 0 0 _ (T.setTop (mkF m 12 #[.val (.long x0), .second, .val (.int x2), .val (.long x3), .second, .val (.int x5)] []))
        refine OwnOut.go (fun t k => XS.iloadN X0.here hx rfl (hb hby d10_12) rfl k) ?_
        show OwnOut p e s below 0 0 _ (T.setTop (mkF m 13 #[.val (.long x0), .second, .val (.int x2), .val (.long x3), .second, .val (.int x5)] [(.int x2)]))
        refine OwnOut.go (fun t k => XS.iload X0.here hx rfl (hb hby d10_13) rfl k) ?_
        show OwnOut p e s below 0 0 _ (T.setTop (mkF m 15 #[.val (.long x0), .second, .val (.int x2), .val (.long x3), .second, .val (.int x5)] [(.int x5), (.int x2)]))
        by_cases hc15 : x2 < x5
        · rw [if_pos hc15] at hr
          refine OwnOut.go (fun t k => XS.icmpNo X0.here hx rfl (hb hby d10_15) rfl (XT.ii_ge_f hc15) k) ?_
          show OwnOut p e s below 0 0 _ (T.setTop (mkF m 18 #[.val (.long x0), .second, .val (.int x2), .val (.long x3), .second, .val (.int x5)] []))
          refine OwnOut.go (fun t k => XT.iconstV X0.here hx rfl (1 : Int32) (hb hby d10_18) rfl k) ?_
          show OwnOut p e s below 0 0 _ (T.setTop (mkF m 19 #[.val (.long x0), .second, .val (.int x2), .val (.long x3), .second, .val (.int x5)] [(.int (1 : Int32))]))
          refine OwnOut.go (fun t k => XS.goto X0.here hx rfl (pc0 := 19) (pc' := 23) rfl (hb hby d10_19) (by decide) (by decide) k) ?_
          show OwnOut p e s below 0 0 _ (T.setTop (mkF m 23 #[.val (.long x0), .second, .val (.int x2), .val (.long x3), .second, .val (.int x5)] [(.int (1 : Int32))]))
          cases hr
          exact outZ X0 hx hret (hb hby d10_23) hlk (by decide) (by decide) ⟨rfl, e0, rfl⟩
        · rw [if_neg hc15] at hr
          refine OwnOut.go (fun t k => XS.icmpYes X0.here hx rfl (pc0 := 15) (pc' := 22) rfl (hb hby d10_15) rfl (XT.ii_ge_t hc15) (by decide) (by decide) k) ?_
          show OwnOut p e s below 0 0 _ (T.setTop (mkF m 22 #[.val (.long x0), .second, .val (.int x2), .val (.long x3), .second, .val (.int x5)] []))
          refine OwnOut.go (fun t k => XT.iconstV X0.here hx rfl (0 : Int32) (hb hby d10_22) rfl k) ?_
          show OwnOut p e s below 0 0 _ (T.setTop (mkF m 23 #[.val (.long x0), .second, .val (.int x2), .val (.long x3), .second, .val (.int x5)] [(.int (0 : Int32))]))
          cases hr
          exact outZ X0 hx hret (hb hby d10_23) hlk (by decide) (by decide) ⟨rfl, e0, rfl⟩
      · rw [if_neg hc9] at hr
        refine OwnOut.go (fun t k => XS.ifYes X0.here hx rfl (pc0 := 9) (pc' := 22) rfl (hb hby d10_9) rfl (XT.ll_ne_t hc9) (by decide) (by decide) k) ?_
        show OwnOut p e s below 0 0 _ (T.setTop (mkF m 22 #[.val (.long x0), .second, .val (.int x2), .val (.long x3), .second, .val (.int x5)] []))
        refine OwnOut.go (fun t k => XT.iconstV X0.here hx rfl (0 : Int32) (hb hby d10_22) rfl k) ?_
        show OwnOut p e s below 0 0 _ (T.setTop (mkF m 23 #[.val (.long x0), .second, .val (.int x2), .val (.long x3), .second, .val (.int x5)] [(.int (0 : Int32))]))
        cases hr
        exact outZ X0 hx hret (hb hby d10_23) hlk (by decide) (by decide) ⟨rfl, e0, rfl⟩
set_option maxRecDepth 65536 in
set_option maxHeartbeats 40000000 in
theorem rm10 (l : Launch) (Z : State) (a0 : Array Value) (hw : ∀ d ∈ tables_1, d.before a0 Z = true) (ws : List Jvm.Cond) (x0 : Int64) (x2 : Int32) (x3 : Int64) (x5 : Int32) (h0 : Heap) (o : Int32) (hr : f10 x0 x2 x3 x5 = some o) :
    MetFree l (⟨"com/example/porter_drive/porterdrive/RequestQueue", "isBefore", "(JIJI)Z"⟩ : MethodName) (head1 (Jvm.Cond.code (⟨"com/example/porter_drive/porterdrive/RequestQueue", "isBefore", "(JIJI)Z"⟩ : MethodName) prog_24_method_8_code 6 (some .boolean) :: ws) rx10) (fun a U => a = #[(.long x0), (.int x2), (.long x3), (.int x5)] ∧ Z.Warmed39 U.vm ∧ U.heap = h0) (fun _ _ _ _ _ => True) (fun _ U o' U' => ∃ v L, o' = .returned v ∧ Q10 Z x0 x2 x3 x5 h0 o v U'.heap L ∧ FrameEnd U o' U' L rx10.cells rx10.slots) := by
  refine MetFree.of_bodySF (plainFor_of_name pn10) hisR ?_
  intro p e s m args below meth c s₁ Bd hml0 hP hK
  obtain ⟨rfl, hZ, hh⟩ := hP
  have X0 : Stand p l e rx10 s m #[(.long x0), (.int x2), (.long x3), (.int x5)] below meth c s₁ [] 0 0 := Stand.of_body Bd
  have e0 : s₁.heap = h0 := by rw [← hh, Bd.state]; rfl
  exact OwnOut.at (ef10 m x0 x2 x3 x5) (w10_0 ⟨Bd.exec, hZ, hw, Bd.bytes, hml0, findClass_of_methodNamed Bd.named, Bd.returns, Bd.notSynchronized, (name_of_methodNamed Bd.named Bd.method).1⟩ _ x0 x2 x3 x5 o hr X0 e0  )
-- body 7 as 7: com/example/porter_drive/porterdrive/RequestQueue.siftDown:()V
theorem d7_0 : decode prog_24_method_7_code 0 = .ok (.aload_n 0, 1) := by decide +kernel
theorem d7_1 : decode prog_24_method_7_code 1 = .ok (.getfield 7, 3) := by decide +kernel
theorem d7_4 : decode prog_24_method_7_code 4 = .ok (.iconst 0, 1) := by decide +kernel
theorem d7_5 : decode prog_24_method_7_code 5 = .ok (.laload, 1) := by decide +kernel
theorem d7_6 : decode prog_24_method_7_code 6 = .ok (.lstore_n 1, 1) := by decide +kernel
theorem d7_7 : decode prog_24_method_7_code 7 = .ok (.aload_n 0, 1) := by decide +kernel
theorem d7_8 : decode prog_24_method_7_code 8 = .ok (.getfield 13, 3) := by decide +kernel
theorem d7_11 : decode prog_24_method_7_code 11 = .ok (.iconst 0, 1) := by decide +kernel
theorem d7_12 : decode prog_24_method_7_code 12 = .ok (.iaload, 1) := by decide +kernel
theorem d7_13 : decode prog_24_method_7_code 13 = .ok (.istore_n 3, 1) := by decide +kernel
theorem d7_14 : decode prog_24_method_7_code 14 = .ok (.iconst 0, 1) := by decide +kernel
theorem d7_15 : decode prog_24_method_7_code 15 = .ok (.istore 4, 2) := by decide +kernel
theorem d7_17 : decode prog_24_method_7_code 17 = .ok (.iconst 1, 1) := by decide +kernel
theorem d7_18 : decode prog_24_method_7_code 18 = .ok (.istore 5, 2) := by decide +kernel
theorem d7_20 : decode prog_24_method_7_code 20 = .ok (.iload 5, 2) := by decide +kernel
theorem d7_22 : decode prog_24_method_7_code 22 = .ok (.aload_n 0, 1) := by decide +kernel
theorem d7_23 : decode prog_24_method_7_code 23 = .ok (.getfield 17, 3) := by decide +kernel
theorem d7_26 : decode prog_24_method_7_code 26 = .ok (.if_icmp .ge 123, 3) := by decide +kernel
theorem d7_29 : decode prog_24_method_7_code 29 = .ok (.iload 5, 2) := by decide +kernel
theorem d7_31 : decode prog_24_method_7_code 31 = .ok (.iconst 1, 1) := by decide +kernel
theorem d7_32 : decode prog_24_method_7_code 32 = .ok (.iadd, 1) := by decide +kernel
theorem d7_33 : decode prog_24_method_7_code 33 = .ok (.aload_n 0, 1) := by decide +kernel
theorem d7_34 : decode prog_24_method_7_code 34 = .ok (.getfield 17, 3) := by decide +kernel
theorem d7_37 : decode prog_24_method_7_code 37 = .ok (.if_icmp .ge 44, 3) := by decide +kernel
theorem d7_40 : decode prog_24_method_7_code 40 = .ok (.aload_n 0, 1) := by decide +kernel
theorem d7_41 : decode prog_24_method_7_code 41 = .ok (.getfield 7, 3) := by decide +kernel
theorem d7_44 : decode prog_24_method_7_code 44 = .ok (.iload 5, 2) := by decide +kernel
theorem d7_46 : decode prog_24_method_7_code 46 = .ok (.iconst 1, 1) := by decide +kernel
theorem d7_47 : decode prog_24_method_7_code 47 = .ok (.iadd, 1) := by decide +kernel
theorem d7_48 : decode prog_24_method_7_code 48 = .ok (.laload, 1) := by decide +kernel
theorem d7_49 : decode prog_24_method_7_code 49 = .ok (.aload_n 0, 1) := by decide +kernel
theorem d7_50 : decode prog_24_method_7_code 50 = .ok (.getfield 13, 3) := by decide +kernel
theorem d7_53 : decode prog_24_method_7_code 53 = .ok (.iload 5, 2) := by decide +kernel
theorem d7_55 : decode prog_24_method_7_code 55 = .ok (.iconst 1, 1) := by decide +kernel
theorem d7_56 : decode prog_24_method_7_code 56 = .ok (.iadd, 1) := by decide +kernel
theorem d7_57 : decode prog_24_method_7_code 57 = .ok (.iaload, 1) := by decide +kernel
theorem d7_58 : decode prog_24_method_7_code 58 = .ok (.aload_n 0, 1) := by decide +kernel
theorem d7_59 : decode prog_24_method_7_code 59 = .ok (.getfield 7, 3) := by decide +kernel
theorem d7_62 : decode prog_24_method_7_code 62 = .ok (.iload 5, 2) := by decide +kernel
theorem d7_64 : decode prog_24_method_7_code 64 = .ok (.laload, 1) := by decide +kernel
theorem d7_65 : decode prog_24_method_7_code 65 = .ok (.aload_n 0, 1) := by decide +kernel
theorem d7_66 : decode prog_24_method_7_code 66 = .ok (.getfield 13, 3) := by decide +kernel
theorem d7_69 : decode prog_24_method_7_code 69 = .ok (.iload 5, 2) := by decide +kernel
theorem d7_71 : decode prog_24_method_7_code 71 = .ok (.iaload, 1) := by decide +kernel
theorem d7_72 : decode prog_24_method_7_code 72 = .ok (.invokestatic 24, 3) := by decide +kernel
theorem d7_75 : decode prog_24_method_7_code 75 = .ok (.ifCond .eq 6, 3) := by decide +kernel
theorem d7_78 : decode prog_24_method_7_code 78 = .ok (.iinc 5 1, 3) := by decide +kernel
theorem d7_81 : decode prog_24_method_7_code 81 = .ok (.aload_n 0, 1) := by decide +kernel
theorem d7_82 : decode prog_24_method_7_code 82 = .ok (.getfield 7, 3) := by decide +kernel
theorem d7_85 : decode prog_24_method_7_code 85 = .ok (.iload 5, 2) := by decide +kernel
theorem d7_87 : decode prog_24_method_7_code 87 = .ok (.laload, 1) := by decide +kernel
theorem d7_88 : decode prog_24_method_7_code 88 = .ok (.aload_n 0, 1) := by decide +kernel
theorem d7_89 : decode prog_24_method_7_code 89 = .ok (.getfield 13, 3) := by decide +kernel
theorem d7_92 : decode prog_24_method_7_code 92 = .ok (.iload 5, 2) := by decide +kernel
theorem d7_94 : decode prog_24_method_7_code 94 = .ok (.iaload, 1) := by decide +kernel
theorem d7_95 : decode prog_24_method_7_code 95 = .ok (.lload_n 1, 1) := by decide +kernel
theorem d7_96 : decode prog_24_method_7_code 96 = .ok (.iload_n 3, 1) := by decide +kernel
theorem d7_97 : decode prog_24_method_7_code 97 = .ok (.invokestatic 24, 3) := by decide +kernel
theorem d7_100 : decode prog_24_method_7_code 100 = .ok (.ifCond .ne 6, 3) := by decide +kernel
theorem d7_103 : decode prog_24_method_7_code 103 = .ok (.goto 46, 3) := by decide +kernel
theorem d7_106 : decode prog_24_method_7_code 106 = .ok (.aload_n 0, 1) := by decide +kernel
theorem d7_107 : decode prog_24_method_7_code 107 = .ok (.getfield 7, 3) := by decide +kernel
theorem d7_110 : decode prog_24_method_7_code 110 = .ok (.iload 4, 2) := by decide +kernel
theorem d7_112 : decode prog_24_method_7_code 112 = .ok (.aload_n 0, 1) := by decide +kernel
theorem d7_113 : decode prog_24_method_7_code 113 = .ok (.getfield 7, 3) := by decide +kernel
theorem d7_116 : decode prog_24_method_7_code 116 = .ok (.iload 5, 2) := by decide +kernel
theorem d7_118 : decode prog_24_method_7_code 118 = .ok (.laload, 1) := by decide +kernel
theorem d7_119 : decode prog_24_method_7_code 119 = .ok (.lastore, 1) := by decide +kernel
theorem d7_120 : decode prog_24_method_7_code 120 = .ok (.aload_n 0, 1) := by decide +kernel
theorem d7_121 : decode prog_24_method_7_code 121 = .ok (.getfield 13, 3) := by decide +kernel
theorem d7_124 : decode prog_24_method_7_code 124 = .ok (.iload 4, 2) := by decide +kernel
theorem d7_126 : decode prog_24_method_7_code 126 = .ok (.aload_n 0, 1) := by decide +kernel
theorem d7_127 : decode prog_24_method_7_code 127 = .ok (.getfield 13, 3) := by decide +kernel
theorem d7_130 : decode prog_24_method_7_code 130 = .ok (.iload 5, 2) := by decide +kernel
theorem d7_132 : decode prog_24_method_7_code 132 = .ok (.iaload, 1) := by decide +kernel
theorem d7_133 : decode prog_24_method_7_code 133 = .ok (.iastore, 1) := by decide +kernel
theorem d7_134 : decode prog_24_method_7_code 134 = .ok (.iload 5, 2) := by decide +kernel
theorem d7_136 : decode prog_24_method_7_code 136 = .ok (.istore 4, 2) := by decide +kernel
theorem d7_138 : decode prog_24_method_7_code 138 = .ok (.iconst 2, 1) := by decide +kernel
theorem d7_139 : decode prog_24_method_7_code 139 = .ok (.iload 4, 2) := by decide +kernel
theorem d7_141 : decode prog_24_method_7_code 141 = .ok (.imul, 1) := by decide +kernel
theorem d7_142 : decode prog_24_method_7_code 142 = .ok (.iconst 1, 1) := by decide +kernel
theorem d7_143 : decode prog_24_method_7_code 143 = .ok (.iadd, 1) := by decide +kernel
theorem d7_144 : decode prog_24_method_7_code 144 = .ok (.istore 5, 2) := by decide +kernel
theorem d7_146 : decode prog_24_method_7_code 146 = .ok (.goto (-126), 3) := by decide +kernel
theorem d7_149 : decode prog_24_method_7_code 149 = .ok (.aload_n 0, 1) := by decide +kernel
theorem d7_150 : decode prog_24_method_7_code 150 = .ok (.getfield 7, 3) := by decide +kernel
theorem d7_153 : decode prog_24_method_7_code 153 = .ok (.iload 4, 2) := by decide +kernel
theorem d7_155 : decode prog_24_method_7_code 155 = .ok (.lload_n 1, 1) := by decide +kernel
theorem d7_156 : decode prog_24_method_7_code 156 = .ok (.lastore, 1) := by decide +kernel
theorem d7_157 : decode prog_24_method_7_code 157 = .ok (.aload_n 0, 1) := by decide +kernel
theorem d7_158 : decode prog_24_method_7_code 158 = .ok (.getfield 13, 3) := by decide +kernel
theorem d7_161 : decode prog_24_method_7_code 161 = .ok (.iload 4, 2) := by decide +kernel
theorem d7_163 : decode prog_24_method_7_code 163 = .ok (.iload_n 3, 1) := by decide +kernel
theorem d7_164 : decode prog_24_method_7_code 164 = .ok (.iastore, 1) := by decide +kernel
theorem d7_165 : decode prog_24_method_7_code 165 = .ok (.return_, 1) := by decide +kernel
theorem pn7 : plainName "com/example/porter_drive/porterdrive/RequestQueue" = true := by first | (simp [plainName, overriddenIn]; done) | decide +kernel
theorem pd7 : parseMethodDescriptor "()V" = some ⟨[], none⟩ := by decide +kernel
theorem ef7 (m : MethodId) (b0 : Addr) : entryFrame m #[(.ref b0)] 6 = mkF m 0 #[.val (.ref b0), .unset, .unset, .unset, .unset, .unset] [] := by first | (simp [entryFrame, mkF, argsToLocals, Value.category]; done) | rfl
abbrev rx7 : Room := { frames := 1, cells := 0, slots := 0, locals := 17 }
abbrev Cx7 (Z : State) (a0 : Array Value) (p : Program) (s : State) (m : MethodId) (meth : Method) (c : Code) : Prop := p.tables.exec = Jvm.exec ∧ Z.Warmed39 s.vm ∧ (∀ d ∈ tables_1, d.before a0 Z = true) ∧ c.code = prog_24_method_7_code ∧ c.maxLocals = 6 ∧ s.vm.findClass "com/example/porter_drive/porterdrive/RequestQueue" = some m.cls ∧ meth.sig.returnType = none ∧ meth.locks = false ∧ meth.name = "siftDown"
def Q7 (Z : State) (b0 : Addr) (u0_size : Int32) (b1 : Addr) (l1 : List Int64) (b2 : Addr) (l2 : List Int32) (h0 : Heap) (n0 : Nat) (o : List Int64 × List Int32) (v : Option Value) (h : Heap) (L : List Loc) : Prop := v = none ∧ Fr n0 L ∧ Keep h0 h [b1, b2] ∧ Arj Z h b1 o.1 ∧ Ari Z h b2 .int o.2
def f7_149 (x1 : Int64) (x3 : Int32) (x4 : Int32) (u0_size : Int32) (l1 : List Int64) (l2 : List Int32) : Option (List Int64 × List Int32) := ((stx l1 x4 x1).bind fun l_22 => ((stx l2 x4 x3).bind fun l_24 => some (l_22, l_24)))
set_option maxRecDepth 65536 in
set_option maxHeartbeats 40000000 in
theorem w7_149 {p : Program} {l : Launch} {e : Env} {s : State} {m : MethodId} {args : Array Value} {below : List Frame} {meth : Method} {c : Code} {Z : State} {a0 : Array Value} {h0 : Heap} {n0 : Nat} (C : Cx7 Z a0 p s m meth c) :
    ∀ (T : State) (locs : List Loc) (hA : Heap) (x1 : Int64) (x3 : Int32) (x4 : Int32) (x5 : Int32) (b0 : Addr) (u0_size : Int32) (b1 : Addr) (l1 : List Int64) (b2 : Addr) (l2 : List Int32) (o : List Int64 × List Int32), f7_149 x1 x3 x4 u0_size l1 l2 = some o → Stand p l e rx7 s m args below meth c T locs 0 0 → T.heap = hA → Fr n0 locs → Old Z n0 hA → Keep h0 hA [b1, b2] → (Exa Z hA b0 "com/example/porter_drive/porterdrive/RequestQueue") → (Fld Z hA b0 "com/example/porter_drive/porterdrive/RequestQueue" "times" "[J" (.ref b1)) → (Fld Z hA b0 "com/example/porter_drive/porterdrive/RequestQueue" "clients" "[I" (.ref b2)) → (Fld Z hA b0 "com/example/porter_drive/porterdrive/RequestQueue" "size" "I" (.int u0_size)) → (Arj Z hA b1 l1) → (Ari Z hA b2 .int l2) → (n0 ≤ b0) → (n0 ≤ b1) → (n0 ≤ b2) → (b0 ≠ b1) → (b0 ≠ b2) → (b1 ≠ b2) →  OwnOut p e s below 0 0 (Q7 Z b0 u0_size b1 [] b2 [] h0 n0 o) (T.setTop (mkF m 149 #[.val (.ref b0), .val (.long x1), .second, .val (.int x3), .val (.int x4), .val (.int x5)] [])) := by
    obtain ⟨hx, hZ, hw, hby, hml, hown, hret, hlk, hnm⟩ := C
    intro T locs hA x1 x3 x4 x5 b0 u0_size b1 l1 b2 l2 o hr X0 e0 N0 O0 K0 E0 F0_times F0_clients F0_size A1 A2 g0 g1 g2 ne0_1 ne0_2 ne1_2
    rw [f7_149] at hr
    refine OwnOut.go (fun t k => XS.aloadN X0.here hx rfl (hb hby d7_149) rfl rfl k) ?_
    show OwnOut p e s below 0 0 _ (T.setTop (mkF m 150 #[.val (.ref b0), .val (.long x1), .second, .val (.int x3), .val (.int x4), .val (.int x5)] [(.ref b0)]))
    obtain ⟨T21, X21, e21, st21⟩ := getF X0 hx hZ hown (host := "") (Or.inl (hw _ (List.mem_of_getElem? (i := 10) rfl))) Via.refl e0 F0_times (g := (mkF m 150 #[.val (.ref b0), .val (.long x1), .second, .val (.int x3), .val (.int x4), .val (.int x5)] [(.ref b0)])) rfl rfl (hb hby d7_150)
    refine OwnOut.go (fun t k => st21 _ k) ?_
    show OwnOut p e s below 0 0 _ (T21.setTop (mkF m 153 #[.val (.ref b0), .val (.long x1), .second, .val (.int x3), .val (.int x4), .val (.int x5)] [(.ref b1)]))
    refine OwnOut.go (fun t k => XS.iload X21.here hx rfl (hb hby d7_153) rfl k) ?_
    show OwnOut p e s below 0 0 _ (T21.setTop (mkF m 155 #[.val (.ref b0), .val (.long x1), .second, .val (.int x3), .val (.int x4), .val (.int x5)] [(.int x4), (.ref b1)]))
    refine OwnOut.go (fun t k => XS.lloadN X21.here hx rfl (hb hby d7_155) rfl k) ?_
    show OwnOut p e s below 0 0 _ (T21.setTop (mkF m 156 #[.val (.ref b0), .val (.long x1), .second, .val (.int x3), .val (.int x4), .val (.int x5)] [(.long x1), (.int x4), (.ref b1)]))
    obtain ⟨l_22, hl22, hr⟩ := Option.bind_eq_some_iff.mp hr
    obtain ⟨T22, h22, X22, e22, W22, A_22, st22⟩ := saJ X21 hx hZ e21 A1 hl22 (g := (mkF m 156 #[.val (.ref b0), .val (.long x1), .second, .val (.int x3), .val (.int x4), .val (.int x5)] [(.long x1), (.int x4), (.ref b1)])) rfl rfl (hb hby d7_156)
    refine OwnOut.go (fun t k => st22 _ k) ?_
    have E0_22 := E0.wr W22
    have F0_times_22 := F0_times.other W22 (Or.inl ne0_1)
    have F0_clients_22 := F0_clients.other W22 (Or.inl ne0_1)
    have F0_size_22 := F0_size.other W22 (Or.inl ne0_1)
    have A2_22 := A2.other W22 (Ne.symm ne1_2)
    have N_22 := Fr.snoc X22 N0 g1
    have O_22 := O0.wr W22 g1
    have K_22 := K0.wr W22 (Or.inl (List.mem_of_getElem? (i := 0) rfl))
    show OwnOut p e s below 0 0 _ (T22.setTop (mkF m 157 #[.val (.ref b0), .val (.long x1), .second, .val (.int x3), .val (.int x4), .val (.int x5)] []))
    refine OwnOut.go (fun t k => XS.aloadN X22.here hx rfl (hb hby d7_157) rfl rfl k) ?_
    show OwnOut p e s below 0 0 _ (T22.setTop (mkF m 158 #[.val (.ref b0), .val (.long x1), .second, .val (.int x3), .val (.int x4), .val (.int x5)] [(.ref b0)]))
    obtain ⟨T23, X23, e23, st23⟩ := getF X22 hx hZ hown (host := "") (Or.inl (hw _ (List.mem_of_getElem? (i := 13) rfl))) Via.refl e22 F0_clients_22 (g := (mkF m 158 #[.val (.ref b0), .val (.long x1), .second, .val (.int x3), .val (.int x4), .val (.int x5)] [(.ref b0)])) rfl rfl (hb hby d7_158)
    refine OwnOut.go (fun t k => st23 _ k) ?_
    show OwnOut p e s below 0 0 _ (T23.setTop (mkF m 161 #[.val (.ref b0), .val (.long x1), .second, .val (.int x3), .val (.int x4), .val (.int x5)] [(.ref b2)]))
    refine OwnOut.go (fun t k => XS.iload X23.here hx rfl (hb hby d7_161) rfl k) ?_
    show OwnOut p e s below 0 0 _ (T23.setTop (mkF m 163 #[.val (.ref b0), .val (.long x1), .second, .val (.int x3), .val (.int x4), .val (.int x5)] [(.int x4), (.ref b2)]))
    refine OwnOut.go (fun t k => XS.iloadN X23.here hx rfl (hb hby d7_163) rfl k) ?_
    show OwnOut p e s below 0 0 _ (T23.setTop (mkF m 164 #[.val (.ref b0), .val (.long x1), .second, .val (.int x3), .val (.int x4), .val (.int x5)] [(.int x3), (.int x4), (.ref b2)]))
    obtain ⟨l_24, hl24, hr⟩ := Option.bind_eq_some_iff.mp hr
    obtain ⟨T24, h24, X24, e24, W24, A_24, st24⟩ := saI X23 hx hZ e23 A2_22 hl24 (g := (mkF m 164 #[.val (.ref b0), .val (.long x1), .second, .val (.int x3), .val (.int x4), .val (.int x5)] [(.int x3), (.int x4), (.ref b2)])) rfl rfl (hb hby d7_164)
    refine OwnOut.go (fun t k => st24 _ k) ?_
    have E0_24 := E0_22.wr W24
    have F0_times_24 := F0_times_22.other W24 (Or.inl ne0_2)
    have F0_clients_24 := F0_clients_22.other W24 (Or.inl ne0_2)
    have F0_size_24 := F0_size_22.other W24 (Or.inl ne0_2)
    have A1_24 := A_22.other W24 ne1_2
    have N_24 := Fr.snoc X24 N_22 g2
    have O_24 := O_22.wr W24 g2
    have K_24 := K_22.wr W24 (Or.inl (List.mem_of_getElem? (i := 1) rfl))
    show OwnOut p e s below 0 0 _ (T24.setTop (mkF m 165 #[.val (.ref b0), .val (.long x1), .second, .val (.int x3), .val (.int x4), .val (.int x5)] []))
    cases hr
    exact outV X24 hx hret (hb hby d7_165) hlk (by decide) (by decide) (by rw [e24]; exact ⟨rfl, N_24, K_24, A1_24, A_24⟩)
def f7_20 : Nat → Int64 → Int32 → Int32 → Int32 → Int32 → (List Int64) → (List Int32) → Option (List Int64 × List Int32)
  | 0, _, _, _, _, _, _, _ => none
  | n + 1, x1, x3, x4, x5, u0_size, l1, l2 => (if x5 < u0_size then (if (x5 + (1 : Int32)) < u0_size then ((ldx l1 (x5 + (1 : Int32))).bind fun v8 => ((ldx l2 (x5 + (1 : Int32))).bind fun v10 => ((ldx l1 x5).bind fun v12 => ((ldx l2 x5).bind fun v14 => ((f10 v8 v10 v12 v14).bind fun o15 => (if o15 = (0 : Int32) then ((ldx l1 x5).bind fun v17 => ((ldx l2 x5).bind fun v19 => ((f10 v17 v19 x1 x3).bind fun o20 => (if o20 = (0 : Int32) then (f7_149 x1 x3 x4 u0_size l1 l2) else ((ldx l1 x5).bind fun v27 => ((stx l1 x4 v27).bind fun l_28 => ((ldx l2 x5).bind fun v31 => ((stx l2 x4 v31).bind fun l_32 => (f7_20 n x1 x3 x5 (((2 : Int32) * x5) + (1 : Int32)) u0_size l_28 l_32))))))))) else ((ldx l1 (x5 + (1 : Int32))).bind fun v34 => ((ldx l2 (x5 + (1 : Int32))).bind fun v36 => ((f10 v34 v36 x1 x3).bind fun o37 => (if o37 = (0 : Int32) then (f7_149 x1 x3 x4 u0_size l1 l2) else ((ldx l1 (x5 + (1 : Int32))).bind fun v40 => ((stx l1 x4 v40).bind fun l_41 => ((ldx l2 (x5 + (1 : Int32))).bind fun v44 => ((stx l2 x4 v44).bind fun l_45 => (f7_20 n x1 x3 (x5 + (1 : Int32)) (((2 : Int32) * (x5 + (1 : Int32))) + (1 : Int32)) u0_size l_41 l_45))))))))))))))) else ((ldx l1 x5).bind fun v47 => ((ldx l2 x5).bind fun v49 => ((f10 v47 v49 x1 x3).bind fun o50 => (if o50 = (0 : Int32) then (f7_149 x1 x3 x4 u0_size l1 l2) else ((ldx l1 x5).bind fun v53 => ((stx l1 x4 v53).bind fun l_54 => ((ldx l2 x5).bind fun v57 => ((stx l2 x4 v57).bind fun l_58 => (f7_20 n x1 x3 x5 (((2 : Int32) * x5) + (1 : Int32)) u0_size l_54 l_58)))))))))) else (f7_149 x1 x3 x4 u0_size l1 l2))
set_option maxRecDepth 65536 in
set_option maxHeartbeats 40000000 in
theorem w7_20 {p : Program} {l : Launch} {e : Env} {s : State} {m : MethodId} {args : Array Value} {below : List Frame} {meth : Method} {c : Code} {Z : State} {a0 : Array Value} {h0 : Heap} {n0 : Nat} (C : Cx7 Z a0 p s m meth c) (n : Nat) :
    ∀ (T : State) (locs : List Loc) (hA : Heap) (x1 : Int64) (x3 : Int32) (x4 : Int32) (x5 : Int32) (b0 : Addr) (u0_size : Int32) (b1 : Addr) (l1 : List Int64) (b2 : Addr) (l2 : List Int32) (o : List Int64 × List Int32), f7_20 n x1 x3 x4 x5 u0_size l1 l2 = some o → Stand p l e rx7 s m args below meth c T locs 0 0 → T.heap = hA → Fr n0 locs → Old Z n0 hA → Keep h0 hA [b1, b2] → (Exa Z hA b0 "com/example/porter_drive/porterdrive/RequestQueue") → (Fld Z hA b0 "com/example/porter_drive/porterdrive/RequestQueue" "times" "[J" (.ref b1)) → (Fld Z hA b0 "com/example/porter_drive/porterdrive/RequestQueue" "clients" "[I" (.ref b2)) → (Fld Z hA b0 "com/example/porter_drive/porterdrive/RequestQueue" "size" "I" (.int u0_size)) → (Arj Z hA b1 l1) → (Ari Z hA b2 .int l2) → (n0 ≤ b0) → (n0 ≤ b1) → (n0 ≤ b2) → (b0 ≠ b1) → (b0 ≠ b2) → (b1 ≠ b2) →  OwnOut p e s below 0 0 (Q7 Z b0 u0_size b1 [] b2 [] h0 n0 o) (T.setTop (mkF m 20 #[.val (.ref b0), .val (.long x1), .second, .val (.int x3), .val (.int x4), .val (.int x5)] [])) := by
  obtain ⟨hx, hZ, hw, hby, hml, hown, hret, hlk, hnm⟩ := C
  induction n with
  | zero => intro T locs hA x1 x3 x4 x5 b0 u0_size b1 l1 b2 l2 o hr X0 e0 N0 O0 K0 E0 F0_times F0_clients F0_size A1 A2 g0 g1 g2 ne0_1 ne0_2 ne1_2; rw [f7_20] at hr; cases hr
  | succ n ih =>
    intro T locs hA x1 x3 x4 x5 b0 u0_size b1 l1 b2 l2 o hr X0 e0 N0 O0 K0 E0 F0_times F0_clients F0_size A1 A2 g0 g1 g2 ne0_1 ne0_2 ne1_2
    rw [f7_20] at hr
    refine OwnOut.go (fun t k => XS.iload X0.here hx rfl (hb hby d7_20) rfl k) ?_
    show OwnOut p e s below 0 0 _ (T.setTop (mkF m 22 #[.val (.ref b0), .val (.long x1), .second, .val (.int x3), .val (.int x4), .val (.int x5)] [(.int x5)]))
    refine OwnOut.go (fun t k => XS.aloadN X0.here hx rfl (hb hby d7_22) rfl rfl k) ?_
    show OwnOut p e s below 0 0 _ (T.setTop (mkF m 23 #[.val (.ref b0), .val (.long x1), .second, .val (.int x3), .val (.int x4), .val (.int x5)] [(.ref b0), (.int x5)]))
    obtain ⟨T5, X5, e5, st5⟩ := getF X0 hx hZ hown (host := "") (Or.inl (hw _ (List.mem_of_getElem? (i := 15) rfl))) Via.refl e0 F0_size (g := (mkF m 23 #[.val (.ref b0), .val (.long x1), .second, .val (.int x3), .val (.int x4), .val (.int x5)] [(.ref b0), (.int x5)])) rfl rfl (hb hby d7_23)
    refine OwnOut.go (fun t k => st5 _ k) ?_
    show OwnOut p e s below 0 0 _ (T5.setTop (mkF m 26 #[.val (.ref b0), .val (.long x1), .second, .val (.int x3), .val (.int x4), .val (.int x5)] [(.int u0_size), (.int x5)]))
    by_cases hc26 : x5 < u0_size
    · rw [if_pos hc26] at hr
      refine OwnOut.go (fun t k => XS.icmpNo X5.here hx rfl (hb hby d7_26) rfl (XT.ii_ge_f hc26) k) ?_
      show OwnOut p e s below 0 0 _ (T5.setTop (mkF m 29 #[.val (.ref b0), .val (.long x1), .second, .val (.int x3), .val (.int x4), .val (.int x5)] []))
      refine OwnOut.go (fun t k => XS.iload X5.here hx rfl (hb hby d7_29) rfl k) ?_
      show OwnOut p e s below 0 0 _ (T5.setTop (mkF m 31 #[.val (.ref b0), .val (.long x1), .second, .val (.int x3), .val (.int x4), .val (.int x5)] [(.int x5)]))
      refine OwnOut.go (fun t k => XT.iconstV X5.here hx rfl (1 : Int32) (hb hby d7_31) rfl k) ?_
      show OwnOut p e s below 0 0 _ (T5.setTop (mkF m 32 #[.val (.ref b0), .val (.long x1), .second, .val (.int x3), .val (.int x4), .val (.int x5)] [(.int (1 : Int32)), (.int x5)]))
      refine OwnOut.go (fun t k => XS.iadd X5.here hx rfl (hb hby d7_32) rfl k) ?_
      show OwnOut p e s below 0 0 _ (T5.setTop (mkF m 33 #[.val (.ref b0), .val (.long x1), .second, .val (.int x3), .val (.int x4), .val (.int x5)] [(.int (x5 + (1 : Int32)))]))
      refine OwnOut.go (fun t k => XS.aloadN X5.here hx rfl (hb hby d7_33) rfl rfl k) ?_
      show OwnOut p e s below 0 0 _ (T5.setTop (mkF m 34 #[.val (.ref b0), .val (.long x1), .second, .val (.int x3), .val (.int x4), .val (.int x5)] [(.ref b0), (.int (x5 + (1 : Int32)))]))
      obtain ⟨T6, X6, e6, st6⟩ := getF X5 hx hZ hown (host := "") (Or.inl (hw _ (List.mem_of_getElem? (i := 15) rfl))) Via.refl e5 F0_size (g := (mkF m 34 #[.val (.ref b0), .val (.long x1), .second, .val (.int x3), .val (.int x4), .val (.int x5)] [(.ref b0), (.int (x5 + (1 : Int32)))])) rfl rfl (hb hby d7_34)
      refine OwnOut.go (fun t k => st6 _ k) ?_
      show OwnOut p e s below 0 0 _ (T6.setTop (mkF m 37 #[.val (.ref b0), .val (.long x1), .second, .val (.int x3), .val (.int x4), .val (.int x5)] [(.int u0_size), (.int (x5 + (1 : Int32)))]))
      by_cases hc37 : (x5 + (1 : Int32)) < u0_size
      · rw [if_pos hc37] at hr
        refine OwnOut.go (fun t k => XS.icmpNo X6.here hx rfl (hb hby d7_37) rfl (XT.ii_ge_f hc37) k) ?_
        show OwnOut p e s below 0 0 _ (T6.setTop (mkF m 40 #[.val (.ref b0), .val (.long x1), .second, .val (.int x3), .val (.int x4), .val (.int x5)] []))
        refine OwnOut.go (fun t k => XS.aloadN X6.here hx rfl (hb hby d7_40) rfl rfl k) ?_
        show OwnOut p e s below 0 0 _ (T6.setTop (mkF m 41 #[.val (.ref b0), .val (.long x1), .second, .val (.int x3), .val (.int x4), .val (.int x5)] [(.ref b0)]))
        obtain ⟨T7, X7, e7, st7⟩ := getF X6 hx hZ hown (host := "") (Or.inl (hw _ (List.mem_of_getElem? (i := 10) rfl))) Via.refl e6 F0_times (g := (mkF m 41 #[.val (.ref b0), .val (.long x1), .second, .val (.int x3), .val (.int x4), .val (.int x5)] [(.ref b0)])) rfl rfl (hb hby d7_41)
        refine OwnOut.go (fun t k => st7 _ k) ?_
        show OwnOut p e s below 0 0 _ (T7.setTop (mkF m 44 #[.val (.ref b0), .val (.long x1), .second, .val (.int x3), .val (.int x4), .val (.int x5)] [(.ref b1)]))
        refine OwnOut.go (fun t k => XS.iload X7.here hx rfl (hb hby d7_44) rfl k) ?_
        show OwnOut p e s below 0 0 _ (T7.setTop (mkF m 46 #[.val (.ref b0), .val (.long x1), .second, .val (.int x3), .val (.int x4), .val (.int x5)] [(.int x5), (.ref b1)]))
        refine OwnOut.go (fun t k => XT.iconstV X7.here hx rfl (1 : Int32) (hb hby d7_46) rfl k) ?_
        show OwnOut p e s below 0 0 _ (T7.setTop (mkF m 47 #[.val (.ref b0), .val (.long x1), .second, .val (.int x3), .val (.int x4), .val (.int x5)] [(.int (1 : Int32)), (.int x5), (.ref b1)]))
        refine OwnOut.go (fun t k => XS.iadd X7.here hx rfl (hb hby d7_47) rfl k) ?_
        show OwnOut p e s below 0 0 _ (T7.setTop (mkF m 48 #[.val (.ref b0), .val (.long x1), .second, .val (.int x3), .val (.int x4), .val (.int x5)] [(.int (x5 + (1 : Int32))), (.ref b1)]))
        obtain ⟨v8, hv8, hr⟩ := Option.bind_eq_some_iff.mp hr
        refine OwnOut.go (fun t k => ldJ X7 hx hZ e7 A1 hv8 (g := (mkF m 48 #[.val (.ref b0), .val (.long x1), .second, .val (.int x3), .val (.int x4), .val (.int x5)] [(.int (x5 + (1 : Int32))), (.ref b1)])) rfl rfl (hb hby d7_48) t k) ?_
        show OwnOut p e s below 0 0 _ (T7.setTop (mkF m 49 #[.val (.ref b0), .val (.long x1), .second, .val (.int x3), .val (.int x4), .val (.int x5)] [(.long v8)]))
        refine OwnOut.go (fun t k => XS.aloadN X7.here hx rfl (hb hby d7_49) rfl rfl k) ?_
        show OwnOut p e s below 0 0 _ (T7.setTop (mkF m 50 #[.val (.ref b0), .val (.long x1), .second, .val (.int x3), .val (.int x4), .val (.int x5)] [(.ref b0), (.long v8)]))
        obtain ⟨T9, X9, e9, st9⟩ := getF X7 hx hZ hown (host := "") (Or.inl (hw _ (List.mem_of_getElem? (i := 13) rfl))) Via.refl e7 F0_clients (g := (mkF m 50 #[.val (.ref b0), .val (.long x1), .second, .val (.int x3), .val (.int x4), .val (.int x5)] [(.ref b0), (.long v8)])) rfl rfl (hb hby d7_50)
        refine OwnOut.go (fun t k => st9 _ k) ?_
        show OwnOut p e s below 0 0 _ (T9.setTop (mkF m 53 #[.val (.ref b0), .val (.long x1), .second, .val (.int x3), .val (.int x4), .val (.int x5)] [(.ref b2), (.long v8)]))
        refine OwnOut.go (fun t k => XS.iload X9.here hx rfl (hb hby d7_53) rfl k) ?_
        show OwnOut p e s below 0 0 _ (T9.setTop (mkF m 55 #[.val (.ref b0), .val (.long x1), .second, .val (.int x3), .val (.int x4), .val (.int x5)] [(.int x5), (.ref b2), (.long v8)]))
        refine OwnOut.go (fun t k => XT.iconstV X9.here hx rfl (1 : Int32) (hb hby d7_55) rfl k) ?_
        show OwnOut p e s below 0 0 _ (T9.setTop (mkF m 56 #[.val (.ref b0), .val (.long x1), .second, .val (.int x3), .val (.int x4), .val (.int x5)] [(.int (1 : Int32)), (.int x5), (.ref b2), (.long v8)]))
        refine OwnOut.go (fun t k => XS.iadd X9.here hx rfl (hb hby d7_56) rfl k) ?_
        show OwnOut p e s below 0 0 _ (T9.setTop (mkF m 57 #[.val (.ref b0), .val (.long x1), .second, .val (.int x3), .val (.int x4), .val (.int x5)] [(.int (x5 + (1 : Int32))), (.ref b2), (.long v8)]))
        obtain ⟨v10, hv10, hr⟩ := Option.bind_eq_some_iff.mp hr
        refine OwnOut.go (fun t k => ldI X9 hx hZ e9 A2 hv10 (g := (mkF m 57 #[.val (.ref b0), .val (.long x1), .second, .val (.int x3), .val (.int x4), .val (.int x5)] [(.int (x5 + (1 : Int32))), (.ref b2), (.long v8)])) rfl rfl (hb hby d7_57) t k) ?_
        show OwnOut p e s below 0 0 _ (T9.setTop (mkF m 58 #[.val (.ref b0), .val (.long x1), .second, .val (.int x3), .val (.int x4), .val (.int x5)] [(.int v10), (.long v8)]))
        refine OwnOut.go (fun t k => XS.aloadN X9.here hx rfl (hb hby d7_58) rfl rfl k) ?_
        show OwnOut p e s below 0 0 _ (T9.setTop (mkF m 59 #[.val (.ref b0), .val (.long x1), .second, .val (.int x3), .val (.int x4), .val (.int x5)] [(.ref b0), (.int v10), (.long v8)]))
        obtain ⟨T11, X11, e11, st11⟩ := getF X9 hx hZ hown (host := "") (Or.inl (hw _ (List.mem_of_getElem? (i := 10) rfl))) Via.refl e9 F0_times (g := (mkF m 59 #[.val (.ref b0), .val (.long x1), .second, .val (.int x3), .val (.int x4), .val (.int x5)] [(.ref b0), (.int v10), (.long v8)])) rfl rfl (hb hby d7_59)
        refine OwnOut.go (fun t k => st11 _ k) ?_
        show OwnOut p e s below 0 0 _ (T11.setTop (mkF m 62 #[.val (.ref b0), .val (.long x1), .second, .val (.int x3), .val (.int x4), .val (.int x5)] [(.ref b1), (.int v10), (.long v8)]))
        refine OwnOut.go (fun t k => XS.iload X11.here hx rfl (hb hby d7_62) rfl k) ?_
        show OwnOut p e s below 0 0 _ (T11.setTop (mkF m 64 #[.val (.ref b0), .val (.long x1), .second, .val (.int x3), .val (.int x4), .val (.int x5)] [(.int x5), (.ref b1), (.int v10), (.long v8)]))
        obtain ⟨v12, hv12, hr⟩ := Option.bind_eq_some_iff.mp hr
        refine OwnOut.go (fun t k => ldJ X11 hx hZ e11 A1 hv12 (g := (mkF m 64 #[.val (.ref b0), .val (.long x1), .second, .val (.int x3), .val (.int x4), .val (.int x5)] [(.int x5), (.ref b1), (.int v10), (.long v8)])) rfl rfl (hb hby d7_64) t k) ?_
        show OwnOut p e s below 0 0 _ (T11.setTop (mkF m 65 #[.val (.ref b0), .val (.long x1), .second, .val (.int x3), .val (.int x4), .val (.int x5)] [(.long v12), (.int v10), (.long v8)]))
        refine OwnOut.go (fun t k => XS.aloadN X11.here hx rfl (hb hby d7_65) rfl rfl k) ?_
        show OwnOut p e s below 0 0 _ (T11.setTop (mkF m 66 #[.val (.ref b0), .val (.long x1), .second, .val (.int x3), .val (.int x4), .val (.int x5)] [(.ref b0), (.long v12), (.int v10), (.long v8)]))
        obtain ⟨T13, X13, e13, st13⟩ := getF X11 hx hZ hown (host := "") (Or.inl (hw _ (List.mem_of_getElem? (i := 13) rfl))) Via.refl e11 F0_clients (g := (mkF m 66 #[.val (.ref b0), .val (.long x1), .second, .val (.int x3), .val (.int x4), .val (.int x5)] [(.ref b0), (.long v12), (.int v10), (.long v8)])) rfl rfl (hb hby d7_66)
        refine OwnOut.go (fun t k => st13 _ k) ?_
        show OwnOut p e s below 0 0 _ (T13.setTop (mkF m 69 #[.val (.ref b0), .val (.long x1), .second, .val (.int x3), .val (.int x4), .val (.int x5)] [(.ref b2), (.long v12), (.int v10), (.long v8)]))
        refine OwnOut.go (fun t k => XS.iload X13.here hx rfl (hb hby d7_69) rfl k) ?_
        show OwnOut p e s below 0 0 _ (T13.setTop (mkF m 71 #[.val (.ref b0), .val (.long x1), .second, .val (.int x3), .val (.int x4), .val (.int x5)] [(.int x5), (.ref b2), (.long v12), (.int v10), (.long v8)]))
        obtain ⟨v14, hv14, hr⟩ := Option.bind_eq_some_iff.mp hr
        refine OwnOut.go (fun t k => ldI X13 hx hZ e13 A2 hv14 (g := (mkF m 71 #[.val (.ref b0), .val (.long x1), .second, .val (.int x3), .val (.int x4), .val (.int x5)] [(.int x5), (.ref b2), (.long v12), (.int v10), (.long v8)])) rfl rfl (hb hby d7_71) t k) ?_
        show OwnOut p e s below 0 0 _ (T13.setTop (mkF m 72 #[.val (.ref b0), .val (.long x1), .second, .val (.int x3), .val (.int x4), .val (.int x5)] [(.int v14), (.long v12), (.int v10), (.long v8)]))
        obtain ⟨o15, ho15, hr⟩ := Option.bind_eq_some_iff.mp hr
        obtain ⟨r15, T15, L15, X15', hQ15, st15⟩ := callQ (W := 0) (rm := rx10) X13 hx hZ (y := (⟨"com/example/porter_drive/porterdrive/RequestQueue", "isBefore", "(JIJI)Z"⟩ : MethodName)) hown (hw _ (List.mem_of_getElem? (i := 47) rfl)) (hw _ (List.mem_of_getElem? (i := 48) rfl)) (hw _ (List.mem_of_getElem? (i := 3) rfl)) (hw _ (List.mem_of_getElem? (i := 49) rfl)) (by decide) (rm10 l Z a0 hw [] v8 v10 v12 v14 hA o15 ho15 ) (by decide) (by decide) (by decide) (by decide) e13 (g := (mkF m 72 #[.val (.ref b0), .val (.long x1), .second, .val (.int x3), .val (.int x4), .val (.int x5)] [(.int v14), (.long v12), (.int v10), (.long v8)])) rfl (by rw [hml]; rfl) (argsL := [(.long v8), (.int v10), (.long v12), (.int v14)]) (rest := []) (lenOf pd10 rfl) rfl (by show 2 * 0 + _ ≤ _; exact Nat.le_of_eq rfl) (hb hby d7_72)
        obtain ⟨rfl, e15, rfl⟩ := hQ15
        rw [List.append_nil] at X15'
        have X15 : Stand p l e rx7 s m args below meth c T15 _ 0 0 := X15'
        refine OwnOut.go (fun t k => st15 _ k) ?_
        show OwnOut p e s below 0 0 _ (T15.setTop (mkF m 75 #[.val (.ref b0), .val (.long x1), .second, .val (.int x3), .val (.int x4), .val (.int x5)] [(.int o15)]))
        by_cases hc75 : o15 = (0 : Int32)
        · rw [if_pos hc75] at hr
          refine OwnOut.go (fun t k => XS.ifYes X15.here hx rfl (pc0 := 75) (pc' := 81) rfl (hb hby d7_75) rfl (XT.i0_eq_t hc75) (by decide) (by decide) k) ?_
          show OwnOut p e s below 0 0 _ (T15.setTop (mkF m 81 #[.val (.ref b0), .val (.long x1), .second, .val (.int x3), .val (.int x4), .val (.int x5)] []))
          refine OwnOut.go (fun t k => XS.aloadN X15.here hx rfl (hb hby d7_81) rfl rfl k) ?_
          show OwnOut p e s below 0 0 _ (T15.setTop (mkF m 82 #[.val (.ref b0), .val (.long x1), .second, .val (.int x3), .val (.int x4), .val (.int x5)] [(.ref b0)]))
          obtain ⟨T16, X16, e16, st16⟩ := getF X15 hx hZ hown (host := "") (Or.inl (hw _ (List.mem_of_getElem? (i := 10) rfl))) Via.refl e15 F0_times (g := (mkF m 82 #[.val (.ref b0), .val (.long x1), .second, .val (.int x3), .val (.int x4), .val (.int x5)] [(.ref b0)])) rfl rfl (hb hby d7_82)
          refine OwnOut.go (fun t k => st16 _ k) ?_
          show OwnOut p e s below 0 0 _ (T16.setTop (mkF m 85 #[.val (.ref b0), .val (.long x1), .second, .val (.int x3), .val (.int x4), .val (.int x5)] [(.ref b1)]))
          refine OwnOut.go (fun t k => XS.iload X16.here hx rfl (hb hby d7_85) rfl k) ?_
          show OwnOut p e s below 0 0 _ (T16.setTop (mkF m 87 #[.val (.ref b0), .val (.long x1), .second, .val (.int x3), .val (.int x4), .val (.int x5)] [(.int x5), (.ref b1)]))
          obtain ⟨v17, hv17, hr⟩ := Option.bind_eq_some_iff.mp hr
          refine OwnOut.go (fun t k => ldJ X16 hx hZ e16 A1 hv17 (g := (mkF m 87 #[.val (.ref b0), .val (.long x1), .second, .val (.int x3), .val (.int x4), .val (.int x5)] [(.int x5), (.ref b1)])) rfl rfl (hb hby d7_87) t k) ?_
          show OwnOut p e s below 0 0 _ (T16.setTop (mkF m 88 #[.val (.ref b0), .val (.long x1), .second, .val (.int x3), .val (.int x4), .val (.int x5)] [(.long v17)]))
          refine OwnOut.go (fun t k => XS.aloadN X16.here hx rfl (hb hby d7_88) rfl rfl k) ?_
          show OwnOut p e s below 0 0 _ (T16.setTop (mkF m 89 #[.val (.ref b0), .val (.long x1), .second, .val (.int x3), .val (.int x4), .val (.int x5)] [(.ref b0), (.long v17)]))
          obtain ⟨T18, X18, e18, st18⟩ := getF X16 hx hZ hown (host := "") (Or.inl (hw _ (List.mem_of_getElem? (i := 13) rfl))) Via.refl e16 F0_clients (g := (mkF m 89 #[.val (.ref b0), .val (.long x1), .second, .val (.int x3), .val (.int x4), .val (.int x5)] [(.ref b0), (.long v17)])) rfl rfl (hb hby d7_89)
          refine OwnOut.go (fun t k => st18 _ k) ?_
          show OwnOut p e s below 0 0 _ (T18.setTop (mkF m 92 #[.val (.ref b0), .val (.long x1), .second, .val (.int x3), .val (.int x4), .val (.int x5)] [(.ref b2), (.long v17)]))
          refine OwnOut.go (fun t k => XS.iload X18.here hx rfl (hb hby d7_92) rfl k) ?_
          show OwnOut p e s below 0 0 _ (T18.setTop (mkF m 94 #[.val (.ref b0), .val (.long x1), .second, .val (.int x3), .val (.int x4), .val (.int x5)] [(.int x5), (.ref b2), (.long v17)]))
          obtain ⟨v19, hv19, hr⟩ := Option.bind_eq_some_iff.mp hr
          refine OwnOut.go (fun t k => ldI X18 hx hZ e18 A2 hv19 (g := (mkF m 94 #[.val (.ref b0), .val (.long x1), .second, .val (.int x3), .val (.int x4), .val (.int x5)] [(.int x5), (.ref b2), (.long v17)])) rfl rfl (hb hby d7_94) t k) ?_
          show OwnOut p e s below 0 0 _ (T18.setTop (mkF m 95 #[.val (.ref b0), .val (.long x1), .second, .val (.int x3), .val (.int x4), .val (.int x5)] [(.int v19), (.long v17)]))
          refine OwnOut.go (fun t k => XS.lloadN X18.here hx rfl (hb hby d7_95) rfl k) ?_
          show OwnOut p e s below 0 0 _ (T18.setTop (mkF m 96 #[.val (.ref b0), .val (.long x1), .second, .val (.int x3), .val (.int x4), .val (.int x5)] [(.long x1), (.int v19), (.long v17)]))
          refine OwnOut.go (fun t k => XS.iloadN X18.here hx rfl (hb hby d7_96) rfl k) ?_
          show OwnOut p e s below 0 0 _ (T18.setTop (mkF m 97 #[.val (.ref b0), .val (.long x1), .second, .val (.int x3), .val (.int x4), .val (.int x5)] [(.int x3), (.long x1), (.int v19), (.long v17)]))
          obtain ⟨o20, ho20, hr⟩ := Option.bind_eq_some_iff.mp hr
          obtain ⟨r20, T20, L20, X20', hQ20, st20⟩ := callQ (W := 0) (rm := rx10) X18 hx hZ (y := (⟨"com/example/porter_drive/porterdrive/RequestQueue", "isBefore", "(JIJI)Z"⟩ : MethodName)) hown (hw _ (List.mem_of_getElem? (i := 47) rfl)) (hw _ (List.mem_of_getElem? (i := 48) rfl)) (hw _ (List.mem_of_getElem? (i := 3) rfl)) (hw _ (List.mem_of_getElem? (i := 49) rfl)) (by decide) (rm10 l Z a0 hw [] v17 v19 x1 x3 hA o20 ho20 ) (by decide) (by decide) (by decide) (by decide) e18 (g := (mkF m 97 #[.val (.ref b0), .val (.long x1), .second, .val (.int x3), .val (.int x4), .val (.int x5)] [(.int x3), (.long x1), (.int v19), (.long v17)])) rfl (by rw [hml]; rfl) (argsL := [(.long v17), (.int v19), (.long x1), (.int x3)]) (rest := []) (lenOf pd10 rfl) rfl (by show 2 * 0 + _ ≤ _; exact Nat.le_of_eq rfl) (hb hby d7_97)
          obtain ⟨rfl, e20, rfl⟩ := hQ20
          rw [List.append_nil] at X20'
          have X20 : Stand p l e rx7 s m args below meth c T20 _ 0 0 := X20'
          refine OwnOut.go (fun t k => st20 _ k) ?_
          show OwnOut p e s below 0 0 _ (T20.setTop (mkF m 100 #[.val (.ref b0), .val (.long x1), .second, .val (.int x3), .val (.int x4), .val (.int x5)] [(.int o20)]))
          by_cases hc100 : o20 = (0 : Int32)
          · rw [if_pos hc100] at hr
            refine OwnOut.go (fun t k => XS.ifNo X20.here hx rfl (hb hby d7_100) rfl (XT.i0_ne_f hc100) k) ?_
            show OwnOut p e s below 0 0 _ (T20.setTop (mkF m 103 #[.val (.ref b0), .val (.long x1), .second, .val (.int x3), .val (.int x4), .val (.int x5)] []))
            refine OwnOut.go (fun t k => XS.goto X20.here hx rfl (pc0 := 103) (pc' := 149) rfl (hb hby d7_103) (by decide) (by decide) k) ?_
            show OwnOut p e s below 0 0 _ (T20.setTop (mkF m 149 #[.val (.ref b0), .val (.long x1), .second, .val (.int x3), .val (.int x4), .val (.int x5)] []))
            exact w7_149 ⟨hx, hZ, hw, hby, hml, hown, hret, hlk, hnm⟩  _ _ _ x1 x3 x4 x5 b0 u0_size b1 l1 b2 l2 _ hr X20 e20 N0 O0 K0 E0 F0_times F0_clients F0_size A1 A2 g0 g1 g2 ne0_1 ne0_2 ne1_2
          · rw [if_neg hc100] at hr
            refine OwnOut.go (fun t k => XS.ifYes X20.here hx rfl (pc0 := 100) (pc' := 106) rfl (hb hby d7_100) rfl (XT.i0_ne_t hc100) (by decide) (by decide) k) ?_
            show OwnOut p e s below 0 0 _ (T20.setTop (mkF m 106 #[.val (.ref b0), .val (.long x1), .second, .val (.int x3), .val (.int x4), .val (.int x5)] []))
            refine OwnOut.go (fun t k => XS.aloadN X20.here hx rfl (hb hby d7_106) rfl rfl k) ?_
            show OwnOut p e s below 0 0 _ (T20.setTop (mkF m 107 #[.val (.ref b0), .val (.long x1), .second, .val (.int x3), .val (.int x4), .val (.int x5)] [(.ref b0)]))
            obtain ⟨T25, X25, e25, st25⟩ := getF X20 hx hZ hown (host := "") (Or.inl (hw _ (List.mem_of_getElem? (i := 10) rfl))) Via.refl e20 F0_times (g := (mkF m 107 #[.val (.ref b0), .val (.long x1), .second, .val (.int x3), .val (.int x4), .val (.int x5)] [(.ref b0)])) rfl rfl (hb hby d7_107)
            refine OwnOut.go (fun t k => st25 _ k) ?_
            show OwnOut p e s below 0 0 _ (T25.setTop (mkF m 110 #[.val (.ref b0), .val (.long x1), .second, .val (.int x3), .val (.int x4), .val (.int x5)] [(.ref b1)]))
            refine OwnOut.go (fun t k => XS.iload X25.here hx rfl (hb hby d7_110) rfl k) ?_
            show OwnOut p e s below 0 0 _ (T25.setTop (mkF m 112 #[.val (.ref b0), .val (.long x1), .second, .val (.int x3), .val (.int x4), .val (.int x5)] [(.int x4), (.ref b1)]))
            refine OwnOut.go (fun t k => XS.aloadN X25.here hx rfl (hb hby d7_112) rfl rfl k) ?_
            show OwnOut p e s below 0 0 _ (T25.setTop (mkF m 113 #[.val (.ref b0), .val (.long x1), .second, .val (.int x3), .val (.int x4), .val (.int x5)] [(.ref b0), (.int x4), (.ref b1)]))
            obtain ⟨T26, X26, e26, st26⟩ := getF X25 hx hZ hown (host := "") (Or.inl (hw _ (List.mem_of_getElem? (i := 10) rfl))) Via.refl e25 F0_times (g := (mkF m 113 #[.val (.ref b0), .val (.long x1), .second, .val (.int x3), .val (.int x4), .val (.int x5)] [(.ref b0), (.int x4), (.ref b1)])) rfl rfl (hb hby d7_113)
            refine OwnOut.go (fun t k => st26 _ k) ?_
            show OwnOut p e s below 0 0 _ (T26.setTop (mkF m 116 #[.val (.ref b0), .val (.long x1), .second, .val (.int x3), .val (.int x4), .val (.int x5)] [(.ref b1), (.int x4), (.ref b1)]))
            refine OwnOut.go (fun t k => XS.iload X26.here hx rfl (hb hby d7_116) rfl k) ?_
            show OwnOut p e s below 0 0 _ (T26.setTop (mkF m 118 #[.val (.ref b0), .val (.long x1), .second, .val (.int x3), .val (.int x4), .val (.int x5)] [(.int x5), (.ref b1), (.int x4), (.ref b1)]))
            obtain ⟨v27, hv27, hr⟩ := Option.bind_eq_some_iff.mp hr
            refine OwnOut.go (fun t k => ldJ X26 hx hZ e26 A1 hv27 (g := (mkF m 118 #[.val (.ref b0), .val (.long x1), .second, .val (.int x3), .val (.int x4), .val (.int x5)] [(.int x5), (.ref b1), (.int x4), (.ref b1)])) rfl rfl (hb hby d7_118) t k) ?_
            show OwnOut p e s below 0 0 _ (T26.setTop (mkF m 119 #[.val (.ref b0), .val (.long x1), .second, .val (.int x3), .val (.int x4), .val (.int x5)] [(.long v27), (.int x4), (.ref b1)]))
            obtain ⟨l_28, hl28, hr⟩ := Option.bind_eq_some_iff.mp hr
            obtain ⟨T28, h28, X28, e28, W28, A_28, st28⟩ := saJ X26 hx hZ e26 A1 hl28 (g := (mkF m 119 #[.val (.ref b0), .val (.long x1), .second, .val (.int x3), .val (.int x4), .val (.int x5)] [(.long v27), (.int x4), (.ref b1)])) rfl rfl (hb hby d7_119)
            refine OwnOut.go (fun t k => st28 _ k) ?_
            have E0_28 := E0.wr W28
            have F0_times_28 := F0_times.other W28 (Or.inl ne0_1)
            have F0_clients_28 := F0_clients.other W28 (Or.inl ne0_1)
            have F0_size_28 := F0_size.other W28 (Or.inl ne0_1)
            have A2_28 := A2.other W28 (Ne.symm ne1_2)
            have N_28 := Fr.snoc X28 N0 g1
            have O_28 := O0.wr W28 g1
            have K_28 := K0.wr W28 (Or.inl (List.mem_of_getElem? (i := 0) rfl))
            show OwnOut p e s below 0 0 _ (T28.setTop (mkF m 120 #[.val (.ref b0), .val (.long x1), .second, .val (.int x3), .val (.int x4), .val (.int x5)] []))
            refine OwnOut.go (fun t k => XS.aloadN X28.here hx rfl (hb hby d7_120) rfl rfl k) ?_
            show OwnOut p e s below 0 0 _ (T28.setTop (mkF m 121 #[.val (.ref b0), .val (.long x1), .second, .val (.int x3), .val (.int x4), .val (.int x5)] [(.ref b0)]))
            obtain ⟨T29, X29, e29, st29⟩ := getF X28 hx hZ hown (host := "") (Or.inl (hw _ (List.mem_of_getElem? (i := 13) rfl))) Via.refl e28 F0_clients_28 (g := (mkF m 121 #[.val (.ref b0), .val (.long x1), .second, .val (.int x3), .val (.int x4), .val (.int x5)] [(.ref b0)])) rfl rfl (hb hby d7_121)
            refine OwnOut.go (fun t k => st29 _ k) ?_
            show OwnOut p e s below 0 0 _ (T29.setTop (mkF m 124 #[.val (.ref b0), .val (.long x1), .second, .val (.int x3), .val (.int x4), .val (.int x5)] [(.ref b2)]))
            refine OwnOut.go (fun t k => XS.iload X29.here hx rfl (hb hby d7_124) rfl k) ?_
            show OwnOut p e s below 0 0 _ (T29.setTop (mkF m 126 #[.val (.ref b0), .val (.long x1), .second, .val (.int x3), .val (.int x4), .val (.int x5)] [(.int x4), (.ref b2)]))
            refine OwnOut.go (fun t k => XS.aloadN X29.here hx rfl (hb hby d7_126) rfl rfl k) ?_
            show OwnOut p e s below 0 0 _ (T29.setTop (mkF m 127 #[.val (.ref b0), .val (.long x1), .second, .val (.int x3), .val (.int x4), .val (.int x5)] [(.ref b0), (.int x4), (.ref b2)]))
            obtain ⟨T30, X30, e30, st30⟩ := getF X29 hx hZ hown (host := "") (Or.inl (hw _ (List.mem_of_getElem? (i := 13) rfl))) Via.refl e29 F0_clients_28 (g := (mkF m 127 #[.val (.ref b0), .val (.long x1), .second, .val (.int x3), .val (.int x4), .val (.int x5)] [(.ref b0), (.int x4), (.ref b2)])) rfl rfl (hb hby d7_127)
            refine OwnOut.go (fun t k => st30 _ k) ?_
            show OwnOut p e s below 0 0 _ (T30.setTop (mkF m 130 #[.val (.ref b0), .val (.long x1), .second, .val (.int x3), .val (.int x4), .val (.int x5)] [(.ref b2), (.int x4), (.ref b2)]))
            refine OwnOut.go (fun t k => XS.iload X30.here hx rfl (hb hby d7_130) rfl k) ?_
            show OwnOut p e s below 0 0 _ (T30.setTop (mkF m 132 #[.val (.ref b0), .val (.long x1), .second, .val (.int x3), .val (.int x4), .val (.int x5)] [(.int x5), (.ref b2), (.int x4), (.ref b2)]))
            obtain ⟨v31, hv31, hr⟩ := Option.bind_eq_some_iff.mp hr
            refine OwnOut.go (fun t k => ldI X30 hx hZ e30 A2_28 hv31 (g := (mkF m 132 #[.val (.ref b0), .val (.long x1), .second, .val (.int x3), .val (.int x4), .val (.int x5)] [(.int x5), (.ref b2), (.int x4), (.ref b2)])) rfl rfl (hb hby d7_132) t k) ?_
            show OwnOut p e s below 0 0 _ (T30.setTop (mkF m 133 #[.val (.ref b0), .val (.long x1), .second, .val (.int x3), .val (.int x4), .val (.int x5)] [(.int v31), (.int x4), (.ref b2)]))
            obtain ⟨l_32, hl32, hr⟩ := Option.bind_eq_some_iff.mp hr
            obtain ⟨T32, h32, X32, e32, W32, A_32, st32⟩ := saI X30 hx hZ e30 A2_28 hl32 (g := (mkF m 133 #[.val (.ref b0), .val (.long x1), .second, .val (.int x3), .val (.int x4), .val (.int x5)] [(.int v31), (.int x4), (.ref b2)])) rfl rfl (hb hby d7_133)
            refine OwnOut.go (fun t k => st32 _ k) ?_
            have E0_32 := E0_28.wr W32
            have F0_times_32 := F0_times_28.other W32 (Or.inl ne0_2)
            have F0_clients_32 := F0_clients_28.other W32 (Or.inl ne0_2)
            have F0_size_32 := F0_size_28.other W32 (Or.inl ne0_2)
            have A1_32 := A_28.other W32 ne1_2
            have N_32 := Fr.snoc X32 N_28 g2
            have O_32 := O_28.wr W32 g2
            have K_32 := K_28.wr W32 (Or.inl (List.mem_of_getElem? (i := 1) rfl))
            show OwnOut p e s below 0 0 _ (T32.setTop (mkF m 134 #[.val (.ref b0), .val (.long x1), .second, .val (.int x3), .val (.int x4), .val (.int x5)] []))
            refine OwnOut.go (fun t k => XS.iload X32.here hx rfl (hb hby d7_134) rfl k) ?_
            show OwnOut p e s below 0 0 _ (T32.setTop (mkF m 136 #[.val (.ref b0), .val (.long x1), .second, .val (.int x3), .val (.int x4), .val (.int x5)] [(.int x5)]))
            refine OwnOut.go (fun t k => XS.istore X32.here hx rfl (hb hby d7_136) rfl (l' := #[.val (.ref b0), .val (.long x1), .second, .val (.int x3), .val (.int x5), .val (.int x5)]) rfl k) ?_
            show OwnOut p e s below 0 0 _ (T32.setTop (mkF m 138 #[.val (.ref b0), .val (.long x1), .second, .val (.int x3), .val (.int x5), .val (.int x5)] []))
            refine OwnOut.go (fun t k => XT.iconstV X32.here hx rfl (2 : Int32) (hb hby d7_138) rfl k) ?_
            show OwnOut p e s below 0 0 _ (T32.setTop (mkF m 139 #[.val (.ref b0), .val (.long x1), .second, .val (.int x3), .val (.int x5), .val (.int x5)] [(.int (2 : Int32))]))
            refine OwnOut.go (fun t k => XS.iload X32.here hx rfl (hb hby d7_139) rfl k) ?_
            show OwnOut p e s below 0 0 _ (T32.setTop (mkF m 141 #[.val (.ref b0), .val (.long x1), .second, .val (.int x3), .val (.int x5), .val (.int x5)] [(.int x5), (.int (2 : Int32))]))
            refine OwnOut.go (fun t k => XS.imul X32.here hx rfl (hb hby d7_141) rfl k) ?_
            show OwnOut p e s below 0 0 _ (T32.setTop (mkF m 142 #[.val (.ref b0), .val (.long x1), .second, .val (.int x3), .val (.int x5), .val (.int x5)] [(.int ((2 : Int32) * x5))]))
            refine OwnOut.go (fun t k => XT.iconstV X32.here hx rfl (1 : Int32) (hb hby d7_142) rfl k) ?_
            show OwnOut p e s below 0 0 _ (T32.setTop (mkF m 143 #[.val (.ref b0), .val (.long x1), .second, .val (.int x3), .val (.int x5), .val (.int x5)] [(.int (1 : Int32)), (.int ((2 : Int32) * x5))]))
            refine OwnOut.go (fun t k => XS.iadd X32.here hx rfl (hb hby d7_143) rfl k) ?_
            show OwnOut p e s below 0 0 _ (T32.setTop (mkF m 144 #[.val (.ref b0), .val (.long x1), .second, .val (.int x3), .val (.int x5), .val (.int x5)] [(.int (((2 : Int32) * x5) + (1 : Int32)))]))
            refine OwnOut.go (fun t k => XS.istore X32.here hx rfl (hb hby d7_144) rfl (l' := #[.val (.ref b0), .val (.long x1), .second, .val (.int x3), .val (.int x5), .val (.int (((2 : Int32) * x5) + (1 : Int32)))]) rfl k) ?_
            show OwnOut p e s below 0 0 _ (T32.setTop (mkF m 146 #[.val (.ref b0), .val (.long x1), .second, .val (.int x3), .val (.int x5), .val (.int (((2 : Int32) * x5) + (1 : Int32)))] []))
            refine OwnOut.go (fun t k => XS.goto X32.here hx rfl (pc0 := 146) (pc' := 20) rfl (hb hby d7_146) (by decide) (by decide) k) ?_
            show OwnOut p e s below 0 0 _ (T32.setTop (mkF m 20 #[.val (.ref b0), .val (.long x1), .second, .val (.int x3), .val (.int x5), .val (.int (((2 : Int32) * x5) + (1 : Int32)))] []))
            exact ih _ _ _ x1 x3 x5 (((2 : Int32) * x5) + (1 : Int32)) b0 u0_size b1 l_28 b2 l_32 _ hr X32 e32 N_32 O_32 K_32 E0_32 F0_times_32 F0_clients_32 F0_size_32 A1_32 A_32 g0 g1 g2 ne0_1 ne0_2 ne1_2
        · rw [if_neg hc75] at hr
          refine OwnOut.go (fun t k => XS.ifNo X15.here hx rfl (hb hby d7_75) rfl (XT.i0_eq_f hc75) k) ?_
          show OwnOut p e s below 0 0 _ (T15.setTop (mkF m 78 #[.val (.ref b0), .val (.long x1), .second, .val (.int x3), .val (.int x4), .val (.int x5)] []))
          refine OwnOut.go (fun t k => XT.iincV X15.here hx rfl (1 : Int32) (hb hby d7_78) rfl rfl (l' := #[.val (.ref b0), .val (.long x1), .second, .val (.int x3), .val (.int x4), .val (.int (x5 + (1 : Int32)))]) rfl k) ?_
          show OwnOut p e s below 0 0 _ (T15.setTop (mkF m 81 #[.val (.ref b0), .val (.long x1), .second, .val (.int x3), .val (.int x4), .val (.int (x5 + (1 : Int32)))] []))
          refine OwnOut.go (fun t k => XS.aloadN X15.here hx rfl (hb hby d7_81) rfl rfl k) ?_
          show OwnOut p e s below 0 0 _ (T15.setTop (mkF m 82 #[.val (.ref b0), .val (.long x1), .second, .val (.int x3), .val (.int x4), .val (.int (x5 + (1 : Int32)))] [(.ref b0)]))
          obtain ⟨T33, X33, e33, st33⟩ := getF X15 hx hZ hown (host := "") (Or.inl (hw _ (List.mem_of_getElem? (i := 10) rfl))) Via.refl e15 F0_times (g := (mkF m 82 #[.val (.ref b0), .val (.long x1), .second, .val (.int x3), .val (.int x4), .val (.int (x5 + (1 : Int32)))] [(.ref b0)])) rfl rfl (hb hby d7_82)
          refine OwnOut.go (fun t k => st33 _ k) ?_
          show OwnOut p e s below 0 0 _ (T33.setTop (mkF m 85 #[.val (.ref b0), .val (.long x1), .second, .val (.int x3), .val (.int x4), .val (.int (x5 + (1 : Int32)))] [(.ref b1)]))
          refine OwnOut.go (fun t k => XS.iload X33.here hx rfl (hb hby d7_85) rfl k) ?_
          show OwnOut p e s below 0 0 _ (T33.setTop (mkF m 87 #[.val (.ref b0), .val (.long x1), .second, .val (.int x3), .val (.int x4), .val (.int (x5 + (1 : Int32)))] [(.int (x5 + (1 : Int32))), (.ref b1)]))
          obtain ⟨v34, hv34, hr⟩ := Option.bind_eq_some_iff.mp hr
          refine OwnOut.go (fun t k => ldJ X33 hx hZ e33 A1 hv34 (g := (mkF m 87 #[.val (.ref b0), .val (.long x1), .second, .val (.int x3), .val (.int x4), .val (.int (x5 + (1 : Int32)))] [(.int (x5 + (1 : Int32))), (.ref b1)])) rfl rfl (hb hby d7_87) t k) ?_
          show OwnOut p e s below 0 0 _ (T33.setTop (mkF m 88 #[.val (.ref b0), .val (.long x1), .second, .val (.int x3), .val (.int x4), .val (.int (x5 + (1 : Int32)))] [(.long v34)]))
          refine OwnOut.go (fun t k => XS.aloadN X33.here hx rfl (hb hby d7_88) rfl rfl k) ?_
          show OwnOut p e s below 0 0 _ (T33.setTop (mkF m 89 #[.val (.ref b0), .val (.long x1), .second, .val (.int x3), .val (.int x4), .val (.int (x5 + (1 : Int32)))] [(.ref b0), (.long v34)]))
          obtain ⟨T35, X35, e35, st35⟩ := getF X33 hx hZ hown (host := "") (Or.inl (hw _ (List.mem_of_getElem? (i := 13) rfl))) Via.refl e33 F0_clients (g := (mkF m 89 #[.val (.ref b0), .val (.long x1), .second, .val (.int x3), .val (.int x4), .val (.int (x5 + (1 : Int32)))] [(.ref b0), (.long v34)])) rfl rfl (hb hby d7_89)
          refine OwnOut.go (fun t k => st35 _ k) ?_
          show OwnOut p e s below 0 0 _ (T35.setTop (mkF m 92 #[.val (.ref b0), .val (.long x1), .second, .val (.int x3), .val (.int x4), .val (.int (x5 + (1 : Int32)))] [(.ref b2), (.long v34)]))
          refine OwnOut.go (fun t k => XS.iload X35.here hx rfl (hb hby d7_92) rfl k) ?_
          show OwnOut p e s below 0 0 _ (T35.setTop (mkF m 94 #[.val (.ref b0), .val (.long x1), .second, .val (.int x3), .val (.int x4), .val (.int (x5 + (1 : Int32)))] [(.int (x5 + (1 : Int32))), (.ref b2), (.long v34)]))
          obtain ⟨v36, hv36, hr⟩ := Option.bind_eq_some_iff.mp hr
          refine OwnOut.go (fun t k => ldI X35 hx hZ e35 A2 hv36 (g := (mkF m 94 #[.val (.ref b0), .val (.long x1), .second, .val (.int x3), .val (.int x4), .val (.int (x5 + (1 : Int32)))] [(.int (x5 + (1 : Int32))), (.ref b2), (.long v34)])) rfl rfl (hb hby d7_94) t k) ?_
          show OwnOut p e s below 0 0 _ (T35.setTop (mkF m 95 #[.val (.ref b0), .val (.long x1), .second, .val (.int x3), .val (.int x4), .val (.int (x5 + (1 : Int32)))] [(.int v36), (.long v34)]))
          refine OwnOut.go (fun t k => XS.lloadN X35.here hx rfl (hb hby d7_95) rfl k) ?_
          show OwnOut p e s below 0 0 _ (T35.setTop (mkF m 96 #[.val (.ref b0), .val (.long x1), .second, .val (.int x3), .val (.int x4), .val (.int (x5 + (1 : Int32)))] [(.long x1), (.int v36), (.long v34)]))
          refine OwnOut.go (fun t k => XS.iloadN X35.here hx rfl (hb hby d7_96) rfl k) ?_
          show OwnOut p e s below 0 0 _ (T35.setTop (mkF m 97 #[.val (.ref b0), .val (.long x1), .second, .val (.int x3), .val (.int x4), .val (.int (x5 + (1 : Int32)))] [(.int x3), (.long x1), (.int v36), (.long v34)]))
          obtain ⟨o37, ho37, hr⟩ := Option.bind_eq_some_iff.mp hr
          obtain ⟨r37, T37, L37, X37', hQ37, st37⟩ := callQ (W := 0) (rm := rx10) X35 hx hZ (y := (⟨"com/example/porter_drive/porterdrive/RequestQueue", "isBefore", "(JIJI)Z"⟩ : MethodName)) hown (hw _ (List.mem_of_getElem? (i := 47) rfl)) (hw _ (List.mem_of_getElem? (i := 48) rfl)) (hw _ (List.mem_of_getElem? (i := 3) rfl)) (hw _ (List.mem_of_getElem? (i := 49) rfl)) (by decide) (rm10 l Z a0 hw [] v34 v36 x1 x3 hA o37 ho37 ) (by decide) (by decide) (by decide) (by decide) e35 (g := (mkF m 97 #[.val (.ref b0), .val (.long x1), .second, .val (.int x3), .val (.int x4), .val (.int (x5 + (1 : Int32)))] [(.int x3), (.long x1), (.int v36), (.long v34)])) rfl (by rw [hml]; rfl) (argsL := [(.long v34), (.int v36), (.long x1), (.int x3)]) (rest := []) (lenOf pd10 rfl) rfl (by show 2 * 0 + _ ≤ _; exact Nat.le_of_eq rfl) (hb hby d7_97)
          obtain ⟨rfl, e37, rfl⟩ := hQ37
          rw [List.append_nil] at X37'
          have X37 : Stand p l e rx7 s m args below meth c T37 _ 0 0 := X37'
          refine OwnOut.go (fun t k => st37 _ k) ?_
          show OwnOut p e s below 0 0 _ (T37.setTop (mkF m 100 #[.val (.ref b0), .val (.long x1), .second, .val (.int x3), .val (.int x4), .val (.int (x5 + (1 : Int32)))] [(.int o37)]))
          by_cases hc100 : o37 = (0 : Int32)
          · rw [if_pos hc100] at hr
            refine OwnOut.go (fun t k => XS.ifNo X37.here hx rfl (hb hby d7_100) rfl (XT.i0_ne_f hc100) k) ?_
            show OwnOut p e s below 0 0 _ (T37.setTop (mkF m 103 #[.val (.ref b0), .val (.long x1), .second, .val (.int x3), .val (.int x4), .val (.int (x5 + (1 : Int32)))] []))
            refine OwnOut.go (fun t k => XS.goto X37.here hx rfl (pc0 := 103) (pc' := 149) rfl (hb hby d7_103) (by decide) (by decide) k) ?_
            show OwnOut p e s below 0 0 _ (T37.setTop (mkF m 149 #[.val (.ref b0), .val (.long x1), .second, .val (.int x3), .val (.int x4), .val (.int (x5 + (1 : Int32)))] []))
            exact w7_149 ⟨hx, hZ, hw, hby, hml, hown, hret, hlk, hnm⟩  _ _ _ x1 x3 x4 (x5 + (1 : Int32)) b0 u0_size b1 l1 b2 l2 _ hr X37 e37 N0 O0 K0 E0 F0_times F0_clients F0_size A1 A2 g0 g1 g2 ne0_1 ne0_2 ne1_2
          · rw [if_neg hc100] at hr
            refine OwnOut.go (fun t k => XS.ifYes X37.here hx rfl (pc0 := 100) (pc' := 106) rfl (hb hby d7_100) rfl (XT.i0_ne_t hc100) (by decide) (by decide) k) ?_
            show OwnOut p e s below 0 0 _ (T37.setTop (mkF m 106 #[.val (.ref b0), .val (.long x1), .second, .val (.int x3), .val (.int x4), .val (.int (x5 + (1 : Int32)))] []))
            refine OwnOut.go (fun t k => XS.aloadN X37.here hx rfl (hb hby d7_106) rfl rfl k) ?_
            show OwnOut p e s below 0 0 _ (T37.setTop (mkF m 107 #[.val (.ref b0), .val (.long x1), .second, .val (.int x3), .val (.int x4), .val (.int (x5 + (1 : Int32)))] [(.ref b0)]))
            obtain ⟨T38, X38, e38, st38⟩ := getF X37 hx hZ hown (host := "") (Or.inl (hw _ (List.mem_of_getElem? (i := 10) rfl))) Via.refl e37 F0_times (g := (mkF m 107 #[.val (.ref b0), .val (.long x1), .second, .val (.int x3), .val (.int x4), .val (.int (x5 + (1 : Int32)))] [(.ref b0)])) rfl rfl (hb hby d7_107)
            refine OwnOut.go (fun t k => st38 _ k) ?_
            show OwnOut p e s below 0 0 _ (T38.setTop (mkF m 110 #[.val (.ref b0), .val (.long x1), .second, .val (.int x3), .val (.int x4), .val (.int (x5 + (1 : Int32)))] [(.ref b1)]))
            refine OwnOut.go (fun t k => XS.iload X38.here hx rfl (hb hby d7_110) rfl k) ?_
            show OwnOut p e s below 0 0 _ (T38.setTop (mkF m 112 #[.val (.ref b0), .val (.long x1), .second, .val (.int x3), .val (.int x4), .val (.int (x5 + (1 : Int32)))] [(.int x4), (.ref b1)]))
            refine OwnOut.go (fun t k => XS.aloadN X38.here hx rfl (hb hby d7_112) rfl rfl k) ?_
            show OwnOut p e s below 0 0 _ (T38.setTop (mkF m 113 #[.val (.ref b0), .val (.long x1), .second, .val (.int x3), .val (.int x4), .val (.int (x5 + (1 : Int32)))] [(.ref b0), (.int x4), (.ref b1)]))
            obtain ⟨T39, X39, e39, st39⟩ := getF X38 hx hZ hown (host := "") (Or.inl (hw _ (List.mem_of_getElem? (i := 10) rfl))) Via.refl e38 F0_times (g := (mkF m 113 #[.val (.ref b0), .val (.long x1), .second, .val (.int x3), .val (.int x4), .val (.int (x5 + (1 : Int32)))] [(.ref b0), (.int x4), (.ref b1)])) rfl rfl (hb hby d7_113)
            refine OwnOut.go (fun t k => st39 _ k) ?_
            show OwnOut p e s below 0 0 _ (T39.setTop (mkF m 116 #[.val (.ref b0), .val (.long x1), .second, .val (.int x3), .val (.int x4), .val (.int (x5 + (1 : Int32)))] [(.ref b1), (.int x4), (.ref b1)]))
            refine OwnOut.go (fun t k => XS.iload X39.here hx rfl (hb hby d7_116) rfl k) ?_
            show OwnOut p e s below 0 0 _ (T39.setTop (mkF m 118 #[.val (.ref b0), .val (.long x1), .second, .val (.int x3), .val (.int x4), .val (.int (x5 + (1 : Int32)))] [(.int (x5 + (1 : Int32))), (.ref b1), (.int x4), (.ref b1)]))
            obtain ⟨v40, hv40, hr⟩ := Option.bind_eq_some_iff.mp hr
            refine OwnOut.go (fun t k => ldJ X39 hx hZ e39 A1 hv40 (g := (mkF m 118 #[.val (.ref b0), .val (.long x1), .second, .val (.int x3), .val (.int x4), .val (.int (x5 + (1 : Int32)))] [(.int (x5 + (1 : Int32))), (.ref b1), (.int x4), (.ref b1)])) rfl rfl (hb hby d7_118) t k) ?_
            show OwnOut p e s below 0 0 _ (T39.setTop (mkF m 119 #[.val (.ref b0), .val (.long x1), .second, .val (.int x3), .val (.int x4), .val (.int (x5 + (1 : Int32)))] [(.long v40), (.int x4), (.ref b1)]))
            obtain ⟨l_41, hl41, hr⟩ := Option.bind_eq_some_iff.mp hr
            obtain ⟨T41, h41, X41, e41, W41, A_41, st41⟩ := saJ X39 hx hZ e39 A1 hl41 (g := (mkF m 119 #[.val (.ref b0), .val (.long x1), .second, .val (.int x3), .val (.int x4), .val (.int (x5 + (1 : Int32)))] [(.long v40), (.int x4), (.ref b1)])) rfl rfl (hb hby d7_119)
            refine OwnOut.go (fun t k => st41 _ k) ?_
            have E0_41 := E0.wr W41
            have F0_times_41 := F0_times.other W41 (Or.inl ne0_1)
            have F0_clients_41 := F0_clients.other W41 (Or.inl ne0_1)
            have F0_size_41 := F0_size.other W41 (Or.inl ne0_1)
            have A2_41 := A2.other W41 (Ne.symm ne1_2)
            have N_41 := Fr.snoc X41 N0 g1
            have O_41 := O0.wr W41 g1
            have K_41 := K0.wr W41 (Or.inl (List.mem_of_getElem? (i := 0) rfl))
            show OwnOut p e s below 0 0 _ (T41.setTop (mkF m 120 #[.val (.ref b0), .val (.long x1), .second, .val (.int x3), .val (.int x4), .val (.int (x5 + (1 : Int32)))] []))
            refine OwnOut.go (fun t k => XS.aloadN X41.here hx rfl (hb hby d7_120) rfl rfl k) ?_
            show OwnOut p e s below 0 0 _ (T41.setTop (mkF m 121 #[.val (.ref b0), .val (.long x1), .second, .val (.int x3), .val (.int x4), .val (.int (x5 + (1 : Int32)))] [(.ref b0)]))
            obtain ⟨T42, X42, e42, st42⟩ := getF X41 hx hZ hown (host := "") (Or.inl (hw _ (List.mem_of_getElem? (i := 13) rfl))) Via.refl e41 F0_clients_41 (g := (mkF m 121 #[.val (.ref b0), .val (.long x1), .second, .val (.int x3), .val (.int x4), .val (.int (x5 + (1 : Int32)))] [(.ref b0)])) rfl rfl (hb hby d7_121)
            refine OwnOut.go (fun t k => st42 _ k) ?_
            show OwnOut p e s below 0 0 _ (T42.setTop (mkF m 124 #[.val (.ref b0), .val (.long x1), .second, .val (.int x3), .val (.int x4), .val (.int (x5 + (1 : Int32)))] [(.ref b2)]))
            refine OwnOut.go (fun t k => XS.iload X42.here hx rfl (hb hby d7_124) rfl k) ?_
            show OwnOut p e s below 0 0 _ (T42.setTop (mkF m 126 #[.val (.ref b0), .val (.long x1), .second, .val (.int x3), .val (.int x4), .val (.int (x5 + (1 : Int32)))] [(.int x4), (.ref b2)]))
            refine OwnOut.go (fun t k => XS.aloadN X42.here hx rfl (hb hby d7_126) rfl rfl k) ?_
            show OwnOut p e s below 0 0 _ (T42.setTop (mkF m 127 #[.val (.ref b0), .val (.long x1), .second, .val (.int x3), .val (.int x4), .val (.int (x5 + (1 : Int32)))] [(.ref b0), (.int x4), (.ref b2)]))
            obtain ⟨T43, X43, e43, st43⟩ := getF X42 hx hZ hown (host := "") (Or.inl (hw _ (List.mem_of_getElem? (i := 13) rfl))) Via.refl e42 F0_clients_41 (g := (mkF m 127 #[.val (.ref b0), .val (.long x1), .second, .val (.int x3), .val (.int x4), .val (.int (x5 + (1 : Int32)))] [(.ref b0), (.int x4), (.ref b2)])) rfl rfl (hb hby d7_127)
            refine OwnOut.go (fun t k => st43 _ k) ?_
            show OwnOut p e s below 0 0 _ (T43.setTop (mkF m 130 #[.val (.ref b0), .val (.long x1), .second, .val (.int x3), .val (.int x4), .val (.int (x5 + (1 : Int32)))] [(.ref b2), (.int x4), (.ref b2)]))
            refine OwnOut.go (fun t k => XS.iload X43.here hx rfl (hb hby d7_130) rfl k) ?_
            show OwnOut p e s below 0 0 _ (T43.setTop (mkF m 132 #[.val (.ref b0), .val (.long x1), .second, .val (.int x3), .val (.int x4), .val (.int (x5 + (1 : Int32)))] [(.int (x5 + (1 : Int32))), (.ref b2), (.int x4), (.ref b2)]))
            obtain ⟨v44, hv44, hr⟩ := Option.bind_eq_some_iff.mp hr
            refine OwnOut.go (fun t k => ldI X43 hx hZ e43 A2_41 hv44 (g := (mkF m 132 #[.val (.ref b0), .val (.long x1), .second, .val (.int x3), .val (.int x4), .val (.int (x5 + (1 : Int32)))] [(.int (x5 + (1 : Int32))), (.ref b2), (.int x4), (.ref b2)])) rfl rfl (hb hby d7_132) t k) ?_
            show OwnOut p e s below 0 0 _ (T43.setTop (mkF m 133 #[.val (.ref b0), .val (.long x1), .second, .val (.int x3), .val (.int x4), .val (.int (x5 + (1 : Int32)))] [(.int v44), (.int x4), (.ref b2)]))
            obtain ⟨l_45, hl45, hr⟩ := Option.bind_eq_some_iff.mp hr
            obtain ⟨T45, h45, X45, e45, W45, A_45, st45⟩ := saI X43 hx hZ e43 A2_41 hl45 (g := (mkF m 133 #[.val (.ref b0), .val (.long x1), .second, .val (.int x3), .val (.int x4), .val (.int (x5 + (1 : Int32)))] [(.int v44), (.int x4), (.ref b2)])) rfl rfl (hb hby d7_133)
            refine OwnOut.go (fun t k => st45 _ k) ?_
            have E0_45 := E0_41.wr W45
            have F0_times_45 := F0_times_41.other W45 (Or.inl ne0_2)
            have F0_clients_45 := F0_clients_41.other W45 (Or.inl ne0_2)
            have F0_size_45 := F0_size_41.other W45 (Or.inl ne0_2)
            have A1_45 := A_41.other W45 ne1_2
            have N_45 := Fr.snoc X45 N_41 g2
            have O_45 := O_41.wr W45 g2
            have K_45 := K_41.wr W45 (Or.inl (List.mem_of_getElem? (i := 1) rfl))
            show OwnOut p e s below 0 0 _ (T45.setTop (mkF m 134 #[.val (.ref b0), .val (.long x1), .second, .val (.int x3), .val (.int x4), .val (.int (x5 + (1 : Int32)))] []))
            refine OwnOut.go (fun t k => XS.iload X45.here hx rfl (hb hby d7_134) rfl k) ?_
            show OwnOut p e s below 0 0 _ (T45.setTop (mkF m 136 #[.val (.ref b0), .val (.long x1), .second, .val (.int x3), .val (.int x4), .val (.int (x5 + (1 : Int32)))] [(.int (x5 + (1 : Int32)))]))
            refine OwnOut.go (fun t k => XS.istore X45.here hx rfl (hb hby d7_136) rfl (l' := #[.val (.ref b0), .val (.long x1), .second, .val (.int x3), .val (.int (x5 + (1 : Int32))), .val (.int (x5 + (1 : Int32)))]) rfl k) ?_
            show OwnOut p e s below 0 0 _ (T45.setTop (mkF m 138 #[.val (.ref b0), .val (.long x1), .second, .val (.int x3), .val (.int (x5 + (1 : Int32))), .val (.int (x5 + (1 : Int32)))] []))
            refine OwnOut.go (fun t k => XT.iconstV X45.here hx rfl (2 : Int32) (hb hby d7_138) rfl k) ?_
            show OwnOut p e s below 0 0 _ (T45.setTop (mkF m 139 #[.val (.ref b0), .val (.long x1), .second, .val (.int x3), .val (.int (x5 + (1 : Int32))), .val (.int (x5 + (1 : Int32)))] [(.int (2 : Int32))]))
            refine OwnOut.go (fun t k => XS.iload X45.here hx rfl (hb hby d7_139) rfl k) ?_
            show OwnOut p e s below 0 0 _ (T45.setTop (mkF m 141 #[.val (.ref b0), .val (.long x1), .second, .val (.int x3), .val (.int (x5 + (1 : Int32))), .val (.int (x5 + (1 : Int32)))] [(.int (x5 + (1 : Int32))), (.int (2 : Int32))]))
            refine OwnOut.go (fun t k => XS.imul X45.here hx rfl (hb hby d7_141) rfl k) ?_
            show OwnOut p e s below 0 0 _ (T45.setTop (mkF m 142 #[.val (.ref b0), .val (.long x1), .second, .val (.int x3), .val (.int (x5 + (1 : Int32))), .val (.int (x5 + (1 : Int32)))] [(.int ((2 : Int32) * (x5 + (1 : Int32))))]))
            refine OwnOut.go (fun t k => XT.iconstV X45.here hx rfl (1 : Int32) (hb hby d7_142) rfl k) ?_
            show OwnOut p e s below 0 0 _ (T45.setTop (mkF m 143 #[.val (.ref b0), .val (.long x1), .second, .val (.int x3), .val (.int (x5 + (1 : Int32))), .val (.int (x5 + (1 : Int32)))] [(.int (1 : Int32)), (.int ((2 : Int32) * (x5 + (1 : Int32))))]))
            refine OwnOut.go (fun t k => XS.iadd X45.here hx rfl (hb hby d7_143) rfl k) ?_
            show OwnOut p e s below 0 0 _ (T45.setTop (mkF m 144 #[.val (.ref b0), .val (.long x1), .second, .val (.int x3), .val (.int (x5 + (1 : Int32))), .val (.int (x5 + (1 : Int32)))] [(.int (((2 : Int32) * (x5 + (1 : Int32))) + (1 : Int32)))]))
            refine OwnOut.go (fun t k => XS.istore X45.here hx rfl (hb hby d7_144) rfl (l' := #[.val (.ref b0), .val (.long x1), .second, .val (.int x3), .val (.int (x5 + (1 : Int32))), .val (.int (((2 : Int32) * (x5 + (1 : Int32))) + (1 : Int32)))]) rfl k) ?_
            show OwnOut p e s below 0 0 _ (T45.setTop (mkF m 146 #[.val (.ref b0), .val (.long x1), .second, .val (.int x3), .val (.int (x5 + (1 : Int32))), .val (.int (((2 : Int32) * (x5 + (1 : Int32))) + (1 : Int32)))] []))
            refine OwnOut.go (fun t k => XS.goto X45.here hx rfl (pc0 := 146) (pc' := 20) rfl (hb hby d7_146) (by decide) (by decide) k) ?_
            show OwnOut p e s below 0 0 _ (T45.setTop (mkF m 20 #[.val (.ref b0), .val (.long x1), .second, .val (.int x3), .val (.int (x5 + (1 : Int32))), .val (.int (((2 : Int32) * (x5 + (1 : Int32))) + (1 : Int32)))] []))
            exact ih _ _ _ x1 x3 (x5 + (1 : Int32)) (((2 : Int32) * (x5 + (1 : Int32))) + (1 : Int32)) b0 u0_size b1 l_41 b2 l_45 _ hr X45 e45 N_45 O_45 K_45 E0_45 F0_times_45 F0_clients_45 F0_size_45 A1_45 A_45 g0 g1 g2 ne0_1 ne0_2 ne1_2
      · rw [if_neg hc37] at hr
        refine OwnOut.go (fun t k => XS.icmpYes X6.here hx rfl (pc0 := 37) (pc' := 81) rfl (hb hby d7_37) rfl (XT.ii_ge_t hc37) (by decide) (by decide) k) ?_
        show OwnOut p e s below 0 0 _ (T6.setTop (mkF m 81 #[.val (.ref b0), .val (.long x1), .second, .val (.int x3), .val (.int x4), .val (.int x5)] []))
        refine OwnOut.go (fun t k => XS.aloadN X6.here hx rfl (hb hby d7_81) rfl rfl k) ?_
        show OwnOut p e s below 0 0 _ (T6.setTop (mkF m 82 #[.val (.ref b0), .val (.long x1), .second, .val (.int x3), .val (.int x4), .val (.int x5)] [(.ref b0)]))
        obtain ⟨T46, X46, e46, st46⟩ := getF X6 hx hZ hown (host := "") (Or.inl (hw _ (List.mem_of_getElem? (i := 10) rfl))) Via.refl e6 F0_times (g := (mkF m 82 #[.val (.ref b0), .val (.long x1), .second, .val (.int x3), .val (.int x4), .val (.int x5)] [(.ref b0)])) rfl rfl (hb hby d7_82)
        refine OwnOut.go (fun t k => st46 _ k) ?_
        show OwnOut p e s below 0 0 _ (T46.setTop (mkF m 85 #[.val (.ref b0), .val (.long x1), .second, .val (.int x3), .val (.int x4), .val (.int x5)] [(.ref b1)]))
        refine OwnOut.go (fun t k => XS.iload X46.here hx rfl (hb hby d7_85) rfl k) ?_
        show OwnOut p e s below 0 0 _ (T46.setTop (mkF m 87 #[.val (.ref b0), .val (.long x1), .second, .val (.int x3), .val (.int x4), .val (.int x5)] [(.int x5), (.ref b1)]))
        obtain ⟨v47, hv47, hr⟩ := Option.bind_eq_some_iff.mp hr
        refine OwnOut.go (fun t k => ldJ X46 hx hZ e46 A1 hv47 (g := (mkF m 87 #[.val (.ref b0), .val (.long x1), .second, .val (.int x3), .val (.int x4), .val (.int x5)] [(.int x5), (.ref b1)])) rfl rfl (hb hby d7_87) t k) ?_
        show OwnOut p e s below 0 0 _ (T46.setTop (mkF m 88 #[.val (.ref b0), .val (.long x1), .second, .val (.int x3), .val (.int x4), .val (.int x5)] [(.long v47)]))
        refine OwnOut.go (fun t k => XS.aloadN X46.here hx rfl (hb hby d7_88) rfl rfl k) ?_
        show OwnOut p e s below 0 0 _ (T46.setTop (mkF m 89 #[.val (.ref b0), .val (.long x1), .second, .val (.int x3), .val (.int x4), .val (.int x5)] [(.ref b0), (.long v47)]))
        obtain ⟨T48, X48, e48, st48⟩ := getF X46 hx hZ hown (host := "") (Or.inl (hw _ (List.mem_of_getElem? (i := 13) rfl))) Via.refl e46 F0_clients (g := (mkF m 89 #[.val (.ref b0), .val (.long x1), .second, .val (.int x3), .val (.int x4), .val (.int x5)] [(.ref b0), (.long v47)])) rfl rfl (hb hby d7_89)
        refine OwnOut.go (fun t k => st48 _ k) ?_
        show OwnOut p e s below 0 0 _ (T48.setTop (mkF m 92 #[.val (.ref b0), .val (.long x1), .second, .val (.int x3), .val (.int x4), .val (.int x5)] [(.ref b2), (.long v47)]))
        refine OwnOut.go (fun t k => XS.iload X48.here hx rfl (hb hby d7_92) rfl k) ?_
        show OwnOut p e s below 0 0 _ (T48.setTop (mkF m 94 #[.val (.ref b0), .val (.long x1), .second, .val (.int x3), .val (.int x4), .val (.int x5)] [(.int x5), (.ref b2), (.long v47)]))
        obtain ⟨v49, hv49, hr⟩ := Option.bind_eq_some_iff.mp hr
        refine OwnOut.go (fun t k => ldI X48 hx hZ e48 A2 hv49 (g := (mkF m 94 #[.val (.ref b0), .val (.long x1), .second, .val (.int x3), .val (.int x4), .val (.int x5)] [(.int x5), (.ref b2), (.long v47)])) rfl rfl (hb hby d7_94) t k) ?_
        show OwnOut p e s below 0 0 _ (T48.setTop (mkF m 95 #[.val (.ref b0), .val (.long x1), .second, .val (.int x3), .val (.int x4), .val (.int x5)] [(.int v49), (.long v47)]))
        refine OwnOut.go (fun t k => XS.lloadN X48.here hx rfl (hb hby d7_95) rfl k) ?_
        show OwnOut p e s below 0 0 _ (T48.setTop (mkF m 96 #[.val (.ref b0), .val (.long x1), .second, .val (.int x3), .val (.int x4), .val (.int x5)] [(.long x1), (.int v49), (.long v47)]))
        refine OwnOut.go (fun t k => XS.iloadN X48.here hx rfl (hb hby d7_96) rfl k) ?_
        show OwnOut p e s below 0 0 _ (T48.setTop (mkF m 97 #[.val (.ref b0), .val (.long x1), .second, .val (.int x3), .val (.int x4), .val (.int x5)] [(.int x3), (.long x1), (.int v49), (.long v47)]))
        obtain ⟨o50, ho50, hr⟩ := Option.bind_eq_some_iff.mp hr
        obtain ⟨r50, T50, L50, X50', hQ50, st50⟩ := callQ (W := 0) (rm := rx10) X48 hx hZ (y := (⟨"com/example/porter_drive/porterdrive/RequestQueue", "isBefore", "(JIJI)Z"⟩ : MethodName)) hown (hw _ (List.mem_of_getElem? (i := 47) rfl)) (hw _ (List.mem_of_getElem? (i := 48) rfl)) (hw _ (List.mem_of_getElem? (i := 3) rfl)) (hw _ (List.mem_of_getElem? (i := 49) rfl)) (by decide) (rm10 l Z a0 hw [] v47 v49 x1 x3 hA o50 ho50 ) (by decide) (by decide) (by decide) (by decide) e48 (g := (mkF m 97 #[.val (.ref b0), .val (.long x1), .second, .val (.int x3), .val (.int x4), .val (.int x5)] [(.int x3), (.long x1), (.int v49), (.long v47)])) rfl (by rw [hml]; rfl) (argsL := [(.long v47), (.int v49), (.long x1), (.int x3)]) (rest := []) (lenOf pd10 rfl) rfl (by show 2 * 0 + _ ≤ _; exact Nat.le_of_eq rfl) (hb hby d7_97)
        obtain ⟨rfl, e50, rfl⟩ := hQ50
        rw [List.append_nil] at X50'
        have X50 : Stand p l e rx7 s m args below meth c T50 _ 0 0 := X50'
        refine OwnOut.go (fun t k => st50 _ k) ?_
        show OwnOut p e s below 0 0 _ (T50.setTop (mkF m 100 #[.val (.ref b0), .val (.long x1), .second, .val (.int x3), .val (.int x4), .val (.int x5)] [(.int o50)]))
        by_cases hc100 : o50 = (0 : Int32)
        · rw [if_pos hc100] at hr
          refine OwnOut.go (fun t k => XS.ifNo X50.here hx rfl (hb hby d7_100) rfl (XT.i0_ne_f hc100) k) ?_
          show OwnOut p e s below 0 0 _ (T50.setTop (mkF m 103 #[.val (.ref b0), .val (.long x1), .second, .val (.int x3), .val (.int x4), .val (.int x5)] []))
          refine OwnOut.go (fun t k => XS.goto X50.here hx rfl (pc0 := 103) (pc' := 149) rfl (hb hby d7_103) (by decide) (by decide) k) ?_
          show OwnOut p e s below 0 0 _ (T50.setTop (mkF m 149 #[.val (.ref b0), .val (.long x1), .second, .val (.int x3), .val (.int x4), .val (.int x5)] []))
          exact w7_149 ⟨hx, hZ, hw, hby, hml, hown, hret, hlk, hnm⟩  _ _ _ x1 x3 x4 x5 b0 u0_size b1 l1 b2 l2 _ hr X50 e50 N0 O0 K0 E0 F0_times F0_clients F0_size A1 A2 g0 g1 g2 ne0_1 ne0_2 ne1_2
        · rw [if_neg hc100] at hr
          refine OwnOut.go (fun t k => XS.ifYes X50.here hx rfl (pc0 := 100) (pc' := 106) rfl (hb hby d7_100) rfl (XT.i0_ne_t hc100) (by decide) (by decide) k) ?_
          show OwnOut p e s below 0 0 _ (T50.setTop (mkF m 106 #[.val (.ref b0), .val (.long x1), .second, .val (.int x3), .val (.int x4), .val (.int x5)] []))
          refine OwnOut.go (fun t k => XS.aloadN X50.here hx rfl (hb hby d7_106) rfl rfl k) ?_
          show OwnOut p e s below 0 0 _ (T50.setTop (mkF m 107 #[.val (.ref b0), .val (.long x1), .second, .val (.int x3), .val (.int x4), .val (.int x5)] [(.ref b0)]))
          obtain ⟨T51, X51, e51, st51⟩ := getF X50 hx hZ hown (host := "") (Or.inl (hw _ (List.mem_of_getElem? (i := 10) rfl))) Via.refl e50 F0_times (g := (mkF m 107 #[.val (.ref b0), .val (.long x1), .second, .val (.int x3), .val (.int x4), .val (.int x5)] [(.ref b0)])) rfl rfl (hb hby d7_107)
          refine OwnOut.go (fun t k => st51 _ k) ?_
          show OwnOut p e s below 0 0 _ (T51.setTop (mkF m 110 #[.val (.ref b0), .val (.long x1), .second, .val (.int x3), .val (.int x4), .val (.int x5)] [(.ref b1)]))
          refine OwnOut.go (fun t k => XS.iload X51.here hx rfl (hb hby d7_110) rfl k) ?_
          show OwnOut p e s below 0 0 _ (T51.setTop (mkF m 112 #[.val (.ref b0), .val (.long x1), .second, .val (.int x3), .val (.int x4), .val (.int x5)] [(.int x4), (.ref b1)]))
          refine OwnOut.go (fun t k => XS.aloadN X51.here hx rfl (hb hby d7_112) rfl rfl k) ?_
          show OwnOut p e s below 0 0 _ (T51.setTop (mkF m 113 #[.val (.ref b0), .val (.long x1), .second, .val (.int x3), .val (.int x4), .val (.int x5)] [(.ref b0), (.int x4), (.ref b1)]))
          obtain ⟨T52, X52, e52, st52⟩ := getF X51 hx hZ hown (host := "") (Or.inl (hw _ (List.mem_of_getElem? (i := 10) rfl))) Via.refl e51 F0_times (g := (mkF m 113 #[.val (.ref b0), .val (.long x1), .second, .val (.int x3), .val (.int x4), .val (.int x5)] [(.ref b0), (.int x4), (.ref b1)])) rfl rfl (hb hby d7_113)
          refine OwnOut.go (fun t k => st52 _ k) ?_
          show OwnOut p e s below 0 0 _ (T52.setTop (mkF m 116 #[.val (.ref b0), .val (.long x1), .second, .val (.int x3), .val (.int x4), .val (.int x5)] [(.ref b1), (.int x4), (.ref b1)]))
          refine OwnOut.go (fun t k => XS.iload X52.here hx rfl (hb hby d7_116) rfl k) ?_
          show OwnOut p e s below 0 0 _ (T52.setTop (mkF m 118 #[.val (.ref b0), .val (.long x1), .second, .val (.int x3), .val (.int x4), .val (.int x5)] [(.int x5), (.ref b1), (.int x4), (.ref b1)]))
          obtain ⟨v53, hv53, hr⟩ := Option.bind_eq_some_iff.mp hr
          refine OwnOut.go (fun t k => ldJ X52 hx hZ e52 A1 hv53 (g := (mkF m 118 #[.val (.ref b0), .val (.long x1), .second, .val (.int x3), .val (.int x4), .val (.int x5)] [(.int x5), (.ref b1), (.int x4), (.ref b1)])) rfl rfl (hb hby d7_118) t k) ?_
          show OwnOut p e s below 0 0 _ (T52.setTop (mkF m 119 #[.val (.ref b0), .val (.long x1), .second, .val (.int x3), .val (.int x4), .val (.int x5)] [(.long v53), (.int x4), (.ref b1)]))
          obtain ⟨l_54, hl54, hr⟩ := Option.bind_eq_some_iff.mp hr
          obtain ⟨T54, h54, X54, e54, W54, A_54, st54⟩ := saJ X52 hx hZ e52 A1 hl54 (g := (mkF m 119 #[.val (.ref b0), .val (.long x1), .second, .val (.int x3), .val (.int x4), .val (.int x5)] [(.long v53), (.int x4), (.ref b1)])) rfl rfl (hb hby d7_119)
          refine OwnOut.go (fun t k => st54 _ k) ?_
          have E0_54 := E0.wr W54
          have F0_times_54 := F0_times.other W54 (Or.inl ne0_1)
          have F0_clients_54 := F0_clients.other W54 (Or.inl ne0_1)
          have F0_size_54 := F0_size.other W54 (Or.inl ne0_1)
          have A2_54 := A2.other W54 (Ne.symm ne1_2)
          have N_54 := Fr.snoc X54 N0 g1
          have O_54 := O0.wr W54 g1
          have K_54 := K0.wr W54 (Or.inl (List.mem_of_getElem? (i := 0) rfl))
          show OwnOut p e s below 0 0 _ (T54.setTop (mkF m 120 #[.val (.ref b0), .val (.long x1), .second, .val (.int x3), .val (.int x4), .val (.int x5)] []))
          refine OwnOut.go (fun t k => XS.aloadN X54.here hx rfl (hb hby d7_120) rfl rfl k) ?_
          show OwnOut p e s below 0 0 _ (T54.setTop (mkF m 121 #[.val (.ref b0), .val (.long x1), .second, .val (.int x3), .val (.int x4), .val (.int x5)] [(.ref b0)]))
          obtain ⟨T55, X55, e55, st55⟩ := getF X54 hx hZ hown (host := "") (Or.inl (hw _ (List.mem_of_getElem? (i := 13) rfl))) Via.refl e54 F0_clients_54 (g := (mkF m 121 #[.val (.ref b0), .val (.long x1), .second, .val (.int x3), .val (.int x4), .val (.int x5)] [(.ref b0)])) rfl rfl (hb hby d7_121)
          refine OwnOut.go (fun t k => st55 _ k) ?_
          show OwnOut p e s below 0 0 _ (T55.setTop (mkF m 124 #[.val (.ref b0), .val (.long x1), .second, .val (.int x3), .val (.int x4), .val (.int x5)] [(.ref b2)]))
          refine OwnOut.go (fun t k => XS.iload X55.here hx rfl (hb hby d7_124) rfl k) ?_
          show OwnOut p e s below 0 0 _ (T55.setTop (mkF m 126 #[.val (.ref b0), .val (.long x1), .second, .val (.int x3), .val (.int x4), .val (.int x5)] [(.int x4), (.ref b2)]))
          refine OwnOut.go (fun t k => XS.aloadN X55.here hx rfl (hb hby d7_126) rfl rfl k) ?_
          show OwnOut p e s below 0 0 _ (T55.setTop (mkF m 127 #[.val (.ref b0), .val (.long x1), .second, .val (.int x3), .val (.int x4), .val (.int x5)] [(.ref b0), (.int x4), (.ref b2)]))
          obtain ⟨T56, X56, e56, st56⟩ := getF X55 hx hZ hown (host := "") (Or.inl (hw _ (List.mem_of_getElem? (i := 13) rfl))) Via.refl e55 F0_clients_54 (g := (mkF m 127 #[.val (.ref b0), .val (.long x1), .second, .val (.int x3), .val (.int x4), .val (.int x5)] [(.ref b0), (.int x4), (.ref b2)])) rfl rfl (hb hby d7_127)
          refine OwnOut.go (fun t k => st56 _ k) ?_
          show OwnOut p e s below 0 0 _ (T56.setTop (mkF m 130 #[.val (.ref b0), .val (.long x1), .second, .val (.int x3), .val (.int x4), .val (.int x5)] [(.ref b2), (.int x4), (.ref b2)]))
          refine OwnOut.go (fun t k => XS.iload X56.here hx rfl (hb hby d7_130) rfl k) ?_
          show OwnOut p e s below 0 0 _ (T56.setTop (mkF m 132 #[.val (.ref b0), .val (.long x1), .second, .val (.int x3), .val (.int x4), .val (.int x5)] [(.int x5), (.ref b2), (.int x4), (.ref b2)]))
          obtain ⟨v57, hv57, hr⟩ := Option.bind_eq_some_iff.mp hr
          refine OwnOut.go (fun t k => ldI X56 hx hZ e56 A2_54 hv57 (g := (mkF m 132 #[.val (.ref b0), .val (.long x1), .second, .val (.int x3), .val (.int x4), .val (.int x5)] [(.int x5), (.ref b2), (.int x4), (.ref b2)])) rfl rfl (hb hby d7_132) t k) ?_
          show OwnOut p e s below 0 0 _ (T56.setTop (mkF m 133 #[.val (.ref b0), .val (.long x1), .second, .val (.int x3), .val (.int x4), .val (.int x5)] [(.int v57), (.int x4), (.ref b2)]))
          obtain ⟨l_58, hl58, hr⟩ := Option.bind_eq_some_iff.mp hr
          obtain ⟨T58, h58, X58, e58, W58, A_58, st58⟩ := saI X56 hx hZ e56 A2_54 hl58 (g := (mkF m 133 #[.val (.ref b0), .val (.long x1), .second, .val (.int x3), .val (.int x4), .val (.int x5)] [(.int v57), (.int x4), (.ref b2)])) rfl rfl (hb hby d7_133)
          refine OwnOut.go (fun t k => st58 _ k) ?_
          have E0_58 := E0_54.wr W58
          have F0_times_58 := F0_times_54.other W58 (Or.inl ne0_2)
          have F0_clients_58 := F0_clients_54.other W58 (Or.inl ne0_2)
          have F0_size_58 := F0_size_54.other W58 (Or.inl ne0_2)
          have A1_58 := A_54.other W58 ne1_2
          have N_58 := Fr.snoc X58 N_54 g2
          have O_58 := O_54.wr W58 g2
          have K_58 := K_54.wr W58 (Or.inl (List.mem_of_getElem? (i := 1) rfl))
          show OwnOut p e s below 0 0 _ (T58.setTop (mkF m 134 #[.val (.ref b0), .val (.long x1), .second, .val (.int x3), .val (.int x4), .val (.int x5)] []))
          refine OwnOut.go (fun t k => XS.iload X58.here hx rfl (hb hby d7_134) rfl k) ?_
          show OwnOut p e s below 0 0 _ (T58.setTop (mkF m 136 #[.val (.ref b0), .val (.long x1), .second, .val (.int x3), .val (.int x4), .val (.int x5)] [(.int x5)]))
          refine OwnOut.go (fun t k => XS.istore X58.here hx rfl (hb hby d7_136) rfl (l' := #[.val (.ref b0), .val (.long x1), .second, .val (.int x3), .val (.int x5), .val (.int x5)]) rfl k) ?_
          show OwnOut p e s below 0 0 _ (T58.setTop (mkF m 138 #[.val (.ref b0), .val (.long x1), .second, .val (.int x3), .val (.int x5), .val (.int x5)] []))
          refine OwnOut.go (fun t k => XT.iconstV X58.here hx rfl (2 : Int32) (hb hby d7_138) rfl k) ?_
          show OwnOut p e s below 0 0 _ (T58.setTop (mkF m 139 #[.val (.ref b0), .val (.long x1), .second, .val (.int x3), .val (.int x5), .val (.int x5)] [(.int (2 : Int32))]))
          refine OwnOut.go (fun t k => XS.iload X58.here hx rfl (hb hby d7_139) rfl k) ?_
          show OwnOut p e s below 0 0 _ (T58.setTop (mkF m 141 #[.val (.ref b0), .val (.long x1), .second, .val (.int x3), .val (.int x5), .val (.int x5)] [(.int x5), (.int (2 : Int32))]))
          refine OwnOut.go (fun t k => XS.imul X58.here hx rfl (hb hby d7_141) rfl k) ?_
          show OwnOut p e s below 0 0 _ (T58.setTop (mkF m 142 #[.val (.ref b0), .val (.long x1), .second, .val (.int x3), .val (.int x5), .val (.int x5)] [(.int ((2 : Int32) * x5))]))
          refine OwnOut.go (fun t k => XT.iconstV X58.here hx rfl (1 : Int32) (hb hby d7_142) rfl k) ?_
          show OwnOut p e s below 0 0 _ (T58.setTop (mkF m 143 #[.val (.ref b0), .val (.long x1), .second, .val (.int x3), .val (.int x5), .val (.int x5)] [(.int (1 : Int32)), (.int ((2 : Int32) * x5))]))
          refine OwnOut.go (fun t k => XS.iadd X58.here hx rfl (hb hby d7_143) rfl k) ?_
          show OwnOut p e s below 0 0 _ (T58.setTop (mkF m 144 #[.val (.ref b0), .val (.long x1), .second, .val (.int x3), .val (.int x5), .val (.int x5)] [(.int (((2 : Int32) * x5) + (1 : Int32)))]))
          refine OwnOut.go (fun t k => XS.istore X58.here hx rfl (hb hby d7_144) rfl (l' := #[.val (.ref b0), .val (.long x1), .second, .val (.int x3), .val (.int x5), .val (.int (((2 : Int32) * x5) + (1 : Int32)))]) rfl k) ?_
          show OwnOut p e s below 0 0 _ (T58.setTop (mkF m 146 #[.val (.ref b0), .val (.long x1), .second, .val (.int x3), .val (.int x5), .val (.int (((2 : Int32) * x5) + (1 : Int32)))] []))
          refine OwnOut.go (fun t k => XS.goto X58.here hx rfl (pc0 := 146) (pc' := 20) rfl (hb hby d7_146) (by decide) (by decide) k) ?_
          show OwnOut p e s below 0 0 _ (T58.setTop (mkF m 20 #[.val (.ref b0), .val (.long x1), .second, .val (.int x3), .val (.int x5), .val (.int (((2 : Int32) * x5) + (1 : Int32)))] []))
          exact ih _ _ _ x1 x3 x5 (((2 : Int32) * x5) + (1 : Int32)) b0 u0_size b1 l_54 b2 l_58 _ hr X58 e58 N_58 O_58 K_58 E0_58 F0_times_58 F0_clients_58 F0_size_58 A1_58 A_58 g0 g1 g2 ne0_1 ne0_2 ne1_2
    · rw [if_neg hc26] at hr
      refine OwnOut.go (fun t k => XS.icmpYes X5.here hx rfl (pc0 := 26) (pc' := 149) rfl (hb hby d7_26) rfl (XT.ii_ge_t hc26) (by decide) (by decide) k) ?_
      show OwnOut p e s below 0 0 _ (T5.setTop (mkF m 149 #[.val (.ref b0), .val (.long x1), .second, .val (.int x3), .val (.int x4), .val (.int x5)] []))
      exact w7_149 ⟨hx, hZ, hw, hby, hml, hown, hret, hlk, hnm⟩  _ _ _ x1 x3 x4 x5 b0 u0_size b1 l1 b2 l2 _ hr X5 e5 N0 O0 K0 E0 F0_times F0_clients F0_size A1 A2 g0 g1 g2 ne0_1 ne0_2 ne1_2
def f7 (u0_size : Int32) (l1 : List Int64) (l2 : List Int32) : Option (List Int64 × List Int32) := ((ldx l1 (0 : Int32)).bind fun v2 => ((ldx l2 (0 : Int32)).bind fun v4 => (f7_20 8 v2 v4 (0 : Int32) (1 : Int32) u0_size l1 l2)))
set_option maxRecDepth 65536 in
set_option maxHeartbeats 40000000 in
theorem w7_0 {p : Program} {l : Launch} {e : Env} {s : State} {m : MethodId} {args : Array Value} {below : List Frame} {meth : Method} {c : Code} {Z : State} {a0 : Array Value} {h0 : Heap} {n0 : Nat} (C : Cx7 Z a0 p s m meth c) :
    ∀ (T : State) (locs : List Loc) (hA : Heap) (b0 : Addr) (u0_size : Int32) (b1 : Addr) (l1 : List Int64) (b2 : Addr) (l2 : List Int32) (o : List Int64 × List Int32), f7 u0_size l1 l2 = some o → Stand p l e rx7 s m args below meth c T locs 0 0 → T.heap = hA → Fr n0 locs → Old Z n0 hA → Keep h0 hA [b1, b2] → (Exa Z hA b0 "com/example/porter_drive/porterdrive/RequestQueue") → (Fld Z hA b0 "com/example/porter_drive/porterdrive/RequestQueue" "times" "[J" (.ref b1)) → (Fld Z hA b0 "com/example/porter_drive/porterdrive/RequestQueue" "clients" "[I" (.ref b2)) → (Fld Z hA b0 "com/example/porter_drive/porterdrive/RequestQueue" "size" "I" (.int u0_size)) → (Arj Z hA b1 l1) → (Ari Z hA b2 .int l2) → (n0 ≤ b0) → (n0 ≤ b1) → (n0 ≤ b2) → (b0 ≠ b1) → (b0 ≠ b2) → (b1 ≠ b2) →  OwnOut p e s below 0 0 (Q7 Z b0 u0_size b1 [] b2 [] h0 n0 o) (T.setTop (mkF m 0 #[.val (.ref b0), .unset, .unset, .unset, .unset, .unset] [])) := by
    obtain ⟨hx, hZ, hw, hby, hml, hown, hret, hlk, hnm⟩ := C
    intro T locs hA b0 u0_size b1 l1 b2 l2 o hr X0 e0 N0 O0 K0 E0 F0_times F0_clients F0_size A1 A2 g0 g1 g2 ne0_1 ne0_2 ne1_2
    rw [f7] at hr
    refine OwnOut.go (fun t k => XS.aloadN X0.here hx rfl (hb hby d7_0) rfl rfl k) ?_
    show OwnOut p e s below 0 0 _ (T.setTop (mkF m 1 #[.val (.ref b0), .unset, .unset, .unset, .unset, .unset] [(.ref b0)]))
    obtain ⟨T1, X1, e1, st1⟩ := getF X0 hx hZ hown (host := "") (Or.inl (hw _ (List.mem_of_getElem? (i := 10) rfl))) Via.refl e0 F0_times (g := (mkF m 1 #[.val (.ref b0), .unset, .unset, .unset, .unset, .unset] [(.ref b0)])) rfl rfl (hb hby d7_1)
    refine OwnOut.go (fun t k => st1 _ k) ?_
    show OwnOut p e s below 0 0 _ (T1.setTop (mkF m 4 #[.val (.ref b0), .unset, .unset, .unset, .unset, .unset] [(.ref b1)]))
    refine OwnOut.go (fun t k => XT.iconstV X1.here hx rfl (0 : Int32) (hb hby d7_4) rfl k) ?_
    show OwnOut p e s below 0 0 _ (T1.setTop (mkF m 5 #[.val (.ref b0), .unset, .unset, .unset, .unset, .unset] [(.int (0 : Int32)), (.ref b1)]))
    obtain ⟨v2, hv2, hr⟩ := Option.bind_eq_some_iff.mp hr
    refine OwnOut.go (fun t k => ldJ X1 hx hZ e1 A1 hv2 (g := (mkF m 5 #[.val (.ref b0), .unset, .unset, .unset, .unset, .unset] [(.int (0 : Int32)), (.ref b1)])) rfl rfl (hb hby d7_5) t k) ?_
    show OwnOut p e s below 0 0 _ (T1.setTop (mkF m 6 #[.val (.ref b0), .unset, .unset, .unset, .unset, .unset] [(.long v2)]))
    refine OwnOut.go (fun t k => XS.lstoreN X1.here hx rfl (hb hby d7_6) rfl (l' := #[.val (.ref b0), .val (.long v2), .second, .unset, .unset, .unset]) rfl k) ?_
    show OwnOut p e s below 0 0 _ (T1.setTop (mkF m 7 #[.val (.ref b0), .val (.long v2), .second, .unset, .unset, .unset] []))
    refine OwnOut.go (fun t k => XS.aloadN X1.here hx rfl (hb hby d7_7) rfl rfl k) ?_
    show OwnOut p e s below 0 0 _ (T1.setTop (mkF m 8 #[.val (.ref b0), .val (.long v2), .second, .unset, .unset, .unset] [(.ref b0)]))
    obtain ⟨T3, X3, e3, st3⟩ := getF X1 hx hZ hown (host := "") (Or.inl (hw _ (List.mem_of_getElem? (i := 13) rfl))) Via.refl e1 F0_clients (g := (mkF m 8 #[.val (.ref b0), .val (.long v2), .second, .unset, .unset, .unset] [(.ref b0)])) rfl rfl (hb hby d7_8)
    refine OwnOut.go (fun t k => st3 _ k) ?_
    show OwnOut p e s below 0 0 _ (T3.setTop (mkF m 11 #[.val (.ref b0), .val (.long v2), .second, .unset, .unset, .unset] [(.ref b2)]))
    refine OwnOut.go (fun t k => XT.iconstV X3.here hx rfl (0 : Int32) (hb hby d7_11) rfl k) ?_
    show OwnOut p e s below 0 0 _ (T3.setTop (mkF m 12 #[.val (.ref b0), .val (.long v2), .second, .unset, .unset, .unset] [(.int (0 : Int32)), (.ref b2)]))
    obtain ⟨v4, hv4, hr⟩ := Option.bind_eq_some_iff.mp hr
    refine OwnOut.go (fun t k => ldI X3 hx hZ e3 A2 hv4 (g := (mkF m 12 #[.val (.ref b0), .val (.long v2), .second, .unset, .unset, .unset] [(.int (0 : Int32)), (.ref b2)])) rfl rfl (hb hby d7_12) t k) ?_
    show OwnOut p e s below 0 0 _ (T3.setTop (mkF m 13 #[.val (.ref b0), .val (.long v2), .second, .unset, .unset, .unset] [(.int v4)]))
    refine OwnOut.go (fun t k => XS.istoreN X3.here hx rfl (hb hby d7_13) rfl (l' := #[.val (.ref b0), .val (.long v2), .second, .val (.int v4), .unset, .unset]) rfl k) ?_
    show OwnOut p e s below 0 0 _ (T3.setTop (mkF m 14 #[.val (.ref b0), .val (.long v2), .second, .val (.int v4), .unset, .unset] []))
    refine OwnOut.go (fun t k => XT.iconstV X3.here hx rfl (0 : Int32) (hb hby d7_14) rfl k) ?_
    show OwnOut p e s below 0 0 _ (T3.setTop (mkF m 15 #[.val (.ref b0), .val (.long v2), .second, .val (.int v4), .unset, .unset] [(.int (0 : Int32))]))
    refine OwnOut.go (fun t k => XS.istore X3.here hx rfl (hb hby d7_15) rfl (l' := #[.val (.ref b0), .val (.long v2), .second, .val (.int v4), .val (.int (0 : Int32)), .unset]) rfl k) ?_
    show OwnOut p e s below 0 0 _ (T3.setTop (mkF m 17 #[.val (.ref b0), .val (.long v2), .second, .val (.int v4), .val (.int (0 : Int32)), .unset] []))
    refine OwnOut.go (fun t k => XT.iconstV X3.here hx rfl (1 : Int32) (hb hby d7_17) rfl k) ?_
    show OwnOut p e s below 0 0 _ (T3.setTop (mkF m 18 #[.val (.ref b0), .val (.long v2), .second, .val (.int v4), .val (.int (0 : Int32)), .unset] [(.int (1 : Int32))]))
    refine OwnOut.go (fun t k => XS.istore X3.here hx rfl (hb hby d7_18) rfl (l' := #[.val (.ref b0), .val (.long v2), .second, .val (.int v4), .val (.int (0 : Int32)), .val (.int (1 : Int32))]) rfl k) ?_
    show OwnOut p e s below 0 0 _ (T3.setTop (mkF m 20 #[.val (.ref b0), .val (.long v2), .second, .val (.int v4), .val (.int (0 : Int32)), .val (.int (1 : Int32))] []))
    exact w7_20 ⟨hx, hZ, hw, hby, hml, hown, hret, hlk, hnm⟩ 8  _ _ _ v2 v4 (0 : Int32) (1 : Int32) b0 u0_size b1 l1 b2 l2 _ hr X3 e3 N0 O0 K0 E0 F0_times F0_clients F0_size A1 A2 g0 g1 g2 ne0_1 ne0_2 ne1_2
set_option maxRecDepth 65536 in
set_option maxHeartbeats 40000000 in
theorem rm7 (l : Launch) (Z : State) (a0 : Array Value) (hw : ∀ d ∈ tables_1, d.before a0 Z = true) (ws : List Jvm.Cond) (b0 : Addr) (u0_size : Int32) (b1 : Addr) (l1 : List Int64) (b2 : Addr) (l2 : List Int32) (h0 : Heap) (n0 : Nat) (o : List Int64 × List Int32) (hr : f7 u0_size l1 l2 = some o) (O0 : Old Z n0 h0) (E0 : Exa Z h0 b0 "com/example/porter_drive/porterdrive/RequestQueue") (F0_times : Fld Z h0 b0 "com/example/porter_drive/porterdrive/RequestQueue" "times" "[J" (.ref b1)) (F0_clients : Fld Z h0 b0 "com/example/porter_drive/porterdrive/RequestQueue" "clients" "[I" (.ref b2)) (F0_size : Fld Z h0 b0 "com/example/porter_drive/porterdrive/RequestQueue" "size" "I" (.int u0_size)) (A1 : Arj Z h0 b1 l1) (A2 : Ari Z h0 b2 .int l2) (g0 : n0 ≤ b0) (g1 : n0 ≤ b1) (g2 : n0 ≤ b2) (ne0_1 : b0 ≠ b1) (ne0_2 : b0 ≠ b2) (ne1_2 : b1 ≠ b2) :
    MetFree l (⟨"com/example/porter_drive/porterdrive/RequestQueue", "siftDown", "()V"⟩ : MethodName) (head1 (Jvm.Cond.code (⟨"com/example/porter_drive/porterdrive/RequestQueue", "siftDown", "()V"⟩ : MethodName) prog_24_method_7_code 6 none :: ws) rx7) (fun a U => a = #[(.ref b0)] ∧ Z.Warmed39 U.vm ∧ U.heap = h0) (fun _ _ _ _ _ => True) (fun _ U o' U' => ∃ v L, o' = .returned v ∧ Q7 Z b0 u0_size b1 l1 b2 l2 h0 n0 o v U'.heap L ∧ FrameEnd U o' U' L rx7.cells rx7.slots) := by
  refine MetFree.of_bodySF (plainFor_of_name pn7) hisR ?_
  intro p e s m args below meth c s₁ Bd hml0 hP hK
  obtain ⟨rfl, hZ, hh⟩ := hP
  have X0 : Stand p l e rx7 s m #[(.ref b0)] below meth c s₁ [] 0 0 := Stand.of_body Bd
  have e0 : s₁.heap = h0 := by rw [← hh, Bd.state]; rfl
  exact OwnOut.at (ef7 m b0) (w7_0 ⟨Bd.exec, hZ, hw, Bd.bytes, hml0, findClass_of_methodNamed Bd.named, Bd.returns, Bd.notSynchronized, (name_of_methodNamed Bd.named Bd.method).1⟩ _ _ _ b0 u0_size b1 l1 b2 l2 o hr X0 e0 (Fr.nil n0) O0 (Keep.refl _ _) E0 F0_times F0_clients F0_size A1 A2 g0 g1 g2 ne0_1 ne0_2 ne1_2)
-- body 6 as 6: com/example/porter_drive/porterdrive/RequestQueue.delayFirst:(J)V
theorem d6_0 : decode prog_24_method_6_code 0 = .ok (.aload_n 0, 1) := by decide +kernel
theorem d6_1 : decode prog_24_method_6_code 1 = .ok (.getfield 7, 3) := by decide +kernel
theorem d6_4 : decode prog_24_method_6_code 4 = .ok (.iconst 0, 1) := by decide +kernel
theorem d6_5 : decode prog_24_method_6_code 5 = .ok (.lload_n 1, 1) := by decide +kernel
theorem d6_6 : decode prog_24_method_6_code 6 = .ok (.lastore, 1) := by decide +kernel
theorem d6_7 : decode prog_24_method_6_code 7 = .ok (.aload_n 0, 1) := by decide +kernel
theorem d6_8 : decode prog_24_method_6_code 8 = .ok (.invokevirtual 21, 3) := by decide +kernel
theorem d6_11 : decode prog_24_method_6_code 11 = .ok (.return_, 1) := by decide +kernel
theorem pn6 : plainName "com/example/porter_drive/porterdrive/RequestQueue" = true := by first | (simp [plainName, overriddenIn]; done) | decide +kernel
theorem pd6 : parseMethodDescriptor "(J)V" = some ⟨[.long], none⟩ := by decide +kernel
theorem ef6 (m : MethodId) (b0 : Addr) (x1 : Int64) : entryFrame m #[(.ref b0), (.long x1)] 3 = mkF m 0 #[.val (.ref b0), .val (.long x1), .second] [] := by first | (simp [entryFrame, mkF, argsToLocals, Value.category]; done) | rfl
abbrev rx6 : Room := { frames := 2, cells := 0, slots := 0, locals := 34 }
abbrev Cx6 (Z : State) (a0 : Array Value) (p : Program) (s : State) (m : MethodId) (meth : Method) (c : Code) : Prop := p.tables.exec = Jvm.exec ∧ Z.Warmed39 s.vm ∧ (∀ d ∈ tables_1, d.before a0 Z = true) ∧ c.code = prog_24_method_6_code ∧ c.maxLocals = 3 ∧ s.vm.findClass "com/example/porter_drive/porterdrive/RequestQueue" = some m.cls ∧ meth.sig.returnType = none ∧ meth.locks = false ∧ meth.name = "delayFirst"
def Q6 (Z : State) (x1 : Int64) (b0 : Addr) (u0_size : Int32) (b1 : Addr) (l1 : List Int64) (b2 : Addr) (l2 : List Int32) (h0 : Heap) (n0 : Nat) (o : List Int64 × List Int32) (v : Option Value) (h : Heap) (L : List Loc) : Prop := v = none ∧ Fr n0 L ∧ Keep h0 h [b1, b2] ∧ Arj Z h b1 o.1 ∧ Ari Z h b2 .int o.2
def f6 (x1 : Int64) (u0_size : Int32) (l1 : List Int64) (l2 : List Int32) : Option (List Int64 × List Int32) := ((stx l1 (0 : Int32) x1).bind fun l_2 => ((f7 u0_size l_2 l2).bind fun o3 => some (o3.1, o3.2)))
set_option maxRecDepth 65536 in
set_option maxHeartbeats 40000000 in
theorem w6_0 {p : Program} {l : Launch} {e : Env} {s : State} {m : MethodId} {args : Array Value} {below : List Frame} {meth : Method} {c : Code} {Z : State} {a0 : Array Value} {h0 : Heap} {n0 : Nat} (C : Cx6 Z a0 p s m meth c) :
    ∀ (T : State) (locs : List Loc) (hA : Heap) (x1 : Int64) (b0 : Addr) (u0_size : Int32) (b1 : Addr) (l1 : List Int64) (b2 : Addr) (l2 : List Int32) (o : List Int64 × List Int32), f6 x1 u0_size l1 l2 = some o → Stand p l e rx6 s m args below meth c T locs 0 0 → T.heap = hA → Fr n0 locs → Old Z n0 hA → Keep h0 hA [b1, b2] → (Exa Z hA b0 "com/example/porter_drive/porterdrive/RequestQueue") → (Fld Z hA b0 "com/example/porter_drive/porterdrive/RequestQueue" "times" "[J" (.ref b1)) → (Fld Z hA b0 "com/example/porter_drive/porterdrive/RequestQueue" "clients" "[I" (.ref b2)) → (Fld Z hA b0 "com/example/porter_drive/porterdrive/RequestQueue" "size" "I" (.int u0_size)) → (Arj Z hA b1 l1) → (Ari Z hA b2 .int l2) → (n0 ≤ b0) → (n0 ≤ b1) → (n0 ≤ b2) → (b0 ≠ b1) → (b0 ≠ b2) → (b1 ≠ b2) →  OwnOut p e s below 0 0 (Q6 Z default b0 u0_size b1 [] b2 [] h0 n0 o) (T.setTop (mkF m 0 #[.val (.ref b0), .val (.long x1), .second] [])) := by
    obtain ⟨hx, hZ, hw, hby, hml, hown, hret, hlk, hnm⟩ := C
    intro T locs hA x1 b0 u0_size b1 l1 b2 l2 o hr X0 e0 N0 O0 K0 E0 F0_times F0_clients F0_size A1 A2 g0 g1 g2 ne0_1 ne0_2 ne1_2
    rw [f6] at hr
    refine OwnOut.go (fun t k => XS.aloadN X0.here hx rfl (hb hby d6_0) rfl rfl k) ?_
    show OwnOut p e s below 0 0 _ (T.setTop (mkF m 1 #[.val (.ref b0), .val (.long x1), .second] [(.ref b0)]))
    obtain ⟨T1, X1, e1, st1⟩ := getF X0 hx hZ hown (host := "") (Or.inl (hw _ (List.mem_of_getElem? (i := 10) rfl))) Via.refl e0 F0_times (g := (mkF m 1 #[.val (.ref b0), .val (.long x1), .second] [(.ref b0)])) rfl rfl (hb hby d6_1)
    refine OwnOut.go (fun t k => st1 _ k) ?_
    show OwnOut p e s below 0 0 _ (T1.setTop (mkF m 4 #[.val (.ref b0), .val (.long x1), .second] [(.ref b1)]))
    refine OwnOut.go (fun t k => XT.iconstV X1.here hx rfl (0 : Int32) (hb hby d6_4) rfl k) ?_
    show OwnOut p e s below 0 0 _ (T1.setTop (mkF m 5 #[.val (.ref b0), .val (.long x1), .second] [(.int (0 : Int32)), (.ref b1)]))
    refine OwnOut.go (fun t k => XS.lloadN X1.here hx rfl (hb hby d6_5) rfl k) ?_
    show OwnOut p e s below 0 0 _ (T1.setTop (mkF m 6 #[.val (.ref b0), .val (.long x1), .second] [(.long x1), (.int (0 : Int32)), (.ref b1)]))
    obtain ⟨l_2, hl2, hr⟩ := Option.bind_eq_some_iff.mp hr
    obtain ⟨T2, h2, X2, e2, W2, A_2, st2⟩ := saJ X1 hx hZ e1 A1 hl2 (g := (mkF m 6 #[.val (.ref b0), .val (.long x1), .second] [(.long x1), (.int (0 : Int32)), (.ref b1)])) rfl rfl (hb hby d6_6)
    refine OwnOut.go (fun t k => st2 _ k) ?_
    have E0_2 := E0.wr W2
    have F0_times_2 := F0_times.other W2 (Or.inl ne0_1)
    have F0_clients_2 := F0_clients.other W2 (Or.inl ne0_1)
    have F0_size_2 := F0_size.other W2 (Or.inl ne0_1)
    have A2_2 := A2.other W2 (Ne.symm ne1_2)
    have N_2 := Fr.snoc X2 N0 g1
    have O_2 := O0.wr W2 g1
    have K_2 := K0.wr W2 (Or.inl (List.mem_of_getElem? (i := 0) rfl))
    show OwnOut p e s below 0 0 _ (T2.setTop (mkF m 7 #[.val (.ref b0), .val (.long x1), .second] []))
    refine OwnOut.go (fun t k => XS.aloadN X2.here hx rfl (hb hby d6_7) rfl rfl k) ?_
    show OwnOut p e s below 0 0 _ (T2.setTop (mkF m 8 #[.val (.ref b0), .val (.long x1), .second] [(.ref b0)]))
    obtain ⟨o3, ho3, hr⟩ := Option.bind_eq_some_iff.mp hr
    obtain ⟨r3, T3, L3, X3', hQ3, st3⟩ := callR (W := 0) (rm := rx7) X2 hx hZ (y := (⟨"com/example/porter_drive/porterdrive/RequestQueue", "siftDown", "()V"⟩ : MethodName)) hown (hw _ (List.mem_of_getElem? (i := 33) rfl)) (hw _ (List.mem_of_getElem? (i := 35) rfl)) (hw _ (List.mem_of_getElem? (i := 2) rfl)) (hw _ (List.mem_of_getElem? (i := 34) rfl)) (hw _ (List.mem_of_getElem? (i := 3) rfl)) (hw _ (List.mem_of_getElem? (i := 36) rfl)) (by decide) (rm7 l Z a0 hw [] b0 u0_size b1 l_2 b2 l2 h2 n0 o3 ho3 O_2 E0_2 F0_times_2 F0_clients_2 F0_size_2 A_2 A2_2 g0 g1 g2 ne0_1 ne0_2 ne1_2) (by decide) (by decide) (by decide) (by decide) e2 E0_2 (g := (mkF m 8 #[.val (.ref b0), .val (.long x1), .second] [(.ref b0)])) rfl (by rw [hml]; rfl) (argsL := []) (rest := []) (lenOf pd7 rfl) rfl (by show 2 * 0 + _ ≤ _; exact Nat.le_of_eq rfl) (hb hby d6_8)
    obtain ⟨rfl, Nq3, Kq3, A1_3, A2_3⟩ := hQ3
    have X3 : Stand p l e rx6 s m args below meth c T3 _ 0 0 := X3'
    have E0_3 := E0_2.keep Kq3
    have F0_times_3 := F0_times_2.keep Kq3 (ninS ne0_1 (ninS ne0_2 nin0))
    have F0_clients_3 := F0_clients_2.keep Kq3 (ninS ne0_1 (ninS ne0_2 nin0))
    have F0_size_3 := F0_size_2.keep Kq3 (ninS ne0_1 (ninS ne0_2 nin0))
    have N_3 := Fr.app N_2 Nq3
    have O_3 := O_2.keep Kq3 (allS g1 (allS g2 all0))
    have K_3 := K_2.trans Kq3 (allS (Or.inl (List.mem_of_getElem? (i := 0) rfl)) (allS (Or.inl (List.mem_of_getElem? (i := 1) rfl)) all0))
    refine OwnOut.go (fun t k => st3 _ k) ?_
    show OwnOut p e s below 0 0 _ (T3.setTop (mkF m 11 #[.val (.ref b0), .val (.long x1), .second] []))
    cases hr
    exact outV X3 hx hret (hb hby d6_11) hlk (by decide) (by decide) ⟨rfl, N_3, K_3, A1_3, A2_3⟩
set_option maxRecDepth 65536 in
set_option maxHeartbeats 40000000 in
theorem rm6 (l : Launch) (Z : State) (a0 : Array Value) (hw : ∀ d ∈ tables_1, d.before a0 Z = true) (ws : List Jvm.Cond) (x1 : Int64) (b0 : Addr) (u0_size : Int32) (b1 : Addr) (l1 : List Int64) (b2 : Addr) (l2 : List Int32) (h0 : Heap) (n0 : Nat) (o : List Int64 × List Int32) (hr : f6 x1 u0_size l1 l2 = some o) (O0 : Old Z n0 h0) (E0 : Exa Z h0 b0 "com/example/porter_drive/porterdrive/RequestQueue") (F0_times : Fld Z h0 b0 "com/example/porter_drive/porterdrive/RequestQueue" "times" "[J" (.ref b1)) (F0_clients : Fld Z h0 b0 "com/example/porter_drive/porterdrive/RequestQueue" "clients" "[I" (.ref b2)) (F0_size : Fld Z h0 b0 "com/example/porter_drive/porterdrive/RequestQueue" "size" "I" (.int u0_size)) (A1 : Arj Z h0 b1 l1) (A2 : Ari Z h0 b2 .int l2) (g0 : n0 ≤ b0) (g1 : n0 ≤ b1) (g2 : n0 ≤ b2) (ne0_1 : b0 ≠ b1) (ne0_2 : b0 ≠ b2) (ne1_2 : b1 ≠ b2) :
    MetFree l (⟨"com/example/porter_drive/porterdrive/RequestQueue", "delayFirst", "(J)V"⟩ : MethodName) (head1 (Jvm.Cond.code (⟨"com/example/porter_drive/porterdrive/RequestQueue", "delayFirst", "(J)V"⟩ : MethodName) prog_24_method_6_code 3 none :: ws) rx6) (fun a U => a = #[(.ref b0), (.long x1)] ∧ Z.Warmed39 U.vm ∧ U.heap = h0) (fun _ _ _ _ _ => True) (fun _ U o' U' => ∃ v L, o' = .returned v ∧ Q6 Z x1 b0 u0_size b1 l1 b2 l2 h0 n0 o v U'.heap L ∧ FrameEnd U o' U' L rx6.cells rx6.slots) := by
  refine MetFree.of_bodySF (plainFor_of_name pn6) hisR ?_
  intro p e s m args below meth c s₁ Bd hml0 hP hK
  obtain ⟨rfl, hZ, hh⟩ := hP
  have X0 : Stand p l e rx6 s m #[(.ref b0), (.long x1)] below meth c s₁ [] 0 0 := Stand.of_body Bd
  have e0 : s₁.heap = h0 := by rw [← hh, Bd.state]; rfl
  exact OwnOut.at (ef6 m b0 x1) (w6_0 ⟨Bd.exec, hZ, hw, Bd.bytes, hml0, findClass_of_methodNamed Bd.named, Bd.returns, Bd.notSynchronized, (name_of_methodNamed Bd.named Bd.method).1⟩ _ _ _ x1 b0 u0_size b1 l1 b2 l2 o hr X0 e0 (Fr.nil n0) O0 (Keep.refl _ _) E0 F0_times F0_clients F0_size A1 A2 g0 g1 g2 ne0_1 ne0_2 ne1_2)
-- body 8 as 8: com/example/porter_drive/porterdrive/RequestQueue.firstClient:()I (touches nothing)
theorem d8_0 : decode prog_24_method_4_code 0 = .ok (.aload_n 0, 1) := by decide +kernel
theorem d8_1 : decode prog_24_method_4_code 1 = .ok (.getfield 13, 3) := by decide +kernel
theorem d8_4 : decode prog_24_method_4_code 4 = .ok (.iconst 0, 1) := by decide +kernel
theorem d8_5 : decode prog_24_method_4_code 5 = .ok (.iaload, 1) := by decide +kernel
theorem d8_6 : decode prog_24_method_4_code 6 = .ok (.ireturn, 1) := by decide +kernel
theorem pn8 : plainName "com/example/porter_drive/porterdrive/RequestQueue" = true := by first | (simp [plainName, overriddenIn]; done) | decide +kernel
theorem pd8 : parseMethodDescriptor "()I" = some ⟨[], some .int⟩ := by decide +kernel
theorem ef8 (m : MethodId) (b0 : Addr) : entryFrame m #[(.ref b0)] 1 = mkF m 0 #[.val (.ref b0)] [] := by first | (simp [entryFrame, mkF, argsToLocals, Value.category]; done) | rfl
abbrev rx8 : Room := { frames := 0, cells := 0, slots := 0, locals := 0 }
abbrev Cx8 (Z : State) (a0 : Array Value) (p : Program) (s : State) (m : MethodId) (meth : Method) (c : Code) : Prop := p.tables.exec = Jvm.exec ∧ Z.Warmed39 s.vm ∧ (∀ d ∈ tables_1, d.before a0 Z = true) ∧ c.code = prog_24_method_4_code ∧ c.maxLocals = 1 ∧ s.vm.findClass "com/example/porter_drive/porterdrive/RequestQueue" = some m.cls ∧ meth.sig.returnType = (some .int) ∧ meth.locks = false ∧ meth.name = "firstClient"
def Q8 (Z : State) (b0 : Addr) (u0_size : Int32) (b1 : Addr) (l1 : List Int64) (b2 : Addr) (l2 : List Int32) (h0 : Heap) (o : Int32) (v : Option Value) (h : Heap) (L : List Loc) : Prop := v = some (.int o) ∧ h = h0 ∧ L = []
def f8 (u0_size : Int32) (l1 : List Int64) (l2 : List Int32) : Option (Int32) := ((ldx l2 (0 : Int32)).bind fun v2 => some (v2))
set_option maxRecDepth 65536 in
set_option maxHeartbeats 40000000 in
theorem w8_0 {p : Program} {l : Launch} {e : Env} {s : State} {m : MethodId} {args : Array Value} {below : List Frame} {meth : Method} {c : Code} {Z : State} {a0 : Array Value} {h0 : Heap} (C : Cx8 Z a0 p s m meth c) :
    ∀ (T : State) (b0 : Addr) (u0_size : Int32) (b1 : Addr) (l1 : List Int64) (b2 : Addr) (l2 : List Int32) (o : Int32), f8 u0_size l1 l2 = some o → Stand p l e rx8 s m args below meth c T [] 0 0 → T.heap = h0 → (Exa Z h0 b0 "com/example/porter_drive/porterdrive/RequestQueue") → (Fld Z h0 b0 "com/example/porter_drive/porterdrive/RequestQueue" "times" "[J" (.ref b1)) → (Fld Z h0 b0 "com/example/porter_drive/porterdrive/RequestQueue" "clients" "[I" (.ref b2)) → (Fld Z h0 b0 "com/example/porter_drive/porterdrive/RequestQueue" "size" "I" (.int u0_size)) → (Arj Z h0 b1 l1) → (Ari Z h0 b2 .int l2) →  OwnOut p e s below 0 0 (Q8 Z b0 u0_size b1 l1 b2 l2 h0 o) (T.setTop (mkF m 0 #[.val (.ref b0)] [])) := by
    obtain ⟨hx, hZ, hw, hby, hml, hown, hret, hlk, hnm⟩ := C
    intro T b0 u0_size b1 l1 b2 l2 o hr X0 e0 E0 F0_times F0_clients F0_size A1 A2
    rw [f8] at hr
    refine OwnOut.go (fun t k => XS.aloadN X0.here hx rfl (hb hby d8_0) rfl rfl k) ?_
    show OwnOut p e s below 0 0 _ (T.setTop (mkF m 1 #[.val (.ref b0)] [(.ref b0)]))
    obtain ⟨T1, X1, e1, st1⟩ := getF X0 hx hZ hown (host := "") (Or.inl (hw _ (List.mem_of_getElem? (i := 13) rfl))) Via.refl e0 F0_clients (g := (mkF m 1 #[.val (.ref b0)] [(.ref b0)])) rfl rfl (hb hby d8_1)
    refine OwnOut.go (fun t k => st1 _ k) ?_
    show OwnOut p e s below 0 0 _ (T1.setTop (mkF m 4 #[.val (.ref b0)] [(.ref b2)]))
    refine OwnOut.go (fun t k => XT.iconstV X1.here hx rfl (0 : Int32) (hb hby d8_4) rfl k) ?_
    show OwnOut p e s below 0 0 _ (T1.setTop (mkF m 5 #[.val (.ref b0)] [(.int (0 : Int32)), (.ref b2)]))
    obtain ⟨v2, hv2, hr⟩ := Option.bind_eq_some_iff.mp hr
    refine OwnOut.go (fun t k => ldI X1 hx hZ e1 A2 hv2 (g := (mkF m 5 #[.val (.ref b0)] [(.int (0 : Int32)), (.ref b2)])) rfl rfl (hb hby d8_5) t k) ?_
    show OwnOut p e s below 0 0 _ (T1.setTop (mkF m 6 #[.val (.ref b0)] [(.int v2)]))
    cases hr
    exact outI X1 hx hret (hb hby d8_6) hlk (by decide) (by decide) ⟨rfl, e1, rfl⟩
set_option maxRecDepth 65536 in
set_option maxHeartbeats 40000000 in
theorem rm8 (l : Launch) (Z : State) (a0 : Array Value) (hw : ∀ d ∈ tables_1, d.before a0 Z = true) (ws : List Jvm.Cond) (b0 : Addr) (u0_size : Int32) (b1 : Addr) (l1 : List Int64) (b2 : Addr) (l2 : List Int32) (h0 : Heap) (o : Int32) (hr : f8 u0_size l1 l2 = some o) (E0 : Exa Z h0 b0 "com/example/porter_drive/porterdrive/RequestQueue") (F0_times : Fld Z h0 b0 "com/example/porter_drive/porterdrive/RequestQueue" "times" "[J" (.ref b1)) (F0_clients : Fld Z h0 b0 "com/example/porter_drive/porterdrive/RequestQueue" "clients" "[I" (.ref b2)) (F0_size : Fld Z h0 b0 "com/example/porter_drive/porterdrive/RequestQueue" "size" "I" (.int u0_size)) (A1 : Arj Z h0 b1 l1) (A2 : Ari Z h0 b2 .int l2) :
    MetFree l (⟨"com/example/porter_drive/porterdrive/RequestQueue", "firstClient", "()I"⟩ : MethodName) (head1 (Jvm.Cond.code (⟨"com/example/porter_drive/porterdrive/RequestQueue", "firstClient", "()I"⟩ : MethodName) prog_24_method_4_code 1 (some .int) :: ws) rx8) (fun a U => a = #[(.ref b0)] ∧ Z.Warmed39 U.vm ∧ U.heap = h0) (fun _ _ _ _ _ => True) (fun _ U o' U' => ∃ v L, o' = .returned v ∧ Q8 Z b0 u0_size b1 l1 b2 l2 h0 o v U'.heap L ∧ FrameEnd U o' U' L rx8.cells rx8.slots) := by
  refine MetFree.of_bodySF (plainFor_of_name pn8) hisR ?_
  intro p e s m args below meth c s₁ Bd hml0 hP hK
  obtain ⟨rfl, hZ, hh⟩ := hP
  have X0 : Stand p l e rx8 s m #[(.ref b0)] below meth c s₁ [] 0 0 := Stand.of_body Bd
  have e0 : s₁.heap = h0 := by rw [← hh, Bd.state]; rfl
  exact OwnOut.at (ef8 m b0) (w8_0 ⟨Bd.exec, hZ, hw, Bd.bytes, hml0, findClass_of_methodNamed Bd.named, Bd.returns, Bd.notSynchronized, (name_of_methodNamed Bd.named Bd.method).1⟩ _ b0 u0_size b1 l1 b2 l2 o hr X0 e0  E0 F0_times F0_clients F0_size A1 A2)
-- body 3 as 3: com/example/porter_drive/porterdrive/RequestQueueDelayFirstPinLaw.step:(Lcom/example/porter_drive/porterdrive/RequestQueue;[JIJ)Z
theorem d3_0 : decode method_3_code 0 = .ok (.aload_n 1, 1) := by decide +kernel
theorem d3_1 : decode method_3_code 1 = .ok (.iload_n 2, 1) := by decide +kernel
theorem d3_2 : decode method_3_code 2 = .ok (.invokestatic 18, 3) := by decide +kernel
theorem d3_5 : decode method_3_code 5 = .ok (.istore 5, 2) := by decide +kernel
theorem d3_7 : decode method_3_code 7 = .ok (.aload_n 1, 1) := by decide +kernel
theorem d3_8 : decode method_3_code 8 = .ok (.iload 5, 2) := by decide +kernel
theorem d3_10 : decode method_3_code 10 = .ok (.laload, 1) := by decide +kernel
theorem d3_11 : decode method_3_code 11 = .ok (.lload_n 3, 1) := by decide +kernel
theorem d3_12 : decode method_3_code 12 = .ok (.invokestatic 26, 3) := by decide +kernel
theorem d3_15 : decode method_3_code 15 = .ok (.lstore 6, 2) := by decide +kernel
theorem d3_17 : decode method_3_code 17 = .ok (.aload_n 0, 1) := by decide +kernel
theorem d3_18 : decode method_3_code 18 = .ok (.lload 6, 2) := by decide +kernel
theorem d3_20 : decode method_3_code 20 = .ok (.invokevirtual 32, 3) := by decide +kernel
theorem d3_23 : decode method_3_code 23 = .ok (.aload_n 1, 1) := by decide +kernel
theorem d3_24 : decode method_3_code 24 = .ok (.iload 5, 2) := by decide +kernel
theorem d3_26 : decode method_3_code 26 = .ok (.lload 6, 2) := by decide +kernel
theorem d3_28 : decode method_3_code 28 = .ok (.lastore, 1) := by decide +kernel
theorem d3_29 : decode method_3_code 29 = .ok (.aload_n 0, 1) := by decide +kernel
theorem d3_30 : decode method_3_code 30 = .ok (.invokevirtual 36, 3) := by decide +kernel
theorem d3_33 : decode method_3_code 33 = .ok (.aload_n 1, 1) := by decide +kernel
theorem d3_34 : decode method_3_code 34 = .ok (.iload_n 2, 1) := by decide +kernel
theorem d3_35 : decode method_3_code 35 = .ok (.invokestatic 18, 3) := by decide +kernel
theorem d3_38 : decode method_3_code 38 = .ok (.if_icmp .ne 7, 3) := by decide +kernel
theorem d3_41 : decode method_3_code 41 = .ok (.iconst 1, 1) := by decide +kernel
theorem d3_42 : decode method_3_code 42 = .ok (.goto 4, 3) := by decide +kernel
theorem d3_45 : decode method_3_code 45 = .ok (.iconst 0, 1) := by decide +kernel
theorem d3_46 : decode method_3_code 46 = .ok (.ireturn, 1) := by decide +kernel
theorem pn3 : plainName "com/example/porter_drive/porterdrive/RequestQueueDelayFirstPinLaw" = true := by first | (simp [plainName, overriddenIn]; done) | decide +kernel
theorem pd3 : parseMethodDescriptor "(Lcom/example/porter_drive/porterdrive/RequestQueue;[JIJ)Z" = some ⟨[(.object "com/example/porter_drive/porterdrive/RequestQueue"), (.array .long), .int, .long], some .boolean⟩ := by decide +kernel
theorem ef3 (m : MethodId) (b0 : Addr) (b3 : Addr) (x2 : Int32) (x3 : Int64) : entryFrame m #[(.ref b0), (.ref b3), (.int x2), (.long x3)] 8 = mkF m 0 #[.val (.ref b0), .val (.ref b3), .val (.int x2), .val (.long x3), .second, .unset, .unset, .unset] [] := by first | (simp [entryFrame, mkF, argsToLocals, Value.category]; done) | rfl
abbrev rx3 : Room := { frames := 3, cells := 0, slots := 0, locals := 48 }
abbrev Cx3 (Z : State) (a0 : Array Value) (p : Program) (s : State) (m : MethodId) (meth : Method) (c : Code) : Prop := p.tables.exec = Jvm.exec ∧ Z.Warmed39 s.vm ∧ (∀ d ∈ tables_1, d.before a0 Z = true) ∧ c.code = method_3_code ∧ c.maxLocals = 8 ∧ s.vm.findClass "com/example/porter_drive/porterdrive/RequestQueueDelayFirstPinLaw" = some m.cls ∧ meth.sig.returnType = (some .boolean) ∧ meth.locks = false ∧ meth.name = "step"
def Q3 (Z : State) (x2 : Int32) (x3 : Int64) (b0 : Addr) (u0_size : Int32) (b1 : Addr) (l1 : List Int64) (b2 : Addr) (l2 : List Int32) (b3 : Addr) (l3 : List Int64) (h0 : Heap) (n0 : Nat) (o : Int32 × List Int64 × List Int32 × List Int64) (v : Option Value) (h : Heap) (L : List Loc) : Prop := v = some (.int o.1) ∧ Fr n0 L ∧ Keep h0 h [b1, b2, b3] ∧ Arj Z h b1 o.2.1 ∧ Ari Z h b2 .int o.2.2.1 ∧ Arj Z h b3 o.2.2.2
def f3 (x2 : Int32) (x3 : Int64) (u0_size : Int32) (l1 : List Int64) (l2 : List Int32) (l3 : List Int64) : Option (Int32 × List Int64 × List Int32 × List Int64) := ((f4 x2 l3).bind fun o1 => ((ldx l3 o1).bind fun v2 => ((f5 v2 x3).bind fun o3 => ((f6 o3 u0_size l1 l2).bind fun o4 => ((stx l3 o1 o3).bind fun l_5 => ((f8 u0_size o4.1 o4.2).bind fun o6 => ((f4 x2 l_5).bind fun o7 => (if o6 = o7 then some ((1 : Int32), o4.1, o4.2, l_5) else some ((0 : Int32), o4.1, o4.2, l_5)))))))))
set_option maxRecDepth 65536 in
set_option maxHeartbeats 40000000 in
theorem w3_0 {p : Program} {l : Launch} {e : Env} {s : State} {m : MethodId} {args : Array Value} {below : List Frame} {meth : Method} {c : Code} {Z : State} {a0 : Array Value} {h0 : Heap} {n0 : Nat} (C : Cx3 Z a0 p s m meth c) :
    ∀ (T : State) (locs : List Loc) (hA : Heap) (x2 : Int32) (x3 : Int64) (b0 : Addr) (u0_size : Int32) (b1 : Addr) (l1 : List Int64) (b2 : Addr) (l2 : List Int32) (b3 : Addr) (l3 : List Int64) (o : Int32 × List Int64 × List Int32 × List Int64), f3 x2 x3 u0_size l1 l2 l3 = some o → Stand p l e rx3 s m args below meth c T locs 0 0 → T.heap = hA → Fr n0 locs → Old Z n0 hA → Keep h0 hA [b1, b2, b3] → (Exa Z hA b0 "com/example/porter_drive/porterdrive/RequestQueue") → (Fld Z hA b0 "com/example/porter_drive/porterdrive/RequestQueue" "times" "[J" (.ref b1)) → (Fld Z hA b0 "com/example/porter_drive/porterdrive/RequestQueue" "clients" "[I" (.ref b2)) → (Fld Z hA b0 "com/example/porter_drive/porterdrive/RequestQueue" "size" "I" (.int u0_size)) → (Arj Z hA b1 l1) → (Ari Z hA b2 .int l2) → (Arj Z hA b3 l3) → (n0 ≤ b0) → (n0 ≤ b1) → (n0 ≤ b2) → (n0 ≤ b3) → (b0 ≠ b1) → (b0 ≠ b2) → (b0 ≠ b3) → (b1 ≠ b2) → (b1 ≠ b3) → (b2 ≠ b3) →  OwnOut p e s below 0 0 (Q3 Z default default b0 u0_size b1 [] b2 [] b3 [] h0 n0 o) (T.setTop (mkF m 0 #[.val (.ref b0), .val (.ref b3), .val (.int x2), .val (.long x3), .second, .unset, .unset, .unset] [])) := by
    obtain ⟨hx, hZ, hw, hby, hml, hown, hret, hlk, hnm⟩ := C
    intro T locs hA x2 x3 b0 u0_size b1 l1 b2 l2 b3 l3 o hr X0 e0 N0 O0 K0 E0 F0_times F0_clients F0_size A1 A2 A3 g0 g1 g2 g3 ne0_1 ne0_2 ne0_3 ne1_2 ne1_3 ne2_3
    rw [f3] at hr
    refine OwnOut.go (fun t k => XS.aloadN X0.here hx rfl (hb hby d3_0) rfl rfl k) ?_
    show OwnOut p e s below 0 0 _ (T.setTop (mkF m 1 #[.val (.ref b0), .val (.ref b3), .val (.int x2), .val (.long x3), .second, .unset, .unset, .unset] [(.ref b3)]))
    refine OwnOut.go (fun t k => XS.iloadN X0.here hx rfl (hb hby d3_1) rfl k) ?_
    show OwnOut p e s below 0 0 _ (T.setTop (mkF m 2 #[.val (.ref b0), .val (.ref b3), .val (.int x2), .val (.long x3), .second, .unset, .unset, .unset] [(.int x2), (.ref b3)]))
    obtain ⟨o1, ho1, hr⟩ := Option.bind_eq_some_iff.mp hr
    obtain ⟨r1, T1, L1, X1', hQ1, st1⟩ := callQ (W := 0) (rm := rx4) X0 hx hZ (y := (⟨"com/example/porter_drive/porterdrive/RequestQueueDelayFirstPinLaw", "first", "([JI)I"⟩ : MethodName)) hown (hw _ (List.mem_of_getElem? (i := 21) rfl)) (hw _ (List.mem_of_getElem? (i := 22) rfl)) (hw _ (List.mem_of_getElem? (i := 19) rfl)) (hw _ (List.mem_of_getElem? (i := 23) rfl)) (by decide) (rm4 l Z a0 hw [] x2 b3 l3 hA o1 ho1 A3) (by decide) (by decide) (by decide) (by decide) e0 (g := (mkF m 2 #[.val (.ref b0), .val (.ref b3), .val (.int x2), .val (.long x3), .second, .unset, .unset, .unset] [(.int x2), (.ref b3)])) rfl (by rw [hml]; rfl) (argsL := [(.ref b3), (.int x2)]) (rest := []) (lenOf pd4 rfl) rfl (by show 2 * 0 + _ ≤ _; exact Nat.le_of_eq rfl) (hb hby d3_2)
    obtain ⟨rfl, e1, rfl⟩ := hQ1
    rw [List.append_nil] at X1'
    have X1 : Stand p l e rx3 s m args below meth c T1 _ 0 0 := X1'
    refine OwnOut.go (fun t k => st1 _ k) ?_
    show OwnOut p e s below 0 0 _ (T1.setTop (mkF m 5 #[.val (.ref b0), .val (.ref b3), .val (.int x2), .val (.long x3), .second, .unset, .unset, .unset] [(.int o1)]))
    refine OwnOut.go (fun t k => XS.istore X1.here hx rfl (hb hby d3_5) rfl (l' := #[.val (.ref b0), .val (.ref b3), .val (.int x2), .val (.long x3), .second, .val (.int o1), .unset, .unset]) rfl k) ?_
    show OwnOut p e s below 0 0 _ (T1.setTop (mkF m 7 #[.val (.ref b0), .val (.ref b3), .val (.int x2), .val (.long x3), .second, .val (.int o1), .unset, .unset] []))
    refine OwnOut.go (fun t k => XS.aloadN X1.here hx rfl (hb hby d3_7) rfl rfl k) ?_
    show OwnOut p e s below 0 0 _ (T1.setTop (mkF m 8 #[.val (.ref b0), .val (.ref b3), .val (.int x2), .val (.long x3), .second, .val (.int o1), .unset, .unset] [(.ref b3)]))
    refine OwnOut.go (fun t k => XS.iload X1.here hx rfl (hb hby d3_8) rfl k) ?_
    show OwnOut p e s below 0 0 _ (T1.setTop (mkF m 10 #[.val (.ref b0), .val (.ref b3), .val (.int x2), .val (.long x3), .second, .val (.int o1), .unset, .unset] [(.int o1), (.ref b3)]))
    obtain ⟨v2, hv2, hr⟩ := Option.bind_eq_some_iff.mp hr
    refine OwnOut.go (fun t k => ldJ X1 hx hZ e1 A3 hv2 (g := (mkF m 10 #[.val (.ref b0), .val (.ref b3), .val (.int x2), .val (.long x3), .second, .val (.int o1), .unset, .unset] [(.int o1), (.ref b3)])) rfl rfl (hb hby d3_10) t k) ?_
    show OwnOut p e s below 0 0 _ (T1.setTop (mkF m 11 #[.val (.ref b0), .val (.ref b3), .val (.int x2), .val (.long x3), .second, .val (.int o1), .unset, .unset] [(.long v2)]))
    refine OwnOut.go (fun t k => XS.lloadN X1.here hx rfl (hb hby d3_11) rfl k) ?_
    show OwnOut p e s below 0 0 _ (T1.setTop (mkF m 12 #[.val (.ref b0), .val (.ref b3), .val (.int x2), .val (.long x3), .second, .val (.int o1), .unset, .unset] [(.long x3), (.long v2)]))
    obtain ⟨o3, ho3, hr⟩ := Option.bind_eq_some_iff.mp hr
    obtain ⟨r3, T3, L3, X3', hQ3, st3⟩ := callQ (W := 0) (rm := rx5) X1 hx hZ (y := (⟨"java/lang/Math", "max", "(JJ)J"⟩ : MethodName)) hown (hw _ (List.mem_of_getElem? (i := 24) rfl)) (hw _ (List.mem_of_getElem? (i := 25) rfl)) (hw _ (List.mem_of_getElem? (i := 26) rfl)) (hw _ (List.mem_of_getElem? (i := 27) rfl)) (by decide) (rm5 l Z a0 hw [] v2 x3 hA o3 ho3 ) (by decide) (by decide) (by decide) (by decide) e1 (g := (mkF m 12 #[.val (.ref b0), .val (.ref b3), .val (.int x2), .val (.long x3), .second, .val (.int o1), .unset, .unset] [(.long x3), (.long v2)])) rfl (by rw [hml]; rfl) (argsL := [(.long v2), (.long x3)]) (rest := []) (lenOf pd5 rfl) rfl (by show 2 * 0 + _ ≤ _; exact Nat.le_of_eq rfl) (hb hby d3_12)
    obtain ⟨rfl, e3, rfl⟩ := hQ3
    rw [List.append_nil] at X3'
    have X3 : Stand p l e rx3 s m args below meth c T3 _ 0 0 := X3'
    refine OwnOut.go (fun t k => st3 _ k) ?_
    show OwnOut p e s below 0 0 _ (T3.setTop (mkF m 15 #[.val (.ref b0), .val (.ref b3), .val (.int x2), .val (.long x3), .second, .val (.int o1), .unset, .unset] [(.long o3)]))
    refine OwnOut.go (fun t k => XS.lstore X3.here hx rfl (hb hby d3_15) rfl (l' := #[.val (.ref b0), .val (.ref b3), .val (.int x2), .val (.long x3), .second, .val (.int o1), .val (.long o3), .second]) rfl k) ?_
    show OwnOut p e s below 0 0 _ (T3.setTop (mkF m 17 #[.val (.ref b0), .val (.ref b3), .val (.int x2), .val (.long x3), .second, .val (.int o1), .val (.long o3), .second] []))
    refine OwnOut.go (fun t k => XS.aloadN X3.here hx rfl (hb hby d3_17) rfl rfl k) ?_
    show OwnOut p e s below 0 0 _ (T3.setTop (mkF m 18 #[.val (.ref b0), .val (.ref b3), .val (.int x2), .val (.long x3), .second, .val (.int o1), .val (.long o3), .second] [(.ref b0)]))
    refine OwnOut.go (fun t k => XS.lload X3.here hx rfl (hb hby d3_18) rfl k) ?_
    show OwnOut p e s below 0 0 _ (T3.setTop (mkF m 20 #[.val (.ref b0), .val (.ref b3), .val (.int x2), .val (.long x3), .second, .val (.int o1), .val (.long o3), .second] [(.long o3), (.ref b0)]))
    obtain ⟨o4, ho4, hr⟩ := Option.bind_eq_some_iff.mp hr
    obtain ⟨r4, T4, L4, X4', hQ4, st4⟩ := callV (W := 0) (rm := rx6) X3 hx hZ (y := (⟨"com/example/porter_drive/porterdrive/RequestQueue", "delayFirst", "(J)V"⟩ : MethodName)) hown (hw _ (List.mem_of_getElem? (i := 28) rfl)) (hw _ (List.mem_of_getElem? (i := 29) rfl)) (hw _ (List.mem_of_getElem? (i := 31) rfl)) (hw _ (List.mem_of_getElem? (i := 30) rfl)) (hw _ (List.mem_of_getElem? (i := 3) rfl)) (hw _ (List.mem_of_getElem? (i := 32) rfl)) (by decide) (rm6 l Z a0 hw [] o3 b0 u0_size b1 l1 b2 l2 hA n0 o4 ho4 O0 E0 F0_times F0_clients F0_size A1 A2 g0 g1 g2 ne0_1 ne0_2 ne1_2) (by decide) (by decide) (by decide) (by decide) e3 E0 (g := (mkF m 20 #[.val (.ref b0), .val (.ref b3), .val (.int x2), .val (.long x3), .second, .val (.int o1), .val (.long o3), .second] [(.long o3), (.ref b0)])) rfl (by rw [hml]; rfl) (argsL := [(.long o3)]) (rest := []) (lenOf pd6 rfl) rfl (by show 2 * 0 + _ ≤ _; exact Nat.le_of_eq rfl) (hb hby d3_20)
    obtain ⟨rfl, Nq4, Kq4, A1_4, A2_4⟩ := hQ4
    have X4 : Stand p l e rx3 s m args below meth c T4 _ 0 0 := X4'
    have E0_4 := E0.keep Kq4
    have F0_times_4 := F0_times.keep Kq4 (ninS ne0_1 (ninS ne0_2 nin0))
    have F0_clients_4 := F0_clients.keep Kq4 (ninS ne0_1 (ninS ne0_2 nin0))
    have F0_size_4 := F0_size.keep Kq4 (ninS ne0_1 (ninS ne0_2 nin0))
    have A3_4 := A3.keep Kq4 (ninS (Ne.symm ne1_3) (ninS (Ne.symm ne2_3) nin0))
    have N_4 := Fr.app N0 Nq4
    have O_4 := O0.keep Kq4 (allS g1 (allS g2 all0))
    have K_4 := K0.trans Kq4 (allS (Or.inl (List.mem_of_getElem? (i := 0) rfl)) (allS (Or.inl (List.mem_of_getElem? (i := 1) rfl)) all0))
    refine OwnOut.go (fun t k => st4 _ k) ?_
    show OwnOut p e s below 0 0 _ (T4.setTop (mkF m 23 #[.val (.ref b0), .val (.ref b3), .val (.int x2), .val (.long x3), .second, .val (.int o1), .val (.long o3), .second] []))
    refine OwnOut.go (fun t k => XS.aloadN X4.here hx rfl (hb hby d3_23) rfl rfl k) ?_
    show OwnOut p e s below 0 0 _ (T4.setTop (mkF m 24 #[.val (.ref b0), .val (.ref b3), .val (.int x2), .val (.long x3), .second, .val (.int o1), .val (.long o3), .second] [(.ref b3)]))
    refine OwnOut.go (fun t k => XS.iload X4.here hx rfl (hb hby d3_24) rfl k) ?_
    show OwnOut p e s below 0 0 _ (T4.setTop (mkF m 26 #[.val (.ref b0), .val (.ref b3), .val (.int x2), .val (.long x3), .second, .val (.int o1), .val (.long o3), .second] [(.int o1), (.ref b3)]))
    refine OwnOut.go (fun t k => XS.lload X4.here hx rfl (hb hby d3_26) rfl k) ?_
    show OwnOut p e s below 0 0 _ (T4.setTop (mkF m 28 #[.val (.ref b0), .val (.ref b3), .val (.int x2), .val (.long x3), .second, .val (.int o1), .val (.long o3), .second] [(.long o3), (.int o1), (.ref b3)]))
    obtain ⟨l_5, hl5, hr⟩ := Option.bind_eq_some_iff.mp hr
    obtain ⟨T5, h5, X5, e5, W5, A_5, st5⟩ := saJ X4 hx hZ rfl A3_4 hl5 (g := (mkF m 28 #[.val (.ref b0), .val (.ref b3), .val (.int x2), .val (.long x3), .second, .val (.int o1), .val (.long o3), .second] [(.long o3), (.int o1), (.ref b3)])) rfl rfl (hb hby d3_28)
    refine OwnOut.go (fun t k => st5 _ k) ?_
    have E0_5 := E0_4.wr W5
    have F0_times_5 := F0_times_4.other W5 (Or.inl ne0_3)
    have F0_clients_5 := F0_clients_4.other W5 (Or.inl ne0_3)
    have F0_size_5 := F0_size_4.other W5 (Or.inl ne0_3)
    have A1_5 := A1_4.other W5 ne1_3
    have A2_5 := A2_4.other W5 ne2_3
    have N_5 := Fr.snoc X5 N_4 g3
    have O_5 := O_4.wr W5 g3
    have K_5 := K_4.wr W5 (Or.inl (List.mem_of_getElem? (i := 2) rfl))
    show OwnOut p e s below 0 0 _ (T5.setTop (mkF m 29 #[.val (.ref b0), .val (.ref b3), .val (.int x2), .val (.long x3), .second, .val (.int o1), .val (.long o3), .second] []))
    refine OwnOut.go (fun t k => XS.aloadN X5.here hx rfl (hb hby d3_29) rfl rfl k) ?_
    show OwnOut p e s below 0 0 _ (T5.setTop (mkF m 30 #[.val (.ref b0), .val (.ref b3), .val (.int x2), .val (.long x3), .second, .val (.int o1), .val (.long o3), .second] [(.ref b0)]))
    obtain ⟨o6, ho6, hr⟩ := Option.bind_eq_some_iff.mp hr
    obtain ⟨r6, T6, L6, X6', hQ6, st6⟩ := callV (W := 0) (rm := rx8) X5 hx hZ (y := (⟨"com/example/porter_drive/porterdrive/RequestQueue", "firstClient", "()I"⟩ : MethodName)) hown (hw _ (List.mem_of_getElem? (i := 37) rfl)) (hw _ (List.mem_of_getElem? (i := 38) rfl)) (hw _ (List.mem_of_getElem? (i := 40) rfl)) (hw _ (List.mem_of_getElem? (i := 39) rfl)) (hw _ (List.mem_of_getElem? (i := 3) rfl)) (hw _ (List.mem_of_getElem? (i := 41) rfl)) (by decide) (rm8 l Z a0 hw [] b0 u0_size b1 o4.1 b2 o4.2 h5 o6 ho6 E0_5 F0_times_5 F0_clients_5 F0_size_5 A1_5 A2_5) (by decide) (by decide) (by decide) (by decide) e5 E0_5 (g := (mkF m 30 #[.val (.ref b0), .val (.ref b3), .val (.int x2), .val (.long x3), .second, .val (.int o1), .val (.long o3), .second] [(.ref b0)])) rfl (by rw [hml]; rfl) (argsL := []) (rest := []) (lenOf pd8 rfl) rfl (by show 2 * 0 + _ ≤ _; exact Nat.le_of_eq rfl) (hb hby d3_30)
    obtain ⟨rfl, e6, rfl⟩ := hQ6
    rw [List.append_nil] at X6'
    have X6 : Stand p l e rx3 s m args below meth c T6 _ 0 0 := X6'
    refine OwnOut.go (fun t k => st6 _ k) ?_
    show OwnOut p e s below 0 0 _ (T6.setTop (mkF m 33 #[.val (.ref b0), .val (.ref b3), .val (.int x2), .val (.long x3), .second, .val (.int o1), .val (.long o3), .second] [(.int o6)]))
    refine OwnOut.go (fun t k => XS.aloadN X6.here hx rfl (hb hby d3_33) rfl rfl k) ?_
    show OwnOut p e s below 0 0 _ (T6.setTop (mkF m 34 #[.val (.ref b0), .val (.ref b3), .val (.int x2), .val (.long x3), .second, .val (.int o1), .val (.long o3), .second] [(.ref b3), (.int o6)]))
    refine OwnOut.go (fun t k => XS.iloadN X6.here hx rfl (hb hby d3_34) rfl k) ?_
    show OwnOut p e s below 0 0 _ (T6.setTop (mkF m 35 #[.val (.ref b0), .val (.ref b3), .val (.int x2), .val (.long x3), .second, .val (.int o1), .val (.long o3), .second] [(.int x2), (.ref b3), (.int o6)]))
    obtain ⟨o7, ho7, hr⟩ := Option.bind_eq_some_iff.mp hr
    obtain ⟨r7, T7, L7, X7', hQ7, st7⟩ := callQ (W := 1) (rm := rx4) X6 hx hZ (y := (⟨"com/example/porter_drive/porterdrive/RequestQueueDelayFirstPinLaw", "first", "([JI)I"⟩ : MethodName)) hown (hw _ (List.mem_of_getElem? (i := 21) rfl)) (hw _ (List.mem_of_getElem? (i := 22) rfl)) (hw _ (List.mem_of_getElem? (i := 19) rfl)) (hw _ (List.mem_of_getElem? (i := 23) rfl)) (by decide) (rm4 l Z a0 hw [] x2 b3 l_5 h5 o7 ho7 A_5) (by decide) (by decide) (by decide) (by decide) e6 (g := (mkF m 35 #[.val (.ref b0), .val (.ref b3), .val (.int x2), .val (.long x3), .second, .val (.int o1), .val (.long o3), .second] [(.int x2), (.ref b3), (.int o6)])) rfl (by rw [hml]; rfl) (argsL := [(.ref b3), (.int x2)]) (rest := [(.int o6)]) (lenOf pd4 rfl) rfl (by show 2 * 0 + _ ≤ _; exact Nat.le_of_eq rfl) (hb hby d3_35)
    obtain ⟨rfl, e7, rfl⟩ := hQ7
    rw [List.append_nil] at X7'
    have X7 : Stand p l e rx3 s m args below meth c T7 _ 0 0 := X7'
    refine OwnOut.go (fun t k => st7 _ k) ?_
    show OwnOut p e s below 0 0 _ (T7.setTop (mkF m 38 #[.val (.ref b0), .val (.ref b3), .val (.int x2), .val (.long x3), .second, .val (.int o1), .val (.long o3), .second] [(.int o7), (.int o6)]))
    by_cases hc38 : o6 = o7
    · rw [if_pos hc38] at hr
      refine OwnOut.go (fun t k => XS.icmpNo X7.here hx rfl (hb hby d3_38) rfl (XT.ii_ne_f hc38) k) ?_
      show OwnOut p e s below 0 0 _ (T7.setTop (mkF m 41 #[.val (.ref b0), .val (.ref b3), .val (.int x2), .val (.long x3), .second, .val (.int o1), .val (.long o3), .second] []))
      refine OwnOut.go (fun t k => XT.iconstV X7.here hx rfl (1 : Int32) (hb hby d3_41) rfl k) ?_
      show OwnOut p e s below 0 0 _ (T7.setTop (mkF m 42 #[.val (.ref b0), .val (.ref b3), .val (.int x2), .val (.long x3), .second, .val (.int o1), .val (.long o3), .second] [(.int (1 : Int32))]))
      refine OwnOut.go (fun t k => XS.goto X7.here hx rfl (pc0 := 42) (pc' := 46) rfl (hb hby d3_42) (by decide) (by decide) k) ?_
      show OwnOut p e s below 0 0 _ (T7.setTop (mkF m 46 #[.val (.ref b0), .val (.ref b3), .val (.int x2), .val (.long x3), .second, .val (.int o1), .val (.long o3), .second] [(.int (1 : Int32))]))
      cases hr
      exact outZ X7 hx hret (hb hby d3_46) hlk (by decide) (by decide) (by rw [e7]; exact ⟨rfl, N_5, K_5, A1_5, A2_5, A_5⟩)
    · rw [if_neg hc38] at hr
      refine OwnOut.go (fun t k => XS.icmpYes X7.here hx rfl (pc0 := 38) (pc' := 45) rfl (hb hby d3_38) rfl (XT.ii_ne_t hc38) (by decide) (by decide) k) ?_
      show OwnOut p e s below 0 0 _ (T7.setTop (mkF m 45 #[.val (.ref b0), .val (.ref b3), .val (.int x2), .val (.long x3), .second, .val (.int o1), .val (.long o3), .second] []))
      refine OwnOut.go (fun t k => XT.iconstV X7.here hx rfl (0 : Int32) (hb hby d3_45) rfl k) ?_
      show OwnOut p e s below 0 0 _ (T7.setTop (mkF m 46 #[.val (.ref b0), .val (.ref b3), .val (.int x2), .val (.long x3), .second, .val (.int o1), .val (.long o3), .second] [(.int (0 : Int32))]))
      cases hr
      exact outZ X7 hx hret (hb hby d3_46) hlk (by decide) (by decide) (by rw [e7]; exact ⟨rfl, N_5, K_5, A1_5, A2_5, A_5⟩)
set_option maxRecDepth 65536 in
set_option maxHeartbeats 40000000 in
theorem rm3 (l : Launch) (Z : State) (a0 : Array Value) (hw : ∀ d ∈ tables_1, d.before a0 Z = true) (ws : List Jvm.Cond) (x2 : Int32) (x3 : Int64) (b0 : Addr) (u0_size : Int32) (b1 : Addr) (l1 : List Int64) (b2 : Addr) (l2 : List Int32) (b3 : Addr) (l3 : List Int64) (h0 : Heap) (n0 : Nat) (o : Int32 × List Int64 × List Int32 × List Int64) (hr : f3 x2 x3 u0_size l1 l2 l3 = some o) (O0 : Old Z n0 h0) (E0 : Exa Z h0 b0 "com/example/porter_drive/porterdrive/RequestQueue") (F0_times : Fld Z h0 b0 "com/example/porter_drive/porterdrive/RequestQueue" "times" "[J" (.ref b1)) (F0_clients : Fld Z h0 b0 "com/example/porter_drive/porterdrive/RequestQueue" "clients" "[I" (.ref b2)) (F0_size : Fld Z h0 b0 "com/example/porter_drive/porterdrive/RequestQueue" "size" "I" (.int u0_size)) (A1 : Arj Z h0 b1 l1) (A2 : Ari Z h0 b2 .int l2) (A3 : Arj Z h0 b3 l3) (g0 : n0 ≤ b0) (g1 : n0 ≤ b1) (g2 : n0 ≤ b2) (g3 : n0 ≤ b3) (ne0_1 : b0 ≠ b1) (ne0_2 : b0 ≠ b2) (ne0_3 : b0 ≠ b3) (ne1_2 : b1 ≠ b2) (ne1_3 : b1 ≠ b3) (ne2_3 : b2 ≠ b3) :
    MetFree l (⟨"com/example/porter_drive/porterdrive/RequestQueueDelayFirstPinLaw", "step", "(Lcom/example/porter_drive/porterdrive/RequestQueue;[JIJ)Z"⟩ : MethodName) (head1 (Jvm.Cond.code (⟨"com/example/porter_drive/porterdrive/RequestQueueDelayFirstPinLaw", "step", "(Lcom/example/porter_drive/porterdrive/RequestQueue;[JIJ)Z"⟩ : MethodName) method_3_code 8 (some .boolean) :: ws) rx3) (fun a U => a = #[(.ref b0), (.ref b3), (.int x2), (.long x3)] ∧ Z.Warmed39 U.vm ∧ U.heap = h0) (fun _ _ _ _ _ => True) (fun _ U o' U' => ∃ v L, o' = .returned v ∧ Q3 Z x2 x3 b0 u0_size b1 l1 b2 l2 b3 l3 h0 n0 o v U'.heap L ∧ FrameEnd U o' U' L rx3.cells rx3.slots) := by
  refine MetFree.of_bodySF (plainFor_of_name pn3) hisR ?_
  intro p e s m args below meth c s₁ Bd hml0 hP hK
  obtain ⟨rfl, hZ, hh⟩ := hP
  have X0 : Stand p l e rx3 s m #[(.ref b0), (.ref b3), (.int x2), (.long x3)] below meth c s₁ [] 0 0 := Stand.of_body Bd
  have e0 : s₁.heap = h0 := by rw [← hh, Bd.state]; rfl
  exact OwnOut.at (ef3 m b0 b3 x2 x3) (w3_0 ⟨Bd.exec, hZ, hw, Bd.bytes, hml0, findClass_of_methodNamed Bd.named, Bd.returns, Bd.notSynchronized, (name_of_methodNamed Bd.named Bd.method).1⟩ _ _ _ x2 x3 b0 u0_size b1 l1 b2 l2 b3 l3 o hr X0 e0 (Fr.nil n0) O0 (Keep.refl _ _) E0 F0_times F0_clients F0_size A1 A2 A3 g0 g1 g2 g3 ne0_1 ne0_2 ne0_3 ne1_2 ne1_3 ne2_3)
-- body 9 as 9: com/example/porter_drive/porterdrive/RequestQueue.firstTime:()J (touches nothing)
theorem d9_0 : decode prog_24_method_3_code 0 = .ok (.aload_n 0, 1) := by decide +kernel
theorem d9_1 : decode prog_24_method_3_code 1 = .ok (.getfield 7, 3) := by decide +kernel
theorem d9_4 : decode prog_24_method_3_code 4 = .ok (.iconst 0, 1) := by decide +kernel
theorem d9_5 : decode prog_24_method_3_code 5 = .ok (.laload, 1) := by decide +kernel
theorem d9_6 : decode prog_24_method_3_code 6 = .ok (.lreturn, 1) := by decide +kernel
theorem pn9 : plainName "com/example/porter_drive/porterdrive/RequestQueue" = true := by first | (simp [plainName, overriddenIn]; done) | decide +kernel
theorem pd9 : parseMethodDescriptor "()J" = some ⟨[], some .long⟩ := by decide +kernel
theorem ef9 (m : MethodId) (b0 : Addr) : entryFrame m #[(.ref b0)] 1 = mkF m 0 #[.val (.ref b0)] [] := by first | (simp [entryFrame, mkF, argsToLocals, Value.category]; done) | rfl
abbrev rx9 : Room := { frames := 0, cells := 0, slots := 0, locals := 0 }
abbrev Cx9 (Z : State) (a0 : Array Value) (p : Program) (s : State) (m : MethodId) (meth : Method) (c : Code) : Prop := p.tables.exec = Jvm.exec ∧ Z.Warmed39 s.vm ∧ (∀ d ∈ tables_1, d.before a0 Z = true) ∧ c.code = prog_24_method_3_code ∧ c.maxLocals = 1 ∧ s.vm.findClass "com/example/porter_drive/porterdrive/RequestQueue" = some m.cls ∧ meth.sig.returnType = (some .long) ∧ meth.locks = false ∧ meth.name = "firstTime"
def Q9 (Z : State) (b0 : Addr) (u0_size : Int32) (b1 : Addr) (l1 : List Int64) (b2 : Addr) (l2 : List Int32) (h0 : Heap) (o : Int64) (v : Option Value) (h : Heap) (L : List Loc) : Prop := v = some (.long o) ∧ h = h0 ∧ L = []
def f9 (u0_size : Int32) (l1 : List Int64) (l2 : List Int32) : Option (Int64) := ((ldx l1 (0 : Int32)).bind fun v2 => some (v2))
set_option maxRecDepth 65536 in
set_option maxHeartbeats 40000000 in
theorem w9_0 {p : Program} {l : Launch} {e : Env} {s : State} {m : MethodId} {args : Array Value} {below : List Frame} {meth : Method} {c : Code} {Z : State} {a0 : Array Value} {h0 : Heap} (C : Cx9 Z a0 p s m meth c) :
    ∀ (T : State) (b0 : Addr) (u0_size : Int32) (b1 : Addr) (l1 : List Int64) (b2 : Addr) (l2 : List Int32) (o : Int64), f9 u0_size l1 l2 = some o → Stand p l e rx9 s m args below meth c T [] 0 0 → T.heap = h0 → (Exa Z h0 b0 "com/example/porter_drive/porterdrive/RequestQueue") → (Fld Z h0 b0 "com/example/porter_drive/porterdrive/RequestQueue" "times" "[J" (.ref b1)) → (Fld Z h0 b0 "com/example/porter_drive/porterdrive/RequestQueue" "clients" "[I" (.ref b2)) → (Fld Z h0 b0 "com/example/porter_drive/porterdrive/RequestQueue" "size" "I" (.int u0_size)) → (Arj Z h0 b1 l1) → (Ari Z h0 b2 .int l2) →  OwnOut p e s below 0 0 (Q9 Z b0 u0_size b1 l1 b2 l2 h0 o) (T.setTop (mkF m 0 #[.val (.ref b0)] [])) := by
    obtain ⟨hx, hZ, hw, hby, hml, hown, hret, hlk, hnm⟩ := C
    intro T b0 u0_size b1 l1 b2 l2 o hr X0 e0 E0 F0_times F0_clients F0_size A1 A2
    rw [f9] at hr
    refine OwnOut.go (fun t k => XS.aloadN X0.here hx rfl (hb hby d9_0) rfl rfl k) ?_
    show OwnOut p e s below 0 0 _ (T.setTop (mkF m 1 #[.val (.ref b0)] [(.ref b0)]))
    obtain ⟨T1, X1, e1, st1⟩ := getF X0 hx hZ hown (host := "") (Or.inl (hw _ (List.mem_of_getElem? (i := 10) rfl))) Via.refl e0 F0_times (g := (mkF m 1 #[.val (.ref b0)] [(.ref b0)])) rfl rfl (hb hby d9_1)
    refine OwnOut.go (fun t k => st1 _ k) ?_
    show OwnOut p e s below 0 0 _ (T1.setTop (mkF m 4 #[.val (.ref b0)] [(.ref b1)]))
    refine OwnOut.go (fun t k => XT.iconstV X1.here hx rfl (0 : Int32) (hb hby d9_4) rfl k) ?_
    show OwnOut p e s below 0 0 _ (T1.setTop (mkF m 5 #[.val (.ref b0)] [(.int (0 : Int32)), (.ref b1)]))
    obtain ⟨v2, hv2, hr⟩ := Option.bind_eq_some_iff.mp hr
    refine OwnOut.go (fun t k => ldJ X1 hx hZ e1 A1 hv2 (g := (mkF m 5 #[.val (.ref b0)] [(.int (0 : Int32)), (.ref b1)])) rfl rfl (hb hby d9_5) t k) ?_
    show OwnOut p e s below 0 0 _ (T1.setTop (mkF m 6 #[.val (.ref b0)] [(.long v2)]))
    cases hr
    exact outJ X1 hx hret (hb hby d9_6) hlk (by decide) (by decide) ⟨rfl, e1, rfl⟩
set_option maxRecDepth 65536 in
set_option maxHeartbeats 40000000 in
theorem rm9 (l : Launch) (Z : State) (a0 : Array Value) (hw : ∀ d ∈ tables_1, d.before a0 Z = true) (ws : List Jvm.Cond) (b0 : Addr) (u0_size : Int32) (b1 : Addr) (l1 : List Int64) (b2 : Addr) (l2 : List Int32) (h0 : Heap) (o : Int64) (hr : f9 u0_size l1 l2 = some o) (E0 : Exa Z h0 b0 "com/example/porter_drive/porterdrive/RequestQueue") (F0_times : Fld Z h0 b0 "com/example/porter_drive/porterdrive/RequestQueue" "times" "[J" (.ref b1)) (F0_clients : Fld Z h0 b0 "com/example/porter_drive/porterdrive/RequestQueue" "clients" "[I" (.ref b2)) (F0_size : Fld Z h0 b0 "com/example/porter_drive/porterdrive/RequestQueue" "size" "I" (.int u0_size)) (A1 : Arj Z h0 b1 l1) (A2 : Ari Z h0 b2 .int l2) :
    MetFree l (⟨"com/example/porter_drive/porterdrive/RequestQueue", "firstTime", "()J"⟩ : MethodName) (head1 (Jvm.Cond.code (⟨"com/example/porter_drive/porterdrive/RequestQueue", "firstTime", "()J"⟩ : MethodName) prog_24_method_3_code 1 (some .long) :: ws) rx9) (fun a U => a = #[(.ref b0)] ∧ Z.Warmed39 U.vm ∧ U.heap = h0) (fun _ _ _ _ _ => True) (fun _ U o' U' => ∃ v L, o' = .returned v ∧ Q9 Z b0 u0_size b1 l1 b2 l2 h0 o v U'.heap L ∧ FrameEnd U o' U' L rx9.cells rx9.slots) := by
  refine MetFree.of_bodySF (plainFor_of_name pn9) hisR ?_
  intro p e s m args below meth c s₁ Bd hml0 hP hK
  obtain ⟨rfl, hZ, hh⟩ := hP
  have X0 : Stand p l e rx9 s m #[(.ref b0)] below meth c s₁ [] 0 0 := Stand.of_body Bd
  have e0 : s₁.heap = h0 := by rw [← hh, Bd.state]; rfl
  exact OwnOut.at (ef9 m b0) (w9_0 ⟨Bd.exec, hZ, hw, Bd.bytes, hml0, findClass_of_methodNamed Bd.named, Bd.returns, Bd.notSynchronized, (name_of_methodNamed Bd.named Bd.method).1⟩ _ b0 u0_size b1 l1 b2 l2 o hr X0 e0  E0 F0_times F0_clients F0_size A1 A2)
-- body 0 as 0: com/example/porter_drive/porterdrive/RequestQueueDelayFirstPinLaw.law:(IJJJJ)Z
theorem pn0 : plainName "com/example/porter_drive/porterdrive/RequestQueueDelayFirstPinLaw" = true := by first | (simp [plainName, overriddenIn]; done) | decide +kernel
theorem pd0 : parseMethodDescriptor "(IJJJJ)Z" = some ⟨[.int, .long, .long, .long, .long], some .boolean⟩ := by decide +kernel
theorem ef0 (m : MethodId) (x0 : Int32) (x1 : Int64) (x3 : Int64) (x5 : Int64) (x7 : Int64) : entryFrame m #[(.int x0), (.long x1), (.long x3), (.long x5), (.long x7)] maxLocals = mkF m 0 #[.val (.int x0), .val (.long x1), .second, .val (.long x3), .second, .val (.long x5), .second, .val (.long x7), .second, .unset, .unset, .unset, .unset, .unset] [] := by first | (simp [entryFrame, mkF, argsToLocals, Value.category, maxLocals]; done) | rfl
abbrev Cx0 (Z : State) (a0 : Array Value) (p : Program) (s : State) (m : MethodId) (meth : Method) (c : Code) : Prop := p.tables.exec = Jvm.exec ∧ Z.Warmed39 s.vm ∧ (∀ d ∈ tables_1, d.before a0 Z = true) ∧ c.code = code ∧ c.maxLocals = 14 ∧ s.vm.findClass "com/example/porter_drive/porterdrive/RequestQueueDelayFirstPinLaw" = some m.cls ∧ meth.sig.returnType = (some .boolean) ∧ meth.locks = false ∧ meth.name = "law"
def Q0 (Z : State) (x0 : Int32) (x1 : Int64) (x3 : Int64) (x5 : Int64) (x7 : Int64) (h0 : Heap) (n0 : Nat) (o : Int32) (v : Option Value) (h : Heap) (L : List Loc) : Prop := v = some (.int o) ∧ Fr n0 L
def f0 (x0 : Int32) (x1 : Int64) (x3 : Int64) (x5 : Int64) (x7 : Int64) : Option (Int32) := ((f1 ((1 : Int32) + (x0 &&& (3 : Int32))) (0 : Int32)).bind fun o3 => ((f3 ((1 : Int32) + (x0 &&& (3 : Int32))) x1 o3.1 o3.2.1 o3.2.2 [(0 : Int64), (0 : Int64), (0 : Int64), (0 : Int64)]).bind fun o4 => ((f3 ((1 : Int32) + (x0 &&& (3 : Int32))) x3 o3.1 o4.2.1 o4.2.2.1 o4.2.2.2).bind fun o5 => ((f3 ((1 : Int32) + (x0 &&& (3 : Int32))) x5 o3.1 o5.2.1 o5.2.2.1 o5.2.2.2).bind fun o6 => ((f3 ((1 : Int32) + (x0 &&& (3 : Int32))) x7 o3.1 o6.2.1 o6.2.2.1 o6.2.2.2).bind fun o7 => ((f4 ((1 : Int32) + (x0 &&& (3 : Int32))) o7.2.2.2).bind fun o8 => (if (((((1 : Int32) &&& o4.1) &&& o5.1) &&& o6.1) &&& o7.1) = (0 : Int32) then some ((0 : Int32)) else ((f9 o3.1 o7.2.1 o7.2.2.1).bind fun o9 => ((ldx o7.2.2.2 o8).bind fun v10 => (if o9 = v10 then some ((1 : Int32)) else some ((0 : Int32))))))))))))
set_option maxRecDepth 65536 in
set_option maxHeartbeats 40000000 in
theorem w0_0 {p : Program} {l : Launch} {e : Env} {s : State} {m : MethodId} {args : Array Value} {below : List Frame} {meth : Method} {c : Code} {Z : State} {a0 : Array Value} {h0 : Heap} {n0 : Nat} (C : Cx0 Z a0 p s m meth c) :
    ∀ (T : State) (locs : List Loc) (hA : Heap) (x0 : Int32) (x1 : Int64) (x3 : Int64) (x5 : Int64) (x7 : Int64) (o : Int32), f0 x0 x1 x3 x5 x7 = some o → Stand p l e room_1 s m args below meth c T locs 0 0 → T.heap = hA → Fr n0 locs → Old Z n0 hA → Keep h0 hA [] →  OwnOut p e s below 16 128 (Q0 Z default default default default default h0 n0 o) (T.setTop (mkF m 0 #[.val (.int x0), .val (.long x1), .second, .val (.long x3), .second, .val (.long x5), .second, .val (.long x7), .second, .unset, .unset, .unset, .unset, .unset] [])) := by
    obtain ⟨hx, hZ, hw, hby, hml, hown, hret, hlk, hnm⟩ := C
    intro T locs hA x0 x1 x3 x5 x7 o hr X0 e0 N0 O0 K0
    rw [f0] at hr
    refine OwnOut.go (fun t k => XT.iconstV X0.here hx rfl (1 : Int32) (hb hby at_0) rfl k) ?_
    show OwnOut p e s below 16 128 _ (T.setTop (mkF m 1 #[.val (.int x0), .val (.long x1), .second, .val (.long x3), .second, .val (.long x5), .second, .val (.long x7), .second, .unset, .unset, .unset, .unset, .unset] [(.int (1 : Int32))]))
    refine OwnOut.go (fun t k => XS.iloadN X0.here hx rfl (hb hby at_1) rfl k) ?_
    show OwnOut p e s below 16 128 _ (T.setTop (mkF m 2 #[.val (.int x0), .val (.long x1), .second, .val (.long x3), .second, .val (.long x5), .second, .val (.long x7), .second, .unset, .unset, .unset, .unset, .unset] [(.int x0), (.int (1 : Int32))]))
    refine OwnOut.go (fun t k => XT.iconstV X0.here hx rfl (3 : Int32) (hb hby at_2) rfl k) ?_
    show OwnOut p e s below 16 128 _ (T.setTop (mkF m 3 #[.val (.int x0), .val (.long x1), .second, .val (.long x3), .second, .val (.long x5), .second, .val (.long x7), .second, .unset, .unset, .unset, .unset, .unset] [(.int (3 : Int32)), (.int x0), (.int (1 : Int32))]))
    refine OwnOut.go (fun t k => XS.iand X0.here hx rfl (hb hby at_3) rfl k) ?_
    show OwnOut p e s below 16 128 _ (T.setTop (mkF m 4 #[.val (.int x0), .val (.long x1), .second, .val (.long x3), .second, .val (.long x5), .second, .val (.long x7), .second, .unset, .unset, .unset, .unset, .unset] [(.int (x0 &&& (3 : Int32))), (.int (1 : Int32))]))
    refine OwnOut.go (fun t k => XS.iadd X0.here hx rfl (hb hby at_4) rfl k) ?_
    show OwnOut p e s below 16 128 _ (T.setTop (mkF m 5 #[.val (.int x0), .val (.long x1), .second, .val (.long x3), .second, .val (.long x5), .second, .val (.long x7), .second, .unset, .unset, .unset, .unset, .unset] [(.int ((1 : Int32) + (x0 &&& (3 : Int32))))]))
    refine OwnOut.go (fun t k => XS.istore X0.here hx rfl (hb hby at_5) rfl (l' := #[.val (.int x0), .val (.long x1), .second, .val (.long x3), .second, .val (.long x5), .second, .val (.long x7), .second, .val (.int ((1 : Int32) + (x0 &&& (3 : Int32)))), .unset, .unset, .unset, .unset]) rfl k) ?_
    show OwnOut p e s below 16 128 _ (T.setTop (mkF m 7 #[.val (.int x0), .val (.long x1), .second, .val (.long x3), .second, .val (.long x5), .second, .val (.long x7), .second, .val (.int ((1 : Int32) + (x0 &&& (3 : Int32)))), .unset, .unset, .unset, .unset] []))
    refine OwnOut.go (fun t k => XT.iconstV X0.here hx rfl (4 : Int32) (hb hby at_7) rfl k) ?_
    show OwnOut p e s below 16 128 _ (T.setTop (mkF m 8 #[.val (.int x0), .val (.long x1), .second, .val (.long x3), .second, .val (.long x5), .second, .val (.long x7), .second, .val (.int ((1 : Int32) + (x0 &&& (3 : Int32)))), .unset, .unset, .unset, .unset] [(.int (4 : Int32))]))
    obtain ⟨T1, h1, X1, e1, Ex1, A_1, st1⟩ := nwA X0 hx hZ (hw _ (List.mem_of_getElem? (i := 0) rfl)) e0 (rfl : nwx (0 : Int64) 4 (4 : Int32) = some [(0 : Int64), (0 : Int64), (0 : Int64), (0 : Int64)]) (f := Value.long) rfl (g := (mkF m 8 #[.val (.int x0), .val (.long x1), .second, .val (.long x3), .second, .val (.long x5), .second, .val (.long x7), .second, .val (.int ((1 : Int32) + (x0 &&& (3 : Int32)))), .unset, .unset, .unset, .unset] [(.int (4 : Int32))])) rfl rfl (hb hby at_8) (by decide) (by decide) (by decide)
    obtain ⟨c1, gc1⟩ : ∃ z, z = hA.size := ⟨_, rfl⟩
    rw [← gc1] at A_1 st1
    refine OwnOut.go (fun t k => st1 _ k) ?_
    have g_1 : n0 ≤ c1 := gc1 ▸ (O0.1 ▸ O0.2.1)
    have z_1 : h0.size ≤ c1 := gc1 ▸ K0.1
    have O_1 := O0.ext Ex1
    have K_1 := K0.ext Ex1
    show OwnOut p e s below 16 128 _ (T1.setTop (mkF m 10 #[.val (.int x0), .val (.long x1), .second, .val (.long x3), .second, .val (.long x5), .second, .val (.long x7), .second, .val (.int ((1 : Int32) + (x0 &&& (3 : Int32)))), .unset, .unset, .unset, .unset] [(.ref c1)]))
    refine OwnOut.go (fun t k => XS.astore X1.here hx rfl (hb hby at_10) rfl rfl (l' := #[.val (.int x0), .val (.long x1), .second, .val (.long x3), .second, .val (.long x5), .second, .val (.long x7), .second, .val (.int ((1 : Int32) + (x0 &&& (3 : Int32)))), .val (.ref c1), .unset, .unset, .unset]) rfl k) ?_
    show OwnOut p e s below 16 128 _ (T1.setTop (mkF m 12 #[.val (.int x0), .val (.long x1), .second, .val (.long x3), .second, .val (.long x5), .second, .val (.long x7), .second, .val (.int ((1 : Int32) + (x0 &&& (3 : Int32)))), .val (.ref c1), .unset, .unset, .unset] []))
    obtain ⟨T2, h2, X2, e2, Ex2, E_2, Df2, -, st2⟩ := newO X1 hx hZ hown (hw _ (List.mem_of_getElem? (i := 1) rfl)) (hw _ (List.mem_of_getElem? (i := 2) rfl)) (hw _ (List.mem_of_getElem? (i := 3) rfl)) e1 (g := (mkF m 12 #[.val (.int x0), .val (.long x1), .second, .val (.long x3), .second, .val (.long x5), .second, .val (.long x7), .second, .val (.int ((1 : Int32) + (x0 &&& (3 : Int32)))), .val (.ref c1), .unset, .unset, .unset] [])) rfl (hb hby at_12) (by decide) (by decide)
    obtain ⟨c2, gc2⟩ : ∃ z, z = h1.size := ⟨_, rfl⟩
    rw [← gc2] at E_2 st2
    have F_times_2 : Fld Z h2 c2 "com/example/porter_drive/porterdrive/RequestQueue" "times" "[J" .null := by rw [gc2]; exact Df2 (Or.inr (hw _ (List.mem_of_getElem? (i := 11) rfl))) (ty := (.array .long)) (by decide)
    have F_clients_2 : Fld Z h2 c2 "com/example/porter_drive/porterdrive/RequestQueue" "clients" "[I" .null := by rw [gc2]; exact Df2 (Or.inr (hw _ (List.mem_of_getElem? (i := 14) rfl))) (ty := (.array .int)) (by decide)
    have F_size_2 : Fld Z h2 c2 "com/example/porter_drive/porterdrive/RequestQueue" "size" "I" (.int (0 : Int32)) := by rw [gc2]; exact Df2 (Or.inl (hw _ (List.mem_of_getElem? (i := 16) rfl))) (ty := .int) (by decide)
    refine OwnOut.go (fun t k => st2 _ k) ?_
    have ne0_1_2 : c1 ≠ c2 := Nat.ne_of_lt (gc2 ▸ A_1.lt)
    have A0_2 := A_1.ext Ex2
    have g_2 : n0 ≤ c2 := gc2 ▸ (O_1.1 ▸ O_1.2.1)
    have z_2 : h0.size ≤ c2 := gc2 ▸ K_1.1
    have O_2 := O_1.ext Ex2
    have K_2 := K_1.ext Ex2
    show OwnOut p e s below 16 128 _ (T2.setTop (mkF m 15 #[.val (.int x0), .val (.long x1), .second, .val (.long x3), .second, .val (.long x5), .second, .val (.long x7), .second, .val (.int ((1 : Int32) + (x0 &&& (3 : Int32)))), .val (.ref c1), .unset, .unset, .unset] [(.ref c2)]))
    refine OwnOut.go (fun t k => XS.dup X2.here hx rfl (hb hby at_15) rfl rfl k) ?_
    show OwnOut p e s below 16 128 _ (T2.setTop (mkF m 16 #[.val (.int x0), .val (.long x1), .second, .val (.long x3), .second, .val (.long x5), .second, .val (.long x7), .second, .val (.int ((1 : Int32) + (x0 &&& (3 : Int32)))), .val (.ref c1), .unset, .unset, .unset] [(.ref c2), (.ref c2)]))
    refine OwnOut.go (fun t k => XS.iload X2.here hx rfl (hb hby at_16) rfl k) ?_
    show OwnOut p e s below 16 128 _ (T2.setTop (mkF m 18 #[.val (.int x0), .val (.long x1), .second, .val (.long x3), .second, .val (.long x5), .second, .val (.long x7), .second, .val (.int ((1 : Int32) + (x0 &&& (3 : Int32)))), .val (.ref c1), .unset, .unset, .unset] [(.int ((1 : Int32) + (x0 &&& (3 : Int32)))), (.ref c2), (.ref c2)]))
    obtain ⟨o3, ho3, hr⟩ := Option.bind_eq_some_iff.mp hr
    obtain ⟨r3, T3, L3, X3', hQ3, st3⟩ := callN (W := 1) (rm := rx1) X2 hx hZ rfl (y := (⟨"com/example/porter_drive/porterdrive/RequestQueue", "<init>", "(I)V"⟩ : MethodName)) rfl hown (hw _ (List.mem_of_getElem? (i := 4) rfl)) (hw _ (List.mem_of_getElem? (i := 5) rfl)) (hw _ (List.mem_of_getElem? (i := 3) rfl)) (hw _ (List.mem_of_getElem? (i := 6) rfl)) (by decide) (rm1 l Z a0 hw [] ((1 : Int32) + (x0 &&& (3 : Int32))) c2 (0 : Int32) h2 n0 o3 ho3 O_2 E_2 F_times_2 F_clients_2 F_size_2 g_2) (by decide) (by decide) (by decide) (by decide) e2 (g := (mkF m 18 #[.val (.int x0), .val (.long x1), .second, .val (.long x3), .second, .val (.long x5), .second, .val (.long x7), .second, .val (.int ((1 : Int32) + (x0 &&& (3 : Int32)))), .val (.ref c1), .unset, .unset, .unset] [(.int ((1 : Int32) + (x0 &&& (3 : Int32)))), (.ref c2), (.ref c2)])) rfl (by rw [hml]; rfl) (argsL := [(.int ((1 : Int32) + (x0 &&& (3 : Int32))))]) (rest := [(.ref c2)]) (lenOf pd1 rfl) rfl (by show 2 * 0 + _ ≤ _; exact Nat.le_of_eq rfl) (hb hby at_18)
    obtain ⟨c3_0, c3_1, rfl, Nq3, Kq3, F1_times_3, F1_clients_3, F1_size_3, zq3_0, gq3_0, Aq3_0, zq3_1, gq3_1, Aq3_1, neq3_0_1⟩ := hQ3
    have X3 : Stand p l e room_1 s m args below meth c T3 _ 4 15 := X3'
    have ne0_2_3 : c1 ≠ c3_0 := Nat.ne_of_lt (Nat.lt_of_lt_of_le A0_2.lt zq3_0)
    have ne1_2_3 : c2 ≠ c3_0 := Nat.ne_of_lt (Nat.lt_of_lt_of_le E_2.lt zq3_0)
    have z_3_0 : h0.size ≤ c3_0 := Nat.le_trans K_2.1 zq3_0
    have ne0_3_3 : c1 ≠ c3_1 := Nat.ne_of_lt (Nat.lt_of_lt_of_le A0_2.lt zq3_1)
    have ne1_3_3 : c2 ≠ c3_1 := Nat.ne_of_lt (Nat.lt_of_lt_of_le E_2.lt zq3_1)
    have z_3_1 : h0.size ≤ c3_1 := Nat.le_trans K_2.1 zq3_1
    have A0_3 := A0_2.keep Kq3 (ninS ne0_1_2 nin0)
    have E1_3 := E_2.keep Kq3
    have N_3 := Fr.app N0 Nq3
    have O_3 := O_2.keep Kq3 (allS g_2 all0)
    have K_3 := K_2.trans Kq3 (allS (Or.inr z_2) all0)
    refine OwnOut.go (fun t k => st3 _ k) ?_
    show OwnOut p e s below 16 128 _ (T3.setTop (mkF m 21 #[.val (.int x0), .val (.long x1), .second, .val (.long x3), .second, .val (.long x5), .second, .val (.long x7), .second, .val (.int ((1 : Int32) + (x0 &&& (3 : Int32)))), .val (.ref c1), .unset, .unset, .unset] [(.ref c2)]))
    refine OwnOut.go (fun t k => XS.astore X3.here hx rfl (hb hby at_21) rfl rfl (l' := #[.val (.int x0), .val (.long x1), .second, .val (.long x3), .second, .val (.long x5), .second, .val (.long x7), .second, .val (.int ((1 : Int32) + (x0 &&& (3 : Int32)))), .val (.ref c1), .val (.ref c2), .unset, .unset]) rfl k) ?_
    show OwnOut p e s below 16 128 _ (T3.setTop (mkF m 23 #[.val (.int x0), .val (.long x1), .second, .val (.long x3), .second, .val (.long x5), .second, .val (.long x7), .second, .val (.int ((1 : Int32) + (x0 &&& (3 : Int32)))), .val (.ref c1), .val (.ref c2), .unset, .unset] []))
    refine OwnOut.go (fun t k => XT.iconstV X3.here hx rfl (1 : Int32) (hb hby at_23) rfl k) ?_
    show OwnOut p e s below 16 128 _ (T3.setTop (mkF m 24 #[.val (.int x0), .val (.long x1), .second, .val (.long x3), .second, .val (.long x5), .second, .val (.long x7), .second, .val (.int ((1 : Int32) + (x0 &&& (3 : Int32)))), .val (.ref c1), .val (.ref c2), .unset, .unset] [(.int (1 : Int32))]))
    refine OwnOut.go (fun t k => XS.istore X3.here hx rfl (hb hby at_24) rfl (l' := #[.val (.int x0), .val (.long x1), .second, .val (.long x3), .second, .val (.long x5), .second, .val (.long x7), .second, .val (.int ((1 : Int32) + (x0 &&& (3 : Int32)))), .val (.ref c1), .val (.ref c2), .val (.int (1 : Int32)), .unset]) rfl k) ?_
    show OwnOut p e s below 16 128 _ (T3.setTop (mkF m 26 #[.val (.int x0), .val (.long x1), .second, .val (.long x3), .second, .val (.long x5), .second, .val (.long x7), .second, .val (.int ((1 : Int32) + (x0 &&& (3 : Int32)))), .val (.ref c1), .val (.ref c2), .val (.int (1 : Int32)), .unset] []))
    refine OwnOut.go (fun t k => XS.iload X3.here hx rfl (hb hby at_26) rfl k) ?_
    show OwnOut p e s below 16 128 _ (T3.setTop (mkF m 28 #[.val (.int x0), .val (.long x1), .second, .val (.long x3), .second, .val (.long x5), .second, .val (.long x7), .second, .val (.int ((1 : Int32) + (x0 &&& (3 : Int32)))), .val (.ref c1), .val (.ref c2), .val (.int (1 : Int32)), .unset] [(.int (1 : Int32))]))
    refine OwnOut.go (fun t k => XS.aload X3.here hx rfl (hb hby at_28) rfl rfl k) ?_
    show OwnOut p e s below 16 128 _ (T3.setTop (mkF m 30 #[.val (.int x0), .val (.long x1), .second, .val (.long x3), .second, .val (.long x5), .second, .val (.long x7), .second, .val (.int ((1 : Int32) + (x0 &&& (3 : Int32)))), .val (.ref c1), .val (.ref c2), .val (.int (1 : Int32)), .unset] [(.ref c2), (.int (1 : Int32))]))
    refine OwnOut.go (fun t k => XS.aload X3.here hx rfl (hb hby at_30) rfl rfl k) ?_
    show OwnOut p e s below 16 128 _ (T3.setTop (mkF m 32 #[.val (.int x0), .val (.long x1), .second, .val (.long x3), .second, .val (.long x5), .second, .val (.long x7), .second, .val (.int ((1 : Int32) + (x0 &&& (3 : Int32)))), .val (.ref c1), .val (.ref c2), .val (.int (1 : Int32)), .unset] [(.ref c1), (.ref c2), (.int (1 : Int32))]))
    refine OwnOut.go (fun t k => XS.iload X3.here hx rfl (hb hby at_32) rfl k) ?_
    show OwnOut p e s below 16 128 _ (T3.setTop (mkF m 34 #[.val (.int x0), .val (.long x1), .second, .val (.long x3), .second, .val (.long x5), .second, .val (.long x7), .second, .val (.int ((1 : Int32) + (x0 &&& (3 : Int32)))), .val (.ref c1), .val (.ref c2), .val (.int (1 : Int32)), .unset] [(.int ((1 : Int32) + (x0 &&& (3 : Int32)))), (.ref c1), (.ref c2), (.int (1 : Int32))]))
    refine OwnOut.go (fun t k => XS.lloadN X3.here hx rfl (hb hby at_34) rfl k) ?_
    show OwnOut p e s below 16 128 _ (T3.setTop (mkF m 35 #[.val (.int x0), .val (.long x1), .second, .val (.long x3), .second, .val (.long x5), .second, .val (.long x7), .second, .val (.int ((1 : Int32) + (x0 &&& (3 : Int32)))), .val (.ref c1), .val (.ref c2), .val (.int (1 : Int32)), .unset] [(.long x1), (.int ((1 : Int32) + (x0 &&& (3 : Int32)))), (.ref c1), (.ref c2), (.int (1 : Int32))]))
    obtain ⟨o4, ho4, hr⟩ := Option.bind_eq_some_iff.mp hr
    obtain ⟨r4, T4, L4, X4', hQ4, st4⟩ := callQ (W := 1) (rm := rx3) X3 hx hZ (y := (⟨"com/example/porter_drive/porterdrive/RequestQueueDelayFirstPinLaw", "step", "(Lcom/example/porter_drive/porterdrive/RequestQueue;[JIJ)Z"⟩ : MethodName)) hown (hw _ (List.mem_of_getElem? (i := 17) rfl)) (hw _ (List.mem_of_getElem? (i := 18) rfl)) (hw _ (List.mem_of_getElem? (i := 19) rfl)) (hw _ (List.mem_of_getElem? (i := 20) rfl)) (by decide) (rm3 l Z a0 hw [] ((1 : Int32) + (x0 &&& (3 : Int32))) x1 c2 o3.1 c3_0 o3.2.1 c3_1 o3.2.2 c1 [(0 : Int64), (0 : Int64), (0 : Int64), (0 : Int64)] T3.heap n0 o4 ho4 O_3 E1_3 F1_times_3 F1_clients_3 F1_size_3 Aq3_0 Aq3_1 A0_3 g_2 gq3_0 gq3_1 g_1 ne1_2_3 ne1_3_3 (Ne.symm ne0_1_2) neq3_0_1 (Ne.symm ne0_2_3) (Ne.symm ne0_3_3)) (by decide) (by decide) (by decide) (by decide) rfl (g := (mkF m 35 #[.val (.int x0), .val (.long x1), .second, .val (.long x3), .second, .val (.long x5), .second, .val (.long x7), .second, .val (.int ((1 : Int32) + (x0 &&& (3 : Int32)))), .val (.ref c1), .val (.ref c2), .val (.int (1 : Int32)), .unset] [(.long x1), (.int ((1 : Int32) + (x0 &&& (3 : Int32)))), (.ref c1), (.ref c2), (.int (1 : Int32))])) rfl (by rw [hml]; rfl) (argsL := [(.ref c2), (.ref c1), (.int ((1 : Int32) + (x0 &&& (3 : Int32)))), (.long x1)]) (rest := [(.int (1 : Int32))]) (lenOf pd3 rfl) rfl (by show 2 * 0 + _ ≤ _; exact Nat.le_of_eq rfl) (hb hby at_35)
    obtain ⟨rfl, Nq4, Kq4, A2_4, A3_4, A0_4⟩ := hQ4
    have X4 : Stand p l e room_1 s m args below meth c T4 _ 4 15 := X4'
    have E1_4 := E1_3.keep Kq4
    have F1_times_4 := F1_times_3.keep Kq4 (ninS ne1_2_3 (ninS ne1_3_3 (ninS (Ne.symm ne0_1_2) nin0)))
    have F1_clients_4 := F1_clients_3.keep Kq4 (ninS ne1_2_3 (ninS ne1_3_3 (ninS (Ne.symm ne0_1_2) nin0)))
    have F1_size_4 := F1_size_3.keep Kq4 (ninS ne1_2_3 (ninS ne1_3_3 (ninS (Ne.symm ne0_1_2) nin0)))
    have N_4 := Fr.app N_3 Nq4
    have O_4 := O_3.keep Kq4 (allS gq3_0 (allS gq3_1 (allS g_1 all0)))
    have K_4 := K_3.trans Kq4 (allS (Or.inr z_3_0) (allS (Or.inr z_3_1) (allS (Or.inr z_1) all0)))
    refine OwnOut.go (fun t k => st4 _ k) ?_
    show OwnOut p e s below 16 128 _ (T4.setTop (mkF m 38 #[.val (.int x0), .val (.long x1), .second, .val (.long x3), .second, .val (.long x5), .second, .val (.long x7), .second, .val (.int ((1 : Int32) + (x0 &&& (3 : Int32)))), .val (.ref c1), .val (.ref c2), .val (.int (1 : Int32)), .unset] [(.int o4.1), (.int (1 : Int32))]))
    refine OwnOut.go (fun t k => XS.iand X4.here hx rfl (hb hby at_38) rfl k) ?_
    show OwnOut p e s below 16 128 _ (T4.setTop (mkF m 39 #[.val (.int x0), .val (.long x1), .second, .val (.long x3), .second, .val (.long x5), .second, .val (.long x7), .second, .val (.int ((1 : Int32) + (x0 &&& (3 : Int32)))), .val (.ref c1), .val (.ref c2), .val (.int (1 : Int32)), .unset] [(.int ((1 : Int32) &&& o4.1))]))
    refine OwnOut.go (fun t k => XS.istore X4.here hx rfl (hb hby at_39) rfl (l' := #[.val (.int x0), .val (.long x1), .second, .val (.long x3), .second, .val (.long x5), .second, .val (.long x7), .second, .val (.int ((1 : Int32) + (x0 &&& (3 : Int32)))), .val (.ref c1), .val (.ref c2), .val (.int ((1 : Int32) &&& o4.1)), .unset]) rfl k) ?_
    show OwnOut p e s below 16 128 _ (T4.setTop (mkF m 41 #[.val (.int x0), .val (.long x1), .second, .val (.long x3), .second, .val (.long x5), .second, .val (.long x7), .second, .val (.int ((1 : Int32) + (x0 &&& (3 : Int32)))), .val (.ref c1), .val (.ref c2), .val (.int ((1 : Int32) &&& o4.1)), .unset] []))
    refine OwnOut.go (fun t k => XS.iload X4.here hx rfl (hb hby at_41) rfl k) ?_
    show OwnOut p e s below 16 128 _ (T4.setTop (mkF m 43 #[.val (.int x0), .val (.long x1), .second, .val (.long x3), .second, .val (.long x5), .second, .val (.long x7), .second, .val (.int ((1 : Int32) + (x0 &&& (3 : Int32)))), .val (.ref c1), .val (.ref c2), .val (.int ((1 : Int32) &&& o4.1)), .unset] [(.int ((1 : Int32) &&& o4.1))]))
    refine OwnOut.go (fun t k => XS.aload X4.here hx rfl (hb hby at_43) rfl rfl k) ?_
    show OwnOut p e s below 16 128 _ (T4.setTop (mkF m 45 #[.val (.int x0), .val (.long x1), .second, .val (.long x3), .second, .val (.long x5), .second, .val (.long x7), .second, .val (.int ((1 : Int32) + (x0 &&& (3 : Int32)))), .val (.ref c1), .val (.ref c2), .val (.int ((1 : Int32) &&& o4.1)), .unset] [(.ref c2), (.int ((1 : Int32) &&& o4.1))]))
    refine OwnOut.go (fun t k => XS.aload X4.here hx rfl (hb hby at_45) rfl rfl k) ?_
    show OwnOut p e s below 16 128 _ (T4.setTop (mkF m 47 #[.val (.int x0), .val (.long x1), .second, .val (.long x3), .second, .val (.long x5), .second, .val (.long x7), .second, .val (.int ((1 : Int32) + (x0 &&& (3 : Int32)))), .val (.ref c1), .val (.ref c2), .val (.int ((1 : Int32) &&& o4.1)), .unset] [(.ref c1), (.ref c2), (.int ((1 : Int32) &&& o4.1))]))
    refine OwnOut.go (fun t k => XS.iload X4.here hx rfl (hb hby at_47) rfl k) ?_
    show OwnOut p e s below 16 128 _ (T4.setTop (mkF m 49 #[.val (.int x0), .val (.long x1), .second, .val (.long x3), .second, .val (.long x5), .second, .val (.long x7), .second, .val (.int ((1 : Int32) + (x0 &&& (3 : Int32)))), .val (.ref c1), .val (.ref c2), .val (.int ((1 : Int32) &&& o4.1)), .unset] [(.int ((1 : Int32) + (x0 &&& (3 : Int32)))), (.ref c1), (.ref c2), (.int ((1 : Int32) &&& o4.1))]))
    refine OwnOut.go (fun t k => XS.lloadN X4.here hx rfl (hb hby at_49) rfl k) ?_
    show OwnOut p e s below 16 128 _ (T4.setTop (mkF m 50 #[.val (.int x0), .val (.long x1), .second, .val (.long x3), .second, .val (.long x5), .second, .val (.long x7), .second, .val (.int ((1 : Int32) + (x0 &&& (3 : Int32)))), .val (.ref c1), .val (.ref c2), .val (.int ((1 : Int32) &&& o4.1)), .unset] [(.long x3), (.int ((1 : Int32) + (x0 &&& (3 : Int32)))), (.ref c1), (.ref c2), (.int ((1 : Int32) &&& o4.1))]))
    obtain ⟨o5, ho5, hr⟩ := Option.bind_eq_some_iff.mp hr
    obtain ⟨r5, T5, L5, X5', hQ5, st5⟩ := callQ (W := 1) (rm := rx3) X4 hx hZ (y := (⟨"com/example/porter_drive/porterdrive/RequestQueueDelayFirstPinLaw", "step", "(Lcom/example/porter_drive/porterdrive/RequestQueue;[JIJ)Z"⟩ : MethodName)) hown (hw _ (List.mem_of_getElem? (i := 17) rfl)) (hw _ (List.mem_of_getElem? (i := 18) rfl)) (hw _ (List.mem_of_getElem? (i := 19) rfl)) (hw _ (List.mem_of_getElem? (i := 20) rfl)) (by decide) (rm3 l Z a0 hw [] ((1 : Int32) + (x0 &&& (3 : Int32))) x3 c2 o3.1 c3_0 o4.2.1 c3_1 o4.2.2.1 c1 o4.2.2.2 T4.heap n0 o5 ho5 O_4 E1_4 F1_times_4 F1_clients_4 F1_size_4 A2_4 A3_4 A0_4 g_2 gq3_0 gq3_1 g_1 ne1_2_3 ne1_3_3 (Ne.symm ne0_1_2) neq3_0_1 (Ne.symm ne0_2_3) (Ne.symm ne0_3_3)) (by decide) (by decide) (by decide) (by decide) rfl (g := (mkF m 50 #[.val (.int x0), .val (.long x1), .second, .val (.long x3), .second, .val (.long x5), .second, .val (.long x7), .second, .val (.int ((1 : Int32) + (x0 &&& (3 : Int32)))), .val (.ref c1), .val (.ref c2), .val (.int ((1 : Int32) &&& o4.1)), .unset] [(.long x3), (.int ((1 : Int32) + (x0 &&& (3 : Int32)))), (.ref c1), (.ref c2), (.int ((1 : Int32) &&& o4.1))])) rfl (by rw [hml]; rfl) (argsL := [(.ref c2), (.ref c1), (.int ((1 : Int32) + (x0 &&& (3 : Int32)))), (.long x3)]) (rest := [(.int ((1 : Int32) &&& o4.1))]) (lenOf pd3 rfl) rfl (by show 2 * 0 + _ ≤ _; exact Nat.le_of_eq rfl) (hb hby at_50)
    obtain ⟨rfl, Nq5, Kq5, A2_5, A3_5, A0_5⟩ := hQ5
    have X5 : Stand p l e room_1 s m args below meth c T5 _ 4 15 := X5'
    have E1_5 := E1_4.keep Kq5
    have F1_times_5 := F1_times_4.keep Kq5 (ninS ne1_2_3 (ninS ne1_3_3 (ninS (Ne.symm ne0_1_2) nin0)))
    have F1_clients_5 := F1_clients_4.keep Kq5 (ninS ne1_2_3 (ninS ne1_3_3 (ninS (Ne.symm ne0_1_2) nin0)))
    have F1_size_5 := F1_size_4.keep Kq5 (ninS ne1_2_3 (ninS ne1_3_3 (ninS (Ne.symm ne0_1_2) nin0)))
    have N_5 := Fr.app N_4 Nq5
    have O_5 := O_4.keep Kq5 (allS gq3_0 (allS gq3_1 (allS g_1 all0)))
    have K_5 := K_4.trans Kq5 (allS (Or.inr z_3_0) (allS (Or.inr z_3_1) (allS (Or.inr z_1) all0)))
    refine OwnOut.go (fun t k => st5 _ k) ?_
    show OwnOut p e s below 16 128 _ (T5.setTop (mkF m 53 #[.val (.int x0), .val (.long x1), .second, .val (.long x3), .second, .val (.long x5), .second, .val (.long x7), .second, .val (.int ((1 : Int32) + (x0 &&& (3 : Int32)))), .val (.ref c1), .val (.ref c2), .val (.int ((1 : Int32) &&& o4.1)), .unset] [(.int o5.1), (.int ((1 : Int32) &&& o4.1))]))
    refine OwnOut.go (fun t k => XS.iand X5.here hx rfl (hb hby at_53) rfl k) ?_
    show OwnOut p e s below 16 128 _ (T5.setTop (mkF m 54 #[.val (.int x0), .val (.long x1), .second, .val (.long x3), .second, .val (.long x5), .second, .val (.long x7), .second, .val (.int ((1 : Int32) + (x0 &&& (3 : Int32)))), .val (.ref c1), .val (.ref c2), .val (.int ((1 : Int32) &&& o4.1)), .unset] [(.int (((1 : Int32) &&& o4.1) &&& o5.1))]))
    refine OwnOut.go (fun t k => XS.istore X5.here hx rfl (hb hby at_54) rfl (l' := #[.val (.int x0), .val (.long x1), .second, .val (.long x3), .second, .val (.long x5), .second, .val (.long x7), .second, .val (.int ((1 : Int32) + (x0 &&& (3 : Int32)))), .val (.ref c1), .val (.ref c2), .val (.int (((1 : Int32) &&& o4.1) &&& o5.1)), .unset]) rfl k) ?_
    show OwnOut p e s below 16 128 _ (T5.setTop (mkF m 56 #[.val (.int x0), .val (.long x1), .second, .val (.long x3), .second, .val (.long x5), .second, .val (.long x7), .second, .val (.int ((1 : Int32) + (x0 &&& (3 : Int32)))), .val (.ref c1), .val (.ref c2), .val (.int (((1 : Int32) &&& o4.1) &&& o5.1)), .unset] []))
    refine OwnOut.go (fun t k => XS.iload X5.here hx rfl (hb hby at_56) rfl k) ?_
    show OwnOut p e s below 16 128 _ (T5.setTop (mkF m 58 #[.val (.int x0), .val (.long x1), .second, .val (.long x3), .second, .val (.long x5), .second, .val (.long x7), .second, .val (.int ((1 : Int32) + (x0 &&& (3 : Int32)))), .val (.ref c1), .val (.ref c2), .val (.int (((1 : Int32) &&& o4.1) &&& o5.1)), .unset] [(.int (((1 : Int32) &&& o4.1) &&& o5.1))]))
    refine OwnOut.go (fun t k => XS.aload X5.here hx rfl (hb hby at_58) rfl rfl k) ?_
    show OwnOut p e s below 16 128 _ (T5.setTop (mkF m 60 #[.val (.int x0), .val (.long x1), .second, .val (.long x3), .second, .val (.long x5), .second, .val (.long x7), .second, .val (.int ((1 : Int32) + (x0 &&& (3 : Int32)))), .val (.ref c1), .val (.ref c2), .val (.int (((1 : Int32) &&& o4.1) &&& o5.1)), .unset] [(.ref c2), (.int (((1 : Int32) &&& o4.1) &&& o5.1))]))
    refine OwnOut.go (fun t k => XS.aload X5.here hx rfl (hb hby at_60) rfl rfl k) ?_
    show OwnOut p e s below 16 128 _ (T5.setTop (mkF m 62 #[.val (.int x0), .val (.long x1), .second, .val (.long x3), .second, .val (.long x5), .second, .val (.long x7), .second, .val (.int ((1 : Int32) + (x0 &&& (3 : Int32)))), .val (.ref c1), .val (.ref c2), .val (.int (((1 : Int32) &&& o4.1) &&& o5.1)), .unset] [(.ref c1), (.ref c2), (.int (((1 : Int32) &&& o4.1) &&& o5.1))]))
    refine OwnOut.go (fun t k => XS.iload X5.here hx rfl (hb hby at_62) rfl k) ?_
    show OwnOut p e s below 16 128 _ (T5.setTop (mkF m 64 #[.val (.int x0), .val (.long x1), .second, .val (.long x3), .second, .val (.long x5), .second, .val (.long x7), .second, .val (.int ((1 : Int32) + (x0 &&& (3 : Int32)))), .val (.ref c1), .val (.ref c2), .val (.int (((1 : Int32) &&& o4.1) &&& o5.1)), .unset] [(.int ((1 : Int32) + (x0 &&& (3 : Int32)))), (.ref c1), (.ref c2), (.int (((1 : Int32) &&& o4.1) &&& o5.1))]))
    refine OwnOut.go (fun t k => XS.lload X5.here hx rfl (hb hby at_64) rfl k) ?_
    show OwnOut p e s below 16 128 _ (T5.setTop (mkF m 66 #[.val (.int x0), .val (.long x1), .second, .val (.long x3), .second, .val (.long x5), .second, .val (.long x7), .second, .val (.int ((1 : Int32) + (x0 &&& (3 : Int32)))), .val (.ref c1), .val (.ref c2), .val (.int (((1 : Int32) &&& o4.1) &&& o5.1)), .unset] [(.long x5), (.int ((1 : Int32) + (x0 &&& (3 : Int32)))), (.ref c1), (.ref c2), (.int (((1 : Int32) &&& o4.1) &&& o5.1))]))
    obtain ⟨o6, ho6, hr⟩ := Option.bind_eq_some_iff.mp hr
    obtain ⟨r6, T6, L6, X6', hQ6, st6⟩ := callQ (W := 1) (rm := rx3) X5 hx hZ (y := (⟨"com/example/porter_drive/porterdrive/RequestQueueDelayFirstPinLaw", "step", "(Lcom/example/porter_drive/porterdrive/RequestQueue;[JIJ)Z"⟩ : MethodName)) hown (hw _ (List.mem_of_getElem? (i := 17) rfl)) (hw _ (List.mem_of_getElem? (i := 18) rfl)) (hw _ (List.mem_of_getElem? (i := 19) rfl)) (hw _ (List.mem_of_getElem? (i := 20) rfl)) (by decide) (rm3 l Z a0 hw [] ((1 : Int32) + (x0 &&& (3 : Int32))) x5 c2 o3.1 c3_0 o5.2.1 c3_1 o5.2.2.1 c1 o5.2.2.2 T5.heap n0 o6 ho6 O_5 E1_5 F1_times_5 F1_clients_5 F1_size_5 A2_5 A3_5 A0_5 g_2 gq3_0 gq3_1 g_1 ne1_2_3 ne1_3_3 (Ne.symm ne0_1_2) neq3_0_1 (Ne.symm ne0_2_3) (Ne.symm ne0_3_3)) (by decide) (by decide) (by decide) (by decide) rfl (g := (mkF m 66 #[.val (.int x0), .val (.long x1), .second, .val (.long x3), .second, .val (.long x5), .second, .val (.long x7), .second, .val (.int ((1 : Int32) + (x0 &&& (3 : Int32)))), .val (.ref c1), .val (.ref c2), .val (.int (((1 : Int32) &&& o4.1) &&& o5.1)), .unset] [(.long x5), (.int ((1 : Int32) + (x0 &&& (3 : Int32)))), (.ref c1), (.ref c2), (.int (((1 : Int32) &&& o4.1) &&& o5.1))])) rfl (by rw [hml]; rfl) (argsL := [(.ref c2), (.ref c1), (.int ((1 : Int32) + (x0 &&& (3 : Int32)))), (.long x5)]) (rest := [(.int (((1 : Int32) &&& o4.1) &&& o5.1))]) (lenOf pd3 rfl) rfl (by show 2 * 0 + _ ≤ _; exact Nat.le_of_eq rfl) (hb hby at_66)
    obtain ⟨rfl, Nq6, Kq6, A2_6, A3_6, A0_6⟩ := hQ6
    have X6 : Stand p l e room_1 s m args below meth c T6 _ 4 15 := X6'
    have E1_6 := E1_5.keep Kq6
    have F1_times_6 := F1_times_5.keep Kq6 (ninS ne1_2_3 (ninS ne1_3_3 (ninS (Ne.symm ne0_1_2) nin0)))
    have F1_clients_6 := F1_clients_5.keep Kq6 (ninS ne1_2_3 (ninS ne1_3_3 (ninS (Ne.symm ne0_1_2) nin0)))
    have F1_size_6 := F1_size_5.keep Kq6 (ninS ne1_2_3 (ninS ne1_3_3 (ninS (Ne.symm ne0_1_2) nin0)))
    have N_6 := Fr.app N_5 Nq6
    have O_6 := O_5.keep Kq6 (allS gq3_0 (allS gq3_1 (allS g_1 all0)))
    have K_6 := K_5.trans Kq6 (allS (Or.inr z_3_0) (allS (Or.inr z_3_1) (allS (Or.inr z_1) all0)))
    refine OwnOut.go (fun t k => st6 _ k) ?_
    show OwnOut p e s below 16 128 _ (T6.setTop (mkF m 69 #[.val (.int x0), .val (.long x1), .second, .val (.long x3), .second, .val (.long x5), .second, .val (.long x7), .second, .val (.int ((1 : Int32) + (x0 &&& (3 : Int32)))), .val (.ref c1), .val (.ref c2), .val (.int (((1 : Int32) &&& o4.1) &&& o5.1)), .unset] [(.int o6.1), (.int (((1 : Int32) &&& o4.1) &&& o5.1))]))
    refine OwnOut.go (fun t k => XS.iand X6.here hx rfl (hb hby at_69) rfl k) ?_
    show OwnOut p e s below 16 128 _ (T6.setTop (mkF m 70 #[.val (.int x0), .val (.long x1), .second, .val (.long x3), .second, .val (.long x5), .second, .val (.long x7), .second, .val (.int ((1 : Int32) + (x0 &&& (3 : Int32)))), .val (.ref c1), .val (.ref c2), .val (.int (((1 : Int32) &&& o4.1) &&& o5.1)), .unset] [(.int ((((1 : Int32) &&& o4.1) &&& o5.1) &&& o6.1))]))
    refine OwnOut.go (fun t k => XS.istore X6.here hx rfl (hb hby at_70) rfl (l' := #[.val (.int x0), .val (.long x1), .second, .val (.long x3), .second, .val (.long x5), .second, .val (.long x7), .second, .val (.int ((1 : Int32) + (x0 &&& (3 : Int32)))), .val (.ref c1), .val (.ref c2), .val (.int ((((1 : Int32) &&& o4.1) &&& o5.1) &&& o6.1)), .unset]) rfl k) ?_
    show OwnOut p e s below 16 128 _ (T6.setTop (mkF m 72 #[.val (.int x0), .val (.long x1), .second, .val (.long x3), .second, .val (.long x5), .second, .val (.long x7), .second, .val (.int ((1 : Int32) + (x0 &&& (3 : Int32)))), .val (.ref c1), .val (.ref c2), .val (.int ((((1 : Int32) &&& o4.1) &&& o5.1) &&& o6.1)), .unset] []))
    refine OwnOut.go (fun t k => XS.iload X6.here hx rfl (hb hby at_72) rfl k) ?_
    show OwnOut p e s below 16 128 _ (T6.setTop (mkF m 74 #[.val (.int x0), .val (.long x1), .second, .val (.long x3), .second, .val (.long x5), .second, .val (.long x7), .second, .val (.int ((1 : Int32) + (x0 &&& (3 : Int32)))), .val (.ref c1), .val (.ref c2), .val (.int ((((1 : Int32) &&& o4.1) &&& o5.1) &&& o6.1)), .unset] [(.int ((((1 : Int32) &&& o4.1) &&& o5.1) &&& o6.1))]))
    refine OwnOut.go (fun t k => XS.aload X6.here hx rfl (hb hby at_74) rfl rfl k) ?_
    show OwnOut p e s below 16 128 _ (T6.setTop (mkF m 76 #[.val (.int x0), .val (.long x1), .second, .val (.long x3), .second, .val (.long x5), .second, .val (.long x7), .second, .val (.int ((1 : Int32) + (x0 &&& (3 : Int32)))), .val (.ref c1), .val (.ref c2), .val (.int ((((1 : Int32) &&& o4.1) &&& o5.1) &&& o6.1)), .unset] [(.ref c2), (.int ((((1 : Int32) &&& o4.1) &&& o5.1) &&& o6.1))]))
    refine OwnOut.go (fun t k => XS.aload X6.here hx rfl (hb hby at_76) rfl rfl k) ?_
    show OwnOut p e s below 16 128 _ (T6.setTop (mkF m 78 #[.val (.int x0), .val (.long x1), .second, .val (.long x3), .second, .val (.long x5), .second, .val (.long x7), .second, .val (.int ((1 : Int32) + (x0 &&& (3 : Int32)))), .val (.ref c1), .val (.ref c2), .val (.int ((((1 : Int32) &&& o4.1) &&& o5.1) &&& o6.1)), .unset] [(.ref c1), (.ref c2), (.int ((((1 : Int32) &&& o4.1) &&& o5.1) &&& o6.1))]))
    refine OwnOut.go (fun t k => XS.iload X6.here hx rfl (hb hby at_78) rfl k) ?_
    show OwnOut p e s below 16 128 _ (T6.setTop (mkF m 80 #[.val (.int x0), .val (.long x1), .second, .val (.long x3), .second, .val (.long x5), .second, .val (.long x7), .second, .val (.int ((1 : Int32) + (x0 &&& (3 : Int32)))), .val (.ref c1), .val (.ref c2), .val (.int ((((1 : Int32) &&& o4.1) &&& o5.1) &&& o6.1)), .unset] [(.int ((1 : Int32) + (x0 &&& (3 : Int32)))), (.ref c1), (.ref c2), (.int ((((1 : Int32) &&& o4.1) &&& o5.1) &&& o6.1))]))
    refine OwnOut.go (fun t k => XS.lload X6.here hx rfl (hb hby at_80) rfl k) ?_
    show OwnOut p e s below 16 128 _ (T6.setTop (mkF m 82 #[.val (.int x0), .val (.long x1), .second, .val (.long x3), .second, .val (.long x5), .second, .val (.long x7), .second, .val (.int ((1 : Int32) + (x0 &&& (3 : Int32)))), .val (.ref c1), .val (.ref c2), .val (.int ((((1 : Int32) &&& o4.1) &&& o5.1) &&& o6.1)), .unset] [(.long x7), (.int ((1 : Int32) + (x0 &&& (3 : Int32)))), (.ref c1), (.ref c2), (.int ((((1 : Int32) &&& o4.1) &&& o5.1) &&& o6.1))]))
    obtain ⟨o7, ho7, hr⟩ := Option.bind_eq_some_iff.mp hr
    obtain ⟨r7, T7, L7, X7', hQ7, st7⟩ := callQ (W := 1) (rm := rx3) X6 hx hZ (y := (⟨"com/example/porter_drive/porterdrive/RequestQueueDelayFirstPinLaw", "step", "(Lcom/example/porter_drive/porterdrive/RequestQueue;[JIJ)Z"⟩ : MethodName)) hown (hw _ (List.mem_of_getElem? (i := 17) rfl)) (hw _ (List.mem_of_getElem? (i := 18) rfl)) (hw _ (List.mem_of_getElem? (i := 19) rfl)) (hw _ (List.mem_of_getElem? (i := 20) rfl)) (by decide) (rm3 l Z a0 hw [] ((1 : Int32) + (x0 &&& (3 : Int32))) x7 c2 o3.1 c3_0 o6.2.1 c3_1 o6.2.2.1 c1 o6.2.2.2 T6.heap n0 o7 ho7 O_6 E1_6 F1_times_6 F1_clients_6 F1_size_6 A2_6 A3_6 A0_6 g_2 gq3_0 gq3_1 g_1 ne1_2_3 ne1_3_3 (Ne.symm ne0_1_2) neq3_0_1 (Ne.symm ne0_2_3) (Ne.symm ne0_3_3)) (by decide) (by decide) (by decide) (by decide) rfl (g := (mkF m 82 #[.val (.int x0), .val (.long x1), .second, .val (.long x3), .second, .val (.long x5), .second, .val (.long x7), .second, .val (.int ((1 : Int32) + (x0 &&& (3 : Int32)))), .val (.ref c1), .val (.ref c2), .val (.int ((((1 : Int32) &&& o4.1) &&& o5.1) &&& o6.1)), .unset] [(.long x7), (.int ((1 : Int32) + (x0 &&& (3 : Int32)))), (.ref c1), (.ref c2), (.int ((((1 : Int32) &&& o4.1) &&& o5.1) &&& o6.1))])) rfl (by rw [hml]; rfl) (argsL := [(.ref c2), (.ref c1), (.int ((1 : Int32) + (x0 &&& (3 : Int32)))), (.long x7)]) (rest := [(.int ((((1 : Int32) &&& o4.1) &&& o5.1) &&& o6.1))]) (lenOf pd3 rfl) rfl (by show 2 * 0 + _ ≤ _; exact Nat.le_of_eq rfl) (hb hby at_82)
    obtain ⟨rfl, Nq7, Kq7, A2_7, A3_7, A0_7⟩ := hQ7
    have X7 : Stand p l e room_1 s m args below meth c T7 _ 4 15 := X7'
    have E1_7 := E1_6.keep Kq7
    have F1_times_7 := F1_times_6.keep Kq7 (ninS ne1_2_3 (ninS ne1_3_3 (ninS (Ne.symm ne0_1_2) nin0)))
    have F1_clients_7 := F1_clients_6.keep Kq7 (ninS ne1_2_3 (ninS ne1_3_3 (ninS (Ne.symm ne0_1_2) nin0)))
    have F1_size_7 := F1_size_6.keep Kq7 (ninS ne1_2_3 (ninS ne1_3_3 (ninS (Ne.symm ne0_1_2) nin0)))
    have N_7 := Fr.app N_6 Nq7
    have O_7 := O_6.keep Kq7 (allS gq3_0 (allS gq3_1 (allS g_1 all0)))
    have K_7 := K_6.trans Kq7 (allS (Or.inr z_3_0) (allS (Or.inr z_3_1) (allS (Or.inr z_1) all0)))
    refine OwnOut.go (fun t k => st7 _ k) ?_
    show OwnOut p e s below 16 128 _ (T7.setTop (mkF m 85 #[.val (.int x0), .val (.long x1), .second, .val (.long x3), .second, .val (.long x5), .second, .val (.long x7), .second, .val (.int ((1 : Int32) + (x0 &&& (3 : Int32)))), .val (.ref c1), .val (.ref c2), .val (.int ((((1 : Int32) &&& o4.1) &&& o5.1) &&& o6.1)), .unset] [(.int o7.1), (.int ((((1 : Int32) &&& o4.1) &&& o5.1) &&& o6.1))]))
    refine OwnOut.go (fun t k => XS.iand X7.here hx rfl (hb hby at_85) rfl k) ?_
    show OwnOut p e s below 16 128 _ (T7.setTop (mkF m 86 #[.val (.int x0), .val (.long x1), .second, .val (.long x3), .second, .val (.long x5), .second, .val (.long x7), .second, .val (.int ((1 : Int32) + (x0 &&& (3 : Int32)))), .val (.ref c1), .val (.ref c2), .val (.int ((((1 : Int32) &&& o4.1) &&& o5.1) &&& o6.1)), .unset] [(.int (((((1 : Int32) &&& o4.1) &&& o5.1) &&& o6.1) &&& o7.1))]))
    refine OwnOut.go (fun t k => XS.istore X7.here hx rfl (hb hby at_86) rfl (l' := #[.val (.int x0), .val (.long x1), .second, .val (.long x3), .second, .val (.long x5), .second, .val (.long x7), .second, .val (.int ((1 : Int32) + (x0 &&& (3 : Int32)))), .val (.ref c1), .val (.ref c2), .val (.int (((((1 : Int32) &&& o4.1) &&& o5.1) &&& o6.1) &&& o7.1)), .unset]) rfl k) ?_
    show OwnOut p e s below 16 128 _ (T7.setTop (mkF m 88 #[.val (.int x0), .val (.long x1), .second, .val (.long x3), .second, .val (.long x5), .second, .val (.long x7), .second, .val (.int ((1 : Int32) + (x0 &&& (3 : Int32)))), .val (.ref c1), .val (.ref c2), .val (.int (((((1 : Int32) &&& o4.1) &&& o5.1) &&& o6.1) &&& o7.1)), .unset] []))
    refine OwnOut.go (fun t k => XS.aload X7.here hx rfl (hb hby at_88) rfl rfl k) ?_
    show OwnOut p e s below 16 128 _ (T7.setTop (mkF m 90 #[.val (.int x0), .val (.long x1), .second, .val (.long x3), .second, .val (.long x5), .second, .val (.long x7), .second, .val (.int ((1 : Int32) + (x0 &&& (3 : Int32)))), .val (.ref c1), .val (.ref c2), .val (.int (((((1 : Int32) &&& o4.1) &&& o5.1) &&& o6.1) &&& o7.1)), .unset] [(.ref c1)]))
    refine OwnOut.go (fun t k => XS.iload X7.here hx rfl (hb hby at_90) rfl k) ?_
    show OwnOut p e s below 16 128 _ (T7.setTop (mkF m 92 #[.val (.int x0), .val (.long x1), .second, .val (.long x3), .second, .val (.long x5), .second, .val (.long x7), .second, .val (.int ((1 : Int32) + (x0 &&& (3 : Int32)))), .val (.ref c1), .val (.ref c2), .val (.int (((((1 : Int32) &&& o4.1) &&& o5.1) &&& o6.1) &&& o7.1)), .unset] [(.int ((1 : Int32) + (x0 &&& (3 : Int32)))), (.ref c1)]))
    obtain ⟨o8, ho8, hr⟩ := Option.bind_eq_some_iff.mp hr
    obtain ⟨r8, T8, L8, X8', hQ8, st8⟩ := callQ (W := 0) (rm := rx4) X7 hx hZ (y := (⟨"com/example/porter_drive/porterdrive/RequestQueueDelayFirstPinLaw", "first", "([JI)I"⟩ : MethodName)) hown (hw _ (List.mem_of_getElem? (i := 21) rfl)) (hw _ (List.mem_of_getElem? (i := 22) rfl)) (hw _ (List.mem_of_getElem? (i := 19) rfl)) (hw _ (List.mem_of_getElem? (i := 23) rfl)) (by decide) (rm4 l Z a0 hw [] ((1 : Int32) + (x0 &&& (3 : Int32))) c1 o7.2.2.2 T7.heap o8 ho8 A0_7) (by decide) (by decide) (by decide) (by decide) rfl (g := (mkF m 92 #[.val (.int x0), .val (.long x1), .second, .val (.long x3), .second, .val (.long x5), .second, .val (.long x7), .second, .val (.int ((1 : Int32) + (x0 &&& (3 : Int32)))), .val (.ref c1), .val (.ref c2), .val (.int (((((1 : Int32) &&& o4.1) &&& o5.1) &&& o6.1) &&& o7.1)), .unset] [(.int ((1 : Int32) + (x0 &&& (3 : Int32)))), (.ref c1)])) rfl (by rw [hml]; rfl) (argsL := [(.ref c1), (.int ((1 : Int32) + (x0 &&& (3 : Int32))))]) (rest := []) (lenOf pd4 rfl) rfl (by show 2 * 0 + _ ≤ _; exact Nat.le_of_eq rfl) (hb hby at_92)
    obtain ⟨rfl, e8, rfl⟩ := hQ8
    rw [List.append_nil] at X8'
    have X8 : Stand p l e room_1 s m args below meth c T8 _ 4 15 := X8'
    refine OwnOut.go (fun t k => st8 _ k) ?_
    show OwnOut p e s below 16 128 _ (T8.setTop (mkF m 95 #[.val (.int x0), .val (.long x1), .second, .val (.long x3), .second, .val (.long x5), .second, .val (.long x7), .second, .val (.int ((1 : Int32) + (x0 &&& (3 : Int32)))), .val (.ref c1), .val (.ref c2), .val (.int (((((1 : Int32) &&& o4.1) &&& o5.1) &&& o6.1) &&& o7.1)), .unset] [(.int o8)]))
    refine OwnOut.go (fun t k => XS.istore X8.here hx rfl (hb hby at_95) rfl (l' := #[.val (.int x0), .val (.long x1), .second, .val (.long x3), .second, .val (.long x5), .second, .val (.long x7), .second, .val (.int ((1 : Int32) + (x0 &&& (3 : Int32)))), .val (.ref c1), .val (.ref c2), .val (.int (((((1 : Int32) &&& o4.1) &&& o5.1) &&& o6.1) &&& o7.1)), .val (.int o8)]) rfl k) ?_
    show OwnOut p e s below 16 128 _ (T8.setTop (mkF m 97 #[.val (.int x0), .val (.long x1), .second, .val (.long x3), .second, .val (.long x5), .second, .val (.long x7), .second, .val (.int ((1 : Int32) + (x0 &&& (3 : Int32)))), .val (.ref c1), .val (.ref c2), .val (.int (((((1 : Int32) &&& o4.1) &&& o5.1) &&& o6.1) &&& o7.1)), .val (.int o8)] []))
    refine OwnOut.go (fun t k => XS.iload X8.here hx rfl (hb hby at_97) rfl k) ?_
    show OwnOut p e s below 16 128 _ (T8.setTop (mkF m 99 #[.val (.int x0), .val (.long x1), .second, .val (.long x3), .second, .val (.long x5), .second, .val (.long x7), .second, .val (.int ((1 : Int32) + (x0 &&& (3 : Int32)))), .val (.ref c1), .val (.ref c2), .val (.int (((((1 : Int32) &&& o4.1) &&& o5.1) &&& o6.1) &&& o7.1)), .val (.int o8)] [(.int (((((1 : Int32) &&& o4.1) &&& o5.1) &&& o6.1) &&& o7.1))]))
    by_cases hc99 : (((((1 : Int32) &&& o4.1) &&& o5.1) &&& o6.1) &&& o7.1) = (0 : Int32)
    · rw [if_pos hc99] at hr
      refine OwnOut.go (fun t k => XS.ifYes X8.here hx rfl (pc0 := 99) (pc' := 120) rfl (hb hby at_99) rfl (XT.i0_eq_t hc99) (by decide) (by decide) k) ?_
      show OwnOut p e s below 16 128 _ (T8.setTop (mkF m 120 #[.val (.int x0), .val (.long x1), .second, .val (.long x3), .second, .val (.long x5), .second, .val (.long x7), .second, .val (.int ((1 : Int32) + (x0 &&& (3 : Int32)))), .val (.ref c1), .val (.ref c2), .val (.int (((((1 : Int32) &&& o4.1) &&& o5.1) &&& o6.1) &&& o7.1)), .val (.int o8)] []))
      refine OwnOut.go (fun t k => XT.iconstV X8.here hx rfl (0 : Int32) (hb hby at_120) rfl k) ?_
      show OwnOut p e s below 16 128 _ (T8.setTop (mkF m 121 #[.val (.int x0), .val (.long x1), .second, .val (.long x3), .second, .val (.long x5), .second, .val (.long x7), .second, .val (.int ((1 : Int32) + (x0 &&& (3 : Int32)))), .val (.ref c1), .val (.ref c2), .val (.int (((((1 : Int32) &&& o4.1) &&& o5.1) &&& o6.1) &&& o7.1)), .val (.int o8)] [(.int (0 : Int32))]))
      cases hr
      exact outZ X8 hx hret (hb hby at_121) hlk (by decide) (by decide) ⟨rfl, N_7⟩
    · rw [if_neg hc99] at hr
      refine OwnOut.go (fun t k => XS.ifNo X8.here hx rfl (hb hby at_99) rfl (XT.i0_eq_f hc99) k) ?_
      show OwnOut p e s below 16 128 _ (T8.setTop (mkF m 102 #[.val (.int x0), .val (.long x1), .second, .val (.long x3), .second, .val (.long x5), .second, .val (.long x7), .second, .val (.int ((1 : Int32) + (x0 &&& (3 : Int32)))), .val (.ref c1), .val (.ref c2), .val (.int (((((1 : Int32) &&& o4.1) &&& o5.1) &&& o6.1) &&& o7.1)), .val (.int o8)] []))
      refine OwnOut.go (fun t k => XS.aload X8.here hx rfl (hb hby at_102) rfl rfl k) ?_
      show OwnOut p e s below 16 128 _ (T8.setTop (mkF m 104 #[.val (.int x0), .val (.long x1), .second, .val (.long x3), .second, .val (.long x5), .second, .val (.long x7), .second, .val (.int ((1 : Int32) + (x0 &&& (3 : Int32)))), .val (.ref c1), .val (.ref c2), .val (.int (((((1 : Int32) &&& o4.1) &&& o5.1) &&& o6.1) &&& o7.1)), .val (.int o8)] [(.ref c2)]))
      obtain ⟨o9, ho9, hr⟩ := Option.bind_eq_some_iff.mp hr
      obtain ⟨r9, T9, L9, X9', hQ9, st9⟩ := callV (W := 0) (rm := rx9) X8 hx hZ (y := (⟨"com/example/porter_drive/porterdrive/RequestQueue", "firstTime", "()J"⟩ : MethodName)) hown (hw _ (List.mem_of_getElem? (i := 42) rfl)) (hw _ (List.mem_of_getElem? (i := 43) rfl)) (hw _ (List.mem_of_getElem? (i := 45) rfl)) (hw _ (List.mem_of_getElem? (i := 44) rfl)) (hw _ (List.mem_of_getElem? (i := 3) rfl)) (hw _ (List.mem_of_getElem? (i := 46) rfl)) (by decide) (rm9 l Z a0 hw [] c2 o3.1 c3_0 o7.2.1 c3_1 o7.2.2.1 T7.heap o9 ho9 E1_7 F1_times_7 F1_clients_7 F1_size_7 A2_7 A3_7) (by decide) (by decide) (by decide) (by decide) e8 E1_7 (g := (mkF m 104 #[.val (.int x0), .val (.long x1), .second, .val (.long x3), .second, .val (.long x5), .second, .val (.long x7), .second, .val (.int ((1 : Int32) + (x0 &&& (3 : Int32)))), .val (.ref c1), .val (.ref c2), .val (.int (((((1 : Int32) &&& o4.1) &&& o5.1) &&& o6.1) &&& o7.1)), .val (.int o8)] [(.ref c2)])) rfl (by rw [hml]; rfl) (argsL := []) (rest := []) (lenOf pd9 rfl) rfl (by show 2 * 0 + _ ≤ _; exact Nat.le_of_eq rfl) (hb hby at_104)
      obtain ⟨rfl, e9, rfl⟩ := hQ9
      rw [List.append_nil] at X9'
      have X9 : Stand p l e room_1 s m args below meth c T9 _ 4 15 := X9'
      refine OwnOut.go (fun t k => st9 _ k) ?_
      show OwnOut p e s below 16 128 _ (T9.setTop (mkF m 107 #[.val (.int x0), .val (.long x1), .second, .val (.long x3), .second, .val (.long x5), .second, .val (.long x7), .second, .val (.int ((1 : Int32) + (x0 &&& (3 : Int32)))), .val (.ref c1), .val (.ref c2), .val (.int (((((1 : Int32) &&& o4.1) &&& o5.1) &&& o6.1) &&& o7.1)), .val (.int o8)] [(.long o9)]))
      refine OwnOut.go (fun t k => XS.aload X9.here hx rfl (hb hby at_107) rfl rfl k) ?_
      show OwnOut p e s below 16 128 _ (T9.setTop (mkF m 109 #[.val (.int x0), .val (.long x1), .second, .val (.long x3), .second, .val (.long x5), .second, .val (.long x7), .second, .val (.int ((1 : Int32) + (x0 &&& (3 : Int32)))), .val (.ref c1), .val (.ref c2), .val (.int (((((1 : Int32) &&& o4.1) &&& o5.1) &&& o6.1) &&& o7.1)), .val (.int o8)] [(.ref c1), (.long o9)]))
      refine OwnOut.go (fun t k => XS.iload X9.here hx rfl (hb hby at_109) rfl k) ?_
      show OwnOut p e s below 16 128 _ (T9.setTop (mkF m 111 #[.val (.int x0), .val (.long x1), .second, .val (.long x3), .second, .val (.long x5), .second, .val (.long x7), .second, .val (.int ((1 : Int32) + (x0 &&& (3 : Int32)))), .val (.ref c1), .val (.ref c2), .val (.int (((((1 : Int32) &&& o4.1) &&& o5.1) &&& o6.1) &&& o7.1)), .val (.int o8)] [(.int o8), (.ref c1), (.long o9)]))
      obtain ⟨v10, hv10, hr⟩ := Option.bind_eq_some_iff.mp hr
      refine OwnOut.go (fun t k => ldJ X9 hx hZ e9 A0_7 hv10 (g := (mkF m 111 #[.val (.int x0), .val (.long x1), .second, .val (.long x3), .second, .val (.long x5), .second, .val (.long x7), .second, .val (.int ((1 : Int32) + (x0 &&& (3 : Int32)))), .val (.ref c1), .val (.ref c2), .val (.int (((((1 : Int32) &&& o4.1) &&& o5.1) &&& o6.1) &&& o7.1)), .val (.int o8)] [(.int o8), (.ref c1), (.long o9)])) rfl rfl (hb hby at_111) t k) ?_
      show OwnOut p e s below 16 128 _ (T9.setTop (mkF m 112 #[.val (.int x0), .val (.long x1), .second, .val (.long x3), .second, .val (.long x5), .second, .val (.long x7), .second, .val (.int ((1 : Int32) + (x0 &&& (3 : Int32)))), .val (.ref c1), .val (.ref c2), .val (.int (((((1 : Int32) &&& o4.1) &&& o5.1) &&& o6.1) &&& o7.1)), .val (.int o8)] [(.long v10), (.long o9)]))
      refine OwnOut.go (fun t k => XS.lcmp X9.here hx rfl (hb hby at_112) rfl k) ?_
      show OwnOut p e s below 16 128 _ (T9.setTop (mkF m 113 #[.val (.int x0), .val (.long x1), .second, .val (.long x3), .second, .val (.long x5), .second, .val (.long x7), .second, .val (.int ((1 : Int32) + (x0 &&& (3 : Int32)))), .val (.ref c1), .val (.ref c2), .val (.int (((((1 : Int32) &&& o4.1) &&& o5.1) &&& o6.1) &&& o7.1)), .val (.int o8)] [(.int (XT.cmpL o9 v10))]))
      by_cases hc113 : o9 = v10
      · rw [if_pos hc113] at hr
        refine OwnOut.go (fun t k => XS.ifNo X9.here hx rfl (hb hby at_113) rfl (XT.ll_ne_f hc113) k) ?_
        show OwnOut p e s below 16 128 _ (T9.setTop (mkF m 116 #[.val (.int x0), .val (.long x1), .second, .val (.long x3), .second, .val (.long x5), .second, .val (.long x7), .second, .val (.int ((1 : Int32) + (x0 &&& (3 : Int32)))), .val (.ref c1), .val (.ref c2), .val (.int (((((1 : Int32) &&& o4.1) &&& o5.1) &&& o6.1) &&& o7.1)), .val (.int o8)] []))
        refine OwnOut.go (fun t k => XT.iconstV X9.here hx rfl (1 : Int32) (hb hby at_116) rfl k) ?_
        show OwnOut p e s below 16 128 _ (T9.setTop (mkF m 117 #[.val (.int x0), .val (.long x1), .second, .val (.long x3), .second, .val (.long x5), .second, .val (.long x7), .second, .val (.int ((1 : Int32) + (x0 &&& (3 : Int32)))), .val (.ref c1), .val (.ref c2), .val (.int (((((1 : Int32) &&& o4.1) &&& o5.1) &&& o6.1) &&& o7.1)), .val (.int o8)] [(.int (1 : Int32))]))
        refine OwnOut.go (fun t k => XS.goto X9.here hx rfl (pc0 := 117) (pc' := 121) rfl (hb hby at_117) (by decide) (by decide) k) ?_
        show OwnOut p e s below 16 128 _ (T9.setTop (mkF m 121 #[.val (.int x0), .val (.long x1), .second, .val (.long x3), .second, .val (.long x5), .second, .val (.long x7), .second, .val (.int ((1 : Int32) + (x0 &&& (3 : Int32)))), .val (.ref c1), .val (.ref c2), .val (.int (((((1 : Int32) &&& o4.1) &&& o5.1) &&& o6.1) &&& o7.1)), .val (.int o8)] [(.int (1 : Int32))]))
        cases hr
        exact outZ X9 hx hret (hb hby at_121) hlk (by decide) (by decide) ⟨rfl, N_7⟩
      · rw [if_neg hc113] at hr
        refine OwnOut.go (fun t k => XS.ifYes X9.here hx rfl (pc0 := 113) (pc' := 120) rfl (hb hby at_113) rfl (XT.ll_ne_t hc113) (by decide) (by decide) k) ?_
        show OwnOut p e s below 16 128 _ (T9.setTop (mkF m 120 #[.val (.int x0), .val (.long x1), .second, .val (.long x3), .second, .val (.long x5), .second, .val (.long x7), .second, .val (.int ((1 : Int32) + (x0 &&& (3 : Int32)))), .val (.ref c1), .val (.ref c2), .val (.int (((((1 : Int32) &&& o4.1) &&& o5.1) &&& o6.1) &&& o7.1)), .val (.int o8)] []))
        refine OwnOut.go (fun t k => XT.iconstV X9.here hx rfl (0 : Int32) (hb hby at_120) rfl k) ?_
        show OwnOut p e s below 16 128 _ (T9.setTop (mkF m 121 #[.val (.int x0), .val (.long x1), .second, .val (.long x3), .second, .val (.long x5), .second, .val (.long x7), .second, .val (.int ((1 : Int32) + (x0 &&& (3 : Int32)))), .val (.ref c1), .val (.ref c2), .val (.int (((((1 : Int32) &&& o4.1) &&& o5.1) &&& o6.1) &&& o7.1)), .val (.int o8)] [(.int (0 : Int32))]))
        cases hr
        exact outZ X9 hx hret (hb hby at_121) hlk (by decide) (by decide) ⟨rfl, N_7⟩
set_option maxRecDepth 65536 in
set_option maxHeartbeats 40000000 in
theorem rm0 (l : Launch) (Z : State) (a0 : Array Value) (hw : ∀ d ∈ tables_1, d.before a0 Z = true) (ws : List Jvm.Cond) (x0 : Int32) (x1 : Int64) (x3 : Int64) (x5 : Int64) (x7 : Int64) (h0 : Heap) (n0 : Nat) (o : Int32) (hr : f0 x0 x1 x3 x5 x7 = some o) (O0 : Old Z n0 h0) :
    MetFree l x (head1 (Jvm.Cond.code x code maxLocals ret :: ws) room_1) (fun a U => a = #[(.int x0), (.long x1), (.long x3), (.long x5), (.long x7)] ∧ Z.Warmed39 U.vm ∧ U.heap = h0) (fun _ _ _ _ _ => True) (fun _ U o' U' => ∃ v L, o' = .returned v ∧ Q0 Z x0 x1 x3 x5 x7 h0 n0 o v U'.heap L ∧ FrameEnd U o' U' L 16 128) := by
  refine MetFree.of_bodySF (plainFor_of_name pn0) hisR ?_
  intro p e s m args below meth c s₁ Bd hml0 hP hK
  obtain ⟨rfl, hZ, hh⟩ := hP
  have X0 : Stand p l e room_1 s m #[(.int x0), (.long x1), (.long x3), (.long x5), (.long x7)] below meth c s₁ [] 0 0 := Stand.of_body Bd
  have e0 : s₁.heap = h0 := by rw [← hh, Bd.state]; rfl
  exact OwnOut.at (ef0 m x0 x1 x3 x5 x7) (w0_0 ⟨Bd.exec, hZ, hw, Bd.bytes, hml0, findClass_of_methodNamed Bd.named, Bd.returns, Bd.notSynchronized, (name_of_methodNamed Bd.named Bd.method).1⟩ _ _ _ x0 x1 x3 x5 x7 o hr X0 e0 (Fr.nil n0) O0 (Keep.refl _ _) )
def own_bef (t : Int64) (c : Int32) (t' : Int64) (c' : Int32) : Bool := decide (t < t') || (decide (t = t') && decide (c < c'))
theorem own_bt (t : Int64) (c : Int32) (t' : Int64) (c' : Int32) : own_bef t c t' c' = true ↔ t.toInt < t'.toInt ∨ (t.toInt = t'.toInt ∧ c.toInt < c'.toInt) := by
  simp [own_bef, Int64.lt_iff_toInt_lt, Int32.lt_iff_toInt_lt, ← Int64.toInt_inj]
theorem own_bF (t : Int64) (c : Int32) (t' : Int64) (c' : Int32) : own_bef t c t' c' = false ↔ ¬ (t.toInt < t'.toInt ∨ (t.toInt = t'.toInt ∧ c.toInt < c'.toInt)) := by
  rw [← own_bt]; simp
theorem own_f10 {α : Type} (t : Int64) (c : Int32) (t' : Int64) (c' : Int32) (g : Int32 → Option α) : (f10 t c t' c').bind g = if own_bef t c t' c' = true then g 1 else g 0 := by
  unfold f10 own_bef
  by_cases h1 : t < t'
  · simp [h1]
  by_cases h2 : t = t'
  · by_cases h3 : c < c'
    · simp [h1, h2, h3]
    · simp [h1, h2, h3]
  · simp [h1, h2]
theorem own_l1 {α : Type} {xs : List α} (h : xs.length = 1) : ∃ a, xs = [a] := match xs, h with | [a], _ => ⟨a, rfl⟩
theorem own_l2 {α : Type} {xs : List α} (h : xs.length = 2) : ∃ a b, xs = [a, b] := match xs, h with | [a, b], _ => ⟨a, b, rfl⟩
theorem own_l3 {α : Type} {xs : List α} (h : xs.length = 3) : ∃ a b c, xs = [a, b, c] := match xs, h with | [a, b, c], _ => ⟨a, b, c, rfl⟩
theorem own_l4 {α : Type} {xs : List α} (h : xs.length = 4) : ∃ a b c d, xs = [a, b, c, d] := match xs, h with | [a, b, c, d], _ => ⟨a, b, c, d, rfl⟩
/-- not later -/
def own_le (p q : Int64 × Int32) : Prop := own_bef q.1 q.2 p.1 p.2 = false
theorem own_letr {p q r : Int64 × Int32} (h1 : own_le p q) (h2 : own_le q r) : own_le p r := by
  unfold own_le at *
  rw [own_bF] at *
  omega
theorem own_lerefl (p : Int64 × Int32) : own_le p p := by unfold own_le; rw [own_bF]; omega
def own_tail : List (Int64 × Int32) → Prop
  | [_, p1, _, p3] => own_le p1 p3
  | _ => True
def own_heap : List (Int64 × Int32) → Prop
  | [_] => True
  | [p0, p1] => own_le p0 p1
  | [p0, p1, p2] => own_le p0 p1 ∧ own_le p0 p2
  | [p0, p1, p2, p3] => own_le p0 p1 ∧ own_le p0 p2 ∧ own_le p1 p3
  | _ => False
theorem own_ht {L : List (Int64 × Int32)} (h : own_heap L) : own_tail L := by
  match L, h with
  | [_], _ => trivial
  | [_, _], _ => trivial
  | [_, _, _], _ => trivial
  | [_, _, _, _], h => exact h.2.2
theorem own_min {p : Int64 × Int32} {L : List (Int64 × Int32)} (h : own_heap (p :: L)) : ∀ q ∈ p :: L, own_le p q := by
  intro q hq
  rcases L with _ | ⟨a, _ | ⟨b, _ | ⟨c, _ | ⟨d, L⟩⟩⟩⟩
  · simp at hq; subst hq; exact own_lerefl _
  · simp at hq
    rcases hq with rfl | rfl
    · exact own_lerefl _
    · exact h
  · simp at hq
    rcases hq with rfl | rfl | rfl
    · exact own_lerefl _
    · exact h.1
    · exact h.2
  · simp at hq
    rcases hq with rfl | rfl | rfl | rfl
    · exact own_lerefl _
    · exact h.1
    · exact h.2.1
    · exact own_letr h.1 h.2.2
  · exact absurd h (by simp [own_heap])
theorem own_tl {p q : Int64 × Int32} {L : List (Int64 × Int32)} (h : own_tail (p :: L)) : own_tail (q :: L) := by
  match L, h with
  | [], _ => trivial
  | [_], _ => trivial
  | [_, _], _ => trivial
  | [_, _, _], h => exact h
  | _ :: _ :: _ :: _ :: _, _ => trivial
def own_Sift (n : Nat) (N : Int32) : Prop := ∀ (ts : List Int64) (cs : List Int32), ts.length = n → cs.length = n → own_tail (ts.zip cs) → ∃ ts' cs', f7 N ts cs = some (ts', cs') ∧ ts'.length = n ∧ cs'.length = n ∧ own_heap (ts'.zip cs') ∧ (ts'.zip cs').Perm (ts.zip cs)
theorem own_sift1 : own_Sift 1 1 := by
  intro ts cs h1 h2 _
  obtain ⟨t0, rfl⟩ := own_l1 h1
  obtain ⟨c0, rfl⟩ := own_l1 h2
  exact ⟨[t0], [c0], by simp [f7, f7_20, f7_149, ldx, stx], rfl, rfl, trivial, List.Perm.refl _⟩
set_option maxHeartbeats 2000000 in
theorem own_sift2 : own_Sift 2 2 := by
  intro ts cs h1 h2 _
  obtain ⟨t0, t1, rfl⟩ := own_l2 h1
  obtain ⟨c0, c1, rfl⟩ := own_l2 h2
  by_cases b1 : own_bef t1 c1 t0 c0 = true
  · exact ⟨[t1, t0], [c1, c0], by simp [f7, f7_20, f7_149, own_f10, ldx, stx, b1], rfl, rfl, (by show own_bef t0 c0 t1 c1 = false; rw [own_bt] at b1; rw [own_bF]; omega), List.Perm.swap _ _ _⟩
  · exact ⟨[t0, t1], [c0, c1], by simp [f7, f7_20, f7_149, own_f10, ldx, stx, b1], rfl, rfl, (by show own_bef t1 c1 t0 c0 = false; simpa using b1), List.Perm.refl _⟩
theorem own_p1 {α : Type} (a b c : α) (l : List α) : (c :: b :: a :: l).Perm (a :: b :: c :: l) := ((List.Perm.swap b c _).trans ((List.Perm.swap a c _).cons b)).trans (List.Perm.swap a b _)
theorem own_p3 {α : Type} (a b c d : α) : [b, d, c, a].Perm [a, b, c, d] := ((own_p1 a c d []).cons b).trans (List.Perm.swap a b _)
set_option maxHeartbeats 4000000 in
theorem own_sift3 : own_Sift 3 3 := by
  intro ts cs h1 h2 _
  obtain ⟨t0, t1, t2, rfl⟩ := own_l3 h1
  obtain ⟨c0, c1, c2, rfl⟩ := own_l3 h2
  by_cases b0 : own_bef t2 c2 t1 c1 = true
  · by_cases b1 : own_bef t2 c2 t0 c0 = true
    · exact ⟨[t2, t1, t0], [c2, c1, c0], by simp [f7, f7_20, f7_149, own_f10, ldx, stx, b0, b1], rfl, rfl, (by rw [own_bt] at b0 b1; refine ⟨?_, ?_⟩ <;> (unfold own_le; rw [own_bF]; dsimp only; omega)), own_p1 _ _ _ _⟩
    · exact ⟨[t0, t1, t2], [c0, c1, c2], by simp [f7, f7_20, f7_149, own_f10, ldx, stx, b0, b1], rfl, rfl, (by rw [own_bt] at b0 b1; refine ⟨?_, ?_⟩ <;> (unfold own_le; rw [own_bF]; dsimp only; omega)), List.Perm.refl _⟩
  · by_cases b1 : own_bef t1 c1 t0 c0 = true
    · exact ⟨[t1, t0, t2], [c1, c0, c2], by simp [f7, f7_20, f7_149, own_f10, ldx, stx, b0, b1], rfl, rfl, (by rw [own_bt] at b0 b1; refine ⟨?_, ?_⟩ <;> (unfold own_le; rw [own_bF]; dsimp only; omega)), List.Perm.swap _ _ _⟩
    · exact ⟨[t0, t1, t2], [c0, c1, c2], by simp [f7, f7_20, f7_149, own_f10, ldx, stx, b0, b1], rfl, rfl, (by rw [own_bt] at b0 b1; refine ⟨?_, ?_⟩ <;> (unfold own_le; rw [own_bF]; dsimp only; omega)), List.Perm.refl _⟩
set_option maxHeartbeats 8000000 in
theorem own_sift4 : own_Sift 4 4 := by
  intro ts cs h1 h2 h3
  obtain ⟨t0, t1, t2, t3, rfl⟩ := own_l4 h1
  obtain ⟨c0, c1, c2, c3, rfl⟩ := own_l4 h2
  have h3' : own_bef t3 c3 t1 c1 = false := h3
  rw [own_bF] at h3'
  by_cases b0 : own_bef t2 c2 t1 c1 = true
  · by_cases b1 : own_bef t2 c2 t0 c0 = true
    · exact ⟨[t2, t1, t0, t3], [c2, c1, c0, c3], by simp [f7, f7_20, f7_149, own_f10, ldx, stx, b0, b1], rfl, rfl, (by rw [own_bt] at b0 b1; refine ⟨?_, ?_, ?_⟩ <;> (unfold own_le; rw [own_bF]; dsimp only; omega)), own_p1 _ _ _ _⟩
    · exact ⟨[t0, t1, t2, t3], [c0, c1, c2, c3], by simp [f7, f7_20, f7_149, own_f10, ldx, stx, b0, b1], rfl, rfl, (by rw [own_bt] at b0 b1; refine ⟨?_, ?_, ?_⟩ <;> (unfold own_le; rw [own_bF]; dsimp only; omega)), List.Perm.refl _⟩
  · by_cases b1 : own_bef t1 c1 t0 c0 = true
    · by_cases b2 : own_bef t3 c3 t0 c0 = true
      · exact ⟨[t1, t3, t2, t0], [c1, c3, c2, c0], by simp [f7, f7_20, f7_149, own_f10, ldx, stx, b0, b1, b2], rfl, rfl, (by rw [own_bt] at b0 b1 b2; refine ⟨?_, ?_, ?_⟩ <;> (unfold own_le; rw [own_bF]; dsimp only; omega)), own_p3 _ _ _ _⟩
      · exact ⟨[t1, t0, t2, t3], [c1, c0, c2, c3], by simp [f7, f7_20, f7_149, own_f10, ldx, stx, b0, b1, b2], rfl, rfl, (by rw [own_bt] at b0 b1 b2; refine ⟨?_, ?_, ?_⟩ <;> (unfold own_le; rw [own_bF]; dsimp only; omega)), List.Perm.swap _ _ _⟩
    · exact ⟨[t0, t1, t2, t3], [c0, c1, c2, c3], by simp [f7, f7_20, f7_149, own_f10, ldx, stx, b0, b1], rfl, rfl, (by rw [own_bt] at b0 b1; refine ⟨?_, ?_, ?_⟩ <;> (unfold own_le; rw [own_bF]; dsimp only; omega)), List.Perm.refl _⟩
def own_ids : Nat → List Int32
  | 1 => [0]
  | 2 => [0, 1]
  | 3 => [0, 1, 2]
  | _ => [0, 1, 2, 3]
def own_First (n : Nat) (N : Int32) : Prop := ∀ (ms : List Int64), ms.length = 4 → ∀ (c : Int32) (t : Int64), c ∈ own_ids n → ldx ms c = some t → (∀ k ∈ own_ids n, ∀ v, ldx ms k = some v → own_bef v k t c = false) → f4 N ms = some c
set_option maxHeartbeats 4000000 in
theorem own_first1 : own_First 1 1 := by
  intro ms hl c t hc ht hm
  obtain ⟨m0, m1, m2, m3, rfl⟩ := own_l4 hl
  have q0 := hm 0 (by simp [own_ids]) m0 rfl
  rw [own_bF] at q0
  clear hm
  have w0 : (0 : Int32).toInt = 0 := by decide
  have w1 : (1 : Int32).toInt = 1 := by decide
  have w2 : (2 : Int32).toInt = 2 := by decide
  have w3 : (3 : Int32).toInt = 3 := by decide
  simp only [own_ids, List.mem_cons, List.not_mem_nil, or_false] at hc
  subst hc
  obtain rfl : m0 = t := Option.some.inj ht
  simp [f4, f4_19, f4_36, ldx]
set_option maxHeartbeats 4000000 in
theorem own_first2 : own_First 2 2 := by
  intro ms hl c t hc ht hm
  obtain ⟨m0, m1, m2, m3, rfl⟩ := own_l4 hl
  have q0 := hm 0 (by simp [own_ids]) m0 rfl
  have q1 := hm 1 (by simp [own_ids]) m1 rfl
  rw [own_bF] at q0 q1
  clear hm
  have w0 : (0 : Int32).toInt = 0 := by decide
  have w1 : (1 : Int32).toInt = 1 := by decide
  have w2 : (2 : Int32).toInt = 2 := by decide
  have w3 : (3 : Int32).toInt = 3 := by decide
  simp only [own_ids, List.mem_cons, List.not_mem_nil, or_false] at hc
  rcases hc with rfl | rfl
  · obtain rfl : m0 = t := Option.some.inj ht
    simp [f4, f4_19, f4_36, ldx, Int64.lt_iff_toInt_lt]
    repeat' split
    all_goals first | rfl | (exfalso; omega) | omega
  · obtain rfl : m1 = t := Option.some.inj ht
    simp [f4, f4_19, f4_36, ldx, Int64.lt_iff_toInt_lt]
    repeat' split
    all_goals first | rfl | (exfalso; omega) | omega
set_option maxHeartbeats 4000000 in
theorem own_first3 : own_First 3 3 := by
  intro ms hl c t hc ht hm
  obtain ⟨m0, m1, m2, m3, rfl⟩ := own_l4 hl
  have q0 := hm 0 (by simp [own_ids]) m0 rfl
  have q1 := hm 1 (by simp [own_ids]) m1 rfl
  have q2 := hm 2 (by simp [own_ids]) m2 rfl
  rw [own_bF] at q0 q1 q2
  clear hm
  have w0 : (0 : Int32).toInt = 0 := by decide
  have w1 : (1 : Int32).toInt = 1 := by decide
  have w2 : (2 : Int32).toInt = 2 := by decide
  have w3 : (3 : Int32).toInt = 3 := by decide
  simp only [own_ids, List.mem_cons, List.not_mem_nil, or_false] at hc
  rcases hc with rfl | rfl | rfl
  · obtain rfl : m0 = t := Option.some.inj ht
    simp [f4, f4_19, f4_36, ldx, Int64.lt_iff_toInt_lt]
    repeat' split
    all_goals first | rfl | (exfalso; omega) | omega
  · obtain rfl : m1 = t := Option.some.inj ht
    simp [f4, f4_19, f4_36, ldx, Int64.lt_iff_toInt_lt]
    repeat' split
    all_goals first | rfl | (exfalso; omega) | omega
  · obtain rfl : m2 = t := Option.some.inj ht
    simp [f4, f4_19, f4_36, ldx, Int64.lt_iff_toInt_lt]
    repeat' split
    all_goals first | rfl | (exfalso; omega) | omega
set_option maxHeartbeats 4000000 in
theorem own_first4 : own_First 4 4 := by
  intro ms hl c t hc ht hm
  obtain ⟨m0, m1, m2, m3, rfl⟩ := own_l4 hl
  have q0 := hm 0 (by simp [own_ids]) m0 rfl
  have q1 := hm 1 (by simp [own_ids]) m1 rfl
  have q2 := hm 2 (by simp [own_ids]) m2 rfl
  have q3 := hm 3 (by simp [own_ids]) m3 rfl
  rw [own_bF] at q0 q1 q2 q3
  clear hm
  have w0 : (0 : Int32).toInt = 0 := by decide
  have w1 : (1 : Int32).toInt = 1 := by decide
  have w2 : (2 : Int32).toInt = 2 := by decide
  have w3 : (3 : Int32).toInt = 3 := by decide
  simp only [own_ids, List.mem_cons, List.not_mem_nil, or_false] at hc
  rcases hc with rfl | rfl | rfl | rfl
  · obtain rfl : m0 = t := Option.some.inj ht
    simp [f4, f4_19, f4_36, ldx, Int64.lt_iff_toInt_lt]
    repeat' split
    all_goals first | rfl | (exfalso; omega) | omega
  · obtain rfl : m1 = t := Option.some.inj ht
    simp [f4, f4_19, f4_36, ldx, Int64.lt_iff_toInt_lt]
    repeat' split
    all_goals first | rfl | (exfalso; omega) | omega
  · obtain rfl : m2 = t := Option.some.inj ht
    simp [f4, f4_19, f4_36, ldx, Int64.lt_iff_toInt_lt]
    repeat' split
    all_goals first | rfl | (exfalso; omega) | omega
  · obtain rfl : m3 = t := Option.some.inj ht
    simp [f4, f4_19, f4_36, ldx, Int64.lt_iff_toInt_lt]
    repeat' split
    all_goals first | rfl | (exfalso; omega) | omega
theorem own_st {α : Type} {xs : List α} {j : Int32} {t v : α} (h : ldx xs j = some t) : ∃ ys, stx xs j v = some ys ∧ ys.length = xs.length ∧ ldx ys j = some v ∧ ∀ k, k ≠ j → ldx ys k = ldx xs k := by
  unfold ldx at h
  by_cases hj : j < 0
  · rw [if_pos hj] at h; cases h
  rw [if_neg hj] at h
  have hlt : j.toNatClampNeg < xs.length := by
    rw [List.getElem?_eq_some_iff] at h
    exact h.1
  refine ⟨xs.set j.toNatClampNeg v, ?_, by simp, ?_, ?_⟩
  · unfold stx; rw [if_neg hj, if_neg (by omega)]
  · unfold ldx; rw [if_neg hj]; simp [hlt]
  · intro k hk
    unfold ldx
    by_cases hk0 : k < 0
    · rw [if_pos hk0, if_pos hk0]
    · rw [if_neg hk0, if_neg hk0, List.getElem?_set_ne]
      intro e
      apply hk
      rw [Int32.lt_iff_toInt_lt] at hj hk0
      have z : (0 : Int32).toInt = 0 := by decide
      have e' : j.toInt.toNat = k.toInt.toNat := e
      exact Int32.toInt_inj.mp (by omega)
def own_inv (n : Nat) (ts : List Int64) (cs : List Int32) (ms : List Int64) : Prop := ts.length = n ∧ cs.length = n ∧ ms.length = 4 ∧ own_heap (ts.zip cs) ∧ ((ts.zip cs).map Prod.snd).Perm (own_ids n) ∧ ∀ p ∈ ts.zip cs, ldx ms p.2 = some p.1
theorem own_nd (n : Nat) : (own_ids n).Nodup := by
  unfold own_ids
  split <;> decide
theorem own_root {n : Nat} {N : Int32} (hF : own_First n N) {t : Int64} {c : Int32} {tr : List Int64} {cr : List Int32} {ms : List Int64} (h : own_inv n (t :: tr) (c :: cr) ms) : f4 N ms = some c ∧ ldx ms c = some t := by
  obtain ⟨h1, h2, h3, h4, h5, h6⟩ := h
  have e : (t :: tr).zip (c :: cr) = (t, c) :: tr.zip cr := rfl
  rw [e] at h4 h5 h6
  have q := h6 (t, c) (by simp)
  refine ⟨hF ms h3 c t (h5.mem_iff.mp (by simp)) q ?_, q⟩
  intro k hk v hv
  obtain ⟨p, hp, rfl⟩ := List.mem_map.mp (h5.mem_iff.mpr hk)
  have r := h6 p hp
  rw [hv] at r
  obtain rfl := Option.some.inj r
  exact own_min h4 p hp
theorem own_step {n : Nat} {N : Int32} (hn : 0 < n) (hS : own_Sift n N) (hF : own_First n N) (x : Int64) {ts : List Int64} {cs : List Int32} {ms : List Int64} (h : own_inv n ts cs ms) :
    ∃ ts' cs' ms', f3 N x N ts cs ms = some (1, ts', cs', ms') ∧ own_inv n ts' cs' ms' := by
  obtain ⟨t, tr, rfl⟩ : ∃ t tr, ts = t :: tr := by
    cases ts with
    | nil => have := h.1; simp at this; omega
    | cons a b => exact ⟨a, b, rfl⟩
  obtain ⟨c, cr, rfl⟩ : ∃ t tr, cs = t :: tr := by
    cases cs with
    | nil => have := h.2.1; simp at this; omega
    | cons a b => exact ⟨a, b, rfl⟩
  obtain ⟨r1, r2⟩ := own_root hF h
  obtain ⟨w, hw⟩ : ∃ w, f5 t x = some w := by unfold f5; split <;> exact ⟨_, rfl⟩
  obtain ⟨h1, h2, h3, h4, h5, h6⟩ := h
  have e : (t :: tr).zip (c :: cr) = (t, c) :: tr.zip cr := rfl
  rw [e] at h4 h5 h6
  obtain ⟨ts', cs', s1, s2, s3, s4, s5⟩ := hS (w :: tr) (c :: cr) h1 h2 (own_tl (own_ht h4))
  have e' : (w :: tr).zip (c :: cr) = (w, c) :: tr.zip cr := rfl
  rw [e'] at s5
  obtain ⟨ms', m1, m2, m3, m4⟩ := own_st (v := w) r2
  have hnd : ((tr.zip cr).map Prod.snd).Nodup ∧ c ∉ (tr.zip cr).map Prod.snd := by
    have := h5.nodup_iff.mpr (own_nd n)
    rw [List.map_cons, List.nodup_cons] at this
    exact ⟨this.2, this.1⟩
  have inv' : own_inv n ts' cs' ms' := by
    refine ⟨s2, s3, by rw [m2]; exact h3, s4, ?_, ?_⟩
    · refine (s5.map Prod.snd).trans ?_
      exact h5
    · intro p hp
      have hp' := s5.mem_iff.mp hp
      rcases List.mem_cons.mp hp' with rfl | hq
      · exact m3
      · rw [m4 _ (fun z => hnd.2 (z ▸ List.mem_map_of_mem hq))]
        exact h6 p (List.mem_cons_of_mem _ hq)
  refine ⟨ts', cs', ms', ?_, inv'⟩
  obtain ⟨t', tr', rfl⟩ : ∃ t tr, ts' = t :: tr := by
    cases ts' with
    | nil => simp at s2; omega
    | cons a b => exact ⟨a, b, rfl⟩
  obtain ⟨c', cr', rfl⟩ : ∃ t tr, cs' = t :: tr := by
    cases cs' with
    | nil => simp at s3; omega
    | cons a b => exact ⟨a, b, rfl⟩
  obtain ⟨r3, r4⟩ := own_root hF inv'
  have a1 : stx (t :: tr) (0 : Int32) w = some (w :: tr) := by simp [stx]
  have a2 : ldx (c' :: cr') (0 : Int32) = some c' := by simp [ldx]
  simp only [f3, r1, r2, hw, Option.bind_some, f6, a1, s1, m1, f8, a2, r3, if_true]
theorem own_end {n : Nat} {N : Int32} (hn : 0 < n) (hF : own_First n N) {ts : List Int64} {cs : List Int32} {ms : List Int64} (h : own_inv n ts cs ms) :
    ∃ c t, f4 N ms = some c ∧ ldx ms c = some t ∧ f9 N ts cs = some t := by
  obtain ⟨t, tr, rfl⟩ : ∃ t tr, ts = t :: tr := by
    cases ts with
    | nil => have := h.1; simp at this; omega
    | cons a b => exact ⟨a, b, rfl⟩
  obtain ⟨c, cr, rfl⟩ : ∃ t tr, cs = t :: tr := by
    cases cs with
    | nil => have := h.2.1; simp at this; omega
    | cons a b => exact ⟨a, b, rfl⟩
  obtain ⟨r1, r2⟩ := own_root hF h
  exact ⟨c, t, r1, r2, by simp [f9, ldx]⟩
theorem own_law {n : Nat} {N : Int32} (hn : 0 < n) (hS : own_Sift n N) (hF : own_First n N) {ts : List Int64} {cs : List Int32} (hi : f1 N 0 = some (N, ts, cs)) (h0 : own_inv n ts cs [0, 0, 0, 0]) (x0 : Int32) (hx : 1 + (x0 &&& 3) = N) (a b c d : Int64) : f0 x0 a b c d = some 1 := by
  unfold f0
  rw [hx, hi]
  obtain ⟨t1, c1, m1, e1, i1⟩ := own_step hn hS hF a h0
  obtain ⟨t2, c2, m2, e2, i2⟩ := own_step hn hS hF b i1
  obtain ⟨t3, c3, m3, e3, i3⟩ := own_step hn hS hF c i2
  obtain ⟨t4, c4, m4, e4, i4⟩ := own_step hn hS hF d i3
  obtain ⟨k, t, e5, e6, e7⟩ := own_end hn hF i4
  simp only [Option.bind_some, e1, e2, e3, e4, e5, e6, e7, if_true]
  rw [if_neg (by decide)]
theorem law_ok (x : Int32) (a b c d : Int64) : f0 x a b c d = some 1 := by
  have e1 : (x &&& 3).toInt = x.toInt % (2 ^ 2 : Nat) := c_mask x 3 2 (by decide) (by decide)
  have hc : (x &&& 3) = 0 ∨ (x &&& 3) = 1 ∨ (x &&& 3) = 2 ∨ (x &&& 3) = 3 := by
    simp only [← Int32.toInt_inj, Int32.reduceToInt]; omega
  have z : ∀ c c' : Int32, own_bef 0 c 0 c' = decide (c < c') := by intro c c'; simp [own_bef]
  rcases hc with h | h | h | h
  · exact own_law (by decide) own_sift1 own_first1 (ts := [0]) (cs := [0]) (by decide +kernel) ⟨rfl, rfl, rfl, trivial, List.Perm.refl _, by simp [ldx]⟩ x (by rw [h]; decide) a b c d
  · exact own_law (by decide) own_sift2 own_first2 (ts := [0, 0]) (cs := [0, 1]) (by decide +kernel) ⟨rfl, rfl, rfl, by simp [own_heap, own_le, z], List.Perm.refl _, by simp [ldx]⟩ x (by rw [h]; decide) a b c d
  · exact own_law (by decide) own_sift3 own_first3 (ts := [0, 0, 0]) (cs := [0, 1, 2]) (by decide +kernel) ⟨rfl, rfl, rfl, by simp [own_heap, own_le, z], List.Perm.refl _, by simp [ldx]⟩ x (by rw [h]; decide) a b c d
  · exact own_law (by decide) own_sift4 own_first4 (ts := [0, 0, 0, 0]) (cs := [0, 1, 2, 3]) (by decide +kernel) ⟨rfl, rfl, rfl, by simp [own_heap, own_le, z], List.Perm.refl _, by simp [ldx]⟩ x (by rw [h]; decide) a b c d
set_option maxRecDepth 65536 in
set_option maxHeartbeats 40000000 in
theorem comes_1 {Post : Tables → Env → Array Value → State → Outcome → State → Prop} (hpost : ∀ tb e args s v u, (limb_1_1.after args s (.returned v) u = true ∧ limb_1_2.after args s (.returned v) u = true ∧ True) → FrameEnd s (.returned v) u (Jvm.fieldLocs frame_1_writes args s ++ Jvm.arrayLocs frame_1_arrays args s ++ Jvm.staticLocs frame_1_statics s) 16 128 → Post tb e args s (.returned v) u) :
    ArmFor flags0 classFile x code maxLocals ret World_1 tables_1 room_1 Calls_1 rest_1 Pre_1 Post := by
  intro l hfl _ _ p e ha hc hk s m args below hf hA hF happ hP
  obtain ⟨hcalls, hrest, hpre⟩ := hP
  obtain ⟨-, -, -, hnamed, -, -, -, hat⟩ := (Spec.applies_iff hf).mp happ
  obtain ⟨hg, hn⟩ := and_e (Cond.before_iff.mp (show (Jvm.Cond.and given_1 narrow_1).before args s = true from hpre))
  obtain ⟨g1, g2⟩ := and_e hg
  obtain ⟨g3, g4⟩ := and_e g2
  obtain ⟨g5, g6⟩ := and_e g4
  obtain ⟨g7, g8⟩ := and_e g6
  obtain ⟨g9, g10⟩ := and_e g8
  obtain ⟨w0, w1, w2, w3, w4, rfl⟩ : ∃ w0 w1 w2 w3 w4 : Value, args = #[w0, w1, w2, w3, w4] := by
    have hs : args.size = 5 := by simpa [Cond.value, given_1] using g1
    obtain ⟨L⟩ := args
    match L, hs with
    | [w0, w1, w2, w3, w4], _ => exact ⟨w0, w1, w2, w3, w4, rfl⟩
  have hw := fun d (hd : d ∈ tables_1) => atoms_spec (ws := Jvm.Cond.code x code maxLocals ret :: tables_1) hat d (List.mem_cons_of_mem _ hd)
  obtain ⟨i0, ei0⟩ := is_v g3
  obtain rfl : w0 = (.int i0) := Option.some.inj ei0
  obtain ⟨i1, ei1⟩ := isL_v g5
  obtain rfl : w1 = (.long i1) := Option.some.inj ei1
  obtain ⟨i2, ei2⟩ := isL_v g7
  obtain rfl : w2 = (.long i2) := Option.some.inj ei2
  obtain ⟨i3, ei3⟩ := isL_v g9
  obtain rfl : w3 = (.long i3) := Option.some.inj ei3
  obtain ⟨i4, ei4⟩ := isL_v g10
  obtain rfl : w4 = (.long i4) := Option.some.inj ei4
  obtain ⟨n, o, h1, h2, h3, _, L, rfl, ⟨rfl, N⟩, hq⟩ := rm0 l s _ hw tables_1 i0 i1 i2 i3 i4 s.heap s.heap.size 1 (law_ok i0 i1 i2 i3 i4) (Old.start s) p e ha hc hk s m _ below hf ((Spec.applies_iff_loose hf).mp happ).1 ⟨rfl, State.Warmed39.refl s, rfl⟩ trivial
  have hv : (1 : Int32) = 1 := rfl
  refine ⟨n, _, h1, h2, h3, hpost _ _ _ _ _ _ ⟨Cond.after_iff.mpr rfl, Cond.after_iff.mpr (eq_i res_at (Term.int_eval (1)) (congrArg Value.int hv)), trivial⟩ ⟨hq.1, hq.2.1, (hq.2.2.sift fun y hy => Or.inr (N y hy)).mono (by decide) (by decide)⟩⟩
theorem main_1_1 : Claimed_1_1 := comes_1 fun _ _ _ _ _ _ h hF => ⟨h.1, hF⟩
theorem main_1_2 : Claimed_1_2 := comes_1 fun _ _ _ _ _ _ h hF => ⟨h.2.1, hF⟩
end Jvm.Pilot.@@N@@
namespace Jvm.Pilot.@@N@@
open Jvm Jvm.ClassFile Sem Op Lib Jvm.Free Jvm.Stand Jvm.Pilot.@@N@@.Jvm.D
/-! MADE BY PROGRAM (witnessworld.py) out of the Statement's table words and the real class files: 12 classes; the members and pool entries that the words name. The judged class is class 1, her method 1. -/
namespace start1
open Jvm.ClassFile
def u (s : String) : CpInfo := .utf8 (stringToUtf16 s)
/-- a pool by its gaps: so many unusable entries, then the entry; so many at the end -/
def gap : Nat → List CpInfo → List CpInfo
  | 0, r => r
  | n + 1, r => .unusable :: gap n r
def poolList (es : List (Nat × CpInfo)) (last : Nat) : List CpInfo := es.foldr (fun e r => gap e.1 (e.2 :: r)) (gap last [])
def pool (es : List (Nat × CpInfo)) (last : Nat) : Array CpInfo := ⟨poolList es last⟩
def fileOf (pool : Array CpInfo) (this : Nat) (attrs : Array Attribute := #[]) (ms : Array MethodInfo := #[]) (fl : Nat := 33) (sup : Nat := 0) (ifs : Array Nat := #[]) (fds : Array FieldInfo := #[]) : ClassFile where
  minorVersion := 0
  majorVersion := 65
  constantPool := pool
  accessFlags := fl
  thisClass := this
  superClass := sup
  interfaces := ifs
  fields := fds
  methods := ms
  attributes := attrs
def plain (name : String) (sup : Option ClassId) : Class where
  name := name
  kind := .ordinary
  loader := none
  accessFlags := 33
  super := sup
  interfaces := #[]
  cf := none
  fields := #[]
  methods := #[]
  instanceTypes := #[]
  staticTypes := #[]
  resolved := #[]
  callSites := []
  init := .initialized
  statics := none
  mirror := none

def pool0 : Array CpInfo := pool [(5, u "<init>"), (0, u "()V"), (1, .class_ 10), (1, u "java/lang/Object")] 113

def k0c0 : Code := { maxStack := 0, maxLocals := 1, code := object_method_1_code, exceptionTable := #[], attributes := #[] }
def k0m0 : Method := { name := "<init>", desc := "()V", sig := { parameters := [], returnType := none }, accessFlags := 1, code := some k0c0 }
/-- java/lang/Object -/
def k0 : Class := { plain "java/lang/Object" none with
  accessFlags := 33
  interfaces := #[]
  cf := some (fileOf pool0 8 #[] #[{ accessFlags := 1, nameIndex := 5, descriptorIndex := 6, attributes := #[] }] 33 0 #[] #[])
  fields := #[]
  methods := #[k0m0]
  instanceTypes := #[]
  staticTypes := #[]
  resolved := Array.replicate 124 none
  statics := none }

def pool1 : Array CpInfo := pool [(2, .class_ 4), (1, u "java/lang/Object"), (0, u "<init>"), (0, u "()V"), (0, .class_ 8), (0, u "com/example/porter_drive/porterdrive/RequestQueue"), (0, .methodref 7 10), (0, .nameAndType 5 11), (0, u "(I)V"), (0, .methodref 13 14), (0, .class_ 15), (0, .nameAndType 16 17), (0, u "com/example/porter_drive/porterdrive/RequestQueueDelayFirstPinLaw"), (0, u "step"), (0, u "(Lcom/example/porter_drive/porterdrive/RequestQueue;[JIJ)Z"), (0, .methodref 13 19), (0, .nameAndType 20 21), (0, u "first"), (0, u "([JI)I"), (0, .methodref 7 23), (0, .nameAndType 24 25), (0, u "firstTime"), (0, u "()J"), (0, .methodref 27 28), (0, .class_ 29), (0, .nameAndType 30 31), (0, u "java/lang/Math"), (0, u "max"), (0, u "(JJ)J"), (0, .methodref 7 33), (0, .nameAndType 34 35), (0, u "delayFirst"), (0, u "(J)V"), (0, .methodref 7 37), (0, .nameAndType 38 39), (0, u "firstClient"), (0, u "()I"), (2, u "law"), (0, u "(IJJJJ)Z")] 5

def k1m0 : Method := { name := "<init>", desc := "()V", sig := { parameters := [], returnType := none }, accessFlags := 1, code := none }
def k1c1 : Code := { maxStack := 6, maxLocals := 14, code := code, exceptionTable := #[], attributes := #[] }
def k1m1 : Method := { name := "law", desc := "(IJJJJ)Z", sig := { parameters := [.int, .long, .long, .long, .long], returnType := some .boolean }, accessFlags := 9, code := some k1c1 }
def k1c2 : Code := { maxStack := 4, maxLocals := 8, code := method_3_code, exceptionTable := #[], attributes := #[] }
def k1m2 : Method := { name := "step", desc := "(Lcom/example/porter_drive/porterdrive/RequestQueue;[JIJ)Z", sig := { parameters := [(.object "com/example/porter_drive/porterdrive/RequestQueue"), (.array .long), .int, .long], returnType := some .boolean }, accessFlags := 10, code := some k1c2 }
def k1c3 : Code := { maxStack := 4, maxLocals := 3, code := method_4_code, exceptionTable := #[], attributes := #[] }
def k1m3 : Method := { name := "first", desc := "([JI)I", sig := { parameters := [(.array .long), .int], returnType := some .int }, accessFlags := 10, code := some k1c3 }
/-- com/example/porter_drive/porterdrive/RequestQueueDelayFirstPinLaw -/
def k1 : Class := { plain "com/example/porter_drive/porterdrive/RequestQueueDelayFirstPinLaw" (some 0) with
  accessFlags := 49
  interfaces := #[]
  cf := some (fileOf pool1 13 #[] #[{ accessFlags := 1, nameIndex := 5, descriptorIndex := 6, attributes := #[] }, { accessFlags := 9, nameIndex := 42, descriptorIndex := 43, attributes := #[] }, { accessFlags := 10, nameIndex := 16, descriptorIndex := 17, attributes := #[] }, { accessFlags := 10, nameIndex := 20, descriptorIndex := 21, attributes := #[] }] 49 2 #[] #[])
  fields := #[]
  methods := #[k1m0, k1m1, k1m2, k1m3]
  instanceTypes := #[]
  staticTypes := #[]
  resolved := Array.replicate 49 none
  statics := none }

def pool2 : Array CpInfo := pool [(1, .methodref 2 3), (0, .class_ 4), (0, .nameAndType 5 6), (0, u "java/lang/Object"), (0, u "<init>"), (0, u "()V"), (0, .fieldref 8 9), (0, .class_ 10), (0, .nameAndType 11 12), (0, u "com/example/porter_drive/porterdrive/RequestQueue"), (0, u "times"), (0, u "[J"), (0, .fieldref 8 14), (0, .nameAndType 15 16), (0, u "clients"), (0, u "[I"), (0, .fieldref 8 18), (0, .nameAndType 19 20), (0, u "size"), (0, u "I"), (0, .methodref 8 22), (0, .nameAndType 23 6), (0, u "siftDown"), (0, .methodref 8 25), (0, .nameAndType 26 27), (0, u "isBefore"), (0, u "(JIJI)Z"), (0, u "(I)V"), (5, u "firstTime"), (0, u "()J"), (0, u "firstClient"), (0, u "()I"), (1, u "delayFirst"), (0, u "(J)V")] 2

def k2c0 : Code := { maxStack := 3, maxLocals := 3, code := prog_24_method_1_code, exceptionTable := #[], attributes := #[] }
def k2m0 : Method := { name := "<init>", desc := "(I)V", sig := { parameters := [.int], returnType := none }, accessFlags := 0, code := some k2c0 }
def k2c1 : Code := { maxStack := 2, maxLocals := 1, code := prog_24_method_3_code, exceptionTable := #[], attributes := #[] }
def k2m1 : Method := { name := "firstTime", desc := "()J", sig := { parameters := [], returnType := some .long }, accessFlags := 0, code := some k2c1 }
def k2c2 : Code := { maxStack := 2, maxLocals := 1, code := prog_24_method_4_code, exceptionTable := #[], attributes := #[] }
def k2m2 : Method := { name := "firstClient", desc := "()I", sig := { parameters := [], returnType := some .int }, accessFlags := 0, code := some k2c2 }
def k2c3 : Code := { maxStack := 4, maxLocals := 3, code := prog_24_method_6_code, exceptionTable := #[], attributes := #[] }
def k2m3 : Method := { name := "delayFirst", desc := "(J)V", sig := { parameters := [.long], returnType := none }, accessFlags := 0, code := some k2c3 }
def k2c4 : Code := { maxStack := 7, maxLocals := 6, code := prog_24_method_7_code, exceptionTable := #[], attributes := #[] }
def k2m4 : Method := { name := "siftDown", desc := "()V", sig := { parameters := [], returnType := none }, accessFlags := 2, code := some k2c4 }
def k2c5 : Code := { maxStack := 4, maxLocals := 6, code := prog_24_method_8_code, exceptionTable := #[], attributes := #[] }
def k2m5 : Method := { name := "isBefore", desc := "(JIJI)Z", sig := { parameters := [.long, .int, .long, .int], returnType := some .boolean }, accessFlags := 10, code := some k2c5 }
/-- com/example/porter_drive/porterdrive/RequestQueue -/
def k2 : Class := { plain "com/example/porter_drive/porterdrive/RequestQueue" (some 0) with
  accessFlags := 32
  interfaces := #[]
  cf := some (fileOf pool2 8 #[] #[{ accessFlags := 0, nameIndex := 5, descriptorIndex := 28, attributes := #[] }, { accessFlags := 0, nameIndex := 34, descriptorIndex := 35, attributes := #[] }, { accessFlags := 0, nameIndex := 36, descriptorIndex := 37, attributes := #[] }, { accessFlags := 0, nameIndex := 39, descriptorIndex := 40, attributes := #[] }, { accessFlags := 2, nameIndex := 23, descriptorIndex := 6, attributes := #[] }, { accessFlags := 10, nameIndex := 26, descriptorIndex := 27, attributes := #[] }] 32 2 #[] #[{ accessFlags := 18, nameIndex := 11, descriptorIndex := 12, attributes := #[] }, { accessFlags := 18, nameIndex := 15, descriptorIndex := 16, attributes := #[] }, { accessFlags := 2, nameIndex := 19, descriptorIndex := 20, attributes := #[] }])
  fields := #[{ name := "times", type := (.array .long), accessFlags := 18, slot := 0, constantValue := 0 }, { name := "clients", type := (.array .int), accessFlags := 18, slot := 1, constantValue := 0 }, { name := "size", type := .int, accessFlags := 2, slot := 2, constantValue := 0 }]
  methods := #[k2m0, k2m1, k2m2, k2m3, k2m4, k2m5]
  instanceTypes := #[(.array .long), (.array .int), .int]
  staticTypes := #[]
  resolved := Array.replicate 43 none
  statics := none }

def pool3 : Array CpInfo := pool [(1, .class_ 2), (0, u "java/lang/Math"), (1, .class_ 6), (1, u "java/lang/Object"), (0, u "<init>"), (0, u "()V"), (89, .class_ 100), (1, u "java/lang/Math$RandomNumberGeneratorHolder"), (20, u "(JJ)J"), (50, u "negativeZeroFloatBits"), (0, u "J"), (2, u "negativeZeroDoubleBits"), (21, u "max"), (46, u "$assertionsDisabled"), (0, u "Z"), (91, u "twoToTheDoubleScaleDown"), (0, u "D"), (4, u "twoToTheDoubleScaleUp"), (9, u "E"), (3, u "PI"), (2, u "TAU"), (2, u "DEGREES_TO_RADIANS"), (0, u "RADIANS_TO_DEGREES")] 94

def k3m0 : Method := { name := "<init>", desc := "()V", sig := { parameters := [], returnType := none }, accessFlags := 2, code := none }
def k3c1 : Code := { maxStack := 4, maxLocals := 4, code := jdk_29_method_66_code, exceptionTable := #[], attributes := #[] }
def k3m1 : Method := { name := "max", desc := "(JJ)J", sig := { parameters := [.long, .long], returnType := some .long }, accessFlags := 9, code := some k3c1 }
/-- java/lang/Math -/
def k3 : Class := { plain "java/lang/Math" (some 0) with
  accessFlags := 49
  interfaces := #[]
  cf := some (fileOf pool3 1 #[.nestMembers #[98]] #[{ accessFlags := 2, nameIndex := 7, descriptorIndex := 8, attributes := #[] }, { accessFlags := 9, nameIndex := 198, descriptorIndex := 121, attributes := #[] }] 49 4 #[] #[{ accessFlags := 25, nameIndex := 354, descriptorIndex := 339, attributes := #[] }, { accessFlags := 25, nameIndex := 358, descriptorIndex := 339, attributes := #[] }, { accessFlags := 25, nameIndex := 361, descriptorIndex := 339, attributes := #[] }, { accessFlags := 26, nameIndex := 364, descriptorIndex := 339, attributes := #[] }, { accessFlags := 26, nameIndex := 365, descriptorIndex := 339, attributes := #[] }, { accessFlags := 26, nameIndex := 172, descriptorIndex := 173, attributes := #[] }, { accessFlags := 26, nameIndex := 176, descriptorIndex := 173, attributes := #[] }, { accessFlags := 8, nameIndex := 344, descriptorIndex := 339, attributes := #[] }, { accessFlags := 8, nameIndex := 338, descriptorIndex := 339, attributes := #[] }, { accessFlags := 4120, nameIndex := 245, descriptorIndex := 246, attributes := #[] }])
  fields := #[{ name := "E", type := .double, accessFlags := 25, slot := 0, constantValue := 0 }, { name := "PI", type := .double, accessFlags := 25, slot := 1, constantValue := 0 }, { name := "TAU", type := .double, accessFlags := 25, slot := 2, constantValue := 0 }, { name := "DEGREES_TO_RADIANS", type := .double, accessFlags := 26, slot := 3, constantValue := 0 }, { name := "RADIANS_TO_DEGREES", type := .double, accessFlags := 26, slot := 4, constantValue := 0 }, { name := "negativeZeroFloatBits", type := .long, accessFlags := 26, slot := 5, constantValue := 0 }, { name := "negativeZeroDoubleBits", type := .long, accessFlags := 26, slot := 6, constantValue := 0 }, { name := "twoToTheDoubleScaleUp", type := .double, accessFlags := 8, slot := 7, constantValue := 0 }, { name := "twoToTheDoubleScaleDown", type := .double, accessFlags := 8, slot := 8, constantValue := 0 }, { name := "$assertionsDisabled", type := .boolean, accessFlags := 4120, slot := 9, constantValue := 0 }]
  methods := #[k3m0, k3m1]
  instanceTypes := #[]
  staticTypes := #[.double, .double, .double, .double, .double, .long, .long, .double, .double, .boolean]
  resolved := Array.replicate 460 none
  statics := none }

def pool4 : Array CpInfo := pool [(1, u "java/lang/Cloneable"), (0, .class_ 1), (0, u "java/lang/Object"), (0, .class_ 3)] 3

/-- java/lang/Cloneable -/
def k4 : Class := { plain "java/lang/Cloneable" (some 0) with
  accessFlags := 1537
  interfaces := #[]
  cf := some (fileOf pool4 2 #[] #[] 1537 4 #[] #[])
  fields := #[]
  methods := #[]
  instanceTypes := #[]
  staticTypes := #[]
  resolved := Array.replicate 8 none
  statics := none }

def pool5 : Array CpInfo := pool [(1, u "java/io/Serializable"), (0, .class_ 1), (0, u "java/lang/Object"), (0, .class_ 3)] 3

/-- java/io/Serializable -/
def k5 : Class := { plain "java/io/Serializable" (some 0) with
  accessFlags := 1537
  interfaces := #[]
  cf := some (fileOf pool5 2 #[] #[] 1537 4 #[] #[])
  fields := #[]
  methods := #[]
  instanceTypes := #[]
  staticTypes := #[]
  resolved := Array.replicate 8 none
  statics := none }

/-- the primitive byte -/
def k6 : Class := { plain "byte" none with kind := .primitive 'B', accessFlags := 0x411 }
/-- [B -/
def k7 : Class := { plain "[B" (some 0) with kind := .array 6 .byte, interfaces := #[4, 5], accessFlags := 1041 }

/-- the primitive int -/
def k8 : Class := { plain "int" none with kind := .primitive 'I', accessFlags := 0x411 }
/-- [I -/
def k9 : Class := { plain "[I" (some 0) with kind := .array 8 .int, interfaces := #[4, 5], accessFlags := 1041 }

/-- the primitive long -/
def k10 : Class := { plain "long" none with kind := .primitive 'J', accessFlags := 0x411 }
/-- [J -/
def k11 : Class := { plain "[J" (some 0) with kind := .array 10 .long, interfaces := #[4, 5], accessFlags := 1041 }

def heap : Heap := #[]
def classes : Array Class := #[k0, k1, k2, k3, k4, k5, k6, k7, k8, k9, k10, k11]
def interned : List (Array UInt16 × Addr) := []
def slotsUsed : Nat := 0
def theMethod : MethodId := ⟨1, 1⟩
def args0 : Array Value := #[.int 5, .long 7, .long 3, .long 9, .long 2]
def aboutOver (below : List Frame) : State where
  vm := { classes := classes, interned := interned.toArray }
  heap := heap
  slotsUsed := slotsUsed
  threads := #[{ frames := .invoking theMethod args0 :: below }]
def below0 : List Frame := [.native { method := ⟨0, 0⟩, args := #[] }]
def about1 : State := aboutOver below0
def p0 : Program := .bare "" "" ""
def e0 : Env := launch0.env 0 0 0
theorem w_frames : about1.frames = Frame.invoking theMethod args0 :: below0 := rfl
set_option maxRecDepth 65536 in
theorem w_args : argsFit about1.vm theMethod args0 = true := by decide +kernel
set_option maxRecDepth 65536 in
theorem w_heap : heapFits about1 = true := by decide +kernel
set_option maxRecDepth 65536 in
theorem w_runnable : about1.curStatus? = some .runnable := by decide +kernel
set_option maxRecDepth 65536 in
theorem w_alone : about1.alone = true := by decide +kernel
set_option maxRecDepth 65536 in
theorem w_named : about1.methodNamed? x = some theMethod := by decide +kernel
set_option maxRecDepth 65536 in
theorem w_hears : about1.hears theMethod below0 = true := by decide +kernel
set_option maxRecDepth 65536 in
theorem w_ripe : about1.ripe theMethod args0 below0 = true := by decide +kernel
theorem w_running : about1.status = .running := rfl
set_option maxRecDepth 65536 in
theorem w_room : about1.hasRoom e0.platform room_1 = true :=
  launch0.hasRoom_least _ room_1 (by decide +kernel) (by decide +kernel) (by decide +kernel) (by decide +kernel) (by decide +kernel) (by decide +kernel)
theorem allAtoms_all (ts : List Jvm.Cond) (a : Array Jvm.Value) (st : Jvm.State) : (allAtoms ts).before a st = ts.all (fun c => c.before a st) := by
  induction ts with
  | nil => rfl
  | cons c t ih =>
    show (Jvm.Cond.and c (allAtoms t)).before a st = _
    rw [Jvm.Cond.before_and, ih, List.all_cons]
def words1 : List Jvm.Cond := Jvm.Cond.code x code maxLocals ret :: tables_1
/-- a 'code' word, met by the world's own term for the bytes: nothing is compared byte by byte -/
theorem code_word {y : MethodName} {bytes : ByteArray} {mx : Nat} {rt : Option FieldType} {a : Array Value} {s : State} {m : MethodId} {meth : Method} {c : Code} (h1 : s.methodNamed? y = some m) (h2 : s.vm.method? m = some meth) (h3 : meth.code = some c) (h4 : c.code = bytes)
    (h5 : (c.maxLocals == mx && c.exceptionTable.isEmpty && decide (c.maxStack ≤ mostOperands) && decide (meth.sig.returnType = rt) && !meth.locks && decide (parseMethodDescriptor y.desc = some meth.sig)) = true) : (Jvm.Cond.code y bytes mx rt).before a s = true := by
  simp only [Bool.and_eq_true, beq_iff_eq, Bool.not_eq_true', decide_eq_true_eq] at h5
  obtain ⟨⟨⟨⟨⟨g1, g2⟩, g3⟩, g4⟩, g5⟩, g6⟩ := h5
  simp [Cond.before, Cond.holds, Cond.value, h1, h2, h3, h4, g1, g2, g3, g4, g5, g6]
def isCode : Jvm.Cond → Bool
  | .code _ _ _ _ => true
  | _ => false
theorem all_split {L : List Jvm.Cond} {P : Jvm.Cond → Bool} (h1 : L.all (fun c => isCode c || P c) = true) (h2 : ∀ c ∈ L.filter isCode, P c = true) : L.all P = true := by
  refine List.all_eq_true.mpr fun c hc => ?_
  have h := List.all_eq_true.mp h1 c hc
  rcases Bool.eq_false_or_eq_true (isCode c) with hi | hi
  · exact h2 c (List.mem_filter.mpr ⟨hc, hi⟩)
  · simpa [hi] using h
set_option maxRecDepth 65536 in
theorem w_c0 : (Jvm.Cond.code x code maxLocals ret).before args0 about1 = true := code_word (m := ⟨1, 1⟩) (meth := k1m1) (c := k1c1) (by decide +kernel) rfl rfl rfl (by decide +kernel)
set_option maxRecDepth 65536 in
theorem w_c1 : (Jvm.Cond.code ({ cls := "com/example/porter_drive/porterdrive/RequestQueue", name := "<init>", desc := "(I)V" } : Jvm.MethodName) prog_24_method_1_code (3 : Nat) (Option.none : Option Jvm.ClassFile.FieldType)).before args0 about1 = true := code_word (m := ⟨2, 0⟩) (meth := k2m0) (c := k2c0) (by decide +kernel) rfl rfl rfl (by decide +kernel)
set_option maxRecDepth 65536 in
theorem w_c2 : (Jvm.Cond.code ({ cls := "java/lang/Object", name := "<init>", desc := "()V" } : Jvm.MethodName) object_method_1_code (1 : Nat) (Option.none : Option Jvm.ClassFile.FieldType)).before args0 about1 = true := code_word (m := ⟨0, 0⟩) (meth := k0m0) (c := k0c0) (by decide +kernel) rfl rfl rfl (by decide +kernel)
set_option maxRecDepth 65536 in
theorem w_c3 : (Jvm.Cond.code ({ cls := "com/example/porter_drive/porterdrive/RequestQueueDelayFirstPinLaw", name := "step", desc := "(Lcom/example/porter_drive/porterdrive/RequestQueue;[JIJ)Z" } : Jvm.MethodName) method_3_code (8 : Nat) (Option.some Jvm.ClassFile.FieldType.boolean)).before args0 about1 = true := code_word (m := ⟨1, 2⟩) (meth := k1m2) (c := k1c2) (by decide +kernel) rfl rfl rfl (by decide +kernel)
set_option maxRecDepth 65536 in
theorem w_c4 : (Jvm.Cond.code ({ cls := "com/example/porter_drive/porterdrive/RequestQueueDelayFirstPinLaw", name := "first", desc := "([JI)I" } : Jvm.MethodName) method_4_code (3 : Nat) (Option.some Jvm.ClassFile.FieldType.int)).before args0 about1 = true := code_word (m := ⟨1, 3⟩) (meth := k1m3) (c := k1c3) (by decide +kernel) rfl rfl rfl (by decide +kernel)
set_option maxRecDepth 65536 in
theorem w_c5 : (Jvm.Cond.code ({ cls := "java/lang/Math", name := "max", desc := "(JJ)J" } : Jvm.MethodName) jdk_29_method_66_code (4 : Nat) (Option.some Jvm.ClassFile.FieldType.long)).before args0 about1 = true := code_word (m := ⟨3, 1⟩) (meth := k3m1) (c := k3c1) (by decide +kernel) rfl rfl rfl (by decide +kernel)
set_option maxRecDepth 65536 in
theorem w_c6 : (Jvm.Cond.code ({ cls := "com/example/porter_drive/porterdrive/RequestQueue", name := "delayFirst", desc := "(J)V" } : Jvm.MethodName) prog_24_method_6_code (3 : Nat) (Option.none : Option Jvm.ClassFile.FieldType)).before args0 about1 = true := code_word (m := ⟨2, 3⟩) (meth := k2m3) (c := k2c3) (by decide +kernel) rfl rfl rfl (by decide +kernel)
set_option maxRecDepth 65536 in
theorem w_c7 : (Jvm.Cond.code ({ cls := "com/example/porter_drive/porterdrive/RequestQueue", name := "siftDown", desc := "()V" } : Jvm.MethodName) prog_24_method_7_code (6 : Nat) (Option.none : Option Jvm.ClassFile.FieldType)).before args0 about1 = true := code_word (m := ⟨2, 4⟩) (meth := k2m4) (c := k2c4) (by decide +kernel) rfl rfl rfl (by decide +kernel)
set_option maxRecDepth 65536 in
theorem w_c8 : (Jvm.Cond.code ({ cls := "com/example/porter_drive/porterdrive/RequestQueue", name := "firstClient", desc := "()I" } : Jvm.MethodName) prog_24_method_4_code (1 : Nat) (Option.some Jvm.ClassFile.FieldType.int)).before args0 about1 = true := code_word (m := ⟨2, 2⟩) (meth := k2m2) (c := k2c2) (by decide +kernel) rfl rfl rfl (by decide +kernel)
set_option maxRecDepth 65536 in
theorem w_c9 : (Jvm.Cond.code ({ cls := "com/example/porter_drive/porterdrive/RequestQueue", name := "firstTime", desc := "()J" } : Jvm.MethodName) prog_24_method_3_code (1 : Nat) (Option.some Jvm.ClassFile.FieldType.long)).before args0 about1 = true := code_word (m := ⟨2, 1⟩) (meth := k2m1) (c := k2c1) (by decide +kernel) rfl rfl rfl (by decide +kernel)
set_option maxRecDepth 65536 in
theorem w_c10 : (Jvm.Cond.code ({ cls := "com/example/porter_drive/porterdrive/RequestQueue", name := "isBefore", desc := "(JIJI)Z" } : Jvm.MethodName) prog_24_method_8_code (6 : Nat) (Option.some Jvm.ClassFile.FieldType.boolean)).before args0 about1 = true := code_word (m := ⟨2, 5⟩) (meth := k2m5) (c := k2c5) (by decide +kernel) rfl rfl rfl (by decide +kernel)
def codes1 : List Jvm.Cond := [Jvm.Cond.code x code maxLocals ret, Jvm.Cond.code ({ cls := "com/example/porter_drive/porterdrive/RequestQueue", name := "<init>", desc := "(I)V" } : Jvm.MethodName) prog_24_method_1_code (3 : Nat) (Option.none : Option Jvm.ClassFile.FieldType), Jvm.Cond.code ({ cls := "java/lang/Object", name := "<init>", desc := "()V" } : Jvm.MethodName) object_method_1_code (1 : Nat) (Option.none : Option Jvm.ClassFile.FieldType), Jvm.Cond.code ({ cls := "com/example/porter_drive/porterdrive/RequestQueueDelayFirstPinLaw", name := "step", desc := "(Lcom/example/porter_drive/porterdrive/RequestQueue;[JIJ)Z" } : Jvm.MethodName) method_3_code (8 : Nat) (Option.some Jvm.ClassFile.FieldType.boolean), Jvm.Cond.code ({ cls := "com/example/porter_drive/porterdrive/RequestQueueDelayFirstPinLaw", name := "first", desc := "([JI)I" } : Jvm.MethodName) method_4_code (3 : Nat) (Option.some Jvm.ClassFile.FieldType.int), Jvm.Cond.code ({ cls := "java/lang/Math", name := "max", desc := "(JJ)J" } : Jvm.MethodName) jdk_29_method_66_code (4 : Nat) (Option.some Jvm.ClassFile.FieldType.long), Jvm.Cond.code ({ cls := "com/example/porter_drive/porterdrive/RequestQueue", name := "delayFirst", desc := "(J)V" } : Jvm.MethodName) prog_24_method_6_code (3 : Nat) (Option.none : Option Jvm.ClassFile.FieldType), Jvm.Cond.code ({ cls := "com/example/porter_drive/porterdrive/RequestQueue", name := "siftDown", desc := "()V" } : Jvm.MethodName) prog_24_method_7_code (6 : Nat) (Option.none : Option Jvm.ClassFile.FieldType), Jvm.Cond.code ({ cls := "com/example/porter_drive/porterdrive/RequestQueue", name := "firstClient", desc := "()I" } : Jvm.MethodName) prog_24_method_4_code (1 : Nat) (Option.some Jvm.ClassFile.FieldType.int), Jvm.Cond.code ({ cls := "com/example/porter_drive/porterdrive/RequestQueue", name := "firstTime", desc := "()J" } : Jvm.MethodName) prog_24_method_3_code (1 : Nat) (Option.some Jvm.ClassFile.FieldType.long), Jvm.Cond.code ({ cls := "com/example/porter_drive/porterdrive/RequestQueue", name := "isBefore", desc := "(JIJI)Z" } : Jvm.MethodName) prog_24_method_8_code (6 : Nat) (Option.some Jvm.ClassFile.FieldType.boolean)]
set_option maxRecDepth 65536 in
theorem codes_eq : words1.filter isCode = codes1 := rfl
theorem w_codes : ∀ c ∈ words1.filter isCode, c.before args0 about1 = true := by
  rw [codes_eq]
  intro c hc
  simp only [codes1, List.mem_cons, List.not_mem_nil, or_false] at hc
  rcases hc with rfl | rfl | rfl | rfl | rfl | rfl | rfl | rfl | rfl | rfl | rfl
  · exact w_c0
  · exact w_c1
  · exact w_c2
  · exact w_c3
  · exact w_c4
  · exact w_c5
  · exact w_c6
  · exact w_c7
  · exact w_c8
  · exact w_c9
  · exact w_c10
set_option maxRecDepth 65536 in
theorem w_t1 : (words1.take 24).all (fun c => isCode c || c.before args0 about1) = true := by decide +kernel
set_option maxRecDepth 65536 in
theorem w_t2 : ((words1.drop 24).take 24).all (fun c => isCode c || c.before args0 about1) = true := by decide +kernel
set_option maxRecDepth 65536 in
theorem w_t3 : ((words1.drop 24).drop 24).all (fun c => isCode c || c.before args0 about1) = true := by decide +kernel
theorem w_tables : (allAtoms (Jvm.Cond.code x code maxLocals ret :: tables_1)).before args0 about1 = true := by
  rw [allAtoms_all]
  show words1.all (fun c => c.before args0 about1) = true
  refine all_split ?_ w_codes
  rw [← List.take_append_drop 24 words1, List.all_append, w_t1, ← List.take_append_drop 24 (words1.drop 24), List.all_append, w_t2, w_t3]
  rfl
set_option maxRecDepth 65536 in
theorem w_case : (Jvm.Cond.and given_1 narrow_1).before args0 about1 = true := by decide +kernel
theorem w_applies : (headSpec (Jvm.Cond.code x code maxLocals ret :: tables_1) room_1).applies x e0.platform about1 = true :=
  (Spec.applies_iff w_frames).mpr ⟨w_running, w_runnable, w_alone, w_named, w_hears, w_ripe, w_room, w_tables⟩
theorem atStart : AtStart classFile x code maxLocals ret World_1 tables_1 room_1 Calls_1 rest_1 Pre_1 launch0 p0 e0 about1 theMethod args0 below0 :=
  ⟨lists_1, trivial, launch0.admits_env _ _ _, launch0.least_env, fairChoices_fair.cas, fairChoices_fair.clock, w_frames, w_args, w_heap, w_applies, trivial, trivial, w_case⟩
end start1
theorem witness_1 : WitnessClaimed_1 := ⟨start1.p0, start1.e0, start1.about1, start1.theMethod, start1.args0, start1.below0, start1.atStart⟩
end Jvm.Pilot.@@N@@
