import JvmDerived
import JvmDerived.Pilot.@@N@@Statement
import JvmDerived.Pilot.@@N@@Code
set_option linter.unusedVariables false
set_option linter.unusedSimpArgs false
namespace Jvm.RoadKit
open Sem ClassFile Op Lib Jvm.Stand Jvm.Free Jvm.LawKit
section Own
variable {p : Program} {l : Launch} {e : Env} {R : Room} {s : State} {m : MethodId} {args : Array Value} {below : List Frame} {meth : Method} {c : Code} {T : State} {locs : List Loc} {cells slots : Nat} {k n : Nat} {Q : Option Value → Heap → List Loc → Prop} {W W' : State} {Z : State} {a0 : Array Value} {h : Heap}
/-- the run from W comes back, with what Q says -/
def OwnOut (p : Program) (e : Env) (s : State) (below : List Frame) (k n : Nat) (Q : Option Value → Heap → List Loc → Prop) (W : State) : Prop :=
  ∃ s₂ o, Steps p.tables e below W s₂ ∧ s₂.status = .running ∧ Ended s₂ below o ∧ ∃ v L, o = .returned v ∧ Q v s₂.heap L ∧ FrameEnd s o s₂ L k n
theorem OwnOut.go (h : ∀ t, Steps p.tables e below W' t → Steps p.tables e below W t) (H : OwnOut p e s below k n Q W') : OwnOut p e s below k n Q W := by
  obtain ⟨s₂, o, h1, h2⟩ := H
  exact ⟨s₂, o, h _ h1, h2⟩
theorem OwnOut.at {g g' : JFrame} (q : g = g') (H : OwnOut p e s below k n Q (T.setTop g')) : OwnOut p e s below k n Q (T.setTop g) := q ▸ H
theorem OwnOut.imp {Q' : Option Value → Heap → List Loc → Prop} (q : ∀ v h L, Q' v h L → Q v h L) (H : OwnOut p e s below k n Q' W) : OwnOut p e s below k n Q W := by
  obtain ⟨s₂, o, h1, h2, h3, v, L, h4, h5, h6⟩ := H
  exact ⟨s₂, o, h1, h2, h3, v, L, h4, q _ _ _ h5, h6⟩
theorem outI (X : Stand p l e R s m args below meth c T locs cells slots) (hx : p.tables.exec = Jvm.exec) {pc : Nat} {Ls : Array Slot} {z : Int32} (hret : meth.sig.returnType = some .int) (hd : decode c.code pc = .ok (.ireturn, 1)) (hlk : meth.locks = false) (hk : cells ≤ k) (hn : slots ≤ n) (q : Q (some (.int z)) T.heap locs) :
    OwnOut p e s below k n Q (T.setTop (mkF m pc Ls [.int z])) := by
  obtain ⟨fs, hr, hrun, hended, hW, hsame⟩ := X.leave (v := some (.int z)) (fun h => by rw [hret] at h; cases h) hlk
  exact ⟨_, _, X.ireturnOut hx hret rfl (Or.inl rfl) hd hr, hrun, hended, _, _, rfl, q, ⟨_, rfl⟩, hW, hsame.mono hk hn⟩
theorem outZ (X : Stand p l e R s m args below meth c T locs cells slots) (hx : p.tables.exec = Jvm.exec) {pc : Nat} {Ls : Array Slot} {z : Int32} (hret : meth.sig.returnType = some .boolean) (hd : decode c.code pc = .ok (.ireturn, 1)) (hlk : meth.locks = false) (hk : cells ≤ k) (hn : slots ≤ n) (q : Q (some (.int (z &&& 1))) T.heap locs) :
    OwnOut p e s below k n Q (T.setTop (mkF m pc Ls [.int z])) := by
  obtain ⟨fs, hr, hrun, hended, hW, hsame⟩ := X.leave (v := some (.int (z &&& 1))) (fun h => by rw [hret] at h; cases h) hlk
  exact ⟨_, _, retN X hx (t := .boolean) hret (by simp) hd hr, hrun, hended, _, _, rfl, q, ⟨_, rfl⟩, hW, hsame.mono hk hn⟩
theorem outJ (X : Stand p l e R s m args below meth c T locs cells slots) (hx : p.tables.exec = Jvm.exec) {pc : Nat} {Ls : Array Slot} {z : Int64} (hret : meth.sig.returnType = some .long) (hd : decode c.code pc = .ok (.lreturn, 1)) (hlk : meth.locks = false) (hk : cells ≤ k) (hn : slots ≤ n) (q : Q (some (.long z)) T.heap locs) :
    OwnOut p e s below k n Q (T.setTop (mkF m pc Ls [.long z])) := by
  obtain ⟨fs, hr, hrun, hended, hW, hsame⟩ := X.leave (v := some (.long z)) (fun h => by rw [hret] at h; cases h) hlk
  exact ⟨_, _, X.lreturnOut hx hret hd hr, hrun, hended, _, _, rfl, q, ⟨_, rfl⟩, hW, hsame.mono hk hn⟩
theorem outA (X : Stand p l e R s m args below meth c T locs cells slots) (hx : p.tables.exec = Jvm.exec) {pc : Nat} {Ls : Array Slot} {w : Value} {t : FieldType} (hw : w.isRef = true) (hret : meth.sig.returnType = some t) (ht : t.isReference = true) (hd : decode c.code pc = .ok (.areturn, 1)) (hlk : meth.locks = false) (hk : cells ≤ k) (hn : slots ≤ n) (q : Q (some w) T.heap locs) :
    OwnOut p e s below k n Q (T.setTop (mkF m pc Ls [w])) := by
  obtain ⟨fs, hr, hrun, hended, hW, hsame⟩ := X.leave (v := some w) (fun h => by rw [hret] at h; cases h) hlk
  exact ⟨_, _, X.areturnOut hx hw hret ht hd hr, hrun, hended, _, _, rfl, q, ⟨_, rfl⟩, hW, hsame.mono hk hn⟩
theorem outV (X : Stand p l e R s m args below meth c T locs cells slots) (hx : p.tables.exec = Jvm.exec) {pc : Nat} {Ls : Array Slot} (hret : meth.sig.returnType = none) (hd : decode c.code pc = .ok (.return_, 1)) (hlk : meth.locks = false) (hk : cells ≤ k) (hn : slots ≤ n) (q : Q none T.heap locs) :
    OwnOut p e s below k n Q (T.setTop (mkF m pc Ls [])) := by
  obtain ⟨fs, hr, hrun, hended, hW, hsame⟩ := X.leave (v := none) (fun _ => rfl) hlk
  exact ⟨_, _, X.returnOut hx hret hd hr, hrun, hended, _, _, rfl, q, ⟨_, rfl⟩, hW, hsame.mono hk hn⟩
theorem lremM {g : JFrame} {target : State} (X : Stand p l e R s m args below meth c T locs cells slots) (hx : p.tables.exec = Jvm.exec) (hg : g.method = m) {x y : Int64} {rest : List Value} (hd : decode c.code g.pc = .ok (.lrem, 1)) (hs : g.stack = .long y :: .long x :: rest) (hy : y ≠ 0)
    (hr : Steps p.tables e below (T.setTop { g with pc := g.pc + 1, stack := .long (x % y) :: rest }) target) : Steps p.tables e below (T.setTop g) target :=
  XS.lrem X.here hx hg hd hs hy (by rw [lrem_mod]; exact hr)
/-- a body that touches nothing: what it returns, the heap as it was, nothing written -/
def QP (h0 : Heap) (w : Option Value) (v : Option Value) (h : Heap) (L : List Loc) : Prop := v = w ∧ h = h0 ∧ L = []
/-- a static call of such a body -/
theorem callP (X : Stand p l e R s m args below meth c T locs cells slots) (hx : p.tables.exec = Jvm.exec) (hZ : Z.Warmed39 s.vm) {own : String} {index : Nat} {y : MethodName} {bytes : ByteArray} {maxL : Nat} {ret : Option FieldType} {rm : Room} {as' : Array Value} {w : Option Value}
    (hown : s.vm.findClass own = some m.cls) (w1 : (Cond.methodLink own index y).before a0 Z = true) (w2 : (Cond.static y).before a0 Z = true) (w3 : (Cond.initialized y.cls).before a0 Z = true) (w4 : (Cond.code y bytes maxL ret).before a0 Z = true) (hy : y.cls ≠ "java/lang/invoke/MethodHandle" ∧ y.cls ≠ "java/lang/invoke/VarHandle")
    (hM : MetFree l y (head1 [Cond.code y bytes maxL ret] rm) (fun a U => a = as' ∧ Z.Warmed39 U.vm ∧ U.heap = h) (fun _ _ _ _ _ => True) (fun _ U o U' => ∃ v L, o = .returned v ∧ QP h w v U'.heap L ∧ FrameEnd U o U' L rm.cells rm.slots))
    {W : Nat} (hf : rm.frames + 1 ≤ R.frames) (hl : W + (maxL + 11) + rm.locals ≤ R.locals) (z1 : rm.cells = 0) (z2 : rm.slots = 0) (hc : cells ≤ R.cells) (hs' : slots ≤ R.slots) (eT : T.heap = h)
    {g : JFrame} (hg : g.method = m) (hsize : g.locals.size = c.maxLocals) {argsL rest : List Value} (hlen : ∀ sig, parseMethodDescriptor y.desc = some sig → argsL.length = sig.parameters.length)
    (hstack : g.stack = argsL.reverse ++ rest) (hW : 2 * g.monitorRoom + (rest.map fun v => v.category).sum ≤ W) (hdg : decode c.code g.pc = .ok (.invokestatic index, 3)) (has : argsL.toArray = as' := by rfl) :
    ∃ T', Stand p l e R s m args below meth c T' locs cells slots ∧ T'.heap = h ∧ ∀ target, Steps p.tables e below (T'.setTop { g with pc := g.pc + 3, stack := w.toList ++ rest }) target → Steps p.tables e below (T.setTop g) target := by
  obtain ⟨v, vm₁, ⟨T', L', k', n'⟩, -, X', ⟨Lc, ⟨rfl, q2, rfl⟩, l1, y1, z3⟩, st⟩ := Jvm.LawKit.callS X hx (y := y) hown (mvT hZ w1) (mvT hZ w2) (mvT hZ w3) (mvT hZ w4) hy (backOf (W := W) hM hZ w4 w3 hf hl) hg hsize hlen hstack hW hdg (fun _ _ => ⟨has, eT, by rw [z1]; exact hc, by rw [z2]; exact hs'⟩)
  dsimp only [Pt.U, Pt.locs, Pt.cells, Pt.slots] at X' l1 y1 z3 st q2
  rw [z1] at y1; rw [z2] at z3
  rw [List.append_nil] at l1
  subst l1 y1 z3
  exact ⟨T', X', q2, st⟩
end Own
end Jvm.RoadKit
namespace Jvm.RoadKit
open Sem ClassFile Op Lib Jvm.Stand Jvm.Free Jvm.LawKit
section Own2
variable {p : Program} {l : Launch} {e : Env} {R : Room} {s : State} {m : MethodId} {args : Array Value} {below : List Frame} {meth : Method} {c : Code} {T : State} {locs : List Loc} {cells slots : Nat} {Z : State} {a0 : Array Value} {h h' : Heap} {a b : Addr} {ty : FieldType} {vs : List Value} {sl : Nat} {v : Value} {ws : List Addr}
/-- an array, by the list of what it holds -/
def Ar (Z : State) (h : Heap) (a : Addr) (ty : FieldType) (vs : List Value) : Prop := ∃ c : Cell, Arr Z h a c ty ∧ c.slots.toList = vs ∧ vs.length < 2 ^ 31
theorem Ar.lt (A : Ar Z h a ty vs) : a < h.size := by obtain ⟨c, q, -⟩ := A; exact q.lt
theorem Ar.ext (A : Ar Z h a ty vs) (E : Ext h h') : Ar Z h' a ty vs := by obtain ⟨c, q, r⟩ := A; exact ⟨c, q.ext E, r⟩
theorem Ar.other (A : Ar Z h b ty vs) (W : Wr h h' a sl v) (q : b ≠ a) : Ar Z h' b ty vs := by obtain ⟨c, r, t⟩ := A; exact ⟨c, r.other W q, t⟩
theorem Ar.keep (A : Ar Z h a ty vs) (K : Keep h h' ws) (q : a ∉ ws) : Ar Z h' a ty vs := by obtain ⟨c, r, t⟩ := A; exact ⟨c, ⟨K.2.1 a c r.1 q, r.2⟩, t⟩
theorem Ar.same (A : Ar Z h a ty vs) (W : Wr h h' a sl v) : Ar Z h' a ty (vs.set sl v) := by
  obtain ⟨c, r, t, u⟩ := A
  refine ⟨_, r.same W, ?_, by rw [List.length_set]; exact u⟩
  show (c.slots.setIfInBounds sl v).toList = _
  rw [Array.toList_setIfInBounds, t]
abbrev Ari (Z : State) (h : Heap) (a : Addr) (ty : FieldType) (xs : List Int32) : Prop := Ar Z h a ty (xs.map Value.int)
abbrev Arj (Z : State) (h : Heap) (a : Addr) (xs : List Int64) : Prop := Ar Z h a .long (xs.map Value.long)
/-- what an array's place holds -/
def ldx {α : Type} (xs : List α) (j : Int32) : Option α := if j < 0 then none else xs[j.toNatClampNeg]?
def stx {α : Type} (xs : List α) (j : Int32) (v : α) : Option (List α) := if j < 0 then none else if xs.length ≤ j.toNatClampNeg then none else some (xs.set j.toNatClampNeg v)
def nwx {α : Type} (d : α) (cap : Nat) (n : Int32) : Option (List α) := if n < 0 then none else if cap < n.toNatClampNeg then none else some (List.replicate n.toNatClampNeg d)
def lenx {α : Type} (xs : List α) : Int32 := xs.length.toInt32
theorem ldx_at {α : Type} {f : α → Value} {xs : List α} {j : Int32} {x : α} {cl : Cell} (hv : ldx xs j = some x) (q : cl.slots.toList = xs.map f) : ¬ (j < 0 ∨ cl.slots.size ≤ j.toNatClampNeg) ∧ cl.slots[j.toNatClampNeg]? = some (f x) := by
  unfold ldx at hv
  by_cases hj : j < 0
  · rw [if_pos hj] at hv; cases hv
  rw [if_neg hj] at hv
  have h1 : cl.slots[j.toNatClampNeg]? = some (f x) := by rw [← Array.getElem?_toList, q, List.getElem?_map, hv]; rfl
  refine ⟨fun z => z.elim hj fun z => ?_, h1⟩
  rw [Array.getElem?_eq_none z] at h1; cases h1
theorem stx_at {α : Type} {f : α → Value} {xs ys : List α} {j : Int32} {x : α} {cl : Cell} (hv : stx xs j x = some ys) (q : cl.slots.toList = xs.map f) : ¬ (j < 0 ∨ cl.slots.size ≤ j.toNatClampNeg) ∧ ys = xs.set j.toNatClampNeg x := by
  unfold stx at hv
  by_cases hj : j < 0
  · rw [if_pos hj] at hv; cases hv
  rw [if_neg hj] at hv
  by_cases hl : xs.length ≤ j.toNatClampNeg
  · rw [if_pos hl] at hv; cases hv
  rw [if_neg hl] at hv
  refine ⟨fun z => z.elim hj fun z => hl ?_, (Option.some.inj hv).symm⟩
  have : cl.slots.size = xs.length := by rw [← Array.length_toList, q, List.length_map]
  omega
theorem ldI (X : Stand p l e R s m args below meth c T locs cells slots) (hx : p.tables.exec = Jvm.exec) (hZ : Z.Warmed39 s.vm) (eT : T.heap = h) {xs : List Int32} (A : Ari Z h a .int xs) {j v : Int32} (hv : ldx xs j = some v) {g : JFrame} (hg : g.method = m) {rest : List Value} (hs : g.stack = .int j :: .ref a :: rest) (hd : decode c.code g.pc = .ok (.iaload, 1)) (target : State)
    (hr : Steps p.tables e below (T.setTop { g with pc := g.pc + 1, stack := .int v :: rest }) target) : Steps p.tables e below (T.setTop g) target := by
  obtain ⟨cl, A1, A2, -⟩ := A
  obtain ⟨hj, hat⟩ := ldx_at hv A2
  exact X.iaload hx (by rw [eT]; exact A1.1) (State.isArrayOf_alike hZ.alike A1.2.1) A1.2.2 hj hat hg hs hd target hr
theorem ldB (X : Stand p l e R s m args below meth c T locs cells slots) (hx : p.tables.exec = Jvm.exec) (hZ : Z.Warmed39 s.vm) (eT : T.heap = h) {xs : List Int32} (A : Ari Z h a .byte xs) {j v : Int32} (hv : ldx xs j = some v) {g : JFrame} (hg : g.method = m) {rest : List Value} (hs : g.stack = .int j :: .ref a :: rest) (hd : decode c.code g.pc = .ok (.baload, 1)) (target : State)
    (hr : Steps p.tables e below (T.setTop { g with pc := g.pc + 1, stack := .int v :: rest }) target) : Steps p.tables e below (T.setTop g) target := by
  obtain ⟨cl, A1, A2, -⟩ := A
  obtain ⟨hj, hat⟩ := ldx_at hv A2
  exact X.baloadBytes hx (by rw [eT]; exact A1.1) (State.isArrayOf_alike hZ.alike A1.2.1) A1.2.2 hj hat hg hs hd target hr
theorem ldZ (X : Stand p l e R s m args below meth c T locs cells slots) (hx : p.tables.exec = Jvm.exec) (hZ : Z.Warmed39 s.vm) (eT : T.heap = h) {xs : List Int32} (A : Ari Z h a .boolean xs) {j v : Int32} (hv : ldx xs j = some v) {g : JFrame} (hg : g.method = m) {rest : List Value} (hs : g.stack = .int j :: .ref a :: rest) (hd : decode c.code g.pc = .ok (.baload, 1)) (target : State)
    (hr : Steps p.tables e below (T.setTop { g with pc := g.pc + 1, stack := .int v :: rest }) target) : Steps p.tables e below (T.setTop g) target := by
  obtain ⟨cl, A1, A2, -⟩ := A
  obtain ⟨hj, hat⟩ := ldx_at hv A2
  exact X.baloadBooleans hx (by rw [eT]; exact A1.1) (State.isArrayOf_alike hZ.alike A1.2.1) A1.2.2 hj hat hg hs hd target hr
theorem ldJ (X : Stand p l e R s m args below meth c T locs cells slots) (hx : p.tables.exec = Jvm.exec) (hZ : Z.Warmed39 s.vm) (eT : T.heap = h) {xs : List Int64} (A : Arj Z h a xs) {j : Int32} {v : Int64} (hv : ldx xs j = some v) {g : JFrame} (hg : g.method = m) {rest : List Value} (hs : g.stack = .int j :: .ref a :: rest) (hd : decode c.code g.pc = .ok (.laload, 1)) (target : State)
    (hr : Steps p.tables e below (T.setTop { g with pc := g.pc + 1, stack := .long v :: rest }) target) : Steps p.tables e below (T.setTop g) target := by
  obtain ⟨cl, A1, A2, -⟩ := A
  obtain ⟨hj, hat⟩ := ldx_at hv A2
  exact X.laload hx (by rw [eT]; exact A1.1) (State.isArrayOf_alike hZ.alike A1.2.1) A1.2.2 hj hat hg hs hd target hr
theorem lenA (X : Stand p l e R s m args below meth c T locs cells slots) (hx : p.tables.exec = Jvm.exec) (hZ : Z.Warmed39 s.vm) (eT : T.heap = h) {α : Type} {f : α → Value} {xs : List α} (A : Ar Z h a ty (xs.map f)) {g : JFrame} (hg : g.method = m) {rest : List Value} (hs : g.stack = .ref a :: rest) (hd : decode c.code g.pc = .ok (.arraylength, 1)) (target : State)
    (hr : Steps p.tables e below (T.setTop { g with pc := g.pc + 1, stack := .int (lenx xs) :: rest }) target) : Steps p.tables e below (T.setTop g) target := by
  obtain ⟨cl, A1, A2, -⟩ := A
  have : cl.slots.size = xs.length := by rw [← Array.length_toList, A2, List.length_map]
  refine X.arraylength hx (by rw [eT]; exact A1.1) (State.isArrayOf_alike hZ.alike A1.2.1) hg hs hd target ?_
  rw [this]; exact hr
theorem saI (X : Stand p l e R s m args below meth c T locs cells slots) (hx : p.tables.exec = Jvm.exec) (hZ : Z.Warmed39 s.vm) (eT : T.heap = h) {xs ys : List Int32} (A : Ari Z h a .int xs) {j v : Int32} (hv : stx xs j v = some ys) {g : JFrame} (hg : g.method = m) {rest : List Value} (hs : g.stack = .int v :: .int j :: .ref a :: rest) (hd : decode c.code g.pc = .ok (.iastore, 1)) :
    ∃ T' h', Stand p l e R s m args below meth c T' (locs ++ [⟨a, j.toNatClampNeg⟩]) cells slots ∧ T'.heap = h' ∧ Wr h h' a j.toNatClampNeg (.int v) ∧ Ari Z h' a .int ys ∧ ∀ target, Steps p.tables e below (T'.setTop { g with pc := g.pc + 1, stack := rest }) target → Steps p.tables e below (T.setTop g) target := by
  have A' := A
  obtain ⟨cl, A1, A2, -⟩ := A
  obtain ⟨hj, rfl⟩ := stx_at hv A2
  obtain ⟨T', h', X', e', W', st⟩ := stI X hx hZ eT A1 hj hg hs hd
  exact ⟨T', h', X', e', W', by have q := A'.same W'; rw [← List.map_set] at q; exact q, st⟩
theorem saB (X : Stand p l e R s m args below meth c T locs cells slots) (hx : p.tables.exec = Jvm.exec) (hZ : Z.Warmed39 s.vm) (eT : T.heap = h) {xs ys : List Int32} (A : Ari Z h a .byte xs) {j v : Int32} (hv : stx xs j v.toInt8.toInt32 = some ys) {g : JFrame} (hg : g.method = m) {rest : List Value} (hs : g.stack = .int v :: .int j :: .ref a :: rest) (hd : decode c.code g.pc = .ok (.bastore, 1)) :
    ∃ T' h', Stand p l e R s m args below meth c T' (locs ++ [⟨a, j.toNatClampNeg⟩]) cells slots ∧ T'.heap = h' ∧ Wr h h' a j.toNatClampNeg (.int v.toInt8.toInt32) ∧ Ari Z h' a .byte ys ∧ ∀ target, Steps p.tables e below (T'.setTop { g with pc := g.pc + 1, stack := rest }) target → Steps p.tables e below (T.setTop g) target := by
  have A' := A
  obtain ⟨cl, A1, A2, -⟩ := A
  obtain ⟨hj, rfl⟩ := stx_at hv A2
  obtain ⟨T', h', X', e', W', st⟩ := stB X hx hZ eT A1 hj hg hs hd
  exact ⟨T', h', X', e', W', by have q := A'.same W'; rw [show Value.int (nar .byte v) = Value.int v.toInt8.toInt32 from rfl, ← List.map_set] at q; exact q, st⟩
theorem saZ (X : Stand p l e R s m args below meth c T locs cells slots) (hx : p.tables.exec = Jvm.exec) (hZ : Z.Warmed39 s.vm) (eT : T.heap = h) {xs ys : List Int32} (A : Ari Z h a .boolean xs) {j v : Int32} (hv : stx xs j (v &&& 1) = some ys) {g : JFrame} (hg : g.method = m) {rest : List Value} (hs : g.stack = .int v :: .int j :: .ref a :: rest) (hd : decode c.code g.pc = .ok (.bastore, 1)) :
    ∃ T' h', Stand p l e R s m args below meth c T' (locs ++ [⟨a, j.toNatClampNeg⟩]) cells slots ∧ T'.heap = h' ∧ Wr h h' a j.toNatClampNeg (.int (v &&& 1)) ∧ Ari Z h' a .boolean ys ∧ ∀ target, Steps p.tables e below (T'.setTop { g with pc := g.pc + 1, stack := rest }) target → Steps p.tables e below (T.setTop g) target := by
  have A' := A
  obtain ⟨cl, A1, A2, -⟩ := A
  obtain ⟨hj, rfl⟩ := stx_at hv A2
  obtain ⟨T', h', X', e', W', st⟩ := stZ X hx hZ eT A1 hj hg hs hd
  exact ⟨T', h', X', e', W', by have q := A'.same W'; rw [show Value.int (nar .boolean v) = Value.int (v &&& 1) from rfl, ← List.map_set] at q; exact q, st⟩
theorem saJ (X : Stand p l e R s m args below meth c T locs cells slots) (hx : p.tables.exec = Jvm.exec) (hZ : Z.Warmed39 s.vm) (eT : T.heap = h) {xs ys : List Int64} (A : Arj Z h a xs) {j : Int32} {v : Int64} (hv : stx xs j v = some ys) {g : JFrame} (hg : g.method = m) {rest : List Value} (hs : g.stack = .long v :: .int j :: .ref a :: rest) (hd : decode c.code g.pc = .ok (.lastore, 1)) :
    ∃ T' h', Stand p l e R s m args below meth c T' (locs ++ [⟨a, j.toNatClampNeg⟩]) cells slots ∧ T'.heap = h' ∧ Wr h h' a j.toNatClampNeg (.long v) ∧ Arj Z h' a ys ∧ ∀ target, Steps p.tables e below (T'.setTop { g with pc := g.pc + 1, stack := rest }) target → Steps p.tables e below (T.setTop g) target := by
  have A' := A
  obtain ⟨cl, A1, A2, -⟩ := A
  obtain ⟨hj, rfl⟩ := stx_at hv A2
  obtain ⟨T', h', X', e', W', st⟩ := stJ X hx hZ eT A1 hj hg hs hd
  exact ⟨T', h', X', e', W', by have q := A'.same W'; rw [← List.map_set] at q; exact q, st⟩
theorem nwx_at {α : Type} {d : α} {cap : Nat} {n : Int32} {xs : List α} (hv : nwx d cap n = some xs) : ¬ n < 0 ∧ n.toNatClampNeg ≤ cap ∧ xs = List.replicate n.toNatClampNeg d := by
  unfold nwx at hv
  by_cases hj : n < 0
  · rw [if_pos hj] at hv; cases hv
  rw [if_neg hj] at hv
  by_cases hl : cap < n.toNatClampNeg
  · rw [if_pos hl] at hv; cases hv
  rw [if_neg hl] at hv
  exact ⟨hj, Nat.le_of_not_lt hl, (Option.some.inj hv).symm⟩
theorem Ar.new {α : Type} {f : α → Value} {d : α} {n : Int32} {cA : ClassId} (A : Arr Z h a (newA cA ty n) ty) (q : ¬ n < 0) (hd : defaultValue ty = f d) : Ar Z h a ty ((List.replicate n.toNatClampNeg d).map f) := by
  refine ⟨_, A, ?_, ?_⟩
  · show (Array.replicate n.toNatClampNeg (defaultValue ty)).toList = _
    rw [Array.toList_replicate, List.map_replicate, hd]
  · rw [List.length_map, List.length_replicate]; exact (back32 q).2
/-- a new array of ints, bytes, booleans .. -/
theorem nwA (X : Stand p l e R s m args below meth c T locs cells slots) (hx : p.tables.exec = Jvm.exec) (hZ : Z.Warmed39 s.vm) {aty : ArrayType} (w : (Cond.arrayClass (newarray.typeOf aty)).before a0 Z = true) (eT : T.heap = h) {α : Type} {f : α → Value} {d : α} {cap : Nat} {n : Int32} {xs : List α} (hv : nwx d cap n = some xs) (hdf : defaultValue (newarray.typeOf aty) = f d)
    {g : JFrame} (hg : g.method = m) {rest : List Value} (hs : g.stack = .int n :: rest) (hd : decode c.code g.pc = .ok (.newarray aty, 2)) (hb : cap * 8 ≤ 536870912) (hc : cells + 1 ≤ R.cells) (hl : slots + cap ≤ R.slots) :
    ∃ T' h', Stand p l e R s m args below meth c T' locs (cells + 1) (slots + cap) ∧ T'.heap = h' ∧ Ext h h' ∧ Ar Z h' h.size (newarray.typeOf aty) (xs.map f) ∧ ∀ target, Steps p.tables e below (T'.setTop { g with pc := g.pc + 2, stack := .ref h.size :: rest }) target → Steps p.tables e below (T.setTop g) target := by
  obtain ⟨q1, q2, rfl⟩ := nwx_at hv
  obtain ⟨T', h', cA, X', e', E', A', st⟩ := newP X hx hZ w eT hg hd hs q1 (cap := cap) q2 hb hc hl
  exact ⟨T', h', X', e', E', Ar.new A' q1 hdf, st⟩
variable {y : MethodName} {bytes : ByteArray} {maxL : Nat} {ret : Option FieldType} {rm : Room} {as' : Array Value} {Q : Option Value → Heap → List Loc → Prop} {own : String} {index : Nat}
/-- a static call by the callee's contract -/
theorem callQ (X : Stand p l e R s m args below meth c T locs cells slots) (hx : p.tables.exec = Jvm.exec) (hZ : Z.Warmed39 s.vm)
    (hown : s.vm.findClass own = some m.cls) (w1 : (Cond.methodLink own index y).before a0 Z = true) (w2 : (Cond.static y).before a0 Z = true) (w3 : (Cond.initialized y.cls).before a0 Z = true) (w4 : (Cond.code y bytes maxL ret).before a0 Z = true) (hy : y.cls ≠ "java/lang/invoke/MethodHandle" ∧ y.cls ≠ "java/lang/invoke/VarHandle")
    (hM : MetFree l y (head1 [Cond.code y bytes maxL ret] rm) (fun a U => a = as' ∧ Z.Warmed39 U.vm ∧ U.heap = h) (fun _ _ _ _ _ => True) (fun _ U o U' => ∃ v L, o = .returned v ∧ Q v U'.heap L ∧ FrameEnd U o U' L rm.cells rm.slots))
    {W : Nat} (hf : rm.frames + 1 ≤ R.frames) (hl : W + (maxL + 11) + rm.locals ≤ R.locals) (hc : cells + rm.cells ≤ R.cells) (hs' : slots + rm.slots ≤ R.slots) (eT : T.heap = h)
    {g : JFrame} (hg : g.method = m) (hsize : g.locals.size = c.maxLocals) {argsL rest : List Value} (hlen : ∀ sig, parseMethodDescriptor y.desc = some sig → argsL.length = sig.parameters.length)
    (hstack : g.stack = argsL.reverse ++ rest) (hW : 2 * g.monitorRoom + (rest.map fun v => v.category).sum ≤ W) (hdg : decode c.code g.pc = .ok (.invokestatic index, 3)) (has : argsL.toArray = as' := by rfl) :
    ∃ v T' L', Stand p l e R s m args below meth c T' (locs ++ L') (cells + rm.cells) (slots + rm.slots) ∧ Q v T'.heap L' ∧ ∀ target, Steps p.tables e below (T'.setTop { g with pc := g.pc + 3, stack := v.toList ++ rest }) target → Steps p.tables e below (T.setTop g) target := by
  obtain ⟨v, vm₁, ⟨T', L', k', n'⟩, -, X', ⟨Lc, q2, l1, y1, z3⟩, st⟩ := Jvm.LawKit.callS X hx (y := y) hown (mvT hZ w1) (mvT hZ w2) (mvT hZ w3) (mvT hZ w4) hy (backOf (W := W) hM hZ w4 w3 hf hl) hg hsize hlen hstack hW hdg (fun _ _ => ⟨has, eT, hc, hs'⟩)
  dsimp only [Pt.U, Pt.locs, Pt.cells, Pt.slots] at X' l1 y1 z3 st q2
  subst l1 y1 z3
  exact ⟨v, T', Lc, X', q2, st⟩
/-- a constructor by its contract -/
theorem callN {ret : Option FieldType} (X : Stand p l e R s m args below meth c T locs cells slots) (hx : p.tables.exec = Jvm.exec) (hZ : Z.Warmed39 s.vm) (hret : ret = none) (hnm : y.name = "<init>")
    (hown : s.vm.findClass own = some m.cls) (w1 : (Cond.methodLink own index y).before a0 Z = true) (w2 : (Cond.instanceMethod y).before a0 Z = true) (w3 : (Cond.initialized y.cls).before a0 Z = true) (w4 : (Cond.code y bytes maxL ret).before a0 Z = true) (hy : y.cls ≠ "java/lang/invoke/MethodHandle" ∧ y.cls ≠ "java/lang/invoke/VarHandle")
    (hM : MetFree l y (head1 [Cond.code y bytes maxL ret] rm) (fun a U => a = as' ∧ Z.Warmed39 U.vm ∧ U.heap = h) (fun _ _ _ _ _ => True) (fun _ U o U' => ∃ v L, o = .returned v ∧ Q v U'.heap L ∧ FrameEnd U o U' L rm.cells rm.slots))
    {W : Nat} (hf : rm.frames + 1 ≤ R.frames) (hl : W + (maxL + 11) + rm.locals ≤ R.locals) (hc : cells + rm.cells ≤ R.cells) (hs' : slots + rm.slots ≤ R.slots) (eT : T.heap = h)
    {g : JFrame} (hg : g.method = m) (hsize : g.locals.size = c.maxLocals) {a : Addr} {argsL rest : List Value} (hlen : ∀ sig, parseMethodDescriptor y.desc = some sig → argsL.length = sig.parameters.length)
    (hstack : g.stack = argsL.reverse ++ .ref a :: rest) (hW : 2 * g.monitorRoom + (rest.map fun v => v.category).sum ≤ W) (hdg : decode c.code g.pc = .ok (.invokespecial index, 3)) (has : (Value.ref a :: argsL).toArray = as' := by rfl) :
    ∃ v T' L', Stand p l e R s m args below meth c T' (locs ++ L') (cells + rm.cells) (slots + rm.slots) ∧ Q v T'.heap L' ∧ ∀ target, Steps p.tables e below (T'.setTop { g with pc := g.pc + 3, stack := v.toList ++ rest }) target → Steps p.tables e below (T.setTop g) target := by
  subst hret
  obtain ⟨v, vm₁, ⟨T', L', k', n'⟩, -, X', ⟨Lc, q2, l1, y1, z3⟩, st⟩ := X.specialBack hx (y := y) hnm hown (mvT hZ w1) (mvT hZ w2) (mvT hZ w4) hy (backOf (W := W) hM hZ w4 w3 hf hl) hg hsize (Steps.refl _) hlen hstack hW hdg (fun _ _ => ⟨has, eT, hc, hs'⟩)
  dsimp only [Pt.U, Pt.locs, Pt.cells, Pt.slots] at X' l1 y1 z3 st q2
  subst l1 y1 z3
  exact ⟨v, T', Lc, X', q2, fun t k => st.trans k⟩
/-- an instance method by its contract -/
theorem callV (X : Stand p l e R s m args below meth c T locs cells slots) (hx : p.tables.exec = Jvm.exec) (hZ : Z.Warmed39 s.vm)
    (hown : s.vm.findClass own = some m.cls) (w1 : (Cond.methodLink own index y).before a0 Z = true) (w2 : (Cond.declares y).before a0 Z = true) (w3 : (Cond.selects y.cls y y).before a0 Z = true) (w5 : (Cond.instanceMethod y).before a0 Z = true) (w6 : (Cond.initialized y.cls).before a0 Z = true) (w4 : (Cond.code y bytes maxL ret).before a0 Z = true) (hy : y.cls ≠ "java/lang/invoke/MethodHandle" ∧ y.cls ≠ "java/lang/invoke/VarHandle")
    (hM : MetFree l y (head1 [Cond.code y bytes maxL ret] rm) (fun a U => a = as' ∧ Z.Warmed39 U.vm ∧ U.heap = h) (fun _ _ _ _ _ => True) (fun _ U o U' => ∃ v L, o = .returned v ∧ Q v U'.heap L ∧ FrameEnd U o U' L rm.cells rm.slots))
    {W : Nat} (hf : rm.frames + 1 ≤ R.frames) (hl : W + (maxL + 11) + rm.locals ≤ R.locals) (hc : cells + rm.cells ≤ R.cells) (hs' : slots + rm.slots ≤ R.slots) (eT : T.heap = h) {a : Addr} (E : Exa Z h a y.cls)
    {g : JFrame} (hg : g.method = m) (hsize : g.locals.size = c.maxLocals) {argsL rest : List Value} (hlen : ∀ sig, parseMethodDescriptor y.desc = some sig → argsL.length = sig.parameters.length)
    (hstack : g.stack = argsL.reverse ++ .ref a :: rest) (hW : 2 * g.monitorRoom + (rest.map fun v => v.category).sum ≤ W) (hdg : decode c.code g.pc = .ok (.invokevirtual index, 3)) (has : (Value.ref a :: argsL).toArray = as' := by rfl) :
    ∃ v T' L', Stand p l e R s m args below meth c T' (locs ++ L') (cells + rm.cells) (slots + rm.slots) ∧ Q v T'.heap L' ∧ ∀ target, Steps p.tables e below (T'.setTop { g with pc := g.pc + 3, stack := v.toList ++ rest }) target → Steps p.tables e below (T.setTop g) target := by
  obtain ⟨cq, kq, qa, qb, qc⟩ := isOf hZ eT E
  obtain ⟨v, vm₁, ⟨T', L', k', n'⟩, -, X', ⟨Lc, q2, l1, y1, z3⟩, st⟩ := X.virtualBack hx (y := y) (z := y) hown (mvT hZ w1) (mvT hZ w2) (notFace_of_selects (args := #[]) (mvT hZ w3)) (mvT hZ w3) (mvT hZ w5) hy (backOf (W := W) hM hZ w4 w6 hf hl) qa qc hg hsize (Steps.refl _) hlen hstack hW hdg (fun _ _ => ⟨has, eT, hc, hs'⟩)
  dsimp only [Pt.U, Pt.locs, Pt.cells, Pt.slots] at X' l1 y1 z3 st q2
  subst l1 y1 z3
  exact ⟨v, T', Lc, X', q2, fun t k => st.trans k⟩
/-- a private method by its contract -/
theorem callR (X : Stand p l e R s m args below meth c T locs cells slots) (hx : p.tables.exec = Jvm.exec) (hZ : Z.Warmed39 s.vm)
    (hown : s.vm.findClass own = some m.cls) (w1 : (Cond.methodLink own index y).before a0 Z = true) (w2 : (Cond.privateMethod y).before a0 Z = true) {kk : Nat} (w3 : (Cond.instantiable y.cls kk).before a0 Z = true) (w5 : (Cond.instanceMethod y).before a0 Z = true) (w6 : (Cond.initialized y.cls).before a0 Z = true) (w4 : (Cond.code y bytes maxL ret).before a0 Z = true) (hy : y.cls ≠ "java/lang/invoke/MethodHandle" ∧ y.cls ≠ "java/lang/invoke/VarHandle")
    (hM : MetFree l y (head1 [Cond.code y bytes maxL ret] rm) (fun a U => a = as' ∧ Z.Warmed39 U.vm ∧ U.heap = h) (fun _ _ _ _ _ => True) (fun _ U o U' => ∃ v L, o = .returned v ∧ Q v U'.heap L ∧ FrameEnd U o U' L rm.cells rm.slots))
    {W : Nat} (hf : rm.frames + 1 ≤ R.frames) (hl : W + (maxL + 11) + rm.locals ≤ R.locals) (hc : cells + rm.cells ≤ R.cells) (hs' : slots + rm.slots ≤ R.slots) (eT : T.heap = h) {a : Addr} (E : Exa Z h a y.cls)
    {g : JFrame} (hg : g.method = m) (hsize : g.locals.size = c.maxLocals) {argsL rest : List Value} (hlen : ∀ sig, parseMethodDescriptor y.desc = some sig → argsL.length = sig.parameters.length)
    (hstack : g.stack = argsL.reverse ++ .ref a :: rest) (hW : 2 * g.monitorRoom + (rest.map fun v => v.category).sum ≤ W) (hdg : decode c.code g.pc = .ok (.invokevirtual index, 3)) (has : (Value.ref a :: argsL).toArray = as' := by rfl) :
    ∃ v T' L', Stand p l e R s m args below meth c T' (locs ++ L') (cells + rm.cells) (slots + rm.slots) ∧ Q v T'.heap L' ∧ ∀ target, Steps p.tables e below (T'.setTop { g with pc := g.pc + 3, stack := v.toList ++ rest }) target → Steps p.tables e below (T.setTop g) target := by
  obtain ⟨cq, q, q'⟩ := E.cell
  have hpr := Cond.privateMethod_at (mvP hZ w2 (args := args))
  obtain ⟨c4, k2, i1, i2, -, i4, -⟩ := Cond.instantiable_spec (mvT hZ w3 : (Cond.instantiable y.cls kk).before args s = true)
  have hsel := selects_self_of_private (args := args) i1 i2 (by simp only [Bool.or_eq_false_iff] at i4; exact i4.1) hpr (mvT hZ w5) hy
  obtain ⟨v, vm₁, ⟨T', L', k', n'⟩, -, X', ⟨Lc, q2, l1, y1, z3⟩, st⟩ := X.privateBack hx (y := y) hown (mvT hZ w1) (mvT hZ w5) hsel hpr (mvT hZ w4) hy (backOf (W := W) hM hZ w4 w6 hf hl) hg hsize (Steps.refl _) (by rw [eT]; exact q) q' hlen hstack hW hdg (fun _ _ => ⟨has, eT, hc, hs'⟩)
  dsimp only [Pt.U, Pt.locs, Pt.cells, Pt.slots] at X' l1 y1 z3 st q2
  subst l1 y1 z3
  exact ⟨v, T', Lc, X', q2, fun t k => st.trans k⟩
end Own2
end Jvm.RoadKit
namespace Jvm.Pilot.@@N@@
open Jvm Jvm.ClassFile Sem Op Lib Jvm.Free Jvm.Stand Jvm.LawKit Jvm.RoadKit Bundle Jvm.Pilot.@@N@@.Jvm.D
-- body 1 as 1: com/example/sinogrid/sinogrid/BitBuffer.<init>:()V
theorem d1_0 : decode prog_2_method_1_code 0 = .ok (.aload_n 0, 1) := by decide +kernel
theorem d1_1 : decode prog_2_method_1_code 1 = .ok (.invokespecial 1, 3) := by decide +kernel
theorem d1_4 : decode prog_2_method_1_code 4 = .ok (.aload_n 0, 1) := by decide +kernel
theorem d1_5 : decode prog_2_method_1_code 5 = .ok (.iconst 4, 1) := by decide +kernel
theorem d1_6 : decode prog_2_method_1_code 6 = .ok (.newarray .long, 2) := by decide +kernel
theorem d1_8 : decode prog_2_method_1_code 8 = .ok (.putfield 9, 3) := by decide +kernel
theorem d1_11 : decode prog_2_method_1_code 11 = .ok (.return_, 1) := by decide +kernel
theorem pn1 : plainName "com/example/sinogrid/sinogrid/BitBuffer" = true := by first | (simp [plainName, overriddenIn]; done) | decide +kernel
theorem pd1 : parseMethodDescriptor "()V" = some ⟨[], none⟩ := by decide +kernel
theorem ef1 (m : MethodId) (b0 : Addr) : entryFrame m #[(.ref b0)] 1 = mkF m 0 #[.val (.ref b0)] [] := by first | (simp [entryFrame, mkF, argsToLocals, Value.category]; done) | rfl
abbrev rx1 : Room := { frames := 1, cells := 1, slots := 4, locals := 12 }
abbrev Cx1 (Z : State) (a0 : Array Value) (p : Program) (s : State) (m : MethodId) (meth : Method) (c : Code) : Prop := p.tables.exec = Jvm.exec ∧ Z.Warmed39 s.vm ∧ (∀ d ∈ tables_1, d.before a0 Z = true) ∧ c.code = prog_2_method_1_code ∧ c.maxLocals = 1 ∧ s.vm.findClass "com/example/sinogrid/sinogrid/BitBuffer" = some m.cls ∧ meth.sig.returnType = none ∧ meth.locks = false ∧ meth.name = "<init>"
def Q1 (Z : State) (b0 : Addr) (u0_length : Int32) (h0 : Heap) (n0 : Nat) (o : List Int64) (v : Option Value) (h : Heap) (L : List Loc) : Prop := ∃ c0 : Addr, v = none ∧ Fr n0 L ∧ Keep h0 h [b0] ∧ Fld Z h b0 "com/example/sinogrid/sinogrid/BitBuffer" "words" "[J" (.ref c0) ∧ Fld Z h b0 "com/example/sinogrid/sinogrid/BitBuffer" "length" "I" (.int u0_length) ∧ h0.size ≤ c0 ∧ n0 ≤ c0 ∧ Arj Z h c0 o
def f1 (u0_length : Int32) : Option (List Int64) := some ([(0 : Int64), (0 : Int64), (0 : Int64), (0 : Int64)])
set_option maxRecDepth 65536 in
set_option maxHeartbeats 40000000 in
theorem w1_0 {p : Program} {l : Launch} {e : Env} {s : State} {m : MethodId} {args : Array Value} {below : List Frame} {meth : Method} {c : Code} {Z : State} {a0 : Array Value} {h0 : Heap} {n0 : Nat} (C : Cx1 Z a0 p s m meth c) :
    ∀ (T : State) (locs : List Loc) (hA : Heap) (b0 : Addr) (u0_length : Int32) (o : List Int64), f1 u0_length = some o → Stand p l e rx1 s m args below meth c T locs 0 0 → T.heap = hA → Fr n0 locs → Old Z n0 hA → Keep h0 hA [b0] → (Exa Z hA b0 "com/example/sinogrid/sinogrid/BitBuffer") → (Fld Z hA b0 "com/example/sinogrid/sinogrid/BitBuffer" "words" "[J" .null) → (Fld Z hA b0 "com/example/sinogrid/sinogrid/BitBuffer" "length" "I" (.int u0_length)) → (n0 ≤ b0) →  OwnOut p e s below 1 4 (Q1 Z b0 u0_length h0 n0 o) (T.setTop (mkF m 0 #[.val (.ref b0)] [])) := by
    obtain ⟨hx, hZ, hw, hby, hml, hown, hret, hlk, hnm⟩ := C
    intro T locs hA b0 u0_length o hr X0 e0 N0 O0 K0 E0 F0_words F0_length g0
    rw [f1] at hr
    refine OwnOut.go (fun t k => XS.aloadN X0.here hx rfl (hb hby d1_0) rfl rfl k) ?_
    show OwnOut p e s below 1 4 _ (T.setTop (mkF m 1 #[.val (.ref b0)] [(.ref b0)]))
    obtain ⟨T1, X1, e1, st1⟩ := initO X0 hx hZ hown (hw _ (List.mem_of_getElem? (i := 8) rfl)) (hw _ (List.mem_of_getElem? (i := 9) rfl)) (hw _ (List.mem_of_getElem? (i := 10) rfl)) e0 (g := (mkF m 1 #[.val (.ref b0)] [(.ref b0)])) rfl (by rw [hml]; rfl) rfl (hb hby d1_1) (by decide) (W := 0) (by show 2 * 0 + _ ≤ _; exact Nat.le_of_eq rfl) (by decide)
    refine OwnOut.go (fun t k => st1 _ k) ?_
    show OwnOut p e s below 1 4 _ (T1.setTop (mkF m 4 #[.val (.ref b0)] []))
    refine OwnOut.go (fun t k => XS.aloadN X1.here hx rfl (hb hby d1_4) rfl rfl k) ?_
    show OwnOut p e s below 1 4 _ (T1.setTop (mkF m 5 #[.val (.ref b0)] [(.ref b0)]))
    refine OwnOut.go (fun t k => XT.iconstV X1.here hx rfl (4 : Int32) (hb hby d1_5) rfl k) ?_
    show OwnOut p e s below 1 4 _ (T1.setTop (mkF m 6 #[.val (.ref b0)] [(.int (4 : Int32)), (.ref b0)]))
    obtain ⟨T2, h2, X2, e2, Ex2, A_2, st2⟩ := nwA X1 hx hZ (hw _ (List.mem_of_getElem? (i := 11) rfl)) e1 (rfl : nwx (0 : Int64) 4 (4 : Int32) = some [(0 : Int64), (0 : Int64), (0 : Int64), (0 : Int64)]) (f := Value.long) rfl (g := (mkF m 6 #[.val (.ref b0)] [(.int (4 : Int32)), (.ref b0)])) rfl rfl (hb hby d1_6) (by decide) (by decide) (by decide)
    obtain ⟨c2, gc2⟩ : ∃ z, z = hA.size := ⟨_, rfl⟩
    rw [← gc2] at A_2 st2
    refine OwnOut.go (fun t k => st2 _ k) ?_
    have ne0_1_2 : b0 ≠ c2 := Nat.ne_of_lt (gc2 ▸ E0.lt)
    have E0_2 := E0.ext Ex2
    have F0_words_2 := F0_words.ext Ex2
    have F0_length_2 := F0_length.ext Ex2
    have g_2 : n0 ≤ c2 := gc2 ▸ (O0.1 ▸ O0.2.1)
    have z_2 : h0.size ≤ c2 := gc2 ▸ K0.1
    have O_2 := O0.ext Ex2
    have K_2 := K0.ext Ex2
    show OwnOut p e s below 1 4 _ (T2.setTop (mkF m 8 #[.val (.ref b0)] [(.ref c2), (.ref b0)]))
    obtain ⟨T3, h3, X3, e3, W3, st3⟩ := putF X2 hx hZ hown (host := "") (Or.inl (hw _ (List.mem_of_getElem? (i := 12) rfl))) Via.refl e2 F0_words_2 E0_2 (Or.inl (hw _ (List.mem_of_getElem? (i := 13) rfl))) (hw _ (List.mem_of_getElem? (i := 3) rfl)) (ty := (.array .long)) (by decide) rfl rfl (g := (mkF m 8 #[.val (.ref b0)] [(.ref c2), (.ref b0)])) rfl rfl (hb hby d1_8)
    refine OwnOut.go (fun t k => st3 _ k) ?_
    have E0_3 := E0_2.wr W3
    have F0_words_3 := F0_words_2.same W3
    have F0_length_3 := F0_length_2.other W3 (Or.inr (slot_ne (Or.inl (hw _ (List.mem_of_getElem? (i := 25) rfl))) (Or.inl (hw _ (List.mem_of_getElem? (i := 13) rfl))) (by decide) (t := .int) (t' := (.array .long)) (by decide) (by decide)))
    have A1_3 := A_2.other W3 (Ne.symm ne0_1_2)
    have N_3 := Fr.snoc X3 N0 g0
    have O_3 := O_2.wr W3 g0
    have K_3 := K_2.wr W3 (Or.inl (List.mem_of_getElem? (i := 0) rfl))
    show OwnOut p e s below 1 4 _ (T3.setTop (mkF m 11 #[.val (.ref b0)] []))
    cases hr
    exact outV X3 hx hret (hb hby d1_11) hlk (by decide) (by decide) (by rw [e3]; exact ⟨c2, rfl, N_3, K_3, F0_words_3, F0_length_3, z_2, g_2, A1_3⟩)
set_option maxRecDepth 65536 in
set_option maxHeartbeats 40000000 in
theorem rm1 (l : Launch) (Z : State) (a0 : Array Value) (hw : ∀ d ∈ tables_1, d.before a0 Z = true) (ws : List Jvm.Cond) (b0 : Addr) (u0_length : Int32) (h0 : Heap) (n0 : Nat) (o : List Int64) (hr : f1 u0_length = some o) (O0 : Old Z n0 h0) (E0 : Exa Z h0 b0 "com/example/sinogrid/sinogrid/BitBuffer") (F0_words : Fld Z h0 b0 "com/example/sinogrid/sinogrid/BitBuffer" "words" "[J" .null) (F0_length : Fld Z h0 b0 "com/example/sinogrid/sinogrid/BitBuffer" "length" "I" (.int u0_length)) (g0 : n0 ≤ b0) :
    MetFree l (⟨"com/example/sinogrid/sinogrid/BitBuffer", "<init>", "()V"⟩ : MethodName) (head1 (Jvm.Cond.code (⟨"com/example/sinogrid/sinogrid/BitBuffer", "<init>", "()V"⟩ : MethodName) prog_2_method_1_code 1 none :: ws) rx1) (fun a U => a = #[(.ref b0)] ∧ Z.Warmed39 U.vm ∧ U.heap = h0) (fun _ _ _ _ _ => True) (fun _ U o' U' => ∃ v L, o' = .returned v ∧ Q1 Z b0 u0_length h0 n0 o v U'.heap L ∧ FrameEnd U o' U' L rx1.cells rx1.slots) := by
  refine MetFree.of_bodySF (plainFor_of_name pn1) hisR ?_
  intro p e s m args below meth c s₁ Bd hml0 hP hK
  obtain ⟨rfl, hZ, hh⟩ := hP
  have X0 : Stand p l e rx1 s m #[(.ref b0)] below meth c s₁ [] 0 0 := Stand.of_body Bd
  have e0 : s₁.heap = h0 := by rw [← hh, Bd.state]; rfl
  have hfc := findClass_of_methodNamed Bd.named
  exact OwnOut.at (ef1 m b0) (w1_0 ⟨Bd.exec, hZ, hw, Bd.bytes, hml0, hfc, Bd.returns, Bd.notSynchronized, (name_of_methodNamed Bd.named Bd.method).1⟩ _ _ _ b0 u0_length o hr X0 e0 (Fr.nil n0) O0 (Keep.refl _ _) E0 F0_words F0_length g0)
-- body 3 as 3: com/example/sinogrid/sinogrid/BitBuffer.append:(II)V
theorem d3_0 : decode prog_2_method_2_code 0 = .ok (.iload_n 2, 1) := by decide +kernel
theorem d3_1 : decode prog_2_method_2_code 1 = .ok (.ifCond .ne 4, 3) := by decide +kernel
theorem d3_4 : decode prog_2_method_2_code 4 = .ok (.return_, 1) := by decide +kernel
theorem d3_5 : decode prog_2_method_2_code 5 = .ok (.aload_n 0, 1) := by decide +kernel
theorem d3_6 : decode prog_2_method_2_code 6 = .ok (.getfield 13, 3) := by decide +kernel
theorem d3_9 : decode prog_2_method_2_code 9 = .ok (.iload_n 2, 1) := by decide +kernel
theorem d3_10 : decode prog_2_method_2_code 10 = .ok (.iadd, 1) := by decide +kernel
theorem d3_11 : decode prog_2_method_2_code 11 = .ok (.istore_n 3, 1) := by decide +kernel
theorem d3_12 : decode prog_2_method_2_code 12 = .ok (.iload_n 3, 1) := by decide +kernel
theorem d3_13 : decode prog_2_method_2_code 13 = .ok (.aload_n 0, 1) := by decide +kernel
theorem d3_14 : decode prog_2_method_2_code 14 = .ok (.getfield 9, 3) := by decide +kernel
theorem d3_17 : decode prog_2_method_2_code 17 = .ok (.arraylength, 1) := by decide +kernel
theorem d3_18 : decode prog_2_method_2_code 18 = .ok (.bipush 64, 2) := by decide +kernel
theorem d3_20 : decode prog_2_method_2_code 20 = .ok (.imul, 1) := by decide +kernel
theorem d3_21 : decode prog_2_method_2_code 21 = .ok (.if_icmp .le 33, 3) := by decide +kernel
theorem d3_25 : decode prog_2_method_2_code 25 = .ok (.aload_n 0, 1) := by decide +kernel
theorem d3_26 : decode prog_2_method_2_code 26 = .ok (.getfield 9, 3) := by decide +kernel
theorem d3_29 : decode prog_2_method_2_code 29 = .ok (.iconst 2, 1) := by decide +kernel
theorem d3_30 : decode prog_2_method_2_code 30 = .ok (.aload_n 0, 1) := by decide +kernel
theorem d3_31 : decode prog_2_method_2_code 31 = .ok (.getfield 9, 3) := by decide +kernel
theorem d3_34 : decode prog_2_method_2_code 34 = .ok (.arraylength, 1) := by decide +kernel
theorem d3_35 : decode prog_2_method_2_code 35 = .ok (.imul, 1) := by decide +kernel
theorem d3_36 : decode prog_2_method_2_code 36 = .ok (.iload_n 3, 1) := by decide +kernel
theorem d3_37 : decode prog_2_method_2_code 37 = .ok (.bipush 64, 2) := by decide +kernel
theorem d3_39 : decode prog_2_method_2_code 39 = .ok (.iadd, 1) := by decide +kernel
theorem d3_40 : decode prog_2_method_2_code 40 = .ok (.iconst 1, 1) := by decide +kernel
theorem d3_41 : decode prog_2_method_2_code 41 = .ok (.isub, 1) := by decide +kernel
theorem d3_42 : decode prog_2_method_2_code 42 = .ok (.bipush 64, 2) := by decide +kernel
theorem d3_44 : decode prog_2_method_2_code 44 = .ok (.idiv, 1) := by decide +kernel
theorem d3_45 : decode prog_2_method_2_code 45 = .ok (.invokestatic 19, 3) := by decide +kernel
theorem d3_48 : decode prog_2_method_2_code 48 = .ok (.invokestatic 25, 3) := by decide +kernel
theorem d3_51 : decode prog_2_method_2_code 51 = .ok (.putfield 9, 3) := by decide +kernel
theorem d3_54 : decode prog_2_method_2_code 54 = .ok (.iload_n 1, 1) := by decide +kernel
theorem d3_55 : decode prog_2_method_2_code 55 = .ok (.i2l, 1) := by decide +kernel
theorem d3_56 : decode prog_2_method_2_code 56 = .ok (.lconst 1, 1) := by decide +kernel
theorem d3_57 : decode prog_2_method_2_code 57 = .ok (.iload_n 2, 1) := by decide +kernel
theorem d3_58 : decode prog_2_method_2_code 58 = .ok (.lshl, 1) := by decide +kernel
theorem d3_59 : decode prog_2_method_2_code 59 = .ok (.lconst 1, 1) := by decide +kernel
theorem d3_60 : decode prog_2_method_2_code 60 = .ok (.lsub, 1) := by decide +kernel
theorem d3_61 : decode prog_2_method_2_code 61 = .ok (.land, 1) := by decide +kernel
theorem d3_62 : decode prog_2_method_2_code 62 = .ok (.lstore 4, 2) := by decide +kernel
theorem d3_64 : decode prog_2_method_2_code 64 = .ok (.aload_n 0, 1) := by decide +kernel
theorem d3_65 : decode prog_2_method_2_code 65 = .ok (.getfield 13, 3) := by decide +kernel
theorem d3_68 : decode prog_2_method_2_code 68 = .ok (.bipush 64, 2) := by decide +kernel
theorem d3_70 : decode prog_2_method_2_code 70 = .ok (.idiv, 1) := by decide +kernel
theorem d3_71 : decode prog_2_method_2_code 71 = .ok (.istore 6, 2) := by decide +kernel
theorem d3_73 : decode prog_2_method_2_code 73 = .ok (.bipush 64, 2) := by decide +kernel
theorem d3_75 : decode prog_2_method_2_code 75 = .ok (.aload_n 0, 1) := by decide +kernel
theorem d3_76 : decode prog_2_method_2_code 76 = .ok (.getfield 13, 3) := by decide +kernel
theorem d3_79 : decode prog_2_method_2_code 79 = .ok (.bipush 64, 2) := by decide +kernel
theorem d3_81 : decode prog_2_method_2_code 81 = .ok (.irem, 1) := by decide +kernel
theorem d3_82 : decode prog_2_method_2_code 82 = .ok (.isub, 1) := by decide +kernel
theorem d3_83 : decode prog_2_method_2_code 83 = .ok (.istore 7, 2) := by decide +kernel
theorem d3_85 : decode prog_2_method_2_code 85 = .ok (.iload_n 2, 1) := by decide +kernel
theorem d3_86 : decode prog_2_method_2_code 86 = .ok (.iload 7, 2) := by decide +kernel
theorem d3_88 : decode prog_2_method_2_code 88 = .ok (.if_icmp .gt 23, 3) := by decide +kernel
theorem d3_91 : decode prog_2_method_2_code 91 = .ok (.aload_n 0, 1) := by decide +kernel
theorem d3_92 : decode prog_2_method_2_code 92 = .ok (.getfield 9, 3) := by decide +kernel
theorem d3_95 : decode prog_2_method_2_code 95 = .ok (.iload 6, 2) := by decide +kernel
theorem d3_97 : decode prog_2_method_2_code 97 = .ok (.dup2, 1) := by decide +kernel
theorem d3_98 : decode prog_2_method_2_code 98 = .ok (.laload, 1) := by decide +kernel
theorem d3_99 : decode prog_2_method_2_code 99 = .ok (.lload 4, 2) := by decide +kernel
theorem d3_101 : decode prog_2_method_2_code 101 = .ok (.iload 7, 2) := by decide +kernel
theorem d3_103 : decode prog_2_method_2_code 103 = .ok (.iload_n 2, 1) := by decide +kernel
theorem d3_104 : decode prog_2_method_2_code 104 = .ok (.isub, 1) := by decide +kernel
theorem d3_105 : decode prog_2_method_2_code 105 = .ok (.lshl, 1) := by decide +kernel
theorem d3_106 : decode prog_2_method_2_code 106 = .ok (.lor, 1) := by decide +kernel
theorem d3_107 : decode prog_2_method_2_code 107 = .ok (.lastore, 1) := by decide +kernel
theorem d3_108 : decode prog_2_method_2_code 108 = .ok (.goto 42, 3) := by decide +kernel
theorem d3_111 : decode prog_2_method_2_code 111 = .ok (.aload_n 0, 1) := by decide +kernel
theorem d3_112 : decode prog_2_method_2_code 112 = .ok (.getfield 9, 3) := by decide +kernel
theorem d3_115 : decode prog_2_method_2_code 115 = .ok (.iload 6, 2) := by decide +kernel
theorem d3_117 : decode prog_2_method_2_code 117 = .ok (.dup2, 1) := by decide +kernel
theorem d3_118 : decode prog_2_method_2_code 118 = .ok (.laload, 1) := by decide +kernel
theorem d3_119 : decode prog_2_method_2_code 119 = .ok (.lload 4, 2) := by decide +kernel
theorem d3_121 : decode prog_2_method_2_code 121 = .ok (.iload_n 2, 1) := by decide +kernel
theorem d3_122 : decode prog_2_method_2_code 122 = .ok (.iload 7, 2) := by decide +kernel
theorem d3_124 : decode prog_2_method_2_code 124 = .ok (.isub, 1) := by decide +kernel
theorem d3_125 : decode prog_2_method_2_code 125 = .ok (.lushr, 1) := by decide +kernel
theorem d3_126 : decode prog_2_method_2_code 126 = .ok (.lor, 1) := by decide +kernel
theorem d3_127 : decode prog_2_method_2_code 127 = .ok (.lastore, 1) := by decide +kernel
theorem d3_128 : decode prog_2_method_2_code 128 = .ok (.aload_n 0, 1) := by decide +kernel
theorem d3_129 : decode prog_2_method_2_code 129 = .ok (.getfield 9, 3) := by decide +kernel
theorem d3_132 : decode prog_2_method_2_code 132 = .ok (.iload 6, 2) := by decide +kernel
theorem d3_134 : decode prog_2_method_2_code 134 = .ok (.iconst 1, 1) := by decide +kernel
theorem d3_135 : decode prog_2_method_2_code 135 = .ok (.iadd, 1) := by decide +kernel
theorem d3_136 : decode prog_2_method_2_code 136 = .ok (.dup2, 1) := by decide +kernel
theorem d3_137 : decode prog_2_method_2_code 137 = .ok (.laload, 1) := by decide +kernel
theorem d3_138 : decode prog_2_method_2_code 138 = .ok (.lload 4, 2) := by decide +kernel
theorem d3_140 : decode prog_2_method_2_code 140 = .ok (.bipush 64, 2) := by decide +kernel
theorem d3_142 : decode prog_2_method_2_code 142 = .ok (.iload_n 2, 1) := by decide +kernel
theorem d3_143 : decode prog_2_method_2_code 143 = .ok (.iload 7, 2) := by decide +kernel
theorem d3_145 : decode prog_2_method_2_code 145 = .ok (.isub, 1) := by decide +kernel
theorem d3_146 : decode prog_2_method_2_code 146 = .ok (.isub, 1) := by decide +kernel
theorem d3_147 : decode prog_2_method_2_code 147 = .ok (.lshl, 1) := by decide +kernel
theorem d3_148 : decode prog_2_method_2_code 148 = .ok (.lor, 1) := by decide +kernel
theorem d3_149 : decode prog_2_method_2_code 149 = .ok (.lastore, 1) := by decide +kernel
theorem d3_150 : decode prog_2_method_2_code 150 = .ok (.aload_n 0, 1) := by decide +kernel
theorem d3_151 : decode prog_2_method_2_code 151 = .ok (.iload_n 3, 1) := by decide +kernel
theorem d3_152 : decode prog_2_method_2_code 152 = .ok (.putfield 13, 3) := by decide +kernel
theorem d3_155 : decode prog_2_method_2_code 155 = .ok (.return_, 1) := by decide +kernel
theorem pn3 : plainName "com/example/sinogrid/sinogrid/BitBuffer" = true := by first | (simp [plainName, overriddenIn]; done) | decide +kernel
theorem pd3 : parseMethodDescriptor "(II)V" = some ⟨[.int, .int], none⟩ := by decide +kernel
theorem ef3 (m : MethodId) (b0 : Addr) (x1 : Int32) (x2 : Int32) : entryFrame m #[(.ref b0), (.int x1), (.int x2)] 8 = mkF m 0 #[.val (.ref b0), .val (.int x1), .val (.int x2), .unset, .unset, .unset, .unset, .unset] [] := by first | (simp [entryFrame, mkF, argsToLocals, Value.category]; done) | rfl
abbrev rx3 : Room := { frames := 0, cells := 0, slots := 0, locals := 0 }
abbrev Cx3 (Z : State) (a0 : Array Value) (p : Program) (s : State) (m : MethodId) (meth : Method) (c : Code) : Prop := p.tables.exec = Jvm.exec ∧ Z.Warmed39 s.vm ∧ (∀ d ∈ tables_1, d.before a0 Z = true) ∧ c.code = prog_2_method_2_code ∧ c.maxLocals = 8 ∧ s.vm.findClass "com/example/sinogrid/sinogrid/BitBuffer" = some m.cls ∧ meth.sig.returnType = none ∧ meth.locks = false ∧ meth.name = "append"
def Q3 (Z : State) (x1 : Int32) (x2 : Int32) (b0 : Addr) (u0_length : Int32) (b1 : Addr) (l1 : List Int64) (h0 : Heap) (n0 : Nat) (o : Int32 × List Int64) (v : Option Value) (h : Heap) (L : List Loc) : Prop := v = none ∧ Fr n0 L ∧ Keep h0 h [b0, b1] ∧ Fld Z h b0 "com/example/sinogrid/sinogrid/BitBuffer" "words" "[J" (.ref b1) ∧ Fld Z h b0 "com/example/sinogrid/sinogrid/BitBuffer" "length" "I" (.int o.1) ∧ Arj Z h b1 o.2
def f3_150 (x3 : Int32) (u0_length : Int32) (l1 : List Int64) : Option (Int32 × List Int64) := some (x3, l1)
set_option maxRecDepth 65536 in
set_option maxHeartbeats 40000000 in
theorem w3_150 {p : Program} {l : Launch} {e : Env} {s : State} {m : MethodId} {args : Array Value} {below : List Frame} {meth : Method} {c : Code} {Z : State} {a0 : Array Value} {h0 : Heap} {n0 : Nat} (C : Cx3 Z a0 p s m meth c) :
    ∀ (T : State) (locs : List Loc) (hA : Heap) (x1 : Int32) (x2 : Int32) (x3 : Int32) (x4 : Int64) (x6 : Int32) (x7 : Int32) (b0 : Addr) (u0_length : Int32) (b1 : Addr) (l1 : List Int64) (o : Int32 × List Int64), f3_150 x3 u0_length l1 = some o → Stand p l e rx3 s m args below meth c T locs 0 0 → T.heap = hA → Fr n0 locs → Old Z n0 hA → Keep h0 hA [b0, b1] → (Exa Z hA b0 "com/example/sinogrid/sinogrid/BitBuffer") → (Fld Z hA b0 "com/example/sinogrid/sinogrid/BitBuffer" "words" "[J" (.ref b1)) → (Fld Z hA b0 "com/example/sinogrid/sinogrid/BitBuffer" "length" "I" (.int u0_length)) → (Arj Z hA b1 l1) → (n0 ≤ b0) → (n0 ≤ b1) → (b0 ≠ b1) →  OwnOut p e s below 0 0 (Q3 Z default default b0 default b1 [] h0 n0 o) (T.setTop (mkF m 150 #[.val (.ref b0), .val (.int x1), .val (.int x2), .val (.int x3), .val (.long x4), .second, .val (.int x6), .val (.int x7)] [])) := by
    obtain ⟨hx, hZ, hw, hby, hml, hown, hret, hlk, hnm⟩ := C
    intro T locs hA x1 x2 x3 x4 x6 x7 b0 u0_length b1 l1 o hr X0 e0 N0 O0 K0 E0 F0_words F0_length A1 g0 g1 ne0_1
    rw [f3_150] at hr
    refine OwnOut.go (fun t k => XS.aloadN X0.here hx rfl (hb hby d3_150) rfl rfl k) ?_
    show OwnOut p e s below 0 0 _ (T.setTop (mkF m 151 #[.val (.ref b0), .val (.int x1), .val (.int x2), .val (.int x3), .val (.long x4), .second, .val (.int x6), .val (.int x7)] [(.ref b0)]))
    refine OwnOut.go (fun t k => XS.iloadN X0.here hx rfl (hb hby d3_151) rfl k) ?_
    show OwnOut p e s below 0 0 _ (T.setTop (mkF m 152 #[.val (.ref b0), .val (.int x1), .val (.int x2), .val (.int x3), .val (.long x4), .second, .val (.int x6), .val (.int x7)] [(.int x3), (.ref b0)]))
    obtain ⟨T11, h11, X11, e11, W11, st11⟩ := putF X0 hx hZ hown (host := "") (Or.inl (hw _ (List.mem_of_getElem? (i := 24) rfl))) Via.refl e0 F0_length E0 (Or.inl (hw _ (List.mem_of_getElem? (i := 25) rfl))) (hw _ (List.mem_of_getElem? (i := 3) rfl)) (ty := .int) (by decide) rfl rfl (g := (mkF m 152 #[.val (.ref b0), .val (.int x1), .val (.int x2), .val (.int x3), .val (.long x4), .second, .val (.int x6), .val (.int x7)] [(.int x3), (.ref b0)])) rfl rfl (hb hby d3_152)
    refine OwnOut.go (fun t k => st11 _ k) ?_
    have E0_11 := E0.wr W11
    have F0_words_11 := F0_words.other W11 (Or.inr (slot_ne (Or.inl (hw _ (List.mem_of_getElem? (i := 13) rfl))) (Or.inl (hw _ (List.mem_of_getElem? (i := 25) rfl))) (by decide) (t := (.array .long)) (t' := .int) (by decide) (by decide)))
    have F0_length_11 := F0_length.same W11
    have A1_11 := A1.other W11 (Ne.symm ne0_1)
    have N_11 := Fr.snoc X11 N0 g0
    have O_11 := O0.wr W11 g0
    have K_11 := K0.wr W11 (Or.inl (List.mem_of_getElem? (i := 0) rfl))
    show OwnOut p e s below 0 0 _ (T11.setTop (mkF m 155 #[.val (.ref b0), .val (.int x1), .val (.int x2), .val (.int x3), .val (.long x4), .second, .val (.int x6), .val (.int x7)] []))
    cases hr
    exact outV X11 hx hret (hb hby d3_155) hlk (by decide) (by decide) (by rw [e11]; exact ⟨rfl, N_11, K_11, F0_words_11, F0_length_11, A1_11⟩)
def f3_64 (x2 : Int32) (x3 : Int32) (x4 : Int64) (u0_length : Int32) (l1 : List Int64) : Option (Int32 × List Int64) := (if ((64 : Int32) - (u0_length % (64 : Int32))) < x2 then ((ldx l1 (u0_length / (64 : Int32))).bind fun v6 => ((stx l1 (u0_length / (64 : Int32)) (v6 ||| ((x4.toUInt64 >>> ((x2 - ((64 : Int32) - (u0_length % (64 : Int32)))) &&& 0x3f).toInt64.toUInt64).toInt64))).bind fun l_7 => ((ldx l_7 ((u0_length / (64 : Int32)) + (1 : Int32))).bind fun v9 => ((stx l_7 ((u0_length / (64 : Int32)) + (1 : Int32)) (v9 ||| (x4 <<< (((64 : Int32) - (x2 - ((64 : Int32) - (u0_length % (64 : Int32))))) &&& 0x3f).toInt64))).bind fun l_10 => (f3_150 x3 u0_length l_10))))) else ((ldx l1 (u0_length / (64 : Int32))).bind fun v13 => ((stx l1 (u0_length / (64 : Int32)) (v13 ||| (x4 <<< ((((64 : Int32) - (u0_length % (64 : Int32))) - x2) &&& 0x3f).toInt64))).bind fun l_14 => (f3_150 x3 u0_length l_14))))
set_option maxRecDepth 65536 in
set_option maxHeartbeats 40000000 in
theorem w3_64 {p : Program} {l : Launch} {e : Env} {s : State} {m : MethodId} {args : Array Value} {below : List Frame} {meth : Method} {c : Code} {Z : State} {a0 : Array Value} {h0 : Heap} {n0 : Nat} (C : Cx3 Z a0 p s m meth c) :
    ∀ (T : State) (locs : List Loc) (hA : Heap) (x1 : Int32) (x2 : Int32) (x3 : Int32) (x4 : Int64) (b0 : Addr) (u0_length : Int32) (b1 : Addr) (l1 : List Int64) (o : Int32 × List Int64), f3_64 x2 x3 x4 u0_length l1 = some o → Stand p l e rx3 s m args below meth c T locs 0 0 → T.heap = hA → Fr n0 locs → Old Z n0 hA → Keep h0 hA [b0, b1] → (Exa Z hA b0 "com/example/sinogrid/sinogrid/BitBuffer") → (Fld Z hA b0 "com/example/sinogrid/sinogrid/BitBuffer" "words" "[J" (.ref b1)) → (Fld Z hA b0 "com/example/sinogrid/sinogrid/BitBuffer" "length" "I" (.int u0_length)) → (Arj Z hA b1 l1) → (n0 ≤ b0) → (n0 ≤ b1) → (b0 ≠ b1) →  OwnOut p e s below 0 0 (Q3 Z default default b0 default b1 [] h0 n0 o) (T.setTop (mkF m 64 #[.val (.ref b0), .val (.int x1), .val (.int x2), .val (.int x3), .val (.long x4), .second, .unset, .unset] [])) := by
    obtain ⟨hx, hZ, hw, hby, hml, hown, hret, hlk, hnm⟩ := C
    intro T locs hA x1 x2 x3 x4 b0 u0_length b1 l1 o hr X0 e0 N0 O0 K0 E0 F0_words F0_length A1 g0 g1 ne0_1
    rw [f3_64] at hr
    refine OwnOut.go (fun t k => XS.aloadN X0.here hx rfl (hb hby d3_64) rfl rfl k) ?_
    show OwnOut p e s below 0 0 _ (T.setTop (mkF m 65 #[.val (.ref b0), .val (.int x1), .val (.int x2), .val (.int x3), .val (.long x4), .second, .unset, .unset] [(.ref b0)]))
    obtain ⟨T3, X3, e3, st3⟩ := getF X0 hx hZ hown (host := "") (Or.inl (hw _ (List.mem_of_getElem? (i := 24) rfl))) Via.refl e0 F0_length (g := (mkF m 65 #[.val (.ref b0), .val (.int x1), .val (.int x2), .val (.int x3), .val (.long x4), .second, .unset, .unset] [(.ref b0)])) rfl rfl (hb hby d3_65)
    refine OwnOut.go (fun t k => st3 _ k) ?_
    show OwnOut p e s below 0 0 _ (T3.setTop (mkF m 68 #[.val (.ref b0), .val (.int x1), .val (.int x2), .val (.int x3), .val (.long x4), .second, .unset, .unset] [(.int u0_length)]))
    refine OwnOut.go (fun t k => XT.bipushV X3.here hx rfl (64 : Int32) (hb hby d3_68) rfl k) ?_
    show OwnOut p e s below 0 0 _ (T3.setTop (mkF m 70 #[.val (.ref b0), .val (.int x1), .val (.int x2), .val (.int x3), .val (.long x4), .second, .unset, .unset] [(.int (64 : Int32)), (.int u0_length)]))
    refine OwnOut.go (fun t k => XS.idiv X3.here hx rfl (hb hby d3_70) rfl (by decide) k) ?_
    show OwnOut p e s below 0 0 _ (T3.setTop (mkF m 71 #[.val (.ref b0), .val (.int x1), .val (.int x2), .val (.int x3), .val (.long x4), .second, .unset, .unset] [(.int (u0_length / (64 : Int32)))]))
    refine OwnOut.go (fun t k => XS.istore X3.here hx rfl (hb hby d3_71) rfl (l' := #[.val (.ref b0), .val (.int x1), .val (.int x2), .val (.int x3), .val (.long x4), .second, .val (.int (u0_length / (64 : Int32))), .unset]) rfl k) ?_
    show OwnOut p e s below 0 0 _ (T3.setTop (mkF m 73 #[.val (.ref b0), .val (.int x1), .val (.int x2), .val (.int x3), .val (.long x4), .second, .val (.int (u0_length / (64 : Int32))), .unset] []))
    refine OwnOut.go (fun t k => XT.bipushV X3.here hx rfl (64 : Int32) (hb hby d3_73) rfl k) ?_
    show OwnOut p e s below 0 0 _ (T3.setTop (mkF m 75 #[.val (.ref b0), .val (.int x1), .val (.int x2), .val (.int x3), .val (.long x4), .second, .val (.int (u0_length / (64 : Int32))), .unset] [(.int (64 : Int32))]))
    refine OwnOut.go (fun t k => XS.aloadN X3.here hx rfl (hb hby d3_75) rfl rfl k) ?_
    show OwnOut p e s below 0 0 _ (T3.setTop (mkF m 76 #[.val (.ref b0), .val (.int x1), .val (.int x2), .val (.int x3), .val (.long x4), .second, .val (.int (u0_length / (64 : Int32))), .unset] [(.ref b0), (.int (64 : Int32))]))
    obtain ⟨T4, X4, e4, st4⟩ := getF X3 hx hZ hown (host := "") (Or.inl (hw _ (List.mem_of_getElem? (i := 24) rfl))) Via.refl e3 F0_length (g := (mkF m 76 #[.val (.ref b0), .val (.int x1), .val (.int x2), .val (.int x3), .val (.long x4), .second, .val (.int (u0_length / (64 : Int32))), .unset] [(.ref b0), (.int (64 : Int32))])) rfl rfl (hb hby d3_76)
    refine OwnOut.go (fun t k => st4 _ k) ?_
    show OwnOut p e s below 0 0 _ (T4.setTop (mkF m 79 #[.val (.ref b0), .val (.int x1), .val (.int x2), .val (.int x3), .val (.long x4), .second, .val (.int (u0_length / (64 : Int32))), .unset] [(.int u0_length), (.int (64 : Int32))]))
    refine OwnOut.go (fun t k => XT.bipushV X4.here hx rfl (64 : Int32) (hb hby d3_79) rfl k) ?_
    show OwnOut p e s below 0 0 _ (T4.setTop (mkF m 81 #[.val (.ref b0), .val (.int x1), .val (.int x2), .val (.int x3), .val (.long x4), .second, .val (.int (u0_length / (64 : Int32))), .unset] [(.int (64 : Int32)), (.int u0_length), (.int (64 : Int32))]))
    refine OwnOut.go (fun t k => iremM X4 hx rfl (hb hby d3_81) rfl (by decide) k) ?_
    show OwnOut p e s below 0 0 _ (T4.setTop (mkF m 82 #[.val (.ref b0), .val (.int x1), .val (.int x2), .val (.int x3), .val (.long x4), .second, .val (.int (u0_length / (64 : Int32))), .unset] [(.int (u0_length % (64 : Int32))), (.int (64 : Int32))]))
    refine OwnOut.go (fun t k => XS.isub X4.here hx rfl (hb hby d3_82) rfl k) ?_
    show OwnOut p e s below 0 0 _ (T4.setTop (mkF m 83 #[.val (.ref b0), .val (.int x1), .val (.int x2), .val (.int x3), .val (.long x4), .second, .val (.int (u0_length / (64 : Int32))), .unset] [(.int ((64 : Int32) - (u0_length % (64 : Int32))))]))
    refine OwnOut.go (fun t k => XS.istore X4.here hx rfl (hb hby d3_83) rfl (l' := #[.val (.ref b0), .val (.int x1), .val (.int x2), .val (.int x3), .val (.long x4), .second, .val (.int (u0_length / (64 : Int32))), .val (.int ((64 : Int32) - (u0_length % (64 : Int32))))]) rfl k) ?_
    show OwnOut p e s below 0 0 _ (T4.setTop (mkF m 85 #[.val (.ref b0), .val (.int x1), .val (.int x2), .val (.int x3), .val (.long x4), .second, .val (.int (u0_length / (64 : Int32))), .val (.int ((64 : Int32) - (u0_length % (64 : Int32))))] []))
    refine OwnOut.go (fun t k => XS.iloadN X4.here hx rfl (hb hby d3_85) rfl k) ?_
    show OwnOut p e s below 0 0 _ (T4.setTop (mkF m 86 #[.val (.ref b0), .val (.int x1), .val (.int x2), .val (.int x3), .val (.long x4), .second, .val (.int (u0_length / (64 : Int32))), .val (.int ((64 : Int32) - (u0_length % (64 : Int32))))] [(.int x2)]))
    refine OwnOut.go (fun t k => XS.iload X4.here hx rfl (hb hby d3_86) rfl k) ?_
    show OwnOut p e s below 0 0 _ (T4.setTop (mkF m 88 #[.val (.ref b0), .val (.int x1), .val (.int x2), .val (.int x3), .val (.long x4), .second, .val (.int (u0_length / (64 : Int32))), .val (.int ((64 : Int32) - (u0_length % (64 : Int32))))] [(.int ((64 : Int32) - (u0_length % (64 : Int32)))), (.int x2)]))
    by_cases hc88 : ((64 : Int32) - (u0_length % (64 : Int32))) < x2
    · rw [if_pos hc88] at hr
      refine OwnOut.go (fun t k => XS.icmpYes X4.here hx rfl (pc0 := 88) (pc' := 111) rfl (hb hby d3_88) rfl (XT.ii_gt_t hc88) (by decide) (by decide) k) ?_
      show OwnOut p e s below 0 0 _ (T4.setTop (mkF m 111 #[.val (.ref b0), .val (.int x1), .val (.int x2), .val (.int x3), .val (.long x4), .second, .val (.int (u0_length / (64 : Int32))), .val (.int ((64 : Int32) - (u0_length % (64 : Int32))))] []))
      refine OwnOut.go (fun t k => XS.aloadN X4.here hx rfl (hb hby d3_111) rfl rfl k) ?_
      show OwnOut p e s below 0 0 _ (T4.setTop (mkF m 112 #[.val (.ref b0), .val (.int x1), .val (.int x2), .val (.int x3), .val (.long x4), .second, .val (.int (u0_length / (64 : Int32))), .val (.int ((64 : Int32) - (u0_length % (64 : Int32))))] [(.ref b0)]))
      obtain ⟨T5, X5, e5, st5⟩ := getF X4 hx hZ hown (host := "") (Or.inl (hw _ (List.mem_of_getElem? (i := 12) rfl))) Via.refl e4 F0_words (g := (mkF m 112 #[.val (.ref b0), .val (.int x1), .val (.int x2), .val (.int x3), .val (.long x4), .second, .val (.int (u0_length / (64 : Int32))), .val (.int ((64 : Int32) - (u0_length % (64 : Int32))))] [(.ref b0)])) rfl rfl (hb hby d3_112)
      refine OwnOut.go (fun t k => st5 _ k) ?_
      show OwnOut p e s below 0 0 _ (T5.setTop (mkF m 115 #[.val (.ref b0), .val (.int x1), .val (.int x2), .val (.int x3), .val (.long x4), .second, .val (.int (u0_length / (64 : Int32))), .val (.int ((64 : Int32) - (u0_length % (64 : Int32))))] [(.ref b1)]))
      refine OwnOut.go (fun t k => XS.iload X5.here hx rfl (hb hby d3_115) rfl k) ?_
      show OwnOut p e s below 0 0 _ (T5.setTop (mkF m 117 #[.val (.ref b0), .val (.int x1), .val (.int x2), .val (.int x3), .val (.long x4), .second, .val (.int (u0_length / (64 : Int32))), .val (.int ((64 : Int32) - (u0_length % (64 : Int32))))] [(.int (u0_length / (64 : Int32))), (.ref b1)]))
      refine OwnOut.go (W' := T5.setTop (mkF m 118 #[.val (.ref b0), .val (.int x1), .val (.int x2), .val (.int x3), .val (.long x4), .second, .val (.int (u0_length / (64 : Int32))), .val (.int ((64 : Int32) - (u0_length % (64 : Int32))))] [(.int (u0_length / (64 : Int32))), (.ref b1), (.int (u0_length / (64 : Int32))), (.ref b1)])) (fun t k => by jvm_step X5.here [X5.here.top, hx, (hb hby d3_117), Value.category]; exact k) ?_
      show OwnOut p e s below 0 0 _ (T5.setTop (mkF m 118 #[.val (.ref b0), .val (.int x1), .val (.int x2), .val (.int x3), .val (.long x4), .second, .val (.int (u0_length / (64 : Int32))), .val (.int ((64 : Int32) - (u0_length % (64 : Int32))))] [(.int (u0_length / (64 : Int32))), (.ref b1), (.int (u0_length / (64 : Int32))), (.ref b1)]))
      obtain ⟨v6, hv6, hr⟩ := Option.bind_eq_some_iff.mp hr
      refine OwnOut.go (fun t k => ldJ X5 hx hZ e5 A1 hv6 (g := (mkF m 118 #[.val (.ref b0), .val (.int x1), .val (.int x2), .val (.int x3), .val (.long x4), .second, .val (.int (u0_length / (64 : Int32))), .val (.int ((64 : Int32) - (u0_length % (64 : Int32))))] [(.int (u0_length / (64 : Int32))), (.ref b1), (.int (u0_length / (64 : Int32))), (.ref b1)])) rfl rfl (hb hby d3_118) t k) ?_
      show OwnOut p e s below 0 0 _ (T5.setTop (mkF m 119 #[.val (.ref b0), .val (.int x1), .val (.int x2), .val (.int x3), .val (.long x4), .second, .val (.int (u0_length / (64 : Int32))), .val (.int ((64 : Int32) - (u0_length % (64 : Int32))))] [(.long v6), (.int (u0_length / (64 : Int32))), (.ref b1)]))
      refine OwnOut.go (fun t k => XS.lload X5.here hx rfl (hb hby d3_119) rfl k) ?_
      show OwnOut p e s below 0 0 _ (T5.setTop (mkF m 121 #[.val (.ref b0), .val (.int x1), .val (.int x2), .val (.int x3), .val (.long x4), .second, .val (.int (u0_length / (64 : Int32))), .val (.int ((64 : Int32) - (u0_length % (64 : Int32))))] [(.long x4), (.long v6), (.int (u0_length / (64 : Int32))), (.ref b1)]))
      refine OwnOut.go (fun t k => XS.iloadN X5.here hx rfl (hb hby d3_121) rfl k) ?_
      show OwnOut p e s below 0 0 _ (T5.setTop (mkF m 122 #[.val (.ref b0), .val (.int x1), .val (.int x2), .val (.int x3), .val (.long x4), .second, .val (.int (u0_length / (64 : Int32))), .val (.int ((64 : Int32) - (u0_length % (64 : Int32))))] [(.int x2), (.long x4), (.long v6), (.int (u0_length / (64 : Int32))), (.ref b1)]))
      refine OwnOut.go (fun t k => XS.iload X5.here hx rfl (hb hby d3_122) rfl k) ?_
      show OwnOut p e s below 0 0 _ (T5.setTop (mkF m 124 #[.val (.ref b0), .val (.int x1), .val (.int x2), .val (.int x3), .val (.long x4), .second, .val (.int (u0_length / (64 : Int32))), .val (.int ((64 : Int32) - (u0_length % (64 : Int32))))] [(.int ((64 : Int32) - (u0_length % (64 : Int32)))), (.int x2), (.long x4), (.long v6), (.int (u0_length / (64 : Int32))), (.ref b1)]))
      refine OwnOut.go (fun t k => XS.isub X5.here hx rfl (hb hby d3_124) rfl k) ?_
      show OwnOut p e s below 0 0 _ (T5.setTop (mkF m 125 #[.val (.ref b0), .val (.int x1), .val (.int x2), .val (.int x3), .val (.long x4), .second, .val (.int (u0_length / (64 : Int32))), .val (.int ((64 : Int32) - (u0_length % (64 : Int32))))] [(.int (x2 - ((64 : Int32) - (u0_length % (64 : Int32))))), (.long x4), (.long v6), (.int (u0_length / (64 : Int32))), (.ref b1)]))
      refine OwnOut.go (fun t k => XS.lushr X5.here hx rfl (hb hby d3_125) rfl k) ?_
      show OwnOut p e s below 0 0 _ (T5.setTop (mkF m 126 #[.val (.ref b0), .val (.int x1), .val (.int x2), .val (.int x3), .val (.long x4), .second, .val (.int (u0_length / (64 : Int32))), .val (.int ((64 : Int32) - (u0_length % (64 : Int32))))] [(.long ((x4.toUInt64 >>> ((x2 - ((64 : Int32) - (u0_length % (64 : Int32)))) &&& 0x3f).toInt64.toUInt64).toInt64)), (.long v6), (.int (u0_length / (64 : Int32))), (.ref b1)]))
      refine OwnOut.go (fun t k => XS.lor X5.here hx rfl (hb hby d3_126) rfl k) ?_
      show OwnOut p e s below 0 0 _ (T5.setTop (mkF m 127 #[.val (.ref b0), .val (.int x1), .val (.int x2), .val (.int x3), .val (.long x4), .second, .val (.int (u0_length / (64 : Int32))), .val (.int ((64 : Int32) - (u0_length % (64 : Int32))))] [(.long (v6 ||| ((x4.toUInt64 >>> ((x2 - ((64 : Int32) - (u0_length % (64 : Int32)))) &&& 0x3f).toInt64.toUInt64).toInt64))), (.int (u0_length / (64 : Int32))), (.ref b1)]))
      obtain ⟨l_7, hl7, hr⟩ := Option.bind_eq_some_iff.mp hr
      obtain ⟨T7, h7, X7, e7, W7, A_7, st7⟩ := saJ X5 hx hZ e5 A1 hl7 (g := (mkF m 127 #[.val (.ref b0), .val (.int x1), .val (.int x2), .val (.int x3), .val (.long x4), .second, .val (.int (u0_length / (64 : Int32))), .val (.int ((64 : Int32) - (u0_length % (64 : Int32))))] [(.long (v6 ||| ((x4.toUInt64 >>> ((x2 - ((64 : Int32) - (u0_length % (64 : Int32)))) &&& 0x3f).toInt64.toUInt64).toInt64))), (.int (u0_length / (64 : Int32))), (.ref b1)])) rfl rfl (hb hby d3_127)
      refine OwnOut.go (fun t k => st7 _ k) ?_
      have E0_7 := E0.wr W7
      have F0_words_7 := F0_words.other W7 (Or.inl ne0_1)
      have F0_length_7 := F0_length.other W7 (Or.inl ne0_1)
      have N_7 := Fr.snoc X7 N0 g1
      have O_7 := O0.wr W7 g1
      have K_7 := K0.wr W7 (Or.inl (List.mem_of_getElem? (i := 1) rfl))
      show OwnOut p e s below 0 0 _ (T7.setTop (mkF m 128 #[.val (.ref b0), .val (.int x1), .val (.int x2), .val (.int x3), .val (.long x4), .second, .val (.int (u0_length / (64 : Int32))), .val (.int ((64 : Int32) - (u0_length % (64 : Int32))))] []))
      refine OwnOut.go (fun t k => XS.aloadN X7.here hx rfl (hb hby d3_128) rfl rfl k) ?_
      show OwnOut p e s below 0 0 _ (T7.setTop (mkF m 129 #[.val (.ref b0), .val (.int x1), .val (.int x2), .val (.int x3), .val (.long x4), .second, .val (.int (u0_length / (64 : Int32))), .val (.int ((64 : Int32) - (u0_length % (64 : Int32))))] [(.ref b0)]))
      obtain ⟨T8, X8, e8, st8⟩ := getF X7 hx hZ hown (host := "") (Or.inl (hw _ (List.mem_of_getElem? (i := 12) rfl))) Via.refl e7 F0_words_7 (g := (mkF m 129 #[.val (.ref b0), .val (.int x1), .val (.int x2), .val (.int x3), .val (.long x4), .second, .val (.int (u0_length / (64 : Int32))), .val (.int ((64 : Int32) - (u0_length % (64 : Int32))))] [(.ref b0)])) rfl rfl (hb hby d3_129)
      refine OwnOut.go (fun t k => st8 _ k) ?_
      show OwnOut p e s below 0 0 _ (T8.setTop (mkF m 132 #[.val (.ref b0), .val (.int x1), .val (.int x2), .val (.int x3), .val (.long x4), .second, .val (.int (u0_length / (64 : Int32))), .val (.int ((64 : Int32) - (u0_length % (64 : Int32))))] [(.ref b1)]))
      refine OwnOut.go (fun t k => XS.iload X8.here hx rfl (hb hby d3_132) rfl k) ?_
      show OwnOut p e s below 0 0 _ (T8.setTop (mkF m 134 #[.val (.ref b0), .val (.int x1), .val (.int x2), .val (.int x3), .val (.long x4), .second, .val (.int (u0_length / (64 : Int32))), .val (.int ((64 : Int32) - (u0_length % (64 : Int32))))] [(.int (u0_length / (64 : Int32))), (.ref b1)]))
      refine OwnOut.go (fun t k => XT.iconstV X8.here hx rfl (1 : Int32) (hb hby d3_134) rfl k) ?_
      show OwnOut p e s below 0 0 _ (T8.setTop (mkF m 135 #[.val (.ref b0), .val (.int x1), .val (.int x2), .val (.int x3), .val (.long x4), .second, .val (.int (u0_length / (64 : Int32))), .val (.int ((64 : Int32) - (u0_length % (64 : Int32))))] [(.int (1 : Int32)), (.int (u0_length / (64 : Int32))), (.ref b1)]))
      refine OwnOut.go (fun t k => XS.iadd X8.here hx rfl (hb hby d3_135) rfl k) ?_
      show OwnOut p e s below 0 0 _ (T8.setTop (mkF m 136 #[.val (.ref b0), .val (.int x1), .val (.int x2), .val (.int x3), .val (.long x4), .second, .val (.int (u0_length / (64 : Int32))), .val (.int ((64 : Int32) - (u0_length % (64 : Int32))))] [(.int ((u0_length / (64 : Int32)) + (1 : Int32))), (.ref b1)]))
      refine OwnOut.go (W' := T8.setTop (mkF m 137 #[.val (.ref b0), .val (.int x1), .val (.int x2), .val (.int x3), .val (.long x4), .second, .val (.int (u0_length / (64 : Int32))), .val (.int ((64 : Int32) - (u0_length % (64 : Int32))))] [(.int ((u0_length / (64 : Int32)) + (1 : Int32))), (.ref b1), (.int ((u0_length / (64 : Int32)) + (1 : Int32))), (.ref b1)])) (fun t k => by jvm_step X8.here [X8.here.top, hx, (hb hby d3_136), Value.category]; exact k) ?_
      show OwnOut p e s below 0 0 _ (T8.setTop (mkF m 137 #[.val (.ref b0), .val (.int x1), .val (.int x2), .val (.int x3), .val (.long x4), .second, .val (.int (u0_length / (64 : Int32))), .val (.int ((64 : Int32) - (u0_length % (64 : Int32))))] [(.int ((u0_length / (64 : Int32)) + (1 : Int32))), (.ref b1), (.int ((u0_length / (64 : Int32)) + (1 : Int32))), (.ref b1)]))
      obtain ⟨v9, hv9, hr⟩ := Option.bind_eq_some_iff.mp hr
      refine OwnOut.go (fun t k => ldJ X8 hx hZ e8 A_7 hv9 (g := (mkF m 137 #[.val (.ref b0), .val (.int x1), .val (.int x2), .val (.int x3), .val (.long x4), .second, .val (.int (u0_length / (64 : Int32))), .val (.int ((64 : Int32) - (u0_length % (64 : Int32))))] [(.int ((u0_length / (64 : Int32)) + (1 : Int32))), (.ref b1), (.int ((u0_length / (64 : Int32)) + (1 : Int32))), (.ref b1)])) rfl rfl (hb hby d3_137) t k) ?_
      show OwnOut p e s below 0 0 _ (T8.setTop (mkF m 138 #[.val (.ref b0), .val (.int x1), .val (.int x2), .val (.int x3), .val (.long x4), .second, .val (.int (u0_length / (64 : Int32))), .val (.int ((64 : Int32) - (u0_length % (64 : Int32))))] [(.long v9), (.int ((u0_length / (64 : Int32)) + (1 : Int32))), (.ref b1)]))
      refine OwnOut.go (fun t k => XS.lload X8.here hx rfl (hb hby d3_138) rfl k) ?_
      show OwnOut p e s below 0 0 _ (T8.setTop (mkF m 140 #[.val (.ref b0), .val (.int x1), .val (.int x2), .val (.int x3), .val (.long x4), .second, .val (.int (u0_length / (64 : Int32))), .val (.int ((64 : Int32) - (u0_length % (64 : Int32))))] [(.long x4), (.long v9), (.int ((u0_length / (64 : Int32)) + (1 : Int32))), (.ref b1)]))
      refine OwnOut.go (fun t k => XT.bipushV X8.here hx rfl (64 : Int32) (hb hby d3_140) rfl k) ?_
      show OwnOut p e s below 0 0 _ (T8.setTop (mkF m 142 #[.val (.ref b0), .val (.int x1), .val (.int x2), .val (.int x3), .val (.long x4), .second, .val (.int (u0_length / (64 : Int32))), .val (.int ((64 : Int32) - (u0_length % (64 : Int32))))] [(.int (64 : Int32)), (.long x4), (.long v9), (.int ((u0_length / (64 : Int32)) + (1 : Int32))), (.ref b1)]))
      refine OwnOut.go (fun t k => XS.iloadN X8.here hx rfl (hb hby d3_142) rfl k) ?_
      show OwnOut p e s below 0 0 _ (T8.setTop (mkF m 143 #[.val (.ref b0), .val (.int x1), .val (.int x2), .val (.int x3), .val (.long x4), .second, .val (.int (u0_length / (64 : Int32))), .val (.int ((64 : Int32) - (u0_length % (64 : Int32))))] [(.int x2), (.int (64 : Int32)), (.long x4), (.long v9), (.int ((u0_length / (64 : Int32)) + (1 : Int32))), (.ref b1)]))
      refine OwnOut.go (fun t k => XS.iload X8.here hx rfl (hb hby d3_143) rfl k) ?_
      show OwnOut p e s below 0 0 _ (T8.setTop (mkF m 145 #[.val (.ref b0), .val (.int x1), .val (.int x2), .val (.int x3), .val (.long x4), .second, .val (.int (u0_length / (64 : Int32))), .val (.int ((64 : Int32) - (u0_length % (64 : Int32))))] [(.int ((64 : Int32) - (u0_length % (64 : Int32)))), (.int x2), (.int (64 : Int32)), (.long x4), (.long v9), (.int ((u0_length / (64 : Int32)) + (1 : Int32))), (.ref b1)]))
      refine OwnOut.go (fun t k => XS.isub X8.here hx rfl (hb hby d3_145) rfl k) ?_
      show OwnOut p e s below 0 0 _ (T8.setTop (mkF m 146 #[.val (.ref b0), .val (.int x1), .val (.int x2), .val (.int x3), .val (.long x4), .second, .val (.int (u0_length / (64 : Int32))), .val (.int ((64 : Int32) - (u0_length % (64 : Int32))))] [(.int (x2 - ((64 : Int32) - (u0_length % (64 : Int32))))), (.int (64 : Int32)), (.long x4), (.long v9), (.int ((u0_length / (64 : Int32)) + (1 : Int32))), (.ref b1)]))
      refine OwnOut.go (fun t k => XS.isub X8.here hx rfl (hb hby d3_146) rfl k) ?_
      show OwnOut p e s below 0 0 _ (T8.setTop (mkF m 147 #[.val (.ref b0), .val (.int x1), .val (.int x2), .val (.int x3), .val (.long x4), .second, .val (.int (u0_length / (64 : Int32))), .val (.int ((64 : Int32) - (u0_length % (64 : Int32))))] [(.int ((64 : Int32) - (x2 - ((64 : Int32) - (u0_length % (64 : Int32)))))), (.long x4), (.long v9), (.int ((u0_length / (64 : Int32)) + (1 : Int32))), (.ref b1)]))
      refine OwnOut.go (fun t k => XS.lshl X8.here hx rfl (hb hby d3_147) rfl k) ?_
      show OwnOut p e s below 0 0 _ (T8.setTop (mkF m 148 #[.val (.ref b0), .val (.int x1), .val (.int x2), .val (.int x3), .val (.long x4), .second, .val (.int (u0_length / (64 : Int32))), .val (.int ((64 : Int32) - (u0_length % (64 : Int32))))] [(.long (x4 <<< (((64 : Int32) - (x2 - ((64 : Int32) - (u0_length % (64 : Int32))))) &&& 0x3f).toInt64)), (.long v9), (.int ((u0_length / (64 : Int32)) + (1 : Int32))), (.ref b1)]))
      refine OwnOut.go (fun t k => XS.lor X8.here hx rfl (hb hby d3_148) rfl k) ?_
      show OwnOut p e s below 0 0 _ (T8.setTop (mkF m 149 #[.val (.ref b0), .val (.int x1), .val (.int x2), .val (.int x3), .val (.long x4), .second, .val (.int (u0_length / (64 : Int32))), .val (.int ((64 : Int32) - (u0_length % (64 : Int32))))] [(.long (v9 ||| (x4 <<< (((64 : Int32) - (x2 - ((64 : Int32) - (u0_length % (64 : Int32))))) &&& 0x3f).toInt64))), (.int ((u0_length / (64 : Int32)) + (1 : Int32))), (.ref b1)]))
      obtain ⟨l_10, hl10, hr⟩ := Option.bind_eq_some_iff.mp hr
      obtain ⟨T10, h10, X10, e10, W10, A_10, st10⟩ := saJ X8 hx hZ e8 A_7 hl10 (g := (mkF m 149 #[.val (.ref b0), .val (.int x1), .val (.int x2), .val (.int x3), .val (.long x4), .second, .val (.int (u0_length / (64 : Int32))), .val (.int ((64 : Int32) - (u0_length % (64 : Int32))))] [(.long (v9 ||| (x4 <<< (((64 : Int32) - (x2 - ((64 : Int32) - (u0_length % (64 : Int32))))) &&& 0x3f).toInt64))), (.int ((u0_length / (64 : Int32)) + (1 : Int32))), (.ref b1)])) rfl rfl (hb hby d3_149)
      refine OwnOut.go (fun t k => st10 _ k) ?_
      have E0_10 := E0_7.wr W10
      have F0_words_10 := F0_words_7.other W10 (Or.inl ne0_1)
      have F0_length_10 := F0_length_7.other W10 (Or.inl ne0_1)
      have N_10 := Fr.snoc X10 N_7 g1
      have O_10 := O_7.wr W10 g1
      have K_10 := K_7.wr W10 (Or.inl (List.mem_of_getElem? (i := 1) rfl))
      show OwnOut p e s below 0 0 _ (T10.setTop (mkF m 150 #[.val (.ref b0), .val (.int x1), .val (.int x2), .val (.int x3), .val (.long x4), .second, .val (.int (u0_length / (64 : Int32))), .val (.int ((64 : Int32) - (u0_length % (64 : Int32))))] []))
      exact w3_150 ⟨hx, hZ, hw, hby, hml, hown, hret, hlk, hnm⟩  _ _ _ x1 x2 x3 x4 (u0_length / (64 : Int32)) ((64 : Int32) - (u0_length % (64 : Int32))) b0 u0_length b1 l_10 _ hr X10 e10 N_10 O_10 K_10 E0_10 F0_words_10 F0_length_10 A_10 g0 g1 ne0_1
    · rw [if_neg hc88] at hr
      refine OwnOut.go (fun t k => XS.icmpNo X4.here hx rfl (hb hby d3_88) rfl (XT.ii_gt_f hc88) k) ?_
      show OwnOut p e s below 0 0 _ (T4.setTop (mkF m 91 #[.val (.ref b0), .val (.int x1), .val (.int x2), .val (.int x3), .val (.long x4), .second, .val (.int (u0_length / (64 : Int32))), .val (.int ((64 : Int32) - (u0_length % (64 : Int32))))] []))
      refine OwnOut.go (fun t k => XS.aloadN X4.here hx rfl (hb hby d3_91) rfl rfl k) ?_
      show OwnOut p e s below 0 0 _ (T4.setTop (mkF m 92 #[.val (.ref b0), .val (.int x1), .val (.int x2), .val (.int x3), .val (.long x4), .second, .val (.int (u0_length / (64 : Int32))), .val (.int ((64 : Int32) - (u0_length % (64 : Int32))))] [(.ref b0)]))
      obtain ⟨T12, X12, e12, st12⟩ := getF X4 hx hZ hown (host := "") (Or.inl (hw _ (List.mem_of_getElem? (i := 12) rfl))) Via.refl e4 F0_words (g := (mkF m 92 #[.val (.ref b0), .val (.int x1), .val (.int x2), .val (.int x3), .val (.long x4), .second, .val (.int (u0_length / (64 : Int32))), .val (.int ((64 : Int32) - (u0_length % (64 : Int32))))] [(.ref b0)])) rfl rfl (hb hby d3_92)
      refine OwnOut.go (fun t k => st12 _ k) ?_
      show OwnOut p e s below 0 0 _ (T12.setTop (mkF m 95 #[.val (.ref b0), .val (.int x1), .val (.int x2), .val (.int x3), .val (.long x4), .second, .val (.int (u0_length / (64 : Int32))), .val (.int ((64 : Int32) - (u0_length % (64 : Int32))))] [(.ref b1)]))
      refine OwnOut.go (fun t k => XS.iload X12.here hx rfl (hb hby d3_95) rfl k) ?_
      show OwnOut p e s below 0 0 _ (T12.setTop (mkF m 97 #[.val (.ref b0), .val (.int x1), .val (.int x2), .val (.int x3), .val (.long x4), .second, .val (.int (u0_length / (64 : Int32))), .val (.int ((64 : Int32) - (u0_length % (64 : Int32))))] [(.int (u0_length / (64 : Int32))), (.ref b1)]))
      refine OwnOut.go (W' := T12.setTop (mkF m 98 #[.val (.ref b0), .val (.int x1), .val (.int x2), .val (.int x3), .val (.long x4), .second, .val (.int (u0_length / (64 : Int32))), .val (.int ((64 : Int32) - (u0_length % (64 : Int32))))] [(.int (u0_length / (64 : Int32))), (.ref b1), (.int (u0_length / (64 : Int32))), (.ref b1)])) (fun t k => by jvm_step X12.here [X12.here.top, hx, (hb hby d3_97), Value.category]; exact k) ?_
      show OwnOut p e s below 0 0 _ (T12.setTop (mkF m 98 #[.val (.ref b0), .val (.int x1), .val (.int x2), .val (.int x3), .val (.long x4), .second, .val (.int (u0_length / (64 : Int32))), .val (.int ((64 : Int32) - (u0_length % (64 : Int32))))] [(.int (u0_length / (64 : Int32))), (.ref b1), (.int (u0_length / (64 : Int32))), (.ref b1)]))
      obtain ⟨v13, hv13, hr⟩ := Option.bind_eq_some_iff.mp hr
      refine OwnOut.go (fun t k => ldJ X12 hx hZ e12 A1 hv13 (g := (mkF m 98 #[.val (.ref b0), .val (.int x1), .val (.int x2), .val (.int x3), .val (.long x4), .second, .val (.int (u0_length / (64 : Int32))), .val (.int ((64 : Int32) - (u0_length % (64 : Int32))))] [(.int (u0_length / (64 : Int32))), (.ref b1), (.int (u0_length / (64 : Int32))), (.ref b1)])) rfl rfl (hb hby d3_98) t k) ?_
      show OwnOut p e s below 0 0 _ (T12.setTop (mkF m 99 #[.val (.ref b0), .val (.int x1), .val (.int x2), .val (.int x3), .val (.long x4), .second, .val (.int (u0_length / (64 : Int32))), .val (.int ((64 : Int32) - (u0_length % (64 : Int32))))] [(.long v13), (.int (u0_length / (64 : Int32))), (.ref b1)]))
      refine OwnOut.go (fun t k => XS.lload X12.here hx rfl (hb hby d3_99) rfl k) ?_
      show OwnOut p e s below 0 0 _ (T12.setTop (mkF m 101 #[.val (.ref b0), .val (.int x1), .val (.int x2), .val (.int x3), .val (.long x4), .second, .val (.int (u0_length / (64 : Int32))), .val (.int ((64 : Int32) - (u0_length % (64 : Int32))))] [(.long x4), (.long v13), (.int (u0_length / (64 : Int32))), (.ref b1)]))
      refine OwnOut.go (fun t k => XS.iload X12.here hx rfl (hb hby d3_101) rfl k) ?_
      show OwnOut p e s below 0 0 _ (T12.setTop (mkF m 103 #[.val (.ref b0), .val (.int x1), .val (.int x2), .val (.int x3), .val (.long x4), .second, .val (.int (u0_length / (64 : Int32))), .val (.int ((64 : Int32) - (u0_length % (64 : Int32))))] [(.int ((64 : Int32) - (u0_length % (64 : Int32)))), (.long x4), (.long v13), (.int (u0_length / (64 : Int32))), (.ref b1)]))
      refine OwnOut.go (fun t k => XS.iloadN X12.here hx rfl (hb hby d3_103) rfl k) ?_
      show OwnOut p e s below 0 0 _ (T12.setTop (mkF m 104 #[.val (.ref b0), .val (.int x1), .val (.int x2), .val (.int x3), .val (.long x4), .second, .val (.int (u0_length / (64 : Int32))), .val (.int ((64 : Int32) - (u0_length % (64 : Int32))))] [(.int x2), (.int ((64 : Int32) - (u0_length % (64 : Int32)))), (.long x4), (.long v13), (.int (u0_length / (64 : Int32))), (.ref b1)]))
      refine OwnOut.go (fun t k => XS.isub X12.here hx rfl (hb hby d3_104) rfl k) ?_
      show OwnOut p e s below 0 0 _ (T12.setTop (mkF m 105 #[.val (.ref b0), .val (.int x1), .val (.int x2), .val (.int x3), .val (.long x4), .second, .val (.int (u0_length / (64 : Int32))), .val (.int ((64 : Int32) - (u0_length % (64 : Int32))))] [(.int (((64 : Int32) - (u0_length % (64 : Int32))) - x2)), (.long x4), (.long v13), (.int (u0_length / (64 : Int32))), (.ref b1)]))
      refine OwnOut.go (fun t k => XS.lshl X12.here hx rfl (hb hby d3_105) rfl k) ?_
      show OwnOut p e s below 0 0 _ (T12.setTop (mkF m 106 #[.val (.ref b0), .val (.int x1), .val (.int x2), .val (.int x3), .val (.long x4), .second, .val (.int (u0_length / (64 : Int32))), .val (.int ((64 : Int32) - (u0_length % (64 : Int32))))] [(.long (x4 <<< ((((64 : Int32) - (u0_length % (64 : Int32))) - x2) &&& 0x3f).toInt64)), (.long v13), (.int (u0_length / (64 : Int32))), (.ref b1)]))
      refine OwnOut.go (fun t k => XS.lor X12.here hx rfl (hb hby d3_106) rfl k) ?_
      show OwnOut p e s below 0 0 _ (T12.setTop (mkF m 107 #[.val (.ref b0), .val (.int x1), .val (.int x2), .val (.int x3), .val (.long x4), .second, .val (.int (u0_length / (64 : Int32))), .val (.int ((64 : Int32) - (u0_length % (64 : Int32))))] [(.long (v13 ||| (x4 <<< ((((64 : Int32) - (u0_length % (64 : Int32))) - x2) &&& 0x3f).toInt64))), (.int (u0_length / (64 : Int32))), (.ref b1)]))
      obtain ⟨l_14, hl14, hr⟩ := Option.bind_eq_some_iff.mp hr
      obtain ⟨T14, h14, X14, e14, W14, A_14, st14⟩ := saJ X12 hx hZ e12 A1 hl14 (g := (mkF m 107 #[.val (.ref b0), .val (.int x1), .val (.int x2), .val (.int x3), .val (.long x4), .second, .val (.int (u0_length / (64 : Int32))), .val (.int ((64 : Int32) - (u0_length % (64 : Int32))))] [(.long (v13 ||| (x4 <<< ((((64 : Int32) - (u0_length % (64 : Int32))) - x2) &&& 0x3f).toInt64))), (.int (u0_length / (64 : Int32))), (.ref b1)])) rfl rfl (hb hby d3_107)
      refine OwnOut.go (fun t k => st14 _ k) ?_
      have E0_14 := E0.wr W14
      have F0_words_14 := F0_words.other W14 (Or.inl ne0_1)
      have F0_length_14 := F0_length.other W14 (Or.inl ne0_1)
      have N_14 := Fr.snoc X14 N0 g1
      have O_14 := O0.wr W14 g1
      have K_14 := K0.wr W14 (Or.inl (List.mem_of_getElem? (i := 1) rfl))
      show OwnOut p e s below 0 0 _ (T14.setTop (mkF m 108 #[.val (.ref b0), .val (.int x1), .val (.int x2), .val (.int x3), .val (.long x4), .second, .val (.int (u0_length / (64 : Int32))), .val (.int ((64 : Int32) - (u0_length % (64 : Int32))))] []))
      refine OwnOut.go (fun t k => XS.goto X14.here hx rfl (pc0 := 108) (pc' := 150) rfl (hb hby d3_108) (by decide) (by decide) k) ?_
      show OwnOut p e s below 0 0 _ (T14.setTop (mkF m 150 #[.val (.ref b0), .val (.int x1), .val (.int x2), .val (.int x3), .val (.long x4), .second, .val (.int (u0_length / (64 : Int32))), .val (.int ((64 : Int32) - (u0_length % (64 : Int32))))] []))
      exact w3_150 ⟨hx, hZ, hw, hby, hml, hown, hret, hlk, hnm⟩  _ _ _ x1 x2 x3 x4 (u0_length / (64 : Int32)) ((64 : Int32) - (u0_length % (64 : Int32))) b0 u0_length b1 l_14 _ hr X14 e14 N_14 O_14 K_14 E0_14 F0_words_14 F0_length_14 A_14 g0 g1 ne0_1
def f3_54 (x1 : Int32) (x2 : Int32) (x3 : Int32) (u0_length : Int32) (l1 : List Int64) : Option (Int32 × List Int64) := (f3_64 x2 x3 ((x1.toInt64) &&& (((1 : Int64) <<< (x2 &&& 0x3f).toInt64) - (1 : Int64))) u0_length l1)
set_option maxRecDepth 65536 in
set_option maxHeartbeats 40000000 in
theorem w3_54 {p : Program} {l : Launch} {e : Env} {s : State} {m : MethodId} {args : Array Value} {below : List Frame} {meth : Method} {c : Code} {Z : State} {a0 : Array Value} {h0 : Heap} {n0 : Nat} (C : Cx3 Z a0 p s m meth c) :
    ∀ (T : State) (locs : List Loc) (hA : Heap) (x1 : Int32) (x2 : Int32) (x3 : Int32) (b0 : Addr) (u0_length : Int32) (b1 : Addr) (l1 : List Int64) (o : Int32 × List Int64), f3_54 x1 x2 x3 u0_length l1 = some o → Stand p l e rx3 s m args below meth c T locs 0 0 → T.heap = hA → Fr n0 locs → Old Z n0 hA → Keep h0 hA [b0, b1] → (Exa Z hA b0 "com/example/sinogrid/sinogrid/BitBuffer") → (Fld Z hA b0 "com/example/sinogrid/sinogrid/BitBuffer" "words" "[J" (.ref b1)) → (Fld Z hA b0 "com/example/sinogrid/sinogrid/BitBuffer" "length" "I" (.int u0_length)) → (Arj Z hA b1 l1) → (n0 ≤ b0) → (n0 ≤ b1) → (b0 ≠ b1) →  OwnOut p e s below 0 0 (Q3 Z default default b0 default b1 [] h0 n0 o) (T.setTop (mkF m 54 #[.val (.ref b0), .val (.int x1), .val (.int x2), .val (.int x3), .unset, .unset, .unset, .unset] [])) := by
    obtain ⟨hx, hZ, hw, hby, hml, hown, hret, hlk, hnm⟩ := C
    intro T locs hA x1 x2 x3 b0 u0_length b1 l1 o hr X0 e0 N0 O0 K0 E0 F0_words F0_length A1 g0 g1 ne0_1
    rw [f3_54] at hr
    refine OwnOut.go (fun t k => XS.iloadN X0.here hx rfl (hb hby d3_54) rfl k) ?_
    show OwnOut p e s below 0 0 _ (T.setTop (mkF m 55 #[.val (.ref b0), .val (.int x1), .val (.int x2), .val (.int x3), .unset, .unset, .unset, .unset] [(.int x1)]))
    refine OwnOut.go (fun t k => XS.i2l X0.here hx rfl (hb hby d3_55) rfl k) ?_
    show OwnOut p e s below 0 0 _ (T.setTop (mkF m 56 #[.val (.ref b0), .val (.int x1), .val (.int x2), .val (.int x3), .unset, .unset, .unset, .unset] [(.long (x1.toInt64))]))
    refine OwnOut.go (fun t k => XT.lconstV X0.here hx rfl (1 : Int64) (hb hby d3_56) rfl k) ?_
    show OwnOut p e s below 0 0 _ (T.setTop (mkF m 57 #[.val (.ref b0), .val (.int x1), .val (.int x2), .val (.int x3), .unset, .unset, .unset, .unset] [(.long (1 : Int64)), (.long (x1.toInt64))]))
    refine OwnOut.go (fun t k => XS.iloadN X0.here hx rfl (hb hby d3_57) rfl k) ?_
    show OwnOut p e s below 0 0 _ (T.setTop (mkF m 58 #[.val (.ref b0), .val (.int x1), .val (.int x2), .val (.int x3), .unset, .unset, .unset, .unset] [(.int x2), (.long (1 : Int64)), (.long (x1.toInt64))]))
    refine OwnOut.go (fun t k => XS.lshl X0.here hx rfl (hb hby d3_58) rfl k) ?_
    show OwnOut p e s below 0 0 _ (T.setTop (mkF m 59 #[.val (.ref b0), .val (.int x1), .val (.int x2), .val (.int x3), .unset, .unset, .unset, .unset] [(.long ((1 : Int64) <<< (x2 &&& 0x3f).toInt64)), (.long (x1.toInt64))]))
    refine OwnOut.go (fun t k => XT.lconstV X0.here hx rfl (1 : Int64) (hb hby d3_59) rfl k) ?_
    show OwnOut p e s below 0 0 _ (T.setTop (mkF m 60 #[.val (.ref b0), .val (.int x1), .val (.int x2), .val (.int x3), .unset, .unset, .unset, .unset] [(.long (1 : Int64)), (.long ((1 : Int64) <<< (x2 &&& 0x3f).toInt64)), (.long (x1.toInt64))]))
    refine OwnOut.go (fun t k => XS.lsub X0.here hx rfl (hb hby d3_60) rfl k) ?_
    show OwnOut p e s below 0 0 _ (T.setTop (mkF m 61 #[.val (.ref b0), .val (.int x1), .val (.int x2), .val (.int x3), .unset, .unset, .unset, .unset] [(.long (((1 : Int64) <<< (x2 &&& 0x3f).toInt64) - (1 : Int64))), (.long (x1.toInt64))]))
    refine OwnOut.go (fun t k => XS.land X0.here hx rfl (hb hby d3_61) rfl k) ?_
    show OwnOut p e s below 0 0 _ (T.setTop (mkF m 62 #[.val (.ref b0), .val (.int x1), .val (.int x2), .val (.int x3), .unset, .unset, .unset, .unset] [(.long ((x1.toInt64) &&& (((1 : Int64) <<< (x2 &&& 0x3f).toInt64) - (1 : Int64))))]))
    refine OwnOut.go (fun t k => XS.lstore X0.here hx rfl (hb hby d3_62) rfl (l' := #[.val (.ref b0), .val (.int x1), .val (.int x2), .val (.int x3), .val (.long ((x1.toInt64) &&& (((1 : Int64) <<< (x2 &&& 0x3f).toInt64) - (1 : Int64)))), .second, .unset, .unset]) rfl k) ?_
    show OwnOut p e s below 0 0 _ (T.setTop (mkF m 64 #[.val (.ref b0), .val (.int x1), .val (.int x2), .val (.int x3), .val (.long ((x1.toInt64) &&& (((1 : Int64) <<< (x2 &&& 0x3f).toInt64) - (1 : Int64)))), .second, .unset, .unset] []))
    exact w3_64 ⟨hx, hZ, hw, hby, hml, hown, hret, hlk, hnm⟩  _ _ _ x1 x2 x3 ((x1.toInt64) &&& (((1 : Int64) <<< (x2 &&& 0x3f).toInt64) - (1 : Int64))) b0 u0_length b1 l1 _ hr X0 e0 N0 O0 K0 E0 F0_words F0_length A1 g0 g1 ne0_1
def f3 (x1 : Int32) (x2 : Int32) (u0_length : Int32) (l1 : List Int64) : Option (Int32 × List Int64) := (if x2 = (0 : Int32) then some (u0_length, l1) else (if ((lenx l1) * (64 : Int32)) < (u0_length + x2) then none else (f3_54 x1 x2 (u0_length + x2) u0_length l1)))
set_option maxRecDepth 65536 in
set_option maxHeartbeats 40000000 in
theorem w3_0 {p : Program} {l : Launch} {e : Env} {s : State} {m : MethodId} {args : Array Value} {below : List Frame} {meth : Method} {c : Code} {Z : State} {a0 : Array Value} {h0 : Heap} {n0 : Nat} (C : Cx3 Z a0 p s m meth c) :
    ∀ (T : State) (locs : List Loc) (hA : Heap) (x1 : Int32) (x2 : Int32) (b0 : Addr) (u0_length : Int32) (b1 : Addr) (l1 : List Int64) (o : Int32 × List Int64), f3 x1 x2 u0_length l1 = some o → Stand p l e rx3 s m args below meth c T locs 0 0 → T.heap = hA → Fr n0 locs → Old Z n0 hA → Keep h0 hA [b0, b1] → (Exa Z hA b0 "com/example/sinogrid/sinogrid/BitBuffer") → (Fld Z hA b0 "com/example/sinogrid/sinogrid/BitBuffer" "words" "[J" (.ref b1)) → (Fld Z hA b0 "com/example/sinogrid/sinogrid/BitBuffer" "length" "I" (.int u0_length)) → (Arj Z hA b1 l1) → (n0 ≤ b0) → (n0 ≤ b1) → (b0 ≠ b1) →  OwnOut p e s below 0 0 (Q3 Z default default b0 default b1 [] h0 n0 o) (T.setTop (mkF m 0 #[.val (.ref b0), .val (.int x1), .val (.int x2), .unset, .unset, .unset, .unset, .unset] [])) := by
    obtain ⟨hx, hZ, hw, hby, hml, hown, hret, hlk, hnm⟩ := C
    intro T locs hA x1 x2 b0 u0_length b1 l1 o hr X0 e0 N0 O0 K0 E0 F0_words F0_length A1 g0 g1 ne0_1
    rw [f3] at hr
    refine OwnOut.go (fun t k => XS.iloadN X0.here hx rfl (hb hby d3_0) rfl k) ?_
    show OwnOut p e s below 0 0 _ (T.setTop (mkF m 1 #[.val (.ref b0), .val (.int x1), .val (.int x2), .unset, .unset, .unset, .unset, .unset] [(.int x2)]))
    by_cases hc1 : x2 = (0 : Int32)
    · rw [if_pos hc1] at hr
      refine OwnOut.go (fun t k => XS.ifNo X0.here hx rfl (hb hby d3_1) rfl (XT.i0_ne_f hc1) k) ?_
      show OwnOut p e s below 0 0 _ (T.setTop (mkF m 4 #[.val (.ref b0), .val (.int x1), .val (.int x2), .unset, .unset, .unset, .unset, .unset] []))
      cases hr
      exact outV X0 hx hret (hb hby d3_4) hlk (by decide) (by decide) (by rw [e0]; exact ⟨rfl, N0, K0, F0_words, F0_length, A1⟩)
    · rw [if_neg hc1] at hr
      refine OwnOut.go (fun t k => XS.ifYes X0.here hx rfl (pc0 := 1) (pc' := 5) rfl (hb hby d3_1) rfl (XT.i0_ne_t hc1) (by decide) (by decide) k) ?_
      show OwnOut p e s below 0 0 _ (T.setTop (mkF m 5 #[.val (.ref b0), .val (.int x1), .val (.int x2), .unset, .unset, .unset, .unset, .unset] []))
      refine OwnOut.go (fun t k => XS.aloadN X0.here hx rfl (hb hby d3_5) rfl rfl k) ?_
      show OwnOut p e s below 0 0 _ (T.setTop (mkF m 6 #[.val (.ref b0), .val (.int x1), .val (.int x2), .unset, .unset, .unset, .unset, .unset] [(.ref b0)]))
      obtain ⟨T1, X1, e1, st1⟩ := getF X0 hx hZ hown (host := "") (Or.inl (hw _ (List.mem_of_getElem? (i := 24) rfl))) Via.refl e0 F0_length (g := (mkF m 6 #[.val (.ref b0), .val (.int x1), .val (.int x2), .unset, .unset, .unset, .unset, .unset] [(.ref b0)])) rfl rfl (hb hby d3_6)
      refine OwnOut.go (fun t k => st1 _ k) ?_
      show OwnOut p e s below 0 0 _ (T1.setTop (mkF m 9 #[.val (.ref b0), .val (.int x1), .val (.int x2), .unset, .unset, .unset, .unset, .unset] [(.int u0_length)]))
      refine OwnOut.go (fun t k => XS.iloadN X1.here hx rfl (hb hby d3_9) rfl k) ?_
      show OwnOut p e s below 0 0 _ (T1.setTop (mkF m 10 #[.val (.ref b0), .val (.int x1), .val (.int x2), .unset, .unset, .unset, .unset, .unset] [(.int x2), (.int u0_length)]))
      refine OwnOut.go (fun t k => XS.iadd X1.here hx rfl (hb hby d3_10) rfl k) ?_
      show OwnOut p e s below 0 0 _ (T1.setTop (mkF m 11 #[.val (.ref b0), .val (.int x1), .val (.int x2), .unset, .unset, .unset, .unset, .unset] [(.int (u0_length + x2))]))
      refine OwnOut.go (fun t k => XS.istoreN X1.here hx rfl (hb hby d3_11) rfl (l' := #[.val (.ref b0), .val (.int x1), .val (.int x2), .val (.int (u0_length + x2)), .unset, .unset, .unset, .unset]) rfl k) ?_
      show OwnOut p e s below 0 0 _ (T1.setTop (mkF m 12 #[.val (.ref b0), .val (.int x1), .val (.int x2), .val (.int (u0_length + x2)), .unset, .unset, .unset, .unset] []))
      refine OwnOut.go (fun t k => XS.iloadN X1.here hx rfl (hb hby d3_12) rfl k) ?_
      show OwnOut p e s below 0 0 _ (T1.setTop (mkF m 13 #[.val (.ref b0), .val (.int x1), .val (.int x2), .val (.int (u0_length + x2)), .unset, .unset, .unset, .unset] [(.int (u0_length + x2))]))
      refine OwnOut.go (fun t k => XS.aloadN X1.here hx rfl (hb hby d3_13) rfl rfl k) ?_
      show OwnOut p e s below 0 0 _ (T1.setTop (mkF m 14 #[.val (.ref b0), .val (.int x1), .val (.int x2), .val (.int (u0_length + x2)), .unset, .unset, .unset, .unset] [(.ref b0), (.int (u0_length + x2))]))
      obtain ⟨T2, X2, e2, st2⟩ := getF X1 hx hZ hown (host := "") (Or.inl (hw _ (List.mem_of_getElem? (i := 12) rfl))) Via.refl e1 F0_words (g := (mkF m 14 #[.val (.ref b0), .val (.int x1), .val (.int x2), .val (.int (u0_length + x2)), .unset, .unset, .unset, .unset] [(.ref b0), (.int (u0_length + x2))])) rfl rfl (hb hby d3_14)
      refine OwnOut.go (fun t k => st2 _ k) ?_
      show OwnOut p e s below 0 0 _ (T2.setTop (mkF m 17 #[.val (.ref b0), .val (.int x1), .val (.int x2), .val (.int (u0_length + x2)), .unset, .unset, .unset, .unset] [(.ref b1), (.int (u0_length + x2))]))
      refine OwnOut.go (fun t k => lenA X2 hx hZ e2 A1 (g := (mkF m 17 #[.val (.ref b0), .val (.int x1), .val (.int x2), .val (.int (u0_length + x2)), .unset, .unset, .unset, .unset] [(.ref b1), (.int (u0_length + x2))])) rfl rfl (hb hby d3_17) t k) ?_
      show OwnOut p e s below 0 0 _ (T2.setTop (mkF m 18 #[.val (.ref b0), .val (.int x1), .val (.int x2), .val (.int (u0_length + x2)), .unset, .unset, .unset, .unset] [(.int (lenx l1)), (.int (u0_length + x2))]))
      refine OwnOut.go (fun t k => XT.bipushV X2.here hx rfl (64 : Int32) (hb hby d3_18) rfl k) ?_
      show OwnOut p e s below 0 0 _ (T2.setTop (mkF m 20 #[.val (.ref b0), .val (.int x1), .val (.int x2), .val (.int (u0_length + x2)), .unset, .unset, .unset, .unset] [(.int (64 : Int32)), (.int (lenx l1)), (.int (u0_length + x2))]))
      refine OwnOut.go (fun t k => XS.imul X2.here hx rfl (hb hby d3_20) rfl k) ?_
      show OwnOut p e s below 0 0 _ (T2.setTop (mkF m 21 #[.val (.ref b0), .val (.int x1), .val (.int x2), .val (.int (u0_length + x2)), .unset, .unset, .unset, .unset] [(.int ((lenx l1) * (64 : Int32))), (.int (u0_length + x2))]))
      by_cases hc21 : ((lenx l1) * (64 : Int32)) < (u0_length + x2)
      · rw [if_pos hc21] at hr
        cases hr
      · rw [if_neg hc21] at hr
        refine OwnOut.go (fun t k => XS.icmpYes X2.here hx rfl (pc0 := 21) (pc' := 54) rfl (hb hby d3_21) rfl (XT.ii_le_t hc21) (by decide) (by decide) k) ?_
        show OwnOut p e s below 0 0 _ (T2.setTop (mkF m 54 #[.val (.ref b0), .val (.int x1), .val (.int x2), .val (.int (u0_length + x2)), .unset, .unset, .unset, .unset] []))
        exact w3_54 ⟨hx, hZ, hw, hby, hml, hown, hret, hlk, hnm⟩  _ _ _ x1 x2 (u0_length + x2) b0 u0_length b1 l1 _ hr X2 e2 N0 O0 K0 E0 F0_words F0_length A1 g0 g1 ne0_1
set_option maxRecDepth 65536 in
set_option maxHeartbeats 40000000 in
theorem rm3 (l : Launch) (Z : State) (a0 : Array Value) (hw : ∀ d ∈ tables_1, d.before a0 Z = true) (ws : List Jvm.Cond) (x1 : Int32) (x2 : Int32) (b0 : Addr) (u0_length : Int32) (b1 : Addr) (l1 : List Int64) (h0 : Heap) (n0 : Nat) (o : Int32 × List Int64) (hr : f3 x1 x2 u0_length l1 = some o) (O0 : Old Z n0 h0) (E0 : Exa Z h0 b0 "com/example/sinogrid/sinogrid/BitBuffer") (F0_words : Fld Z h0 b0 "com/example/sinogrid/sinogrid/BitBuffer" "words" "[J" (.ref b1)) (F0_length : Fld Z h0 b0 "com/example/sinogrid/sinogrid/BitBuffer" "length" "I" (.int u0_length)) (A1 : Arj Z h0 b1 l1) (g0 : n0 ≤ b0) (g1 : n0 ≤ b1) (ne0_1 : b0 ≠ b1) :
    MetFree l (⟨"com/example/sinogrid/sinogrid/BitBuffer", "append", "(II)V"⟩ : MethodName) (head1 (Jvm.Cond.code (⟨"com/example/sinogrid/sinogrid/BitBuffer", "append", "(II)V"⟩ : MethodName) prog_2_method_2_code 8 none :: ws) rx3) (fun a U => a = #[(.ref b0), (.int x1), (.int x2)] ∧ Z.Warmed39 U.vm ∧ U.heap = h0) (fun _ _ _ _ _ => True) (fun _ U o' U' => ∃ v L, o' = .returned v ∧ Q3 Z x1 x2 b0 u0_length b1 l1 h0 n0 o v U'.heap L ∧ FrameEnd U o' U' L rx3.cells rx3.slots) := by
  refine MetFree.of_bodySF (plainFor_of_name pn3) hisR ?_
  intro p e s m args below meth c s₁ Bd hml0 hP hK
  obtain ⟨rfl, hZ, hh⟩ := hP
  have X0 : Stand p l e rx3 s m #[(.ref b0), (.int x1), (.int x2)] below meth c s₁ [] 0 0 := Stand.of_body Bd
  have e0 : s₁.heap = h0 := by rw [← hh, Bd.state]; rfl
  have hfc := findClass_of_methodNamed Bd.named
  exact OwnOut.at (ef3 m b0 x1 x2) (w3_0 ⟨Bd.exec, hZ, hw, Bd.bytes, hml0, hfc, Bd.returns, Bd.notSynchronized, (name_of_methodNamed Bd.named Bd.method).1⟩ _ _ _ x1 x2 b0 u0_length b1 l1 o hr X0 e0 (Fr.nil n0) O0 (Keep.refl _ _) E0 F0_words F0_length A1 g0 g1 ne0_1)
-- body 4 as 4: com/example/sinogrid/sinogrid/BitBuffer.toCodewords:(I)[I
theorem d4_0 : decode prog_2_method_6_code 0 = .ok (.iload_n 1, 1) := by decide +kernel
theorem d4_1 : decode prog_2_method_6_code 1 = .ok (.newarray .int, 2) := by decide +kernel
theorem d4_3 : decode prog_2_method_6_code 3 = .ok (.astore_n 2, 1) := by decide +kernel
theorem d4_4 : decode prog_2_method_6_code 4 = .ok (.aload_n 0, 1) := by decide +kernel
theorem d4_5 : decode prog_2_method_6_code 5 = .ok (.getfield 13, 3) := by decide +kernel
theorem d4_8 : decode prog_2_method_6_code 8 = .ok (.bipush 8, 2) := by decide +kernel
theorem d4_10 : decode prog_2_method_6_code 10 = .ok (.iadd, 1) := by decide +kernel
theorem d4_11 : decode prog_2_method_6_code 11 = .ok (.iconst 1, 1) := by decide +kernel
theorem d4_12 : decode prog_2_method_6_code 12 = .ok (.isub, 1) := by decide +kernel
theorem d4_13 : decode prog_2_method_6_code 13 = .ok (.bipush 8, 2) := by decide +kernel
theorem d4_15 : decode prog_2_method_6_code 15 = .ok (.idiv, 1) := by decide +kernel
theorem d4_16 : decode prog_2_method_6_code 16 = .ok (.istore_n 3, 1) := by decide +kernel
theorem d4_17 : decode prog_2_method_6_code 17 = .ok (.iconst 0, 1) := by decide +kernel
theorem d4_18 : decode prog_2_method_6_code 18 = .ok (.istore 4, 2) := by decide +kernel
theorem d4_20 : decode prog_2_method_6_code 20 = .ok (.iload 4, 2) := by decide +kernel
theorem d4_22 : decode prog_2_method_6_code 22 = .ok (.iload_n 3, 1) := by decide +kernel
theorem d4_23 : decode prog_2_method_6_code 23 = .ok (.if_icmp .ge 42, 3) := by decide +kernel
theorem d4_26 : decode prog_2_method_6_code 26 = .ok (.aload_n 2, 1) := by decide +kernel
theorem d4_27 : decode prog_2_method_6_code 27 = .ok (.iload 4, 2) := by decide +kernel
theorem d4_29 : decode prog_2_method_6_code 29 = .ok (.aload_n 0, 1) := by decide +kernel
theorem d4_30 : decode prog_2_method_6_code 30 = .ok (.getfield 9, 3) := by decide +kernel
theorem d4_33 : decode prog_2_method_6_code 33 = .ok (.iload 4, 2) := by decide +kernel
theorem d4_35 : decode prog_2_method_6_code 35 = .ok (.bipush 8, 2) := by decide +kernel
theorem d4_37 : decode prog_2_method_6_code 37 = .ok (.idiv, 1) := by decide +kernel
theorem d4_38 : decode prog_2_method_6_code 38 = .ok (.laload, 1) := by decide +kernel
theorem d4_39 : decode prog_2_method_6_code 39 = .ok (.bipush 64, 2) := by decide +kernel
theorem d4_41 : decode prog_2_method_6_code 41 = .ok (.bipush 8, 2) := by decide +kernel
theorem d4_43 : decode prog_2_method_6_code 43 = .ok (.iconst 1, 1) := by decide +kernel
theorem d4_44 : decode prog_2_method_6_code 44 = .ok (.iload 4, 2) := by decide +kernel
theorem d4_46 : decode prog_2_method_6_code 46 = .ok (.bipush 8, 2) := by decide +kernel
theorem d4_48 : decode prog_2_method_6_code 48 = .ok (.irem, 1) := by decide +kernel
theorem d4_49 : decode prog_2_method_6_code 49 = .ok (.iadd, 1) := by decide +kernel
theorem d4_50 : decode prog_2_method_6_code 50 = .ok (.imul, 1) := by decide +kernel
theorem d4_51 : decode prog_2_method_6_code 51 = .ok (.isub, 1) := by decide +kernel
theorem d4_52 : decode prog_2_method_6_code 52 = .ok (.lushr, 1) := by decide +kernel
theorem d4_53 : decode prog_2_method_6_code 53 = .ok (.l2i, 1) := by decide +kernel
theorem d4_54 : decode prog_2_method_6_code 54 = .ok (.sipush 255, 3) := by decide +kernel
theorem d4_57 : decode prog_2_method_6_code 57 = .ok (.iand, 1) := by decide +kernel
theorem d4_58 : decode prog_2_method_6_code 58 = .ok (.iastore, 1) := by decide +kernel
theorem d4_59 : decode prog_2_method_6_code 59 = .ok (.iinc 4 1, 3) := by decide +kernel
theorem d4_62 : decode prog_2_method_6_code 62 = .ok (.goto (-42), 3) := by decide +kernel
theorem d4_65 : decode prog_2_method_6_code 65 = .ok (.aload_n 2, 1) := by decide +kernel
theorem d4_66 : decode prog_2_method_6_code 66 = .ok (.areturn, 1) := by decide +kernel
theorem pn4 : plainName "com/example/sinogrid/sinogrid/BitBuffer" = true := by first | (simp [plainName, overriddenIn]; done) | decide +kernel
theorem pd4 : parseMethodDescriptor "(I)[I" = some ⟨[.int], some (.array .int)⟩ := by decide +kernel
theorem ef4 (m : MethodId) (b0 : Addr) (x1 : Int32) : entryFrame m #[(.ref b0), (.int x1)] 5 = mkF m 0 #[.val (.ref b0), .val (.int x1), .unset, .unset, .unset] [] := by first | (simp [entryFrame, mkF, argsToLocals, Value.category]; done) | rfl
abbrev rx4 : Room := { frames := 0, cells := 1, slots := 16, locals := 0 }
abbrev Cx4 (Z : State) (a0 : Array Value) (p : Program) (s : State) (m : MethodId) (meth : Method) (c : Code) : Prop := p.tables.exec = Jvm.exec ∧ Z.Warmed39 s.vm ∧ (∀ d ∈ tables_1, d.before a0 Z = true) ∧ c.code = prog_2_method_6_code ∧ c.maxLocals = 5 ∧ s.vm.findClass "com/example/sinogrid/sinogrid/BitBuffer" = some m.cls ∧ meth.sig.returnType = (some (.array .int)) ∧ meth.locks = false ∧ meth.name = "toCodewords"
def Q4 (Z : State) (x1 : Int32) (b0 : Addr) (u0_length : Int32) (b1 : Addr) (l1 : List Int64) (h0 : Heap) (n0 : Nat) (o : List Int32) (v : Option Value) (h : Heap) (L : List Loc) : Prop := ∃ c0 : Addr, v = some (.ref c0) ∧ Fr n0 L ∧ Keep h0 h [] ∧ h0.size ≤ c0 ∧ n0 ≤ c0 ∧ Ari Z h c0 .int o
def f4_20 : Nat → Int32 → Int32 → Int32 → (List Int64) → (List Int32) → Option (List Int32)
  | 0, _, _, _, _, _ => none
  | n + 1, x3, x4, u0_length, l1, l2 => (if x4 < x3 then ((ldx l1 (x4 / (8 : Int32))).bind fun v4 => ((stx l2 x4 ((((v4.toUInt64 >>> (((64 : Int32) - ((8 : Int32) * ((1 : Int32) + (x4 % (8 : Int32))))) &&& 0x3f).toInt64.toUInt64).toInt64).toInt32) &&& (255 : Int32))).bind fun l_5 => (f4_20 n x3 (x4 + (1 : Int32)) u0_length l1 l_5))) else some (l2))
set_option maxRecDepth 65536 in
set_option maxHeartbeats 40000000 in
theorem w4_20 {p : Program} {l : Launch} {e : Env} {s : State} {m : MethodId} {args : Array Value} {below : List Frame} {meth : Method} {c : Code} {Z : State} {a0 : Array Value} {h0 : Heap} {n0 : Nat} (C : Cx4 Z a0 p s m meth c) (n : Nat) :
    ∀ (T : State) (locs : List Loc) (hA : Heap) (x1 : Int32) (x3 : Int32) (x4 : Int32) (b0 : Addr) (u0_length : Int32) (b1 : Addr) (l1 : List Int64) (b2 : Addr) (l2 : List Int32) (o : List Int32), f4_20 n x3 x4 u0_length l1 l2 = some o → Stand p l e rx4 s m args below meth c T locs 1 16 → T.heap = hA → Fr n0 locs → Old Z n0 hA → Keep h0 hA [] → (Exa Z hA b0 "com/example/sinogrid/sinogrid/BitBuffer") → (Fld Z hA b0 "com/example/sinogrid/sinogrid/BitBuffer" "words" "[J" (.ref b1)) → (Fld Z hA b0 "com/example/sinogrid/sinogrid/BitBuffer" "length" "I" (.int u0_length)) → (Arj Z hA b1 l1) → (Ari Z hA b2 .int l2) → (n0 ≤ b0) → (n0 ≤ b1) → (n0 ≤ b2) → (h0.size ≤ b2) → (b0 ≠ b1) → (b0 ≠ b2) → (b1 ≠ b2) →  OwnOut p e s below 1 16 (Q4 Z default b0 u0_length b1 l1 h0 n0 o) (T.setTop (mkF m 20 #[.val (.ref b0), .val (.int x1), .val (.ref b2), .val (.int x3), .val (.int x4)] [])) := by
  obtain ⟨hx, hZ, hw, hby, hml, hown, hret, hlk, hnm⟩ := C
  induction n with
  | zero => intro T locs hA x1 x3 x4 b0 u0_length b1 l1 b2 l2 o hr X0 e0 N0 O0 K0 E0 F0_words F0_length A1 A2 g0 g1 g2 z2 ne0_1 ne0_2 ne1_2; rw [f4_20] at hr; cases hr
  | succ n ih =>
    intro T locs hA x1 x3 x4 b0 u0_length b1 l1 b2 l2 o hr X0 e0 N0 O0 K0 E0 F0_words F0_length A1 A2 g0 g1 g2 z2 ne0_1 ne0_2 ne1_2
    rw [f4_20] at hr
    refine OwnOut.go (fun t k => XS.iload X0.here hx rfl (hb hby d4_20) rfl k) ?_
    show OwnOut p e s below 1 16 _ (T.setTop (mkF m 22 #[.val (.ref b0), .val (.int x1), .val (.ref b2), .val (.int x3), .val (.int x4)] [(.int x4)]))
    refine OwnOut.go (fun t k => XS.iloadN X0.here hx rfl (hb hby d4_22) rfl k) ?_
    show OwnOut p e s below 1 16 _ (T.setTop (mkF m 23 #[.val (.ref b0), .val (.int x1), .val (.ref b2), .val (.int x3), .val (.int x4)] [(.int x3), (.int x4)]))
    by_cases hc23 : x4 < x3
    · rw [if_pos hc23] at hr
      refine OwnOut.go (fun t k => XS.icmpNo X0.here hx rfl (hb hby d4_23) rfl (XT.ii_ge_f hc23) k) ?_
      show OwnOut p e s below 1 16 _ (T.setTop (mkF m 26 #[.val (.ref b0), .val (.int x1), .val (.ref b2), .val (.int x3), .val (.int x4)] []))
      refine OwnOut.go (fun t k => XS.aloadN X0.here hx rfl (hb hby d4_26) rfl rfl k) ?_
      show OwnOut p e s below 1 16 _ (T.setTop (mkF m 27 #[.val (.ref b0), .val (.int x1), .val (.ref b2), .val (.int x3), .val (.int x4)] [(.ref b2)]))
      refine OwnOut.go (fun t k => XS.iload X0.here hx rfl (hb hby d4_27) rfl k) ?_
      show OwnOut p e s below 1 16 _ (T.setTop (mkF m 29 #[.val (.ref b0), .val (.int x1), .val (.ref b2), .val (.int x3), .val (.int x4)] [(.int x4), (.ref b2)]))
      refine OwnOut.go (fun t k => XS.aloadN X0.here hx rfl (hb hby d4_29) rfl rfl k) ?_
      show OwnOut p e s below 1 16 _ (T.setTop (mkF m 30 #[.val (.ref b0), .val (.int x1), .val (.ref b2), .val (.int x3), .val (.int x4)] [(.ref b0), (.int x4), (.ref b2)]))
      obtain ⟨T3, X3, e3, st3⟩ := getF X0 hx hZ hown (host := "") (Or.inl (hw _ (List.mem_of_getElem? (i := 12) rfl))) Via.refl e0 F0_words (g := (mkF m 30 #[.val (.ref b0), .val (.int x1), .val (.ref b2), .val (.int x3), .val (.int x4)] [(.ref b0), (.int x4), (.ref b2)])) rfl rfl (hb hby d4_30)
      refine OwnOut.go (fun t k => st3 _ k) ?_
      show OwnOut p e s below 1 16 _ (T3.setTop (mkF m 33 #[.val (.ref b0), .val (.int x1), .val (.ref b2), .val (.int x3), .val (.int x4)] [(.ref b1), (.int x4), (.ref b2)]))
      refine OwnOut.go (fun t k => XS.iload X3.here hx rfl (hb hby d4_33) rfl k) ?_
      show OwnOut p e s below 1 16 _ (T3.setTop (mkF m 35 #[.val (.ref b0), .val (.int x1), .val (.ref b2), .val (.int x3), .val (.int x4)] [(.int x4), (.ref b1), (.int x4), (.ref b2)]))
      refine OwnOut.go (fun t k => XT.bipushV X3.here hx rfl (8 : Int32) (hb hby d4_35) rfl k) ?_
      show OwnOut p e s below 1 16 _ (T3.setTop (mkF m 37 #[.val (.ref b0), .val (.int x1), .val (.ref b2), .val (.int x3), .val (.int x4)] [(.int (8 : Int32)), (.int x4), (.ref b1), (.int x4), (.ref b2)]))
      refine OwnOut.go (fun t k => XS.idiv X3.here hx rfl (hb hby d4_37) rfl (by decide) k) ?_
      show OwnOut p e s below 1 16 _ (T3.setTop (mkF m 38 #[.val (.ref b0), .val (.int x1), .val (.ref b2), .val (.int x3), .val (.int x4)] [(.int (x4 / (8 : Int32))), (.ref b1), (.int x4), (.ref b2)]))
      obtain ⟨v4, hv4, hr⟩ := Option.bind_eq_some_iff.mp hr
      refine OwnOut.go (fun t k => ldJ X3 hx hZ e3 A1 hv4 (g := (mkF m 38 #[.val (.ref b0), .val (.int x1), .val (.ref b2), .val (.int x3), .val (.int x4)] [(.int (x4 / (8 : Int32))), (.ref b1), (.int x4), (.ref b2)])) rfl rfl (hb hby d4_38) t k) ?_
      show OwnOut p e s below 1 16 _ (T3.setTop (mkF m 39 #[.val (.ref b0), .val (.int x1), .val (.ref b2), .val (.int x3), .val (.int x4)] [(.long v4), (.int x4), (.ref b2)]))
      refine OwnOut.go (fun t k => XT.bipushV X3.here hx rfl (64 : Int32) (hb hby d4_39) rfl k) ?_
      show OwnOut p e s below 1 16 _ (T3.setTop (mkF m 41 #[.val (.ref b0), .val (.int x1), .val (.ref b2), .val (.int x3), .val (.int x4)] [(.int (64 : Int32)), (.long v4), (.int x4), (.ref b2)]))
      refine OwnOut.go (fun t k => XT.bipushV X3.here hx rfl (8 : Int32) (hb hby d4_41) rfl k) ?_
      show OwnOut p e s below 1 16 _ (T3.setTop (mkF m 43 #[.val (.ref b0), .val (.int x1), .val (.ref b2), .val (.int x3), .val (.int x4)] [(.int (8 : Int32)), (.int (64 : Int32)), (.long v4), (.int x4), (.ref b2)]))
      refine OwnOut.go (fun t k => XT.iconstV X3.here hx rfl (1 : Int32) (hb hby d4_43) rfl k) ?_
      show OwnOut p e s below 1 16 _ (T3.setTop (mkF m 44 #[.val (.ref b0), .val (.int x1), .val (.ref b2), .val (.int x3), .val (.int x4)] [(.int (1 : Int32)), (.int (8 : Int32)), (.int (64 : Int32)), (.long v4), (.int x4), (.ref b2)]))
      refine OwnOut.go (fun t k => XS.iload X3.here hx rfl (hb hby d4_44) rfl k) ?_
      show OwnOut p e s below 1 16 _ (T3.setTop (mkF m 46 #[.val (.ref b0), .val (.int x1), .val (.ref b2), .val (.int x3), .val (.int x4)] [(.int x4), (.int (1 : Int32)), (.int (8 : Int32)), (.int (64 : Int32)), (.long v4), (.int x4), (.ref b2)]))
      refine OwnOut.go (fun t k => XT.bipushV X3.here hx rfl (8 : Int32) (hb hby d4_46) rfl k) ?_
      show OwnOut p e s below 1 16 _ (T3.setTop (mkF m 48 #[.val (.ref b0), .val (.int x1), .val (.ref b2), .val (.int x3), .val (.int x4)] [(.int (8 : Int32)), (.int x4), (.int (1 : Int32)), (.int (8 : Int32)), (.int (64 : Int32)), (.long v4), (.int x4), (.ref b2)]))
      refine OwnOut.go (fun t k => iremM X3 hx rfl (hb hby d4_48) rfl (by decide) k) ?_
      show OwnOut p e s below 1 16 _ (T3.setTop (mkF m 49 #[.val (.ref b0), .val (.int x1), .val (.ref b2), .val (.int x3), .val (.int x4)] [(.int (x4 % (8 : Int32))), (.int (1 : Int32)), (.int (8 : Int32)), (.int (64 : Int32)), (.long v4), (.int x4), (.ref b2)]))
      refine OwnOut.go (fun t k => XS.iadd X3.here hx rfl (hb hby d4_49) rfl k) ?_
      show OwnOut p e s below 1 16 _ (T3.setTop (mkF m 50 #[.val (.ref b0), .val (.int x1), .val (.ref b2), .val (.int x3), .val (.int x4)] [(.int ((1 : Int32) + (x4 % (8 : Int32)))), (.int (8 : Int32)), (.int (64 : Int32)), (.long v4), (.int x4), (.ref b2)]))
      refine OwnOut.go (fun t k => XS.imul X3.here hx rfl (hb hby d4_50) rfl k) ?_
      show OwnOut p e s below 1 16 _ (T3.setTop (mkF m 51 #[.val (.ref b0), .val (.int x1), .val (.ref b2), .val (.int x3), .val (.int x4)] [(.int ((8 : Int32) * ((1 : Int32) + (x4 % (8 : Int32))))), (.int (64 : Int32)), (.long v4), (.int x4), (.ref b2)]))
      refine OwnOut.go (fun t k => XS.isub X3.here hx rfl (hb hby d4_51) rfl k) ?_
      show OwnOut p e s below 1 16 _ (T3.setTop (mkF m 52 #[.val (.ref b0), .val (.int x1), .val (.ref b2), .val (.int x3), .val (.int x4)] [(.int ((64 : Int32) - ((8 : Int32) * ((1 : Int32) + (x4 % (8 : Int32)))))), (.long v4), (.int x4), (.ref b2)]))
      refine OwnOut.go (fun t k => XS.lushr X3.here hx rfl (hb hby d4_52) rfl k) ?_
      show OwnOut p e s below 1 16 _ (T3.setTop (mkF m 53 #[.val (.ref b0), .val (.int x1), .val (.ref b2), .val (.int x3), .val (.int x4)] [(.long ((v4.toUInt64 >>> (((64 : Int32) - ((8 : Int32) * ((1 : Int32) + (x4 % (8 : Int32))))) &&& 0x3f).toInt64.toUInt64).toInt64)), (.int x4), (.ref b2)]))
      refine OwnOut.go (fun t k => XS.l2i X3.here hx rfl (hb hby d4_53) rfl k) ?_
      show OwnOut p e s below 1 16 _ (T3.setTop (mkF m 54 #[.val (.ref b0), .val (.int x1), .val (.ref b2), .val (.int x3), .val (.int x4)] [(.int (((v4.toUInt64 >>> (((64 : Int32) - ((8 : Int32) * ((1 : Int32) + (x4 % (8 : Int32))))) &&& 0x3f).toInt64.toUInt64).toInt64).toInt32)), (.int x4), (.ref b2)]))
      refine OwnOut.go (fun t k => XT.sipushV X3.here hx rfl (255 : Int32) (hb hby d4_54) rfl k) ?_
      show OwnOut p e s below 1 16 _ (T3.setTop (mkF m 57 #[.val (.ref b0), .val (.int x1), .val (.ref b2), .val (.int x3), .val (.int x4)] [(.int (255 : Int32)), (.int (((v4.toUInt64 >>> (((64 : Int32) - ((8 : Int32) * ((1 : Int32) + (x4 % (8 : Int32))))) &&& 0x3f).toInt64.toUInt64).toInt64).toInt32)), (.int x4), (.ref b2)]))
      refine OwnOut.go (fun t k => XS.iand X3.here hx rfl (hb hby d4_57) rfl k) ?_
      show OwnOut p e s below 1 16 _ (T3.setTop (mkF m 58 #[.val (.ref b0), .val (.int x1), .val (.ref b2), .val (.int x3), .val (.int x4)] [(.int ((((v4.toUInt64 >>> (((64 : Int32) - ((8 : Int32) * ((1 : Int32) + (x4 % (8 : Int32))))) &&& 0x3f).toInt64.toUInt64).toInt64).toInt32) &&& (255 : Int32))), (.int x4), (.ref b2)]))
      obtain ⟨l_5, hl5, hr⟩ := Option.bind_eq_some_iff.mp hr
      obtain ⟨T5, h5, X5, e5, W5, A_5, st5⟩ := saI X3 hx hZ e3 A2 hl5 (g := (mkF m 58 #[.val (.ref b0), .val (.int x1), .val (.ref b2), .val (.int x3), .val (.int x4)] [(.int ((((v4.toUInt64 >>> (((64 : Int32) - ((8 : Int32) * ((1 : Int32) + (x4 % (8 : Int32))))) &&& 0x3f).toInt64.toUInt64).toInt64).toInt32) &&& (255 : Int32))), (.int x4), (.ref b2)])) rfl rfl (hb hby d4_58)
      refine OwnOut.go (fun t k => st5 _ k) ?_
      have E0_5 := E0.wr W5
      have F0_words_5 := F0_words.other W5 (Or.inl ne0_2)
      have F0_length_5 := F0_length.other W5 (Or.inl ne0_2)
      have A1_5 := A1.other W5 ne1_2
      have N_5 := Fr.snoc X5 N0 g2
      have O_5 := O0.wr W5 g2
      have K_5 := K0.wr W5 (Or.inr z2)
      show OwnOut p e s below 1 16 _ (T5.setTop (mkF m 59 #[.val (.ref b0), .val (.int x1), .val (.ref b2), .val (.int x3), .val (.int x4)] []))
      refine OwnOut.go (fun t k => XT.iincV X5.here hx rfl (1 : Int32) (hb hby d4_59) rfl rfl (l' := #[.val (.ref b0), .val (.int x1), .val (.ref b2), .val (.int x3), .val (.int (x4 + (1 : Int32)))]) rfl k) ?_
      show OwnOut p e s below 1 16 _ (T5.setTop (mkF m 62 #[.val (.ref b0), .val (.int x1), .val (.ref b2), .val (.int x3), .val (.int (x4 + (1 : Int32)))] []))
      refine OwnOut.go (fun t k => XS.goto X5.here hx rfl (pc0 := 62) (pc' := 20) rfl (hb hby d4_62) (by decide) (by decide) k) ?_
      show OwnOut p e s below 1 16 _ (T5.setTop (mkF m 20 #[.val (.ref b0), .val (.int x1), .val (.ref b2), .val (.int x3), .val (.int (x4 + (1 : Int32)))] []))
      exact ih _ _ _ x1 x3 (x4 + (1 : Int32)) b0 u0_length b1 l1 b2 l_5 _ hr X5 e5 N_5 O_5 K_5 E0_5 F0_words_5 F0_length_5 A1_5 A_5 g0 g1 g2 z2 ne0_1 ne0_2 ne1_2
    · rw [if_neg hc23] at hr
      refine OwnOut.go (fun t k => XS.icmpYes X0.here hx rfl (pc0 := 23) (pc' := 65) rfl (hb hby d4_23) rfl (XT.ii_ge_t hc23) (by decide) (by decide) k) ?_
      show OwnOut p e s below 1 16 _ (T.setTop (mkF m 65 #[.val (.ref b0), .val (.int x1), .val (.ref b2), .val (.int x3), .val (.int x4)] []))
      refine OwnOut.go (fun t k => XS.aloadN X0.here hx rfl (hb hby d4_65) rfl rfl k) ?_
      show OwnOut p e s below 1 16 _ (T.setTop (mkF m 66 #[.val (.ref b0), .val (.int x1), .val (.ref b2), .val (.int x3), .val (.int x4)] [(.ref b2)]))
      cases hr
      exact outA X0 hx rfl hret rfl (hb hby d4_66) hlk (by decide) (by decide) (by rw [e0]; exact ⟨b2, rfl, N0, K0, z2, g2, A2⟩)
def f4 (x1 : Int32) (u0_length : Int32) (l1 : List Int64) : Option (List Int32) := ((nwx (0 : Int32) 16 x1).bind fun l_1 => (f4_20 20 (((u0_length + (8 : Int32)) - (1 : Int32)) / (8 : Int32)) (0 : Int32) u0_length l1 l_1))
set_option maxRecDepth 65536 in
set_option maxHeartbeats 40000000 in
theorem w4_0 {p : Program} {l : Launch} {e : Env} {s : State} {m : MethodId} {args : Array Value} {below : List Frame} {meth : Method} {c : Code} {Z : State} {a0 : Array Value} {h0 : Heap} {n0 : Nat} (C : Cx4 Z a0 p s m meth c) :
    ∀ (T : State) (locs : List Loc) (hA : Heap) (x1 : Int32) (b0 : Addr) (u0_length : Int32) (b1 : Addr) (l1 : List Int64) (o : List Int32), f4 x1 u0_length l1 = some o → Stand p l e rx4 s m args below meth c T locs 0 0 → T.heap = hA → Fr n0 locs → Old Z n0 hA → Keep h0 hA [] → (Exa Z hA b0 "com/example/sinogrid/sinogrid/BitBuffer") → (Fld Z hA b0 "com/example/sinogrid/sinogrid/BitBuffer" "words" "[J" (.ref b1)) → (Fld Z hA b0 "com/example/sinogrid/sinogrid/BitBuffer" "length" "I" (.int u0_length)) → (Arj Z hA b1 l1) → (n0 ≤ b0) → (n0 ≤ b1) → (b0 ≠ b1) →  OwnOut p e s below 1 16 (Q4 Z default b0 u0_length b1 l1 h0 n0 o) (T.setTop (mkF m 0 #[.val (.ref b0), .val (.int x1), .unset, .unset, .unset] [])) := by
    obtain ⟨hx, hZ, hw, hby, hml, hown, hret, hlk, hnm⟩ := C
    intro T locs hA x1 b0 u0_length b1 l1 o hr X0 e0 N0 O0 K0 E0 F0_words F0_length A1 g0 g1 ne0_1
    rw [f4] at hr
    refine OwnOut.go (fun t k => XS.iloadN X0.here hx rfl (hb hby d4_0) rfl k) ?_
    show OwnOut p e s below 1 16 _ (T.setTop (mkF m 1 #[.val (.ref b0), .val (.int x1), .unset, .unset, .unset] [(.int x1)]))
    obtain ⟨l_1, hl1, hr⟩ := Option.bind_eq_some_iff.mp hr
    obtain ⟨T1, h1, X1, e1, Ex1, A_1, st1⟩ := nwA X0 hx hZ (hw _ (List.mem_of_getElem? (i := 1) rfl)) e0 hl1 (f := Value.int) rfl (g := (mkF m 1 #[.val (.ref b0), .val (.int x1), .unset, .unset, .unset] [(.int x1)])) rfl rfl (hb hby d4_1) (by decide) (by decide) (by decide)
    obtain ⟨c1, gc1⟩ : ∃ z, z = hA.size := ⟨_, rfl⟩
    rw [← gc1] at A_1 st1
    refine OwnOut.go (fun t k => st1 _ k) ?_
    have ne0_2_1 : b0 ≠ c1 := Nat.ne_of_lt (gc1 ▸ E0.lt)
    have ne1_2_1 : b1 ≠ c1 := Nat.ne_of_lt (gc1 ▸ A1.lt)
    have E0_1 := E0.ext Ex1
    have F0_words_1 := F0_words.ext Ex1
    have F0_length_1 := F0_length.ext Ex1
    have A1_1 := A1.ext Ex1
    have g_1 : n0 ≤ c1 := gc1 ▸ (O0.1 ▸ O0.2.1)
    have z_1 : h0.size ≤ c1 := gc1 ▸ K0.1
    have O_1 := O0.ext Ex1
    have K_1 := K0.ext Ex1
    show OwnOut p e s below 1 16 _ (T1.setTop (mkF m 3 #[.val (.ref b0), .val (.int x1), .unset, .unset, .unset] [(.ref c1)]))
    refine OwnOut.go (fun t k => XS.astoreN X1.here hx rfl (hb hby d4_3) rfl rfl (l' := #[.val (.ref b0), .val (.int x1), .val (.ref c1), .unset, .unset]) rfl k) ?_
    show OwnOut p e s below 1 16 _ (T1.setTop (mkF m 4 #[.val (.ref b0), .val (.int x1), .val (.ref c1), .unset, .unset] []))
    refine OwnOut.go (fun t k => XS.aloadN X1.here hx rfl (hb hby d4_4) rfl rfl k) ?_
    show OwnOut p e s below 1 16 _ (T1.setTop (mkF m 5 #[.val (.ref b0), .val (.int x1), .val (.ref c1), .unset, .unset] [(.ref b0)]))
    obtain ⟨T2, X2, e2, st2⟩ := getF X1 hx hZ hown (host := "") (Or.inl (hw _ (List.mem_of_getElem? (i := 24) rfl))) Via.refl e1 F0_length_1 (g := (mkF m 5 #[.val (.ref b0), .val (.int x1), .val (.ref c1), .unset, .unset] [(.ref b0)])) rfl rfl (hb hby d4_5)
    refine OwnOut.go (fun t k => st2 _ k) ?_
    show OwnOut p e s below 1 16 _ (T2.setTop (mkF m 8 #[.val (.ref b0), .val (.int x1), .val (.ref c1), .unset, .unset] [(.int u0_length)]))
    refine OwnOut.go (fun t k => XT.bipushV X2.here hx rfl (8 : Int32) (hb hby d4_8) rfl k) ?_
    show OwnOut p e s below 1 16 _ (T2.setTop (mkF m 10 #[.val (.ref b0), .val (.int x1), .val (.ref c1), .unset, .unset] [(.int (8 : Int32)), (.int u0_length)]))
    refine OwnOut.go (fun t k => XS.iadd X2.here hx rfl (hb hby d4_10) rfl k) ?_
    show OwnOut p e s below 1 16 _ (T2.setTop (mkF m 11 #[.val (.ref b0), .val (.int x1), .val (.ref c1), .unset, .unset] [(.int (u0_length + (8 : Int32)))]))
    refine OwnOut.go (fun t k => XT.iconstV X2.here hx rfl (1 : Int32) (hb hby d4_11) rfl k) ?_
    show OwnOut p e s below 1 16 _ (T2.setTop (mkF m 12 #[.val (.ref b0), .val (.int x1), .val (.ref c1), .unset, .unset] [(.int (1 : Int32)), (.int (u0_length + (8 : Int32)))]))
    refine OwnOut.go (fun t k => XS.isub X2.here hx rfl (hb hby d4_12) rfl k) ?_
    show OwnOut p e s below 1 16 _ (T2.setTop (mkF m 13 #[.val (.ref b0), .val (.int x1), .val (.ref c1), .unset, .unset] [(.int ((u0_length + (8 : Int32)) - (1 : Int32)))]))
    refine OwnOut.go (fun t k => XT.bipushV X2.here hx rfl (8 : Int32) (hb hby d4_13) rfl k) ?_
    show OwnOut p e s below 1 16 _ (T2.setTop (mkF m 15 #[.val (.ref b0), .val (.int x1), .val (.ref c1), .unset, .unset] [(.int (8 : Int32)), (.int ((u0_length + (8 : Int32)) - (1 : Int32)))]))
    refine OwnOut.go (fun t k => XS.idiv X2.here hx rfl (hb hby d4_15) rfl (by decide) k) ?_
    show OwnOut p e s below 1 16 _ (T2.setTop (mkF m 16 #[.val (.ref b0), .val (.int x1), .val (.ref c1), .unset, .unset] [(.int (((u0_length + (8 : Int32)) - (1 : Int32)) / (8 : Int32)))]))
    refine OwnOut.go (fun t k => XS.istoreN X2.here hx rfl (hb hby d4_16) rfl (l' := #[.val (.ref b0), .val (.int x1), .val (.ref c1), .val (.int (((u0_length + (8 : Int32)) - (1 : Int32)) / (8 : Int32))), .unset]) rfl k) ?_
    show OwnOut p e s below 1 16 _ (T2.setTop (mkF m 17 #[.val (.ref b0), .val (.int x1), .val (.ref c1), .val (.int (((u0_length + (8 : Int32)) - (1 : Int32)) / (8 : Int32))), .unset] []))
    refine OwnOut.go (fun t k => XT.iconstV X2.here hx rfl (0 : Int32) (hb hby d4_17) rfl k) ?_
    show OwnOut p e s below 1 16 _ (T2.setTop (mkF m 18 #[.val (.ref b0), .val (.int x1), .val (.ref c1), .val (.int (((u0_length + (8 : Int32)) - (1 : Int32)) / (8 : Int32))), .unset] [(.int (0 : Int32))]))
    refine OwnOut.go (fun t k => XS.istore X2.here hx rfl (hb hby d4_18) rfl (l' := #[.val (.ref b0), .val (.int x1), .val (.ref c1), .val (.int (((u0_length + (8 : Int32)) - (1 : Int32)) / (8 : Int32))), .val (.int (0 : Int32))]) rfl k) ?_
    show OwnOut p e s below 1 16 _ (T2.setTop (mkF m 20 #[.val (.ref b0), .val (.int x1), .val (.ref c1), .val (.int (((u0_length + (8 : Int32)) - (1 : Int32)) / (8 : Int32))), .val (.int (0 : Int32))] []))
    exact w4_20 ⟨hx, hZ, hw, hby, hml, hown, hret, hlk, hnm⟩ 20  _ _ _ x1 (((u0_length + (8 : Int32)) - (1 : Int32)) / (8 : Int32)) (0 : Int32) b0 u0_length b1 l1 c1 l_1 _ hr X2 e2 N0 O_1 K_1 E0_1 F0_words_1 F0_length_1 A1_1 A_1 g0 g1 g_1 z_1 ne0_1 ne0_2_1 ne1_2_1
set_option maxRecDepth 65536 in
set_option maxHeartbeats 40000000 in
theorem rm4 (l : Launch) (Z : State) (a0 : Array Value) (hw : ∀ d ∈ tables_1, d.before a0 Z = true) (ws : List Jvm.Cond) (x1 : Int32) (b0 : Addr) (u0_length : Int32) (b1 : Addr) (l1 : List Int64) (h0 : Heap) (n0 : Nat) (o : List Int32) (hr : f4 x1 u0_length l1 = some o) (O0 : Old Z n0 h0) (E0 : Exa Z h0 b0 "com/example/sinogrid/sinogrid/BitBuffer") (F0_words : Fld Z h0 b0 "com/example/sinogrid/sinogrid/BitBuffer" "words" "[J" (.ref b1)) (F0_length : Fld Z h0 b0 "com/example/sinogrid/sinogrid/BitBuffer" "length" "I" (.int u0_length)) (A1 : Arj Z h0 b1 l1) (g0 : n0 ≤ b0) (g1 : n0 ≤ b1) (ne0_1 : b0 ≠ b1) :
    MetFree l (⟨"com/example/sinogrid/sinogrid/BitBuffer", "toCodewords", "(I)[I"⟩ : MethodName) (head1 (Jvm.Cond.code (⟨"com/example/sinogrid/sinogrid/BitBuffer", "toCodewords", "(I)[I"⟩ : MethodName) prog_2_method_6_code 5 (some (.array .int)) :: ws) rx4) (fun a U => a = #[(.ref b0), (.int x1)] ∧ Z.Warmed39 U.vm ∧ U.heap = h0) (fun _ _ _ _ _ => True) (fun _ U o' U' => ∃ v L, o' = .returned v ∧ Q4 Z x1 b0 u0_length b1 l1 h0 n0 o v U'.heap L ∧ FrameEnd U o' U' L rx4.cells rx4.slots) := by
  refine MetFree.of_bodySF (plainFor_of_name pn4) hisR ?_
  intro p e s m args below meth c s₁ Bd hml0 hP hK
  obtain ⟨rfl, hZ, hh⟩ := hP
  have X0 : Stand p l e rx4 s m #[(.ref b0), (.int x1)] below meth c s₁ [] 0 0 := Stand.of_body Bd
  have e0 : s₁.heap = h0 := by rw [← hh, Bd.state]; rfl
  have hfc := findClass_of_methodNamed Bd.named
  exact OwnOut.at (ef4 m b0 x1) (w4_0 ⟨Bd.exec, hZ, hw, Bd.bytes, hml0, hfc, Bd.returns, Bd.notSynchronized, (name_of_methodNamed Bd.named Bd.method).1⟩ _ _ _ x1 b0 u0_length b1 l1 o hr X0 e0 (Fr.nil n0) O0 (Keep.refl _ _) E0 F0_words F0_length A1 g0 g1 ne0_1)
-- body 5 as 5: com/example/sinogrid/sinogrid/BitBufferToCodewordsPinLaw.same:([I[III)Z (touches nothing)
theorem d5_0 : decode method_3_code 0 = .ok (.iload_n 3, 1) := by decide +kernel
theorem d5_1 : decode method_3_code 1 = .ok (.iload_n 2, 1) := by decide +kernel
theorem d5_2 : decode method_3_code 2 = .ok (.if_icmp .ge 12, 3) := by decide +kernel
theorem d5_5 : decode method_3_code 5 = .ok (.aload_n 0, 1) := by decide +kernel
theorem d5_6 : decode method_3_code 6 = .ok (.iload_n 3, 1) := by decide +kernel
theorem d5_7 : decode method_3_code 7 = .ok (.iaload, 1) := by decide +kernel
theorem d5_8 : decode method_3_code 8 = .ok (.aload_n 1, 1) := by decide +kernel
theorem d5_9 : decode method_3_code 9 = .ok (.iload_n 3, 1) := by decide +kernel
theorem d5_10 : decode method_3_code 10 = .ok (.iaload, 1) := by decide +kernel
theorem d5_11 : decode method_3_code 11 = .ok (.if_icmp .ne 7, 3) := by decide +kernel
theorem d5_14 : decode method_3_code 14 = .ok (.iconst 1, 1) := by decide +kernel
theorem d5_15 : decode method_3_code 15 = .ok (.goto 4, 3) := by decide +kernel
theorem d5_18 : decode method_3_code 18 = .ok (.iconst 0, 1) := by decide +kernel
theorem d5_19 : decode method_3_code 19 = .ok (.ireturn, 1) := by decide +kernel
theorem pn5 : plainName "com/example/sinogrid/sinogrid/BitBufferToCodewordsPinLaw" = true := by first | (simp [plainName, overriddenIn]; done) | decide +kernel
theorem pd5 : parseMethodDescriptor "([I[III)Z" = some ⟨[(.array .int), (.array .int), .int, .int], some .boolean⟩ := by decide +kernel
theorem ef5 (m : MethodId) (b0 : Addr) (b1 : Addr) (x2 : Int32) (x3 : Int32) : entryFrame m #[(.ref b0), (.ref b1), (.int x2), (.int x3)] 4 = mkF m 0 #[.val (.ref b0), .val (.ref b1), .val (.int x2), .val (.int x3)] [] := by first | (simp [entryFrame, mkF, argsToLocals, Value.category]; done) | rfl
abbrev rx5 : Room := { frames := 0, cells := 0, slots := 0, locals := 0 }
abbrev Cx5 (Z : State) (a0 : Array Value) (p : Program) (s : State) (m : MethodId) (meth : Method) (c : Code) : Prop := p.tables.exec = Jvm.exec ∧ Z.Warmed39 s.vm ∧ (∀ d ∈ tables_1, d.before a0 Z = true) ∧ c.code = method_3_code ∧ c.maxLocals = 4 ∧ s.vm.findClass "com/example/sinogrid/sinogrid/BitBufferToCodewordsPinLaw" = some m.cls ∧ meth.sig.returnType = (some .boolean) ∧ meth.locks = false ∧ meth.name = "same"
def Q5 (Z : State) (x2 : Int32) (x3 : Int32) (b0 : Addr) (l0 : List Int32) (b1 : Addr) (l1 : List Int32) (h0 : Heap) (o : Int32) (v : Option Value) (h : Heap) (L : List Loc) : Prop := v = some (.int o) ∧ h = h0 ∧ L = []
def f5 (x2 : Int32) (x3 : Int32) (l0 : List Int32) (l1 : List Int32) : Option (Int32) := (if x3 < x2 then ((ldx l0 x3).bind fun v1 => ((ldx l1 x3).bind fun v2 => (if v1 = v2 then some ((1 : Int32)) else some ((0 : Int32))))) else some ((1 : Int32)))
set_option maxRecDepth 65536 in
set_option maxHeartbeats 40000000 in
theorem w5_0 {p : Program} {l : Launch} {e : Env} {s : State} {m : MethodId} {args : Array Value} {below : List Frame} {meth : Method} {c : Code} {Z : State} {a0 : Array Value} {h0 : Heap} (C : Cx5 Z a0 p s m meth c) :
    ∀ (T : State) (x2 : Int32) (x3 : Int32) (b0 : Addr) (l0 : List Int32) (b1 : Addr) (l1 : List Int32) (o : Int32), f5 x2 x3 l0 l1 = some o → Stand p l e rx5 s m args below meth c T [] 0 0 → T.heap = h0 → (Ari Z h0 b0 .int l0) → (Ari Z h0 b1 .int l1) →  OwnOut p e s below 0 0 (Q5 Z default default b0 l0 b1 l1 h0 o) (T.setTop (mkF m 0 #[.val (.ref b0), .val (.ref b1), .val (.int x2), .val (.int x3)] [])) := by
    obtain ⟨hx, hZ, hw, hby, hml, hown, hret, hlk, hnm⟩ := C
    intro T x2 x3 b0 l0 b1 l1 o hr X0 e0 A0 A1
    rw [f5] at hr
    refine OwnOut.go (fun t k => XS.iloadN X0.here hx rfl (hb hby d5_0) rfl k) ?_
    show OwnOut p e s below 0 0 _ (T.setTop (mkF m 1 #[.val (.ref b0), .val (.ref b1), .val (.int x2), .val (.int x3)] [(.int x3)]))
    refine OwnOut.go (fun t k => XS.iloadN X0.here hx rfl (hb hby d5_1) rfl k) ?_
    show OwnOut p e s below 0 0 _ (T.setTop (mkF m 2 #[.val (.ref b0), .val (.ref b1), .val (.int x2), .val (.int x3)] [(.int x2), (.int x3)]))
    by_cases hc2 : x3 < x2
    · rw [if_pos hc2] at hr
      refine OwnOut.go (fun t k => XS.icmpNo X0.here hx rfl (hb hby d5_2) rfl (XT.ii_ge_f hc2) k) ?_
      show OwnOut p e s below 0 0 _ (T.setTop (mkF m 5 #[.val (.ref b0), .val (.ref b1), .val (.int x2), .val (.int x3)] []))
      refine OwnOut.go (fun t k => XS.aloadN X0.here hx rfl (hb hby d5_5) rfl rfl k) ?_
      show OwnOut p e s below 0 0 _ (T.setTop (mkF m 6 #[.val (.ref b0), .val (.ref b1), .val (.int x2), .val (.int x3)] [(.ref b0)]))
      refine OwnOut.go (fun t k => XS.iloadN X0.here hx rfl (hb hby d5_6) rfl k) ?_
      show OwnOut p e s below 0 0 _ (T.setTop (mkF m 7 #[.val (.ref b0), .val (.ref b1), .val (.int x2), .val (.int x3)] [(.int x3), (.ref b0)]))
      obtain ⟨v1, hv1, hr⟩ := Option.bind_eq_some_iff.mp hr
      refine OwnOut.go (fun t k => ldI X0 hx hZ e0 A0 hv1 (g := (mkF m 7 #[.val (.ref b0), .val (.ref b1), .val (.int x2), .val (.int x3)] [(.int x3), (.ref b0)])) rfl rfl (hb hby d5_7) t k) ?_
      show OwnOut p e s below 0 0 _ (T.setTop (mkF m 8 #[.val (.ref b0), .val (.ref b1), .val (.int x2), .val (.int x3)] [(.int v1)]))
      refine OwnOut.go (fun t k => XS.aloadN X0.here hx rfl (hb hby d5_8) rfl rfl k) ?_
      show OwnOut p e s below 0 0 _ (T.setTop (mkF m 9 #[.val (.ref b0), .val (.ref b1), .val (.int x2), .val (.int x3)] [(.ref b1), (.int v1)]))
      refine OwnOut.go (fun t k => XS.iloadN X0.here hx rfl (hb hby d5_9) rfl k) ?_
      show OwnOut p e s below 0 0 _ (T.setTop (mkF m 10 #[.val (.ref b0), .val (.ref b1), .val (.int x2), .val (.int x3)] [(.int x3), (.ref b1), (.int v1)]))
      obtain ⟨v2, hv2, hr⟩ := Option.bind_eq_some_iff.mp hr
      refine OwnOut.go (fun t k => ldI X0 hx hZ e0 A1 hv2 (g := (mkF m 10 #[.val (.ref b0), .val (.ref b1), .val (.int x2), .val (.int x3)] [(.int x3), (.ref b1), (.int v1)])) rfl rfl (hb hby d5_10) t k) ?_
      show OwnOut p e s below 0 0 _ (T.setTop (mkF m 11 #[.val (.ref b0), .val (.ref b1), .val (.int x2), .val (.int x3)] [(.int v2), (.int v1)]))
      by_cases hc11 : v1 = v2
      · rw [if_pos hc11] at hr
        refine OwnOut.go (fun t k => XS.icmpNo X0.here hx rfl (hb hby d5_11) rfl (XT.ii_ne_f hc11) k) ?_
        show OwnOut p e s below 0 0 _ (T.setTop (mkF m 14 #[.val (.ref b0), .val (.ref b1), .val (.int x2), .val (.int x3)] []))
        refine OwnOut.go (fun t k => XT.iconstV X0.here hx rfl (1 : Int32) (hb hby d5_14) rfl k) ?_
        show OwnOut p e s below 0 0 _ (T.setTop (mkF m 15 #[.val (.ref b0), .val (.ref b1), .val (.int x2), .val (.int x3)] [(.int (1 : Int32))]))
        refine OwnOut.go (fun t k => XS.goto X0.here hx rfl (pc0 := 15) (pc' := 19) rfl (hb hby d5_15) (by decide) (by decide) k) ?_
        show OwnOut p e s below 0 0 _ (T.setTop (mkF m 19 #[.val (.ref b0), .val (.ref b1), .val (.int x2), .val (.int x3)] [(.int (1 : Int32))]))
        cases hr
        exact outZ X0 hx hret (hb hby d5_19) hlk (by decide) (by decide) ⟨rfl, e0, rfl⟩
      · rw [if_neg hc11] at hr
        refine OwnOut.go (fun t k => XS.icmpYes X0.here hx rfl (pc0 := 11) (pc' := 18) rfl (hb hby d5_11) rfl (XT.ii_ne_t hc11) (by decide) (by decide) k) ?_
        show OwnOut p e s below 0 0 _ (T.setTop (mkF m 18 #[.val (.ref b0), .val (.ref b1), .val (.int x2), .val (.int x3)] []))
        refine OwnOut.go (fun t k => XT.iconstV X0.here hx rfl (0 : Int32) (hb hby d5_18) rfl k) ?_
        show OwnOut p e s below 0 0 _ (T.setTop (mkF m 19 #[.val (.ref b0), .val (.ref b1), .val (.int x2), .val (.int x3)] [(.int (0 : Int32))]))
        cases hr
        exact outZ X0 hx hret (hb hby d5_19) hlk (by decide) (by decide) ⟨rfl, e0, rfl⟩
    · rw [if_neg hc2] at hr
      refine OwnOut.go (fun t k => XS.icmpYes X0.here hx rfl (pc0 := 2) (pc' := 14) rfl (hb hby d5_2) rfl (XT.ii_ge_t hc2) (by decide) (by decide) k) ?_
      show OwnOut p e s below 0 0 _ (T.setTop (mkF m 14 #[.val (.ref b0), .val (.ref b1), .val (.int x2), .val (.int x3)] []))
      refine OwnOut.go (fun t k => XT.iconstV X0.here hx rfl (1 : Int32) (hb hby d5_14) rfl k) ?_
      show OwnOut p e s below 0 0 _ (T.setTop (mkF m 15 #[.val (.ref b0), .val (.ref b1), .val (.int x2), .val (.int x3)] [(.int (1 : Int32))]))
      refine OwnOut.go (fun t k => XS.goto X0.here hx rfl (pc0 := 15) (pc' := 19) rfl (hb hby d5_15) (by decide) (by decide) k) ?_
      show OwnOut p e s below 0 0 _ (T.setTop (mkF m 19 #[.val (.ref b0), .val (.ref b1), .val (.int x2), .val (.int x3)] [(.int (1 : Int32))]))
      cases hr
      exact outZ X0 hx hret (hb hby d5_19) hlk (by decide) (by decide) ⟨rfl, e0, rfl⟩
set_option maxRecDepth 65536 in
set_option maxHeartbeats 40000000 in
theorem rm5 (l : Launch) (Z : State) (a0 : Array Value) (hw : ∀ d ∈ tables_1, d.before a0 Z = true) (ws : List Jvm.Cond) (x2 : Int32) (x3 : Int32) (b0 : Addr) (l0 : List Int32) (b1 : Addr) (l1 : List Int32) (h0 : Heap) (o : Int32) (hr : f5 x2 x3 l0 l1 = some o) (A0 : Ari Z h0 b0 .int l0) (A1 : Ari Z h0 b1 .int l1) :
    MetFree l (⟨"com/example/sinogrid/sinogrid/BitBufferToCodewordsPinLaw", "same", "([I[III)Z"⟩ : MethodName) (head1 (Jvm.Cond.code (⟨"com/example/sinogrid/sinogrid/BitBufferToCodewordsPinLaw", "same", "([I[III)Z"⟩ : MethodName) method_3_code 4 (some .boolean) :: ws) rx5) (fun a U => a = #[(.ref b0), (.ref b1), (.int x2), (.int x3)] ∧ Z.Warmed39 U.vm ∧ U.heap = h0) (fun _ _ _ _ _ => True) (fun _ U o' U' => ∃ v L, o' = .returned v ∧ Q5 Z x2 x3 b0 l0 b1 l1 h0 o v U'.heap L ∧ FrameEnd U o' U' L rx5.cells rx5.slots) := by
  refine MetFree.of_bodySF (plainFor_of_name pn5) hisR ?_
  intro p e s m args below meth c s₁ Bd hml0 hP hK
  obtain ⟨rfl, hZ, hh⟩ := hP
  have X0 : Stand p l e rx5 s m #[(.ref b0), (.ref b1), (.int x2), (.int x3)] below meth c s₁ [] 0 0 := Stand.of_body Bd
  have e0 : s₁.heap = h0 := by rw [← hh, Bd.state]; rfl
  have hfc := findClass_of_methodNamed Bd.named
  exact OwnOut.at (ef5 m b0 b1 x2 x3) (w5_0 ⟨Bd.exec, hZ, hw, Bd.bytes, hml0, hfc, Bd.returns, Bd.notSynchronized, (name_of_methodNamed Bd.named Bd.method).1⟩ _ x2 x3 b0 l0 b1 l1 o hr X0 e0  A0 A1)
-- body 6 as 6: com/example/sinogrid/sinogrid/BitBufferToCodewordsPinLaw.put3:([III)V
theorem d6_0 : decode method_2_code 0 = .ok (.aload_n 0, 1) := by decide +kernel
theorem d6_1 : decode method_2_code 1 = .ok (.iload_n 1, 1) := by decide +kernel
theorem d6_2 : decode method_2_code 2 = .ok (.iload_n 2, 1) := by decide +kernel
theorem d6_3 : decode method_2_code 3 = .ok (.bipush 16, 2) := by decide +kernel
theorem d6_5 : decode method_2_code 5 = .ok (.iushr, 1) := by decide +kernel
theorem d6_6 : decode method_2_code 6 = .ok (.sipush 255, 3) := by decide +kernel
theorem d6_9 : decode method_2_code 9 = .ok (.iand, 1) := by decide +kernel
theorem d6_10 : decode method_2_code 10 = .ok (.iastore, 1) := by decide +kernel
theorem d6_11 : decode method_2_code 11 = .ok (.aload_n 0, 1) := by decide +kernel
theorem d6_12 : decode method_2_code 12 = .ok (.iload_n 1, 1) := by decide +kernel
theorem d6_13 : decode method_2_code 13 = .ok (.iconst 1, 1) := by decide +kernel
theorem d6_14 : decode method_2_code 14 = .ok (.iadd, 1) := by decide +kernel
theorem d6_15 : decode method_2_code 15 = .ok (.iload_n 2, 1) := by decide +kernel
theorem d6_16 : decode method_2_code 16 = .ok (.bipush 8, 2) := by decide +kernel
theorem d6_18 : decode method_2_code 18 = .ok (.iushr, 1) := by decide +kernel
theorem d6_19 : decode method_2_code 19 = .ok (.sipush 255, 3) := by decide +kernel
theorem d6_22 : decode method_2_code 22 = .ok (.iand, 1) := by decide +kernel
theorem d6_23 : decode method_2_code 23 = .ok (.iastore, 1) := by decide +kernel
theorem d6_24 : decode method_2_code 24 = .ok (.aload_n 0, 1) := by decide +kernel
theorem d6_25 : decode method_2_code 25 = .ok (.iload_n 1, 1) := by decide +kernel
theorem d6_26 : decode method_2_code 26 = .ok (.iconst 2, 1) := by decide +kernel
theorem d6_27 : decode method_2_code 27 = .ok (.iadd, 1) := by decide +kernel
theorem d6_28 : decode method_2_code 28 = .ok (.iload_n 2, 1) := by decide +kernel
theorem d6_29 : decode method_2_code 29 = .ok (.sipush 255, 3) := by decide +kernel
theorem d6_32 : decode method_2_code 32 = .ok (.iand, 1) := by decide +kernel
theorem d6_33 : decode method_2_code 33 = .ok (.iastore, 1) := by decide +kernel
theorem d6_34 : decode method_2_code 34 = .ok (.return_, 1) := by decide +kernel
theorem pn6 : plainName "com/example/sinogrid/sinogrid/BitBufferToCodewordsPinLaw" = true := by first | (simp [plainName, overriddenIn]; done) | decide +kernel
theorem pd6 : parseMethodDescriptor "([III)V" = some ⟨[(.array .int), .int, .int], none⟩ := by decide +kernel
theorem ef6 (m : MethodId) (b0 : Addr) (x1 : Int32) (x2 : Int32) : entryFrame m #[(.ref b0), (.int x1), (.int x2)] 3 = mkF m 0 #[.val (.ref b0), .val (.int x1), .val (.int x2)] [] := by first | (simp [entryFrame, mkF, argsToLocals, Value.category]; done) | rfl
abbrev rx6 : Room := { frames := 0, cells := 0, slots := 0, locals := 0 }
abbrev Cx6 (Z : State) (a0 : Array Value) (p : Program) (s : State) (m : MethodId) (meth : Method) (c : Code) : Prop := p.tables.exec = Jvm.exec ∧ Z.Warmed39 s.vm ∧ (∀ d ∈ tables_1, d.before a0 Z = true) ∧ c.code = method_2_code ∧ c.maxLocals = 3 ∧ s.vm.findClass "com/example/sinogrid/sinogrid/BitBufferToCodewordsPinLaw" = some m.cls ∧ meth.sig.returnType = none ∧ meth.locks = false ∧ meth.name = "put3"
def Q6 (Z : State) (x1 : Int32) (x2 : Int32) (b0 : Addr) (l0 : List Int32) (h0 : Heap) (n0 : Nat) (o : List Int32) (v : Option Value) (h : Heap) (L : List Loc) : Prop := v = none ∧ Fr n0 L ∧ Keep h0 h [b0] ∧ Ari Z h b0 .int o
def f6 (x1 : Int32) (x2 : Int32) (l0 : List Int32) : Option (List Int32) := ((stx l0 x1 (((x2.toUInt32 >>> ((16 : Int32) &&& 31).toUInt32).toInt32) &&& (255 : Int32))).bind fun l_1 => ((stx l_1 (x1 + (1 : Int32)) (((x2.toUInt32 >>> ((8 : Int32) &&& 31).toUInt32).toInt32) &&& (255 : Int32))).bind fun l_2 => ((stx l_2 (x1 + (2 : Int32)) (x2 &&& (255 : Int32))).bind fun l_3 => some (l_3))))
set_option maxRecDepth 65536 in
set_option maxHeartbeats 40000000 in
theorem w6_0 {p : Program} {l : Launch} {e : Env} {s : State} {m : MethodId} {args : Array Value} {below : List Frame} {meth : Method} {c : Code} {Z : State} {a0 : Array Value} {h0 : Heap} {n0 : Nat} (C : Cx6 Z a0 p s m meth c) :
    ∀ (T : State) (locs : List Loc) (hA : Heap) (x1 : Int32) (x2 : Int32) (b0 : Addr) (l0 : List Int32) (o : List Int32), f6 x1 x2 l0 = some o → Stand p l e rx6 s m args below meth c T locs 0 0 → T.heap = hA → Fr n0 locs → Old Z n0 hA → Keep h0 hA [b0] → (Ari Z hA b0 .int l0) → (n0 ≤ b0) →  OwnOut p e s below 0 0 (Q6 Z default default b0 [] h0 n0 o) (T.setTop (mkF m 0 #[.val (.ref b0), .val (.int x1), .val (.int x2)] [])) := by
    obtain ⟨hx, hZ, hw, hby, hml, hown, hret, hlk, hnm⟩ := C
    intro T locs hA x1 x2 b0 l0 o hr X0 e0 N0 O0 K0 A0 g0
    rw [f6] at hr
    refine OwnOut.go (fun t k => XS.aloadN X0.here hx rfl (hb hby d6_0) rfl rfl k) ?_
    show OwnOut p e s below 0 0 _ (T.setTop (mkF m 1 #[.val (.ref b0), .val (.int x1), .val (.int x2)] [(.ref b0)]))
    refine OwnOut.go (fun t k => XS.iloadN X0.here hx rfl (hb hby d6_1) rfl k) ?_
    show OwnOut p e s below 0 0 _ (T.setTop (mkF m 2 #[.val (.ref b0), .val (.int x1), .val (.int x2)] [(.int x1), (.ref b0)]))
    refine OwnOut.go (fun t k => XS.iloadN X0.here hx rfl (hb hby d6_2) rfl k) ?_
    show OwnOut p e s below 0 0 _ (T.setTop (mkF m 3 #[.val (.ref b0), .val (.int x1), .val (.int x2)] [(.int x2), (.int x1), (.ref b0)]))
    refine OwnOut.go (fun t k => XT.bipushV X0.here hx rfl (16 : Int32) (hb hby d6_3) rfl k) ?_
    show OwnOut p e s below 0 0 _ (T.setTop (mkF m 5 #[.val (.ref b0), .val (.int x1), .val (.int x2)] [(.int (16 : Int32)), (.int x2), (.int x1), (.ref b0)]))
    refine OwnOut.go (fun t k => XS.iushr X0.here hx rfl (hb hby d6_5) rfl k) ?_
    show OwnOut p e s below 0 0 _ (T.setTop (mkF m 6 #[.val (.ref b0), .val (.int x1), .val (.int x2)] [(.int ((x2.toUInt32 >>> ((16 : Int32) &&& 31).toUInt32).toInt32)), (.int x1), (.ref b0)]))
    refine OwnOut.go (fun t k => XT.sipushV X0.here hx rfl (255 : Int32) (hb hby d6_6) rfl k) ?_
    show OwnOut p e s below 0 0 _ (T.setTop (mkF m 9 #[.val (.ref b0), .val (.int x1), .val (.int x2)] [(.int (255 : Int32)), (.int ((x2.toUInt32 >>> ((16 : Int32) &&& 31).toUInt32).toInt32)), (.int x1), (.ref b0)]))
    refine OwnOut.go (fun t k => XS.iand X0.here hx rfl (hb hby d6_9) rfl k) ?_
    show OwnOut p e s below 0 0 _ (T.setTop (mkF m 10 #[.val (.ref b0), .val (.int x1), .val (.int x2)] [(.int (((x2.toUInt32 >>> ((16 : Int32) &&& 31).toUInt32).toInt32) &&& (255 : Int32))), (.int x1), (.ref b0)]))
    obtain ⟨l_1, hl1, hr⟩ := Option.bind_eq_some_iff.mp hr
    obtain ⟨T1, h1, X1, e1, W1, A_1, st1⟩ := saI X0 hx hZ e0 A0 hl1 (g := (mkF m 10 #[.val (.ref b0), .val (.int x1), .val (.int x2)] [(.int (((x2.toUInt32 >>> ((16 : Int32) &&& 31).toUInt32).toInt32) &&& (255 : Int32))), (.int x1), (.ref b0)])) rfl rfl (hb hby d6_10)
    refine OwnOut.go (fun t k => st1 _ k) ?_
    have N_1 := Fr.snoc X1 N0 g0
    have O_1 := O0.wr W1 g0
    have K_1 := K0.wr W1 (Or.inl (List.mem_of_getElem? (i := 0) rfl))
    show OwnOut p e s below 0 0 _ (T1.setTop (mkF m 11 #[.val (.ref b0), .val (.int x1), .val (.int x2)] []))
    refine OwnOut.go (fun t k => XS.aloadN X1.here hx rfl (hb hby d6_11) rfl rfl k) ?_
    show OwnOut p e s below 0 0 _ (T1.setTop (mkF m 12 #[.val (.ref b0), .val (.int x1), .val (.int x2)] [(.ref b0)]))
    refine OwnOut.go (fun t k => XS.iloadN X1.here hx rfl (hb hby d6_12) rfl k) ?_
    show OwnOut p e s below 0 0 _ (T1.setTop (mkF m 13 #[.val (.ref b0), .val (.int x1), .val (.int x2)] [(.int x1), (.ref b0)]))
    refine OwnOut.go (fun t k => XT.iconstV X1.here hx rfl (1 : Int32) (hb hby d6_13) rfl k) ?_
    show OwnOut p e s below 0 0 _ (T1.setTop (mkF m 14 #[.val (.ref b0), .val (.int x1), .val (.int x2)] [(.int (1 : Int32)), (.int x1), (.ref b0)]))
    refine OwnOut.go (fun t k => XS.iadd X1.here hx rfl (hb hby d6_14) rfl k) ?_
    show OwnOut p e s below 0 0 _ (T1.setTop (mkF m 15 #[.val (.ref b0), .val (.int x1), .val (.int x2)] [(.int (x1 + (1 : Int32))), (.ref b0)]))
    refine OwnOut.go (fun t k => XS.iloadN X1.here hx rfl (hb hby d6_15) rfl k) ?_
    show OwnOut p e s below 0 0 _ (T1.setTop (mkF m 16 #[.val (.ref b0), .val (.int x1), .val (.int x2)] [(.int x2), (.int (x1 + (1 : Int32))), (.ref b0)]))
    refine OwnOut.go (fun t k => XT.bipushV X1.here hx rfl (8 : Int32) (hb hby d6_16) rfl k) ?_
    show OwnOut p e s below 0 0 _ (T1.setTop (mkF m 18 #[.val (.ref b0), .val (.int x1), .val (.int x2)] [(.int (8 : Int32)), (.int x2), (.int (x1 + (1 : Int32))), (.ref b0)]))
    refine OwnOut.go (fun t k => XS.iushr X1.here hx rfl (hb hby d6_18) rfl k) ?_
    show OwnOut p e s below 0 0 _ (T1.setTop (mkF m 19 #[.val (.ref b0), .val (.int x1), .val (.int x2)] [(.int ((x2.toUInt32 >>> ((8 : Int32) &&& 31).toUInt32).toInt32)), (.int (x1 + (1 : Int32))), (.ref b0)]))
    refine OwnOut.go (fun t k => XT.sipushV X1.here hx rfl (255 : Int32) (hb hby d6_19) rfl k) ?_
    show OwnOut p e s below 0 0 _ (T1.setTop (mkF m 22 #[.val (.ref b0), .val (.int x1), .val (.int x2)] [(.int (255 : Int32)), (.int ((x2.toUInt32 >>> ((8 : Int32) &&& 31).toUInt32).toInt32)), (.int (x1 + (1 : Int32))), (.ref b0)]))
    refine OwnOut.go (fun t k => XS.iand X1.here hx rfl (hb hby d6_22) rfl k) ?_
    show OwnOut p e s below 0 0 _ (T1.setTop (mkF m 23 #[.val (.ref b0), .val (.int x1), .val (.int x2)] [(.int (((x2.toUInt32 >>> ((8 : Int32) &&& 31).toUInt32).toInt32) &&& (255 : Int32))), (.int (x1 + (1 : Int32))), (.ref b0)]))
    obtain ⟨l_2, hl2, hr⟩ := Option.bind_eq_some_iff.mp hr
    obtain ⟨T2, h2, X2, e2, W2, A_2, st2⟩ := saI X1 hx hZ e1 A_1 hl2 (g := (mkF m 23 #[.val (.ref b0), .val (.int x1), .val (.int x2)] [(.int (((x2.toUInt32 >>> ((8 : Int32) &&& 31).toUInt32).toInt32) &&& (255 : Int32))), (.int (x1 + (1 : Int32))), (.ref b0)])) rfl rfl (hb hby d6_23)
    refine OwnOut.go (fun t k => st2 _ k) ?_
    have N_2 := Fr.snoc X2 N_1 g0
    have O_2 := O_1.wr W2 g0
    have K_2 := K_1.wr W2 (Or.inl (List.mem_of_getElem? (i := 0) rfl))
    show OwnOut p e s below 0 0 _ (T2.setTop (mkF m 24 #[.val (.ref b0), .val (.int x1), .val (.int x2)] []))
    refine OwnOut.go (fun t k => XS.aloadN X2.here hx rfl (hb hby d6_24) rfl rfl k) ?_
    show OwnOut p e s below 0 0 _ (T2.setTop (mkF m 25 #[.val (.ref b0), .val (.int x1), .val (.int x2)] [(.ref b0)]))
    refine OwnOut.go (fun t k => XS.iloadN X2.here hx rfl (hb hby d6_25) rfl k) ?_
    show OwnOut p e s below 0 0 _ (T2.setTop (mkF m 26 #[.val (.ref b0), .val (.int x1), .val (.int x2)] [(.int x1), (.ref b0)]))
    refine OwnOut.go (fun t k => XT.iconstV X2.here hx rfl (2 : Int32) (hb hby d6_26) rfl k) ?_
    show OwnOut p e s below 0 0 _ (T2.setTop (mkF m 27 #[.val (.ref b0), .val (.int x1), .val (.int x2)] [(.int (2 : Int32)), (.int x1), (.ref b0)]))
    refine OwnOut.go (fun t k => XS.iadd X2.here hx rfl (hb hby d6_27) rfl k) ?_
    show OwnOut p e s below 0 0 _ (T2.setTop (mkF m 28 #[.val (.ref b0), .val (.int x1), .val (.int x2)] [(.int (x1 + (2 : Int32))), (.ref b0)]))
    refine OwnOut.go (fun t k => XS.iloadN X2.here hx rfl (hb hby d6_28) rfl k) ?_
    show OwnOut p e s below 0 0 _ (T2.setTop (mkF m 29 #[.val (.ref b0), .val (.int x1), .val (.int x2)] [(.int x2), (.int (x1 + (2 : Int32))), (.ref b0)]))
    refine OwnOut.go (fun t k => XT.sipushV X2.here hx rfl (255 : Int32) (hb hby d6_29) rfl k) ?_
    show OwnOut p e s below 0 0 _ (T2.setTop (mkF m 32 #[.val (.ref b0), .val (.int x1), .val (.int x2)] [(.int (255 : Int32)), (.int x2), (.int (x1 + (2 : Int32))), (.ref b0)]))
    refine OwnOut.go (fun t k => XS.iand X2.here hx rfl (hb hby d6_32) rfl k) ?_
    show OwnOut p e s below 0 0 _ (T2.setTop (mkF m 33 #[.val (.ref b0), .val (.int x1), .val (.int x2)] [(.int (x2 &&& (255 : Int32))), (.int (x1 + (2 : Int32))), (.ref b0)]))
    obtain ⟨l_3, hl3, hr⟩ := Option.bind_eq_some_iff.mp hr
    obtain ⟨T3, h3, X3, e3, W3, A_3, st3⟩ := saI X2 hx hZ e2 A_2 hl3 (g := (mkF m 33 #[.val (.ref b0), .val (.int x1), .val (.int x2)] [(.int (x2 &&& (255 : Int32))), (.int (x1 + (2 : Int32))), (.ref b0)])) rfl rfl (hb hby d6_33)
    refine OwnOut.go (fun t k => st3 _ k) ?_
    have N_3 := Fr.snoc X3 N_2 g0
    have O_3 := O_2.wr W3 g0
    have K_3 := K_2.wr W3 (Or.inl (List.mem_of_getElem? (i := 0) rfl))
    show OwnOut p e s below 0 0 _ (T3.setTop (mkF m 34 #[.val (.ref b0), .val (.int x1), .val (.int x2)] []))
    cases hr
    exact outV X3 hx hret (hb hby d6_34) hlk (by decide) (by decide) (by rw [e3]; exact ⟨rfl, N_3, K_3, A_3⟩)
set_option maxRecDepth 65536 in
set_option maxHeartbeats 40000000 in
theorem rm6 (l : Launch) (Z : State) (a0 : Array Value) (hw : ∀ d ∈ tables_1, d.before a0 Z = true) (ws : List Jvm.Cond) (x1 : Int32) (x2 : Int32) (b0 : Addr) (l0 : List Int32) (h0 : Heap) (n0 : Nat) (o : List Int32) (hr : f6 x1 x2 l0 = some o) (O0 : Old Z n0 h0) (A0 : Ari Z h0 b0 .int l0) (g0 : n0 ≤ b0) :
    MetFree l (⟨"com/example/sinogrid/sinogrid/BitBufferToCodewordsPinLaw", "put3", "([III)V"⟩ : MethodName) (head1 (Jvm.Cond.code (⟨"com/example/sinogrid/sinogrid/BitBufferToCodewordsPinLaw", "put3", "([III)V"⟩ : MethodName) method_2_code 3 none :: ws) rx6) (fun a U => a = #[(.ref b0), (.int x1), (.int x2)] ∧ Z.Warmed39 U.vm ∧ U.heap = h0) (fun _ _ _ _ _ => True) (fun _ U o' U' => ∃ v L, o' = .returned v ∧ Q6 Z x1 x2 b0 l0 h0 n0 o v U'.heap L ∧ FrameEnd U o' U' L rx6.cells rx6.slots) := by
  refine MetFree.of_bodySF (plainFor_of_name pn6) hisR ?_
  intro p e s m args below meth c s₁ Bd hml0 hP hK
  obtain ⟨rfl, hZ, hh⟩ := hP
  have X0 : Stand p l e rx6 s m #[(.ref b0), (.int x1), (.int x2)] below meth c s₁ [] 0 0 := Stand.of_body Bd
  have e0 : s₁.heap = h0 := by rw [← hh, Bd.state]; rfl
  have hfc := findClass_of_methodNamed Bd.named
  exact OwnOut.at (ef6 m b0 x1 x2) (w6_0 ⟨Bd.exec, hZ, hw, Bd.bytes, hml0, hfc, Bd.returns, Bd.notSynchronized, (name_of_methodNamed Bd.named Bd.method).1⟩ _ _ _ x1 x2 b0 l0 o hr X0 e0 (Fr.nil n0) O0 (Keep.refl _ _) A0 g0)
-- body 0 as 0: com/example/sinogrid/sinogrid/BitBufferToCodewordsPinLaw.law:(IIIII)Z
theorem pn0 : plainName "com/example/sinogrid/sinogrid/BitBufferToCodewordsPinLaw" = true := by first | (simp [plainName, overriddenIn]; done) | decide +kernel
theorem pd0 : parseMethodDescriptor "(IIIII)Z" = some ⟨[.int, .int, .int, .int, .int], some .boolean⟩ := by decide +kernel
theorem ef0 (m : MethodId) (x0 : Int32) (x1 : Int32) (x2 : Int32) (x3 : Int32) (x4 : Int32) : entryFrame m #[(.int x0), (.int x1), (.int x2), (.int x3), (.int x4)] maxLocals = mkF m 0 #[.val (.int x0), .val (.int x1), .val (.int x2), .val (.int x3), .val (.int x4), .unset, .unset, .unset, .unset, .unset, .unset, .unset, .unset, .unset, .unset, .unset, .unset, .unset] [] := by first | (simp [entryFrame, mkF, argsToLocals, Value.category, maxLocals]; done) | rfl
abbrev Cx0 (Z : State) (a0 : Array Value) (p : Program) (s : State) (m : MethodId) (meth : Method) (c : Code) : Prop := p.tables.exec = Jvm.exec ∧ Z.Warmed39 s.vm ∧ (∀ d ∈ tables_1, d.before a0 Z = true) ∧ c.code = code ∧ c.maxLocals = 18 ∧ s.vm.findClass "com/example/sinogrid/sinogrid/BitBufferToCodewordsPinLaw" = some m.cls ∧ meth.sig.returnType = (some .boolean) ∧ meth.locks = false ∧ meth.name = "law"
def Q0 (Z : State) (x0 : Int32) (x1 : Int32) (x2 : Int32) (x3 : Int32) (x4 : Int32) (h0 : Heap) (n0 : Nat) (o : Int32) (v : Option Value) (h : Heap) (L : List Loc) : Prop := v = some (.int o) ∧ Fr n0 L
def f0_195 (x5 : Int32) (x13 : Int32) (y0 : Int32) (l0 : List Int32) (u1_length : Int32) (l2 : List Int64) : Option (Int32) := ((stx l0 ((3 : Int32) * x5) ((y0.toUInt32 >>> ((24 : Int32) &&& 31).toUInt32).toInt32)).bind fun l_5 => ((stx l_5 (((3 : Int32) * x5) + (1 : Int32)) (((y0.toUInt32 >>> ((16 : Int32) &&& 31).toUInt32).toInt32) &&& (255 : Int32))).bind fun l_6 => ((stx l_6 (((3 : Int32) * x5) + (2 : Int32)) (((y0.toUInt32 >>> ((8 : Int32) &&& 31).toUInt32).toInt32) &&& (255 : Int32))).bind fun l_7 => ((stx l_7 (((3 : Int32) * x5) + (3 : Int32)) (y0 &&& (255 : Int32))).bind fun l_8 => ((f4 x13 u1_length l2).bind fun o9 => (if (lenx o9) = x13 then ((f5 x13 (0 : Int32) o9 l_8).bind fun o10 => (if o10 = (0 : Int32) then some ((0 : Int32)) else ((f5 x13 (1 : Int32) o9 l_8).bind fun o11 => (if o11 = (0 : Int32) then some ((0 : Int32)) else ((f5 x13 (2 : Int32) o9 l_8).bind fun o12 => (if o12 = (0 : Int32) then some ((0 : Int32)) else ((f5 x13 (3 : Int32) o9 l_8).bind fun o13 => (if o13 = (0 : Int32) then some ((0 : Int32)) else ((f5 x13 (4 : Int32) o9 l_8).bind fun o14 => (if o14 = (0 : Int32) then some ((0 : Int32)) else ((f5 x13 (5 : Int32) o9 l_8).bind fun o15 => (if o15 = (0 : Int32) then some ((0 : Int32)) else ((f5 x13 (6 : Int32) o9 l_8).bind fun o16 => (if o16 = (0 : Int32) then some ((0 : Int32)) else ((f5 x13 (7 : Int32) o9 l_8).bind fun o17 => (if o17 = (0 : Int32) then some ((0 : Int32)) else ((f5 x13 (8 : Int32) o9 l_8).bind fun o18 => (if o18 = (0 : Int32) then some ((0 : Int32)) else ((f5 x13 (9 : Int32) o9 l_8).bind fun o19 => (if o19 = (0 : Int32) then some ((0 : Int32)) else ((f5 x13 (10 : Int32) o9 l_8).bind fun o20 => (if o20 = (0 : Int32) then some ((0 : Int32)) else ((f5 x13 (11 : Int32) o9 l_8).bind fun o21 => (if o21 = (0 : Int32) then some ((0 : Int32)) else ((f5 x13 (12 : Int32) o9 l_8).bind fun o22 => (if o22 = (0 : Int32) then some ((0 : Int32)) else ((f5 x13 (13 : Int32) o9 l_8).bind fun o23 => (if o23 = (0 : Int32) then some ((0 : Int32)) else ((f5 x13 (14 : Int32) o9 l_8).bind fun o24 => (if o24 = (0 : Int32) then some ((0 : Int32)) else ((f5 x13 (15 : Int32) o9 l_8).bind fun o25 => (if o25 = (0 : Int32) then some ((0 : Int32)) else some ((1 : Int32)))))))))))))))))))))))))))))))))) else some ((0 : Int32))))))))
set_option maxRecDepth 65536 in
set_option maxHeartbeats 40000000 in
theorem w0_195 {p : Program} {l : Launch} {e : Env} {s : State} {m : MethodId} {args : Array Value} {below : List Frame} {meth : Method} {c : Code} {Z : State} {a0 : Array Value} {h0 : Heap} {n0 : Nat} (C : Cx0 Z a0 p s m meth c) :
    ∀ (T : State) (locs : List Loc) (hA : Heap) (x0 : Int32) (x1 : Int32) (x2 : Int32) (x3 : Int32) (x4 : Int32) (x5 : Int32) (x6 : Int32) (x7 : Int32) (x8 : Int32) (x9 : Int32) (x10 : Int32) (x11 : Int32) (x12 : Int32) (x13 : Int32) (y0 : Int32) (b0 : Addr) (l0 : List Int32) (b1 : Addr) (u1_length : Int32) (b2 : Addr) (l2 : List Int64) (o : Int32), f0_195 x5 x13 y0 l0 u1_length l2 = some o → Stand p l e room_1 s m args below meth c T locs 3 22 → T.heap = hA → Fr n0 locs → Old Z n0 hA → Keep h0 hA [] → (Ari Z hA b0 .int l0) → (Exa Z hA b1 "com/example/sinogrid/sinogrid/BitBuffer") → (Fld Z hA b1 "com/example/sinogrid/sinogrid/BitBuffer" "words" "[J" (.ref b2)) → (Fld Z hA b1 "com/example/sinogrid/sinogrid/BitBuffer" "length" "I" (.int u1_length)) → (Arj Z hA b2 l2) → (n0 ≤ b0) → (h0.size ≤ b0) → (n0 ≤ b1) → (h0.size ≤ b1) → (n0 ≤ b2) → (h0.size ≤ b2) → (b0 ≠ b1) → (b0 ≠ b2) → (b1 ≠ b2) →  OwnOut p e s below 16 192 (Q0 Z default default default default default h0 n0 o) (T.setTop (mkF m 195 #[.val (.int x0), .val (.int x1), .val (.int x2), .val (.int x3), .val (.int x4), .val (.int x5), .val (.int x6), .val (.int x7), .val (.int x8), .val (.int x9), .val (.int x10), .val (.int x11), .val (.int x12), .val (.int x13), .val (.ref b0), .val (.ref b1), .unset, .unset] [(.int y0)])) := by
    obtain ⟨hx, hZ, hw, hby, hml, hown, hret, hlk, hnm⟩ := C
    intro T locs hA x0 x1 x2 x3 x4 x5 x6 x7 x8 x9 x10 x11 x12 x13 y0 b0 l0 b1 u1_length b2 l2 o hr X0 e0 N0 O0 K0 A0 E1 F1_words F1_length A2 g0 z0 g1 z1 g2 z2 ne0_1 ne0_2 ne1_2
    rw [f0_195] at hr
    refine OwnOut.go (fun t k => XS.istore X0.here hx rfl (hb hby at_195) rfl (l' := #[.val (.int x0), .val (.int x1), .val (.int x2), .val (.int x3), .val (.int x4), .val (.int x5), .val (.int x6), .val (.int x7), .val (.int x8), .val (.int x9), .val (.int x10), .val (.int x11), .val (.int x12), .val (.int x13), .val (.ref b0), .val (.ref b1), .val (.int y0), .unset]) rfl k) ?_
    show OwnOut p e s below 16 192 _ (T.setTop (mkF m 197 #[.val (.int x0), .val (.int x1), .val (.int x2), .val (.int x3), .val (.int x4), .val (.int x5), .val (.int x6), .val (.int x7), .val (.int x8), .val (.int x9), .val (.int x10), .val (.int x11), .val (.int x12), .val (.int x13), .val (.ref b0), .val (.ref b1), .val (.int y0), .unset] []))
    refine OwnOut.go (fun t k => XS.aload X0.here hx rfl (hb hby at_197) rfl rfl k) ?_
    show OwnOut p e s below 16 192 _ (T.setTop (mkF m 199 #[.val (.int x0), .val (.int x1), .val (.int x2), .val (.int x3), .val (.int x4), .val (.int x5), .val (.int x6), .val (.int x7), .val (.int x8), .val (.int x9), .val (.int x10), .val (.int x11), .val (.int x12), .val (.int x13), .val (.ref b0), .val (.ref b1), .val (.int y0), .unset] [(.ref b0)]))
    refine OwnOut.go (fun t k => XT.iconstV X0.here hx rfl (3 : Int32) (hb hby at_199) rfl k) ?_
    show OwnOut p e s below 16 192 _ (T.setTop (mkF m 200 #[.val (.int x0), .val (.int x1), .val (.int x2), .val (.int x3), .val (.int x4), .val (.int x5), .val (.int x6), .val (.int x7), .val (.int x8), .val (.int x9), .val (.int x10), .val (.int x11), .val (.int x12), .val (.int x13), .val (.ref b0), .val (.ref b1), .val (.int y0), .unset] [(.int (3 : Int32)), (.ref b0)]))
    refine OwnOut.go (fun t k => XS.iload X0.here hx rfl (hb hby at_200) rfl k) ?_
    show OwnOut p e s below 16 192 _ (T.setTop (mkF m 202 #[.val (.int x0), .val (.int x1), .val (.int x2), .val (.int x3), .val (.int x4), .val (.int x5), .val (.int x6), .val (.int x7), .val (.int x8), .val (.int x9), .val (.int x10), .val (.int x11), .val (.int x12), .val (.int x13), .val (.ref b0), .val (.ref b1), .val (.int y0), .unset] [(.int x5), (.int (3 : Int32)), (.ref b0)]))
    refine OwnOut.go (fun t k => XS.imul X0.here hx rfl (hb hby at_202) rfl k) ?_
    show OwnOut p e s below 16 192 _ (T.setTop (mkF m 203 #[.val (.int x0), .val (.int x1), .val (.int x2), .val (.int x3), .val (.int x4), .val (.int x5), .val (.int x6), .val (.int x7), .val (.int x8), .val (.int x9), .val (.int x10), .val (.int x11), .val (.int x12), .val (.int x13), .val (.ref b0), .val (.ref b1), .val (.int y0), .unset] [(.int ((3 : Int32) * x5)), (.ref b0)]))
    refine OwnOut.go (fun t k => XS.iload X0.here hx rfl (hb hby at_203) rfl k) ?_
    show OwnOut p e s below 16 192 _ (T.setTop (mkF m 205 #[.val (.int x0), .val (.int x1), .val (.int x2), .val (.int x3), .val (.int x4), .val (.int x5), .val (.int x6), .val (.int x7), .val (.int x8), .val (.int x9), .val (.int x10), .val (.int x11), .val (.int x12), .val (.int x13), .val (.ref b0), .val (.ref b1), .val (.int y0), .unset] [(.int y0), (.int ((3 : Int32) * x5)), (.ref b0)]))
    refine OwnOut.go (fun t k => XT.bipushV X0.here hx rfl (24 : Int32) (hb hby at_205) rfl k) ?_
    show OwnOut p e s below 16 192 _ (T.setTop (mkF m 207 #[.val (.int x0), .val (.int x1), .val (.int x2), .val (.int x3), .val (.int x4), .val (.int x5), .val (.int x6), .val (.int x7), .val (.int x8), .val (.int x9), .val (.int x10), .val (.int x11), .val (.int x12), .val (.int x13), .val (.ref b0), .val (.ref b1), .val (.int y0), .unset] [(.int (24 : Int32)), (.int y0), (.int ((3 : Int32) * x5)), (.ref b0)]))
    refine OwnOut.go (fun t k => XS.iushr X0.here hx rfl (hb hby at_207) rfl k) ?_
    show OwnOut p e s below 16 192 _ (T.setTop (mkF m 208 #[.val (.int x0), .val (.int x1), .val (.int x2), .val (.int x3), .val (.int x4), .val (.int x5), .val (.int x6), .val (.int x7), .val (.int x8), .val (.int x9), .val (.int x10), .val (.int x11), .val (.int x12), .val (.int x13), .val (.ref b0), .val (.ref b1), .val (.int y0), .unset] [(.int ((y0.toUInt32 >>> ((24 : Int32) &&& 31).toUInt32).toInt32)), (.int ((3 : Int32) * x5)), (.ref b0)]))
    obtain ⟨l_5, hl5, hr⟩ := Option.bind_eq_some_iff.mp hr
    obtain ⟨T5, h5, X5, e5, W5, A_5, st5⟩ := saI X0 hx hZ e0 A0 hl5 (g := (mkF m 208 #[.val (.int x0), .val (.int x1), .val (.int x2), .val (.int x3), .val (.int x4), .val (.int x5), .val (.int x6), .val (.int x7), .val (.int x8), .val (.int x9), .val (.int x10), .val (.int x11), .val (.int x12), .val (.int x13), .val (.ref b0), .val (.ref b1), .val (.int y0), .unset] [(.int ((y0.toUInt32 >>> ((24 : Int32) &&& 31).toUInt32).toInt32)), (.int ((3 : Int32) * x5)), (.ref b0)])) rfl rfl (hb hby at_208)
    refine OwnOut.go (fun t k => st5 _ k) ?_
    have E1_5 := E1.wr W5
    have F1_words_5 := F1_words.other W5 (Or.inl (Ne.symm ne0_1))
    have F1_length_5 := F1_length.other W5 (Or.inl (Ne.symm ne0_1))
    have A2_5 := A2.other W5 (Ne.symm ne0_2)
    have N_5 := Fr.snoc X5 N0 g0
    have O_5 := O0.wr W5 g0
    have K_5 := K0.wr W5 (Or.inr z0)
    show OwnOut p e s below 16 192 _ (T5.setTop (mkF m 209 #[.val (.int x0), .val (.int x1), .val (.int x2), .val (.int x3), .val (.int x4), .val (.int x5), .val (.int x6), .val (.int x7), .val (.int x8), .val (.int x9), .val (.int x10), .val (.int x11), .val (.int x12), .val (.int x13), .val (.ref b0), .val (.ref b1), .val (.int y0), .unset] []))
    refine OwnOut.go (fun t k => XS.aload X5.here hx rfl (hb hby at_209) rfl rfl k) ?_
    show OwnOut p e s below 16 192 _ (T5.setTop (mkF m 211 #[.val (.int x0), .val (.int x1), .val (.int x2), .val (.int x3), .val (.int x4), .val (.int x5), .val (.int x6), .val (.int x7), .val (.int x8), .val (.int x9), .val (.int x10), .val (.int x11), .val (.int x12), .val (.int x13), .val (.ref b0), .val (.ref b1), .val (.int y0), .unset] [(.ref b0)]))
    refine OwnOut.go (fun t k => XT.iconstV X5.here hx rfl (3 : Int32) (hb hby at_211) rfl k) ?_
    show OwnOut p e s below 16 192 _ (T5.setTop (mkF m 212 #[.val (.int x0), .val (.int x1), .val (.int x2), .val (.int x3), .val (.int x4), .val (.int x5), .val (.int x6), .val (.int x7), .val (.int x8), .val (.int x9), .val (.int x10), .val (.int x11), .val (.int x12), .val (.int x13), .val (.ref b0), .val (.ref b1), .val (.int y0), .unset] [(.int (3 : Int32)), (.ref b0)]))
    refine OwnOut.go (fun t k => XS.iload X5.here hx rfl (hb hby at_212) rfl k) ?_
    show OwnOut p e s below 16 192 _ (T5.setTop (mkF m 214 #[.val (.int x0), .val (.int x1), .val (.int x2), .val (.int x3), .val (.int x4), .val (.int x5), .val (.int x6), .val (.int x7), .val (.int x8), .val (.int x9), .val (.int x10), .val (.int x11), .val (.int x12), .val (.int x13), .val (.ref b0), .val (.ref b1), .val (.int y0), .unset] [(.int x5), (.int (3 : Int32)), (.ref b0)]))
    refine OwnOut.go (fun t k => XS.imul X5.here hx rfl (hb hby at_214) rfl k) ?_
    show OwnOut p e s below 16 192 _ (T5.setTop (mkF m 215 #[.val (.int x0), .val (.int x1), .val (.int x2), .val (.int x3), .val (.int x4), .val (.int x5), .val (.int x6), .val (.int x7), .val (.int x8), .val (.int x9), .val (.int x10), .val (.int x11), .val (.int x12), .val (.int x13), .val (.ref b0), .val (.ref b1), .val (.int y0), .unset] [(.int ((3 : Int32) * x5)), (.ref b0)]))
    refine OwnOut.go (fun t k => XT.iconstV X5.here hx rfl (1 : Int32) (hb hby at_215) rfl k) ?_
    show OwnOut p e s below 16 192 _ (T5.setTop (mkF m 216 #[.val (.int x0), .val (.int x1), .val (.int x2), .val (.int x3), .val (.int x4), .val (.int x5), .val (.int x6), .val (.int x7), .val (.int x8), .val (.int x9), .val (.int x10), .val (.int x11), .val (.int x12), .val (.int x13), .val (.ref b0), .val (.ref b1), .val (.int y0), .unset] [(.int (1 : Int32)), (.int ((3 : Int32) * x5)), (.ref b0)]))
    refine OwnOut.go (fun t k => XS.iadd X5.here hx rfl (hb hby at_216) rfl k) ?_
    show OwnOut p e s below 16 192 _ (T5.setTop (mkF m 217 #[.val (.int x0), .val (.int x1), .val (.int x2), .val (.int x3), .val (.int x4), .val (.int x5), .val (.int x6), .val (.int x7), .val (.int x8), .val (.int x9), .val (.int x10), .val (.int x11), .val (.int x12), .val (.int x13), .val (.ref b0), .val (.ref b1), .val (.int y0), .unset] [(.int (((3 : Int32) * x5) + (1 : Int32))), (.ref b0)]))
    refine OwnOut.go (fun t k => XS.iload X5.here hx rfl (hb hby at_217) rfl k) ?_
    show OwnOut p e s below 16 192 _ (T5.setTop (mkF m 219 #[.val (.int x0), .val (.int x1), .val (.int x2), .val (.int x3), .val (.int x4), .val (.int x5), .val (.int x6), .val (.int x7), .val (.int x8), .val (.int x9), .val (.int x10), .val (.int x11), .val (.int x12), .val (.int x13), .val (.ref b0), .val (.ref b1), .val (.int y0), .unset] [(.int y0), (.int (((3 : Int32) * x5) + (1 : Int32))), (.ref b0)]))
    refine OwnOut.go (fun t k => XT.bipushV X5.here hx rfl (16 : Int32) (hb hby at_219) rfl k) ?_
    show OwnOut p e s below 16 192 _ (T5.setTop (mkF m 221 #[.val (.int x0), .val (.int x1), .val (.int x2), .val (.int x3), .val (.int x4), .val (.int x5), .val (.int x6), .val (.int x7), .val (.int x8), .val (.int x9), .val (.int x10), .val (.int x11), .val (.int x12), .val (.int x13), .val (.ref b0), .val (.ref b1), .val (.int y0), .unset] [(.int (16 : Int32)), (.int y0), (.int (((3 : Int32) * x5) + (1 : Int32))), (.ref b0)]))
    refine OwnOut.go (fun t k => XS.iushr X5.here hx rfl (hb hby at_221) rfl k) ?_
    show OwnOut p e s below 16 192 _ (T5.setTop (mkF m 222 #[.val (.int x0), .val (.int x1), .val (.int x2), .val (.int x3), .val (.int x4), .val (.int x5), .val (.int x6), .val (.int x7), .val (.int x8), .val (.int x9), .val (.int x10), .val (.int x11), .val (.int x12), .val (.int x13), .val (.ref b0), .val (.ref b1), .val (.int y0), .unset] [(.int ((y0.toUInt32 >>> ((16 : Int32) &&& 31).toUInt32).toInt32)), (.int (((3 : Int32) * x5) + (1 : Int32))), (.ref b0)]))
    refine OwnOut.go (fun t k => XT.sipushV X5.here hx rfl (255 : Int32) (hb hby at_222) rfl k) ?_
    show OwnOut p e s below 16 192 _ (T5.setTop (mkF m 225 #[.val (.int x0), .val (.int x1), .val (.int x2), .val (.int x3), .val (.int x4), .val (.int x5), .val (.int x6), .val (.int x7), .val (.int x8), .val (.int x9), .val (.int x10), .val (.int x11), .val (.int x12), .val (.int x13), .val (.ref b0), .val (.ref b1), .val (.int y0), .unset] [(.int (255 : Int32)), (.int ((y0.toUInt32 >>> ((16 : Int32) &&& 31).toUInt32).toInt32)), (.int (((3 : Int32) * x5) + (1 : Int32))), (.ref b0)]))
    refine OwnOut.go (fun t k => XS.iand X5.here hx rfl (hb hby at_225) rfl k) ?_
    show OwnOut p e s below 16 192 _ (T5.setTop (mkF m 226 #[.val (.int x0), .val (.int x1), .val (.int x2), .val (.int x3), .val (.int x4), .val (.int x5), .val (.int x6), .val (.int x7), .val (.int x8), .val (.int x9), .val (.int x10), .val (.int x11), .val (.int x12), .val (.int x13), .val (.ref b0), .val (.ref b1), .val (.int y0), .unset] [(.int (((y0.toUInt32 >>> ((16 : Int32) &&& 31).toUInt32).toInt32) &&& (255 : Int32))), (.int (((3 : Int32) * x5) + (1 : Int32))), (.ref b0)]))
    obtain ⟨l_6, hl6, hr⟩ := Option.bind_eq_some_iff.mp hr
    obtain ⟨T6, h6, X6, e6, W6, A_6, st6⟩ := saI X5 hx hZ e5 A_5 hl6 (g := (mkF m 226 #[.val (.int x0), .val (.int x1), .val (.int x2), .val (.int x3), .val (.int x4), .val (.int x5), .val (.int x6), .val (.int x7), .val (.int x8), .val (.int x9), .val (.int x10), .val (.int x11), .val (.int x12), .val (.int x13), .val (.ref b0), .val (.ref b1), .val (.int y0), .unset] [(.int (((y0.toUInt32 >>> ((16 : Int32) &&& 31).toUInt32).toInt32) &&& (255 : Int32))), (.int (((3 : Int32) * x5) + (1 : Int32))), (.ref b0)])) rfl rfl (hb hby at_226)
    refine OwnOut.go (fun t k => st6 _ k) ?_
    have E1_6 := E1_5.wr W6
    have F1_words_6 := F1_words_5.other W6 (Or.inl (Ne.symm ne0_1))
    have F1_length_6 := F1_length_5.other W6 (Or.inl (Ne.symm ne0_1))
    have A2_6 := A2_5.other W6 (Ne.symm ne0_2)
    have N_6 := Fr.snoc X6 N_5 g0
    have O_6 := O_5.wr W6 g0
    have K_6 := K_5.wr W6 (Or.inr z0)
    show OwnOut p e s below 16 192 _ (T6.setTop (mkF m 227 #[.val (.int x0), .val (.int x1), .val (.int x2), .val (.int x3), .val (.int x4), .val (.int x5), .val (.int x6), .val (.int x7), .val (.int x8), .val (.int x9), .val (.int x10), .val (.int x11), .val (.int x12), .val (.int x13), .val (.ref b0), .val (.ref b1), .val (.int y0), .unset] []))
    refine OwnOut.go (fun t k => XS.aload X6.here hx rfl (hb hby at_227) rfl rfl k) ?_
    show OwnOut p e s below 16 192 _ (T6.setTop (mkF m 229 #[.val (.int x0), .val (.int x1), .val (.int x2), .val (.int x3), .val (.int x4), .val (.int x5), .val (.int x6), .val (.int x7), .val (.int x8), .val (.int x9), .val (.int x10), .val (.int x11), .val (.int x12), .val (.int x13), .val (.ref b0), .val (.ref b1), .val (.int y0), .unset] [(.ref b0)]))
    refine OwnOut.go (fun t k => XT.iconstV X6.here hx rfl (3 : Int32) (hb hby at_229) rfl k) ?_
    show OwnOut p e s below 16 192 _ (T6.setTop (mkF m 230 #[.val (.int x0), .val (.int x1), .val (.int x2), .val (.int x3), .val (.int x4), .val (.int x5), .val (.int x6), .val (.int x7), .val (.int x8), .val (.int x9), .val (.int x10), .val (.int x11), .val (.int x12), .val (.int x13), .val (.ref b0), .val (.ref b1), .val (.int y0), .unset] [(.int (3 : Int32)), (.ref b0)]))
    refine OwnOut.go (fun t k => XS.iload X6.here hx rfl (hb hby at_230) rfl k) ?_
    show OwnOut p e s below 16 192 _ (T6.setTop (mkF m 232 #[.val (.int x0), .val (.int x1), .val (.int x2), .val (.int x3), .val (.int x4), .val (.int x5), .val (.int x6), .val (.int x7), .val (.int x8), .val (.int x9), .val (.int x10), .val (.int x11), .val (.int x12), .val (.int x13), .val (.ref b0), .val (.ref b1), .val (.int y0), .unset] [(.int x5), (.int (3 : Int32)), (.ref b0)]))
    refine OwnOut.go (fun t k => XS.imul X6.here hx rfl (hb hby at_232) rfl k) ?_
    show OwnOut p e s below 16 192 _ (T6.setTop (mkF m 233 #[.val (.int x0), .val (.int x1), .val (.int x2), .val (.int x3), .val (.int x4), .val (.int x5), .val (.int x6), .val (.int x7), .val (.int x8), .val (.int x9), .val (.int x10), .val (.int x11), .val (.int x12), .val (.int x13), .val (.ref b0), .val (.ref b1), .val (.int y0), .unset] [(.int ((3 : Int32) * x5)), (.ref b0)]))
    refine OwnOut.go (fun t k => XT.iconstV X6.here hx rfl (2 : Int32) (hb hby at_233) rfl k) ?_
    show OwnOut p e s below 16 192 _ (T6.setTop (mkF m 234 #[.val (.int x0), .val (.int x1), .val (.int x2), .val (.int x3), .val (.int x4), .val (.int x5), .val (.int x6), .val (.int x7), .val (.int x8), .val (.int x9), .val (.int x10), .val (.int x11), .val (.int x12), .val (.int x13), .val (.ref b0), .val (.ref b1), .val (.int y0), .unset] [(.int (2 : Int32)), (.int ((3 : Int32) * x5)), (.ref b0)]))
    refine OwnOut.go (fun t k => XS.iadd X6.here hx rfl (hb hby at_234) rfl k) ?_
    show OwnOut p e s below 16 192 _ (T6.setTop (mkF m 235 #[.val (.int x0), .val (.int x1), .val (.int x2), .val (.int x3), .val (.int x4), .val (.int x5), .val (.int x6), .val (.int x7), .val (.int x8), .val (.int x9), .val (.int x10), .val (.int x11), .val (.int x12), .val (.int x13), .val (.ref b0), .val (.ref b1), .val (.int y0), .unset] [(.int (((3 : Int32) * x5) + (2 : Int32))), (.ref b0)]))
    refine OwnOut.go (fun t k => XS.iload X6.here hx rfl (hb hby at_235) rfl k) ?_
    show OwnOut p e s below 16 192 _ (T6.setTop (mkF m 237 #[.val (.int x0), .val (.int x1), .val (.int x2), .val (.int x3), .val (.int x4), .val (.int x5), .val (.int x6), .val (.int x7), .val (.int x8), .val (.int x9), .val (.int x10), .val (.int x11), .val (.int x12), .val (.int x13), .val (.ref b0), .val (.ref b1), .val (.int y0), .unset] [(.int y0), (.int (((3 : Int32) * x5) + (2 : Int32))), (.ref b0)]))
    refine OwnOut.go (fun t k => XT.bipushV X6.here hx rfl (8 : Int32) (hb hby at_237) rfl k) ?_
    show OwnOut p e s below 16 192 _ (T6.setTop (mkF m 239 #[.val (.int x0), .val (.int x1), .val (.int x2), .val (.int x3), .val (.int x4), .val (.int x5), .val (.int x6), .val (.int x7), .val (.int x8), .val (.int x9), .val (.int x10), .val (.int x11), .val (.int x12), .val (.int x13), .val (.ref b0), .val (.ref b1), .val (.int y0), .unset] [(.int (8 : Int32)), (.int y0), (.int (((3 : Int32) * x5) + (2 : Int32))), (.ref b0)]))
    refine OwnOut.go (fun t k => XS.iushr X6.here hx rfl (hb hby at_239) rfl k) ?_
    show OwnOut p e s below 16 192 _ (T6.setTop (mkF m 240 #[.val (.int x0), .val (.int x1), .val (.int x2), .val (.int x3), .val (.int x4), .val (.int x5), .val (.int x6), .val (.int x7), .val (.int x8), .val (.int x9), .val (.int x10), .val (.int x11), .val (.int x12), .val (.int x13), .val (.ref b0), .val (.ref b1), .val (.int y0), .unset] [(.int ((y0.toUInt32 >>> ((8 : Int32) &&& 31).toUInt32).toInt32)), (.int (((3 : Int32) * x5) + (2 : Int32))), (.ref b0)]))
    refine OwnOut.go (fun t k => XT.sipushV X6.here hx rfl (255 : Int32) (hb hby at_240) rfl k) ?_
    show OwnOut p e s below 16 192 _ (T6.setTop (mkF m 243 #[.val (.int x0), .val (.int x1), .val (.int x2), .val (.int x3), .val (.int x4), .val (.int x5), .val (.int x6), .val (.int x7), .val (.int x8), .val (.int x9), .val (.int x10), .val (.int x11), .val (.int x12), .val (.int x13), .val (.ref b0), .val (.ref b1), .val (.int y0), .unset] [(.int (255 : Int32)), (.int ((y0.toUInt32 >>> ((8 : Int32) &&& 31).toUInt32).toInt32)), (.int (((3 : Int32) * x5) + (2 : Int32))), (.ref b0)]))
    refine OwnOut.go (fun t k => XS.iand X6.here hx rfl (hb hby at_243) rfl k) ?_
    show OwnOut p e s below 16 192 _ (T6.setTop (mkF m 244 #[.val (.int x0), .val (.int x1), .val (.int x2), .val (.int x3), .val (.int x4), .val (.int x5), .val (.int x6), .val (.int x7), .val (.int x8), .val (.int x9), .val (.int x10), .val (.int x11), .val (.int x12), .val (.int x13), .val (.ref b0), .val (.ref b1), .val (.int y0), .unset] [(.int (((y0.toUInt32 >>> ((8 : Int32) &&& 31).toUInt32).toInt32) &&& (255 : Int32))), (.int (((3 : Int32) * x5) + (2 : Int32))), (.ref b0)]))
    obtain ⟨l_7, hl7, hr⟩ := Option.bind_eq_some_iff.mp hr
    obtain ⟨T7, h7, X7, e7, W7, A_7, st7⟩ := saI X6 hx hZ e6 A_6 hl7 (g := (mkF m 244 #[.val (.int x0), .val (.int x1), .val (.int x2), .val (.int x3), .val (.int x4), .val (.int x5), .val (.int x6), .val (.int x7), .val (.int x8), .val (.int x9), .val (.int x10), .val (.int x11), .val (.int x12), .val (.int x13), .val (.ref b0), .val (.ref b1), .val (.int y0), .unset] [(.int (((y0.toUInt32 >>> ((8 : Int32) &&& 31).toUInt32).toInt32) &&& (255 : Int32))), (.int (((3 : Int32) * x5) + (2 : Int32))), (.ref b0)])) rfl rfl (hb hby at_244)
    refine OwnOut.go (fun t k => st7 _ k) ?_
    have E1_7 := E1_6.wr W7
    have F1_words_7 := F1_words_6.other W7 (Or.inl (Ne.symm ne0_1))
    have F1_length_7 := F1_length_6.other W7 (Or.inl (Ne.symm ne0_1))
    have A2_7 := A2_6.other W7 (Ne.symm ne0_2)
    have N_7 := Fr.snoc X7 N_6 g0
    have O_7 := O_6.wr W7 g0
    have K_7 := K_6.wr W7 (Or.inr z0)
    show OwnOut p e s below 16 192 _ (T7.setTop (mkF m 245 #[.val (.int x0), .val (.int x1), .val (.int x2), .val (.int x3), .val (.int x4), .val (.int x5), .val (.int x6), .val (.int x7), .val (.int x8), .val (.int x9), .val (.int x10), .val (.int x11), .val (.int x12), .val (.int x13), .val (.ref b0), .val (.ref b1), .val (.int y0), .unset] []))
    refine OwnOut.go (fun t k => XS.aload X7.here hx rfl (hb hby at_245) rfl rfl k) ?_
    show OwnOut p e s below 16 192 _ (T7.setTop (mkF m 247 #[.val (.int x0), .val (.int x1), .val (.int x2), .val (.int x3), .val (.int x4), .val (.int x5), .val (.int x6), .val (.int x7), .val (.int x8), .val (.int x9), .val (.int x10), .val (.int x11), .val (.int x12), .val (.int x13), .val (.ref b0), .val (.ref b1), .val (.int y0), .unset] [(.ref b0)]))
    refine OwnOut.go (fun t k => XT.iconstV X7.here hx rfl (3 : Int32) (hb hby at_247) rfl k) ?_
    show OwnOut p e s below 16 192 _ (T7.setTop (mkF m 248 #[.val (.int x0), .val (.int x1), .val (.int x2), .val (.int x3), .val (.int x4), .val (.int x5), .val (.int x6), .val (.int x7), .val (.int x8), .val (.int x9), .val (.int x10), .val (.int x11), .val (.int x12), .val (.int x13), .val (.ref b0), .val (.ref b1), .val (.int y0), .unset] [(.int (3 : Int32)), (.ref b0)]))
    refine OwnOut.go (fun t k => XS.iload X7.here hx rfl (hb hby at_248) rfl k) ?_
    show OwnOut p e s below 16 192 _ (T7.setTop (mkF m 250 #[.val (.int x0), .val (.int x1), .val (.int x2), .val (.int x3), .val (.int x4), .val (.int x5), .val (.int x6), .val (.int x7), .val (.int x8), .val (.int x9), .val (.int x10), .val (.int x11), .val (.int x12), .val (.int x13), .val (.ref b0), .val (.ref b1), .val (.int y0), .unset] [(.int x5), (.int (3 : Int32)), (.ref b0)]))
    refine OwnOut.go (fun t k => XS.imul X7.here hx rfl (hb hby at_250) rfl k) ?_
    show OwnOut p e s below 16 192 _ (T7.setTop (mkF m 251 #[.val (.int x0), .val (.int x1), .val (.int x2), .val (.int x3), .val (.int x4), .val (.int x5), .val (.int x6), .val (.int x7), .val (.int x8), .val (.int x9), .val (.int x10), .val (.int x11), .val (.int x12), .val (.int x13), .val (.ref b0), .val (.ref b1), .val (.int y0), .unset] [(.int ((3 : Int32) * x5)), (.ref b0)]))
    refine OwnOut.go (fun t k => XT.iconstV X7.here hx rfl (3 : Int32) (hb hby at_251) rfl k) ?_
    show OwnOut p e s below 16 192 _ (T7.setTop (mkF m 252 #[.val (.int x0), .val (.int x1), .val (.int x2), .val (.int x3), .val (.int x4), .val (.int x5), .val (.int x6), .val (.int x7), .val (.int x8), .val (.int x9), .val (.int x10), .val (.int x11), .val (.int x12), .val (.int x13), .val (.ref b0), .val (.ref b1), .val (.int y0), .unset] [(.int (3 : Int32)), (.int ((3 : Int32) * x5)), (.ref b0)]))
    refine OwnOut.go (fun t k => XS.iadd X7.here hx rfl (hb hby at_252) rfl k) ?_
    show OwnOut p e s below 16 192 _ (T7.setTop (mkF m 253 #[.val (.int x0), .val (.int x1), .val (.int x2), .val (.int x3), .val (.int x4), .val (.int x5), .val (.int x6), .val (.int x7), .val (.int x8), .val (.int x9), .val (.int x10), .val (.int x11), .val (.int x12), .val (.int x13), .val (.ref b0), .val (.ref b1), .val (.int y0), .unset] [(.int (((3 : Int32) * x5) + (3 : Int32))), (.ref b0)]))
    refine OwnOut.go (fun t k => XS.iload X7.here hx rfl (hb hby at_253) rfl k) ?_
    show OwnOut p e s below 16 192 _ (T7.setTop (mkF m 255 #[.val (.int x0), .val (.int x1), .val (.int x2), .val (.int x3), .val (.int x4), .val (.int x5), .val (.int x6), .val (.int x7), .val (.int x8), .val (.int x9), .val (.int x10), .val (.int x11), .val (.int x12), .val (.int x13), .val (.ref b0), .val (.ref b1), .val (.int y0), .unset] [(.int y0), (.int (((3 : Int32) * x5) + (3 : Int32))), (.ref b0)]))
    refine OwnOut.go (fun t k => XT.sipushV X7.here hx rfl (255 : Int32) (hb hby at_255) rfl k) ?_
    show OwnOut p e s below 16 192 _ (T7.setTop (mkF m 258 #[.val (.int x0), .val (.int x1), .val (.int x2), .val (.int x3), .val (.int x4), .val (.int x5), .val (.int x6), .val (.int x7), .val (.int x8), .val (.int x9), .val (.int x10), .val (.int x11), .val (.int x12), .val (.int x13), .val (.ref b0), .val (.ref b1), .val (.int y0), .unset] [(.int (255 : Int32)), (.int y0), (.int (((3 : Int32) * x5) + (3 : Int32))), (.ref b0)]))
    refine OwnOut.go (fun t k => XS.iand X7.here hx rfl (hb hby at_258) rfl k) ?_
    show OwnOut p e s below 16 192 _ (T7.setTop (mkF m 259 #[.val (.int x0), .val (.int x1), .val (.int x2), .val (.int x3), .val (.int x4), .val (.int x5), .val (.int x6), .val (.int x7), .val (.int x8), .val (.int x9), .val (.int x10), .val (.int x11), .val (.int x12), .val (.int x13), .val (.ref b0), .val (.ref b1), .val (.int y0), .unset] [(.int (y0 &&& (255 : Int32))), (.int (((3 : Int32) * x5) + (3 : Int32))), (.ref b0)]))
    obtain ⟨l_8, hl8, hr⟩ := Option.bind_eq_some_iff.mp hr
    obtain ⟨T8, h8, X8, e8, W8, A_8, st8⟩ := saI X7 hx hZ e7 A_7 hl8 (g := (mkF m 259 #[.val (.int x0), .val (.int x1), .val (.int x2), .val (.int x3), .val (.int x4), .val (.int x5), .val (.int x6), .val (.int x7), .val (.int x8), .val (.int x9), .val (.int x10), .val (.int x11), .val (.int x12), .val (.int x13), .val (.ref b0), .val (.ref b1), .val (.int y0), .unset] [(.int (y0 &&& (255 : Int32))), (.int (((3 : Int32) * x5) + (3 : Int32))), (.ref b0)])) rfl rfl (hb hby at_259)
    refine OwnOut.go (fun t k => st8 _ k) ?_
    have E1_8 := E1_7.wr W8
    have F1_words_8 := F1_words_7.other W8 (Or.inl (Ne.symm ne0_1))
    have F1_length_8 := F1_length_7.other W8 (Or.inl (Ne.symm ne0_1))
    have A2_8 := A2_7.other W8 (Ne.symm ne0_2)
    have N_8 := Fr.snoc X8 N_7 g0
    have O_8 := O_7.wr W8 g0
    have K_8 := K_7.wr W8 (Or.inr z0)
    show OwnOut p e s below 16 192 _ (T8.setTop (mkF m 260 #[.val (.int x0), .val (.int x1), .val (.int x2), .val (.int x3), .val (.int x4), .val (.int x5), .val (.int x6), .val (.int x7), .val (.int x8), .val (.int x9), .val (.int x10), .val (.int x11), .val (.int x12), .val (.int x13), .val (.ref b0), .val (.ref b1), .val (.int y0), .unset] []))
    refine OwnOut.go (fun t k => XS.aload X8.here hx rfl (hb hby at_260) rfl rfl k) ?_
    show OwnOut p e s below 16 192 _ (T8.setTop (mkF m 262 #[.val (.int x0), .val (.int x1), .val (.int x2), .val (.int x3), .val (.int x4), .val (.int x5), .val (.int x6), .val (.int x7), .val (.int x8), .val (.int x9), .val (.int x10), .val (.int x11), .val (.int x12), .val (.int x13), .val (.ref b0), .val (.ref b1), .val (.int y0), .unset] [(.ref b1)]))
    refine OwnOut.go (fun t k => XS.iload X8.here hx rfl (hb hby at_262) rfl k) ?_
    show OwnOut p e s below 16 192 _ (T8.setTop (mkF m 264 #[.val (.int x0), .val (.int x1), .val (.int x2), .val (.int x3), .val (.int x4), .val (.int x5), .val (.int x6), .val (.int x7), .val (.int x8), .val (.int x9), .val (.int x10), .val (.int x11), .val (.int x12), .val (.int x13), .val (.ref b0), .val (.ref b1), .val (.int y0), .unset] [(.int x13), (.ref b1)]))
    obtain ⟨o9, ho9, hr⟩ := Option.bind_eq_some_iff.mp hr
    obtain ⟨r9, T9, L9, X9', hQ9, st9⟩ := callV (W := 0) (rm := rx4) X8 hx hZ (y := (⟨"com/example/sinogrid/sinogrid/BitBuffer", "toCodewords", "(I)[I"⟩ : MethodName)) hown (hw _ (List.mem_of_getElem? (i := 19) rfl)) (hw _ (List.mem_of_getElem? (i := 20) rfl)) (hw _ (List.mem_of_getElem? (i := 22) rfl)) (hw _ (List.mem_of_getElem? (i := 21) rfl)) (hw _ (List.mem_of_getElem? (i := 4) rfl)) (hw _ (List.mem_of_getElem? (i := 23) rfl)) (by decide) (rm4 l Z a0 hw [] x13 b1 u1_length b2 l2 h8 n0 o9 ho9 O_8 E1_8 F1_words_8 F1_length_8 A2_8 g1 g2 ne1_2) (by decide) (by decide) (by decide) (by decide) e8 E1_8 (g := (mkF m 264 #[.val (.int x0), .val (.int x1), .val (.int x2), .val (.int x3), .val (.int x4), .val (.int x5), .val (.int x6), .val (.int x7), .val (.int x8), .val (.int x9), .val (.int x10), .val (.int x11), .val (.int x12), .val (.int x13), .val (.ref b0), .val (.ref b1), .val (.int y0), .unset] [(.int x13), (.ref b1)])) rfl (by rw [hml]; rfl) (argsL := [(.int x13)]) (rest := []) (lenOf pd4 rfl) rfl (by show 2 * 0 + _ ≤ _; exact Nat.le_of_eq rfl) (hb hby at_264)
    obtain ⟨c9_0, rfl, Nq9, Kq9, zq9_0, gq9_0, Aq9_0⟩ := hQ9
    have X9 : Stand p l e room_1 _ m args below meth c T9 _ 4 38 := X9'
    have ne0_3_9 : b0 ≠ c9_0 := Nat.ne_of_lt (Nat.lt_of_lt_of_le A_8.lt zq9_0)
    have ne1_3_9 : b1 ≠ c9_0 := Nat.ne_of_lt (Nat.lt_of_lt_of_le E1_8.lt zq9_0)
    have ne2_3_9 : b2 ≠ c9_0 := Nat.ne_of_lt (Nat.lt_of_lt_of_le A2_8.lt zq9_0)
    have z_9_0 : h0.size ≤ c9_0 := Nat.le_trans K_8.1 zq9_0
    have A0_9 := A_8.keep Kq9 nin0
    have E1_9 := E1_8.keep Kq9
    have F1_words_9 := F1_words_8.keep Kq9 nin0
    have F1_length_9 := F1_length_8.keep Kq9 nin0
    have A2_9 := A2_8.keep Kq9 nin0
    have N_9 := Fr.app N_8 Nq9
    have O_9 := O_8.keep Kq9 all0
    have K_9 := K_8.trans Kq9 all0
    refine OwnOut.go (fun t k => st9 _ k) ?_
    show OwnOut p e s below 16 192 _ (T9.setTop (mkF m 267 #[.val (.int x0), .val (.int x1), .val (.int x2), .val (.int x3), .val (.int x4), .val (.int x5), .val (.int x6), .val (.int x7), .val (.int x8), .val (.int x9), .val (.int x10), .val (.int x11), .val (.int x12), .val (.int x13), .val (.ref b0), .val (.ref b1), .val (.int y0), .unset] [(.ref c9_0)]))
    refine OwnOut.go (fun t k => XS.astore X9.here hx rfl (hb hby at_267) rfl rfl (l' := #[.val (.int x0), .val (.int x1), .val (.int x2), .val (.int x3), .val (.int x4), .val (.int x5), .val (.int x6), .val (.int x7), .val (.int x8), .val (.int x9), .val (.int x10), .val (.int x11), .val (.int x12), .val (.int x13), .val (.ref b0), .val (.ref b1), .val (.int y0), .val (.ref c9_0)]) rfl k) ?_
    show OwnOut p e s below 16 192 _ (T9.setTop (mkF m 269 #[.val (.int x0), .val (.int x1), .val (.int x2), .val (.int x3), .val (.int x4), .val (.int x5), .val (.int x6), .val (.int x7), .val (.int x8), .val (.int x9), .val (.int x10), .val (.int x11), .val (.int x12), .val (.int x13), .val (.ref b0), .val (.ref b1), .val (.int y0), .val (.ref c9_0)] []))
    refine OwnOut.go (fun t k => XS.aload X9.here hx rfl (hb hby at_269) rfl rfl k) ?_
    show OwnOut p e s below 16 192 _ (T9.setTop (mkF m 271 #[.val (.int x0), .val (.int x1), .val (.int x2), .val (.int x3), .val (.int x4), .val (.int x5), .val (.int x6), .val (.int x7), .val (.int x8), .val (.int x9), .val (.int x10), .val (.int x11), .val (.int x12), .val (.int x13), .val (.ref b0), .val (.ref b1), .val (.int y0), .val (.ref c9_0)] [(.ref c9_0)]))
    refine OwnOut.go (fun t k => lenA X9 hx hZ rfl Aq9_0 (g := (mkF m 271 #[.val (.int x0), .val (.int x1), .val (.int x2), .val (.int x3), .val (.int x4), .val (.int x5), .val (.int x6), .val (.int x7), .val (.int x8), .val (.int x9), .val (.int x10), .val (.int x11), .val (.int x12), .val (.int x13), .val (.ref b0), .val (.ref b1), .val (.int y0), .val (.ref c9_0)] [(.ref c9_0)])) rfl rfl (hb hby at_271) t k) ?_
    show OwnOut p e s below 16 192 _ (T9.setTop (mkF m 272 #[.val (.int x0), .val (.int x1), .val (.int x2), .val (.int x3), .val (.int x4), .val (.int x5), .val (.int x6), .val (.int x7), .val (.int x8), .val (.int x9), .val (.int x10), .val (.int x11), .val (.int x12), .val (.int x13), .val (.ref b0), .val (.ref b1), .val (.int y0), .val (.ref c9_0)] [(.int (lenx o9))]))
    refine OwnOut.go (fun t k => XS.iload X9.here hx rfl (hb hby at_272) rfl k) ?_
    show OwnOut p e s below 16 192 _ (T9.setTop (mkF m 274 #[.val (.int x0), .val (.int x1), .val (.int x2), .val (.int x3), .val (.int x4), .val (.int x5), .val (.int x6), .val (.int x7), .val (.int x8), .val (.int x9), .val (.int x10), .val (.int x11), .val (.int x12), .val (.int x13), .val (.ref b0), .val (.ref b1), .val (.int y0), .val (.ref c9_0)] [(.int x13), (.int (lenx o9))]))
    by_cases hc274 : (lenx o9) = x13
    · rw [if_pos hc274] at hr
      refine OwnOut.go (fun t k => XS.icmpYes X9.here hx rfl (pc0 := 274) (pc' := 279) rfl (hb hby at_274) rfl (XT.ii_eq_t hc274) (by decide) (by decide) k) ?_
      show OwnOut p e s below 16 192 _ (T9.setTop (mkF m 279 #[.val (.int x0), .val (.int x1), .val (.int x2), .val (.int x3), .val (.int x4), .val (.int x5), .val (.int x6), .val (.int x7), .val (.int x8), .val (.int x9), .val (.int x10), .val (.int x11), .val (.int x12), .val (.int x13), .val (.ref b0), .val (.ref b1), .val (.int y0), .val (.ref c9_0)] []))
      refine OwnOut.go (fun t k => XS.aload X9.here hx rfl (hb hby at_279) rfl rfl k) ?_
      show OwnOut p e s below 16 192 _ (T9.setTop (mkF m 281 #[.val (.int x0), .val (.int x1), .val (.int x2), .val (.int x3), .val (.int x4), .val (.int x5), .val (.int x6), .val (.int x7), .val (.int x8), .val (.int x9), .val (.int x10), .val (.int x11), .val (.int x12), .val (.int x13), .val (.ref b0), .val (.ref b1), .val (.int y0), .val (.ref c9_0)] [(.ref c9_0)]))
      refine OwnOut.go (fun t k => XS.aload X9.here hx rfl (hb hby at_281) rfl rfl k) ?_
      show OwnOut p e s below 16 192 _ (T9.setTop (mkF m 283 #[.val (.int x0), .val (.int x1), .val (.int x2), .val (.int x3), .val (.int x4), .val (.int x5), .val (.int x6), .val (.int x7), .val (.int x8), .val (.int x9), .val (.int x10), .val (.int x11), .val (.int x12), .val (.int x13), .val (.ref b0), .val (.ref b1), .val (.int y0), .val (.ref c9_0)] [(.ref b0), (.ref c9_0)]))
      refine OwnOut.go (fun t k => XS.iload X9.here hx rfl (hb hby at_283) rfl k) ?_
      show OwnOut p e s below 16 192 _ (T9.setTop (mkF m 285 #[.val (.int x0), .val (.int x1), .val (.int x2), .val (.int x3), .val (.int x4), .val (.int x5), .val (.int x6), .val (.int x7), .val (.int x8), .val (.int x9), .val (.int x10), .val (.int x11), .val (.int x12), .val (.int x13), .val (.ref b0), .val (.ref b1), .val (.int y0), .val (.ref c9_0)] [(.int x13), (.ref b0), (.ref c9_0)]))
      refine OwnOut.go (fun t k => XT.iconstV X9.here hx rfl (0 : Int32) (hb hby at_285) rfl k) ?_
      show OwnOut p e s below 16 192 _ (T9.setTop (mkF m 286 #[.val (.int x0), .val (.int x1), .val (.int x2), .val (.int x3), .val (.int x4), .val (.int x5), .val (.int x6), .val (.int x7), .val (.int x8), .val (.int x9), .val (.int x10), .val (.int x11), .val (.int x12), .val (.int x13), .val (.ref b0), .val (.ref b1), .val (.int y0), .val (.ref c9_0)] [(.int (0 : Int32)), (.int x13), (.ref b0), (.ref c9_0)]))
      obtain ⟨o10, ho10, hr⟩ := Option.bind_eq_some_iff.mp hr
      obtain ⟨r10, T10, L10, X10', hQ10, st10⟩ := callQ (W := 0) (rm := rx5) X9 hx hZ (y := (⟨"com/example/sinogrid/sinogrid/BitBufferToCodewordsPinLaw", "same", "([I[III)Z"⟩ : MethodName)) hown (hw _ (List.mem_of_getElem? (i := 26) rfl)) (hw _ (List.mem_of_getElem? (i := 27) rfl)) (hw _ (List.mem_of_getElem? (i := 28) rfl)) (hw _ (List.mem_of_getElem? (i := 29) rfl)) (by decide) (rm5 l Z a0 hw [] x13 (0 : Int32) c9_0 o9 b0 l_8 T9.heap o10 ho10 Aq9_0 A0_9) (by decide) (by decide) (by decide) (by decide) rfl (g := (mkF m 286 #[.val (.int x0), .val (.int x1), .val (.int x2), .val (.int x3), .val (.int x4), .val (.int x5), .val (.int x6), .val (.int x7), .val (.int x8), .val (.int x9), .val (.int x10), .val (.int x11), .val (.int x12), .val (.int x13), .val (.ref b0), .val (.ref b1), .val (.int y0), .val (.ref c9_0)] [(.int (0 : Int32)), (.int x13), (.ref b0), (.ref c9_0)])) rfl (by rw [hml]; rfl) (argsL := [(.ref c9_0), (.ref b0), (.int x13), (.int (0 : Int32))]) (rest := []) (lenOf pd5 rfl) rfl (by show 2 * 0 + _ ≤ _; exact Nat.le_of_eq rfl) (hb hby at_286)
      obtain ⟨rfl, e10, rfl⟩ := hQ10
      rw [List.append_nil] at X10'
      have X10 : Stand p l e room_1 _ m args below meth c T10 _ 4 38 := X10'
      refine OwnOut.go (fun t k => st10 _ k) ?_
      show OwnOut p e s below 16 192 _ (T10.setTop (mkF m 289 #[.val (.int x0), .val (.int x1), .val (.int x2), .val (.int x3), .val (.int x4), .val (.int x5), .val (.int x6), .val (.int x7), .val (.int x8), .val (.int x9), .val (.int x10), .val (.int x11), .val (.int x12), .val (.int x13), .val (.ref b0), .val (.ref b1), .val (.int y0), .val (.ref c9_0)] [(.int o10)]))
      by_cases hc289 : o10 = (0 : Int32)
      · rw [if_pos hc289] at hr
        refine OwnOut.go (fun t k => XS.ifYes X10.here hx rfl (pc0 := 289) (pc' := 501) rfl (hb hby at_289) rfl (XT.i0_eq_t hc289) (by decide) (by decide) k) ?_
        show OwnOut p e s below 16 192 _ (T10.setTop (mkF m 501 #[.val (.int x0), .val (.int x1), .val (.int x2), .val (.int x3), .val (.int x4), .val (.int x5), .val (.int x6), .val (.int x7), .val (.int x8), .val (.int x9), .val (.int x10), .val (.int x11), .val (.int x12), .val (.int x13), .val (.ref b0), .val (.ref b1), .val (.int y0), .val (.ref c9_0)] []))
        refine OwnOut.go (fun t k => XT.iconstV X10.here hx rfl (0 : Int32) (hb hby at_501) rfl k) ?_
        show OwnOut p e s below 16 192 _ (T10.setTop (mkF m 502 #[.val (.int x0), .val (.int x1), .val (.int x2), .val (.int x3), .val (.int x4), .val (.int x5), .val (.int x6), .val (.int x7), .val (.int x8), .val (.int x9), .val (.int x10), .val (.int x11), .val (.int x12), .val (.int x13), .val (.ref b0), .val (.ref b1), .val (.int y0), .val (.ref c9_0)] [(.int (0 : Int32))]))
        cases hr
        exact outZ X10 hx hret (hb hby at_502) hlk (by decide) (by decide) ⟨rfl, N_9⟩
      · rw [if_neg hc289] at hr
        refine OwnOut.go (fun t k => XS.ifNo X10.here hx rfl (hb hby at_289) rfl (XT.i0_eq_f hc289) k) ?_
        show OwnOut p e s below 16 192 _ (T10.setTop (mkF m 292 #[.val (.int x0), .val (.int x1), .val (.int x2), .val (.int x3), .val (.int x4), .val (.int x5), .val (.int x6), .val (.int x7), .val (.int x8), .val (.int x9), .val (.int x10), .val (.int x11), .val (.int x12), .val (.int x13), .val (.ref b0), .val (.ref b1), .val (.int y0), .val (.ref c9_0)] []))
        refine OwnOut.go (fun t k => XS.aload X10.here hx rfl (hb hby at_292) rfl rfl k) ?_
        show OwnOut p e s below 16 192 _ (T10.setTop (mkF m 294 #[.val (.int x0), .val (.int x1), .val (.int x2), .val (.int x3), .val (.int x4), .val (.int x5), .val (.int x6), .val (.int x7), .val (.int x8), .val (.int x9), .val (.int x10), .val (.int x11), .val (.int x12), .val (.int x13), .val (.ref b0), .val (.ref b1), .val (.int y0), .val (.ref c9_0)] [(.ref c9_0)]))
        refine OwnOut.go (fun t k => XS.aload X10.here hx rfl (hb hby at_294) rfl rfl k) ?_
        show OwnOut p e s below 16 192 _ (T10.setTop (mkF m 296 #[.val (.int x0), .val (.int x1), .val (.int x2), .val (.int x3), .val (.int x4), .val (.int x5), .val (.int x6), .val (.int x7), .val (.int x8), .val (.int x9), .val (.int x10), .val (.int x11), .val (.int x12), .val (.int x13), .val (.ref b0), .val (.ref b1), .val (.int y0), .val (.ref c9_0)] [(.ref b0), (.ref c9_0)]))
        refine OwnOut.go (fun t k => XS.iload X10.here hx rfl (hb hby at_296) rfl k) ?_
        show OwnOut p e s below 16 192 _ (T10.setTop (mkF m 298 #[.val (.int x0), .val (.int x1), .val (.int x2), .val (.int x3), .val (.int x4), .val (.int x5), .val (.int x6), .val (.int x7), .val (.int x8), .val (.int x9), .val (.int x10), .val (.int x11), .val (.int x12), .val (.int x13), .val (.ref b0), .val (.ref b1), .val (.int y0), .val (.ref c9_0)] [(.int x13), (.ref b0), (.ref c9_0)]))
        refine OwnOut.go (fun t k => XT.iconstV X10.here hx rfl (1 : Int32) (hb hby at_298) rfl k) ?_
        show OwnOut p e s below 16 192 _ (T10.setTop (mkF m 299 #[.val (.int x0), .val (.int x1), .val (.int x2), .val (.int x3), .val (.int x4), .val (.int x5), .val (.int x6), .val (.int x7), .val (.int x8), .val (.int x9), .val (.int x10), .val (.int x11), .val (.int x12), .val (.int x13), .val (.ref b0), .val (.ref b1), .val (.int y0), .val (.ref c9_0)] [(.int (1 : Int32)), (.int x13), (.ref b0), (.ref c9_0)]))
        obtain ⟨o11, ho11, hr⟩ := Option.bind_eq_some_iff.mp hr
        obtain ⟨r11, T11, L11, X11', hQ11, st11⟩ := callQ (W := 0) (rm := rx5) X10 hx hZ (y := (⟨"com/example/sinogrid/sinogrid/BitBufferToCodewordsPinLaw", "same", "([I[III)Z"⟩ : MethodName)) hown (hw _ (List.mem_of_getElem? (i := 26) rfl)) (hw _ (List.mem_of_getElem? (i := 27) rfl)) (hw _ (List.mem_of_getElem? (i := 28) rfl)) (hw _ (List.mem_of_getElem? (i := 29) rfl)) (by decide) (rm5 l Z a0 hw [] x13 (1 : Int32) c9_0 o9 b0 l_8 T9.heap o11 ho11 Aq9_0 A0_9) (by decide) (by decide) (by decide) (by decide) e10 (g := (mkF m 299 #[.val (.int x0), .val (.int x1), .val (.int x2), .val (.int x3), .val (.int x4), .val (.int x5), .val (.int x6), .val (.int x7), .val (.int x8), .val (.int x9), .val (.int x10), .val (.int x11), .val (.int x12), .val (.int x13), .val (.ref b0), .val (.ref b1), .val (.int y0), .val (.ref c9_0)] [(.int (1 : Int32)), (.int x13), (.ref b0), (.ref c9_0)])) rfl (by rw [hml]; rfl) (argsL := [(.ref c9_0), (.ref b0), (.int x13), (.int (1 : Int32))]) (rest := []) (lenOf pd5 rfl) rfl (by show 2 * 0 + _ ≤ _; exact Nat.le_of_eq rfl) (hb hby at_299)
        obtain ⟨rfl, e11, rfl⟩ := hQ11
        rw [List.append_nil] at X11'
        have X11 : Stand p l e room_1 _ m args below meth c T11 _ 4 38 := X11'
        refine OwnOut.go (fun t k => st11 _ k) ?_
        show OwnOut p e s below 16 192 _ (T11.setTop (mkF m 302 #[.val (.int x0), .val (.int x1), .val (.int x2), .val (.int x3), .val (.int x4), .val (.int x5), .val (.int x6), .val (.int x7), .val (.int x8), .val (.int x9), .val (.int x10), .val (.int x11), .val (.int x12), .val (.int x13), .val (.ref b0), .val (.ref b1), .val (.int y0), .val (.ref c9_0)] [(.int o11)]))
        by_cases hc302 : o11 = (0 : Int32)
        · rw [if_pos hc302] at hr
          refine OwnOut.go (fun t k => XS.ifYes X11.here hx rfl (pc0 := 302) (pc' := 501) rfl (hb hby at_302) rfl (XT.i0_eq_t hc302) (by decide) (by decide) k) ?_
          show OwnOut p e s below 16 192 _ (T11.setTop (mkF m 501 #[.val (.int x0), .val (.int x1), .val (.int x2), .val (.int x3), .val (.int x4), .val (.int x5), .val (.int x6), .val (.int x7), .val (.int x8), .val (.int x9), .val (.int x10), .val (.int x11), .val (.int x12), .val (.int x13), .val (.ref b0), .val (.ref b1), .val (.int y0), .val (.ref c9_0)] []))
          refine OwnOut.go (fun t k => XT.iconstV X11.here hx rfl (0 : Int32) (hb hby at_501) rfl k) ?_
          show OwnOut p e s below 16 192 _ (T11.setTop (mkF m 502 #[.val (.int x0), .val (.int x1), .val (.int x2), .val (.int x3), .val (.int x4), .val (.int x5), .val (.int x6), .val (.int x7), .val (.int x8), .val (.int x9), .val (.int x10), .val (.int x11), .val (.int x12), .val (.int x13), .val (.ref b0), .val (.ref b1), .val (.int y0), .val (.ref c9_0)] [(.int (0 : Int32))]))
          cases hr
          exact outZ X11 hx hret (hb hby at_502) hlk (by decide) (by decide) ⟨rfl, N_9⟩
        · rw [if_neg hc302] at hr
          refine OwnOut.go (fun t k => XS.ifNo X11.here hx rfl (hb hby at_302) rfl (XT.i0_eq_f hc302) k) ?_
          show OwnOut p e s below 16 192 _ (T11.setTop (mkF m 305 #[.val (.int x0), .val (.int x1), .val (.int x2), .val (.int x3), .val (.int x4), .val (.int x5), .val (.int x6), .val (.int x7), .val (.int x8), .val (.int x9), .val (.int x10), .val (.int x11), .val (.int x12), .val (.int x13), .val (.ref b0), .val (.ref b1), .val (.int y0), .val (.ref c9_0)] []))
          refine OwnOut.go (fun t k => XS.aload X11.here hx rfl (hb hby at_305) rfl rfl k) ?_
          show OwnOut p e s below 16 192 _ (T11.setTop (mkF m 307 #[.val (.int x0), .val (.int x1), .val (.int x2), .val (.int x3), .val (.int x4), .val (.int x5), .val (.int x6), .val (.int x7), .val (.int x8), .val (.int x9), .val (.int x10), .val (.int x11), .val (.int x12), .val (.int x13), .val (.ref b0), .val (.ref b1), .val (.int y0), .val (.ref c9_0)] [(.ref c9_0)]))
          refine OwnOut.go (fun t k => XS.aload X11.here hx rfl (hb hby at_307) rfl rfl k) ?_
          show OwnOut p e s below 16 192 _ (T11.setTop (mkF m 309 #[.val (.int x0), .val (.int x1), .val (.int x2), .val (.int x3), .val (.int x4), .val (.int x5), .val (.int x6), .val (.int x7), .val (.int x8), .val (.int x9), .val (.int x10), .val (.int x11), .val (.int x12), .val (.int x13), .val (.ref b0), .val (.ref b1), .val (.int y0), .val (.ref c9_0)] [(.ref b0), (.ref c9_0)]))
          refine OwnOut.go (fun t k => XS.iload X11.here hx rfl (hb hby at_309) rfl k) ?_
          show OwnOut p e s below 16 192 _ (T11.setTop (mkF m 311 #[.val (.int x0), .val (.int x1), .val (.int x2), .val (.int x3), .val (.int x4), .val (.int x5), .val (.int x6), .val (.int x7), .val (.int x8), .val (.int x9), .val (.int x10), .val (.int x11), .val (.int x12), .val (.int x13), .val (.ref b0), .val (.ref b1), .val (.int y0), .val (.ref c9_0)] [(.int x13), (.ref b0), (.ref c9_0)]))
          refine OwnOut.go (fun t k => XT.iconstV X11.here hx rfl (2 : Int32) (hb hby at_311) rfl k) ?_
          show OwnOut p e s below 16 192 _ (T11.setTop (mkF m 312 #[.val (.int x0), .val (.int x1), .val (.int x2), .val (.int x3), .val (.int x4), .val (.int x5), .val (.int x6), .val (.int x7), .val (.int x8), .val (.int x9), .val (.int x10), .val (.int x11), .val (.int x12), .val (.int x13), .val (.ref b0), .val (.ref b1), .val (.int y0), .val (.ref c9_0)] [(.int (2 : Int32)), (.int x13), (.ref b0), (.ref c9_0)]))
          obtain ⟨o12, ho12, hr⟩ := Option.bind_eq_some_iff.mp hr
          obtain ⟨r12, T12, L12, X12', hQ12, st12⟩ := callQ (W := 0) (rm := rx5) X11 hx hZ (y := (⟨"com/example/sinogrid/sinogrid/BitBufferToCodewordsPinLaw", "same", "([I[III)Z"⟩ : MethodName)) hown (hw _ (List.mem_of_getElem? (i := 26) rfl)) (hw _ (List.mem_of_getElem? (i := 27) rfl)) (hw _ (List.mem_of_getElem? (i := 28) rfl)) (hw _ (List.mem_of_getElem? (i := 29) rfl)) (by decide) (rm5 l Z a0 hw [] x13 (2 : Int32) c9_0 o9 b0 l_8 T9.heap o12 ho12 Aq9_0 A0_9) (by decide) (by decide) (by decide) (by decide) e11 (g := (mkF m 312 #[.val (.int x0), .val (.int x1), .val (.int x2), .val (.int x3), .val (.int x4), .val (.int x5), .val (.int x6), .val (.int x7), .val (.int x8), .val (.int x9), .val (.int x10), .val (.int x11), .val (.int x12), .val (.int x13), .val (.ref b0), .val (.ref b1), .val (.int y0), .val (.ref c9_0)] [(.int (2 : Int32)), (.int x13), (.ref b0), (.ref c9_0)])) rfl (by rw [hml]; rfl) (argsL := [(.ref c9_0), (.ref b0), (.int x13), (.int (2 : Int32))]) (rest := []) (lenOf pd5 rfl) rfl (by show 2 * 0 + _ ≤ _; exact Nat.le_of_eq rfl) (hb hby at_312)
          obtain ⟨rfl, e12, rfl⟩ := hQ12
          rw [List.append_nil] at X12'
          have X12 : Stand p l e room_1 _ m args below meth c T12 _ 4 38 := X12'
          refine OwnOut.go (fun t k => st12 _ k) ?_
          show OwnOut p e s below 16 192 _ (T12.setTop (mkF m 315 #[.val (.int x0), .val (.int x1), .val (.int x2), .val (.int x3), .val (.int x4), .val (.int x5), .val (.int x6), .val (.int x7), .val (.int x8), .val (.int x9), .val (.int x10), .val (.int x11), .val (.int x12), .val (.int x13), .val (.ref b0), .val (.ref b1), .val (.int y0), .val (.ref c9_0)] [(.int o12)]))
          by_cases hc315 : o12 = (0 : Int32)
          · rw [if_pos hc315] at hr
            refine OwnOut.go (fun t k => XS.ifYes X12.here hx rfl (pc0 := 315) (pc' := 501) rfl (hb hby at_315) rfl (XT.i0_eq_t hc315) (by decide) (by decide) k) ?_
            show OwnOut p e s below 16 192 _ (T12.setTop (mkF m 501 #[.val (.int x0), .val (.int x1), .val (.int x2), .val (.int x3), .val (.int x4), .val (.int x5), .val (.int x6), .val (.int x7), .val (.int x8), .val (.int x9), .val (.int x10), .val (.int x11), .val (.int x12), .val (.int x13), .val (.ref b0), .val (.ref b1), .val (.int y0), .val (.ref c9_0)] []))
            refine OwnOut.go (fun t k => XT.iconstV X12.here hx rfl (0 : Int32) (hb hby at_501) rfl k) ?_
            show OwnOut p e s below 16 192 _ (T12.setTop (mkF m 502 #[.val (.int x0), .val (.int x1), .val (.int x2), .val (.int x3), .val (.int x4), .val (.int x5), .val (.int x6), .val (.int x7), .val (.int x8), .val (.int x9), .val (.int x10), .val (.int x11), .val (.int x12), .val (.int x13), .val (.ref b0), .val (.ref b1), .val (.int y0), .val (.ref c9_0)] [(.int (0 : Int32))]))
            cases hr
            exact outZ X12 hx hret (hb hby at_502) hlk (by decide) (by decide) ⟨rfl, N_9⟩
          · rw [if_neg hc315] at hr
            refine OwnOut.go (fun t k => XS.ifNo X12.here hx rfl (hb hby at_315) rfl (XT.i0_eq_f hc315) k) ?_
            show OwnOut p e s below 16 192 _ (T12.setTop (mkF m 318 #[.val (.int x0), .val (.int x1), .val (.int x2), .val (.int x3), .val (.int x4), .val (.int x5), .val (.int x6), .val (.int x7), .val (.int x8), .val (.int x9), .val (.int x10), .val (.int x11), .val (.int x12), .val (.int x13), .val (.ref b0), .val (.ref b1), .val (.int y0), .val (.ref c9_0)] []))
            refine OwnOut.go (fun t k => XS.aload X12.here hx rfl (hb hby at_318) rfl rfl k) ?_
            show OwnOut p e s below 16 192 _ (T12.setTop (mkF m 320 #[.val (.int x0), .val (.int x1), .val (.int x2), .val (.int x3), .val (.int x4), .val (.int x5), .val (.int x6), .val (.int x7), .val (.int x8), .val (.int x9), .val (.int x10), .val (.int x11), .val (.int x12), .val (.int x13), .val (.ref b0), .val (.ref b1), .val (.int y0), .val (.ref c9_0)] [(.ref c9_0)]))
            refine OwnOut.go (fun t k => XS.aload X12.here hx rfl (hb hby at_320) rfl rfl k) ?_
            show OwnOut p e s below 16 192 _ (T12.setTop (mkF m 322 #[.val (.int x0), .val (.int x1), .val (.int x2), .val (.int x3), .val (.int x4), .val (.int x5), .val (.int x6), .val (.int x7), .val (.int x8), .val (.int x9), .val (.int x10), .val (.int x11), .val (.int x12), .val (.int x13), .val (.ref b0), .val (.ref b1), .val (.int y0), .val (.ref c9_0)] [(.ref b0), (.ref c9_0)]))
            refine OwnOut.go (fun t k => XS.iload X12.here hx rfl (hb hby at_322) rfl k) ?_
            show OwnOut p e s below 16 192 _ (T12.setTop (mkF m 324 #[.val (.int x0), .val (.int x1), .val (.int x2), .val (.int x3), .val (.int x4), .val (.int x5), .val (.int x6), .val (.int x7), .val (.int x8), .val (.int x9), .val (.int x10), .val (.int x11), .val (.int x12), .val (.int x13), .val (.ref b0), .val (.ref b1), .val (.int y0), .val (.ref c9_0)] [(.int x13), (.ref b0), (.ref c9_0)]))
            refine OwnOut.go (fun t k => XT.iconstV X12.here hx rfl (3 : Int32) (hb hby at_324) rfl k) ?_
            show OwnOut p e s below 16 192 _ (T12.setTop (mkF m 325 #[.val (.int x0), .val (.int x1), .val (.int x2), .val (.int x3), .val (.int x4), .val (.int x5), .val (.int x6), .val (.int x7), .val (.int x8), .val (.int x9), .val (.int x10), .val (.int x11), .val (.int x12), .val (.int x13), .val (.ref b0), .val (.ref b1), .val (.int y0), .val (.ref c9_0)] [(.int (3 : Int32)), (.int x13), (.ref b0), (.ref c9_0)]))
            obtain ⟨o13, ho13, hr⟩ := Option.bind_eq_some_iff.mp hr
            obtain ⟨r13, T13, L13, X13', hQ13, st13⟩ := callQ (W := 0) (rm := rx5) X12 hx hZ (y := (⟨"com/example/sinogrid/sinogrid/BitBufferToCodewordsPinLaw", "same", "([I[III)Z"⟩ : MethodName)) hown (hw _ (List.mem_of_getElem? (i := 26) rfl)) (hw _ (List.mem_of_getElem? (i := 27) rfl)) (hw _ (List.mem_of_getElem? (i := 28) rfl)) (hw _ (List.mem_of_getElem? (i := 29) rfl)) (by decide) (rm5 l Z a0 hw [] x13 (3 : Int32) c9_0 o9 b0 l_8 T9.heap o13 ho13 Aq9_0 A0_9) (by decide) (by decide) (by decide) (by decide) e12 (g := (mkF m 325 #[.val (.int x0), .val (.int x1), .val (.int x2), .val (.int x3), .val (.int x4), .val (.int x5), .val (.int x6), .val (.int x7), .val (.int x8), .val (.int x9), .val (.int x10), .val (.int x11), .val (.int x12), .val (.int x13), .val (.ref b0), .val (.ref b1), .val (.int y0), .val (.ref c9_0)] [(.int (3 : Int32)), (.int x13), (.ref b0), (.ref c9_0)])) rfl (by rw [hml]; rfl) (argsL := [(.ref c9_0), (.ref b0), (.int x13), (.int (3 : Int32))]) (rest := []) (lenOf pd5 rfl) rfl (by show 2 * 0 + _ ≤ _; exact Nat.le_of_eq rfl) (hb hby at_325)
            obtain ⟨rfl, e13, rfl⟩ := hQ13
            rw [List.append_nil] at X13'
            have X13 : Stand p l e room_1 _ m args below meth c T13 _ 4 38 := X13'
            refine OwnOut.go (fun t k => st13 _ k) ?_
            show OwnOut p e s below 16 192 _ (T13.setTop (mkF m 328 #[.val (.int x0), .val (.int x1), .val (.int x2), .val (.int x3), .val (.int x4), .val (.int x5), .val (.int x6), .val (.int x7), .val (.int x8), .val (.int x9), .val (.int x10), .val (.int x11), .val (.int x12), .val (.int x13), .val (.ref b0), .val (.ref b1), .val (.int y0), .val (.ref c9_0)] [(.int o13)]))
            by_cases hc328 : o13 = (0 : Int32)
            · rw [if_pos hc328] at hr
              refine OwnOut.go (fun t k => XS.ifYes X13.here hx rfl (pc0 := 328) (pc' := 501) rfl (hb hby at_328) rfl (XT.i0_eq_t hc328) (by decide) (by decide) k) ?_
              show OwnOut p e s below 16 192 _ (T13.setTop (mkF m 501 #[.val (.int x0), .val (.int x1), .val (.int x2), .val (.int x3), .val (.int x4), .val (.int x5), .val (.int x6), .val (.int x7), .val (.int x8), .val (.int x9), .val (.int x10), .val (.int x11), .val (.int x12), .val (.int x13), .val (.ref b0), .val (.ref b1), .val (.int y0), .val (.ref c9_0)] []))
              refine OwnOut.go (fun t k => XT.iconstV X13.here hx rfl (0 : Int32) (hb hby at_501) rfl k) ?_
              show OwnOut p e s below 16 192 _ (T13.setTop (mkF m 502 #[.val (.int x0), .val (.int x1), .val (.int x2), .val (.int x3), .val (.int x4), .val (.int x5), .val (.int x6), .val (.int x7), .val (.int x8), .val (.int x9), .val (.int x10), .val (.int x11), .val (.int x12), .val (.int x13), .val (.ref b0), .val (.ref b1), .val (.int y0), .val (.ref c9_0)] [(.int (0 : Int32))]))
              cases hr
              exact outZ X13 hx hret (hb hby at_502) hlk (by decide) (by decide) ⟨rfl, N_9⟩
            · rw [if_neg hc328] at hr
              refine OwnOut.go (fun t k => XS.ifNo X13.here hx rfl (hb hby at_328) rfl (XT.i0_eq_f hc328) k) ?_
              show OwnOut p e s below 16 192 _ (T13.setTop (mkF m 331 #[.val (.int x0), .val (.int x1), .val (.int x2), .val (.int x3), .val (.int x4), .val (.int x5), .val (.int x6), .val (.int x7), .val (.int x8), .val (.int x9), .val (.int x10), .val (.int x11), .val (.int x12), .val (.int x13), .val (.ref b0), .val (.ref b1), .val (.int y0), .val (.ref c9_0)] []))
              refine OwnOut.go (fun t k => XS.aload X13.here hx rfl (hb hby at_331) rfl rfl k) ?_
              show OwnOut p e s below 16 192 _ (T13.setTop (mkF m 333 #[.val (.int x0), .val (.int x1), .val (.int x2), .val (.int x3), .val (.int x4), .val (.int x5), .val (.int x6), .val (.int x7), .val (.int x8), .val (.int x9), .val (.int x10), .val (.int x11), .val (.int x12), .val (.int x13), .val (.ref b0), .val (.ref b1), .val (.int y0), .val (.ref c9_0)] [(.ref c9_0)]))
              refine OwnOut.go (fun t k => XS.aload X13.here hx rfl (hb hby at_333) rfl rfl k) ?_
              show OwnOut p e s below 16 192 _ (T13.setTop (mkF m 335 #[.val (.int x0), .val (.int x1), .val (.int x2), .val (.int x3), .val (.int x4), .val (.int x5), .val (.int x6), .val (.int x7), .val (.int x8), .val (.int x9), .val (.int x10), .val (.int x11), .val (.int x12), .val (.int x13), .val (.ref b0), .val (.ref b1), .val (.int y0), .val (.ref c9_0)] [(.ref b0), (.ref c9_0)]))
              refine OwnOut.go (fun t k => XS.iload X13.here hx rfl (hb hby at_335) rfl k) ?_
              show OwnOut p e s below 16 192 _ (T13.setTop (mkF m 337 #[.val (.int x0), .val (.int x1), .val (.int x2), .val (.int x3), .val (.int x4), .val (.int x5), .val (.int x6), .val (.int x7), .val (.int x8), .val (.int x9), .val (.int x10), .val (.int x11), .val (.int x12), .val (.int x13), .val (.ref b0), .val (.ref b1), .val (.int y0), .val (.ref c9_0)] [(.int x13), (.ref b0), (.ref c9_0)]))
              refine OwnOut.go (fun t k => XT.iconstV X13.here hx rfl (4 : Int32) (hb hby at_337) rfl k) ?_
              show OwnOut p e s below 16 192 _ (T13.setTop (mkF m 338 #[.val (.int x0), .val (.int x1), .val (.int x2), .val (.int x3), .val (.int x4), .val (.int x5), .val (.int x6), .val (.int x7), .val (.int x8), .val (.int x9), .val (.int x10), .val (.int x11), .val (.int x12), .val (.int x13), .val (.ref b0), .val (.ref b1), .val (.int y0), .val (.ref c9_0)] [(.int (4 : Int32)), (.int x13), (.ref b0), (.ref c9_0)]))
              obtain ⟨o14, ho14, hr⟩ := Option.bind_eq_some_iff.mp hr
              obtain ⟨r14, T14, L14, X14', hQ14, st14⟩ := callQ (W := 0) (rm := rx5) X13 hx hZ (y := (⟨"com/example/sinogrid/sinogrid/BitBufferToCodewordsPinLaw", "same", "([I[III)Z"⟩ : MethodName)) hown (hw _ (List.mem_of_getElem? (i := 26) rfl)) (hw _ (List.mem_of_getElem? (i := 27) rfl)) (hw _ (List.mem_of_getElem? (i := 28) rfl)) (hw _ (List.mem_of_getElem? (i := 29) rfl)) (by decide) (rm5 l Z a0 hw [] x13 (4 : Int32) c9_0 o9 b0 l_8 T9.heap o14 ho14 Aq9_0 A0_9) (by decide) (by decide) (by decide) (by decide) e13 (g := (mkF m 338 #[.val (.int x0), .val (.int x1), .val (.int x2), .val (.int x3), .val (.int x4), .val (.int x5), .val (.int x6), .val (.int x7), .val (.int x8), .val (.int x9), .val (.int x10), .val (.int x11), .val (.int x12), .val (.int x13), .val (.ref b0), .val (.ref b1), .val (.int y0), .val (.ref c9_0)] [(.int (4 : Int32)), (.int x13), (.ref b0), (.ref c9_0)])) rfl (by rw [hml]; rfl) (argsL := [(.ref c9_0), (.ref b0), (.int x13), (.int (4 : Int32))]) (rest := []) (lenOf pd5 rfl) rfl (by show 2 * 0 + _ ≤ _; exact Nat.le_of_eq rfl) (hb hby at_338)
              obtain ⟨rfl, e14, rfl⟩ := hQ14
              rw [List.append_nil] at X14'
              have X14 : Stand p l e room_1 _ m args below meth c T14 _ 4 38 := X14'
              refine OwnOut.go (fun t k => st14 _ k) ?_
              show OwnOut p e s below 16 192 _ (T14.setTop (mkF m 341 #[.val (.int x0), .val (.int x1), .val (.int x2), .val (.int x3), .val (.int x4), .val (.int x5), .val (.int x6), .val (.int x7), .val (.int x8), .val (.int x9), .val (.int x10), .val (.int x11), .val (.int x12), .val (.int x13), .val (.ref b0), .val (.ref b1), .val (.int y0), .val (.ref c9_0)] [(.int o14)]))
              by_cases hc341 : o14 = (0 : Int32)
              · rw [if_pos hc341] at hr
                refine OwnOut.go (fun t k => XS.ifYes X14.here hx rfl (pc0 := 341) (pc' := 501) rfl (hb hby at_341) rfl (XT.i0_eq_t hc341) (by decide) (by decide) k) ?_
                show OwnOut p e s below 16 192 _ (T14.setTop (mkF m 501 #[.val (.int x0), .val (.int x1), .val (.int x2), .val (.int x3), .val (.int x4), .val (.int x5), .val (.int x6), .val (.int x7), .val (.int x8), .val (.int x9), .val (.int x10), .val (.int x11), .val (.int x12), .val (.int x13), .val (.ref b0), .val (.ref b1), .val (.int y0), .val (.ref c9_0)] []))
                refine OwnOut.go (fun t k => XT.iconstV X14.here hx rfl (0 : Int32) (hb hby at_501) rfl k) ?_
                show OwnOut p e s below 16 192 _ (T14.setTop (mkF m 502 #[.val (.int x0), .val (.int x1), .val (.int x2), .val (.int x3), .val (.int x4), .val (.int x5), .val (.int x6), .val (.int x7), .val (.int x8), .val (.int x9), .val (.int x10), .val (.int x11), .val (.int x12), .val (.int x13), .val (.ref b0), .val (.ref b1), .val (.int y0), .val (.ref c9_0)] [(.int (0 : Int32))]))
                cases hr
                exact outZ X14 hx hret (hb hby at_502) hlk (by decide) (by decide) ⟨rfl, N_9⟩
              · rw [if_neg hc341] at hr
                refine OwnOut.go (fun t k => XS.ifNo X14.here hx rfl (hb hby at_341) rfl (XT.i0_eq_f hc341) k) ?_
                show OwnOut p e s below 16 192 _ (T14.setTop (mkF m 344 #[.val (.int x0), .val (.int x1), .val (.int x2), .val (.int x3), .val (.int x4), .val (.int x5), .val (.int x6), .val (.int x7), .val (.int x8), .val (.int x9), .val (.int x10), .val (.int x11), .val (.int x12), .val (.int x13), .val (.ref b0), .val (.ref b1), .val (.int y0), .val (.ref c9_0)] []))
                refine OwnOut.go (fun t k => XS.aload X14.here hx rfl (hb hby at_344) rfl rfl k) ?_
                show OwnOut p e s below 16 192 _ (T14.setTop (mkF m 346 #[.val (.int x0), .val (.int x1), .val (.int x2), .val (.int x3), .val (.int x4), .val (.int x5), .val (.int x6), .val (.int x7), .val (.int x8), .val (.int x9), .val (.int x10), .val (.int x11), .val (.int x12), .val (.int x13), .val (.ref b0), .val (.ref b1), .val (.int y0), .val (.ref c9_0)] [(.ref c9_0)]))
                refine OwnOut.go (fun t k => XS.aload X14.here hx rfl (hb hby at_346) rfl rfl k) ?_
                show OwnOut p e s below 16 192 _ (T14.setTop (mkF m 348 #[.val (.int x0), .val (.int x1), .val (.int x2), .val (.int x3), .val (.int x4), .val (.int x5), .val (.int x6), .val (.int x7), .val (.int x8), .val (.int x9), .val (.int x10), .val (.int x11), .val (.int x12), .val (.int x13), .val (.ref b0), .val (.ref b1), .val (.int y0), .val (.ref c9_0)] [(.ref b0), (.ref c9_0)]))
                refine OwnOut.go (fun t k => XS.iload X14.here hx rfl (hb hby at_348) rfl k) ?_
                show OwnOut p e s below 16 192 _ (T14.setTop (mkF m 350 #[.val (.int x0), .val (.int x1), .val (.int x2), .val (.int x3), .val (.int x4), .val (.int x5), .val (.int x6), .val (.int x7), .val (.int x8), .val (.int x9), .val (.int x10), .val (.int x11), .val (.int x12), .val (.int x13), .val (.ref b0), .val (.ref b1), .val (.int y0), .val (.ref c9_0)] [(.int x13), (.ref b0), (.ref c9_0)]))
                refine OwnOut.go (fun t k => XT.iconstV X14.here hx rfl (5 : Int32) (hb hby at_350) rfl k) ?_
                show OwnOut p e s below 16 192 _ (T14.setTop (mkF m 351 #[.val (.int x0), .val (.int x1), .val (.int x2), .val (.int x3), .val (.int x4), .val (.int x5), .val (.int x6), .val (.int x7), .val (.int x8), .val (.int x9), .val (.int x10), .val (.int x11), .val (.int x12), .val (.int x13), .val (.ref b0), .val (.ref b1), .val (.int y0), .val (.ref c9_0)] [(.int (5 : Int32)), (.int x13), (.ref b0), (.ref c9_0)]))
                obtain ⟨o15, ho15, hr⟩ := Option.bind_eq_some_iff.mp hr
                obtain ⟨r15, T15, L15, X15', hQ15, st15⟩ := callQ (W := 0) (rm := rx5) X14 hx hZ (y := (⟨"com/example/sinogrid/sinogrid/BitBufferToCodewordsPinLaw", "same", "([I[III)Z"⟩ : MethodName)) hown (hw _ (List.mem_of_getElem? (i := 26) rfl)) (hw _ (List.mem_of_getElem? (i := 27) rfl)) (hw _ (List.mem_of_getElem? (i := 28) rfl)) (hw _ (List.mem_of_getElem? (i := 29) rfl)) (by decide) (rm5 l Z a0 hw [] x13 (5 : Int32) c9_0 o9 b0 l_8 T9.heap o15 ho15 Aq9_0 A0_9) (by decide) (by decide) (by decide) (by decide) e14 (g := (mkF m 351 #[.val (.int x0), .val (.int x1), .val (.int x2), .val (.int x3), .val (.int x4), .val (.int x5), .val (.int x6), .val (.int x7), .val (.int x8), .val (.int x9), .val (.int x10), .val (.int x11), .val (.int x12), .val (.int x13), .val (.ref b0), .val (.ref b1), .val (.int y0), .val (.ref c9_0)] [(.int (5 : Int32)), (.int x13), (.ref b0), (.ref c9_0)])) rfl (by rw [hml]; rfl) (argsL := [(.ref c9_0), (.ref b0), (.int x13), (.int (5 : Int32))]) (rest := []) (lenOf pd5 rfl) rfl (by show 2 * 0 + _ ≤ _; exact Nat.le_of_eq rfl) (hb hby at_351)
                obtain ⟨rfl, e15, rfl⟩ := hQ15
                rw [List.append_nil] at X15'
                have X15 : Stand p l e room_1 _ m args below meth c T15 _ 4 38 := X15'
                refine OwnOut.go (fun t k => st15 _ k) ?_
                show OwnOut p e s below 16 192 _ (T15.setTop (mkF m 354 #[.val (.int x0), .val (.int x1), .val (.int x2), .val (.int x3), .val (.int x4), .val (.int x5), .val (.int x6), .val (.int x7), .val (.int x8), .val (.int x9), .val (.int x10), .val (.int x11), .val (.int x12), .val (.int x13), .val (.ref b0), .val (.ref b1), .val (.int y0), .val (.ref c9_0)] [(.int o15)]))
                by_cases hc354 : o15 = (0 : Int32)
                · rw [if_pos hc354] at hr
                  refine OwnOut.go (fun t k => XS.ifYes X15.here hx rfl (pc0 := 354) (pc' := 501) rfl (hb hby at_354) rfl (XT.i0_eq_t hc354) (by decide) (by decide) k) ?_
                  show OwnOut p e s below 16 192 _ (T15.setTop (mkF m 501 #[.val (.int x0), .val (.int x1), .val (.int x2), .val (.int x3), .val (.int x4), .val (.int x5), .val (.int x6), .val (.int x7), .val (.int x8), .val (.int x9), .val (.int x10), .val (.int x11), .val (.int x12), .val (.int x13), .val (.ref b0), .val (.ref b1), .val (.int y0), .val (.ref c9_0)] []))
                  refine OwnOut.go (fun t k => XT.iconstV X15.here hx rfl (0 : Int32) (hb hby at_501) rfl k) ?_
                  show OwnOut p e s below 16 192 _ (T15.setTop (mkF m 502 #[.val (.int x0), .val (.int x1), .val (.int x2), .val (.int x3), .val (.int x4), .val (.int x5), .val (.int x6), .val (.int x7), .val (.int x8), .val (.int x9), .val (.int x10), .val (.int x11), .val (.int x12), .val (.int x13), .val (.ref b0), .val (.ref b1), .val (.int y0), .val (.ref c9_0)] [(.int (0 : Int32))]))
                  cases hr
                  exact outZ X15 hx hret (hb hby at_502) hlk (by decide) (by decide) ⟨rfl, N_9⟩
                · rw [if_neg hc354] at hr
                  refine OwnOut.go (fun t k => XS.ifNo X15.here hx rfl (hb hby at_354) rfl (XT.i0_eq_f hc354) k) ?_
                  show OwnOut p e s below 16 192 _ (T15.setTop (mkF m 357 #[.val (.int x0), .val (.int x1), .val (.int x2), .val (.int x3), .val (.int x4), .val (.int x5), .val (.int x6), .val (.int x7), .val (.int x8), .val (.int x9), .val (.int x10), .val (.int x11), .val (.int x12), .val (.int x13), .val (.ref b0), .val (.ref b1), .val (.int y0), .val (.ref c9_0)] []))
                  refine OwnOut.go (fun t k => XS.aload X15.here hx rfl (hb hby at_357) rfl rfl k) ?_
                  show OwnOut p e s below 16 192 _ (T15.setTop (mkF m 359 #[.val (.int x0), .val (.int x1), .val (.int x2), .val (.int x3), .val (.int x4), .val (.int x5), .val (.int x6), .val (.int x7), .val (.int x8), .val (.int x9), .val (.int x10), .val (.int x11), .val (.int x12), .val (.int x13), .val (.ref b0), .val (.ref b1), .val (.int y0), .val (.ref c9_0)] [(.ref c9_0)]))
                  refine OwnOut.go (fun t k => XS.aload X15.here hx rfl (hb hby at_359) rfl rfl k) ?_
                  show OwnOut p e s below 16 192 _ (T15.setTop (mkF m 361 #[.val (.int x0), .val (.int x1), .val (.int x2), .val (.int x3), .val (.int x4), .val (.int x5), .val (.int x6), .val (.int x7), .val (.int x8), .val (.int x9), .val (.int x10), .val (.int x11), .val (.int x12), .val (.int x13), .val (.ref b0), .val (.ref b1), .val (.int y0), .val (.ref c9_0)] [(.ref b0), (.ref c9_0)]))
                  refine OwnOut.go (fun t k => XS.iload X15.here hx rfl (hb hby at_361) rfl k) ?_
                  show OwnOut p e s below 16 192 _ (T15.setTop (mkF m 363 #[.val (.int x0), .val (.int x1), .val (.int x2), .val (.int x3), .val (.int x4), .val (.int x5), .val (.int x6), .val (.int x7), .val (.int x8), .val (.int x9), .val (.int x10), .val (.int x11), .val (.int x12), .val (.int x13), .val (.ref b0), .val (.ref b1), .val (.int y0), .val (.ref c9_0)] [(.int x13), (.ref b0), (.ref c9_0)]))
                  refine OwnOut.go (fun t k => XT.bipushV X15.here hx rfl (6 : Int32) (hb hby at_363) rfl k) ?_
                  show OwnOut p e s below 16 192 _ (T15.setTop (mkF m 365 #[.val (.int x0), .val (.int x1), .val (.int x2), .val (.int x3), .val (.int x4), .val (.int x5), .val (.int x6), .val (.int x7), .val (.int x8), .val (.int x9), .val (.int x10), .val (.int x11), .val (.int x12), .val (.int x13), .val (.ref b0), .val (.ref b1), .val (.int y0), .val (.ref c9_0)] [(.int (6 : Int32)), (.int x13), (.ref b0), (.ref c9_0)]))
                  obtain ⟨o16, ho16, hr⟩ := Option.bind_eq_some_iff.mp hr
                  obtain ⟨r16, T16, L16, X16', hQ16, st16⟩ := callQ (W := 0) (rm := rx5) X15 hx hZ (y := (⟨"com/example/sinogrid/sinogrid/BitBufferToCodewordsPinLaw", "same", "([I[III)Z"⟩ : MethodName)) hown (hw _ (List.mem_of_getElem? (i := 26) rfl)) (hw _ (List.mem_of_getElem? (i := 27) rfl)) (hw _ (List.mem_of_getElem? (i := 28) rfl)) (hw _ (List.mem_of_getElem? (i := 29) rfl)) (by decide) (rm5 l Z a0 hw [] x13 (6 : Int32) c9_0 o9 b0 l_8 T9.heap o16 ho16 Aq9_0 A0_9) (by decide) (by decide) (by decide) (by decide) e15 (g := (mkF m 365 #[.val (.int x0), .val (.int x1), .val (.int x2), .val (.int x3), .val (.int x4), .val (.int x5), .val (.int x6), .val (.int x7), .val (.int x8), .val (.int x9), .val (.int x10), .val (.int x11), .val (.int x12), .val (.int x13), .val (.ref b0), .val (.ref b1), .val (.int y0), .val (.ref c9_0)] [(.int (6 : Int32)), (.int x13), (.ref b0), (.ref c9_0)])) rfl (by rw [hml]; rfl) (argsL := [(.ref c9_0), (.ref b0), (.int x13), (.int (6 : Int32))]) (rest := []) (lenOf pd5 rfl) rfl (by show 2 * 0 + _ ≤ _; exact Nat.le_of_eq rfl) (hb hby at_365)
                  obtain ⟨rfl, e16, rfl⟩ := hQ16
                  rw [List.append_nil] at X16'
                  have X16 : Stand p l e room_1 _ m args below meth c T16 _ 4 38 := X16'
                  refine OwnOut.go (fun t k => st16 _ k) ?_
                  show OwnOut p e s below 16 192 _ (T16.setTop (mkF m 368 #[.val (.int x0), .val (.int x1), .val (.int x2), .val (.int x3), .val (.int x4), .val (.int x5), .val (.int x6), .val (.int x7), .val (.int x8), .val (.int x9), .val (.int x10), .val (.int x11), .val (.int x12), .val (.int x13), .val (.ref b0), .val (.ref b1), .val (.int y0), .val (.ref c9_0)] [(.int o16)]))
                  by_cases hc368 : o16 = (0 : Int32)
                  · rw [if_pos hc368] at hr
                    refine OwnOut.go (fun t k => XS.ifYes X16.here hx rfl (pc0 := 368) (pc' := 501) rfl (hb hby at_368) rfl (XT.i0_eq_t hc368) (by decide) (by decide) k) ?_
                    show OwnOut p e s below 16 192 _ (T16.setTop (mkF m 501 #[.val (.int x0), .val (.int x1), .val (.int x2), .val (.int x3), .val (.int x4), .val (.int x5), .val (.int x6), .val (.int x7), .val (.int x8), .val (.int x9), .val (.int x10), .val (.int x11), .val (.int x12), .val (.int x13), .val (.ref b0), .val (.ref b1), .val (.int y0), .val (.ref c9_0)] []))
                    refine OwnOut.go (fun t k => XT.iconstV X16.here hx rfl (0 : Int32) (hb hby at_501) rfl k) ?_
                    show OwnOut p e s below 16 192 _ (T16.setTop (mkF m 502 #[.val (.int x0), .val (.int x1), .val (.int x2), .val (.int x3), .val (.int x4), .val (.int x5), .val (.int x6), .val (.int x7), .val (.int x8), .val (.int x9), .val (.int x10), .val (.int x11), .val (.int x12), .val (.int x13), .val (.ref b0), .val (.ref b1), .val (.int y0), .val (.ref c9_0)] [(.int (0 : Int32))]))
                    cases hr
                    exact outZ X16 hx hret (hb hby at_502) hlk (by decide) (by decide) ⟨rfl, N_9⟩
                  · rw [if_neg hc368] at hr
                    refine OwnOut.go (fun t k => XS.ifNo X16.here hx rfl (hb hby at_368) rfl (XT.i0_eq_f hc368) k) ?_
                    show OwnOut p e s below 16 192 _ (T16.setTop (mkF m 371 #[.val (.int x0), .val (.int x1), .val (.int x2), .val (.int x3), .val (.int x4), .val (.int x5), .val (.int x6), .val (.int x7), .val (.int x8), .val (.int x9), .val (.int x10), .val (.int x11), .val (.int x12), .val (.int x13), .val (.ref b0), .val (.ref b1), .val (.int y0), .val (.ref c9_0)] []))
                    refine OwnOut.go (fun t k => XS.aload X16.here hx rfl (hb hby at_371) rfl rfl k) ?_
                    show OwnOut p e s below 16 192 _ (T16.setTop (mkF m 373 #[.val (.int x0), .val (.int x1), .val (.int x2), .val (.int x3), .val (.int x4), .val (.int x5), .val (.int x6), .val (.int x7), .val (.int x8), .val (.int x9), .val (.int x10), .val (.int x11), .val (.int x12), .val (.int x13), .val (.ref b0), .val (.ref b1), .val (.int y0), .val (.ref c9_0)] [(.ref c9_0)]))
                    refine OwnOut.go (fun t k => XS.aload X16.here hx rfl (hb hby at_373) rfl rfl k) ?_
                    show OwnOut p e s below 16 192 _ (T16.setTop (mkF m 375 #[.val (.int x0), .val (.int x1), .val (.int x2), .val (.int x3), .val (.int x4), .val (.int x5), .val (.int x6), .val (.int x7), .val (.int x8), .val (.int x9), .val (.int x10), .val (.int x11), .val (.int x12), .val (.int x13), .val (.ref b0), .val (.ref b1), .val (.int y0), .val (.ref c9_0)] [(.ref b0), (.ref c9_0)]))
                    refine OwnOut.go (fun t k => XS.iload X16.here hx rfl (hb hby at_375) rfl k) ?_
                    show OwnOut p e s below 16 192 _ (T16.setTop (mkF m 377 #[.val (.int x0), .val (.int x1), .val (.int x2), .val (.int x3), .val (.int x4), .val (.int x5), .val (.int x6), .val (.int x7), .val (.int x8), .val (.int x9), .val (.int x10), .val (.int x11), .val (.int x12), .val (.int x13), .val (.ref b0), .val (.ref b1), .val (.int y0), .val (.ref c9_0)] [(.int x13), (.ref b0), (.ref c9_0)]))
                    refine OwnOut.go (fun t k => XT.bipushV X16.here hx rfl (7 : Int32) (hb hby at_377) rfl k) ?_
                    show OwnOut p e s below 16 192 _ (T16.setTop (mkF m 379 #[.val (.int x0), .val (.int x1), .val (.int x2), .val (.int x3), .val (.int x4), .val (.int x5), .val (.int x6), .val (.int x7), .val (.int x8), .val (.int x9), .val (.int x10), .val (.int x11), .val (.int x12), .val (.int x13), .val (.ref b0), .val (.ref b1), .val (.int y0), .val (.ref c9_0)] [(.int (7 : Int32)), (.int x13), (.ref b0), (.ref c9_0)]))
                    obtain ⟨o17, ho17, hr⟩ := Option.bind_eq_some_iff.mp hr
                    obtain ⟨r17, T17, L17, X17', hQ17, st17⟩ := callQ (W := 0) (rm := rx5) X16 hx hZ (y := (⟨"com/example/sinogrid/sinogrid/BitBufferToCodewordsPinLaw", "same", "([I[III)Z"⟩ : MethodName)) hown (hw _ (List.mem_of_getElem? (i := 26) rfl)) (hw _ (List.mem_of_getElem? (i := 27) rfl)) (hw _ (List.mem_of_getElem? (i := 28) rfl)) (hw _ (List.mem_of_getElem? (i := 29) rfl)) (by decide) (rm5 l Z a0 hw [] x13 (7 : Int32) c9_0 o9 b0 l_8 T9.heap o17 ho17 Aq9_0 A0_9) (by decide) (by decide) (by decide) (by decide) e16 (g := (mkF m 379 #[.val (.int x0), .val (.int x1), .val (.int x2), .val (.int x3), .val (.int x4), .val (.int x5), .val (.int x6), .val (.int x7), .val (.int x8), .val (.int x9), .val (.int x10), .val (.int x11), .val (.int x12), .val (.int x13), .val (.ref b0), .val (.ref b1), .val (.int y0), .val (.ref c9_0)] [(.int (7 : Int32)), (.int x13), (.ref b0), (.ref c9_0)])) rfl (by rw [hml]; rfl) (argsL := [(.ref c9_0), (.ref b0), (.int x13), (.int (7 : Int32))]) (rest := []) (lenOf pd5 rfl) rfl (by show 2 * 0 + _ ≤ _; exact Nat.le_of_eq rfl) (hb hby at_379)
                    obtain ⟨rfl, e17, rfl⟩ := hQ17
                    rw [List.append_nil] at X17'
                    have X17 : Stand p l e room_1 _ m args below meth c T17 _ 4 38 := X17'
                    refine OwnOut.go (fun t k => st17 _ k) ?_
                    show OwnOut p e s below 16 192 _ (T17.setTop (mkF m 382 #[.val (.int x0), .val (.int x1), .val (.int x2), .val (.int x3), .val (.int x4), .val (.int x5), .val (.int x6), .val (.int x7), .val (.int x8), .val (.int x9), .val (.int x10), .val (.int x11), .val (.int x12), .val (.int x13), .val (.ref b0), .val (.ref b1), .val (.int y0), .val (.ref c9_0)] [(.int o17)]))
                    by_cases hc382 : o17 = (0 : Int32)
                    · rw [if_pos hc382] at hr
                      refine OwnOut.go (fun t k => XS.ifYes X17.here hx rfl (pc0 := 382) (pc' := 501) rfl (hb hby at_382) rfl (XT.i0_eq_t hc382) (by decide) (by decide) k) ?_
                      show OwnOut p e s below 16 192 _ (T17.setTop (mkF m 501 #[.val (.int x0), .val (.int x1), .val (.int x2), .val (.int x3), .val (.int x4), .val (.int x5), .val (.int x6), .val (.int x7), .val (.int x8), .val (.int x9), .val (.int x10), .val (.int x11), .val (.int x12), .val (.int x13), .val (.ref b0), .val (.ref b1), .val (.int y0), .val (.ref c9_0)] []))
                      refine OwnOut.go (fun t k => XT.iconstV X17.here hx rfl (0 : Int32) (hb hby at_501) rfl k) ?_
                      show OwnOut p e s below 16 192 _ (T17.setTop (mkF m 502 #[.val (.int x0), .val (.int x1), .val (.int x2), .val (.int x3), .val (.int x4), .val (.int x5), .val (.int x6), .val (.int x7), .val (.int x8), .val (.int x9), .val (.int x10), .val (.int x11), .val (.int x12), .val (.int x13), .val (.ref b0), .val (.ref b1), .val (.int y0), .val (.ref c9_0)] [(.int (0 : Int32))]))
                      cases hr
                      exact outZ X17 hx hret (hb hby at_502) hlk (by decide) (by decide) ⟨rfl, N_9⟩
                    · rw [if_neg hc382] at hr
                      refine OwnOut.go (fun t k => XS.ifNo X17.here hx rfl (hb hby at_382) rfl (XT.i0_eq_f hc382) k) ?_
                      show OwnOut p e s below 16 192 _ (T17.setTop (mkF m 385 #[.val (.int x0), .val (.int x1), .val (.int x2), .val (.int x3), .val (.int x4), .val (.int x5), .val (.int x6), .val (.int x7), .val (.int x8), .val (.int x9), .val (.int x10), .val (.int x11), .val (.int x12), .val (.int x13), .val (.ref b0), .val (.ref b1), .val (.int y0), .val (.ref c9_0)] []))
                      refine OwnOut.go (fun t k => XS.aload X17.here hx rfl (hb hby at_385) rfl rfl k) ?_
                      show OwnOut p e s below 16 192 _ (T17.setTop (mkF m 387 #[.val (.int x0), .val (.int x1), .val (.int x2), .val (.int x3), .val (.int x4), .val (.int x5), .val (.int x6), .val (.int x7), .val (.int x8), .val (.int x9), .val (.int x10), .val (.int x11), .val (.int x12), .val (.int x13), .val (.ref b0), .val (.ref b1), .val (.int y0), .val (.ref c9_0)] [(.ref c9_0)]))
                      refine OwnOut.go (fun t k => XS.aload X17.here hx rfl (hb hby at_387) rfl rfl k) ?_
                      show OwnOut p e s below 16 192 _ (T17.setTop (mkF m 389 #[.val (.int x0), .val (.int x1), .val (.int x2), .val (.int x3), .val (.int x4), .val (.int x5), .val (.int x6), .val (.int x7), .val (.int x8), .val (.int x9), .val (.int x10), .val (.int x11), .val (.int x12), .val (.int x13), .val (.ref b0), .val (.ref b1), .val (.int y0), .val (.ref c9_0)] [(.ref b0), (.ref c9_0)]))
                      refine OwnOut.go (fun t k => XS.iload X17.here hx rfl (hb hby at_389) rfl k) ?_
                      show OwnOut p e s below 16 192 _ (T17.setTop (mkF m 391 #[.val (.int x0), .val (.int x1), .val (.int x2), .val (.int x3), .val (.int x4), .val (.int x5), .val (.int x6), .val (.int x7), .val (.int x8), .val (.int x9), .val (.int x10), .val (.int x11), .val (.int x12), .val (.int x13), .val (.ref b0), .val (.ref b1), .val (.int y0), .val (.ref c9_0)] [(.int x13), (.ref b0), (.ref c9_0)]))
                      refine OwnOut.go (fun t k => XT.bipushV X17.here hx rfl (8 : Int32) (hb hby at_391) rfl k) ?_
                      show OwnOut p e s below 16 192 _ (T17.setTop (mkF m 393 #[.val (.int x0), .val (.int x1), .val (.int x2), .val (.int x3), .val (.int x4), .val (.int x5), .val (.int x6), .val (.int x7), .val (.int x8), .val (.int x9), .val (.int x10), .val (.int x11), .val (.int x12), .val (.int x13), .val (.ref b0), .val (.ref b1), .val (.int y0), .val (.ref c9_0)] [(.int (8 : Int32)), (.int x13), (.ref b0), (.ref c9_0)]))
                      obtain ⟨o18, ho18, hr⟩ := Option.bind_eq_some_iff.mp hr
                      obtain ⟨r18, T18, L18, X18', hQ18, st18⟩ := callQ (W := 0) (rm := rx5) X17 hx hZ (y := (⟨"com/example/sinogrid/sinogrid/BitBufferToCodewordsPinLaw", "same", "([I[III)Z"⟩ : MethodName)) hown (hw _ (List.mem_of_getElem? (i := 26) rfl)) (hw _ (List.mem_of_getElem? (i := 27) rfl)) (hw _ (List.mem_of_getElem? (i := 28) rfl)) (hw _ (List.mem_of_getElem? (i := 29) rfl)) (by decide) (rm5 l Z a0 hw [] x13 (8 : Int32) c9_0 o9 b0 l_8 T9.heap o18 ho18 Aq9_0 A0_9) (by decide) (by decide) (by decide) (by decide) e17 (g := (mkF m 393 #[.val (.int x0), .val (.int x1), .val (.int x2), .val (.int x3), .val (.int x4), .val (.int x5), .val (.int x6), .val (.int x7), .val (.int x8), .val (.int x9), .val (.int x10), .val (.int x11), .val (.int x12), .val (.int x13), .val (.ref b0), .val (.ref b1), .val (.int y0), .val (.ref c9_0)] [(.int (8 : Int32)), (.int x13), (.ref b0), (.ref c9_0)])) rfl (by rw [hml]; rfl) (argsL := [(.ref c9_0), (.ref b0), (.int x13), (.int (8 : Int32))]) (rest := []) (lenOf pd5 rfl) rfl (by show 2 * 0 + _ ≤ _; exact Nat.le_of_eq rfl) (hb hby at_393)
                      obtain ⟨rfl, e18, rfl⟩ := hQ18
                      rw [List.append_nil] at X18'
                      have X18 : Stand p l e room_1 _ m args below meth c T18 _ 4 38 := X18'
                      refine OwnOut.go (fun t k => st18 _ k) ?_
                      show OwnOut p e s below 16 192 _ (T18.setTop (mkF m 396 #[.val (.int x0), .val (.int x1), .val (.int x2), .val (.int x3), .val (.int x4), .val (.int x5), .val (.int x6), .val (.int x7), .val (.int x8), .val (.int x9), .val (.int x10), .val (.int x11), .val (.int x12), .val (.int x13), .val (.ref b0), .val (.ref b1), .val (.int y0), .val (.ref c9_0)] [(.int o18)]))
                      by_cases hc396 : o18 = (0 : Int32)
                      · rw [if_pos hc396] at hr
                        refine OwnOut.go (fun t k => XS.ifYes X18.here hx rfl (pc0 := 396) (pc' := 501) rfl (hb hby at_396) rfl (XT.i0_eq_t hc396) (by decide) (by decide) k) ?_
                        show OwnOut p e s below 16 192 _ (T18.setTop (mkF m 501 #[.val (.int x0), .val (.int x1), .val (.int x2), .val (.int x3), .val (.int x4), .val (.int x5), .val (.int x6), .val (.int x7), .val (.int x8), .val (.int x9), .val (.int x10), .val (.int x11), .val (.int x12), .val (.int x13), .val (.ref b0), .val (.ref b1), .val (.int y0), .val (.ref c9_0)] []))
                        refine OwnOut.go (fun t k => XT.iconstV X18.here hx rfl (0 : Int32) (hb hby at_501) rfl k) ?_
                        show OwnOut p e s below 16 192 _ (T18.setTop (mkF m 502 #[.val (.int x0), .val (.int x1), .val (.int x2), .val (.int x3), .val (.int x4), .val (.int x5), .val (.int x6), .val (.int x7), .val (.int x8), .val (.int x9), .val (.int x10), .val (.int x11), .val (.int x12), .val (.int x13), .val (.ref b0), .val (.ref b1), .val (.int y0), .val (.ref c9_0)] [(.int (0 : Int32))]))
                        cases hr
                        exact outZ X18 hx hret (hb hby at_502) hlk (by decide) (by decide) ⟨rfl, N_9⟩
                      · rw [if_neg hc396] at hr
                        refine OwnOut.go (fun t k => XS.ifNo X18.here hx rfl (hb hby at_396) rfl (XT.i0_eq_f hc396) k) ?_
                        show OwnOut p e s below 16 192 _ (T18.setTop (mkF m 399 #[.val (.int x0), .val (.int x1), .val (.int x2), .val (.int x3), .val (.int x4), .val (.int x5), .val (.int x6), .val (.int x7), .val (.int x8), .val (.int x9), .val (.int x10), .val (.int x11), .val (.int x12), .val (.int x13), .val (.ref b0), .val (.ref b1), .val (.int y0), .val (.ref c9_0)] []))
                        refine OwnOut.go (fun t k => XS.aload X18.here hx rfl (hb hby at_399) rfl rfl k) ?_
                        show OwnOut p e s below 16 192 _ (T18.setTop (mkF m 401 #[.val (.int x0), .val (.int x1), .val (.int x2), .val (.int x3), .val (.int x4), .val (.int x5), .val (.int x6), .val (.int x7), .val (.int x8), .val (.int x9), .val (.int x10), .val (.int x11), .val (.int x12), .val (.int x13), .val (.ref b0), .val (.ref b1), .val (.int y0), .val (.ref c9_0)] [(.ref c9_0)]))
                        refine OwnOut.go (fun t k => XS.aload X18.here hx rfl (hb hby at_401) rfl rfl k) ?_
                        show OwnOut p e s below 16 192 _ (T18.setTop (mkF m 403 #[.val (.int x0), .val (.int x1), .val (.int x2), .val (.int x3), .val (.int x4), .val (.int x5), .val (.int x6), .val (.int x7), .val (.int x8), .val (.int x9), .val (.int x10), .val (.int x11), .val (.int x12), .val (.int x13), .val (.ref b0), .val (.ref b1), .val (.int y0), .val (.ref c9_0)] [(.ref b0), (.ref c9_0)]))
                        refine OwnOut.go (fun t k => XS.iload X18.here hx rfl (hb hby at_403) rfl k) ?_
                        show OwnOut p e s below 16 192 _ (T18.setTop (mkF m 405 #[.val (.int x0), .val (.int x1), .val (.int x2), .val (.int x3), .val (.int x4), .val (.int x5), .val (.int x6), .val (.int x7), .val (.int x8), .val (.int x9), .val (.int x10), .val (.int x11), .val (.int x12), .val (.int x13), .val (.ref b0), .val (.ref b1), .val (.int y0), .val (.ref c9_0)] [(.int x13), (.ref b0), (.ref c9_0)]))
                        refine OwnOut.go (fun t k => XT.bipushV X18.here hx rfl (9 : Int32) (hb hby at_405) rfl k) ?_
                        show OwnOut p e s below 16 192 _ (T18.setTop (mkF m 407 #[.val (.int x0), .val (.int x1), .val (.int x2), .val (.int x3), .val (.int x4), .val (.int x5), .val (.int x6), .val (.int x7), .val (.int x8), .val (.int x9), .val (.int x10), .val (.int x11), .val (.int x12), .val (.int x13), .val (.ref b0), .val (.ref b1), .val (.int y0), .val (.ref c9_0)] [(.int (9 : Int32)), (.int x13), (.ref b0), (.ref c9_0)]))
                        obtain ⟨o19, ho19, hr⟩ := Option.bind_eq_some_iff.mp hr
                        obtain ⟨r19, T19, L19, X19', hQ19, st19⟩ := callQ (W := 0) (rm := rx5) X18 hx hZ (y := (⟨"com/example/sinogrid/sinogrid/BitBufferToCodewordsPinLaw", "same", "([I[III)Z"⟩ : MethodName)) hown (hw _ (List.mem_of_getElem? (i := 26) rfl)) (hw _ (List.mem_of_getElem? (i := 27) rfl)) (hw _ (List.mem_of_getElem? (i := 28) rfl)) (hw _ (List.mem_of_getElem? (i := 29) rfl)) (by decide) (rm5 l Z a0 hw [] x13 (9 : Int32) c9_0 o9 b0 l_8 T9.heap o19 ho19 Aq9_0 A0_9) (by decide) (by decide) (by decide) (by decide) e18 (g := (mkF m 407 #[.val (.int x0), .val (.int x1), .val (.int x2), .val (.int x3), .val (.int x4), .val (.int x5), .val (.int x6), .val (.int x7), .val (.int x8), .val (.int x9), .val (.int x10), .val (.int x11), .val (.int x12), .val (.int x13), .val (.ref b0), .val (.ref b1), .val (.int y0), .val (.ref c9_0)] [(.int (9 : Int32)), (.int x13), (.ref b0), (.ref c9_0)])) rfl (by rw [hml]; rfl) (argsL := [(.ref c9_0), (.ref b0), (.int x13), (.int (9 : Int32))]) (rest := []) (lenOf pd5 rfl) rfl (by show 2 * 0 + _ ≤ _; exact Nat.le_of_eq rfl) (hb hby at_407)
                        obtain ⟨rfl, e19, rfl⟩ := hQ19
                        rw [List.append_nil] at X19'
                        have X19 : Stand p l e room_1 _ m args below meth c T19 _ 4 38 := X19'
                        refine OwnOut.go (fun t k => st19 _ k) ?_
                        show OwnOut p e s below 16 192 _ (T19.setTop (mkF m 410 #[.val (.int x0), .val (.int x1), .val (.int x2), .val (.int x3), .val (.int x4), .val (.int x5), .val (.int x6), .val (.int x7), .val (.int x8), .val (.int x9), .val (.int x10), .val (.int x11), .val (.int x12), .val (.int x13), .val (.ref b0), .val (.ref b1), .val (.int y0), .val (.ref c9_0)] [(.int o19)]))
                        by_cases hc410 : o19 = (0 : Int32)
                        · rw [if_pos hc410] at hr
                          refine OwnOut.go (fun t k => XS.ifYes X19.here hx rfl (pc0 := 410) (pc' := 501) rfl (hb hby at_410) rfl (XT.i0_eq_t hc410) (by decide) (by decide) k) ?_
                          show OwnOut p e s below 16 192 _ (T19.setTop (mkF m 501 #[.val (.int x0), .val (.int x1), .val (.int x2), .val (.int x3), .val (.int x4), .val (.int x5), .val (.int x6), .val (.int x7), .val (.int x8), .val (.int x9), .val (.int x10), .val (.int x11), .val (.int x12), .val (.int x13), .val (.ref b0), .val (.ref b1), .val (.int y0), .val (.ref c9_0)] []))
                          refine OwnOut.go (fun t k => XT.iconstV X19.here hx rfl (0 : Int32) (hb hby at_501) rfl k) ?_
                          show OwnOut p e s below 16 192 _ (T19.setTop (mkF m 502 #[.val (.int x0), .val (.int x1), .val (.int x2), .val (.int x3), .val (.int x4), .val (.int x5), .val (.int x6), .val (.int x7), .val (.int x8), .val (.int x9), .val (.int x10), .val (.int x11), .val (.int x12), .val (.int x13), .val (.ref b0), .val (.ref b1), .val (.int y0), .val (.ref c9_0)] [(.int (0 : Int32))]))
                          cases hr
                          exact outZ X19 hx hret (hb hby at_502) hlk (by decide) (by decide) ⟨rfl, N_9⟩
                        · rw [if_neg hc410] at hr
                          refine OwnOut.go (fun t k => XS.ifNo X19.here hx rfl (hb hby at_410) rfl (XT.i0_eq_f hc410) k) ?_
                          show OwnOut p e s below 16 192 _ (T19.setTop (mkF m 413 #[.val (.int x0), .val (.int x1), .val (.int x2), .val (.int x3), .val (.int x4), .val (.int x5), .val (.int x6), .val (.int x7), .val (.int x8), .val (.int x9), .val (.int x10), .val (.int x11), .val (.int x12), .val (.int x13), .val (.ref b0), .val (.ref b1), .val (.int y0), .val (.ref c9_0)] []))
                          refine OwnOut.go (fun t k => XS.aload X19.here hx rfl (hb hby at_413) rfl rfl k) ?_
                          show OwnOut p e s below 16 192 _ (T19.setTop (mkF m 415 #[.val (.int x0), .val (.int x1), .val (.int x2), .val (.int x3), .val (.int x4), .val (.int x5), .val (.int x6), .val (.int x7), .val (.int x8), .val (.int x9), .val (.int x10), .val (.int x11), .val (.int x12), .val (.int x13), .val (.ref b0), .val (.ref b1), .val (.int y0), .val (.ref c9_0)] [(.ref c9_0)]))
                          refine OwnOut.go (fun t k => XS.aload X19.here hx rfl (hb hby at_415) rfl rfl k) ?_
                          show OwnOut p e s below 16 192 _ (T19.setTop (mkF m 417 #[.val (.int x0), .val (.int x1), .val (.int x2), .val (.int x3), .val (.int x4), .val (.int x5), .val (.int x6), .val (.int x7), .val (.int x8), .val (.int x9), .val (.int x10), .val (.int x11), .val (.int x12), .val (.int x13), .val (.ref b0), .val (.ref b1), .val (.int y0), .val (.ref c9_0)] [(.ref b0), (.ref c9_0)]))
                          refine OwnOut.go (fun t k => XS.iload X19.here hx rfl (hb hby at_417) rfl k) ?_
                          show OwnOut p e s below 16 192 _ (T19.setTop (mkF m 419 #[.val (.int x0), .val (.int x1), .val (.int x2), .val (.int x3), .val (.int x4), .val (.int x5), .val (.int x6), .val (.int x7), .val (.int x8), .val (.int x9), .val (.int x10), .val (.int x11), .val (.int x12), .val (.int x13), .val (.ref b0), .val (.ref b1), .val (.int y0), .val (.ref c9_0)] [(.int x13), (.ref b0), (.ref c9_0)]))
                          refine OwnOut.go (fun t k => XT.bipushV X19.here hx rfl (10 : Int32) (hb hby at_419) rfl k) ?_
                          show OwnOut p e s below 16 192 _ (T19.setTop (mkF m 421 #[.val (.int x0), .val (.int x1), .val (.int x2), .val (.int x3), .val (.int x4), .val (.int x5), .val (.int x6), .val (.int x7), .val (.int x8), .val (.int x9), .val (.int x10), .val (.int x11), .val (.int x12), .val (.int x13), .val (.ref b0), .val (.ref b1), .val (.int y0), .val (.ref c9_0)] [(.int (10 : Int32)), (.int x13), (.ref b0), (.ref c9_0)]))
                          obtain ⟨o20, ho20, hr⟩ := Option.bind_eq_some_iff.mp hr
                          obtain ⟨r20, T20, L20, X20', hQ20, st20⟩ := callQ (W := 0) (rm := rx5) X19 hx hZ (y := (⟨"com/example/sinogrid/sinogrid/BitBufferToCodewordsPinLaw", "same", "([I[III)Z"⟩ : MethodName)) hown (hw _ (List.mem_of_getElem? (i := 26) rfl)) (hw _ (List.mem_of_getElem? (i := 27) rfl)) (hw _ (List.mem_of_getElem? (i := 28) rfl)) (hw _ (List.mem_of_getElem? (i := 29) rfl)) (by decide) (rm5 l Z a0 hw [] x13 (10 : Int32) c9_0 o9 b0 l_8 T9.heap o20 ho20 Aq9_0 A0_9) (by decide) (by decide) (by decide) (by decide) e19 (g := (mkF m 421 #[.val (.int x0), .val (.int x1), .val (.int x2), .val (.int x3), .val (.int x4), .val (.int x5), .val (.int x6), .val (.int x7), .val (.int x8), .val (.int x9), .val (.int x10), .val (.int x11), .val (.int x12), .val (.int x13), .val (.ref b0), .val (.ref b1), .val (.int y0), .val (.ref c9_0)] [(.int (10 : Int32)), (.int x13), (.ref b0), (.ref c9_0)])) rfl (by rw [hml]; rfl) (argsL := [(.ref c9_0), (.ref b0), (.int x13), (.int (10 : Int32))]) (rest := []) (lenOf pd5 rfl) rfl (by show 2 * 0 + _ ≤ _; exact Nat.le_of_eq rfl) (hb hby at_421)
                          obtain ⟨rfl, e20, rfl⟩ := hQ20
                          rw [List.append_nil] at X20'
                          have X20 : Stand p l e room_1 _ m args below meth c T20 _ 4 38 := X20'
                          refine OwnOut.go (fun t k => st20 _ k) ?_
                          show OwnOut p e s below 16 192 _ (T20.setTop (mkF m 424 #[.val (.int x0), .val (.int x1), .val (.int x2), .val (.int x3), .val (.int x4), .val (.int x5), .val (.int x6), .val (.int x7), .val (.int x8), .val (.int x9), .val (.int x10), .val (.int x11), .val (.int x12), .val (.int x13), .val (.ref b0), .val (.ref b1), .val (.int y0), .val (.ref c9_0)] [(.int o20)]))
                          by_cases hc424 : o20 = (0 : Int32)
                          · rw [if_pos hc424] at hr
                            refine OwnOut.go (fun t k => XS.ifYes X20.here hx rfl (pc0 := 424) (pc' := 501) rfl (hb hby at_424) rfl (XT.i0_eq_t hc424) (by decide) (by decide) k) ?_
                            show OwnOut p e s below 16 192 _ (T20.setTop (mkF m 501 #[.val (.int x0), .val (.int x1), .val (.int x2), .val (.int x3), .val (.int x4), .val (.int x5), .val (.int x6), .val (.int x7), .val (.int x8), .val (.int x9), .val (.int x10), .val (.int x11), .val (.int x12), .val (.int x13), .val (.ref b0), .val (.ref b1), .val (.int y0), .val (.ref c9_0)] []))
                            refine OwnOut.go (fun t k => XT.iconstV X20.here hx rfl (0 : Int32) (hb hby at_501) rfl k) ?_
                            show OwnOut p e s below 16 192 _ (T20.setTop (mkF m 502 #[.val (.int x0), .val (.int x1), .val (.int x2), .val (.int x3), .val (.int x4), .val (.int x5), .val (.int x6), .val (.int x7), .val (.int x8), .val (.int x9), .val (.int x10), .val (.int x11), .val (.int x12), .val (.int x13), .val (.ref b0), .val (.ref b1), .val (.int y0), .val (.ref c9_0)] [(.int (0 : Int32))]))
                            cases hr
                            exact outZ X20 hx hret (hb hby at_502) hlk (by decide) (by decide) ⟨rfl, N_9⟩
                          · rw [if_neg hc424] at hr
                            refine OwnOut.go (fun t k => XS.ifNo X20.here hx rfl (hb hby at_424) rfl (XT.i0_eq_f hc424) k) ?_
                            show OwnOut p e s below 16 192 _ (T20.setTop (mkF m 427 #[.val (.int x0), .val (.int x1), .val (.int x2), .val (.int x3), .val (.int x4), .val (.int x5), .val (.int x6), .val (.int x7), .val (.int x8), .val (.int x9), .val (.int x10), .val (.int x11), .val (.int x12), .val (.int x13), .val (.ref b0), .val (.ref b1), .val (.int y0), .val (.ref c9_0)] []))
                            refine OwnOut.go (fun t k => XS.aload X20.here hx rfl (hb hby at_427) rfl rfl k) ?_
                            show OwnOut p e s below 16 192 _ (T20.setTop (mkF m 429 #[.val (.int x0), .val (.int x1), .val (.int x2), .val (.int x3), .val (.int x4), .val (.int x5), .val (.int x6), .val (.int x7), .val (.int x8), .val (.int x9), .val (.int x10), .val (.int x11), .val (.int x12), .val (.int x13), .val (.ref b0), .val (.ref b1), .val (.int y0), .val (.ref c9_0)] [(.ref c9_0)]))
                            refine OwnOut.go (fun t k => XS.aload X20.here hx rfl (hb hby at_429) rfl rfl k) ?_
                            show OwnOut p e s below 16 192 _ (T20.setTop (mkF m 431 #[.val (.int x0), .val (.int x1), .val (.int x2), .val (.int x3), .val (.int x4), .val (.int x5), .val (.int x6), .val (.int x7), .val (.int x8), .val (.int x9), .val (.int x10), .val (.int x11), .val (.int x12), .val (.int x13), .val (.ref b0), .val (.ref b1), .val (.int y0), .val (.ref c9_0)] [(.ref b0), (.ref c9_0)]))
                            refine OwnOut.go (fun t k => XS.iload X20.here hx rfl (hb hby at_431) rfl k) ?_
                            show OwnOut p e s below 16 192 _ (T20.setTop (mkF m 433 #[.val (.int x0), .val (.int x1), .val (.int x2), .val (.int x3), .val (.int x4), .val (.int x5), .val (.int x6), .val (.int x7), .val (.int x8), .val (.int x9), .val (.int x10), .val (.int x11), .val (.int x12), .val (.int x13), .val (.ref b0), .val (.ref b1), .val (.int y0), .val (.ref c9_0)] [(.int x13), (.ref b0), (.ref c9_0)]))
                            refine OwnOut.go (fun t k => XT.bipushV X20.here hx rfl (11 : Int32) (hb hby at_433) rfl k) ?_
                            show OwnOut p e s below 16 192 _ (T20.setTop (mkF m 435 #[.val (.int x0), .val (.int x1), .val (.int x2), .val (.int x3), .val (.int x4), .val (.int x5), .val (.int x6), .val (.int x7), .val (.int x8), .val (.int x9), .val (.int x10), .val (.int x11), .val (.int x12), .val (.int x13), .val (.ref b0), .val (.ref b1), .val (.int y0), .val (.ref c9_0)] [(.int (11 : Int32)), (.int x13), (.ref b0), (.ref c9_0)]))
                            obtain ⟨o21, ho21, hr⟩ := Option.bind_eq_some_iff.mp hr
                            obtain ⟨r21, T21, L21, X21', hQ21, st21⟩ := callQ (W := 0) (rm := rx5) X20 hx hZ (y := (⟨"com/example/sinogrid/sinogrid/BitBufferToCodewordsPinLaw", "same", "([I[III)Z"⟩ : MethodName)) hown (hw _ (List.mem_of_getElem? (i := 26) rfl)) (hw _ (List.mem_of_getElem? (i := 27) rfl)) (hw _ (List.mem_of_getElem? (i := 28) rfl)) (hw _ (List.mem_of_getElem? (i := 29) rfl)) (by decide) (rm5 l Z a0 hw [] x13 (11 : Int32) c9_0 o9 b0 l_8 T9.heap o21 ho21 Aq9_0 A0_9) (by decide) (by decide) (by decide) (by decide) e20 (g := (mkF m 435 #[.val (.int x0), .val (.int x1), .val (.int x2), .val (.int x3), .val (.int x4), .val (.int x5), .val (.int x6), .val (.int x7), .val (.int x8), .val (.int x9), .val (.int x10), .val (.int x11), .val (.int x12), .val (.int x13), .val (.ref b0), .val (.ref b1), .val (.int y0), .val (.ref c9_0)] [(.int (11 : Int32)), (.int x13), (.ref b0), (.ref c9_0)])) rfl (by rw [hml]; rfl) (argsL := [(.ref c9_0), (.ref b0), (.int x13), (.int (11 : Int32))]) (rest := []) (lenOf pd5 rfl) rfl (by show 2 * 0 + _ ≤ _; exact Nat.le_of_eq rfl) (hb hby at_435)
                            obtain ⟨rfl, e21, rfl⟩ := hQ21
                            rw [List.append_nil] at X21'
                            have X21 : Stand p l e room_1 _ m args below meth c T21 _ 4 38 := X21'
                            refine OwnOut.go (fun t k => st21 _ k) ?_
                            show OwnOut p e s below 16 192 _ (T21.setTop (mkF m 438 #[.val (.int x0), .val (.int x1), .val (.int x2), .val (.int x3), .val (.int x4), .val (.int x5), .val (.int x6), .val (.int x7), .val (.int x8), .val (.int x9), .val (.int x10), .val (.int x11), .val (.int x12), .val (.int x13), .val (.ref b0), .val (.ref b1), .val (.int y0), .val (.ref c9_0)] [(.int o21)]))
                            by_cases hc438 : o21 = (0 : Int32)
                            · rw [if_pos hc438] at hr
                              refine OwnOut.go (fun t k => XS.ifYes X21.here hx rfl (pc0 := 438) (pc' := 501) rfl (hb hby at_438) rfl (XT.i0_eq_t hc438) (by decide) (by decide) k) ?_
                              show OwnOut p e s below 16 192 _ (T21.setTop (mkF m 501 #[.val (.int x0), .val (.int x1), .val (.int x2), .val (.int x3), .val (.int x4), .val (.int x5), .val (.int x6), .val (.int x7), .val (.int x8), .val (.int x9), .val (.int x10), .val (.int x11), .val (.int x12), .val (.int x13), .val (.ref b0), .val (.ref b1), .val (.int y0), .val (.ref c9_0)] []))
                              refine OwnOut.go (fun t k => XT.iconstV X21.here hx rfl (0 : Int32) (hb hby at_501) rfl k) ?_
                              show OwnOut p e s below 16 192 _ (T21.setTop (mkF m 502 #[.val (.int x0), .val (.int x1), .val (.int x2), .val (.int x3), .val (.int x4), .val (.int x5), .val (.int x6), .val (.int x7), .val (.int x8), .val (.int x9), .val (.int x10), .val (.int x11), .val (.int x12), .val (.int x13), .val (.ref b0), .val (.ref b1), .val (.int y0), .val (.ref c9_0)] [(.int (0 : Int32))]))
                              cases hr
                              exact outZ X21 hx hret (hb hby at_502) hlk (by decide) (by decide) ⟨rfl, N_9⟩
                            · rw [if_neg hc438] at hr
                              refine OwnOut.go (fun t k => XS.ifNo X21.here hx rfl (hb hby at_438) rfl (XT.i0_eq_f hc438) k) ?_
                              show OwnOut p e s below 16 192 _ (T21.setTop (mkF m 441 #[.val (.int x0), .val (.int x1), .val (.int x2), .val (.int x3), .val (.int x4), .val (.int x5), .val (.int x6), .val (.int x7), .val (.int x8), .val (.int x9), .val (.int x10), .val (.int x11), .val (.int x12), .val (.int x13), .val (.ref b0), .val (.ref b1), .val (.int y0), .val (.ref c9_0)] []))
                              refine OwnOut.go (fun t k => XS.aload X21.here hx rfl (hb hby at_441) rfl rfl k) ?_
                              show OwnOut p e s below 16 192 _ (T21.setTop (mkF m 443 #[.val (.int x0), .val (.int x1), .val (.int x2), .val (.int x3), .val (.int x4), .val (.int x5), .val (.int x6), .val (.int x7), .val (.int x8), .val (.int x9), .val (.int x10), .val (.int x11), .val (.int x12), .val (.int x13), .val (.ref b0), .val (.ref b1), .val (.int y0), .val (.ref c9_0)] [(.ref c9_0)]))
                              refine OwnOut.go (fun t k => XS.aload X21.here hx rfl (hb hby at_443) rfl rfl k) ?_
                              show OwnOut p e s below 16 192 _ (T21.setTop (mkF m 445 #[.val (.int x0), .val (.int x1), .val (.int x2), .val (.int x3), .val (.int x4), .val (.int x5), .val (.int x6), .val (.int x7), .val (.int x8), .val (.int x9), .val (.int x10), .val (.int x11), .val (.int x12), .val (.int x13), .val (.ref b0), .val (.ref b1), .val (.int y0), .val (.ref c9_0)] [(.ref b0), (.ref c9_0)]))
                              refine OwnOut.go (fun t k => XS.iload X21.here hx rfl (hb hby at_445) rfl k) ?_
                              show OwnOut p e s below 16 192 _ (T21.setTop (mkF m 447 #[.val (.int x0), .val (.int x1), .val (.int x2), .val (.int x3), .val (.int x4), .val (.int x5), .val (.int x6), .val (.int x7), .val (.int x8), .val (.int x9), .val (.int x10), .val (.int x11), .val (.int x12), .val (.int x13), .val (.ref b0), .val (.ref b1), .val (.int y0), .val (.ref c9_0)] [(.int x13), (.ref b0), (.ref c9_0)]))
                              refine OwnOut.go (fun t k => XT.bipushV X21.here hx rfl (12 : Int32) (hb hby at_447) rfl k) ?_
                              show OwnOut p e s below 16 192 _ (T21.setTop (mkF m 449 #[.val (.int x0), .val (.int x1), .val (.int x2), .val (.int x3), .val (.int x4), .val (.int x5), .val (.int x6), .val (.int x7), .val (.int x8), .val (.int x9), .val (.int x10), .val (.int x11), .val (.int x12), .val (.int x13), .val (.ref b0), .val (.ref b1), .val (.int y0), .val (.ref c9_0)] [(.int (12 : Int32)), (.int x13), (.ref b0), (.ref c9_0)]))
                              obtain ⟨o22, ho22, hr⟩ := Option.bind_eq_some_iff.mp hr
                              obtain ⟨r22, T22, L22, X22', hQ22, st22⟩ := callQ (W := 0) (rm := rx5) X21 hx hZ (y := (⟨"com/example/sinogrid/sinogrid/BitBufferToCodewordsPinLaw", "same", "([I[III)Z"⟩ : MethodName)) hown (hw _ (List.mem_of_getElem? (i := 26) rfl)) (hw _ (List.mem_of_getElem? (i := 27) rfl)) (hw _ (List.mem_of_getElem? (i := 28) rfl)) (hw _ (List.mem_of_getElem? (i := 29) rfl)) (by decide) (rm5 l Z a0 hw [] x13 (12 : Int32) c9_0 o9 b0 l_8 T9.heap o22 ho22 Aq9_0 A0_9) (by decide) (by decide) (by decide) (by decide) e21 (g := (mkF m 449 #[.val (.int x0), .val (.int x1), .val (.int x2), .val (.int x3), .val (.int x4), .val (.int x5), .val (.int x6), .val (.int x7), .val (.int x8), .val (.int x9), .val (.int x10), .val (.int x11), .val (.int x12), .val (.int x13), .val (.ref b0), .val (.ref b1), .val (.int y0), .val (.ref c9_0)] [(.int (12 : Int32)), (.int x13), (.ref b0), (.ref c9_0)])) rfl (by rw [hml]; rfl) (argsL := [(.ref c9_0), (.ref b0), (.int x13), (.int (12 : Int32))]) (rest := []) (lenOf pd5 rfl) rfl (by show 2 * 0 + _ ≤ _; exact Nat.le_of_eq rfl) (hb hby at_449)
                              obtain ⟨rfl, e22, rfl⟩ := hQ22
                              rw [List.append_nil] at X22'
                              have X22 : Stand p l e room_1 _ m args below meth c T22 _ 4 38 := X22'
                              refine OwnOut.go (fun t k => st22 _ k) ?_
                              show OwnOut p e s below 16 192 _ (T22.setTop (mkF m 452 #[.val (.int x0), .val (.int x1), .val (.int x2), .val (.int x3), .val (.int x4), .val (.int x5), .val (.int x6), .val (.int x7), .val (.int x8), .val (.int x9), .val (.int x10), .val (.int x11), .val (.int x12), .val (.int x13), .val (.ref b0), .val (.ref b1), .val (.int y0), .val (.ref c9_0)] [(.int o22)]))
                              by_cases hc452 : o22 = (0 : Int32)
                              · rw [if_pos hc452] at hr
                                refine OwnOut.go (fun t k => XS.ifYes X22.here hx rfl (pc0 := 452) (pc' := 501) rfl (hb hby at_452) rfl (XT.i0_eq_t hc452) (by decide) (by decide) k) ?_
                                show OwnOut p e s below 16 192 _ (T22.setTop (mkF m 501 #[.val (.int x0), .val (.int x1), .val (.int x2), .val (.int x3), .val (.int x4), .val (.int x5), .val (.int x6), .val (.int x7), .val (.int x8), .val (.int x9), .val (.int x10), .val (.int x11), .val (.int x12), .val (.int x13), .val (.ref b0), .val (.ref b1), .val (.int y0), .val (.ref c9_0)] []))
                                refine OwnOut.go (fun t k => XT.iconstV X22.here hx rfl (0 : Int32) (hb hby at_501) rfl k) ?_
                                show OwnOut p e s below 16 192 _ (T22.setTop (mkF m 502 #[.val (.int x0), .val (.int x1), .val (.int x2), .val (.int x3), .val (.int x4), .val (.int x5), .val (.int x6), .val (.int x7), .val (.int x8), .val (.int x9), .val (.int x10), .val (.int x11), .val (.int x12), .val (.int x13), .val (.ref b0), .val (.ref b1), .val (.int y0), .val (.ref c9_0)] [(.int (0 : Int32))]))
                                cases hr
                                exact outZ X22 hx hret (hb hby at_502) hlk (by decide) (by decide) ⟨rfl, N_9⟩
                              · rw [if_neg hc452] at hr
                                refine OwnOut.go (fun t k => XS.ifNo X22.here hx rfl (hb hby at_452) rfl (XT.i0_eq_f hc452) k) ?_
                                show OwnOut p e s below 16 192 _ (T22.setTop (mkF m 455 #[.val (.int x0), .val (.int x1), .val (.int x2), .val (.int x3), .val (.int x4), .val (.int x5), .val (.int x6), .val (.int x7), .val (.int x8), .val (.int x9), .val (.int x10), .val (.int x11), .val (.int x12), .val (.int x13), .val (.ref b0), .val (.ref b1), .val (.int y0), .val (.ref c9_0)] []))
                                refine OwnOut.go (fun t k => XS.aload X22.here hx rfl (hb hby at_455) rfl rfl k) ?_
                                show OwnOut p e s below 16 192 _ (T22.setTop (mkF m 457 #[.val (.int x0), .val (.int x1), .val (.int x2), .val (.int x3), .val (.int x4), .val (.int x5), .val (.int x6), .val (.int x7), .val (.int x8), .val (.int x9), .val (.int x10), .val (.int x11), .val (.int x12), .val (.int x13), .val (.ref b0), .val (.ref b1), .val (.int y0), .val (.ref c9_0)] [(.ref c9_0)]))
                                refine OwnOut.go (fun t k => XS.aload X22.here hx rfl (hb hby at_457) rfl rfl k) ?_
                                show OwnOut p e s below 16 192 _ (T22.setTop (mkF m 459 #[.val (.int x0), .val (.int x1), .val (.int x2), .val (.int x3), .val (.int x4), .val (.int x5), .val (.int x6), .val (.int x7), .val (.int x8), .val (.int x9), .val (.int x10), .val (.int x11), .val (.int x12), .val (.int x13), .val (.ref b0), .val (.ref b1), .val (.int y0), .val (.ref c9_0)] [(.ref b0), (.ref c9_0)]))
                                refine OwnOut.go (fun t k => XS.iload X22.here hx rfl (hb hby at_459) rfl k) ?_
                                show OwnOut p e s below 16 192 _ (T22.setTop (mkF m 461 #[.val (.int x0), .val (.int x1), .val (.int x2), .val (.int x3), .val (.int x4), .val (.int x5), .val (.int x6), .val (.int x7), .val (.int x8), .val (.int x9), .val (.int x10), .val (.int x11), .val (.int x12), .val (.int x13), .val (.ref b0), .val (.ref b1), .val (.int y0), .val (.ref c9_0)] [(.int x13), (.ref b0), (.ref c9_0)]))
                                refine OwnOut.go (fun t k => XT.bipushV X22.here hx rfl (13 : Int32) (hb hby at_461) rfl k) ?_
                                show OwnOut p e s below 16 192 _ (T22.setTop (mkF m 463 #[.val (.int x0), .val (.int x1), .val (.int x2), .val (.int x3), .val (.int x4), .val (.int x5), .val (.int x6), .val (.int x7), .val (.int x8), .val (.int x9), .val (.int x10), .val (.int x11), .val (.int x12), .val (.int x13), .val (.ref b0), .val (.ref b1), .val (.int y0), .val (.ref c9_0)] [(.int (13 : Int32)), (.int x13), (.ref b0), (.ref c9_0)]))
                                obtain ⟨o23, ho23, hr⟩ := Option.bind_eq_some_iff.mp hr
                                obtain ⟨r23, T23, L23, X23', hQ23, st23⟩ := callQ (W := 0) (rm := rx5) X22 hx hZ (y := (⟨"com/example/sinogrid/sinogrid/BitBufferToCodewordsPinLaw", "same", "([I[III)Z"⟩ : MethodName)) hown (hw _ (List.mem_of_getElem? (i := 26) rfl)) (hw _ (List.mem_of_getElem? (i := 27) rfl)) (hw _ (List.mem_of_getElem? (i := 28) rfl)) (hw _ (List.mem_of_getElem? (i := 29) rfl)) (by decide) (rm5 l Z a0 hw [] x13 (13 : Int32) c9_0 o9 b0 l_8 T9.heap o23 ho23 Aq9_0 A0_9) (by decide) (by decide) (by decide) (by decide) e22 (g := (mkF m 463 #[.val (.int x0), .val (.int x1), .val (.int x2), .val (.int x3), .val (.int x4), .val (.int x5), .val (.int x6), .val (.int x7), .val (.int x8), .val (.int x9), .val (.int x10), .val (.int x11), .val (.int x12), .val (.int x13), .val (.ref b0), .val (.ref b1), .val (.int y0), .val (.ref c9_0)] [(.int (13 : Int32)), (.int x13), (.ref b0), (.ref c9_0)])) rfl (by rw [hml]; rfl) (argsL := [(.ref c9_0), (.ref b0), (.int x13), (.int (13 : Int32))]) (rest := []) (lenOf pd5 rfl) rfl (by show 2 * 0 + _ ≤ _; exact Nat.le_of_eq rfl) (hb hby at_463)
                                obtain ⟨rfl, e23, rfl⟩ := hQ23
                                rw [List.append_nil] at X23'
                                have X23 : Stand p l e room_1 _ m args below meth c T23 _ 4 38 := X23'
                                refine OwnOut.go (fun t k => st23 _ k) ?_
                                show OwnOut p e s below 16 192 _ (T23.setTop (mkF m 466 #[.val (.int x0), .val (.int x1), .val (.int x2), .val (.int x3), .val (.int x4), .val (.int x5), .val (.int x6), .val (.int x7), .val (.int x8), .val (.int x9), .val (.int x10), .val (.int x11), .val (.int x12), .val (.int x13), .val (.ref b0), .val (.ref b1), .val (.int y0), .val (.ref c9_0)] [(.int o23)]))
                                by_cases hc466 : o23 = (0 : Int32)
                                · rw [if_pos hc466] at hr
                                  refine OwnOut.go (fun t k => XS.ifYes X23.here hx rfl (pc0 := 466) (pc' := 501) rfl (hb hby at_466) rfl (XT.i0_eq_t hc466) (by decide) (by decide) k) ?_
                                  show OwnOut p e s below 16 192 _ (T23.setTop (mkF m 501 #[.val (.int x0), .val (.int x1), .val (.int x2), .val (.int x3), .val (.int x4), .val (.int x5), .val (.int x6), .val (.int x7), .val (.int x8), .val (.int x9), .val (.int x10), .val (.int x11), .val (.int x12), .val (.int x13), .val (.ref b0), .val (.ref b1), .val (.int y0), .val (.ref c9_0)] []))
                                  refine OwnOut.go (fun t k => XT.iconstV X23.here hx rfl (0 : Int32) (hb hby at_501) rfl k) ?_
                                  show OwnOut p e s below 16 192 _ (T23.setTop (mkF m 502 #[.val (.int x0), .val (.int x1), .val (.int x2), .val (.int x3), .val (.int x4), .val (.int x5), .val (.int x6), .val (.int x7), .val (.int x8), .val (.int x9), .val (.int x10), .val (.int x11), .val (.int x12), .val (.int x13), .val (.ref b0), .val (.ref b1), .val (.int y0), .val (.ref c9_0)] [(.int (0 : Int32))]))
                                  cases hr
                                  exact outZ X23 hx hret (hb hby at_502) hlk (by decide) (by decide) ⟨rfl, N_9⟩
                                · rw [if_neg hc466] at hr
                                  refine OwnOut.go (fun t k => XS.ifNo X23.here hx rfl (hb hby at_466) rfl (XT.i0_eq_f hc466) k) ?_
                                  show OwnOut p e s below 16 192 _ (T23.setTop (mkF m 469 #[.val (.int x0), .val (.int x1), .val (.int x2), .val (.int x3), .val (.int x4), .val (.int x5), .val (.int x6), .val (.int x7), .val (.int x8), .val (.int x9), .val (.int x10), .val (.int x11), .val (.int x12), .val (.int x13), .val (.ref b0), .val (.ref b1), .val (.int y0), .val (.ref c9_0)] []))
                                  refine OwnOut.go (fun t k => XS.aload X23.here hx rfl (hb hby at_469) rfl rfl k) ?_
                                  show OwnOut p e s below 16 192 _ (T23.setTop (mkF m 471 #[.val (.int x0), .val (.int x1), .val (.int x2), .val (.int x3), .val (.int x4), .val (.int x5), .val (.int x6), .val (.int x7), .val (.int x8), .val (.int x9), .val (.int x10), .val (.int x11), .val (.int x12), .val (.int x13), .val (.ref b0), .val (.ref b1), .val (.int y0), .val (.ref c9_0)] [(.ref c9_0)]))
                                  refine OwnOut.go (fun t k => XS.aload X23.here hx rfl (hb hby at_471) rfl rfl k) ?_
                                  show OwnOut p e s below 16 192 _ (T23.setTop (mkF m 473 #[.val (.int x0), .val (.int x1), .val (.int x2), .val (.int x3), .val (.int x4), .val (.int x5), .val (.int x6), .val (.int x7), .val (.int x8), .val (.int x9), .val (.int x10), .val (.int x11), .val (.int x12), .val (.int x13), .val (.ref b0), .val (.ref b1), .val (.int y0), .val (.ref c9_0)] [(.ref b0), (.ref c9_0)]))
                                  refine OwnOut.go (fun t k => XS.iload X23.here hx rfl (hb hby at_473) rfl k) ?_
                                  show OwnOut p e s below 16 192 _ (T23.setTop (mkF m 475 #[.val (.int x0), .val (.int x1), .val (.int x2), .val (.int x3), .val (.int x4), .val (.int x5), .val (.int x6), .val (.int x7), .val (.int x8), .val (.int x9), .val (.int x10), .val (.int x11), .val (.int x12), .val (.int x13), .val (.ref b0), .val (.ref b1), .val (.int y0), .val (.ref c9_0)] [(.int x13), (.ref b0), (.ref c9_0)]))
                                  refine OwnOut.go (fun t k => XT.bipushV X23.here hx rfl (14 : Int32) (hb hby at_475) rfl k) ?_
                                  show OwnOut p e s below 16 192 _ (T23.setTop (mkF m 477 #[.val (.int x0), .val (.int x1), .val (.int x2), .val (.int x3), .val (.int x4), .val (.int x5), .val (.int x6), .val (.int x7), .val (.int x8), .val (.int x9), .val (.int x10), .val (.int x11), .val (.int x12), .val (.int x13), .val (.ref b0), .val (.ref b1), .val (.int y0), .val (.ref c9_0)] [(.int (14 : Int32)), (.int x13), (.ref b0), (.ref c9_0)]))
                                  obtain ⟨o24, ho24, hr⟩ := Option.bind_eq_some_iff.mp hr
                                  obtain ⟨r24, T24, L24, X24', hQ24, st24⟩ := callQ (W := 0) (rm := rx5) X23 hx hZ (y := (⟨"com/example/sinogrid/sinogrid/BitBufferToCodewordsPinLaw", "same", "([I[III)Z"⟩ : MethodName)) hown (hw _ (List.mem_of_getElem? (i := 26) rfl)) (hw _ (List.mem_of_getElem? (i := 27) rfl)) (hw _ (List.mem_of_getElem? (i := 28) rfl)) (hw _ (List.mem_of_getElem? (i := 29) rfl)) (by decide) (rm5 l Z a0 hw [] x13 (14 : Int32) c9_0 o9 b0 l_8 T9.heap o24 ho24 Aq9_0 A0_9) (by decide) (by decide) (by decide) (by decide) e23 (g := (mkF m 477 #[.val (.int x0), .val (.int x1), .val (.int x2), .val (.int x3), .val (.int x4), .val (.int x5), .val (.int x6), .val (.int x7), .val (.int x8), .val (.int x9), .val (.int x10), .val (.int x11), .val (.int x12), .val (.int x13), .val (.ref b0), .val (.ref b1), .val (.int y0), .val (.ref c9_0)] [(.int (14 : Int32)), (.int x13), (.ref b0), (.ref c9_0)])) rfl (by rw [hml]; rfl) (argsL := [(.ref c9_0), (.ref b0), (.int x13), (.int (14 : Int32))]) (rest := []) (lenOf pd5 rfl) rfl (by show 2 * 0 + _ ≤ _; exact Nat.le_of_eq rfl) (hb hby at_477)
                                  obtain ⟨rfl, e24, rfl⟩ := hQ24
                                  rw [List.append_nil] at X24'
                                  have X24 : Stand p l e room_1 _ m args below meth c T24 _ 4 38 := X24'
                                  refine OwnOut.go (fun t k => st24 _ k) ?_
                                  show OwnOut p e s below 16 192 _ (T24.setTop (mkF m 480 #[.val (.int x0), .val (.int x1), .val (.int x2), .val (.int x3), .val (.int x4), .val (.int x5), .val (.int x6), .val (.int x7), .val (.int x8), .val (.int x9), .val (.int x10), .val (.int x11), .val (.int x12), .val (.int x13), .val (.ref b0), .val (.ref b1), .val (.int y0), .val (.ref c9_0)] [(.int o24)]))
                                  by_cases hc480 : o24 = (0 : Int32)
                                  · rw [if_pos hc480] at hr
                                    refine OwnOut.go (fun t k => XS.ifYes X24.here hx rfl (pc0 := 480) (pc' := 501) rfl (hb hby at_480) rfl (XT.i0_eq_t hc480) (by decide) (by decide) k) ?_
                                    show OwnOut p e s below 16 192 _ (T24.setTop (mkF m 501 #[.val (.int x0), .val (.int x1), .val (.int x2), .val (.int x3), .val (.int x4), .val (.int x5), .val (.int x6), .val (.int x7), .val (.int x8), .val (.int x9), .val (.int x10), .val (.int x11), .val (.int x12), .val (.int x13), .val (.ref b0), .val (.ref b1), .val (.int y0), .val (.ref c9_0)] []))
                                    refine OwnOut.go (fun t k => XT.iconstV X24.here hx rfl (0 : Int32) (hb hby at_501) rfl k) ?_
                                    show OwnOut p e s below 16 192 _ (T24.setTop (mkF m 502 #[.val (.int x0), .val (.int x1), .val (.int x2), .val (.int x3), .val (.int x4), .val (.int x5), .val (.int x6), .val (.int x7), .val (.int x8), .val (.int x9), .val (.int x10), .val (.int x11), .val (.int x12), .val (.int x13), .val (.ref b0), .val (.ref b1), .val (.int y0), .val (.ref c9_0)] [(.int (0 : Int32))]))
                                    cases hr
                                    exact outZ X24 hx hret (hb hby at_502) hlk (by decide) (by decide) ⟨rfl, N_9⟩
                                  · rw [if_neg hc480] at hr
                                    refine OwnOut.go (fun t k => XS.ifNo X24.here hx rfl (hb hby at_480) rfl (XT.i0_eq_f hc480) k) ?_
                                    show OwnOut p e s below 16 192 _ (T24.setTop (mkF m 483 #[.val (.int x0), .val (.int x1), .val (.int x2), .val (.int x3), .val (.int x4), .val (.int x5), .val (.int x6), .val (.int x7), .val (.int x8), .val (.int x9), .val (.int x10), .val (.int x11), .val (.int x12), .val (.int x13), .val (.ref b0), .val (.ref b1), .val (.int y0), .val (.ref c9_0)] []))
                                    refine OwnOut.go (fun t k => XS.aload X24.here hx rfl (hb hby at_483) rfl rfl k) ?_
                                    show OwnOut p e s below 16 192 _ (T24.setTop (mkF m 485 #[.val (.int x0), .val (.int x1), .val (.int x2), .val (.int x3), .val (.int x4), .val (.int x5), .val (.int x6), .val (.int x7), .val (.int x8), .val (.int x9), .val (.int x10), .val (.int x11), .val (.int x12), .val (.int x13), .val (.ref b0), .val (.ref b1), .val (.int y0), .val (.ref c9_0)] [(.ref c9_0)]))
                                    refine OwnOut.go (fun t k => XS.aload X24.here hx rfl (hb hby at_485) rfl rfl k) ?_
                                    show OwnOut p e s below 16 192 _ (T24.setTop (mkF m 487 #[.val (.int x0), .val (.int x1), .val (.int x2), .val (.int x3), .val (.int x4), .val (.int x5), .val (.int x6), .val (.int x7), .val (.int x8), .val (.int x9), .val (.int x10), .val (.int x11), .val (.int x12), .val (.int x13), .val (.ref b0), .val (.ref b1), .val (.int y0), .val (.ref c9_0)] [(.ref b0), (.ref c9_0)]))
                                    refine OwnOut.go (fun t k => XS.iload X24.here hx rfl (hb hby at_487) rfl k) ?_
                                    show OwnOut p e s below 16 192 _ (T24.setTop (mkF m 489 #[.val (.int x0), .val (.int x1), .val (.int x2), .val (.int x3), .val (.int x4), .val (.int x5), .val (.int x6), .val (.int x7), .val (.int x8), .val (.int x9), .val (.int x10), .val (.int x11), .val (.int x12), .val (.int x13), .val (.ref b0), .val (.ref b1), .val (.int y0), .val (.ref c9_0)] [(.int x13), (.ref b0), (.ref c9_0)]))
                                    refine OwnOut.go (fun t k => XT.bipushV X24.here hx rfl (15 : Int32) (hb hby at_489) rfl k) ?_
                                    show OwnOut p e s below 16 192 _ (T24.setTop (mkF m 491 #[.val (.int x0), .val (.int x1), .val (.int x2), .val (.int x3), .val (.int x4), .val (.int x5), .val (.int x6), .val (.int x7), .val (.int x8), .val (.int x9), .val (.int x10), .val (.int x11), .val (.int x12), .val (.int x13), .val (.ref b0), .val (.ref b1), .val (.int y0), .val (.ref c9_0)] [(.int (15 : Int32)), (.int x13), (.ref b0), (.ref c9_0)]))
                                    obtain ⟨o25, ho25, hr⟩ := Option.bind_eq_some_iff.mp hr
                                    obtain ⟨r25, T25, L25, X25', hQ25, st25⟩ := callQ (W := 0) (rm := rx5) X24 hx hZ (y := (⟨"com/example/sinogrid/sinogrid/BitBufferToCodewordsPinLaw", "same", "([I[III)Z"⟩ : MethodName)) hown (hw _ (List.mem_of_getElem? (i := 26) rfl)) (hw _ (List.mem_of_getElem? (i := 27) rfl)) (hw _ (List.mem_of_getElem? (i := 28) rfl)) (hw _ (List.mem_of_getElem? (i := 29) rfl)) (by decide) (rm5 l Z a0 hw [] x13 (15 : Int32) c9_0 o9 b0 l_8 T9.heap o25 ho25 Aq9_0 A0_9) (by decide) (by decide) (by decide) (by decide) e24 (g := (mkF m 491 #[.val (.int x0), .val (.int x1), .val (.int x2), .val (.int x3), .val (.int x4), .val (.int x5), .val (.int x6), .val (.int x7), .val (.int x8), .val (.int x9), .val (.int x10), .val (.int x11), .val (.int x12), .val (.int x13), .val (.ref b0), .val (.ref b1), .val (.int y0), .val (.ref c9_0)] [(.int (15 : Int32)), (.int x13), (.ref b0), (.ref c9_0)])) rfl (by rw [hml]; rfl) (argsL := [(.ref c9_0), (.ref b0), (.int x13), (.int (15 : Int32))]) (rest := []) (lenOf pd5 rfl) rfl (by show 2 * 0 + _ ≤ _; exact Nat.le_of_eq rfl) (hb hby at_491)
                                    obtain ⟨rfl, e25, rfl⟩ := hQ25
                                    rw [List.append_nil] at X25'
                                    have X25 : Stand p l e room_1 _ m args below meth c T25 _ 4 38 := X25'
                                    refine OwnOut.go (fun t k => st25 _ k) ?_
                                    show OwnOut p e s below 16 192 _ (T25.setTop (mkF m 494 #[.val (.int x0), .val (.int x1), .val (.int x2), .val (.int x3), .val (.int x4), .val (.int x5), .val (.int x6), .val (.int x7), .val (.int x8), .val (.int x9), .val (.int x10), .val (.int x11), .val (.int x12), .val (.int x13), .val (.ref b0), .val (.ref b1), .val (.int y0), .val (.ref c9_0)] [(.int o25)]))
                                    by_cases hc494 : o25 = (0 : Int32)
                                    · rw [if_pos hc494] at hr
                                      refine OwnOut.go (fun t k => XS.ifYes X25.here hx rfl (pc0 := 494) (pc' := 501) rfl (hb hby at_494) rfl (XT.i0_eq_t hc494) (by decide) (by decide) k) ?_
                                      show OwnOut p e s below 16 192 _ (T25.setTop (mkF m 501 #[.val (.int x0), .val (.int x1), .val (.int x2), .val (.int x3), .val (.int x4), .val (.int x5), .val (.int x6), .val (.int x7), .val (.int x8), .val (.int x9), .val (.int x10), .val (.int x11), .val (.int x12), .val (.int x13), .val (.ref b0), .val (.ref b1), .val (.int y0), .val (.ref c9_0)] []))
                                      refine OwnOut.go (fun t k => XT.iconstV X25.here hx rfl (0 : Int32) (hb hby at_501) rfl k) ?_
                                      show OwnOut p e s below 16 192 _ (T25.setTop (mkF m 502 #[.val (.int x0), .val (.int x1), .val (.int x2), .val (.int x3), .val (.int x4), .val (.int x5), .val (.int x6), .val (.int x7), .val (.int x8), .val (.int x9), .val (.int x10), .val (.int x11), .val (.int x12), .val (.int x13), .val (.ref b0), .val (.ref b1), .val (.int y0), .val (.ref c9_0)] [(.int (0 : Int32))]))
                                      cases hr
                                      exact outZ X25 hx hret (hb hby at_502) hlk (by decide) (by decide) ⟨rfl, N_9⟩
                                    · rw [if_neg hc494] at hr
                                      refine OwnOut.go (fun t k => XS.ifNo X25.here hx rfl (hb hby at_494) rfl (XT.i0_eq_f hc494) k) ?_
                                      show OwnOut p e s below 16 192 _ (T25.setTop (mkF m 497 #[.val (.int x0), .val (.int x1), .val (.int x2), .val (.int x3), .val (.int x4), .val (.int x5), .val (.int x6), .val (.int x7), .val (.int x8), .val (.int x9), .val (.int x10), .val (.int x11), .val (.int x12), .val (.int x13), .val (.ref b0), .val (.ref b1), .val (.int y0), .val (.ref c9_0)] []))
                                      refine OwnOut.go (fun t k => XT.iconstV X25.here hx rfl (1 : Int32) (hb hby at_497) rfl k) ?_
                                      show OwnOut p e s below 16 192 _ (T25.setTop (mkF m 498 #[.val (.int x0), .val (.int x1), .val (.int x2), .val (.int x3), .val (.int x4), .val (.int x5), .val (.int x6), .val (.int x7), .val (.int x8), .val (.int x9), .val (.int x10), .val (.int x11), .val (.int x12), .val (.int x13), .val (.ref b0), .val (.ref b1), .val (.int y0), .val (.ref c9_0)] [(.int (1 : Int32))]))
                                      refine OwnOut.go (fun t k => XS.goto X25.here hx rfl (pc0 := 498) (pc' := 502) rfl (hb hby at_498) (by decide) (by decide) k) ?_
                                      show OwnOut p e s below 16 192 _ (T25.setTop (mkF m 502 #[.val (.int x0), .val (.int x1), .val (.int x2), .val (.int x3), .val (.int x4), .val (.int x5), .val (.int x6), .val (.int x7), .val (.int x8), .val (.int x9), .val (.int x10), .val (.int x11), .val (.int x12), .val (.int x13), .val (.ref b0), .val (.ref b1), .val (.int y0), .val (.ref c9_0)] [(.int (1 : Int32))]))
                                      cases hr
                                      exact outZ X25 hx hret (hb hby at_502) hlk (by decide) (by decide) ⟨rfl, N_9⟩
    · rw [if_neg hc274] at hr
      refine OwnOut.go (fun t k => XS.icmpNo X9.here hx rfl (hb hby at_274) rfl (XT.ii_eq_f hc274) k) ?_
      show OwnOut p e s below 16 192 _ (T9.setTop (mkF m 277 #[.val (.int x0), .val (.int x1), .val (.int x2), .val (.int x3), .val (.int x4), .val (.int x5), .val (.int x6), .val (.int x7), .val (.int x8), .val (.int x9), .val (.int x10), .val (.int x11), .val (.int x12), .val (.int x13), .val (.ref b0), .val (.ref b1), .val (.int y0), .val (.ref c9_0)] []))
      refine OwnOut.go (fun t k => XT.iconstV X9.here hx rfl (0 : Int32) (hb hby at_277) rfl k) ?_
      show OwnOut p e s below 16 192 _ (T9.setTop (mkF m 278 #[.val (.int x0), .val (.int x1), .val (.int x2), .val (.int x3), .val (.int x4), .val (.int x5), .val (.int x6), .val (.int x7), .val (.int x8), .val (.int x9), .val (.int x10), .val (.int x11), .val (.int x12), .val (.int x13), .val (.ref b0), .val (.ref b1), .val (.int y0), .val (.ref c9_0)] [(.int (0 : Int32))]))
      cases hr
      exact outZ X9 hx hret (hb hby at_278) hlk (by decide) (by decide) ⟨rfl, N_9⟩
def f0_169 (x5 : Int32) (x6 : Int32) (x11 : Int32) (x13 : Int32) (l0 : List Int32) (u1_length : Int32) (l2 : List Int64) : Option (Int32) := ((f3 x11 x6 u1_length l2).bind fun o4 => (if x6 = (0 : Int32) then (f0_195 x5 x13 (0 : Int32) l0 o4.1 o4.2) else (f0_195 x5 x13 (x11 <<< (((32 : Int32) - x6) &&& 31)) l0 o4.1 o4.2)))
set_option maxRecDepth 65536 in
set_option maxHeartbeats 40000000 in
theorem w0_169 {p : Program} {l : Launch} {e : Env} {s : State} {m : MethodId} {args : Array Value} {below : List Frame} {meth : Method} {c : Code} {Z : State} {a0 : Array Value} {h0 : Heap} {n0 : Nat} (C : Cx0 Z a0 p s m meth c) :
    ∀ (T : State) (locs : List Loc) (hA : Heap) (x0 : Int32) (x1 : Int32) (x2 : Int32) (x3 : Int32) (x4 : Int32) (x5 : Int32) (x6 : Int32) (x7 : Int32) (x8 : Int32) (x9 : Int32) (x10 : Int32) (x11 : Int32) (x12 : Int32) (x13 : Int32) (b0 : Addr) (l0 : List Int32) (b1 : Addr) (u1_length : Int32) (b2 : Addr) (l2 : List Int64) (o : Int32), f0_169 x5 x6 x11 x13 l0 u1_length l2 = some o → Stand p l e room_1 s m args below meth c T locs 3 22 → T.heap = hA → Fr n0 locs → Old Z n0 hA → Keep h0 hA [] → (Ari Z hA b0 .int l0) → (Exa Z hA b1 "com/example/sinogrid/sinogrid/BitBuffer") → (Fld Z hA b1 "com/example/sinogrid/sinogrid/BitBuffer" "words" "[J" (.ref b2)) → (Fld Z hA b1 "com/example/sinogrid/sinogrid/BitBuffer" "length" "I" (.int u1_length)) → (Arj Z hA b2 l2) → (n0 ≤ b0) → (h0.size ≤ b0) → (n0 ≤ b1) → (h0.size ≤ b1) → (n0 ≤ b2) → (h0.size ≤ b2) → (b0 ≠ b1) → (b0 ≠ b2) → (b1 ≠ b2) →  OwnOut p e s below 16 192 (Q0 Z default default default default default h0 n0 o) (T.setTop (mkF m 169 #[.val (.int x0), .val (.int x1), .val (.int x2), .val (.int x3), .val (.int x4), .val (.int x5), .val (.int x6), .val (.int x7), .val (.int x8), .val (.int x9), .val (.int x10), .val (.int x11), .val (.int x12), .val (.int x13), .val (.ref b0), .val (.ref b1), .unset, .unset] [])) := by
    obtain ⟨hx, hZ, hw, hby, hml, hown, hret, hlk, hnm⟩ := C
    intro T locs hA x0 x1 x2 x3 x4 x5 x6 x7 x8 x9 x10 x11 x12 x13 b0 l0 b1 u1_length b2 l2 o hr X0 e0 N0 O0 K0 A0 E1 F1_words F1_length A2 g0 z0 g1 z1 g2 z2 ne0_1 ne0_2 ne1_2
    rw [f0_169] at hr
    refine OwnOut.go (fun t k => XS.aload X0.here hx rfl (hb hby at_169) rfl rfl k) ?_
    show OwnOut p e s below 16 192 _ (T.setTop (mkF m 171 #[.val (.int x0), .val (.int x1), .val (.int x2), .val (.int x3), .val (.int x4), .val (.int x5), .val (.int x6), .val (.int x7), .val (.int x8), .val (.int x9), .val (.int x10), .val (.int x11), .val (.int x12), .val (.int x13), .val (.ref b0), .val (.ref b1), .unset, .unset] [(.ref b1)]))
    refine OwnOut.go (fun t k => XS.iload X0.here hx rfl (hb hby at_171) rfl k) ?_
    show OwnOut p e s below 16 192 _ (T.setTop (mkF m 173 #[.val (.int x0), .val (.int x1), .val (.int x2), .val (.int x3), .val (.int x4), .val (.int x5), .val (.int x6), .val (.int x7), .val (.int x8), .val (.int x9), .val (.int x10), .val (.int x11), .val (.int x12), .val (.int x13), .val (.ref b0), .val (.ref b1), .unset, .unset] [(.int x11), (.ref b1)]))
    refine OwnOut.go (fun t k => XS.iload X0.here hx rfl (hb hby at_173) rfl k) ?_
    show OwnOut p e s below 16 192 _ (T.setTop (mkF m 175 #[.val (.int x0), .val (.int x1), .val (.int x2), .val (.int x3), .val (.int x4), .val (.int x5), .val (.int x6), .val (.int x7), .val (.int x8), .val (.int x9), .val (.int x10), .val (.int x11), .val (.int x12), .val (.int x13), .val (.ref b0), .val (.ref b1), .unset, .unset] [(.int x6), (.int x11), (.ref b1)]))
    obtain ⟨o4, ho4, hr⟩ := Option.bind_eq_some_iff.mp hr
    obtain ⟨r4, T4, L4, X4', hQ4, st4⟩ := callV (W := 0) (rm := rx3) X0 hx hZ (y := (⟨"com/example/sinogrid/sinogrid/BitBuffer", "append", "(II)V"⟩ : MethodName)) hown (hw _ (List.mem_of_getElem? (i := 14) rfl)) (hw _ (List.mem_of_getElem? (i := 15) rfl)) (hw _ (List.mem_of_getElem? (i := 17) rfl)) (hw _ (List.mem_of_getElem? (i := 16) rfl)) (hw _ (List.mem_of_getElem? (i := 4) rfl)) (hw _ (List.mem_of_getElem? (i := 18) rfl)) (by decide) (rm3 l Z a0 hw [] x11 x6 b1 u1_length b2 l2 hA n0 o4 ho4 O0 E1 F1_words F1_length A2 g1 g2 ne1_2) (by decide) (by decide) (by decide) (by decide) e0 E1 (g := (mkF m 175 #[.val (.int x0), .val (.int x1), .val (.int x2), .val (.int x3), .val (.int x4), .val (.int x5), .val (.int x6), .val (.int x7), .val (.int x8), .val (.int x9), .val (.int x10), .val (.int x11), .val (.int x12), .val (.int x13), .val (.ref b0), .val (.ref b1), .unset, .unset] [(.int x6), (.int x11), (.ref b1)])) rfl (by rw [hml]; rfl) (argsL := [(.int x11), (.int x6)]) (rest := []) (lenOf pd3 rfl) rfl (by show 2 * 0 + _ ≤ _; exact Nat.le_of_eq rfl) (hb hby at_175)
    obtain ⟨rfl, Nq4, Kq4, F1_words_4, F1_length_4, A2_4⟩ := hQ4
    have X4 : Stand p l e room_1 _ m args below meth c T4 _ 3 22 := X4'
    have A0_4 := A0.keep Kq4 (ninS ne0_1 (ninS ne0_2 nin0))
    have E1_4 := E1.keep Kq4
    have N_4 := Fr.app N0 Nq4
    have O_4 := O0.keep Kq4 (allS g1 (allS g2 all0))
    have K_4 := K0.trans Kq4 (allS (Or.inr z1) (allS (Or.inr z2) all0))
    refine OwnOut.go (fun t k => st4 _ k) ?_
    show OwnOut p e s below 16 192 _ (T4.setTop (mkF m 178 #[.val (.int x0), .val (.int x1), .val (.int x2), .val (.int x3), .val (.int x4), .val (.int x5), .val (.int x6), .val (.int x7), .val (.int x8), .val (.int x9), .val (.int x10), .val (.int x11), .val (.int x12), .val (.int x13), .val (.ref b0), .val (.ref b1), .unset, .unset] []))
    refine OwnOut.go (fun t k => XS.iload X4.here hx rfl (hb hby at_178) rfl k) ?_
    show OwnOut p e s below 16 192 _ (T4.setTop (mkF m 180 #[.val (.int x0), .val (.int x1), .val (.int x2), .val (.int x3), .val (.int x4), .val (.int x5), .val (.int x6), .val (.int x7), .val (.int x8), .val (.int x9), .val (.int x10), .val (.int x11), .val (.int x12), .val (.int x13), .val (.ref b0), .val (.ref b1), .unset, .unset] [(.int x6)]))
    by_cases hc180 : x6 = (0 : Int32)
    · rw [if_pos hc180] at hr
      refine OwnOut.go (fun t k => XS.ifNo X4.here hx rfl (hb hby at_180) rfl (XT.i0_ne_f hc180) k) ?_
      show OwnOut p e s below 16 192 _ (T4.setTop (mkF m 183 #[.val (.int x0), .val (.int x1), .val (.int x2), .val (.int x3), .val (.int x4), .val (.int x5), .val (.int x6), .val (.int x7), .val (.int x8), .val (.int x9), .val (.int x10), .val (.int x11), .val (.int x12), .val (.int x13), .val (.ref b0), .val (.ref b1), .unset, .unset] []))
      refine OwnOut.go (fun t k => XT.iconstV X4.here hx rfl (0 : Int32) (hb hby at_183) rfl k) ?_
      show OwnOut p e s below 16 192 _ (T4.setTop (mkF m 184 #[.val (.int x0), .val (.int x1), .val (.int x2), .val (.int x3), .val (.int x4), .val (.int x5), .val (.int x6), .val (.int x7), .val (.int x8), .val (.int x9), .val (.int x10), .val (.int x11), .val (.int x12), .val (.int x13), .val (.ref b0), .val (.ref b1), .unset, .unset] [(.int (0 : Int32))]))
      refine OwnOut.go (fun t k => XS.goto X4.here hx rfl (pc0 := 184) (pc' := 195) rfl (hb hby at_184) (by decide) (by decide) k) ?_
      show OwnOut p e s below 16 192 _ (T4.setTop (mkF m 195 #[.val (.int x0), .val (.int x1), .val (.int x2), .val (.int x3), .val (.int x4), .val (.int x5), .val (.int x6), .val (.int x7), .val (.int x8), .val (.int x9), .val (.int x10), .val (.int x11), .val (.int x12), .val (.int x13), .val (.ref b0), .val (.ref b1), .unset, .unset] [(.int (0 : Int32))]))
      exact w0_195 ⟨hx, hZ, hw, hby, hml, hown, hret, hlk, hnm⟩  _ _ _ x0 x1 x2 x3 x4 x5 x6 x7 x8 x9 x10 x11 x12 x13 (0 : Int32) b0 l0 b1 o4.1 b2 o4.2 _ hr X4 rfl N_4 O_4 K_4 A0_4 E1_4 F1_words_4 F1_length_4 A2_4 g0 z0 g1 z1 g2 z2 ne0_1 ne0_2 ne1_2
    · rw [if_neg hc180] at hr
      refine OwnOut.go (fun t k => XS.ifYes X4.here hx rfl (pc0 := 180) (pc' := 187) rfl (hb hby at_180) rfl (XT.i0_ne_t hc180) (by decide) (by decide) k) ?_
      show OwnOut p e s below 16 192 _ (T4.setTop (mkF m 187 #[.val (.int x0), .val (.int x1), .val (.int x2), .val (.int x3), .val (.int x4), .val (.int x5), .val (.int x6), .val (.int x7), .val (.int x8), .val (.int x9), .val (.int x10), .val (.int x11), .val (.int x12), .val (.int x13), .val (.ref b0), .val (.ref b1), .unset, .unset] []))
      refine OwnOut.go (fun t k => XS.iload X4.here hx rfl (hb hby at_187) rfl k) ?_
      show OwnOut p e s below 16 192 _ (T4.setTop (mkF m 189 #[.val (.int x0), .val (.int x1), .val (.int x2), .val (.int x3), .val (.int x4), .val (.int x5), .val (.int x6), .val (.int x7), .val (.int x8), .val (.int x9), .val (.int x10), .val (.int x11), .val (.int x12), .val (.int x13), .val (.ref b0), .val (.ref b1), .unset, .unset] [(.int x11)]))
      refine OwnOut.go (fun t k => XT.bipushV X4.here hx rfl (32 : Int32) (hb hby at_189) rfl k) ?_
      show OwnOut p e s below 16 192 _ (T4.setTop (mkF m 191 #[.val (.int x0), .val (.int x1), .val (.int x2), .val (.int x3), .val (.int x4), .val (.int x5), .val (.int x6), .val (.int x7), .val (.int x8), .val (.int x9), .val (.int x10), .val (.int x11), .val (.int x12), .val (.int x13), .val (.ref b0), .val (.ref b1), .unset, .unset] [(.int (32 : Int32)), (.int x11)]))
      refine OwnOut.go (fun t k => XS.iload X4.here hx rfl (hb hby at_191) rfl k) ?_
      show OwnOut p e s below 16 192 _ (T4.setTop (mkF m 193 #[.val (.int x0), .val (.int x1), .val (.int x2), .val (.int x3), .val (.int x4), .val (.int x5), .val (.int x6), .val (.int x7), .val (.int x8), .val (.int x9), .val (.int x10), .val (.int x11), .val (.int x12), .val (.int x13), .val (.ref b0), .val (.ref b1), .unset, .unset] [(.int x6), (.int (32 : Int32)), (.int x11)]))
      refine OwnOut.go (fun t k => XS.isub X4.here hx rfl (hb hby at_193) rfl k) ?_
      show OwnOut p e s below 16 192 _ (T4.setTop (mkF m 194 #[.val (.int x0), .val (.int x1), .val (.int x2), .val (.int x3), .val (.int x4), .val (.int x5), .val (.int x6), .val (.int x7), .val (.int x8), .val (.int x9), .val (.int x10), .val (.int x11), .val (.int x12), .val (.int x13), .val (.ref b0), .val (.ref b1), .unset, .unset] [(.int ((32 : Int32) - x6)), (.int x11)]))
      refine OwnOut.go (fun t k => XS.ishl X4.here hx rfl (hb hby at_194) rfl k) ?_
      show OwnOut p e s below 16 192 _ (T4.setTop (mkF m 195 #[.val (.int x0), .val (.int x1), .val (.int x2), .val (.int x3), .val (.int x4), .val (.int x5), .val (.int x6), .val (.int x7), .val (.int x8), .val (.int x9), .val (.int x10), .val (.int x11), .val (.int x12), .val (.int x13), .val (.ref b0), .val (.ref b1), .unset, .unset] [(.int (x11 <<< (((32 : Int32) - x6) &&& 31)))]))
      exact w0_195 ⟨hx, hZ, hw, hby, hml, hown, hret, hlk, hnm⟩  _ _ _ x0 x1 x2 x3 x4 x5 x6 x7 x8 x9 x10 x11 x12 x13 (x11 <<< (((32 : Int32) - x6) &&& 31)) b0 l0 b1 o4.1 b2 o4.2 _ hr X4 rfl N_4 O_4 K_4 A0_4 E1_4 F1_words_4 F1_length_4 A2_4 g0 z0 g1 z1 g2 z2 ne0_1 ne0_2 ne1_2
def f0_145 (x5 : Int32) (x6 : Int32) (x10 : Int32) (x11 : Int32) (x13 : Int32) (l0 : List Int32) (u1_length : Int32) (l2 : List Int64) : Option (Int32) := (if x5 < (3 : Int32) then (f0_169 x5 x6 x11 x13 l0 u1_length l2) else ((f3 x10 (24 : Int32) u1_length l2).bind fun o26 => ((f6 (6 : Int32) x10 l0).bind fun o27 => (f0_169 x5 x6 x11 x13 o27 o26.1 o26.2))))
set_option maxRecDepth 65536 in
set_option maxHeartbeats 40000000 in
theorem w0_145 {p : Program} {l : Launch} {e : Env} {s : State} {m : MethodId} {args : Array Value} {below : List Frame} {meth : Method} {c : Code} {Z : State} {a0 : Array Value} {h0 : Heap} {n0 : Nat} (C : Cx0 Z a0 p s m meth c) :
    ∀ (T : State) (locs : List Loc) (hA : Heap) (x0 : Int32) (x1 : Int32) (x2 : Int32) (x3 : Int32) (x4 : Int32) (x5 : Int32) (x6 : Int32) (x7 : Int32) (x8 : Int32) (x9 : Int32) (x10 : Int32) (x11 : Int32) (x12 : Int32) (x13 : Int32) (b0 : Addr) (l0 : List Int32) (b1 : Addr) (u1_length : Int32) (b2 : Addr) (l2 : List Int64) (o : Int32), f0_145 x5 x6 x10 x11 x13 l0 u1_length l2 = some o → Stand p l e room_1 s m args below meth c T locs 3 22 → T.heap = hA → Fr n0 locs → Old Z n0 hA → Keep h0 hA [] → (Ari Z hA b0 .int l0) → (Exa Z hA b1 "com/example/sinogrid/sinogrid/BitBuffer") → (Fld Z hA b1 "com/example/sinogrid/sinogrid/BitBuffer" "words" "[J" (.ref b2)) → (Fld Z hA b1 "com/example/sinogrid/sinogrid/BitBuffer" "length" "I" (.int u1_length)) → (Arj Z hA b2 l2) → (n0 ≤ b0) → (h0.size ≤ b0) → (n0 ≤ b1) → (h0.size ≤ b1) → (n0 ≤ b2) → (h0.size ≤ b2) → (b0 ≠ b1) → (b0 ≠ b2) → (b1 ≠ b2) →  OwnOut p e s below 16 192 (Q0 Z default default default default default h0 n0 o) (T.setTop (mkF m 145 #[.val (.int x0), .val (.int x1), .val (.int x2), .val (.int x3), .val (.int x4), .val (.int x5), .val (.int x6), .val (.int x7), .val (.int x8), .val (.int x9), .val (.int x10), .val (.int x11), .val (.int x12), .val (.int x13), .val (.ref b0), .val (.ref b1), .unset, .unset] [])) := by
    obtain ⟨hx, hZ, hw, hby, hml, hown, hret, hlk, hnm⟩ := C
    intro T locs hA x0 x1 x2 x3 x4 x5 x6 x7 x8 x9 x10 x11 x12 x13 b0 l0 b1 u1_length b2 l2 o hr X0 e0 N0 O0 K0 A0 E1 F1_words F1_length A2 g0 z0 g1 z1 g2 z2 ne0_1 ne0_2 ne1_2
    rw [f0_145] at hr
    refine OwnOut.go (fun t k => XS.iload X0.here hx rfl (hb hby at_145) rfl k) ?_
    show OwnOut p e s below 16 192 _ (T.setTop (mkF m 147 #[.val (.int x0), .val (.int x1), .val (.int x2), .val (.int x3), .val (.int x4), .val (.int x5), .val (.int x6), .val (.int x7), .val (.int x8), .val (.int x9), .val (.int x10), .val (.int x11), .val (.int x12), .val (.int x13), .val (.ref b0), .val (.ref b1), .unset, .unset] [(.int x5)]))
    refine OwnOut.go (fun t k => XT.iconstV X0.here hx rfl (3 : Int32) (hb hby at_147) rfl k) ?_
    show OwnOut p e s below 16 192 _ (T.setTop (mkF m 148 #[.val (.int x0), .val (.int x1), .val (.int x2), .val (.int x3), .val (.int x4), .val (.int x5), .val (.int x6), .val (.int x7), .val (.int x8), .val (.int x9), .val (.int x10), .val (.int x11), .val (.int x12), .val (.int x13), .val (.ref b0), .val (.ref b1), .unset, .unset] [(.int (3 : Int32)), (.int x5)]))
    by_cases hc148 : x5 < (3 : Int32)
    · rw [if_pos hc148] at hr
      refine OwnOut.go (fun t k => XS.icmpYes X0.here hx rfl (pc0 := 148) (pc' := 169) rfl (hb hby at_148) rfl (XT.ii_lt_t hc148) (by decide) (by decide) k) ?_
      show OwnOut p e s below 16 192 _ (T.setTop (mkF m 169 #[.val (.int x0), .val (.int x1), .val (.int x2), .val (.int x3), .val (.int x4), .val (.int x5), .val (.int x6), .val (.int x7), .val (.int x8), .val (.int x9), .val (.int x10), .val (.int x11), .val (.int x12), .val (.int x13), .val (.ref b0), .val (.ref b1), .unset, .unset] []))
      exact w0_169 ⟨hx, hZ, hw, hby, hml, hown, hret, hlk, hnm⟩  _ _ _ x0 x1 x2 x3 x4 x5 x6 x7 x8 x9 x10 x11 x12 x13 b0 l0 b1 u1_length b2 l2 _ hr X0 e0 N0 O0 K0 A0 E1 F1_words F1_length A2 g0 z0 g1 z1 g2 z2 ne0_1 ne0_2 ne1_2
    · rw [if_neg hc148] at hr
      refine OwnOut.go (fun t k => XS.icmpNo X0.here hx rfl (hb hby at_148) rfl (XT.ii_lt_f hc148) k) ?_
      show OwnOut p e s below 16 192 _ (T.setTop (mkF m 151 #[.val (.int x0), .val (.int x1), .val (.int x2), .val (.int x3), .val (.int x4), .val (.int x5), .val (.int x6), .val (.int x7), .val (.int x8), .val (.int x9), .val (.int x10), .val (.int x11), .val (.int x12), .val (.int x13), .val (.ref b0), .val (.ref b1), .unset, .unset] []))
      refine OwnOut.go (fun t k => XS.aload X0.here hx rfl (hb hby at_151) rfl rfl k) ?_
      show OwnOut p e s below 16 192 _ (T.setTop (mkF m 153 #[.val (.int x0), .val (.int x1), .val (.int x2), .val (.int x3), .val (.int x4), .val (.int x5), .val (.int x6), .val (.int x7), .val (.int x8), .val (.int x9), .val (.int x10), .val (.int x11), .val (.int x12), .val (.int x13), .val (.ref b0), .val (.ref b1), .unset, .unset] [(.ref b1)]))
      refine OwnOut.go (fun t k => XS.iload X0.here hx rfl (hb hby at_153) rfl k) ?_
      show OwnOut p e s below 16 192 _ (T.setTop (mkF m 155 #[.val (.int x0), .val (.int x1), .val (.int x2), .val (.int x3), .val (.int x4), .val (.int x5), .val (.int x6), .val (.int x7), .val (.int x8), .val (.int x9), .val (.int x10), .val (.int x11), .val (.int x12), .val (.int x13), .val (.ref b0), .val (.ref b1), .unset, .unset] [(.int x10), (.ref b1)]))
      refine OwnOut.go (fun t k => XT.bipushV X0.here hx rfl (24 : Int32) (hb hby at_155) rfl k) ?_
      show OwnOut p e s below 16 192 _ (T.setTop (mkF m 157 #[.val (.int x0), .val (.int x1), .val (.int x2), .val (.int x3), .val (.int x4), .val (.int x5), .val (.int x6), .val (.int x7), .val (.int x8), .val (.int x9), .val (.int x10), .val (.int x11), .val (.int x12), .val (.int x13), .val (.ref b0), .val (.ref b1), .unset, .unset] [(.int (24 : Int32)), (.int x10), (.ref b1)]))
      obtain ⟨o26, ho26, hr⟩ := Option.bind_eq_some_iff.mp hr
      obtain ⟨r26, T26, L26, X26', hQ26, st26⟩ := callV (W := 0) (rm := rx3) X0 hx hZ (y := (⟨"com/example/sinogrid/sinogrid/BitBuffer", "append", "(II)V"⟩ : MethodName)) hown (hw _ (List.mem_of_getElem? (i := 14) rfl)) (hw _ (List.mem_of_getElem? (i := 15) rfl)) (hw _ (List.mem_of_getElem? (i := 17) rfl)) (hw _ (List.mem_of_getElem? (i := 16) rfl)) (hw _ (List.mem_of_getElem? (i := 4) rfl)) (hw _ (List.mem_of_getElem? (i := 18) rfl)) (by decide) (rm3 l Z a0 hw [] x10 (24 : Int32) b1 u1_length b2 l2 hA n0 o26 ho26 O0 E1 F1_words F1_length A2 g1 g2 ne1_2) (by decide) (by decide) (by decide) (by decide) e0 E1 (g := (mkF m 157 #[.val (.int x0), .val (.int x1), .val (.int x2), .val (.int x3), .val (.int x4), .val (.int x5), .val (.int x6), .val (.int x7), .val (.int x8), .val (.int x9), .val (.int x10), .val (.int x11), .val (.int x12), .val (.int x13), .val (.ref b0), .val (.ref b1), .unset, .unset] [(.int (24 : Int32)), (.int x10), (.ref b1)])) rfl (by rw [hml]; rfl) (argsL := [(.int x10), (.int (24 : Int32))]) (rest := []) (lenOf pd3 rfl) rfl (by show 2 * 0 + _ ≤ _; exact Nat.le_of_eq rfl) (hb hby at_157)
      obtain ⟨rfl, Nq26, Kq26, F1_words_26, F1_length_26, A2_26⟩ := hQ26
      have X26 : Stand p l e room_1 _ m args below meth c T26 _ 3 22 := X26'
      have A0_26 := A0.keep Kq26 (ninS ne0_1 (ninS ne0_2 nin0))
      have E1_26 := E1.keep Kq26
      have N_26 := Fr.app N0 Nq26
      have O_26 := O0.keep Kq26 (allS g1 (allS g2 all0))
      have K_26 := K0.trans Kq26 (allS (Or.inr z1) (allS (Or.inr z2) all0))
      refine OwnOut.go (fun t k => st26 _ k) ?_
      show OwnOut p e s below 16 192 _ (T26.setTop (mkF m 160 #[.val (.int x0), .val (.int x1), .val (.int x2), .val (.int x3), .val (.int x4), .val (.int x5), .val (.int x6), .val (.int x7), .val (.int x8), .val (.int x9), .val (.int x10), .val (.int x11), .val (.int x12), .val (.int x13), .val (.ref b0), .val (.ref b1), .unset, .unset] []))
      refine OwnOut.go (fun t k => XS.aload X26.here hx rfl (hb hby at_160) rfl rfl k) ?_
      show OwnOut p e s below 16 192 _ (T26.setTop (mkF m 162 #[.val (.int x0), .val (.int x1), .val (.int x2), .val (.int x3), .val (.int x4), .val (.int x5), .val (.int x6), .val (.int x7), .val (.int x8), .val (.int x9), .val (.int x10), .val (.int x11), .val (.int x12), .val (.int x13), .val (.ref b0), .val (.ref b1), .unset, .unset] [(.ref b0)]))
      refine OwnOut.go (fun t k => XT.bipushV X26.here hx rfl (6 : Int32) (hb hby at_162) rfl k) ?_
      show OwnOut p e s below 16 192 _ (T26.setTop (mkF m 164 #[.val (.int x0), .val (.int x1), .val (.int x2), .val (.int x3), .val (.int x4), .val (.int x5), .val (.int x6), .val (.int x7), .val (.int x8), .val (.int x9), .val (.int x10), .val (.int x11), .val (.int x12), .val (.int x13), .val (.ref b0), .val (.ref b1), .unset, .unset] [(.int (6 : Int32)), (.ref b0)]))
      refine OwnOut.go (fun t k => XS.iload X26.here hx rfl (hb hby at_164) rfl k) ?_
      show OwnOut p e s below 16 192 _ (T26.setTop (mkF m 166 #[.val (.int x0), .val (.int x1), .val (.int x2), .val (.int x3), .val (.int x4), .val (.int x5), .val (.int x6), .val (.int x7), .val (.int x8), .val (.int x9), .val (.int x10), .val (.int x11), .val (.int x12), .val (.int x13), .val (.ref b0), .val (.ref b1), .unset, .unset] [(.int x10), (.int (6 : Int32)), (.ref b0)]))
      obtain ⟨o27, ho27, hr⟩ := Option.bind_eq_some_iff.mp hr
      obtain ⟨r27, T27, L27, X27', hQ27, st27⟩ := callQ (W := 0) (rm := rx6) X26 hx hZ (y := (⟨"com/example/sinogrid/sinogrid/BitBufferToCodewordsPinLaw", "put3", "([III)V"⟩ : MethodName)) hown (hw _ (List.mem_of_getElem? (i := 30) rfl)) (hw _ (List.mem_of_getElem? (i := 31) rfl)) (hw _ (List.mem_of_getElem? (i := 28) rfl)) (hw _ (List.mem_of_getElem? (i := 32) rfl)) (by decide) (rm6 l Z a0 hw [] (6 : Int32) x10 b0 l0 T26.heap n0 o27 ho27 O_26 A0_26 g0) (by decide) (by decide) (by decide) (by decide) rfl (g := (mkF m 166 #[.val (.int x0), .val (.int x1), .val (.int x2), .val (.int x3), .val (.int x4), .val (.int x5), .val (.int x6), .val (.int x7), .val (.int x8), .val (.int x9), .val (.int x10), .val (.int x11), .val (.int x12), .val (.int x13), .val (.ref b0), .val (.ref b1), .unset, .unset] [(.int x10), (.int (6 : Int32)), (.ref b0)])) rfl (by rw [hml]; rfl) (argsL := [(.ref b0), (.int (6 : Int32)), (.int x10)]) (rest := []) (lenOf pd6 rfl) rfl (by show 2 * 0 + _ ≤ _; exact Nat.le_of_eq rfl) (hb hby at_166)
      obtain ⟨rfl, Nq27, Kq27, A0_27⟩ := hQ27
      have X27 : Stand p l e room_1 _ m args below meth c T27 _ 3 22 := X27'
      have E1_27 := E1_26.keep Kq27
      have F1_words_27 := F1_words_26.keep Kq27 (ninS (Ne.symm ne0_1) nin0)
      have F1_length_27 := F1_length_26.keep Kq27 (ninS (Ne.symm ne0_1) nin0)
      have A2_27 := A2_26.keep Kq27 (ninS (Ne.symm ne0_2) nin0)
      have N_27 := Fr.app N_26 Nq27
      have O_27 := O_26.keep Kq27 (allS g0 all0)
      have K_27 := K_26.trans Kq27 (allS (Or.inr z0) all0)
      refine OwnOut.go (fun t k => st27 _ k) ?_
      show OwnOut p e s below 16 192 _ (T27.setTop (mkF m 169 #[.val (.int x0), .val (.int x1), .val (.int x2), .val (.int x3), .val (.int x4), .val (.int x5), .val (.int x6), .val (.int x7), .val (.int x8), .val (.int x9), .val (.int x10), .val (.int x11), .val (.int x12), .val (.int x13), .val (.ref b0), .val (.ref b1), .unset, .unset] []))
      exact w0_169 ⟨hx, hZ, hw, hby, hml, hown, hret, hlk, hnm⟩  _ _ _ x0 x1 x2 x3 x4 x5 x6 x7 x8 x9 x10 x11 x12 x13 b0 o27 b1 o26.1 b2 o26.2 _ hr X27 rfl N_27 O_27 K_27 A0_27 E1_27 F1_words_27 F1_length_27 A2_27 g0 z0 g1 z1 g2 z2 ne0_1 ne0_2 ne1_2
def f0_122 (x5 : Int32) (x6 : Int32) (x9 : Int32) (x10 : Int32) (x11 : Int32) (x13 : Int32) (l0 : List Int32) (u1_length : Int32) (l2 : List Int64) : Option (Int32) := (if x5 < (2 : Int32) then (f0_145 x5 x6 x10 x11 x13 l0 u1_length l2) else ((f3 x9 (24 : Int32) u1_length l2).bind fun o28 => ((f6 (3 : Int32) x9 l0).bind fun o29 => (f0_145 x5 x6 x10 x11 x13 o29 o28.1 o28.2))))
set_option maxRecDepth 65536 in
set_option maxHeartbeats 40000000 in
theorem w0_122 {p : Program} {l : Launch} {e : Env} {s : State} {m : MethodId} {args : Array Value} {below : List Frame} {meth : Method} {c : Code} {Z : State} {a0 : Array Value} {h0 : Heap} {n0 : Nat} (C : Cx0 Z a0 p s m meth c) :
    ∀ (T : State) (locs : List Loc) (hA : Heap) (x0 : Int32) (x1 : Int32) (x2 : Int32) (x3 : Int32) (x4 : Int32) (x5 : Int32) (x6 : Int32) (x7 : Int32) (x8 : Int32) (x9 : Int32) (x10 : Int32) (x11 : Int32) (x12 : Int32) (x13 : Int32) (b0 : Addr) (l0 : List Int32) (b1 : Addr) (u1_length : Int32) (b2 : Addr) (l2 : List Int64) (o : Int32), f0_122 x5 x6 x9 x10 x11 x13 l0 u1_length l2 = some o → Stand p l e room_1 s m args below meth c T locs 3 22 → T.heap = hA → Fr n0 locs → Old Z n0 hA → Keep h0 hA [] → (Ari Z hA b0 .int l0) → (Exa Z hA b1 "com/example/sinogrid/sinogrid/BitBuffer") → (Fld Z hA b1 "com/example/sinogrid/sinogrid/BitBuffer" "words" "[J" (.ref b2)) → (Fld Z hA b1 "com/example/sinogrid/sinogrid/BitBuffer" "length" "I" (.int u1_length)) → (Arj Z hA b2 l2) → (n0 ≤ b0) → (h0.size ≤ b0) → (n0 ≤ b1) → (h0.size ≤ b1) → (n0 ≤ b2) → (h0.size ≤ b2) → (b0 ≠ b1) → (b0 ≠ b2) → (b1 ≠ b2) →  OwnOut p e s below 16 192 (Q0 Z default default default default default h0 n0 o) (T.setTop (mkF m 122 #[.val (.int x0), .val (.int x1), .val (.int x2), .val (.int x3), .val (.int x4), .val (.int x5), .val (.int x6), .val (.int x7), .val (.int x8), .val (.int x9), .val (.int x10), .val (.int x11), .val (.int x12), .val (.int x13), .val (.ref b0), .val (.ref b1), .unset, .unset] [])) := by
    obtain ⟨hx, hZ, hw, hby, hml, hown, hret, hlk, hnm⟩ := C
    intro T locs hA x0 x1 x2 x3 x4 x5 x6 x7 x8 x9 x10 x11 x12 x13 b0 l0 b1 u1_length b2 l2 o hr X0 e0 N0 O0 K0 A0 E1 F1_words F1_length A2 g0 z0 g1 z1 g2 z2 ne0_1 ne0_2 ne1_2
    rw [f0_122] at hr
    refine OwnOut.go (fun t k => XS.iload X0.here hx rfl (hb hby at_122) rfl k) ?_
    show OwnOut p e s below 16 192 _ (T.setTop (mkF m 124 #[.val (.int x0), .val (.int x1), .val (.int x2), .val (.int x3), .val (.int x4), .val (.int x5), .val (.int x6), .val (.int x7), .val (.int x8), .val (.int x9), .val (.int x10), .val (.int x11), .val (.int x12), .val (.int x13), .val (.ref b0), .val (.ref b1), .unset, .unset] [(.int x5)]))
    refine OwnOut.go (fun t k => XT.iconstV X0.here hx rfl (2 : Int32) (hb hby at_124) rfl k) ?_
    show OwnOut p e s below 16 192 _ (T.setTop (mkF m 125 #[.val (.int x0), .val (.int x1), .val (.int x2), .val (.int x3), .val (.int x4), .val (.int x5), .val (.int x6), .val (.int x7), .val (.int x8), .val (.int x9), .val (.int x10), .val (.int x11), .val (.int x12), .val (.int x13), .val (.ref b0), .val (.ref b1), .unset, .unset] [(.int (2 : Int32)), (.int x5)]))
    by_cases hc125 : x5 < (2 : Int32)
    · rw [if_pos hc125] at hr
      refine OwnOut.go (fun t k => XS.icmpYes X0.here hx rfl (pc0 := 125) (pc' := 145) rfl (hb hby at_125) rfl (XT.ii_lt_t hc125) (by decide) (by decide) k) ?_
      show OwnOut p e s below 16 192 _ (T.setTop (mkF m 145 #[.val (.int x0), .val (.int x1), .val (.int x2), .val (.int x3), .val (.int x4), .val (.int x5), .val (.int x6), .val (.int x7), .val (.int x8), .val (.int x9), .val (.int x10), .val (.int x11), .val (.int x12), .val (.int x13), .val (.ref b0), .val (.ref b1), .unset, .unset] []))
      exact w0_145 ⟨hx, hZ, hw, hby, hml, hown, hret, hlk, hnm⟩  _ _ _ x0 x1 x2 x3 x4 x5 x6 x7 x8 x9 x10 x11 x12 x13 b0 l0 b1 u1_length b2 l2 _ hr X0 e0 N0 O0 K0 A0 E1 F1_words F1_length A2 g0 z0 g1 z1 g2 z2 ne0_1 ne0_2 ne1_2
    · rw [if_neg hc125] at hr
      refine OwnOut.go (fun t k => XS.icmpNo X0.here hx rfl (hb hby at_125) rfl (XT.ii_lt_f hc125) k) ?_
      show OwnOut p e s below 16 192 _ (T.setTop (mkF m 128 #[.val (.int x0), .val (.int x1), .val (.int x2), .val (.int x3), .val (.int x4), .val (.int x5), .val (.int x6), .val (.int x7), .val (.int x8), .val (.int x9), .val (.int x10), .val (.int x11), .val (.int x12), .val (.int x13), .val (.ref b0), .val (.ref b1), .unset, .unset] []))
      refine OwnOut.go (fun t k => XS.aload X0.here hx rfl (hb hby at_128) rfl rfl k) ?_
      show OwnOut p e s below 16 192 _ (T.setTop (mkF m 130 #[.val (.int x0), .val (.int x1), .val (.int x2), .val (.int x3), .val (.int x4), .val (.int x5), .val (.int x6), .val (.int x7), .val (.int x8), .val (.int x9), .val (.int x10), .val (.int x11), .val (.int x12), .val (.int x13), .val (.ref b0), .val (.ref b1), .unset, .unset] [(.ref b1)]))
      refine OwnOut.go (fun t k => XS.iload X0.here hx rfl (hb hby at_130) rfl k) ?_
      show OwnOut p e s below 16 192 _ (T.setTop (mkF m 132 #[.val (.int x0), .val (.int x1), .val (.int x2), .val (.int x3), .val (.int x4), .val (.int x5), .val (.int x6), .val (.int x7), .val (.int x8), .val (.int x9), .val (.int x10), .val (.int x11), .val (.int x12), .val (.int x13), .val (.ref b0), .val (.ref b1), .unset, .unset] [(.int x9), (.ref b1)]))
      refine OwnOut.go (fun t k => XT.bipushV X0.here hx rfl (24 : Int32) (hb hby at_132) rfl k) ?_
      show OwnOut p e s below 16 192 _ (T.setTop (mkF m 134 #[.val (.int x0), .val (.int x1), .val (.int x2), .val (.int x3), .val (.int x4), .val (.int x5), .val (.int x6), .val (.int x7), .val (.int x8), .val (.int x9), .val (.int x10), .val (.int x11), .val (.int x12), .val (.int x13), .val (.ref b0), .val (.ref b1), .unset, .unset] [(.int (24 : Int32)), (.int x9), (.ref b1)]))
      obtain ⟨o28, ho28, hr⟩ := Option.bind_eq_some_iff.mp hr
      obtain ⟨r28, T28, L28, X28', hQ28, st28⟩ := callV (W := 0) (rm := rx3) X0 hx hZ (y := (⟨"com/example/sinogrid/sinogrid/BitBuffer", "append", "(II)V"⟩ : MethodName)) hown (hw _ (List.mem_of_getElem? (i := 14) rfl)) (hw _ (List.mem_of_getElem? (i := 15) rfl)) (hw _ (List.mem_of_getElem? (i := 17) rfl)) (hw _ (List.mem_of_getElem? (i := 16) rfl)) (hw _ (List.mem_of_getElem? (i := 4) rfl)) (hw _ (List.mem_of_getElem? (i := 18) rfl)) (by decide) (rm3 l Z a0 hw [] x9 (24 : Int32) b1 u1_length b2 l2 hA n0 o28 ho28 O0 E1 F1_words F1_length A2 g1 g2 ne1_2) (by decide) (by decide) (by decide) (by decide) e0 E1 (g := (mkF m 134 #[.val (.int x0), .val (.int x1), .val (.int x2), .val (.int x3), .val (.int x4), .val (.int x5), .val (.int x6), .val (.int x7), .val (.int x8), .val (.int x9), .val (.int x10), .val (.int x11), .val (.int x12), .val (.int x13), .val (.ref b0), .val (.ref b1), .unset, .unset] [(.int (24 : Int32)), (.int x9), (.ref b1)])) rfl (by rw [hml]; rfl) (argsL := [(.int x9), (.int (24 : Int32))]) (rest := []) (lenOf pd3 rfl) rfl (by show 2 * 0 + _ ≤ _; exact Nat.le_of_eq rfl) (hb hby at_134)
      obtain ⟨rfl, Nq28, Kq28, F1_words_28, F1_length_28, A2_28⟩ := hQ28
      have X28 : Stand p l e room_1 _ m args below meth c T28 _ 3 22 := X28'
      have A0_28 := A0.keep Kq28 (ninS ne0_1 (ninS ne0_2 nin0))
      have E1_28 := E1.keep Kq28
      have N_28 := Fr.app N0 Nq28
      have O_28 := O0.keep Kq28 (allS g1 (allS g2 all0))
      have K_28 := K0.trans Kq28 (allS (Or.inr z1) (allS (Or.inr z2) all0))
      refine OwnOut.go (fun t k => st28 _ k) ?_
      show OwnOut p e s below 16 192 _ (T28.setTop (mkF m 137 #[.val (.int x0), .val (.int x1), .val (.int x2), .val (.int x3), .val (.int x4), .val (.int x5), .val (.int x6), .val (.int x7), .val (.int x8), .val (.int x9), .val (.int x10), .val (.int x11), .val (.int x12), .val (.int x13), .val (.ref b0), .val (.ref b1), .unset, .unset] []))
      refine OwnOut.go (fun t k => XS.aload X28.here hx rfl (hb hby at_137) rfl rfl k) ?_
      show OwnOut p e s below 16 192 _ (T28.setTop (mkF m 139 #[.val (.int x0), .val (.int x1), .val (.int x2), .val (.int x3), .val (.int x4), .val (.int x5), .val (.int x6), .val (.int x7), .val (.int x8), .val (.int x9), .val (.int x10), .val (.int x11), .val (.int x12), .val (.int x13), .val (.ref b0), .val (.ref b1), .unset, .unset] [(.ref b0)]))
      refine OwnOut.go (fun t k => XT.iconstV X28.here hx rfl (3 : Int32) (hb hby at_139) rfl k) ?_
      show OwnOut p e s below 16 192 _ (T28.setTop (mkF m 140 #[.val (.int x0), .val (.int x1), .val (.int x2), .val (.int x3), .val (.int x4), .val (.int x5), .val (.int x6), .val (.int x7), .val (.int x8), .val (.int x9), .val (.int x10), .val (.int x11), .val (.int x12), .val (.int x13), .val (.ref b0), .val (.ref b1), .unset, .unset] [(.int (3 : Int32)), (.ref b0)]))
      refine OwnOut.go (fun t k => XS.iload X28.here hx rfl (hb hby at_140) rfl k) ?_
      show OwnOut p e s below 16 192 _ (T28.setTop (mkF m 142 #[.val (.int x0), .val (.int x1), .val (.int x2), .val (.int x3), .val (.int x4), .val (.int x5), .val (.int x6), .val (.int x7), .val (.int x8), .val (.int x9), .val (.int x10), .val (.int x11), .val (.int x12), .val (.int x13), .val (.ref b0), .val (.ref b1), .unset, .unset] [(.int x9), (.int (3 : Int32)), (.ref b0)]))
      obtain ⟨o29, ho29, hr⟩ := Option.bind_eq_some_iff.mp hr
      obtain ⟨r29, T29, L29, X29', hQ29, st29⟩ := callQ (W := 0) (rm := rx6) X28 hx hZ (y := (⟨"com/example/sinogrid/sinogrid/BitBufferToCodewordsPinLaw", "put3", "([III)V"⟩ : MethodName)) hown (hw _ (List.mem_of_getElem? (i := 30) rfl)) (hw _ (List.mem_of_getElem? (i := 31) rfl)) (hw _ (List.mem_of_getElem? (i := 28) rfl)) (hw _ (List.mem_of_getElem? (i := 32) rfl)) (by decide) (rm6 l Z a0 hw [] (3 : Int32) x9 b0 l0 T28.heap n0 o29 ho29 O_28 A0_28 g0) (by decide) (by decide) (by decide) (by decide) rfl (g := (mkF m 142 #[.val (.int x0), .val (.int x1), .val (.int x2), .val (.int x3), .val (.int x4), .val (.int x5), .val (.int x6), .val (.int x7), .val (.int x8), .val (.int x9), .val (.int x10), .val (.int x11), .val (.int x12), .val (.int x13), .val (.ref b0), .val (.ref b1), .unset, .unset] [(.int x9), (.int (3 : Int32)), (.ref b0)])) rfl (by rw [hml]; rfl) (argsL := [(.ref b0), (.int (3 : Int32)), (.int x9)]) (rest := []) (lenOf pd6 rfl) rfl (by show 2 * 0 + _ ≤ _; exact Nat.le_of_eq rfl) (hb hby at_142)
      obtain ⟨rfl, Nq29, Kq29, A0_29⟩ := hQ29
      have X29 : Stand p l e room_1 _ m args below meth c T29 _ 3 22 := X29'
      have E1_29 := E1_28.keep Kq29
      have F1_words_29 := F1_words_28.keep Kq29 (ninS (Ne.symm ne0_1) nin0)
      have F1_length_29 := F1_length_28.keep Kq29 (ninS (Ne.symm ne0_1) nin0)
      have A2_29 := A2_28.keep Kq29 (ninS (Ne.symm ne0_2) nin0)
      have N_29 := Fr.app N_28 Nq29
      have O_29 := O_28.keep Kq29 (allS g0 all0)
      have K_29 := K_28.trans Kq29 (allS (Or.inr z0) all0)
      refine OwnOut.go (fun t k => st29 _ k) ?_
      show OwnOut p e s below 16 192 _ (T29.setTop (mkF m 145 #[.val (.int x0), .val (.int x1), .val (.int x2), .val (.int x3), .val (.int x4), .val (.int x5), .val (.int x6), .val (.int x7), .val (.int x8), .val (.int x9), .val (.int x10), .val (.int x11), .val (.int x12), .val (.int x13), .val (.ref b0), .val (.ref b1), .unset, .unset] []))
      exact w0_145 ⟨hx, hZ, hw, hby, hml, hown, hret, hlk, hnm⟩  _ _ _ x0 x1 x2 x3 x4 x5 x6 x7 x8 x9 x10 x11 x12 x13 b0 o29 b1 o28.1 b2 o28.2 _ hr X29 rfl N_29 O_29 K_29 A0_29 E1_29 F1_words_29 F1_length_29 A2_29 g0 z0 g1 z1 g2 z2 ne0_1 ne0_2 ne1_2
def f0_84 (x5 : Int32) (x6 : Int32) (x8 : Int32) (x9 : Int32) (x10 : Int32) (x11 : Int32) (x13 : Int32) : Option (Int32) := ((f1 (0 : Int32)).bind fun o3 => (if x5 < (1 : Int32) then (f0_122 x5 x6 x9 x10 x11 x13 [(0 : Int32), (0 : Int32), (0 : Int32), (0 : Int32), (0 : Int32), (0 : Int32), (0 : Int32), (0 : Int32), (0 : Int32), (0 : Int32), (0 : Int32), (0 : Int32), (0 : Int32), (0 : Int32), (0 : Int32), (0 : Int32)] (0 : Int32) o3) else ((f3 x8 (24 : Int32) (0 : Int32) o3).bind fun o30 => ((f6 (0 : Int32) x8 [(0 : Int32), (0 : Int32), (0 : Int32), (0 : Int32), (0 : Int32), (0 : Int32), (0 : Int32), (0 : Int32), (0 : Int32), (0 : Int32), (0 : Int32), (0 : Int32), (0 : Int32), (0 : Int32), (0 : Int32), (0 : Int32)]).bind fun o31 => (f0_122 x5 x6 x9 x10 x11 x13 o31 o30.1 o30.2)))))
set_option maxRecDepth 65536 in
set_option maxHeartbeats 40000000 in
theorem w0_84 {p : Program} {l : Launch} {e : Env} {s : State} {m : MethodId} {args : Array Value} {below : List Frame} {meth : Method} {c : Code} {Z : State} {a0 : Array Value} {h0 : Heap} {n0 : Nat} (C : Cx0 Z a0 p s m meth c) :
    ∀ (T : State) (locs : List Loc) (hA : Heap) (x0 : Int32) (x1 : Int32) (x2 : Int32) (x3 : Int32) (x4 : Int32) (x5 : Int32) (x6 : Int32) (x7 : Int32) (x8 : Int32) (x9 : Int32) (x10 : Int32) (x11 : Int32) (x12 : Int32) (x13 : Int32) (o : Int32), f0_84 x5 x6 x8 x9 x10 x11 x13 = some o → Stand p l e room_1 s m args below meth c T locs 0 0 → T.heap = hA → Fr n0 locs → Old Z n0 hA → Keep h0 hA [] →  OwnOut p e s below 16 192 (Q0 Z default default default default default h0 n0 o) (T.setTop (mkF m 84 #[.val (.int x0), .val (.int x1), .val (.int x2), .val (.int x3), .val (.int x4), .val (.int x5), .val (.int x6), .val (.int x7), .val (.int x8), .val (.int x9), .val (.int x10), .val (.int x11), .val (.int x12), .val (.int x13), .unset, .unset, .unset, .unset] [])) := by
    obtain ⟨hx, hZ, hw, hby, hml, hown, hret, hlk, hnm⟩ := C
    intro T locs hA x0 x1 x2 x3 x4 x5 x6 x7 x8 x9 x10 x11 x12 x13 o hr X0 e0 N0 O0 K0
    rw [f0_84] at hr
    refine OwnOut.go (fun t k => XT.bipushV X0.here hx rfl (16 : Int32) (hb hby at_84) rfl k) ?_
    show OwnOut p e s below 16 192 _ (T.setTop (mkF m 86 #[.val (.int x0), .val (.int x1), .val (.int x2), .val (.int x3), .val (.int x4), .val (.int x5), .val (.int x6), .val (.int x7), .val (.int x8), .val (.int x9), .val (.int x10), .val (.int x11), .val (.int x12), .val (.int x13), .unset, .unset, .unset, .unset] [(.int (16 : Int32))]))
    obtain ⟨T1, h1, X1, e1, Ex1, A_1, st1⟩ := nwA X0 hx hZ (hw _ (List.mem_of_getElem? (i := 1) rfl)) e0 (rfl : nwx (0 : Int32) 16 (16 : Int32) = some [(0 : Int32), (0 : Int32), (0 : Int32), (0 : Int32), (0 : Int32), (0 : Int32), (0 : Int32), (0 : Int32), (0 : Int32), (0 : Int32), (0 : Int32), (0 : Int32), (0 : Int32), (0 : Int32), (0 : Int32), (0 : Int32)]) (f := Value.int) rfl (g := (mkF m 86 #[.val (.int x0), .val (.int x1), .val (.int x2), .val (.int x3), .val (.int x4), .val (.int x5), .val (.int x6), .val (.int x7), .val (.int x8), .val (.int x9), .val (.int x10), .val (.int x11), .val (.int x12), .val (.int x13), .unset, .unset, .unset, .unset] [(.int (16 : Int32))])) rfl rfl (hb hby at_86) (by decide) (by decide) (by decide)
    obtain ⟨c1, gc1⟩ : ∃ z, z = hA.size := ⟨_, rfl⟩
    rw [← gc1] at A_1 st1
    refine OwnOut.go (fun t k => st1 _ k) ?_
    have g_1 : n0 ≤ c1 := gc1 ▸ (O0.1 ▸ O0.2.1)
    have z_1 : h0.size ≤ c1 := gc1 ▸ K0.1
    have O_1 := O0.ext Ex1
    have K_1 := K0.ext Ex1
    show OwnOut p e s below 16 192 _ (T1.setTop (mkF m 88 #[.val (.int x0), .val (.int x1), .val (.int x2), .val (.int x3), .val (.int x4), .val (.int x5), .val (.int x6), .val (.int x7), .val (.int x8), .val (.int x9), .val (.int x10), .val (.int x11), .val (.int x12), .val (.int x13), .unset, .unset, .unset, .unset] [(.ref c1)]))
    refine OwnOut.go (fun t k => XS.astore X1.here hx rfl (hb hby at_88) rfl rfl (l' := #[.val (.int x0), .val (.int x1), .val (.int x2), .val (.int x3), .val (.int x4), .val (.int x5), .val (.int x6), .val (.int x7), .val (.int x8), .val (.int x9), .val (.int x10), .val (.int x11), .val (.int x12), .val (.int x13), .val (.ref c1), .unset, .unset, .unset]) rfl k) ?_
    show OwnOut p e s below 16 192 _ (T1.setTop (mkF m 90 #[.val (.int x0), .val (.int x1), .val (.int x2), .val (.int x3), .val (.int x4), .val (.int x5), .val (.int x6), .val (.int x7), .val (.int x8), .val (.int x9), .val (.int x10), .val (.int x11), .val (.int x12), .val (.int x13), .val (.ref c1), .unset, .unset, .unset] []))
    obtain ⟨T2, h2, X2, e2, Ex2, E_2, Df2, -, st2⟩ := newO X1 hx hZ hown (hw _ (List.mem_of_getElem? (i := 2) rfl)) (hw _ (List.mem_of_getElem? (i := 3) rfl)) (hw _ (List.mem_of_getElem? (i := 4) rfl)) e1 (g := (mkF m 90 #[.val (.int x0), .val (.int x1), .val (.int x2), .val (.int x3), .val (.int x4), .val (.int x5), .val (.int x6), .val (.int x7), .val (.int x8), .val (.int x9), .val (.int x10), .val (.int x11), .val (.int x12), .val (.int x13), .val (.ref c1), .unset, .unset, .unset] [])) rfl (hb hby at_90) (by decide) (by decide)
    obtain ⟨c2, gc2⟩ : ∃ z, z = h1.size := ⟨_, rfl⟩
    rw [← gc2] at E_2 st2
    have F_words_2 : Fld Z h2 c2 "com/example/sinogrid/sinogrid/BitBuffer" "words" "[J" .null := by rw [gc2]; exact Df2 (Or.inl (hw _ (List.mem_of_getElem? (i := 13) rfl))) (ty := (.array .long)) (by decide)
    have F_length_2 : Fld Z h2 c2 "com/example/sinogrid/sinogrid/BitBuffer" "length" "I" (.int (0 : Int32)) := by rw [gc2]; exact Df2 (Or.inl (hw _ (List.mem_of_getElem? (i := 25) rfl))) (ty := .int) (by decide)
    refine OwnOut.go (fun t k => st2 _ k) ?_
    have ne0_1_2 : c1 ≠ c2 := Nat.ne_of_lt (gc2 ▸ A_1.lt)
    have A0_2 := A_1.ext Ex2
    have g_2 : n0 ≤ c2 := gc2 ▸ (O_1.1 ▸ O_1.2.1)
    have z_2 : h0.size ≤ c2 := gc2 ▸ K_1.1
    have O_2 := O_1.ext Ex2
    have K_2 := K_1.ext Ex2
    show OwnOut p e s below 16 192 _ (T2.setTop (mkF m 93 #[.val (.int x0), .val (.int x1), .val (.int x2), .val (.int x3), .val (.int x4), .val (.int x5), .val (.int x6), .val (.int x7), .val (.int x8), .val (.int x9), .val (.int x10), .val (.int x11), .val (.int x12), .val (.int x13), .val (.ref c1), .unset, .unset, .unset] [(.ref c2)]))
    refine OwnOut.go (fun t k => XS.dup X2.here hx rfl (hb hby at_93) rfl rfl k) ?_
    show OwnOut p e s below 16 192 _ (T2.setTop (mkF m 94 #[.val (.int x0), .val (.int x1), .val (.int x2), .val (.int x3), .val (.int x4), .val (.int x5), .val (.int x6), .val (.int x7), .val (.int x8), .val (.int x9), .val (.int x10), .val (.int x11), .val (.int x12), .val (.int x13), .val (.ref c1), .unset, .unset, .unset] [(.ref c2), (.ref c2)]))
    obtain ⟨o3, ho3, hr⟩ := Option.bind_eq_some_iff.mp hr
    obtain ⟨r3, T3, L3, X3', hQ3, st3⟩ := callN (W := 1) (rm := rx1) X2 hx hZ rfl (y := (⟨"com/example/sinogrid/sinogrid/BitBuffer", "<init>", "()V"⟩ : MethodName)) rfl hown (hw _ (List.mem_of_getElem? (i := 5) rfl)) (hw _ (List.mem_of_getElem? (i := 6) rfl)) (hw _ (List.mem_of_getElem? (i := 4) rfl)) (hw _ (List.mem_of_getElem? (i := 7) rfl)) (by decide) (rm1 l Z a0 hw [] c2 (0 : Int32) h2 n0 o3 ho3 O_2 E_2 F_words_2 F_length_2 g_2) (by decide) (by decide) (by decide) (by decide) e2 (g := (mkF m 94 #[.val (.int x0), .val (.int x1), .val (.int x2), .val (.int x3), .val (.int x4), .val (.int x5), .val (.int x6), .val (.int x7), .val (.int x8), .val (.int x9), .val (.int x10), .val (.int x11), .val (.int x12), .val (.int x13), .val (.ref c1), .unset, .unset, .unset] [(.ref c2), (.ref c2)])) rfl (by rw [hml]; rfl) (argsL := []) (rest := [(.ref c2)]) (lenOf pd1 rfl) rfl (by show 2 * 0 + _ ≤ _; exact Nat.le_of_eq rfl) (hb hby at_94)
    obtain ⟨c3_0, rfl, Nq3, Kq3, F1_words_3, F1_length_3, zq3_0, gq3_0, Aq3_0⟩ := hQ3
    have X3 : Stand p l e room_1 _ m args below meth c T3 _ 3 22 := X3'
    have ne0_2_3 : c1 ≠ c3_0 := Nat.ne_of_lt (Nat.lt_of_lt_of_le A0_2.lt zq3_0)
    have ne1_2_3 : c2 ≠ c3_0 := Nat.ne_of_lt (Nat.lt_of_lt_of_le E_2.lt zq3_0)
    have z_3_0 : h0.size ≤ c3_0 := Nat.le_trans K_2.1 zq3_0
    have A0_3 := A0_2.keep Kq3 (ninS ne0_1_2 nin0)
    have E1_3 := E_2.keep Kq3
    have N_3 := Fr.app N0 Nq3
    have O_3 := O_2.keep Kq3 (allS g_2 all0)
    have K_3 := K_2.trans Kq3 (allS (Or.inr z_2) all0)
    refine OwnOut.go (fun t k => st3 _ k) ?_
    show OwnOut p e s below 16 192 _ (T3.setTop (mkF m 97 #[.val (.int x0), .val (.int x1), .val (.int x2), .val (.int x3), .val (.int x4), .val (.int x5), .val (.int x6), .val (.int x7), .val (.int x8), .val (.int x9), .val (.int x10), .val (.int x11), .val (.int x12), .val (.int x13), .val (.ref c1), .unset, .unset, .unset] [(.ref c2)]))
    refine OwnOut.go (fun t k => XS.astore X3.here hx rfl (hb hby at_97) rfl rfl (l' := #[.val (.int x0), .val (.int x1), .val (.int x2), .val (.int x3), .val (.int x4), .val (.int x5), .val (.int x6), .val (.int x7), .val (.int x8), .val (.int x9), .val (.int x10), .val (.int x11), .val (.int x12), .val (.int x13), .val (.ref c1), .val (.ref c2), .unset, .unset]) rfl k) ?_
    show OwnOut p e s below 16 192 _ (T3.setTop (mkF m 99 #[.val (.int x0), .val (.int x1), .val (.int x2), .val (.int x3), .val (.int x4), .val (.int x5), .val (.int x6), .val (.int x7), .val (.int x8), .val (.int x9), .val (.int x10), .val (.int x11), .val (.int x12), .val (.int x13), .val (.ref c1), .val (.ref c2), .unset, .unset] []))
    refine OwnOut.go (fun t k => XS.iload X3.here hx rfl (hb hby at_99) rfl k) ?_
    show OwnOut p e s below 16 192 _ (T3.setTop (mkF m 101 #[.val (.int x0), .val (.int x1), .val (.int x2), .val (.int x3), .val (.int x4), .val (.int x5), .val (.int x6), .val (.int x7), .val (.int x8), .val (.int x9), .val (.int x10), .val (.int x11), .val (.int x12), .val (.int x13), .val (.ref c1), .val (.ref c2), .unset, .unset] [(.int x5)]))
    refine OwnOut.go (fun t k => XT.iconstV X3.here hx rfl (1 : Int32) (hb hby at_101) rfl k) ?_
    show OwnOut p e s below 16 192 _ (T3.setTop (mkF m 102 #[.val (.int x0), .val (.int x1), .val (.int x2), .val (.int x3), .val (.int x4), .val (.int x5), .val (.int x6), .val (.int x7), .val (.int x8), .val (.int x9), .val (.int x10), .val (.int x11), .val (.int x12), .val (.int x13), .val (.ref c1), .val (.ref c2), .unset, .unset] [(.int (1 : Int32)), (.int x5)]))
    by_cases hc102 : x5 < (1 : Int32)
    · rw [if_pos hc102] at hr
      refine OwnOut.go (fun t k => XS.icmpYes X3.here hx rfl (pc0 := 102) (pc' := 122) rfl (hb hby at_102) rfl (XT.ii_lt_t hc102) (by decide) (by decide) k) ?_
      show OwnOut p e s below 16 192 _ (T3.setTop (mkF m 122 #[.val (.int x0), .val (.int x1), .val (.int x2), .val (.int x3), .val (.int x4), .val (.int x5), .val (.int x6), .val (.int x7), .val (.int x8), .val (.int x9), .val (.int x10), .val (.int x11), .val (.int x12), .val (.int x13), .val (.ref c1), .val (.ref c2), .unset, .unset] []))
      exact w0_122 ⟨hx, hZ, hw, hby, hml, hown, hret, hlk, hnm⟩  _ _ _ x0 x1 x2 x3 x4 x5 x6 x7 x8 x9 x10 x11 x12 x13 c1 [(0 : Int32), (0 : Int32), (0 : Int32), (0 : Int32), (0 : Int32), (0 : Int32), (0 : Int32), (0 : Int32), (0 : Int32), (0 : Int32), (0 : Int32), (0 : Int32), (0 : Int32), (0 : Int32), (0 : Int32), (0 : Int32)] c2 (0 : Int32) c3_0 o3 _ hr X3 rfl N_3 O_3 K_3 A0_3 E1_3 F1_words_3 F1_length_3 Aq3_0 g_1 z_1 g_2 z_2 gq3_0 z_3_0 ne0_1_2 ne0_2_3 ne1_2_3
    · rw [if_neg hc102] at hr
      refine OwnOut.go (fun t k => XS.icmpNo X3.here hx rfl (hb hby at_102) rfl (XT.ii_lt_f hc102) k) ?_
      show OwnOut p e s below 16 192 _ (T3.setTop (mkF m 105 #[.val (.int x0), .val (.int x1), .val (.int x2), .val (.int x3), .val (.int x4), .val (.int x5), .val (.int x6), .val (.int x7), .val (.int x8), .val (.int x9), .val (.int x10), .val (.int x11), .val (.int x12), .val (.int x13), .val (.ref c1), .val (.ref c2), .unset, .unset] []))
      refine OwnOut.go (fun t k => XS.aload X3.here hx rfl (hb hby at_105) rfl rfl k) ?_
      show OwnOut p e s below 16 192 _ (T3.setTop (mkF m 107 #[.val (.int x0), .val (.int x1), .val (.int x2), .val (.int x3), .val (.int x4), .val (.int x5), .val (.int x6), .val (.int x7), .val (.int x8), .val (.int x9), .val (.int x10), .val (.int x11), .val (.int x12), .val (.int x13), .val (.ref c1), .val (.ref c2), .unset, .unset] [(.ref c2)]))
      refine OwnOut.go (fun t k => XS.iload X3.here hx rfl (hb hby at_107) rfl k) ?_
      show OwnOut p e s below 16 192 _ (T3.setTop (mkF m 109 #[.val (.int x0), .val (.int x1), .val (.int x2), .val (.int x3), .val (.int x4), .val (.int x5), .val (.int x6), .val (.int x7), .val (.int x8), .val (.int x9), .val (.int x10), .val (.int x11), .val (.int x12), .val (.int x13), .val (.ref c1), .val (.ref c2), .unset, .unset] [(.int x8), (.ref c2)]))
      refine OwnOut.go (fun t k => XT.bipushV X3.here hx rfl (24 : Int32) (hb hby at_109) rfl k) ?_
      show OwnOut p e s below 16 192 _ (T3.setTop (mkF m 111 #[.val (.int x0), .val (.int x1), .val (.int x2), .val (.int x3), .val (.int x4), .val (.int x5), .val (.int x6), .val (.int x7), .val (.int x8), .val (.int x9), .val (.int x10), .val (.int x11), .val (.int x12), .val (.int x13), .val (.ref c1), .val (.ref c2), .unset, .unset] [(.int (24 : Int32)), (.int x8), (.ref c2)]))
      obtain ⟨o30, ho30, hr⟩ := Option.bind_eq_some_iff.mp hr
      obtain ⟨r30, T30, L30, X30', hQ30, st30⟩ := callV (W := 0) (rm := rx3) X3 hx hZ (y := (⟨"com/example/sinogrid/sinogrid/BitBuffer", "append", "(II)V"⟩ : MethodName)) hown (hw _ (List.mem_of_getElem? (i := 14) rfl)) (hw _ (List.mem_of_getElem? (i := 15) rfl)) (hw _ (List.mem_of_getElem? (i := 17) rfl)) (hw _ (List.mem_of_getElem? (i := 16) rfl)) (hw _ (List.mem_of_getElem? (i := 4) rfl)) (hw _ (List.mem_of_getElem? (i := 18) rfl)) (by decide) (rm3 l Z a0 hw [] x8 (24 : Int32) c2 (0 : Int32) c3_0 o3 T3.heap n0 o30 ho30 O_3 E1_3 F1_words_3 F1_length_3 Aq3_0 g_2 gq3_0 ne1_2_3) (by decide) (by decide) (by decide) (by decide) rfl E1_3 (g := (mkF m 111 #[.val (.int x0), .val (.int x1), .val (.int x2), .val (.int x3), .val (.int x4), .val (.int x5), .val (.int x6), .val (.int x7), .val (.int x8), .val (.int x9), .val (.int x10), .val (.int x11), .val (.int x12), .val (.int x13), .val (.ref c1), .val (.ref c2), .unset, .unset] [(.int (24 : Int32)), (.int x8), (.ref c2)])) rfl (by rw [hml]; rfl) (argsL := [(.int x8), (.int (24 : Int32))]) (rest := []) (lenOf pd3 rfl) rfl (by show 2 * 0 + _ ≤ _; exact Nat.le_of_eq rfl) (hb hby at_111)
      obtain ⟨rfl, Nq30, Kq30, F1_words_30, F1_length_30, A2_30⟩ := hQ30
      have X30 : Stand p l e room_1 _ m args below meth c T30 _ 3 22 := X30'
      have A0_30 := A0_3.keep Kq30 (ninS ne0_1_2 (ninS ne0_2_3 nin0))
      have E1_30 := E1_3.keep Kq30
      have N_30 := Fr.app N_3 Nq30
      have O_30 := O_3.keep Kq30 (allS g_2 (allS gq3_0 all0))
      have K_30 := K_3.trans Kq30 (allS (Or.inr z_2) (allS (Or.inr z_3_0) all0))
      refine OwnOut.go (fun t k => st30 _ k) ?_
      show OwnOut p e s below 16 192 _ (T30.setTop (mkF m 114 #[.val (.int x0), .val (.int x1), .val (.int x2), .val (.int x3), .val (.int x4), .val (.int x5), .val (.int x6), .val (.int x7), .val (.int x8), .val (.int x9), .val (.int x10), .val (.int x11), .val (.int x12), .val (.int x13), .val (.ref c1), .val (.ref c2), .unset, .unset] []))
      refine OwnOut.go (fun t k => XS.aload X30.here hx rfl (hb hby at_114) rfl rfl k) ?_
      show OwnOut p e s below 16 192 _ (T30.setTop (mkF m 116 #[.val (.int x0), .val (.int x1), .val (.int x2), .val (.int x3), .val (.int x4), .val (.int x5), .val (.int x6), .val (.int x7), .val (.int x8), .val (.int x9), .val (.int x10), .val (.int x11), .val (.int x12), .val (.int x13), .val (.ref c1), .val (.ref c2), .unset, .unset] [(.ref c1)]))
      refine OwnOut.go (fun t k => XT.iconstV X30.here hx rfl (0 : Int32) (hb hby at_116) rfl k) ?_
      show OwnOut p e s below 16 192 _ (T30.setTop (mkF m 117 #[.val (.int x0), .val (.int x1), .val (.int x2), .val (.int x3), .val (.int x4), .val (.int x5), .val (.int x6), .val (.int x7), .val (.int x8), .val (.int x9), .val (.int x10), .val (.int x11), .val (.int x12), .val (.int x13), .val (.ref c1), .val (.ref c2), .unset, .unset] [(.int (0 : Int32)), (.ref c1)]))
      refine OwnOut.go (fun t k => XS.iload X30.here hx rfl (hb hby at_117) rfl k) ?_
      show OwnOut p e s below 16 192 _ (T30.setTop (mkF m 119 #[.val (.int x0), .val (.int x1), .val (.int x2), .val (.int x3), .val (.int x4), .val (.int x5), .val (.int x6), .val (.int x7), .val (.int x8), .val (.int x9), .val (.int x10), .val (.int x11), .val (.int x12), .val (.int x13), .val (.ref c1), .val (.ref c2), .unset, .unset] [(.int x8), (.int (0 : Int32)), (.ref c1)]))
      obtain ⟨o31, ho31, hr⟩ := Option.bind_eq_some_iff.mp hr
      obtain ⟨r31, T31, L31, X31', hQ31, st31⟩ := callQ (W := 0) (rm := rx6) X30 hx hZ (y := (⟨"com/example/sinogrid/sinogrid/BitBufferToCodewordsPinLaw", "put3", "([III)V"⟩ : MethodName)) hown (hw _ (List.mem_of_getElem? (i := 30) rfl)) (hw _ (List.mem_of_getElem? (i := 31) rfl)) (hw _ (List.mem_of_getElem? (i := 28) rfl)) (hw _ (List.mem_of_getElem? (i := 32) rfl)) (by decide) (rm6 l Z a0 hw [] (0 : Int32) x8 c1 [(0 : Int32), (0 : Int32), (0 : Int32), (0 : Int32), (0 : Int32), (0 : Int32), (0 : Int32), (0 : Int32), (0 : Int32), (0 : Int32), (0 : Int32), (0 : Int32), (0 : Int32), (0 : Int32), (0 : Int32), (0 : Int32)] T30.heap n0 o31 ho31 O_30 A0_30 g_1) (by decide) (by decide) (by decide) (by decide) rfl (g := (mkF m 119 #[.val (.int x0), .val (.int x1), .val (.int x2), .val (.int x3), .val (.int x4), .val (.int x5), .val (.int x6), .val (.int x7), .val (.int x8), .val (.int x9), .val (.int x10), .val (.int x11), .val (.int x12), .val (.int x13), .val (.ref c1), .val (.ref c2), .unset, .unset] [(.int x8), (.int (0 : Int32)), (.ref c1)])) rfl (by rw [hml]; rfl) (argsL := [(.ref c1), (.int (0 : Int32)), (.int x8)]) (rest := []) (lenOf pd6 rfl) rfl (by show 2 * 0 + _ ≤ _; exact Nat.le_of_eq rfl) (hb hby at_119)
      obtain ⟨rfl, Nq31, Kq31, A0_31⟩ := hQ31
      have X31 : Stand p l e room_1 _ m args below meth c T31 _ 3 22 := X31'
      have E1_31 := E1_30.keep Kq31
      have F1_words_31 := F1_words_30.keep Kq31 (ninS (Ne.symm ne0_1_2) nin0)
      have F1_length_31 := F1_length_30.keep Kq31 (ninS (Ne.symm ne0_1_2) nin0)
      have A2_31 := A2_30.keep Kq31 (ninS (Ne.symm ne0_2_3) nin0)
      have N_31 := Fr.app N_30 Nq31
      have O_31 := O_30.keep Kq31 (allS g_1 all0)
      have K_31 := K_30.trans Kq31 (allS (Or.inr z_1) all0)
      refine OwnOut.go (fun t k => st31 _ k) ?_
      show OwnOut p e s below 16 192 _ (T31.setTop (mkF m 122 #[.val (.int x0), .val (.int x1), .val (.int x2), .val (.int x3), .val (.int x4), .val (.int x5), .val (.int x6), .val (.int x7), .val (.int x8), .val (.int x9), .val (.int x10), .val (.int x11), .val (.int x12), .val (.int x13), .val (.ref c1), .val (.ref c2), .unset, .unset] []))
      exact w0_122 ⟨hx, hZ, hw, hby, hml, hown, hret, hlk, hnm⟩  _ _ _ x0 x1 x2 x3 x4 x5 x6 x7 x8 x9 x10 x11 x12 x13 c1 o31 c2 o30.1 c3_0 o30.2 _ hr X31 rfl N_31 O_31 K_31 A0_31 E1_31 F1_words_31 F1_length_31 A2_31 g_1 z_1 g_2 z_2 gq3_0 z_3_0 ne0_1_2 ne0_2_3 ne1_2_3
def f0_60 (x5 : Int32) (x6 : Int32) (x7 : Int32) (x8 : Int32) (x9 : Int32) (x10 : Int32) (y0 : Int32) : Option (Int32) := (f0_84 x5 x6 x8 x9 x10 y0 ((((3 : Int32) * x5) + ((x6 + (7 : Int32)) / (8 : Int32))) + x7))
set_option maxRecDepth 65536 in
set_option maxHeartbeats 40000000 in
theorem w0_60 {p : Program} {l : Launch} {e : Env} {s : State} {m : MethodId} {args : Array Value} {below : List Frame} {meth : Method} {c : Code} {Z : State} {a0 : Array Value} {h0 : Heap} {n0 : Nat} (C : Cx0 Z a0 p s m meth c) :
    ∀ (T : State) (locs : List Loc) (hA : Heap) (x0 : Int32) (x1 : Int32) (x2 : Int32) (x3 : Int32) (x4 : Int32) (x5 : Int32) (x6 : Int32) (x7 : Int32) (x8 : Int32) (x9 : Int32) (x10 : Int32) (y0 : Int32) (o : Int32), f0_60 x5 x6 x7 x8 x9 x10 y0 = some o → Stand p l e room_1 s m args below meth c T locs 0 0 → T.heap = hA → Fr n0 locs → Old Z n0 hA → Keep h0 hA [] →  OwnOut p e s below 16 192 (Q0 Z default default default default default h0 n0 o) (T.setTop (mkF m 60 #[.val (.int x0), .val (.int x1), .val (.int x2), .val (.int x3), .val (.int x4), .val (.int x5), .val (.int x6), .val (.int x7), .val (.int x8), .val (.int x9), .val (.int x10), .unset, .unset, .unset, .unset, .unset, .unset, .unset] [(.int y0)])) := by
    obtain ⟨hx, hZ, hw, hby, hml, hown, hret, hlk, hnm⟩ := C
    intro T locs hA x0 x1 x2 x3 x4 x5 x6 x7 x8 x9 x10 y0 o hr X0 e0 N0 O0 K0
    rw [f0_60] at hr
    refine OwnOut.go (fun t k => XS.istore X0.here hx rfl (hb hby at_60) rfl (l' := #[.val (.int x0), .val (.int x1), .val (.int x2), .val (.int x3), .val (.int x4), .val (.int x5), .val (.int x6), .val (.int x7), .val (.int x8), .val (.int x9), .val (.int x10), .val (.int y0), .unset, .unset, .unset, .unset, .unset, .unset]) rfl k) ?_
    show OwnOut p e s below 16 192 _ (T.setTop (mkF m 62 #[.val (.int x0), .val (.int x1), .val (.int x2), .val (.int x3), .val (.int x4), .val (.int x5), .val (.int x6), .val (.int x7), .val (.int x8), .val (.int x9), .val (.int x10), .val (.int y0), .unset, .unset, .unset, .unset, .unset, .unset] []))
    refine OwnOut.go (fun t k => XT.iconstV X0.here hx rfl (3 : Int32) (hb hby at_62) rfl k) ?_
    show OwnOut p e s below 16 192 _ (T.setTop (mkF m 63 #[.val (.int x0), .val (.int x1), .val (.int x2), .val (.int x3), .val (.int x4), .val (.int x5), .val (.int x6), .val (.int x7), .val (.int x8), .val (.int x9), .val (.int x10), .val (.int y0), .unset, .unset, .unset, .unset, .unset, .unset] [(.int (3 : Int32))]))
    refine OwnOut.go (fun t k => XS.iload X0.here hx rfl (hb hby at_63) rfl k) ?_
    show OwnOut p e s below 16 192 _ (T.setTop (mkF m 65 #[.val (.int x0), .val (.int x1), .val (.int x2), .val (.int x3), .val (.int x4), .val (.int x5), .val (.int x6), .val (.int x7), .val (.int x8), .val (.int x9), .val (.int x10), .val (.int y0), .unset, .unset, .unset, .unset, .unset, .unset] [(.int x5), (.int (3 : Int32))]))
    refine OwnOut.go (fun t k => XS.imul X0.here hx rfl (hb hby at_65) rfl k) ?_
    show OwnOut p e s below 16 192 _ (T.setTop (mkF m 66 #[.val (.int x0), .val (.int x1), .val (.int x2), .val (.int x3), .val (.int x4), .val (.int x5), .val (.int x6), .val (.int x7), .val (.int x8), .val (.int x9), .val (.int x10), .val (.int y0), .unset, .unset, .unset, .unset, .unset, .unset] [(.int ((3 : Int32) * x5))]))
    refine OwnOut.go (fun t k => XS.iload X0.here hx rfl (hb hby at_66) rfl k) ?_
    show OwnOut p e s below 16 192 _ (T.setTop (mkF m 68 #[.val (.int x0), .val (.int x1), .val (.int x2), .val (.int x3), .val (.int x4), .val (.int x5), .val (.int x6), .val (.int x7), .val (.int x8), .val (.int x9), .val (.int x10), .val (.int y0), .unset, .unset, .unset, .unset, .unset, .unset] [(.int x6), (.int ((3 : Int32) * x5))]))
    refine OwnOut.go (fun t k => XT.bipushV X0.here hx rfl (7 : Int32) (hb hby at_68) rfl k) ?_
    show OwnOut p e s below 16 192 _ (T.setTop (mkF m 70 #[.val (.int x0), .val (.int x1), .val (.int x2), .val (.int x3), .val (.int x4), .val (.int x5), .val (.int x6), .val (.int x7), .val (.int x8), .val (.int x9), .val (.int x10), .val (.int y0), .unset, .unset, .unset, .unset, .unset, .unset] [(.int (7 : Int32)), (.int x6), (.int ((3 : Int32) * x5))]))
    refine OwnOut.go (fun t k => XS.iadd X0.here hx rfl (hb hby at_70) rfl k) ?_
    show OwnOut p e s below 16 192 _ (T.setTop (mkF m 71 #[.val (.int x0), .val (.int x1), .val (.int x2), .val (.int x3), .val (.int x4), .val (.int x5), .val (.int x6), .val (.int x7), .val (.int x8), .val (.int x9), .val (.int x10), .val (.int y0), .unset, .unset, .unset, .unset, .unset, .unset] [(.int (x6 + (7 : Int32))), (.int ((3 : Int32) * x5))]))
    refine OwnOut.go (fun t k => XT.bipushV X0.here hx rfl (8 : Int32) (hb hby at_71) rfl k) ?_
    show OwnOut p e s below 16 192 _ (T.setTop (mkF m 73 #[.val (.int x0), .val (.int x1), .val (.int x2), .val (.int x3), .val (.int x4), .val (.int x5), .val (.int x6), .val (.int x7), .val (.int x8), .val (.int x9), .val (.int x10), .val (.int y0), .unset, .unset, .unset, .unset, .unset, .unset] [(.int (8 : Int32)), (.int (x6 + (7 : Int32))), (.int ((3 : Int32) * x5))]))
    refine OwnOut.go (fun t k => XS.idiv X0.here hx rfl (hb hby at_73) rfl (by decide) k) ?_
    show OwnOut p e s below 16 192 _ (T.setTop (mkF m 74 #[.val (.int x0), .val (.int x1), .val (.int x2), .val (.int x3), .val (.int x4), .val (.int x5), .val (.int x6), .val (.int x7), .val (.int x8), .val (.int x9), .val (.int x10), .val (.int y0), .unset, .unset, .unset, .unset, .unset, .unset] [(.int ((x6 + (7 : Int32)) / (8 : Int32))), (.int ((3 : Int32) * x5))]))
    refine OwnOut.go (fun t k => XS.iadd X0.here hx rfl (hb hby at_74) rfl k) ?_
    show OwnOut p e s below 16 192 _ (T.setTop (mkF m 75 #[.val (.int x0), .val (.int x1), .val (.int x2), .val (.int x3), .val (.int x4), .val (.int x5), .val (.int x6), .val (.int x7), .val (.int x8), .val (.int x9), .val (.int x10), .val (.int y0), .unset, .unset, .unset, .unset, .unset, .unset] [(.int (((3 : Int32) * x5) + ((x6 + (7 : Int32)) / (8 : Int32))))]))
    refine OwnOut.go (fun t k => XS.istore X0.here hx rfl (hb hby at_75) rfl (l' := #[.val (.int x0), .val (.int x1), .val (.int x2), .val (.int x3), .val (.int x4), .val (.int x5), .val (.int x6), .val (.int x7), .val (.int x8), .val (.int x9), .val (.int x10), .val (.int y0), .val (.int (((3 : Int32) * x5) + ((x6 + (7 : Int32)) / (8 : Int32)))), .unset, .unset, .unset, .unset, .unset]) rfl k) ?_
    show OwnOut p e s below 16 192 _ (T.setTop (mkF m 77 #[.val (.int x0), .val (.int x1), .val (.int x2), .val (.int x3), .val (.int x4), .val (.int x5), .val (.int x6), .val (.int x7), .val (.int x8), .val (.int x9), .val (.int x10), .val (.int y0), .val (.int (((3 : Int32) * x5) + ((x6 + (7 : Int32)) / (8 : Int32)))), .unset, .unset, .unset, .unset, .unset] []))
    refine OwnOut.go (fun t k => XS.iload X0.here hx rfl (hb hby at_77) rfl k) ?_
    show OwnOut p e s below 16 192 _ (T.setTop (mkF m 79 #[.val (.int x0), .val (.int x1), .val (.int x2), .val (.int x3), .val (.int x4), .val (.int x5), .val (.int x6), .val (.int x7), .val (.int x8), .val (.int x9), .val (.int x10), .val (.int y0), .val (.int (((3 : Int32) * x5) + ((x6 + (7 : Int32)) / (8 : Int32)))), .unset, .unset, .unset, .unset, .unset] [(.int (((3 : Int32) * x5) + ((x6 + (7 : Int32)) / (8 : Int32))))]))
    refine OwnOut.go (fun t k => XS.iload X0.here hx rfl (hb hby at_79) rfl k) ?_
    show OwnOut p e s below 16 192 _ (T.setTop (mkF m 81 #[.val (.int x0), .val (.int x1), .val (.int x2), .val (.int x3), .val (.int x4), .val (.int x5), .val (.int x6), .val (.int x7), .val (.int x8), .val (.int x9), .val (.int x10), .val (.int y0), .val (.int (((3 : Int32) * x5) + ((x6 + (7 : Int32)) / (8 : Int32)))), .unset, .unset, .unset, .unset, .unset] [(.int x7), (.int (((3 : Int32) * x5) + ((x6 + (7 : Int32)) / (8 : Int32))))]))
    refine OwnOut.go (fun t k => XS.iadd X0.here hx rfl (hb hby at_81) rfl k) ?_
    show OwnOut p e s below 16 192 _ (T.setTop (mkF m 82 #[.val (.int x0), .val (.int x1), .val (.int x2), .val (.int x3), .val (.int x4), .val (.int x5), .val (.int x6), .val (.int x7), .val (.int x8), .val (.int x9), .val (.int x10), .val (.int y0), .val (.int (((3 : Int32) * x5) + ((x6 + (7 : Int32)) / (8 : Int32)))), .unset, .unset, .unset, .unset, .unset] [(.int ((((3 : Int32) * x5) + ((x6 + (7 : Int32)) / (8 : Int32))) + x7))]))
    refine OwnOut.go (fun t k => XS.istore X0.here hx rfl (hb hby at_82) rfl (l' := #[.val (.int x0), .val (.int x1), .val (.int x2), .val (.int x3), .val (.int x4), .val (.int x5), .val (.int x6), .val (.int x7), .val (.int x8), .val (.int x9), .val (.int x10), .val (.int y0), .val (.int (((3 : Int32) * x5) + ((x6 + (7 : Int32)) / (8 : Int32)))), .val (.int ((((3 : Int32) * x5) + ((x6 + (7 : Int32)) / (8 : Int32))) + x7)), .unset, .unset, .unset, .unset]) rfl k) ?_
    show OwnOut p e s below 16 192 _ (T.setTop (mkF m 84 #[.val (.int x0), .val (.int x1), .val (.int x2), .val (.int x3), .val (.int x4), .val (.int x5), .val (.int x6), .val (.int x7), .val (.int x8), .val (.int x9), .val (.int x10), .val (.int y0), .val (.int (((3 : Int32) * x5) + ((x6 + (7 : Int32)) / (8 : Int32)))), .val (.int ((((3 : Int32) * x5) + ((x6 + (7 : Int32)) / (8 : Int32))) + x7)), .unset, .unset, .unset, .unset] []))
    exact w0_84 ⟨hx, hZ, hw, hby, hml, hown, hret, hlk, hnm⟩  _ _ _ x0 x1 x2 x3 x4 x5 x6 x7 x8 x9 x10 y0 (((3 : Int32) * x5) + ((x6 + (7 : Int32)) / (8 : Int32))) ((((3 : Int32) * x5) + ((x6 + (7 : Int32)) / (8 : Int32))) + x7) _ hr X0 e0 N0 O0 K0
def f0_24 (x0 : Int32) (x1 : Int32) (x2 : Int32) (x3 : Int32) (x5 : Int32) (x6 : Int32) (x7 : Int32) : Option (Int32) := (if x6 = (0 : Int32) then (f0_60 x5 x6 x7 (x0 &&& (16777215 : Int32)) (x1 &&& (16777215 : Int32)) (x2 &&& (16777215 : Int32)) (0 : Int32)) else (f0_60 x5 x6 x7 (x0 &&& (16777215 : Int32)) (x1 &&& (16777215 : Int32)) (x2 &&& (16777215 : Int32)) (x3 &&& ((((1 : Int64) <<< (x6 &&& 0x3f).toInt64) - (1 : Int64)).toInt32))))
set_option maxRecDepth 65536 in
set_option maxHeartbeats 40000000 in
theorem w0_24 {p : Program} {l : Launch} {e : Env} {s : State} {m : MethodId} {args : Array Value} {below : List Frame} {meth : Method} {c : Code} {Z : State} {a0 : Array Value} {h0 : Heap} {n0 : Nat} (C : Cx0 Z a0 p s m meth c) :
    ∀ (T : State) (locs : List Loc) (hA : Heap) (x0 : Int32) (x1 : Int32) (x2 : Int32) (x3 : Int32) (x4 : Int32) (x5 : Int32) (x6 : Int32) (x7 : Int32) (o : Int32), f0_24 x0 x1 x2 x3 x5 x6 x7 = some o → Stand p l e room_1 s m args below meth c T locs 0 0 → T.heap = hA → Fr n0 locs → Old Z n0 hA → Keep h0 hA [] →  OwnOut p e s below 16 192 (Q0 Z default default default default default h0 n0 o) (T.setTop (mkF m 24 #[.val (.int x0), .val (.int x1), .val (.int x2), .val (.int x3), .val (.int x4), .val (.int x5), .val (.int x6), .val (.int x7), .unset, .unset, .unset, .unset, .unset, .unset, .unset, .unset, .unset, .unset] [])) := by
    obtain ⟨hx, hZ, hw, hby, hml, hown, hret, hlk, hnm⟩ := C
    intro T locs hA x0 x1 x2 x3 x4 x5 x6 x7 o hr X0 e0 N0 O0 K0
    rw [f0_24] at hr
    refine OwnOut.go (fun t k => XS.iloadN X0.here hx rfl (hb hby at_24) rfl k) ?_
    show OwnOut p e s below 16 192 _ (T.setTop (mkF m 25 #[.val (.int x0), .val (.int x1), .val (.int x2), .val (.int x3), .val (.int x4), .val (.int x5), .val (.int x6), .val (.int x7), .unset, .unset, .unset, .unset, .unset, .unset, .unset, .unset, .unset, .unset] [(.int x0)]))
    refine OwnOut.go (fun t k => X0.ldcInt hx hown (mvT hZ (hw _ (List.mem_of_getElem? (i := 0) rfl))) (g := (mkF m 25 #[.val (.int x0), .val (.int x1), .val (.int x2), .val (.int x3), .val (.int x4), .val (.int x5), .val (.int x6), .val (.int x7), .unset, .unset, .unset, .unset, .unset, .unset, .unset, .unset, .unset, .unset] [(.int x0)])) rfl (hb hby at_25) _ k) ?_
    show OwnOut p e s below 16 192 _ (T.setTop (mkF m 27 #[.val (.int x0), .val (.int x1), .val (.int x2), .val (.int x3), .val (.int x4), .val (.int x5), .val (.int x6), .val (.int x7), .unset, .unset, .unset, .unset, .unset, .unset, .unset, .unset, .unset, .unset] [(.int (16777215 : Int32)), (.int x0)]))
    refine OwnOut.go (fun t k => XS.iand X0.here hx rfl (hb hby at_27) rfl k) ?_
    show OwnOut p e s below 16 192 _ (T.setTop (mkF m 28 #[.val (.int x0), .val (.int x1), .val (.int x2), .val (.int x3), .val (.int x4), .val (.int x5), .val (.int x6), .val (.int x7), .unset, .unset, .unset, .unset, .unset, .unset, .unset, .unset, .unset, .unset] [(.int (x0 &&& (16777215 : Int32)))]))
    refine OwnOut.go (fun t k => XS.istore X0.here hx rfl (hb hby at_28) rfl (l' := #[.val (.int x0), .val (.int x1), .val (.int x2), .val (.int x3), .val (.int x4), .val (.int x5), .val (.int x6), .val (.int x7), .val (.int (x0 &&& (16777215 : Int32))), .unset, .unset, .unset, .unset, .unset, .unset, .unset, .unset, .unset]) rfl k) ?_
    show OwnOut p e s below 16 192 _ (T.setTop (mkF m 30 #[.val (.int x0), .val (.int x1), .val (.int x2), .val (.int x3), .val (.int x4), .val (.int x5), .val (.int x6), .val (.int x7), .val (.int (x0 &&& (16777215 : Int32))), .unset, .unset, .unset, .unset, .unset, .unset, .unset, .unset, .unset] []))
    refine OwnOut.go (fun t k => XS.iloadN X0.here hx rfl (hb hby at_30) rfl k) ?_
    show OwnOut p e s below 16 192 _ (T.setTop (mkF m 31 #[.val (.int x0), .val (.int x1), .val (.int x2), .val (.int x3), .val (.int x4), .val (.int x5), .val (.int x6), .val (.int x7), .val (.int (x0 &&& (16777215 : Int32))), .unset, .unset, .unset, .unset, .unset, .unset, .unset, .unset, .unset] [(.int x1)]))
    refine OwnOut.go (fun t k => X0.ldcInt hx hown (mvT hZ (hw _ (List.mem_of_getElem? (i := 0) rfl))) (g := (mkF m 31 #[.val (.int x0), .val (.int x1), .val (.int x2), .val (.int x3), .val (.int x4), .val (.int x5), .val (.int x6), .val (.int x7), .val (.int (x0 &&& (16777215 : Int32))), .unset, .unset, .unset, .unset, .unset, .unset, .unset, .unset, .unset] [(.int x1)])) rfl (hb hby at_31) _ k) ?_
    show OwnOut p e s below 16 192 _ (T.setTop (mkF m 33 #[.val (.int x0), .val (.int x1), .val (.int x2), .val (.int x3), .val (.int x4), .val (.int x5), .val (.int x6), .val (.int x7), .val (.int (x0 &&& (16777215 : Int32))), .unset, .unset, .unset, .unset, .unset, .unset, .unset, .unset, .unset] [(.int (16777215 : Int32)), (.int x1)]))
    refine OwnOut.go (fun t k => XS.iand X0.here hx rfl (hb hby at_33) rfl k) ?_
    show OwnOut p e s below 16 192 _ (T.setTop (mkF m 34 #[.val (.int x0), .val (.int x1), .val (.int x2), .val (.int x3), .val (.int x4), .val (.int x5), .val (.int x6), .val (.int x7), .val (.int (x0 &&& (16777215 : Int32))), .unset, .unset, .unset, .unset, .unset, .unset, .unset, .unset, .unset] [(.int (x1 &&& (16777215 : Int32)))]))
    refine OwnOut.go (fun t k => XS.istore X0.here hx rfl (hb hby at_34) rfl (l' := #[.val (.int x0), .val (.int x1), .val (.int x2), .val (.int x3), .val (.int x4), .val (.int x5), .val (.int x6), .val (.int x7), .val (.int (x0 &&& (16777215 : Int32))), .val (.int (x1 &&& (16777215 : Int32))), .unset, .unset, .unset, .unset, .unset, .unset, .unset, .unset]) rfl k) ?_
    show OwnOut p e s below 16 192 _ (T.setTop (mkF m 36 #[.val (.int x0), .val (.int x1), .val (.int x2), .val (.int x3), .val (.int x4), .val (.int x5), .val (.int x6), .val (.int x7), .val (.int (x0 &&& (16777215 : Int32))), .val (.int (x1 &&& (16777215 : Int32))), .unset, .unset, .unset, .unset, .unset, .unset, .unset, .unset] []))
    refine OwnOut.go (fun t k => XS.iloadN X0.here hx rfl (hb hby at_36) rfl k) ?_
    show OwnOut p e s below 16 192 _ (T.setTop (mkF m 37 #[.val (.int x0), .val (.int x1), .val (.int x2), .val (.int x3), .val (.int x4), .val (.int x5), .val (.int x6), .val (.int x7), .val (.int (x0 &&& (16777215 : Int32))), .val (.int (x1 &&& (16777215 : Int32))), .unset, .unset, .unset, .unset, .unset, .unset, .unset, .unset] [(.int x2)]))
    refine OwnOut.go (fun t k => X0.ldcInt hx hown (mvT hZ (hw _ (List.mem_of_getElem? (i := 0) rfl))) (g := (mkF m 37 #[.val (.int x0), .val (.int x1), .val (.int x2), .val (.int x3), .val (.int x4), .val (.int x5), .val (.int x6), .val (.int x7), .val (.int (x0 &&& (16777215 : Int32))), .val (.int (x1 &&& (16777215 : Int32))), .unset, .unset, .unset, .unset, .unset, .unset, .unset, .unset] [(.int x2)])) rfl (hb hby at_37) _ k) ?_
    show OwnOut p e s below 16 192 _ (T.setTop (mkF m 39 #[.val (.int x0), .val (.int x1), .val (.int x2), .val (.int x3), .val (.int x4), .val (.int x5), .val (.int x6), .val (.int x7), .val (.int (x0 &&& (16777215 : Int32))), .val (.int (x1 &&& (16777215 : Int32))), .unset, .unset, .unset, .unset, .unset, .unset, .unset, .unset] [(.int (16777215 : Int32)), (.int x2)]))
    refine OwnOut.go (fun t k => XS.iand X0.here hx rfl (hb hby at_39) rfl k) ?_
    show OwnOut p e s below 16 192 _ (T.setTop (mkF m 40 #[.val (.int x0), .val (.int x1), .val (.int x2), .val (.int x3), .val (.int x4), .val (.int x5), .val (.int x6), .val (.int x7), .val (.int (x0 &&& (16777215 : Int32))), .val (.int (x1 &&& (16777215 : Int32))), .unset, .unset, .unset, .unset, .unset, .unset, .unset, .unset] [(.int (x2 &&& (16777215 : Int32)))]))
    refine OwnOut.go (fun t k => XS.istore X0.here hx rfl (hb hby at_40) rfl (l' := #[.val (.int x0), .val (.int x1), .val (.int x2), .val (.int x3), .val (.int x4), .val (.int x5), .val (.int x6), .val (.int x7), .val (.int (x0 &&& (16777215 : Int32))), .val (.int (x1 &&& (16777215 : Int32))), .val (.int (x2 &&& (16777215 : Int32))), .unset, .unset, .unset, .unset, .unset, .unset, .unset]) rfl k) ?_
    show OwnOut p e s below 16 192 _ (T.setTop (mkF m 42 #[.val (.int x0), .val (.int x1), .val (.int x2), .val (.int x3), .val (.int x4), .val (.int x5), .val (.int x6), .val (.int x7), .val (.int (x0 &&& (16777215 : Int32))), .val (.int (x1 &&& (16777215 : Int32))), .val (.int (x2 &&& (16777215 : Int32))), .unset, .unset, .unset, .unset, .unset, .unset, .unset] []))
    refine OwnOut.go (fun t k => XS.iload X0.here hx rfl (hb hby at_42) rfl k) ?_
    show OwnOut p e s below 16 192 _ (T.setTop (mkF m 44 #[.val (.int x0), .val (.int x1), .val (.int x2), .val (.int x3), .val (.int x4), .val (.int x5), .val (.int x6), .val (.int x7), .val (.int (x0 &&& (16777215 : Int32))), .val (.int (x1 &&& (16777215 : Int32))), .val (.int (x2 &&& (16777215 : Int32))), .unset, .unset, .unset, .unset, .unset, .unset, .unset] [(.int x6)]))
    by_cases hc44 : x6 = (0 : Int32)
    · rw [if_pos hc44] at hr
      refine OwnOut.go (fun t k => XS.ifNo X0.here hx rfl (hb hby at_44) rfl (XT.i0_ne_f hc44) k) ?_
      show OwnOut p e s below 16 192 _ (T.setTop (mkF m 47 #[.val (.int x0), .val (.int x1), .val (.int x2), .val (.int x3), .val (.int x4), .val (.int x5), .val (.int x6), .val (.int x7), .val (.int (x0 &&& (16777215 : Int32))), .val (.int (x1 &&& (16777215 : Int32))), .val (.int (x2 &&& (16777215 : Int32))), .unset, .unset, .unset, .unset, .unset, .unset, .unset] []))
      refine OwnOut.go (fun t k => XT.iconstV X0.here hx rfl (0 : Int32) (hb hby at_47) rfl k) ?_
      show OwnOut p e s below 16 192 _ (T.setTop (mkF m 48 #[.val (.int x0), .val (.int x1), .val (.int x2), .val (.int x3), .val (.int x4), .val (.int x5), .val (.int x6), .val (.int x7), .val (.int (x0 &&& (16777215 : Int32))), .val (.int (x1 &&& (16777215 : Int32))), .val (.int (x2 &&& (16777215 : Int32))), .unset, .unset, .unset, .unset, .unset, .unset, .unset] [(.int (0 : Int32))]))
      refine OwnOut.go (fun t k => XS.goto X0.here hx rfl (pc0 := 48) (pc' := 60) rfl (hb hby at_48) (by decide) (by decide) k) ?_
      show OwnOut p e s below 16 192 _ (T.setTop (mkF m 60 #[.val (.int x0), .val (.int x1), .val (.int x2), .val (.int x3), .val (.int x4), .val (.int x5), .val (.int x6), .val (.int x7), .val (.int (x0 &&& (16777215 : Int32))), .val (.int (x1 &&& (16777215 : Int32))), .val (.int (x2 &&& (16777215 : Int32))), .unset, .unset, .unset, .unset, .unset, .unset, .unset] [(.int (0 : Int32))]))
      exact w0_60 ⟨hx, hZ, hw, hby, hml, hown, hret, hlk, hnm⟩  _ _ _ x0 x1 x2 x3 x4 x5 x6 x7 (x0 &&& (16777215 : Int32)) (x1 &&& (16777215 : Int32)) (x2 &&& (16777215 : Int32)) (0 : Int32) _ hr X0 e0 N0 O0 K0
    · rw [if_neg hc44] at hr
      refine OwnOut.go (fun t k => XS.ifYes X0.here hx rfl (pc0 := 44) (pc' := 51) rfl (hb hby at_44) rfl (XT.i0_ne_t hc44) (by decide) (by decide) k) ?_
      show OwnOut p e s below 16 192 _ (T.setTop (mkF m 51 #[.val (.int x0), .val (.int x1), .val (.int x2), .val (.int x3), .val (.int x4), .val (.int x5), .val (.int x6), .val (.int x7), .val (.int (x0 &&& (16777215 : Int32))), .val (.int (x1 &&& (16777215 : Int32))), .val (.int (x2 &&& (16777215 : Int32))), .unset, .unset, .unset, .unset, .unset, .unset, .unset] []))
      refine OwnOut.go (fun t k => XS.iloadN X0.here hx rfl (hb hby at_51) rfl k) ?_
      show OwnOut p e s below 16 192 _ (T.setTop (mkF m 52 #[.val (.int x0), .val (.int x1), .val (.int x2), .val (.int x3), .val (.int x4), .val (.int x5), .val (.int x6), .val (.int x7), .val (.int (x0 &&& (16777215 : Int32))), .val (.int (x1 &&& (16777215 : Int32))), .val (.int (x2 &&& (16777215 : Int32))), .unset, .unset, .unset, .unset, .unset, .unset, .unset] [(.int x3)]))
      refine OwnOut.go (fun t k => XT.lconstV X0.here hx rfl (1 : Int64) (hb hby at_52) rfl k) ?_
      show OwnOut p e s below 16 192 _ (T.setTop (mkF m 53 #[.val (.int x0), .val (.int x1), .val (.int x2), .val (.int x3), .val (.int x4), .val (.int x5), .val (.int x6), .val (.int x7), .val (.int (x0 &&& (16777215 : Int32))), .val (.int (x1 &&& (16777215 : Int32))), .val (.int (x2 &&& (16777215 : Int32))), .unset, .unset, .unset, .unset, .unset, .unset, .unset] [(.long (1 : Int64)), (.int x3)]))
      refine OwnOut.go (fun t k => XS.iload X0.here hx rfl (hb hby at_53) rfl k) ?_
      show OwnOut p e s below 16 192 _ (T.setTop (mkF m 55 #[.val (.int x0), .val (.int x1), .val (.int x2), .val (.int x3), .val (.int x4), .val (.int x5), .val (.int x6), .val (.int x7), .val (.int (x0 &&& (16777215 : Int32))), .val (.int (x1 &&& (16777215 : Int32))), .val (.int (x2 &&& (16777215 : Int32))), .unset, .unset, .unset, .unset, .unset, .unset, .unset] [(.int x6), (.long (1 : Int64)), (.int x3)]))
      refine OwnOut.go (fun t k => XS.lshl X0.here hx rfl (hb hby at_55) rfl k) ?_
      show OwnOut p e s below 16 192 _ (T.setTop (mkF m 56 #[.val (.int x0), .val (.int x1), .val (.int x2), .val (.int x3), .val (.int x4), .val (.int x5), .val (.int x6), .val (.int x7), .val (.int (x0 &&& (16777215 : Int32))), .val (.int (x1 &&& (16777215 : Int32))), .val (.int (x2 &&& (16777215 : Int32))), .unset, .unset, .unset, .unset, .unset, .unset, .unset] [(.long ((1 : Int64) <<< (x6 &&& 0x3f).toInt64)), (.int x3)]))
      refine OwnOut.go (fun t k => XT.lconstV X0.here hx rfl (1 : Int64) (hb hby at_56) rfl k) ?_
      show OwnOut p e s below 16 192 _ (T.setTop (mkF m 57 #[.val (.int x0), .val (.int x1), .val (.int x2), .val (.int x3), .val (.int x4), .val (.int x5), .val (.int x6), .val (.int x7), .val (.int (x0 &&& (16777215 : Int32))), .val (.int (x1 &&& (16777215 : Int32))), .val (.int (x2 &&& (16777215 : Int32))), .unset, .unset, .unset, .unset, .unset, .unset, .unset] [(.long (1 : Int64)), (.long ((1 : Int64) <<< (x6 &&& 0x3f).toInt64)), (.int x3)]))
      refine OwnOut.go (fun t k => XS.lsub X0.here hx rfl (hb hby at_57) rfl k) ?_
      show OwnOut p e s below 16 192 _ (T.setTop (mkF m 58 #[.val (.int x0), .val (.int x1), .val (.int x2), .val (.int x3), .val (.int x4), .val (.int x5), .val (.int x6), .val (.int x7), .val (.int (x0 &&& (16777215 : Int32))), .val (.int (x1 &&& (16777215 : Int32))), .val (.int (x2 &&& (16777215 : Int32))), .unset, .unset, .unset, .unset, .unset, .unset, .unset] [(.long (((1 : Int64) <<< (x6 &&& 0x3f).toInt64) - (1 : Int64))), (.int x3)]))
      refine OwnOut.go (fun t k => XS.l2i X0.here hx rfl (hb hby at_58) rfl k) ?_
      show OwnOut p e s below 16 192 _ (T.setTop (mkF m 59 #[.val (.int x0), .val (.int x1), .val (.int x2), .val (.int x3), .val (.int x4), .val (.int x5), .val (.int x6), .val (.int x7), .val (.int (x0 &&& (16777215 : Int32))), .val (.int (x1 &&& (16777215 : Int32))), .val (.int (x2 &&& (16777215 : Int32))), .unset, .unset, .unset, .unset, .unset, .unset, .unset] [(.int ((((1 : Int64) <<< (x6 &&& 0x3f).toInt64) - (1 : Int64)).toInt32)), (.int x3)]))
      refine OwnOut.go (fun t k => XS.iand X0.here hx rfl (hb hby at_59) rfl k) ?_
      show OwnOut p e s below 16 192 _ (T.setTop (mkF m 60 #[.val (.int x0), .val (.int x1), .val (.int x2), .val (.int x3), .val (.int x4), .val (.int x5), .val (.int x6), .val (.int x7), .val (.int (x0 &&& (16777215 : Int32))), .val (.int (x1 &&& (16777215 : Int32))), .val (.int (x2 &&& (16777215 : Int32))), .unset, .unset, .unset, .unset, .unset, .unset, .unset] [(.int (x3 &&& ((((1 : Int64) <<< (x6 &&& 0x3f).toInt64) - (1 : Int64)).toInt32)))]))
      exact w0_60 ⟨hx, hZ, hw, hby, hml, hown, hret, hlk, hnm⟩  _ _ _ x0 x1 x2 x3 x4 x5 x6 x7 (x0 &&& (16777215 : Int32)) (x1 &&& (16777215 : Int32)) (x2 &&& (16777215 : Int32)) (x3 &&& ((((1 : Int64) <<< (x6 &&& 0x3f).toInt64) - (1 : Int64)).toInt32)) _ hr X0 e0 N0 O0 K0
def f0_15 (x0 : Int32) (x1 : Int32) (x2 : Int32) (x3 : Int32) (x4 : Int32) (x5 : Int32) (x6 : Int32) : Option (Int32) := (f0_24 x0 x1 x2 x3 x5 x6 (((x4.toUInt32 >>> ((7 : Int32) &&& 31).toUInt32).toInt32) &&& (3 : Int32)))
set_option maxRecDepth 65536 in
set_option maxHeartbeats 40000000 in
theorem w0_15 {p : Program} {l : Launch} {e : Env} {s : State} {m : MethodId} {args : Array Value} {below : List Frame} {meth : Method} {c : Code} {Z : State} {a0 : Array Value} {h0 : Heap} {n0 : Nat} (C : Cx0 Z a0 p s m meth c) :
    ∀ (T : State) (locs : List Loc) (hA : Heap) (x0 : Int32) (x1 : Int32) (x2 : Int32) (x3 : Int32) (x4 : Int32) (x5 : Int32) (x6 : Int32) (o : Int32), f0_15 x0 x1 x2 x3 x4 x5 x6 = some o → Stand p l e room_1 s m args below meth c T locs 0 0 → T.heap = hA → Fr n0 locs → Old Z n0 hA → Keep h0 hA [] →  OwnOut p e s below 16 192 (Q0 Z default default default default default h0 n0 o) (T.setTop (mkF m 15 #[.val (.int x0), .val (.int x1), .val (.int x2), .val (.int x3), .val (.int x4), .val (.int x5), .val (.int x6), .unset, .unset, .unset, .unset, .unset, .unset, .unset, .unset, .unset, .unset, .unset] [])) := by
    obtain ⟨hx, hZ, hw, hby, hml, hown, hret, hlk, hnm⟩ := C
    intro T locs hA x0 x1 x2 x3 x4 x5 x6 o hr X0 e0 N0 O0 K0
    rw [f0_15] at hr
    refine OwnOut.go (fun t k => XS.iload X0.here hx rfl (hb hby at_15) rfl k) ?_
    show OwnOut p e s below 16 192 _ (T.setTop (mkF m 17 #[.val (.int x0), .val (.int x1), .val (.int x2), .val (.int x3), .val (.int x4), .val (.int x5), .val (.int x6), .unset, .unset, .unset, .unset, .unset, .unset, .unset, .unset, .unset, .unset, .unset] [(.int x4)]))
    refine OwnOut.go (fun t k => XT.bipushV X0.here hx rfl (7 : Int32) (hb hby at_17) rfl k) ?_
    show OwnOut p e s below 16 192 _ (T.setTop (mkF m 19 #[.val (.int x0), .val (.int x1), .val (.int x2), .val (.int x3), .val (.int x4), .val (.int x5), .val (.int x6), .unset, .unset, .unset, .unset, .unset, .unset, .unset, .unset, .unset, .unset, .unset] [(.int (7 : Int32)), (.int x4)]))
    refine OwnOut.go (fun t k => XS.iushr X0.here hx rfl (hb hby at_19) rfl k) ?_
    show OwnOut p e s below 16 192 _ (T.setTop (mkF m 20 #[.val (.int x0), .val (.int x1), .val (.int x2), .val (.int x3), .val (.int x4), .val (.int x5), .val (.int x6), .unset, .unset, .unset, .unset, .unset, .unset, .unset, .unset, .unset, .unset, .unset] [(.int ((x4.toUInt32 >>> ((7 : Int32) &&& 31).toUInt32).toInt32))]))
    refine OwnOut.go (fun t k => XT.iconstV X0.here hx rfl (3 : Int32) (hb hby at_20) rfl k) ?_
    show OwnOut p e s below 16 192 _ (T.setTop (mkF m 21 #[.val (.int x0), .val (.int x1), .val (.int x2), .val (.int x3), .val (.int x4), .val (.int x5), .val (.int x6), .unset, .unset, .unset, .unset, .unset, .unset, .unset, .unset, .unset, .unset, .unset] [(.int (3 : Int32)), (.int ((x4.toUInt32 >>> ((7 : Int32) &&& 31).toUInt32).toInt32))]))
    refine OwnOut.go (fun t k => XS.iand X0.here hx rfl (hb hby at_21) rfl k) ?_
    show OwnOut p e s below 16 192 _ (T.setTop (mkF m 22 #[.val (.int x0), .val (.int x1), .val (.int x2), .val (.int x3), .val (.int x4), .val (.int x5), .val (.int x6), .unset, .unset, .unset, .unset, .unset, .unset, .unset, .unset, .unset, .unset, .unset] [(.int (((x4.toUInt32 >>> ((7 : Int32) &&& 31).toUInt32).toInt32) &&& (3 : Int32)))]))
    refine OwnOut.go (fun t k => XS.istore X0.here hx rfl (hb hby at_22) rfl (l' := #[.val (.int x0), .val (.int x1), .val (.int x2), .val (.int x3), .val (.int x4), .val (.int x5), .val (.int x6), .val (.int (((x4.toUInt32 >>> ((7 : Int32) &&& 31).toUInt32).toInt32) &&& (3 : Int32))), .unset, .unset, .unset, .unset, .unset, .unset, .unset, .unset, .unset, .unset]) rfl k) ?_
    show OwnOut p e s below 16 192 _ (T.setTop (mkF m 24 #[.val (.int x0), .val (.int x1), .val (.int x2), .val (.int x3), .val (.int x4), .val (.int x5), .val (.int x6), .val (.int (((x4.toUInt32 >>> ((7 : Int32) &&& 31).toUInt32).toInt32) &&& (3 : Int32))), .unset, .unset, .unset, .unset, .unset, .unset, .unset, .unset, .unset, .unset] []))
    exact w0_24 ⟨hx, hZ, hw, hby, hml, hown, hret, hlk, hnm⟩  _ _ _ x0 x1 x2 x3 x4 x5 x6 (((x4.toUInt32 >>> ((7 : Int32) &&& 31).toUInt32).toInt32) &&& (3 : Int32)) _ hr X0 e0 N0 O0 K0
def f0 (x0 : Int32) (x1 : Int32) (x2 : Int32) (x3 : Int32) (x4 : Int32) : Option (Int32) := (f0_15 x0 x1 x2 x3 x4 (x4 &&& (3 : Int32)) (((x4.toUInt32 >>> ((2 : Int32) &&& 31).toUInt32).toInt32) &&& (31 : Int32)))
set_option maxRecDepth 65536 in
set_option maxHeartbeats 40000000 in
theorem w0_0 {p : Program} {l : Launch} {e : Env} {s : State} {m : MethodId} {args : Array Value} {below : List Frame} {meth : Method} {c : Code} {Z : State} {a0 : Array Value} {h0 : Heap} {n0 : Nat} (C : Cx0 Z a0 p s m meth c) :
    ∀ (T : State) (locs : List Loc) (hA : Heap) (x0 : Int32) (x1 : Int32) (x2 : Int32) (x3 : Int32) (x4 : Int32) (o : Int32), f0 x0 x1 x2 x3 x4 = some o → Stand p l e room_1 s m args below meth c T locs 0 0 → T.heap = hA → Fr n0 locs → Old Z n0 hA → Keep h0 hA [] →  OwnOut p e s below 16 192 (Q0 Z default default default default default h0 n0 o) (T.setTop (mkF m 0 #[.val (.int x0), .val (.int x1), .val (.int x2), .val (.int x3), .val (.int x4), .unset, .unset, .unset, .unset, .unset, .unset, .unset, .unset, .unset, .unset, .unset, .unset, .unset] [])) := by
    obtain ⟨hx, hZ, hw, hby, hml, hown, hret, hlk, hnm⟩ := C
    intro T locs hA x0 x1 x2 x3 x4 o hr X0 e0 N0 O0 K0
    rw [f0] at hr
    refine OwnOut.go (fun t k => XS.iload X0.here hx rfl (hb hby at_0) rfl k) ?_
    show OwnOut p e s below 16 192 _ (T.setTop (mkF m 2 #[.val (.int x0), .val (.int x1), .val (.int x2), .val (.int x3), .val (.int x4), .unset, .unset, .unset, .unset, .unset, .unset, .unset, .unset, .unset, .unset, .unset, .unset, .unset] [(.int x4)]))
    refine OwnOut.go (fun t k => XT.iconstV X0.here hx rfl (3 : Int32) (hb hby at_2) rfl k) ?_
    show OwnOut p e s below 16 192 _ (T.setTop (mkF m 3 #[.val (.int x0), .val (.int x1), .val (.int x2), .val (.int x3), .val (.int x4), .unset, .unset, .unset, .unset, .unset, .unset, .unset, .unset, .unset, .unset, .unset, .unset, .unset] [(.int (3 : Int32)), (.int x4)]))
    refine OwnOut.go (fun t k => XS.iand X0.here hx rfl (hb hby at_3) rfl k) ?_
    show OwnOut p e s below 16 192 _ (T.setTop (mkF m 4 #[.val (.int x0), .val (.int x1), .val (.int x2), .val (.int x3), .val (.int x4), .unset, .unset, .unset, .unset, .unset, .unset, .unset, .unset, .unset, .unset, .unset, .unset, .unset] [(.int (x4 &&& (3 : Int32)))]))
    refine OwnOut.go (fun t k => XS.istore X0.here hx rfl (hb hby at_4) rfl (l' := #[.val (.int x0), .val (.int x1), .val (.int x2), .val (.int x3), .val (.int x4), .val (.int (x4 &&& (3 : Int32))), .unset, .unset, .unset, .unset, .unset, .unset, .unset, .unset, .unset, .unset, .unset, .unset]) rfl k) ?_
    show OwnOut p e s below 16 192 _ (T.setTop (mkF m 6 #[.val (.int x0), .val (.int x1), .val (.int x2), .val (.int x3), .val (.int x4), .val (.int (x4 &&& (3 : Int32))), .unset, .unset, .unset, .unset, .unset, .unset, .unset, .unset, .unset, .unset, .unset, .unset] []))
    refine OwnOut.go (fun t k => XS.iload X0.here hx rfl (hb hby at_6) rfl k) ?_
    show OwnOut p e s below 16 192 _ (T.setTop (mkF m 8 #[.val (.int x0), .val (.int x1), .val (.int x2), .val (.int x3), .val (.int x4), .val (.int (x4 &&& (3 : Int32))), .unset, .unset, .unset, .unset, .unset, .unset, .unset, .unset, .unset, .unset, .unset, .unset] [(.int x4)]))
    refine OwnOut.go (fun t k => XT.iconstV X0.here hx rfl (2 : Int32) (hb hby at_8) rfl k) ?_
    show OwnOut p e s below 16 192 _ (T.setTop (mkF m 9 #[.val (.int x0), .val (.int x1), .val (.int x2), .val (.int x3), .val (.int x4), .val (.int (x4 &&& (3 : Int32))), .unset, .unset, .unset, .unset, .unset, .unset, .unset, .unset, .unset, .unset, .unset, .unset] [(.int (2 : Int32)), (.int x4)]))
    refine OwnOut.go (fun t k => XS.iushr X0.here hx rfl (hb hby at_9) rfl k) ?_
    show OwnOut p e s below 16 192 _ (T.setTop (mkF m 10 #[.val (.int x0), .val (.int x1), .val (.int x2), .val (.int x3), .val (.int x4), .val (.int (x4 &&& (3 : Int32))), .unset, .unset, .unset, .unset, .unset, .unset, .unset, .unset, .unset, .unset, .unset, .unset] [(.int ((x4.toUInt32 >>> ((2 : Int32) &&& 31).toUInt32).toInt32))]))
    refine OwnOut.go (fun t k => XT.bipushV X0.here hx rfl (31 : Int32) (hb hby at_10) rfl k) ?_
    show OwnOut p e s below 16 192 _ (T.setTop (mkF m 12 #[.val (.int x0), .val (.int x1), .val (.int x2), .val (.int x3), .val (.int x4), .val (.int (x4 &&& (3 : Int32))), .unset, .unset, .unset, .unset, .unset, .unset, .unset, .unset, .unset, .unset, .unset, .unset] [(.int (31 : Int32)), (.int ((x4.toUInt32 >>> ((2 : Int32) &&& 31).toUInt32).toInt32))]))
    refine OwnOut.go (fun t k => XS.iand X0.here hx rfl (hb hby at_12) rfl k) ?_
    show OwnOut p e s below 16 192 _ (T.setTop (mkF m 13 #[.val (.int x0), .val (.int x1), .val (.int x2), .val (.int x3), .val (.int x4), .val (.int (x4 &&& (3 : Int32))), .unset, .unset, .unset, .unset, .unset, .unset, .unset, .unset, .unset, .unset, .unset, .unset] [(.int (((x4.toUInt32 >>> ((2 : Int32) &&& 31).toUInt32).toInt32) &&& (31 : Int32)))]))
    refine OwnOut.go (fun t k => XS.istore X0.here hx rfl (hb hby at_13) rfl (l' := #[.val (.int x0), .val (.int x1), .val (.int x2), .val (.int x3), .val (.int x4), .val (.int (x4 &&& (3 : Int32))), .val (.int (((x4.toUInt32 >>> ((2 : Int32) &&& 31).toUInt32).toInt32) &&& (31 : Int32))), .unset, .unset, .unset, .unset, .unset, .unset, .unset, .unset, .unset, .unset, .unset]) rfl k) ?_
    show OwnOut p e s below 16 192 _ (T.setTop (mkF m 15 #[.val (.int x0), .val (.int x1), .val (.int x2), .val (.int x3), .val (.int x4), .val (.int (x4 &&& (3 : Int32))), .val (.int (((x4.toUInt32 >>> ((2 : Int32) &&& 31).toUInt32).toInt32) &&& (31 : Int32))), .unset, .unset, .unset, .unset, .unset, .unset, .unset, .unset, .unset, .unset, .unset] []))
    exact w0_15 ⟨hx, hZ, hw, hby, hml, hown, hret, hlk, hnm⟩  _ _ _ x0 x1 x2 x3 x4 (x4 &&& (3 : Int32)) (((x4.toUInt32 >>> ((2 : Int32) &&& 31).toUInt32).toInt32) &&& (31 : Int32)) _ hr X0 e0 N0 O0 K0
set_option maxRecDepth 65536 in
set_option maxHeartbeats 40000000 in
theorem rm0 (l : Launch) (Z : State) (a0 : Array Value) (hw : ∀ d ∈ tables_1, d.before a0 Z = true) (ws : List Jvm.Cond) (x0 : Int32) (x1 : Int32) (x2 : Int32) (x3 : Int32) (x4 : Int32) (h0 : Heap) (n0 : Nat) (o : Int32) (hr : f0 x0 x1 x2 x3 x4 = some o) (O0 : Old Z n0 h0) :
    MetFree l x (head1 (Jvm.Cond.code x code maxLocals ret :: ws) room_1) (fun a U => a = #[(.int x0), (.int x1), (.int x2), (.int x3), (.int x4)] ∧ Z.Warmed39 U.vm ∧ U.heap = h0) (fun _ _ _ _ _ => True) (fun _ U o' U' => ∃ v L, o' = .returned v ∧ Q0 Z x0 x1 x2 x3 x4 h0 n0 o v U'.heap L ∧ FrameEnd U o' U' L 16 192) := by
  refine MetFree.of_bodySF (plainFor_of_name pn0) hisR ?_
  intro p e s m args below meth c s₁ Bd hml0 hP hK
  obtain ⟨rfl, hZ, hh⟩ := hP
  have X0 : Stand p l e room_1 s m #[(.int x0), (.int x1), (.int x2), (.int x3), (.int x4)] below meth c s₁ [] 0 0 := Stand.of_body Bd
  have e0 : s₁.heap = h0 := by rw [← hh, Bd.state]; rfl
  have hfc := findClass_of_methodNamed Bd.named
  exact OwnOut.at (ef0 m x0 x1 x2 x3 x4) (w0_0 ⟨Bd.exec, hZ, hw, Bd.bytes, hml0, hfc, Bd.returns, Bd.notSynchronized, (name_of_methodNamed Bd.named Bd.method).1⟩ _ _ _ x0 x1 x2 x3 x4 o hr X0 e0 (Fr.nil n0) O0 (Keep.refl _ _) )
abbrev own_n (k : Nat) : Int32 := Int32.ofNat k
theorem own_is (x : Int32) (N : Nat) (hN : N ≤ 2 ^ 31) (h0 : 0 ≤ x.toInt) (h1 : x.toInt < N) : ∃ k, k < N ∧ x = own_n k := by
  refine ⟨x.toInt.toNat, by omega, Int32.toInt_inj.mp ?_⟩
  rw [Int32.toInt_ofNat_of_lt (by show _ < 2 ^ 31; omega)]
  exact (Int.toNat_of_nonneg h0).symm
-- the mask of k bits
theorem own_mL : ∀ k : Fin 32, (((1 : Int64) <<< ((own_n k.val) &&& 0x3f).toInt64) - (1 : Int64)).toBitVec.toNat = 2 ^ k.val - 1 := by decide +kernel
theorem own_mI : ∀ k : Fin 32, ((((1 : Int64) <<< ((own_n k.val) &&& 0x3f).toInt64) - (1 : Int64)).toInt32).toBitVec.toNat = 2 ^ k.val - 1 := by decide +kernel
/-- what an append of k bits lays: the value's k low bits -/
theorem own_val (v : Int32) (k : Nat) (hk : k < 32) (h0 : 0 ≤ v.toInt) (h1 : v.toInt < (2 ^ k : Nat)) : ((v.toInt64) &&& (((1 : Int64) <<< ((own_n k) &&& 0x3f).toInt64) - (1 : Int64))).toInt = v.toInt := by
  rw [c_maskL _ _ k (by omega) (own_mL ⟨k, hk⟩), c_i2l]
  exact Int.emod_eq_of_lt h0 h1
/-- the value, pushed to the top of 32 bits -/
def own_D (v : Int32) (k : Nat) : Int := v.toInt * (2 ^ (32 - k) : Nat)
theorem own_D0 {v : Int32} {k : Nat} (hk : k < 32) (h0 : 0 ≤ v.toInt) (h1 : v.toInt < (2 ^ k : Nat)) : 0 ≤ own_D v k ∧ own_D v k < 4294967296 := by
  unfold own_D
  have e : ((2 ^ k : Nat) : Int) * (2 ^ (32 - k) : Nat) = 4294967296 := by
    rw [← Int.natCast_mul, ← Nat.pow_add, show k + (32 - k) = 32 by omega]; decide
  have p : (0 : Int) < (2 ^ (32 - k) : Nat) := by exact_mod_cast Nat.two_pow_pos _
  exact ⟨Int.mul_nonneg h0 (Int.le_of_lt p), by rw [← e]; exact Int.mul_lt_mul_of_pos_right h1 p⟩
theorem own_Dsh (v : Int32) (k s : Nat) (hk : k < 32) : v.toInt * (2 ^ (32 - k + s) : Nat) = own_D v k * (2 ^ s : Nat) := by
  unfold own_D; rw [Nat.pow_add, Int.natCast_mul, Int.mul_assoc]
/-- the low bits of it are zero -/
theorem own_Dlow (v : Int32) (k c : Nat) (hk : k < 32) (hc : c ≤ 4) (h : k ≤ 8 * c) : own_D v k % (2 ^ (32 - 8 * c) : Nat) = 0 := by
  unfold own_D
  rw [show 32 - k = (8 * c - k) + (32 - 8 * c) by omega, Nat.pow_add, Int.natCast_mul, ← Int.mul_assoc]
  exact Int.mul_emod_left _ _
theorem own_f3z (v : Int32) (u : Int32) (l : List Int64) : f3 v (own_n 0) u l = some (u + own_n 0, l) := by rw [f3, if_pos (show own_n 0 = 0 from rfl), show own_n 0 = 0 from rfl, Int32.add_zero]
theorem own_nz : ∀ k : Fin 32, k.val ≠ 0 → ¬ own_n k.val = 0 := by decide +kernel
theorem own_c0 : ∀ k : Fin 32, ¬ ((4 : Int32) * 64 < 0 + own_n k.val) ∧ ¬ ((64 : Int32) - (0 % 64) < own_n k.val) ∧ (((64 : Int32) - (0 % 64)) - own_n k.val).toBitVec.toNat % 64 = if k.val = 0 then 0 else 32 - k.val + 32 := by decide +kernel
theorem own_c24 : ∀ k : Fin 32, ¬ ((4 : Int32) * 64 < 24 + own_n k.val) ∧ ¬ ((64 : Int32) - (24 % 64) < own_n k.val) ∧ (((64 : Int32) - (24 % 64)) - own_n k.val).toBitVec.toNat % 64 = 32 - k.val + 8 := by decide +kernel
theorem own_c72 : ∀ k : Fin 32, ¬ ((4 : Int32) * 64 < 72 + own_n k.val) ∧ ¬ ((64 : Int32) - (72 % 64) < own_n k.val) ∧ (((64 : Int32) - (72 % 64)) - own_n k.val).toBitVec.toNat % 64 = 32 - k.val + 24 := by decide +kernel
theorem own_c48 : ∀ k : Fin 32, ¬ ((4 : Int32) * 64 < 48 + own_n k.val) ∧ (k.val ≤ 16 → ¬ ((64 : Int32) - (48 % 64) < own_n k.val) ∧ (((64 : Int32) - (48 % 64)) - own_n k.val).toBitVec.toNat % 64 = 16 - k.val) ∧ (16 < k.val → ((64 : Int32) - (48 % 64) < own_n k.val) ∧ (own_n k.val - ((64 : Int32) - (48 % 64))).toBitVec.toNat % 64 = k.val - 16 ∧ ((64 : Int32) - (own_n k.val - ((64 : Int32) - (48 % 64)))).toBitVec.toNat % 64 = 32 - k.val + 48) := by decide +kernel
theorem own_d0 (k : Nat) (hk : k < 32) : ¬ ((4 : Int32) * 64 < 0 + own_n k) ∧ ¬ ((64 : Int32) - (0 % 64) < own_n k) ∧ (((64 : Int32) - (0 % 64)) - own_n k).toBitVec.toNat % 64 = if k = 0 then 0 else 32 - k + 32 := own_c0 ⟨k, hk⟩
theorem own_d24 (k : Nat) (hk : k < 32) : ¬ ((4 : Int32) * 64 < 24 + own_n k) ∧ ¬ ((64 : Int32) - (24 % 64) < own_n k) ∧ (((64 : Int32) - (24 % 64)) - own_n k).toBitVec.toNat % 64 = 32 - k + 8 := own_c24 ⟨k, hk⟩
theorem own_d72 (k : Nat) (hk : k < 32) : ¬ ((4 : Int32) * 64 < 72 + own_n k) ∧ ¬ ((64 : Int32) - (72 % 64) < own_n k) ∧ (((64 : Int32) - (72 % 64)) - own_n k).toBitVec.toNat % 64 = 32 - k + 24 := own_c72 ⟨k, hk⟩
theorem own_d48 (k : Nat) (hk : k < 32) : ¬ ((4 : Int32) * 64 < 48 + own_n k) ∧ (k ≤ 16 → ¬ ((64 : Int32) - (48 % 64) < own_n k) ∧ (((64 : Int32) - (48 % 64)) - own_n k).toBitVec.toNat % 64 = 16 - k) ∧ (16 < k → ((64 : Int32) - (48 % 64) < own_n k) ∧ (own_n k - ((64 : Int32) - (48 % 64))).toBitVec.toNat % 64 = k - 16 ∧ ((64 : Int32) - (own_n k - ((64 : Int32) - (48 % 64)))).toBitVec.toNat % 64 = 32 - k + 48) := own_c48 ⟨k, hk⟩
theorem own_ap0 (v : Int32) (k : Nat) (hk : k < 32) (h0 : 0 ≤ v.toInt) (h1 : v.toInt < (2 ^ k : Nat)) : ∃ w : Int64, f3 v (own_n k) 0 [0, 0, 0, 0] = some (0 + own_n k, [w, 0, 0, 0]) ∧ (w.toInt - own_D v k * 4294967296) % 18446744073709551616 = 0 := by
  by_cases hz : k = 0
  · subst hz
    refine ⟨0, own_f3z .., ?_⟩
    have z0 : (0 : Int64).toInt = 0 := by decide
    have : v.toInt = 0 := by simp at h1; omega
    rw [own_D, this]; omega
  obtain ⟨c1, c2, c3⟩ := own_d0 k hk
  rw [if_neg hz] at c3
  have hD := own_D0 hk h0 h1
  obtain ⟨x, hx⟩ : ∃ x, ((v.toInt64) &&& (((1 : Int64) <<< ((own_n k) &&& 0x3f).toInt64) - (1 : Int64))) = x := ⟨_, rfl⟩
  have ex : x.toInt = v.toInt := by rw [← hx]; exact own_val v k hk h0 h1
  have q := c_lshl x _ _ c3
  rw [ex, own_Dsh v k 32 hk, show ((2 ^ 32 : Nat) : Int) = 4294967296 by decide] at q
  have hf : f3 v (own_n k) 0 [0, 0, 0, 0] = some (0 + own_n k, [(x <<< ((((64 : Int32) - (0 % 64)) - own_n k) &&& 0x3f).toInt64), 0, 0, 0]) := by
    rw [f3, if_neg (own_nz ⟨k, hk⟩ hz), show lenx [(0 : Int64), 0, 0, 0] = 4 from rfl, if_neg c1, f3_54, hx, f3_64, if_neg c2, show ldx [(0 : Int64), 0, 0, 0] (0 / 64) = some 0 from rfl, Option.bind_some, Int64.zero_or]
    rfl
  generalize (x <<< ((((64 : Int32) - (0 % 64)) - own_n k) &&& 0x3f).toInt64) = y at q hf
  exact ⟨y, hf, q⟩
theorem own_ap24 (v : Int32) (k : Nat) (hk : k < 32) (h0 : 0 ≤ v.toInt) (h1 : v.toInt < (2 ^ k : Nat)) (a : Int64) (ha : a.toInt % 1099511627776 = 0) : ∃ w : Int64, f3 v (own_n k) 24 [a, 0, 0, 0] = some (24 + own_n k, [w, 0, 0, 0]) ∧ (w.toInt - (a.toInt + own_D v k * 256)) % 18446744073709551616 = 0 := by
  by_cases hz : k = 0
  · subst hz
    refine ⟨a, own_f3z .., ?_⟩
    have z0 : (0 : Int64).toInt = 0 := by decide
    have : v.toInt = 0 := by simp at h1; omega
    rw [own_D, this]; omega
  obtain ⟨c1, c2, c3⟩ := own_d24 k hk
  have hD := own_D0 hk h0 h1
  obtain ⟨x, hx⟩ : ∃ x, ((v.toInt64) &&& (((1 : Int64) <<< ((own_n k) &&& 0x3f).toInt64) - (1 : Int64))) = x := ⟨_, rfl⟩
  have ex : x.toInt = v.toInt := by rw [← hx]; exact own_val v k hk h0 h1
  have q := c_lshl x _ _ c3
  rw [ex, own_Dsh v k 8 hk, show ((2 ^ 8 : Nat) : Int) = 256 by decide] at q
  have hf : f3 v (own_n k) 24 [a, 0, 0, 0] = some (24 + own_n k, [a ||| (x <<< ((((64 : Int32) - (24 % 64)) - own_n k) &&& 0x3f).toInt64), 0, 0, 0]) := by
    rw [f3, if_neg (own_nz ⟨k, hk⟩ hz), show lenx [a, 0, 0, 0] = 4 from rfl, if_neg c1, f3_54, hx, f3_64, if_neg c2, show ldx [a, 0, 0, 0] (24 / 64) = some a from rfl, Option.bind_some]
    rfl
  generalize (x <<< ((((64 : Int32) - (24 % 64)) - own_n k) &&& 0x3f).toInt64) = y at q hf
  have b1 := y.le_toInt; have b2 := y.toInt_lt
  have e : y.toInt = own_D v k * 256 := by omega
  have r := c_orL a y 40 (by decide) 1099511627776 (by decide) (by omega) (by omega) (by omega)
  rw [e] at r
  exact ⟨_, hf, r⟩
theorem own_ap72 (v : Int32) (k : Nat) (hk : k < 32) (h0 : 0 ≤ v.toInt) (h1 : v.toInt < (2 ^ k : Nat)) (b a : Int64) (ha : a.toInt % 72057594037927936 = 0) : ∃ w : Int64, f3 v (own_n k) 72 [b, a, 0, 0] = some (72 + own_n k, [b, w, 0, 0]) ∧ (w.toInt - (a.toInt + own_D v k * 16777216)) % 18446744073709551616 = 0 := by
  by_cases hz : k = 0
  · subst hz
    refine ⟨a, own_f3z .., ?_⟩
    have z0 : (0 : Int64).toInt = 0 := by decide
    have : v.toInt = 0 := by simp at h1; omega
    rw [own_D, this]; omega
  obtain ⟨c1, c2, c3⟩ := own_d72 k hk
  have hD := own_D0 hk h0 h1
  obtain ⟨x, hx⟩ : ∃ x, ((v.toInt64) &&& (((1 : Int64) <<< ((own_n k) &&& 0x3f).toInt64) - (1 : Int64))) = x := ⟨_, rfl⟩
  have ex : x.toInt = v.toInt := by rw [← hx]; exact own_val v k hk h0 h1
  have q := c_lshl x _ _ c3
  rw [ex, own_Dsh v k 24 hk, show ((2 ^ 24 : Nat) : Int) = 16777216 by decide] at q
  have hf : f3 v (own_n k) 72 [b, a, 0, 0] = some (72 + own_n k, [b, a ||| (x <<< ((((64 : Int32) - (72 % 64)) - own_n k) &&& 0x3f).toInt64), 0, 0]) := by
    rw [f3, if_neg (own_nz ⟨k, hk⟩ hz), show lenx [b, a, 0, 0] = 4 from rfl, if_neg c1, f3_54, hx, f3_64, if_neg c2, show ldx [b, a, 0, 0] (72 / 64) = some a from rfl, Option.bind_some]
    rfl
  generalize (x <<< ((((64 : Int32) - (72 % 64)) - own_n k) &&& 0x3f).toInt64) = y at q hf
  have b1 := y.le_toInt; have b2 := y.toInt_lt
  have e : y.toInt = own_D v k * 16777216 := by omega
  have r := c_orL a y 56 (by decide) 72057594037927936 (by decide) (by omega) (by omega) (by omega)
  rw [e] at r
  exact ⟨_, hf, r⟩
theorem own_ap48 (v : Int32) (k : Nat) (hk : k < 32) (h0 : 0 ≤ v.toInt) (h1 : v.toInt < (2 ^ k : Nat)) (a : Int64) (ha : a.toInt % 65536 = 0) : ∃ w w1 : Int64, f3 v (own_n k) 48 [a, 0, 0, 0] = some (48 + own_n k, [w, w1, 0, 0]) ∧ (w.toInt - (a.toInt + own_D v k / 65536)) % 18446744073709551616 = 0 ∧ (w1.toInt - own_D v k % 65536 * 281474976710656) % 18446744073709551616 = 0 := by
  have z0 : (0 : Int64).toInt = 0 := by decide
  by_cases hz : k = 0
  · subst hz
    refine ⟨a, 0, own_f3z .., ?_⟩
    have : v.toInt = 0 := by simp at h1; omega
    rw [own_D, this]; omega
  obtain ⟨c1, c2, c3⟩ := own_d48 k hk
  have hD := own_D0 hk h0 h1
  obtain ⟨x, hx⟩ : ∃ x, ((v.toInt64) &&& (((1 : Int64) <<< ((own_n k) &&& 0x3f).toInt64) - (1 : Int64))) = x := ⟨_, rfl⟩
  have ex : x.toInt = v.toInt := by rw [← hx]; exact own_val v k hk h0 h1
  by_cases h16 : k ≤ 16
  · obtain ⟨d1, d2⟩ := c2 h16
    have q := c_lshl x _ _ d2
    have eD : own_D v k = v.toInt * (2 ^ (16 - k) : Nat) * 65536 := by
      unfold own_D; rw [show 32 - k = (16 - k) + 16 by omega, Nat.pow_add, Int.natCast_mul, Int.mul_assoc]; rfl
    rw [ex] at q
    have hf : f3 v (own_n k) 48 [a, 0, 0, 0] = some (48 + own_n k, [a ||| (x <<< ((((64 : Int32) - (48 % 64)) - own_n k) &&& 0x3f).toInt64), 0, 0, 0]) := by
      rw [f3, if_neg (own_nz ⟨k, hk⟩ hz), show lenx [a, 0, 0, 0] = 4 from rfl, if_neg c1, f3_54, hx, f3_64, if_neg d1, show ldx [a, 0, 0, 0] (48 / 64) = some a from rfl, Option.bind_some]
      rfl
    generalize (x <<< ((((64 : Int32) - (48 % 64)) - own_n k) &&& 0x3f).toInt64) = y at q hf
    generalize v.toInt * ((2 ^ (16 - k) : Nat) : Int) = g at q eD
    have b1 := y.le_toInt; have b2 := y.toInt_lt
    have e : y.toInt = g := by omega
    have r := c_orL a y 16 (by decide) 65536 (by decide) (by omega) (by omega) (by omega)
    refine ⟨_, 0, hf, ?_, ?_⟩
    · rw [show own_D v k / 65536 = g by omega, ← e]; exact r
    · rw [z0]; omega
  · obtain ⟨d1, d2, d3⟩ := c3 (by omega)
    have q := c_lushr x _ _ d2 (by omega)
    have q1 := c_lshl x _ _ d3
    rw [ex] at q q1
    rw [own_Dsh v k 48 hk, show ((2 ^ 48 : Nat) : Int) = 281474976710656 by decide] at q1
    have eD : own_D v k / 65536 = v.toInt / (2 ^ (k - 16) : Nat) := by
      unfold own_D
      rw [show (65536 : Int) = (2 ^ (k - 16) : Nat) * (2 ^ (32 - k) : Nat) by rw [← Int.natCast_mul, ← Nat.pow_add, show k - 16 + (32 - k) = 16 by omega]; decide]
      exact Int.mul_ediv_mul_of_pos_left _ _ (by exact_mod_cast Nat.two_pow_pos _)
    have hv2 : v.toInt < 18446744073709551616 := by have : v.toInt < 2 ^ 31 := v.toInt_lt; omega
    rw [Int.emod_eq_of_lt h0 hv2, ← eD] at q
    have hf : f3 v (own_n k) 48 [a, 0, 0, 0] = some (48 + own_n k, [a ||| (x.toUInt64 >>> ((own_n k - ((64 : Int32) - (48 % 64))) &&& 0x3f).toInt64.toUInt64).toInt64, (x <<< (((64 : Int32) - (own_n k - ((64 : Int32) - (48 % 64)))) &&& 0x3f).toInt64), 0, 0]) := by
      rw [f3, if_neg (own_nz ⟨k, hk⟩ hz), show lenx [a, 0, 0, 0] = 4 from rfl, if_neg c1, f3_54, hx, f3_64, if_pos d1, show ldx [a, 0, 0, 0] (48 / 64) = some a from rfl, Option.bind_some]
      rw [show ∀ z : Int64, stx [a, (0 : Int64), 0, 0] (48 / 64 : Int32) z = some [z, 0, 0, 0] from fun _ => rfl, Option.bind_some]
      rw [show ∀ z : Int64, ldx [z, (0 : Int64), 0, 0] ((48 / 64 : Int32) + 1) = some 0 from fun _ => rfl, Option.bind_some, Int64.zero_or]
      rfl
    generalize (x.toUInt64 >>> ((own_n k - ((64 : Int32) - (48 % 64))) &&& 0x3f).toInt64.toUInt64).toInt64 = y at q hf
    generalize (x <<< (((64 : Int32) - (own_n k - ((64 : Int32) - (48 % 64)))) &&& 0x3f).toInt64) = y1 at q1 hf
    have r := c_orL a y 16 (by decide) 65536 (by decide) (by omega) (by omega) (by omega)
    rw [q] at r
    exact ⟨_, _, hf, r, by omega⟩
-- the read
theorem own_mod {a r M : Int} (h : (a - r) % M = 0) (h0 : 0 ≤ r) (h1 : r < M) : a % M = r := by
  rw [Int.emod_eq_emod_iff_emod_sub_eq_zero.mpr h]; exact Int.emod_eq_of_lt h0 h1
def own_B (w : Int64) (j : Int32) : Int32 := (((w.toUInt64 >>> (((64 : Int32) - ((8 : Int32) * ((1 : Int32) + (j % (8 : Int32))))) &&& 0x3f).toInt64.toUInt64).toInt64).toInt32) &&& (255 : Int32)
theorem own_Bv (w : Int64) (j : Int32) (s : Nat) (hs : ((64 : Int32) - ((8 : Int32) * ((1 : Int32) + (j % (8 : Int32))))).toBitVec.toNat % 64 = s) (h0 : 0 < s) : (own_B w j).toInt = (w.toInt % 18446744073709551616) / (2 ^ s : Nat) % 256 := by
  have q := c_lushr w _ s hs h0
  unfold own_B
  rw [c_mask _ 255 8 (by decide) (by decide)]
  generalize (w.toUInt64 >>> (((64 : Int32) - ((8 : Int32) * ((1 : Int32) + (j % (8 : Int32))))) &&& 0x3f).toInt64.toUInt64).toInt64 = y at q
  have r := c_l2i y
  rw [← q]
  show _ % 256 = _
  omega
theorem own_Bz (w : Int64) (j : Int32) (hs : (((64 : Int32) - ((8 : Int32) * ((1 : Int32) + (j % (8 : Int32))))) &&& 0x3f).toInt64.toUInt64 = 0) : (own_B w j).toInt = (w.toInt % 18446744073709551616) % 256 := by
  unfold own_B
  rw [hs, c_mask _ 255 8 (by decide) (by decide)]
  have e : (w.toUInt64 >>> (0 : UInt64)).toInt64 = w := by simp
  rw [e]
  have r := c_l2i w
  show _ % 256 = _
  omega
theorem own_lt : ∀ a b : Fin 20, (own_n a.val < own_n b.val) = (a.val < b.val) := by decide +kernel
theorem own_suc : ∀ a : Fin 20, own_n a.val + 1 = own_n (a.val + 1) := by decide +kernel
theorem own_idx : ∀ a : Fin 20, ¬ own_n a.val < 0 ∧ (own_n a.val).toNatClampNeg = a.val := by decide +kernel
theorem own_stn (l : List Int32) (j : Nat) (v : Int32) (hj : j < 20) (h : j < l.length) : stx l (own_n j) v = some (l.set j v) := by
  obtain ⟨a, b⟩ : ¬ own_n j < 0 ∧ (own_n j).toNatClampNeg = j := own_idx ⟨j, hj⟩
  unfold stx
  rw [if_neg a, b, if_neg (by omega)]
theorem own_ldn (l : List Int32) (j : Nat) (hj : j < 20) : ldx l (own_n j) = l[j]? := by
  obtain ⟨a, b⟩ : ¬ own_n j < 0 ∧ (own_n j).toNatClampNeg = j := own_idx ⟨j, hj⟩
  unfold ldx
  rw [if_neg a, b]
theorem own_ldw (w0 w1 w2 w3 : Int64) (j : Nat) (hj : j < 16) : ldx [w0, w1, w2, w3] (own_n j / 8) = some (if j < 8 then w0 else w1) := by
  have h : j = 0 ∨ j = 1 ∨ j = 2 ∨ j = 3 ∨ j = 4 ∨ j = 5 ∨ j = 6 ∨ j = 7 ∨ j = 8 ∨ j = 9 ∨ j = 10 ∨ j = 11 ∨ j = 12 ∨ j = 13 ∨ j = 14 ∨ j = 15 := by omega
  rcases h with rfl | rfl | rfl | rfl | rfl | rfl | rfl | rfl | rfl | rfl | rfl | rfl | rfl | rfl | rfl | rfl <;> rfl
/-- the loop lays the bytes -/
theorem own_loop (w0 w1 : Int64) (u : Int32) (used : Nat) (hu : used ≤ 16) : ∀ (fuel j : Nat) (l : List Int32), j ≤ used → used - j < fuel → used ≤ l.length → l.length ≤ 16 →
    ∃ R, f4_20 fuel (own_n used) (own_n j) u [w0, w1, 0, 0] l = some R ∧ R.length = l.length ∧ ∀ i, i < l.length → R[i]? = if j ≤ i ∧ i < used then some (own_B (if i < 8 then w0 else w1) (own_n i)) else l[i]? := by
  intro fuel
  induction fuel with
  | zero => intro j l _ h; omega
  | succ n ih =>
    intro j l hj hf hl h16
    have hlt := own_lt ⟨j, by omega⟩ ⟨used, by omega⟩
    dsimp only at hlt
    by_cases hc : j < used
    · have e : f4_20 (n + 1) (own_n used) (own_n j) u [w0, w1, 0, 0] l = f4_20 n (own_n used) (own_n (j + 1)) u [w0, w1, 0, 0] (l.set j (own_B (if j < 8 then w0 else w1) (own_n j))) := by
        rw [f4_20, if_pos (hlt ▸ hc), own_ldw _ _ _ _ j (by omega), Option.bind_some]
        rw [own_stn l j _ (by omega) (by omega), Option.bind_some, own_suc ⟨j, by omega⟩]
        rfl
      obtain ⟨R, r1, r2, r3⟩ := ih (j + 1) (l.set j (own_B (if j < 8 then w0 else w1) (own_n j))) (by omega) (by omega) (by rw [List.length_set]; omega) (by rw [List.length_set]; omega)
      rw [List.length_set] at r2 r3
      refine ⟨R, e.trans r1, r2, ?_⟩
      intro i hi
      rw [r3 i hi]
      by_cases hij : i = j
      · subst hij
        rw [if_neg (show ¬ (i + 1 ≤ i ∧ i < used) by omega), List.getElem?_set_self hi, if_pos (show i ≤ i ∧ i < used from ⟨Nat.le_refl _, hc⟩)]
      · rw [List.getElem?_set_ne (by omega)]
        by_cases h1 : j ≤ i ∧ i < used
        · rw [if_pos h1, if_pos (by omega)]
        · rw [if_neg h1, if_neg (by omega)]
    · refine ⟨l, ?_, rfl, ?_⟩
      · rw [f4_20, if_neg (hlt ▸ hc)]
      · intro i hi
        rw [if_neg (by omega)]
-- the end
theorem own_nw : ∀ a : Fin 17, ¬ own_n a.val < 0 ∧ ¬ 16 < (own_n a.val).toNatClampNeg ∧ (own_n a.val).toNatClampNeg = a.val := by decide +kernel
theorem own_nwx (n : Nat) (h : n ≤ 16) : nwx (0 : Int32) 16 (own_n n) = some (List.replicate n 0) := by
  obtain ⟨a, b, c⟩ : ¬ own_n n < 0 ∧ ¬ 16 < (own_n n).toNatClampNeg ∧ (own_n n).toNatClampNeg = n := own_nw ⟨n, by omega⟩
  unfold nwx
  rw [if_neg a, if_neg b, c]
/-- toCodewords: the bytes of the two words, and zeros -/
theorem own_f4 (w0 w1 : Int64) (u : Int32) (used count : Nat) (hu : ((u + (8 : Int32)) - (1 : Int32)) / (8 : Int32) = own_n used) (h1 : used ≤ count) (h2 : count ≤ 16) :
    ∃ R, f4 (own_n count) u [w0, w1, 0, 0] = some R ∧ R.length = count ∧ ∀ i, i < count → R[i]? = some (if i < used then own_B (if i < 8 then w0 else w1) (own_n i) else 0) := by
  obtain ⟨R, r1, r2, r3⟩ := own_loop w0 w1 u used (by omega) 20 0 (List.replicate count 0) (by omega) (by omega) (by rw [List.length_replicate]; exact h1) (by rw [List.length_replicate]; exact h2)
  rw [List.length_replicate] at r2 r3
  refine ⟨R, ?_, r2, ?_⟩
  · rw [f4, own_nwx count h2, Option.bind_some, hu]; exact r1
  · intro i hi
    rw [r3 i hi]
    by_cases h : i < used
    · rw [if_pos (show 0 ≤ i ∧ i < used from ⟨Nat.zero_le _, h⟩), if_pos h]
    · rw [if_neg (show ¬ (0 ≤ i ∧ i < used) from fun z => h z.2), if_neg h, List.getElem?_replicate, if_pos hi]
theorem own_f5 (R X : List Int32) (count i : Nat) (hc : count ≤ 16) (hi : i < 16) (h : i < count → R[i]? = X[i]? ∧ i < X.length) : f5 (own_n count) (own_n i) R X = some 1 := by
  have hlt : (own_n i < own_n count) = (i < count) := own_lt ⟨i, by omega⟩ ⟨count, by omega⟩
  rw [f5]
  by_cases hh : i < count
  · obtain ⟨h1, h2⟩ := h hh
    rw [if_pos (hlt ▸ hh), own_ldn R i (by omega), own_ldn X i (by omega), h1, List.getElem?_eq_getElem h2, Option.bind_some, Option.bind_some, if_pos rfl]
  · rw [if_neg (hlt ▸ hh)]
theorem own_10 : ¬ (1 : Int32) = 0 := by decide
theorem own_len : ∀ c : Fin 17, c.val.toInt32 = own_n c.val := by decide +kernel
theorem own_end (x5 : Int32) (t : Int32) (w0 w1 : Int64) (u : Int32) (used count : Nat) (hu : ((u + (8 : Int32)) - (1 : Int32)) / (8 : Int32) = own_n used) (h1 : used ≤ count) (h2 : count ≤ 16) (l0 la lb lc X : List Int32)
    (e1 : stx l0 ((3 : Int32) * x5) ((t.toUInt32 >>> ((24 : Int32) &&& 31).toUInt32).toInt32) = some la) (e2 : stx la (((3 : Int32) * x5) + (1 : Int32)) (((t.toUInt32 >>> ((16 : Int32) &&& 31).toUInt32).toInt32) &&& (255 : Int32)) = some lb)
    (e3 : stx lb (((3 : Int32) * x5) + (2 : Int32)) (((t.toUInt32 >>> ((8 : Int32) &&& 31).toUInt32).toInt32) &&& (255 : Int32)) = some lc) (e4 : stx lc (((3 : Int32) * x5) + (3 : Int32)) (t &&& (255 : Int32)) = some X)
    (hX : X.length = 16) (hv : ∀ i, i < 16 → (i < used → X[i]? = some (own_B (if i < 8 then w0 else w1) (own_n i))) ∧ (used ≤ i → X[i]? = some 0)) : f0_195 x5 (own_n count) t l0 u [w0, w1, 0, 0] = some 1 := by
  obtain ⟨R, r1, r2, r3⟩ := own_f4 w0 w1 u used count hu h1 h2
  have g : ∀ i, i < 16 → f5 (own_n count) (own_n i) R X = some 1 := by
    intro i hi
    refine own_f5 R X count i h2 hi fun hc => ⟨?_, by omega⟩
    rw [r3 i hc]
    by_cases h : i < used
    · rw [if_pos h, (hv i hi).1 h]
    · rw [if_neg h, (hv i hi).2 (by omega)]
  have hlen : lenx R = own_n count := by unfold lenx; rw [r2]
  rw [f0_195, e1, Option.bind_some, e2, Option.bind_some, e3, Option.bind_some, e4, Option.bind_some, r1, Option.bind_some, if_pos hlen]
  rw [show f5 (own_n count) 0 R X = some 1 from g 0 (by decide), Option.bind_some, if_neg own_10]
  rw [show f5 (own_n count) 1 R X = some 1 from g 1 (by decide), Option.bind_some, if_neg own_10]
  rw [show f5 (own_n count) 2 R X = some 1 from g 2 (by decide), Option.bind_some, if_neg own_10]
  rw [show f5 (own_n count) 3 R X = some 1 from g 3 (by decide), Option.bind_some, if_neg own_10]
  rw [show f5 (own_n count) 4 R X = some 1 from g 4 (by decide), Option.bind_some, if_neg own_10]
  rw [show f5 (own_n count) 5 R X = some 1 from g 5 (by decide), Option.bind_some, if_neg own_10]
  rw [show f5 (own_n count) 6 R X = some 1 from g 6 (by decide), Option.bind_some, if_neg own_10]
  rw [show f5 (own_n count) 7 R X = some 1 from g 7 (by decide), Option.bind_some, if_neg own_10]
  rw [show f5 (own_n count) 8 R X = some 1 from g 8 (by decide), Option.bind_some, if_neg own_10]
  rw [show f5 (own_n count) 9 R X = some 1 from g 9 (by decide), Option.bind_some, if_neg own_10]
  rw [show f5 (own_n count) 10 R X = some 1 from g 10 (by decide), Option.bind_some, if_neg own_10]
  rw [show f5 (own_n count) 11 R X = some 1 from g 11 (by decide), Option.bind_some, if_neg own_10]
  rw [show f5 (own_n count) 12 R X = some 1 from g 12 (by decide), Option.bind_some, if_neg own_10]
  rw [show f5 (own_n count) 13 R X = some 1 from g 13 (by decide), Option.bind_some, if_neg own_10]
  rw [show f5 (own_n count) 14 R X = some 1 from g 14 (by decide), Option.bind_some, if_neg own_10]
  rw [show f5 (own_n count) 15 R X = some 1 from g 15 (by decide), Option.bind_some, if_neg own_10]
-- the cases
theorem own_T {t : Int32} {D : Int} (h : (t.toInt - D) % 4294967296 = 0) (h0 : 0 ≤ D) (h1 : D < 4294967296) : ((t.toUInt32 >>> ((24 : Int32) &&& 31).toUInt32).toInt32).toInt = D / 16777216 % 256 ∧ (((t.toUInt32 >>> ((16 : Int32) &&& 31).toUInt32).toInt32) &&& (255 : Int32)).toInt = D / 65536 % 256 ∧ (((t.toUInt32 >>> ((8 : Int32) &&& 31).toUInt32).toInt32) &&& (255 : Int32)).toInt = D / 256 % 256 ∧ (t &&& (255 : Int32)).toInt = D / 1 % 256 := by
  have e : t.toInt % 4294967296 = D := own_mod h h0 h1
  have q1 := c_iushr t 24 24 (by decide) (by decide)
  have q2 := c_iushr t 16 16 (by decide) (by decide)
  have q3 := c_iushr t 8 8 (by decide) (by decide)
  rw [e] at q1 q2 q3
  refine ⟨?_, ?_, ?_, ?_⟩
  · rw [q1]; show D / 16777216 = _; omega
  · rw [c_mask _ 255 8 (by decide) (by decide), q2]; rfl
  · rw [c_mask _ 255 8 (by decide) (by decide), q3]; rfl
  · rw [c_mask _ 255 8 (by decide) (by decide)]; show _ % 256 = _; omega
theorem own_V {v : Int32} (h0 : 0 ≤ v.toInt) (h1 : v.toInt < 16777216) : (((v.toUInt32 >>> ((16 : Int32) &&& 31).toUInt32).toInt32) &&& (255 : Int32)).toInt = v.toInt / 65536 % 256 ∧ (((v.toUInt32 >>> ((8 : Int32) &&& 31).toUInt32).toInt32) &&& (255 : Int32)).toInt = v.toInt / 256 % 256 ∧ (v &&& (255 : Int32)).toInt = v.toInt / 1 % 256 := by
  have q2 := c_iushr v 16 16 (by decide) (by decide)
  have q3 := c_iushr v 8 8 (by decide) (by decide)
  rw [Int.emod_eq_of_lt h0 (show v.toInt < 4294967296 by omega)] at q2 q3
  refine ⟨?_, ?_, ?_⟩
  · rw [c_mask _ 255 8 (by decide) (by decide), q2]; rfl
  · rw [c_mask _ 255 8 (by decide) (by decide), q3]; rfl
  · rw [c_mask _ 255 8 (by decide) (by decide)]; show _ % 256 = _; omega
theorem own_D24 (v : Int32) : own_D v 24 = v.toInt * 256 := by unfold own_D; rw [show ((2 ^ (32 - 24) : Nat) : Int) = 256 by decide]
theorem own_sh : ∀ k : Fin 32, k.val ≠ 0 → ((32 : Int32) - own_n k.val).toBitVec.toNat % 32 = 32 - k.val := by decide +kernel
theorem own_169 (x5 : Int32) (k : Nat) (hk : k < 32) (v : Int32) (h0 : 0 ≤ v.toInt) (h1 : v.toInt < (2 ^ k : Nat)) (cnt : Int32) (l0 : List Int32) (u u' : Int32) (wl wl' : List Int64) (hf : f3 v (own_n k) u wl = some (u', wl'))
    (H : ∀ t : Int32, (t.toInt - own_D v k) % 4294967296 = 0 → f0_195 x5 cnt t l0 u' wl' = some 1) : f0_169 x5 (own_n k) v cnt l0 u wl = some 1 := by
  rw [f0_169, hf, Option.bind_some]
  by_cases hz : k = 0
  · subst hz
    rw [if_pos (show own_n 0 = 0 from rfl)]
    refine H 0 ?_
    have : v.toInt = 0 := by simp at h1; omega
    rw [own_D, this]; decide
  · rw [if_neg (own_nz ⟨k, hk⟩ hz)]
    refine H _ ?_
    exact c_ishl v _ (32 - k) (own_sh ⟨k, hk⟩ hz)
theorem own_u0 : ∀ k : Fin 32, ((((0 : Int32) + own_n k.val) + (8 : Int32)) - (1 : Int32)) / (8 : Int32) = own_n (0 + (k.val + 7) / 8) := by decide +kernel
theorem own_u1 : ∀ k : Fin 32, ((((24 : Int32) + own_n k.val) + (8 : Int32)) - (1 : Int32)) / (8 : Int32) = own_n (3 + (k.val + 7) / 8) := by decide +kernel
theorem own_u2 : ∀ k : Fin 32, ((((48 : Int32) + own_n k.val) + (8 : Int32)) - (1 : Int32)) / (8 : Int32) = own_n (6 + (k.val + 7) / 8) := by decide +kernel
theorem own_u3 : ∀ k : Fin 32, ((((72 : Int32) + own_n k.val) + (8 : Int32)) - (1 : Int32)) / (8 : Int32) = own_n (9 + (k.val + 7) / 8) := by decide +kernel
theorem own_cnt : ∀ n : Fin 4, ∀ k : Fin 32, ∀ π : Fin 4, (((3 : Int32) * own_n n.val) + ((own_n k.val + (7 : Int32)) / (8 : Int32))) + own_n π.val = own_n (3 * n.val + (k.val + 7) / 8 + π.val) := by decide +kernel
theorem own_case0  (k π : Nat) (hk : k < 32) (hπ : π < 4) (v : Int32) (h0 : 0 ≤ v.toInt) (h1 : v.toInt < (2 ^ k : Nat)) (w0 w1 : Int64) (g0 : w0.toInt % 18446744073709551616 = own_D v k * 4294967296) (g1 : w1.toInt % 18446744073709551616 = 0) (t : Int32) (ht : (t.toInt - own_D v k) % 4294967296 = 0) :
    f0_195 0 (own_n (0 + (k + 7) / 8 + π)) t [0, 0, 0, 0, 0, 0, 0, 0, 0, 0, 0, 0, 0, 0, 0, 0] (0 + own_n k) [w0, w1, 0, 0] = some 1 := by
  have hD := own_D0 hk h0 h1
  obtain ⟨t0, t1, t2, t3⟩ := own_T ht hD.1 hD.2
  refine own_end 0 t w0 w1 (0 + own_n k) (0 + (k + 7) / 8) _ (own_u0 ⟨k, hk⟩) (by omega) (by omega) _ [((t.toUInt32 >>> ((24 : Int32) &&& 31).toUInt32).toInt32), 0, 0, 0, 0, 0, 0, 0, 0, 0, 0, 0, 0, 0, 0, 0] [((t.toUInt32 >>> ((24 : Int32) &&& 31).toUInt32).toInt32), (((t.toUInt32 >>> ((16 : Int32) &&& 31).toUInt32).toInt32) &&& (255 : Int32)), 0, 0, 0, 0, 0, 0, 0, 0, 0, 0, 0, 0, 0, 0] [((t.toUInt32 >>> ((24 : Int32) &&& 31).toUInt32).toInt32), (((t.toUInt32 >>> ((16 : Int32) &&& 31).toUInt32).toInt32) &&& (255 : Int32)), (((t.toUInt32 >>> ((8 : Int32) &&& 31).toUInt32).toInt32) &&& (255 : Int32)), 0, 0, 0, 0, 0, 0, 0, 0, 0, 0, 0, 0, 0] [((t.toUInt32 >>> ((24 : Int32) &&& 31).toUInt32).toInt32), (((t.toUInt32 >>> ((16 : Int32) &&& 31).toUInt32).toInt32) &&& (255 : Int32)), (((t.toUInt32 >>> ((8 : Int32) &&& 31).toUInt32).toInt32) &&& (255 : Int32)), (t &&& (255 : Int32)), 0, 0, 0, 0, 0, 0, 0, 0, 0, 0, 0, 0] rfl rfl rfl rfl rfl ?_
  intro i hi
  have h : i = 0 ∨ i = 1 ∨ i = 2 ∨ i = 3 ∨ i = 4 ∨ i = 5 ∨ i = 6 ∨ i = 7 ∨ i = 8 ∨ i = 9 ∨ i = 10 ∨ i = 11 ∨ i = 12 ∨ i = 13 ∨ i = 14 ∨ i = 15 := by omega
  rcases h with rfl | rfl | rfl | rfl | rfl | rfl | rfl | rfl | rfl | rfl | rfl | rfl | rfl | rfl | rfl | rfl
  · refine ⟨fun _ => congrArg some (Int32.toInt_inj.mp ?_), fun h => ?_⟩
    · refine t0.trans (Eq.trans ?_ (own_Bv w0 0 56 (by decide) (by decide)).symm)
      rw [g0]; omega
    · refine congrArg some (Int32.toInt_inj.mp (t0.trans ?_))
      have z : own_D v k % 4294967296 = 0 := own_Dlow v k 0 hk (by decide) (by omega)
      show _ = (0 : Int)
      omega
  · refine ⟨fun _ => congrArg some (Int32.toInt_inj.mp ?_), fun h => ?_⟩
    · refine t1.trans (Eq.trans ?_ (own_Bv w0 1 48 (by decide) (by decide)).symm)
      rw [g0]; omega
    · refine congrArg some (Int32.toInt_inj.mp (t1.trans ?_))
      have z : own_D v k % 16777216 = 0 := own_Dlow v k 1 hk (by decide) (by omega)
      show _ = (0 : Int)
      omega
  · refine ⟨fun _ => congrArg some (Int32.toInt_inj.mp ?_), fun h => ?_⟩
    · refine t2.trans (Eq.trans ?_ (own_Bv w0 2 40 (by decide) (by decide)).symm)
      rw [g0]; omega
    · refine congrArg some (Int32.toInt_inj.mp (t2.trans ?_))
      have z : own_D v k % 65536 = 0 := own_Dlow v k 2 hk (by decide) (by omega)
      show _ = (0 : Int)
      omega
  · refine ⟨fun _ => congrArg some (Int32.toInt_inj.mp ?_), fun h => ?_⟩
    · refine t3.trans (Eq.trans ?_ (own_Bv w0 3 32 (by decide) (by decide)).symm)
      rw [g0]; omega
    · refine congrArg some (Int32.toInt_inj.mp (t3.trans ?_))
      have z : own_D v k % 256 = 0 := own_Dlow v k 3 hk (by decide) (by omega)
      show _ = (0 : Int)
      omega
  · exact ⟨fun h => by omega, fun _ => rfl⟩
  · exact ⟨fun h => by omega, fun _ => rfl⟩
  · exact ⟨fun h => by omega, fun _ => rfl⟩
  · exact ⟨fun h => by omega, fun _ => rfl⟩
  · exact ⟨fun h => by omega, fun _ => rfl⟩
  · exact ⟨fun h => by omega, fun _ => rfl⟩
  · exact ⟨fun h => by omega, fun _ => rfl⟩
  · exact ⟨fun h => by omega, fun _ => rfl⟩
  · exact ⟨fun h => by omega, fun _ => rfl⟩
  · exact ⟨fun h => by omega, fun _ => rfl⟩
  · exact ⟨fun h => by omega, fun _ => rfl⟩
  · exact ⟨fun h => by omega, fun _ => rfl⟩
theorem own_case1 (va : Int32) (va0 : 0 ≤ va.toInt) (va1 : va.toInt < 16777216) (k π : Nat) (hk : k < 32) (hπ : π < 4) (v : Int32) (h0 : 0 ≤ v.toInt) (h1 : v.toInt < (2 ^ k : Nat)) (w0 w1 : Int64) (g0 : w0.toInt % 18446744073709551616 = va.toInt * 1099511627776 + own_D v k * 256) (g1 : w1.toInt % 18446744073709551616 = 0) (t : Int32) (ht : (t.toInt - own_D v k) % 4294967296 = 0) :
    f0_195 1 (own_n (3 + (k + 7) / 8 + π)) t [(((va.toUInt32 >>> ((16 : Int32) &&& 31).toUInt32).toInt32) &&& (255 : Int32)), (((va.toUInt32 >>> ((8 : Int32) &&& 31).toUInt32).toInt32) &&& (255 : Int32)), (va &&& (255 : Int32)), 0, 0, 0, 0, 0, 0, 0, 0, 0, 0, 0, 0, 0] (24 + own_n k) [w0, w1, 0, 0] = some 1 := by
  have hD := own_D0 hk h0 h1
  obtain ⟨t0, t1, t2, t3⟩ := own_T ht hD.1 hD.2
  obtain ⟨va_0, va_1, va_2⟩ := own_V va0 va1
  refine own_end 1 t w0 w1 (24 + own_n k) (3 + (k + 7) / 8) _ (own_u1 ⟨k, hk⟩) (by omega) (by omega) _ [(((va.toUInt32 >>> ((16 : Int32) &&& 31).toUInt32).toInt32) &&& (255 : Int32)), (((va.toUInt32 >>> ((8 : Int32) &&& 31).toUInt32).toInt32) &&& (255 : Int32)), (va &&& (255 : Int32)), ((t.toUInt32 >>> ((24 : Int32) &&& 31).toUInt32).toInt32), 0, 0, 0, 0, 0, 0, 0, 0, 0, 0, 0, 0] [(((va.toUInt32 >>> ((16 : Int32) &&& 31).toUInt32).toInt32) &&& (255 : Int32)), (((va.toUInt32 >>> ((8 : Int32) &&& 31).toUInt32).toInt32) &&& (255 : Int32)), (va &&& (255 : Int32)), ((t.toUInt32 >>> ((24 : Int32) &&& 31).toUInt32).toInt32), (((t.toUInt32 >>> ((16 : Int32) &&& 31).toUInt32).toInt32) &&& (255 : Int32)), 0, 0, 0, 0, 0, 0, 0, 0, 0, 0, 0] [(((va.toUInt32 >>> ((16 : Int32) &&& 31).toUInt32).toInt32) &&& (255 : Int32)), (((va.toUInt32 >>> ((8 : Int32) &&& 31).toUInt32).toInt32) &&& (255 : Int32)), (va &&& (255 : Int32)), ((t.toUInt32 >>> ((24 : Int32) &&& 31).toUInt32).toInt32), (((t.toUInt32 >>> ((16 : Int32) &&& 31).toUInt32).toInt32) &&& (255 : Int32)), (((t.toUInt32 >>> ((8 : Int32) &&& 31).toUInt32).toInt32) &&& (255 : Int32)), 0, 0, 0, 0, 0, 0, 0, 0, 0, 0] [(((va.toUInt32 >>> ((16 : Int32) &&& 31).toUInt32).toInt32) &&& (255 : Int32)), (((va.toUInt32 >>> ((8 : Int32) &&& 31).toUInt32).toInt32) &&& (255 : Int32)), (va &&& (255 : Int32)), ((t.toUInt32 >>> ((24 : Int32) &&& 31).toUInt32).toInt32), (((t.toUInt32 >>> ((16 : Int32) &&& 31).toUInt32).toInt32) &&& (255 : Int32)), (((t.toUInt32 >>> ((8 : Int32) &&& 31).toUInt32).toInt32) &&& (255 : Int32)), (t &&& (255 : Int32)), 0, 0, 0, 0, 0, 0, 0, 0, 0] rfl rfl rfl rfl rfl ?_
  intro i hi
  have h : i = 0 ∨ i = 1 ∨ i = 2 ∨ i = 3 ∨ i = 4 ∨ i = 5 ∨ i = 6 ∨ i = 7 ∨ i = 8 ∨ i = 9 ∨ i = 10 ∨ i = 11 ∨ i = 12 ∨ i = 13 ∨ i = 14 ∨ i = 15 := by omega
  rcases h with rfl | rfl | rfl | rfl | rfl | rfl | rfl | rfl | rfl | rfl | rfl | rfl | rfl | rfl | rfl | rfl
  · refine ⟨fun _ => congrArg some (Int32.toInt_inj.mp ?_), fun h => ?_⟩
    · refine va_0.trans (Eq.trans ?_ (own_Bv w0 0 56 (by decide) (by decide)).symm)
      rw [g0]; omega
    · omega
  · refine ⟨fun _ => congrArg some (Int32.toInt_inj.mp ?_), fun h => ?_⟩
    · refine va_1.trans (Eq.trans ?_ (own_Bv w0 1 48 (by decide) (by decide)).symm)
      rw [g0]; omega
    · omega
  · refine ⟨fun _ => congrArg some (Int32.toInt_inj.mp ?_), fun h => ?_⟩
    · refine va_2.trans (Eq.trans ?_ (own_Bv w0 2 40 (by decide) (by decide)).symm)
      rw [g0]; omega
    · omega
  · refine ⟨fun _ => congrArg some (Int32.toInt_inj.mp ?_), fun h => ?_⟩
    · refine t0.trans (Eq.trans ?_ (own_Bv w0 3 32 (by decide) (by decide)).symm)
      rw [g0]; omega
    · refine congrArg some (Int32.toInt_inj.mp (t0.trans ?_))
      have z : own_D v k % 4294967296 = 0 := own_Dlow v k 0 hk (by decide) (by omega)
      show _ = (0 : Int)
      omega
  · refine ⟨fun _ => congrArg some (Int32.toInt_inj.mp ?_), fun h => ?_⟩
    · refine t1.trans (Eq.trans ?_ (own_Bv w0 4 24 (by decide) (by decide)).symm)
      rw [g0]; omega
    · refine congrArg some (Int32.toInt_inj.mp (t1.trans ?_))
      have z : own_D v k % 16777216 = 0 := own_Dlow v k 1 hk (by decide) (by omega)
      show _ = (0 : Int)
      omega
  · refine ⟨fun _ => congrArg some (Int32.toInt_inj.mp ?_), fun h => ?_⟩
    · refine t2.trans (Eq.trans ?_ (own_Bv w0 5 16 (by decide) (by decide)).symm)
      rw [g0]; omega
    · refine congrArg some (Int32.toInt_inj.mp (t2.trans ?_))
      have z : own_D v k % 65536 = 0 := own_Dlow v k 2 hk (by decide) (by omega)
      show _ = (0 : Int)
      omega
  · refine ⟨fun _ => congrArg some (Int32.toInt_inj.mp ?_), fun h => ?_⟩
    · refine t3.trans (Eq.trans ?_ (own_Bv w0 6 8 (by decide) (by decide)).symm)
      rw [g0]; omega
    · refine congrArg some (Int32.toInt_inj.mp (t3.trans ?_))
      have z : own_D v k % 256 = 0 := own_Dlow v k 3 hk (by decide) (by omega)
      show _ = (0 : Int)
      omega
  · exact ⟨fun h => by omega, fun _ => rfl⟩
  · exact ⟨fun h => by omega, fun _ => rfl⟩
  · exact ⟨fun h => by omega, fun _ => rfl⟩
  · exact ⟨fun h => by omega, fun _ => rfl⟩
  · exact ⟨fun h => by omega, fun _ => rfl⟩
  · exact ⟨fun h => by omega, fun _ => rfl⟩
  · exact ⟨fun h => by omega, fun _ => rfl⟩
  · exact ⟨fun h => by omega, fun _ => rfl⟩
  · exact ⟨fun h => by omega, fun _ => rfl⟩
set_option maxHeartbeats 8000000 in
theorem own_case2 (va : Int32) (va0 : 0 ≤ va.toInt) (va1 : va.toInt < 16777216) (vb : Int32) (vb0 : 0 ≤ vb.toInt) (vb1 : vb.toInt < 16777216) (k π : Nat) (hk : k < 32) (hπ : π < 4) (v : Int32) (h0 : 0 ≤ v.toInt) (h1 : v.toInt < (2 ^ k : Nat)) (w0 w1 : Int64) (g0 : w0.toInt % 18446744073709551616 = va.toInt * 1099511627776 + vb.toInt * 65536 + own_D v k / 65536) (g1 : w1.toInt % 18446744073709551616 = own_D v k % 65536 * 281474976710656) (t : Int32) (ht : (t.toInt - own_D v k) % 4294967296 = 0) :
    f0_195 2 (own_n (6 + (k + 7) / 8 + π)) t [(((va.toUInt32 >>> ((16 : Int32) &&& 31).toUInt32).toInt32) &&& (255 : Int32)), (((va.toUInt32 >>> ((8 : Int32) &&& 31).toUInt32).toInt32) &&& (255 : Int32)), (va &&& (255 : Int32)), (((vb.toUInt32 >>> ((16 : Int32) &&& 31).toUInt32).toInt32) &&& (255 : Int32)), (((vb.toUInt32 >>> ((8 : Int32) &&& 31).toUInt32).toInt32) &&& (255 : Int32)), (vb &&& (255 : Int32)), 0, 0, 0, 0, 0, 0, 0, 0, 0, 0] (48 + own_n k) [w0, w1, 0, 0] = some 1 := by
  have hD := own_D0 hk h0 h1
  obtain ⟨t0, t1, t2, t3⟩ := own_T ht hD.1 hD.2
  obtain ⟨va_0, va_1, va_2⟩ := own_V va0 va1
  obtain ⟨vb_0, vb_1, vb_2⟩ := own_V vb0 vb1
  refine own_end 2 t w0 w1 (48 + own_n k) (6 + (k + 7) / 8) _ (own_u2 ⟨k, hk⟩) (by omega) (by omega) _ [(((va.toUInt32 >>> ((16 : Int32) &&& 31).toUInt32).toInt32) &&& (255 : Int32)), (((va.toUInt32 >>> ((8 : Int32) &&& 31).toUInt32).toInt32) &&& (255 : Int32)), (va &&& (255 : Int32)), (((vb.toUInt32 >>> ((16 : Int32) &&& 31).toUInt32).toInt32) &&& (255 : Int32)), (((vb.toUInt32 >>> ((8 : Int32) &&& 31).toUInt32).toInt32) &&& (255 : Int32)), (vb &&& (255 : Int32)), ((t.toUInt32 >>> ((24 : Int32) &&& 31).toUInt32).toInt32), 0, 0, 0, 0, 0, 0, 0, 0, 0] [(((va.toUInt32 >>> ((16 : Int32) &&& 31).toUInt32).toInt32) &&& (255 : Int32)), (((va.toUInt32 >>> ((8 : Int32) &&& 31).toUInt32).toInt32) &&& (255 : Int32)), (va &&& (255 : Int32)), (((vb.toUInt32 >>> ((16 : Int32) &&& 31).toUInt32).toInt32) &&& (255 : Int32)), (((vb.toUInt32 >>> ((8 : Int32) &&& 31).toUInt32).toInt32) &&& (255 : Int32)), (vb &&& (255 : Int32)), ((t.toUInt32 >>> ((24 : Int32) &&& 31).toUInt32).toInt32), (((t.toUInt32 >>> ((16 : Int32) &&& 31).toUInt32).toInt32) &&& (255 : Int32)), 0, 0, 0, 0, 0, 0, 0, 0] [(((va.toUInt32 >>> ((16 : Int32) &&& 31).toUInt32).toInt32) &&& (255 : Int32)), (((va.toUInt32 >>> ((8 : Int32) &&& 31).toUInt32).toInt32) &&& (255 : Int32)), (va &&& (255 : Int32)), (((vb.toUInt32 >>> ((16 : Int32) &&& 31).toUInt32).toInt32) &&& (255 : Int32)), (((vb.toUInt32 >>> ((8 : Int32) &&& 31).toUInt32).toInt32) &&& (255 : Int32)), (vb &&& (255 : Int32)), ((t.toUInt32 >>> ((24 : Int32) &&& 31).toUInt32).toInt32), (((t.toUInt32 >>> ((16 : Int32) &&& 31).toUInt32).toInt32) &&& (255 : Int32)), (((t.toUInt32 >>> ((8 : Int32) &&& 31).toUInt32).toInt32) &&& (255 : Int32)), 0, 0, 0, 0, 0, 0, 0] [(((va.toUInt32 >>> ((16 : Int32) &&& 31).toUInt32).toInt32) &&& (255 : Int32)), (((va.toUInt32 >>> ((8 : Int32) &&& 31).toUInt32).toInt32) &&& (255 : Int32)), (va &&& (255 : Int32)), (((vb.toUInt32 >>> ((16 : Int32) &&& 31).toUInt32).toInt32) &&& (255 : Int32)), (((vb.toUInt32 >>> ((8 : Int32) &&& 31).toUInt32).toInt32) &&& (255 : Int32)), (vb &&& (255 : Int32)), ((t.toUInt32 >>> ((24 : Int32) &&& 31).toUInt32).toInt32), (((t.toUInt32 >>> ((16 : Int32) &&& 31).toUInt32).toInt32) &&& (255 : Int32)), (((t.toUInt32 >>> ((8 : Int32) &&& 31).toUInt32).toInt32) &&& (255 : Int32)), (t &&& (255 : Int32)), 0, 0, 0, 0, 0, 0] rfl rfl rfl rfl rfl ?_
  intro i hi
  have h : i = 0 ∨ i = 1 ∨ i = 2 ∨ i = 3 ∨ i = 4 ∨ i = 5 ∨ i = 6 ∨ i = 7 ∨ i = 8 ∨ i = 9 ∨ i = 10 ∨ i = 11 ∨ i = 12 ∨ i = 13 ∨ i = 14 ∨ i = 15 := by omega
  rcases h with rfl | rfl | rfl | rfl | rfl | rfl | rfl | rfl | rfl | rfl | rfl | rfl | rfl | rfl | rfl | rfl
  · refine ⟨fun _ => congrArg some (Int32.toInt_inj.mp ?_), fun h => ?_⟩
    · refine va_0.trans (Eq.trans ?_ (own_Bv w0 0 56 (by decide) (by decide)).symm)
      rw [g0]; omega
    · omega
  · refine ⟨fun _ => congrArg some (Int32.toInt_inj.mp ?_), fun h => ?_⟩
    · refine va_1.trans (Eq.trans ?_ (own_Bv w0 1 48 (by decide) (by decide)).symm)
      rw [g0]; omega
    · omega
  · refine ⟨fun _ => congrArg some (Int32.toInt_inj.mp ?_), fun h => ?_⟩
    · refine va_2.trans (Eq.trans ?_ (own_Bv w0 2 40 (by decide) (by decide)).symm)
      rw [g0]; omega
    · omega
  · refine ⟨fun _ => congrArg some (Int32.toInt_inj.mp ?_), fun h => ?_⟩
    · refine vb_0.trans (Eq.trans ?_ (own_Bv w0 3 32 (by decide) (by decide)).symm)
      rw [g0]; omega
    · omega
  · refine ⟨fun _ => congrArg some (Int32.toInt_inj.mp ?_), fun h => ?_⟩
    · refine vb_1.trans (Eq.trans ?_ (own_Bv w0 4 24 (by decide) (by decide)).symm)
      rw [g0]; omega
    · omega
  · refine ⟨fun _ => congrArg some (Int32.toInt_inj.mp ?_), fun h => ?_⟩
    · refine vb_2.trans (Eq.trans ?_ (own_Bv w0 5 16 (by decide) (by decide)).symm)
      rw [g0]; omega
    · omega
  · refine ⟨fun _ => congrArg some (Int32.toInt_inj.mp ?_), fun h => ?_⟩
    · refine t0.trans (Eq.trans ?_ (own_Bv w0 6 8 (by decide) (by decide)).symm)
      rw [g0]; omega
    · refine congrArg some (Int32.toInt_inj.mp (t0.trans ?_))
      have z : own_D v k % 4294967296 = 0 := own_Dlow v k 0 hk (by decide) (by omega)
      show _ = (0 : Int)
      omega
  · refine ⟨fun _ => congrArg some (Int32.toInt_inj.mp ?_), fun h => ?_⟩
    · refine t1.trans (Eq.trans ?_ (own_Bz w0 7 (by decide)).symm)
      rw [g0]; omega
    · refine congrArg some (Int32.toInt_inj.mp (t1.trans ?_))
      have z : own_D v k % 16777216 = 0 := own_Dlow v k 1 hk (by decide) (by omega)
      show _ = (0 : Int)
      omega
  · refine ⟨fun _ => congrArg some (Int32.toInt_inj.mp ?_), fun h => ?_⟩
    · refine t2.trans (Eq.trans ?_ (own_Bv w1 8 56 (by decide) (by decide)).symm)
      rw [g1]; omega
    · refine congrArg some (Int32.toInt_inj.mp (t2.trans ?_))
      have z : own_D v k % 65536 = 0 := own_Dlow v k 2 hk (by decide) (by omega)
      show _ = (0 : Int)
      omega
  · refine ⟨fun _ => congrArg some (Int32.toInt_inj.mp ?_), fun h => ?_⟩
    · refine t3.trans (Eq.trans ?_ (own_Bv w1 9 48 (by decide) (by decide)).symm)
      rw [g1]; omega
    · refine congrArg some (Int32.toInt_inj.mp (t3.trans ?_))
      have z : own_D v k % 256 = 0 := own_Dlow v k 3 hk (by decide) (by omega)
      show _ = (0 : Int)
      omega
  · exact ⟨fun h => by omega, fun _ => rfl⟩
  · exact ⟨fun h => by omega, fun _ => rfl⟩
  · exact ⟨fun h => by omega, fun _ => rfl⟩
  · exact ⟨fun h => by omega, fun _ => rfl⟩
  · exact ⟨fun h => by omega, fun _ => rfl⟩
  · exact ⟨fun h => by omega, fun _ => rfl⟩
set_option maxHeartbeats 8000000 in
theorem own_case3 (va : Int32) (va0 : 0 ≤ va.toInt) (va1 : va.toInt < 16777216) (vb : Int32) (vb0 : 0 ≤ vb.toInt) (vb1 : vb.toInt < 16777216) (vc : Int32) (vc0 : 0 ≤ vc.toInt) (vc1 : vc.toInt < 16777216) (k π : Nat) (hk : k < 32) (hπ : π < 4) (v : Int32) (h0 : 0 ≤ v.toInt) (h1 : v.toInt < (2 ^ k : Nat)) (w0 w1 : Int64) (g0 : w0.toInt % 18446744073709551616 = va.toInt * 1099511627776 + vb.toInt * 65536 + vc.toInt / 256) (g1 : w1.toInt % 18446744073709551616 = vc.toInt % 256 * 72057594037927936 + own_D v k * 16777216) (t : Int32) (ht : (t.toInt - own_D v k) % 4294967296 = 0) :
    f0_195 3 (own_n (9 + (k + 7) / 8 + π)) t [(((va.toUInt32 >>> ((16 : Int32) &&& 31).toUInt32).toInt32) &&& (255 : Int32)), (((va.toUInt32 >>> ((8 : Int32) &&& 31).toUInt32).toInt32) &&& (255 : Int32)), (va &&& (255 : Int32)), (((vb.toUInt32 >>> ((16 : Int32) &&& 31).toUInt32).toInt32) &&& (255 : Int32)), (((vb.toUInt32 >>> ((8 : Int32) &&& 31).toUInt32).toInt32) &&& (255 : Int32)), (vb &&& (255 : Int32)), (((vc.toUInt32 >>> ((16 : Int32) &&& 31).toUInt32).toInt32) &&& (255 : Int32)), (((vc.toUInt32 >>> ((8 : Int32) &&& 31).toUInt32).toInt32) &&& (255 : Int32)), (vc &&& (255 : Int32)), 0, 0, 0, 0, 0, 0, 0] (72 + own_n k) [w0, w1, 0, 0] = some 1 := by
  have hD := own_D0 hk h0 h1
  obtain ⟨t0, t1, t2, t3⟩ := own_T ht hD.1 hD.2
  obtain ⟨va_0, va_1, va_2⟩ := own_V va0 va1
  obtain ⟨vb_0, vb_1, vb_2⟩ := own_V vb0 vb1
  obtain ⟨vc_0, vc_1, vc_2⟩ := own_V vc0 vc1
  refine own_end 3 t w0 w1 (72 + own_n k) (9 + (k + 7) / 8) _ (own_u3 ⟨k, hk⟩) (by omega) (by omega) _ [(((va.toUInt32 >>> ((16 : Int32) &&& 31).toUInt32).toInt32) &&& (255 : Int32)), (((va.toUInt32 >>> ((8 : Int32) &&& 31).toUInt32).toInt32) &&& (255 : Int32)), (va &&& (255 : Int32)), (((vb.toUInt32 >>> ((16 : Int32) &&& 31).toUInt32).toInt32) &&& (255 : Int32)), (((vb.toUInt32 >>> ((8 : Int32) &&& 31).toUInt32).toInt32) &&& (255 : Int32)), (vb &&& (255 : Int32)), (((vc.toUInt32 >>> ((16 : Int32) &&& 31).toUInt32).toInt32) &&& (255 : Int32)), (((vc.toUInt32 >>> ((8 : Int32) &&& 31).toUInt32).toInt32) &&& (255 : Int32)), (vc &&& (255 : Int32)), ((t.toUInt32 >>> ((24 : Int32) &&& 31).toUInt32).toInt32), 0, 0, 0, 0, 0, 0] [(((va.toUInt32 >>> ((16 : Int32) &&& 31).toUInt32).toInt32) &&& (255 : Int32)), (((va.toUInt32 >>> ((8 : Int32) &&& 31).toUInt32).toInt32) &&& (255 : Int32)), (va &&& (255 : Int32)), (((vb.toUInt32 >>> ((16 : Int32) &&& 31).toUInt32).toInt32) &&& (255 : Int32)), (((vb.toUInt32 >>> ((8 : Int32) &&& 31).toUInt32).toInt32) &&& (255 : Int32)), (vb &&& (255 : Int32)), (((vc.toUInt32 >>> ((16 : Int32) &&& 31).toUInt32).toInt32) &&& (255 : Int32)), (((vc.toUInt32 >>> ((8 : Int32) &&& 31).toUInt32).toInt32) &&& (255 : Int32)), (vc &&& (255 : Int32)), ((t.toUInt32 >>> ((24 : Int32) &&& 31).toUInt32).toInt32), (((t.toUInt32 >>> ((16 : Int32) &&& 31).toUInt32).toInt32) &&& (255 : Int32)), 0, 0, 0, 0, 0] [(((va.toUInt32 >>> ((16 : Int32) &&& 31).toUInt32).toInt32) &&& (255 : Int32)), (((va.toUInt32 >>> ((8 : Int32) &&& 31).toUInt32).toInt32) &&& (255 : Int32)), (va &&& (255 : Int32)), (((vb.toUInt32 >>> ((16 : Int32) &&& 31).toUInt32).toInt32) &&& (255 : Int32)), (((vb.toUInt32 >>> ((8 : Int32) &&& 31).toUInt32).toInt32) &&& (255 : Int32)), (vb &&& (255 : Int32)), (((vc.toUInt32 >>> ((16 : Int32) &&& 31).toUInt32).toInt32) &&& (255 : Int32)), (((vc.toUInt32 >>> ((8 : Int32) &&& 31).toUInt32).toInt32) &&& (255 : Int32)), (vc &&& (255 : Int32)), ((t.toUInt32 >>> ((24 : Int32) &&& 31).toUInt32).toInt32), (((t.toUInt32 >>> ((16 : Int32) &&& 31).toUInt32).toInt32) &&& (255 : Int32)), (((t.toUInt32 >>> ((8 : Int32) &&& 31).toUInt32).toInt32) &&& (255 : Int32)), 0, 0, 0, 0] [(((va.toUInt32 >>> ((16 : Int32) &&& 31).toUInt32).toInt32) &&& (255 : Int32)), (((va.toUInt32 >>> ((8 : Int32) &&& 31).toUInt32).toInt32) &&& (255 : Int32)), (va &&& (255 : Int32)), (((vb.toUInt32 >>> ((16 : Int32) &&& 31).toUInt32).toInt32) &&& (255 : Int32)), (((vb.toUInt32 >>> ((8 : Int32) &&& 31).toUInt32).toInt32) &&& (255 : Int32)), (vb &&& (255 : Int32)), (((vc.toUInt32 >>> ((16 : Int32) &&& 31).toUInt32).toInt32) &&& (255 : Int32)), (((vc.toUInt32 >>> ((8 : Int32) &&& 31).toUInt32).toInt32) &&& (255 : Int32)), (vc &&& (255 : Int32)), ((t.toUInt32 >>> ((24 : Int32) &&& 31).toUInt32).toInt32), (((t.toUInt32 >>> ((16 : Int32) &&& 31).toUInt32).toInt32) &&& (255 : Int32)), (((t.toUInt32 >>> ((8 : Int32) &&& 31).toUInt32).toInt32) &&& (255 : Int32)), (t &&& (255 : Int32)), 0, 0, 0] rfl rfl rfl rfl rfl ?_
  intro i hi
  have h : i = 0 ∨ i = 1 ∨ i = 2 ∨ i = 3 ∨ i = 4 ∨ i = 5 ∨ i = 6 ∨ i = 7 ∨ i = 8 ∨ i = 9 ∨ i = 10 ∨ i = 11 ∨ i = 12 ∨ i = 13 ∨ i = 14 ∨ i = 15 := by omega
  rcases h with rfl | rfl | rfl | rfl | rfl | rfl | rfl | rfl | rfl | rfl | rfl | rfl | rfl | rfl | rfl | rfl
  · refine ⟨fun _ => congrArg some (Int32.toInt_inj.mp ?_), fun h => ?_⟩
    · refine va_0.trans (Eq.trans ?_ (own_Bv w0 0 56 (by decide) (by decide)).symm)
      rw [g0]; omega
    · omega
  · refine ⟨fun _ => congrArg some (Int32.toInt_inj.mp ?_), fun h => ?_⟩
    · refine va_1.trans (Eq.trans ?_ (own_Bv w0 1 48 (by decide) (by decide)).symm)
      rw [g0]; omega
    · omega
  · refine ⟨fun _ => congrArg some (Int32.toInt_inj.mp ?_), fun h => ?_⟩
    · refine va_2.trans (Eq.trans ?_ (own_Bv w0 2 40 (by decide) (by decide)).symm)
      rw [g0]; omega
    · omega
  · refine ⟨fun _ => congrArg some (Int32.toInt_inj.mp ?_), fun h => ?_⟩
    · refine vb_0.trans (Eq.trans ?_ (own_Bv w0 3 32 (by decide) (by decide)).symm)
      rw [g0]; omega
    · omega
  · refine ⟨fun _ => congrArg some (Int32.toInt_inj.mp ?_), fun h => ?_⟩
    · refine vb_1.trans (Eq.trans ?_ (own_Bv w0 4 24 (by decide) (by decide)).symm)
      rw [g0]; omega
    · omega
  · refine ⟨fun _ => congrArg some (Int32.toInt_inj.mp ?_), fun h => ?_⟩
    · refine vb_2.trans (Eq.trans ?_ (own_Bv w0 5 16 (by decide) (by decide)).symm)
      rw [g0]; omega
    · omega
  · refine ⟨fun _ => congrArg some (Int32.toInt_inj.mp ?_), fun h => ?_⟩
    · refine vc_0.trans (Eq.trans ?_ (own_Bv w0 6 8 (by decide) (by decide)).symm)
      rw [g0]; omega
    · omega
  · refine ⟨fun _ => congrArg some (Int32.toInt_inj.mp ?_), fun h => ?_⟩
    · refine vc_1.trans (Eq.trans ?_ (own_Bz w0 7 (by decide)).symm)
      rw [g0]; omega
    · omega
  · refine ⟨fun _ => congrArg some (Int32.toInt_inj.mp ?_), fun h => ?_⟩
    · refine vc_2.trans (Eq.trans ?_ (own_Bv w1 8 56 (by decide) (by decide)).symm)
      rw [g1]; omega
    · omega
  · refine ⟨fun _ => congrArg some (Int32.toInt_inj.mp ?_), fun h => ?_⟩
    · refine t0.trans (Eq.trans ?_ (own_Bv w1 9 48 (by decide) (by decide)).symm)
      rw [g1]; omega
    · refine congrArg some (Int32.toInt_inj.mp (t0.trans ?_))
      have z : own_D v k % 4294967296 = 0 := own_Dlow v k 0 hk (by decide) (by omega)
      show _ = (0 : Int)
      omega
  · refine ⟨fun _ => congrArg some (Int32.toInt_inj.mp ?_), fun h => ?_⟩
    · refine t1.trans (Eq.trans ?_ (own_Bv w1 10 40 (by decide) (by decide)).symm)
      rw [g1]; omega
    · refine congrArg some (Int32.toInt_inj.mp (t1.trans ?_))
      have z : own_D v k % 16777216 = 0 := own_Dlow v k 1 hk (by decide) (by omega)
      show _ = (0 : Int)
      omega
  · refine ⟨fun _ => congrArg some (Int32.toInt_inj.mp ?_), fun h => ?_⟩
    · refine t2.trans (Eq.trans ?_ (own_Bv w1 11 32 (by decide) (by decide)).symm)
      rw [g1]; omega
    · refine congrArg some (Int32.toInt_inj.mp (t2.trans ?_))
      have z : own_D v k % 65536 = 0 := own_Dlow v k 2 hk (by decide) (by omega)
      show _ = (0 : Int)
      omega
  · refine ⟨fun _ => congrArg some (Int32.toInt_inj.mp ?_), fun h => ?_⟩
    · refine t3.trans (Eq.trans ?_ (own_Bv w1 12 24 (by decide) (by decide)).symm)
      rw [g1]; omega
    · refine congrArg some (Int32.toInt_inj.mp (t3.trans ?_))
      have z : own_D v k % 256 = 0 := own_Dlow v k 3 hk (by decide) (by omega)
      show _ = (0 : Int)
      omega
  · exact ⟨fun h => by omega, fun _ => rfl⟩
  · exact ⟨fun h => by omega, fun _ => rfl⟩
  · exact ⟨fun h => by omega, fun _ => rfl⟩
-- the law
theorem own_put (p v a b c : Int32) (l la lb lc : List Int32) (e1 : stx l p (((v.toUInt32 >>> ((16 : Int32) &&& 31).toUInt32).toInt32) &&& (255 : Int32)) = some la) (e2 : stx la (p + 1) (((v.toUInt32 >>> ((8 : Int32) &&& 31).toUInt32).toInt32) &&& (255 : Int32)) = some lb) (e3 : stx lb (p + 2) (v &&& (255 : Int32)) = some lc) : f6 p v l = some lc := by
  rw [f6, e1, Option.bind_some, e2, Option.bind_some, e3, Option.bind_some]
theorem own_f1 : f1 0 = some [0, 0, 0, 0] := rfl
set_option maxHeartbeats 8000000 in
theorem own_law0 (va : Int32) (va0 : 0 ≤ va.toInt) (va1 : va.toInt < 16777216) (vb : Int32) (vb0 : 0 ≤ vb.toInt) (vb1 : vb.toInt < 16777216) (vc : Int32) (vc0 : 0 ≤ vc.toInt) (vc1 : vc.toInt < 16777216) (k π : Nat) (hk : k < 32) (hπ : π < 4) (v : Int32) (h0 : 0 ≤ v.toInt) (h1 : v.toInt < (2 ^ k : Nat)) : f0_84 0 (own_n k) va vb vc v (own_n (0 + (k + 7) / 8 + π)) = some 1 := by
  have hD := own_D0 hk h0 h1
  have z0 : (0 : Int64).toInt = 0 := by decide
  rw [f0_84, own_f1, Option.bind_some]
  rw [if_pos (by decide), f0_122, if_pos (by decide), f0_145, if_pos (by decide)]
  obtain ⟨w, hf, hw⟩ := own_ap0 v k hk h0 h1
  exact own_169 0 k hk v h0 h1 _ _ _ _ _ _ hf fun t ht => own_case0 k π hk hπ v h0 h1 w 0 (own_mod hw (by omega) (by omega)) (by rw [z0]; rfl) t ht
set_option maxHeartbeats 8000000 in
theorem own_law1 (va : Int32) (va0 : 0 ≤ va.toInt) (va1 : va.toInt < 16777216) (vb : Int32) (vb0 : 0 ≤ vb.toInt) (vb1 : vb.toInt < 16777216) (vc : Int32) (vc0 : 0 ≤ vc.toInt) (vc1 : vc.toInt < 16777216) (k π : Nat) (hk : k < 32) (hπ : π < 4) (v : Int32) (h0 : 0 ≤ v.toInt) (h1 : v.toInt < (2 ^ k : Nat)) : f0_84 1 (own_n k) va vb vc v (own_n (3 + (k + 7) / 8 + π)) = some 1 := by
  have hD := own_D0 hk h0 h1
  have z0 : (0 : Int64).toInt = 0 := by decide
  rw [f0_84, own_f1, Option.bind_some]
  obtain ⟨wa, fa, qa⟩ := own_ap0 va 24 (by decide) va0 va1
  rw [own_D24] at qa
  rw [if_neg (by decide), show f3 va 24 0 [0, 0, 0, 0] = some (24, [wa, 0, 0, 0]) from fa, Option.bind_some, (own_put 0 va 0 0 0 [0, 0, 0, 0, 0, 0, 0, 0, 0, 0, 0, 0, 0, 0, 0, 0] [(((va.toUInt32 >>> ((16 : Int32) &&& 31).toUInt32).toInt32) &&& (255 : Int32)), 0, 0, 0, 0, 0, 0, 0, 0, 0, 0, 0, 0, 0, 0, 0] [(((va.toUInt32 >>> ((16 : Int32) &&& 31).toUInt32).toInt32) &&& (255 : Int32)), (((va.toUInt32 >>> ((8 : Int32) &&& 31).toUInt32).toInt32) &&& (255 : Int32)), 0, 0, 0, 0, 0, 0, 0, 0, 0, 0, 0, 0, 0, 0] [(((va.toUInt32 >>> ((16 : Int32) &&& 31).toUInt32).toInt32) &&& (255 : Int32)), (((va.toUInt32 >>> ((8 : Int32) &&& 31).toUInt32).toInt32) &&& (255 : Int32)), (va &&& (255 : Int32)), 0, 0, 0, 0, 0, 0, 0, 0, 0, 0, 0, 0, 0] rfl rfl rfl), Option.bind_some, f0_122]
  rw [if_pos (by decide), f0_145, if_pos (by decide)]
  obtain ⟨w, hf, hw⟩ := own_ap24 v k hk h0 h1 wa (by omega)
  exact own_169 1 k hk v h0 h1 _ _ _ _ _ _ hf fun t ht => own_case1 va va0 va1 k π hk hπ v h0 h1 w 0 (own_mod (r := va.toInt * 1099511627776 + own_D v k * 256) (by omega) (by omega) (by omega)) (by rw [z0]; rfl) t ht
set_option maxHeartbeats 8000000 in
theorem own_law2 (va : Int32) (va0 : 0 ≤ va.toInt) (va1 : va.toInt < 16777216) (vb : Int32) (vb0 : 0 ≤ vb.toInt) (vb1 : vb.toInt < 16777216) (vc : Int32) (vc0 : 0 ≤ vc.toInt) (vc1 : vc.toInt < 16777216) (k π : Nat) (hk : k < 32) (hπ : π < 4) (v : Int32) (h0 : 0 ≤ v.toInt) (h1 : v.toInt < (2 ^ k : Nat)) : f0_84 2 (own_n k) va vb vc v (own_n (6 + (k + 7) / 8 + π)) = some 1 := by
  have hD := own_D0 hk h0 h1
  have z0 : (0 : Int64).toInt = 0 := by decide
  rw [f0_84, own_f1, Option.bind_some]
  obtain ⟨wa, fa, qa⟩ := own_ap0 va 24 (by decide) va0 va1
  rw [own_D24] at qa
  rw [if_neg (by decide), show f3 va 24 0 [0, 0, 0, 0] = some (24, [wa, 0, 0, 0]) from fa, Option.bind_some, (own_put 0 va 0 0 0 [0, 0, 0, 0, 0, 0, 0, 0, 0, 0, 0, 0, 0, 0, 0, 0] [(((va.toUInt32 >>> ((16 : Int32) &&& 31).toUInt32).toInt32) &&& (255 : Int32)), 0, 0, 0, 0, 0, 0, 0, 0, 0, 0, 0, 0, 0, 0, 0] [(((va.toUInt32 >>> ((16 : Int32) &&& 31).toUInt32).toInt32) &&& (255 : Int32)), (((va.toUInt32 >>> ((8 : Int32) &&& 31).toUInt32).toInt32) &&& (255 : Int32)), 0, 0, 0, 0, 0, 0, 0, 0, 0, 0, 0, 0, 0, 0] [(((va.toUInt32 >>> ((16 : Int32) &&& 31).toUInt32).toInt32) &&& (255 : Int32)), (((va.toUInt32 >>> ((8 : Int32) &&& 31).toUInt32).toInt32) &&& (255 : Int32)), (va &&& (255 : Int32)), 0, 0, 0, 0, 0, 0, 0, 0, 0, 0, 0, 0, 0] rfl rfl rfl), Option.bind_some, f0_122]
  obtain ⟨wb, fb, qb⟩ := own_ap24 vb 24 (by decide) vb0 vb1 wa (by omega)
  rw [own_D24] at qb
  rw [if_neg (by decide), show f3 vb 24 24 [wa, 0, 0, 0] = some (48, [wb, 0, 0, 0]) from fb, Option.bind_some, (own_put 3 vb 0 0 0 [(((va.toUInt32 >>> ((16 : Int32) &&& 31).toUInt32).toInt32) &&& (255 : Int32)), (((va.toUInt32 >>> ((8 : Int32) &&& 31).toUInt32).toInt32) &&& (255 : Int32)), (va &&& (255 : Int32)), 0, 0, 0, 0, 0, 0, 0, 0, 0, 0, 0, 0, 0] [(((va.toUInt32 >>> ((16 : Int32) &&& 31).toUInt32).toInt32) &&& (255 : Int32)), (((va.toUInt32 >>> ((8 : Int32) &&& 31).toUInt32).toInt32) &&& (255 : Int32)), (va &&& (255 : Int32)), (((vb.toUInt32 >>> ((16 : Int32) &&& 31).toUInt32).toInt32) &&& (255 : Int32)), 0, 0, 0, 0, 0, 0, 0, 0, 0, 0, 0, 0] [(((va.toUInt32 >>> ((16 : Int32) &&& 31).toUInt32).toInt32) &&& (255 : Int32)), (((va.toUInt32 >>> ((8 : Int32) &&& 31).toUInt32).toInt32) &&& (255 : Int32)), (va &&& (255 : Int32)), (((vb.toUInt32 >>> ((16 : Int32) &&& 31).toUInt32).toInt32) &&& (255 : Int32)), (((vb.toUInt32 >>> ((8 : Int32) &&& 31).toUInt32).toInt32) &&& (255 : Int32)), 0, 0, 0, 0, 0, 0, 0, 0, 0, 0, 0] [(((va.toUInt32 >>> ((16 : Int32) &&& 31).toUInt32).toInt32) &&& (255 : Int32)), (((va.toUInt32 >>> ((8 : Int32) &&& 31).toUInt32).toInt32) &&& (255 : Int32)), (va &&& (255 : Int32)), (((vb.toUInt32 >>> ((16 : Int32) &&& 31).toUInt32).toInt32) &&& (255 : Int32)), (((vb.toUInt32 >>> ((8 : Int32) &&& 31).toUInt32).toInt32) &&& (255 : Int32)), (vb &&& (255 : Int32)), 0, 0, 0, 0, 0, 0, 0, 0, 0, 0] rfl rfl rfl), Option.bind_some, f0_145]
  rw [if_pos (by decide)]
  obtain ⟨w, w1, hf, hw, hw1⟩ := own_ap48 v k hk h0 h1 wb (by omega)
  exact own_169 2 k hk v h0 h1 _ _ _ _ _ _ hf fun t ht => own_case2 va va0 va1 vb vb0 vb1 k π hk hπ v h0 h1 w w1 (own_mod (r := va.toInt * 1099511627776 + vb.toInt * 65536 + own_D v k / 65536) (by omega) (by omega) (by omega)) (own_mod hw1 (by omega) (by omega)) t ht
set_option maxHeartbeats 8000000 in
theorem own_law3 (va : Int32) (va0 : 0 ≤ va.toInt) (va1 : va.toInt < 16777216) (vb : Int32) (vb0 : 0 ≤ vb.toInt) (vb1 : vb.toInt < 16777216) (vc : Int32) (vc0 : 0 ≤ vc.toInt) (vc1 : vc.toInt < 16777216) (k π : Nat) (hk : k < 32) (hπ : π < 4) (v : Int32) (h0 : 0 ≤ v.toInt) (h1 : v.toInt < (2 ^ k : Nat)) : f0_84 3 (own_n k) va vb vc v (own_n (9 + (k + 7) / 8 + π)) = some 1 := by
  have hD := own_D0 hk h0 h1
  have z0 : (0 : Int64).toInt = 0 := by decide
  rw [f0_84, own_f1, Option.bind_some]
  obtain ⟨wa, fa, qa⟩ := own_ap0 va 24 (by decide) va0 va1
  rw [own_D24] at qa
  rw [if_neg (by decide), show f3 va 24 0 [0, 0, 0, 0] = some (24, [wa, 0, 0, 0]) from fa, Option.bind_some, (own_put 0 va 0 0 0 [0, 0, 0, 0, 0, 0, 0, 0, 0, 0, 0, 0, 0, 0, 0, 0] [(((va.toUInt32 >>> ((16 : Int32) &&& 31).toUInt32).toInt32) &&& (255 : Int32)), 0, 0, 0, 0, 0, 0, 0, 0, 0, 0, 0, 0, 0, 0, 0] [(((va.toUInt32 >>> ((16 : Int32) &&& 31).toUInt32).toInt32) &&& (255 : Int32)), (((va.toUInt32 >>> ((8 : Int32) &&& 31).toUInt32).toInt32) &&& (255 : Int32)), 0, 0, 0, 0, 0, 0, 0, 0, 0, 0, 0, 0, 0, 0] [(((va.toUInt32 >>> ((16 : Int32) &&& 31).toUInt32).toInt32) &&& (255 : Int32)), (((va.toUInt32 >>> ((8 : Int32) &&& 31).toUInt32).toInt32) &&& (255 : Int32)), (va &&& (255 : Int32)), 0, 0, 0, 0, 0, 0, 0, 0, 0, 0, 0, 0, 0] rfl rfl rfl), Option.bind_some, f0_122]
  obtain ⟨wb, fb, qb⟩ := own_ap24 vb 24 (by decide) vb0 vb1 wa (by omega)
  rw [own_D24] at qb
  rw [if_neg (by decide), show f3 vb 24 24 [wa, 0, 0, 0] = some (48, [wb, 0, 0, 0]) from fb, Option.bind_some, (own_put 3 vb 0 0 0 [(((va.toUInt32 >>> ((16 : Int32) &&& 31).toUInt32).toInt32) &&& (255 : Int32)), (((va.toUInt32 >>> ((8 : Int32) &&& 31).toUInt32).toInt32) &&& (255 : Int32)), (va &&& (255 : Int32)), 0, 0, 0, 0, 0, 0, 0, 0, 0, 0, 0, 0, 0] [(((va.toUInt32 >>> ((16 : Int32) &&& 31).toUInt32).toInt32) &&& (255 : Int32)), (((va.toUInt32 >>> ((8 : Int32) &&& 31).toUInt32).toInt32) &&& (255 : Int32)), (va &&& (255 : Int32)), (((vb.toUInt32 >>> ((16 : Int32) &&& 31).toUInt32).toInt32) &&& (255 : Int32)), 0, 0, 0, 0, 0, 0, 0, 0, 0, 0, 0, 0] [(((va.toUInt32 >>> ((16 : Int32) &&& 31).toUInt32).toInt32) &&& (255 : Int32)), (((va.toUInt32 >>> ((8 : Int32) &&& 31).toUInt32).toInt32) &&& (255 : Int32)), (va &&& (255 : Int32)), (((vb.toUInt32 >>> ((16 : Int32) &&& 31).toUInt32).toInt32) &&& (255 : Int32)), (((vb.toUInt32 >>> ((8 : Int32) &&& 31).toUInt32).toInt32) &&& (255 : Int32)), 0, 0, 0, 0, 0, 0, 0, 0, 0, 0, 0] [(((va.toUInt32 >>> ((16 : Int32) &&& 31).toUInt32).toInt32) &&& (255 : Int32)), (((va.toUInt32 >>> ((8 : Int32) &&& 31).toUInt32).toInt32) &&& (255 : Int32)), (va &&& (255 : Int32)), (((vb.toUInt32 >>> ((16 : Int32) &&& 31).toUInt32).toInt32) &&& (255 : Int32)), (((vb.toUInt32 >>> ((8 : Int32) &&& 31).toUInt32).toInt32) &&& (255 : Int32)), (vb &&& (255 : Int32)), 0, 0, 0, 0, 0, 0, 0, 0, 0, 0] rfl rfl rfl), Option.bind_some, f0_145]
  obtain ⟨wc, wd, fc, qc, qd⟩ := own_ap48 vc 24 (by decide) vc0 vc1 wb (by omega)
  rw [own_D24] at qc qd
  rw [if_neg (by decide), show f3 vc 24 48 [wb, 0, 0, 0] = some (72, [wc, wd, 0, 0]) from fc, Option.bind_some, (own_put 6 vc 0 0 0 [(((va.toUInt32 >>> ((16 : Int32) &&& 31).toUInt32).toInt32) &&& (255 : Int32)), (((va.toUInt32 >>> ((8 : Int32) &&& 31).toUInt32).toInt32) &&& (255 : Int32)), (va &&& (255 : Int32)), (((vb.toUInt32 >>> ((16 : Int32) &&& 31).toUInt32).toInt32) &&& (255 : Int32)), (((vb.toUInt32 >>> ((8 : Int32) &&& 31).toUInt32).toInt32) &&& (255 : Int32)), (vb &&& (255 : Int32)), 0, 0, 0, 0, 0, 0, 0, 0, 0, 0] [(((va.toUInt32 >>> ((16 : Int32) &&& 31).toUInt32).toInt32) &&& (255 : Int32)), (((va.toUInt32 >>> ((8 : Int32) &&& 31).toUInt32).toInt32) &&& (255 : Int32)), (va &&& (255 : Int32)), (((vb.toUInt32 >>> ((16 : Int32) &&& 31).toUInt32).toInt32) &&& (255 : Int32)), (((vb.toUInt32 >>> ((8 : Int32) &&& 31).toUInt32).toInt32) &&& (255 : Int32)), (vb &&& (255 : Int32)), (((vc.toUInt32 >>> ((16 : Int32) &&& 31).toUInt32).toInt32) &&& (255 : Int32)), 0, 0, 0, 0, 0, 0, 0, 0, 0] [(((va.toUInt32 >>> ((16 : Int32) &&& 31).toUInt32).toInt32) &&& (255 : Int32)), (((va.toUInt32 >>> ((8 : Int32) &&& 31).toUInt32).toInt32) &&& (255 : Int32)), (va &&& (255 : Int32)), (((vb.toUInt32 >>> ((16 : Int32) &&& 31).toUInt32).toInt32) &&& (255 : Int32)), (((vb.toUInt32 >>> ((8 : Int32) &&& 31).toUInt32).toInt32) &&& (255 : Int32)), (vb &&& (255 : Int32)), (((vc.toUInt32 >>> ((16 : Int32) &&& 31).toUInt32).toInt32) &&& (255 : Int32)), (((vc.toUInt32 >>> ((8 : Int32) &&& 31).toUInt32).toInt32) &&& (255 : Int32)), 0, 0, 0, 0, 0, 0, 0, 0] [(((va.toUInt32 >>> ((16 : Int32) &&& 31).toUInt32).toInt32) &&& (255 : Int32)), (((va.toUInt32 >>> ((8 : Int32) &&& 31).toUInt32).toInt32) &&& (255 : Int32)), (va &&& (255 : Int32)), (((vb.toUInt32 >>> ((16 : Int32) &&& 31).toUInt32).toInt32) &&& (255 : Int32)), (((vb.toUInt32 >>> ((8 : Int32) &&& 31).toUInt32).toInt32) &&& (255 : Int32)), (vb &&& (255 : Int32)), (((vc.toUInt32 >>> ((16 : Int32) &&& 31).toUInt32).toInt32) &&& (255 : Int32)), (((vc.toUInt32 >>> ((8 : Int32) &&& 31).toUInt32).toInt32) &&& (255 : Int32)), (vc &&& (255 : Int32)), 0, 0, 0, 0, 0, 0, 0] rfl rfl rfl), Option.bind_some]
  obtain ⟨w1, hf, hw1⟩ := own_ap72 v k hk h0 h1 wc wd (by omega)
  exact own_169 3 k hk v h0 h1 _ _ _ _ _ _ hf fun t ht => own_case3 va va0 va1 vb vb0 vb1 vc vc0 vc1 k π hk hπ v h0 h1 wc w1 (own_mod (r := va.toInt * 1099511627776 + vb.toInt * 65536 + vc.toInt / 256) (by omega) (by omega) (by omega)) (own_mod (r := vc.toInt % 256 * 72057594037927936 + own_D v k * 16777216) (by omega) (by omega) (by omega)) t ht
theorem own_m (x m : Int32) (j N : Nat) (hj : j ≤ 31) (hm : m.toBitVec.toNat = 2 ^ j - 1) (hN : N = 2 ^ j) : ∃ k, k < N ∧ x &&& m = own_n k := by
  have e := c_mask x m j hj hm
  have p : (0 : Int) < (2 ^ j : Nat) := by exact_mod_cast Nat.two_pow_pos _
  have l : 2 ^ j ≤ 2 ^ 31 := Nat.pow_le_pow_right (by decide) hj
  refine own_is _ N (by omega) ?_ ?_
  · rw [e]; exact Int.emod_nonneg _ (by omega)
  · rw [e, hN]; exact Int.emod_lt_of_pos _ p
theorem own_24 (x : Int32) : 0 ≤ (x &&& 16777215).toInt ∧ (x &&& 16777215).toInt < 16777216 := by
  have e : (x &&& 16777215).toInt = x.toInt % (2 ^ 24 : Nat) := c_mask x 16777215 24 (by decide) (by decide)
  constructor <;> omega
theorem own_all (n k π : Nat) (hn : n < 4) (hk : k < 32) (hπ : π < 4) (a b c v : Int32) (h0 : 0 ≤ v.toInt) (h1 : v.toInt < (2 ^ k : Nat)) : f0_60 (own_n n) (own_n k) (own_n π) (a &&& 16777215) (b &&& 16777215) (c &&& 16777215) v = some 1 := by
  rw [f0_60, own_cnt ⟨n, hn⟩ ⟨k, hk⟩ ⟨π, hπ⟩]
  have h : n = 0 ∨ n = 1 ∨ n = 2 ∨ n = 3 := by omega
  rcases h with rfl | rfl | rfl | rfl
  · exact own_law0 _ (own_24 a).1 (own_24 a).2 _ (own_24 b).1 (own_24 b).2 _ (own_24 c).1 (own_24 c).2 k π hk hπ v h0 h1
  · exact own_law1 _ (own_24 a).1 (own_24 a).2 _ (own_24 b).1 (own_24 b).2 _ (own_24 c).1 (own_24 c).2 k π hk hπ v h0 h1
  · exact own_law2 _ (own_24 a).1 (own_24 a).2 _ (own_24 b).1 (own_24 b).2 _ (own_24 c).1 (own_24 c).2 k π hk hπ v h0 h1
  · exact own_law3 _ (own_24 a).1 (own_24 a).2 _ (own_24 b).1 (own_24 b).2 _ (own_24 c).1 (own_24 c).2 k π hk hπ v h0 h1
theorem law_ok (x0 x1 x2 x3 x4 : Int32) : f0 x0 x1 x2 x3 x4 = some 1 := by
  obtain ⟨n, hn, e1⟩ := own_m x4 3 2 4 (by decide) (by decide) (by decide)
  obtain ⟨k, hk, e2⟩ := own_m ((x4.toUInt32 >>> ((2 : Int32) &&& 31).toUInt32).toInt32) 31 5 32 (by decide) (by decide) (by decide)
  obtain ⟨π, hπ, e3⟩ := own_m ((x4.toUInt32 >>> ((7 : Int32) &&& 31).toUInt32).toInt32) 3 2 4 (by decide) (by decide) (by decide)
  rw [f0, e1, e2, f0_15, e3, f0_24]
  by_cases hz : k = 0
  · subst hz
    rw [if_pos (show own_n 0 = 0 from rfl)]
    exact own_all n 0 π hn hk hπ x0 x1 x2 0 (by decide) (by decide)
  · rw [if_neg (own_nz ⟨k, hk⟩ hz)]
    have e := c_mask x3 _ k (by omega) (own_mI ⟨k, hk⟩)
    have p : (0 : Int) < (2 ^ k : Nat) := by exact_mod_cast Nat.two_pow_pos _
    exact own_all n k π hn hk hπ x0 x1 x2 _ (by rw [e]; exact Int.emod_nonneg _ (by omega)) (by rw [e]; exact Int.emod_lt_of_pos _ p)
set_option maxRecDepth 65536 in
set_option maxHeartbeats 40000000 in
theorem comes_1 {Post : Tables → Env → Array Value → State → Outcome → State → Prop} (hpost : ∀ tb e args s v u, (limb_1_1.after args s (.returned v) u = true ∧ limb_1_2.after args s (.returned v) u = true ∧ True) → FrameEnd s (.returned v) u (Jvm.fieldLocs frame_1_writes args s ++ Jvm.arrayLocs frame_1_arrays args s ++ Jvm.staticLocs frame_1_statics s) 16 192 → Post tb e args s (.returned v) u) :
    ArmFor flags0 classFile x code maxLocals ret World_1 tables_1 room_1 Calls_1 rest_1 Pre_1 Post := by
  intro l hfl _ _ p e ha hc hk s m args below hf hA hF happ hP
  obtain ⟨hcalls, hrest, hpre⟩ := hP
  obtain ⟨-, -, -, hnamed, -, -, -, hat⟩ := (Spec.applies_iff hf).mp happ
  obtain ⟨hg, hn⟩ := and_e (Cond.before_iff.mp (show (Jvm.Cond.and given_1 narrow_1).before args s = true from hpre))
  obtain ⟨g1, g2⟩ := and_e hg
  obtain ⟨g3, g4⟩ := and_e g2
  obtain ⟨g5, g6⟩ := and_e g4
  obtain ⟨g7, g8⟩ := and_e g6
  obtain ⟨g9, g10⟩ := and_e g8
  obtain ⟨w0, w1, w2, w3, w4, rfl⟩ : ∃ w0 w1 w2 w3 w4 : Value, args = #[w0, w1, w2, w3, w4] := by
    have hs : args.size = 5 := by simpa [Cond.value, given_1] using g1
    obtain ⟨L⟩ := args
    match L, hs with
    | [w0, w1, w2, w3, w4], _ => exact ⟨w0, w1, w2, w3, w4, rfl⟩
  have hw := fun d (hd : d ∈ tables_1) => atoms_spec (ws := Jvm.Cond.code x code maxLocals ret :: tables_1) hat d (List.mem_cons_of_mem _ hd)
  obtain ⟨i0, ei0⟩ := is_v g3
  obtain rfl : w0 = (.int i0) := Option.some.inj ei0
  obtain ⟨i1, ei1⟩ := is_v g5
  obtain rfl : w1 = (.int i1) := Option.some.inj ei1
  obtain ⟨i2, ei2⟩ := is_v g7
  obtain rfl : w2 = (.int i2) := Option.some.inj ei2
  obtain ⟨i3, ei3⟩ := is_v g9
  obtain rfl : w3 = (.int i3) := Option.some.inj ei3
  obtain ⟨i4, ei4⟩ := is_v g10
  obtain rfl : w4 = (.int i4) := Option.some.inj ei4
  obtain ⟨n, o, h1, h2, h3, _, L, rfl, ⟨rfl, N⟩, hq⟩ := rm0 l s _ hw tables_1 i0 i1 i2 i3 i4 s.heap s.heap.size 1 (law_ok i0 i1 i2 i3 i4) (Old.start s) p e ha hc hk s m _ below hf ((Spec.applies_iff_loose hf).mp happ).1 ⟨rfl, State.Warmed39.refl s, rfl⟩ trivial
  have hv : (1 : Int32) = 1 := rfl
  refine ⟨n, _, h1, h2, h3, hpost _ _ _ _ _ _ ⟨Cond.after_iff.mpr rfl, Cond.after_iff.mpr (eq_i res_at (Term.int_eval (1)) (congrArg Value.int hv)), trivial⟩ ⟨hq.1, hq.2.1, (hq.2.2.sift fun y hy => Or.inr (N y hy)).mono (by decide) (by decide)⟩⟩
theorem main_1_1 : Claimed_1_1 := comes_1 fun _ _ _ _ _ _ h hF => ⟨h.1, hF⟩
theorem main_1_2 : Claimed_1_2 := comes_1 fun _ _ _ _ _ _ h hF => ⟨h.2.1, hF⟩
end Jvm.Pilot.@@N@@
namespace Jvm.Pilot.@@N@@
open Jvm Jvm.ClassFile Sem Op Lib Jvm.Free Jvm.Stand Jvm.Pilot.@@N@@.Jvm.D
/-! MADE BY PROGRAM (witnessworld.py) out of the Statement's table words and the real class files: 11 classes; the members and pool entries that the words name. The judged class is class 1, her method 3. -/
namespace start1
open Jvm.ClassFile
def u (s : String) : CpInfo := .utf8 (stringToUtf16 s)
/-- a pool by its gaps: so many unusable entries, then the entry; so many at the end -/
def gap : Nat → List CpInfo → List CpInfo
  | 0, r => r
  | n + 1, r => .unusable :: gap n r
def poolList (es : List (Nat × CpInfo)) (last : Nat) : List CpInfo := es.foldr (fun e r => gap e.1 (e.2 :: r)) (gap last [])
def pool (es : List (Nat × CpInfo)) (last : Nat) : Array CpInfo := ⟨poolList es last⟩
def fileOf (pool : Array CpInfo) (this : Nat) (attrs : Array Attribute := #[]) (ms : Array MethodInfo := #[]) (fl : Nat := 33) (sup : Nat := 0) (ifs : Array Nat := #[]) (fds : Array FieldInfo := #[]) : ClassFile where
  minorVersion := 0
  majorVersion := 65
  constantPool := pool
  accessFlags := fl
  thisClass := this
  superClass := sup
  interfaces := ifs
  fields := fds
  methods := ms
  attributes := attrs
def plain (name : String) (sup : Option ClassId) : Class where
  name := name
  kind := .ordinary
  loader := none
  accessFlags := 33
  super := sup
  interfaces := #[]
  cf := none
  fields := #[]
  methods := #[]
  instanceTypes := #[]
  staticTypes := #[]
  resolved := #[]
  callSites := []
  init := .initialized
  statics := none
  mirror := none

def pool0 : Array CpInfo := pool [(5, u "<init>"), (0, u "()V"), (1, .class_ 10), (1, u "java/lang/Object")] 113

def k0c0 : Code := { maxStack := 0, maxLocals := 1, code := object_method_1_code, exceptionTable := #[], attributes := #[] }
def k0m0 : Method := { name := "<init>", desc := "()V", sig := { parameters := [], returnType := none }, accessFlags := 1, code := some k0c0 }
/-- java/lang/Object -/
def k0 : Class := { plain "java/lang/Object" none with
  accessFlags := 33
  interfaces := #[]
  cf := some (fileOf pool0 8 #[] #[{ accessFlags := 1, nameIndex := 5, descriptorIndex := 6, attributes := #[] }] 33 0 #[] #[])
  fields := #[]
  methods := #[k0m0]
  instanceTypes := #[]
  staticTypes := #[]
  resolved := Array.replicate 124 none
  statics := none }

def pool1 : Array CpInfo := pool [(2, .class_ 4), (0, .nameAndType 5 6), (0, u "java/lang/Object"), (0, u "<init>"), (0, u "()V"), (0, .integer 16777215), (0, .class_ 9), (0, u "com/example/sinogrid/sinogrid/BitBuffer"), (0, .methodref 8 3), (0, .methodref 8 12), (0, .nameAndType 13 14), (0, u "append"), (0, u "(II)V"), (0, .methodref 16 17), (0, .class_ 18), (0, .nameAndType 19 20), (0, u "com/example/sinogrid/sinogrid/BitBufferToCodewordsPinLaw"), (0, u "put3"), (0, u "([III)V"), (0, .methodref 8 22), (0, .nameAndType 23 24), (0, u "toCodewords"), (0, u "(I)[I"), (0, .methodref 16 26), (0, .nameAndType 27 28), (0, u "same"), (0, u "([I[III)Z"), (3, u "law"), (0, u "(IIIII)Z")] 4

def k1m0 : Method := { name := "<init>", desc := "()V", sig := { parameters := [], returnType := none }, accessFlags := 1, code := none }
def k1c1 : Code := { maxStack := 4, maxLocals := 3, code := method_2_code, exceptionTable := #[], attributes := #[] }
def k1m1 : Method := { name := "put3", desc := "([III)V", sig := { parameters := [(.array .int), .int, .int], returnType := none }, accessFlags := 10, code := some k1c1 }
def k1c2 : Code := { maxStack := 3, maxLocals := 4, code := method_3_code, exceptionTable := #[], attributes := #[] }
def k1m2 : Method := { name := "same", desc := "([I[III)Z", sig := { parameters := [(.array .int), (.array .int), .int, .int], returnType := some .boolean }, accessFlags := 10, code := some k1c2 }
def k1c3 : Code := { maxStack := 5, maxLocals := 18, code := code, exceptionTable := #[], attributes := #[] }
def k1m3 : Method := { name := "law", desc := "(IIIII)Z", sig := { parameters := [.int, .int, .int, .int, .int], returnType := some .boolean }, accessFlags := 9, code := some k1c3 }
/-- com/example/sinogrid/sinogrid/BitBufferToCodewordsPinLaw -/
def k1 : Class := { plain "com/example/sinogrid/sinogrid/BitBufferToCodewordsPinLaw" (some 0) with
  accessFlags := 49
  interfaces := #[]
  cf := some (fileOf pool1 16 #[] #[{ accessFlags := 1, nameIndex := 5, descriptorIndex := 6, attributes := #[] }, { accessFlags := 10, nameIndex := 19, descriptorIndex := 20, attributes := #[] }, { accessFlags := 10, nameIndex := 27, descriptorIndex := 28, attributes := #[] }, { accessFlags := 9, nameIndex := 32, descriptorIndex := 33, attributes := #[] }] 49 2 #[] #[])
  fields := #[]
  methods := #[k1m0, k1m1, k1m2, k1m3]
  instanceTypes := #[]
  staticTypes := #[]
  resolved := Array.replicate 38 none
  statics := none }

def pool2 : Array CpInfo := pool [(1, .methodref 2 3), (0, .class_ 4), (0, .nameAndType 5 6), (0, u "java/lang/Object"), (0, u "<init>"), (0, u "()V"), (0, .class_ 8), (0, u "com/example/sinogrid/sinogrid/BitBuffer"), (0, .fieldref 7 10), (0, .nameAndType 11 12), (0, u "words"), (0, u "[J"), (0, .fieldref 7 14), (0, .nameAndType 15 16), (0, u "length"), (0, u "I"), (25, u "append"), (7, u "INITIAL_WORDS"), (4, u "(II)V"), (3, u "toCodewords"), (0, u "(I)[I")] 4

def k2c0 : Code := { maxStack := 2, maxLocals := 1, code := prog_2_method_1_code, exceptionTable := #[], attributes := #[] }
def k2m0 : Method := { name := "<init>", desc := "()V", sig := { parameters := [], returnType := none }, accessFlags := 0, code := some k2c0 }
def k2c1 : Code := { maxStack := 9, maxLocals := 8, code := prog_2_method_2_code, exceptionTable := #[], attributes := #[] }
def k2m1 : Method := { name := "append", desc := "(II)V", sig := { parameters := [.int, .int], returnType := none }, accessFlags := 0, code := some k2c1 }
def k2c2 : Code := { maxStack := 9, maxLocals := 5, code := prog_2_method_6_code, exceptionTable := #[], attributes := #[] }
def k2m2 : Method := { name := "toCodewords", desc := "(I)[I", sig := { parameters := [.int], returnType := some (.array .int) }, accessFlags := 0, code := some k2c2 }
/-- com/example/sinogrid/sinogrid/BitBuffer -/
def k2 : Class := { plain "com/example/sinogrid/sinogrid/BitBuffer" (some 0) with
  accessFlags := 49
  interfaces := #[]
  cf := some (fileOf pool2 7 #[] #[{ accessFlags := 0, nameIndex := 5, descriptorIndex := 6, attributes := #[] }, { accessFlags := 0, nameIndex := 42, descriptorIndex := 55, attributes := #[] }, { accessFlags := 0, nameIndex := 59, descriptorIndex := 60, attributes := #[] }] 49 2 #[] #[{ accessFlags := 26, nameIndex := 50, descriptorIndex := 16, attributes := #[] }, { accessFlags := 2, nameIndex := 11, descriptorIndex := 12, attributes := #[] }, { accessFlags := 2, nameIndex := 15, descriptorIndex := 16, attributes := #[] }])
  fields := #[{ name := "INITIAL_WORDS", type := .int, accessFlags := 26, slot := 0, constantValue := 0 }, { name := "words", type := (.array .long), accessFlags := 2, slot := 0, constantValue := 0 }, { name := "length", type := .int, accessFlags := 2, slot := 1, constantValue := 0 }]
  methods := #[k2m0, k2m1, k2m2]
  instanceTypes := #[(.array .long), .int]
  staticTypes := #[.int]
  resolved := Array.replicate 65 none
  statics := none }

def pool3 : Array CpInfo := pool [(1, u "java/lang/Cloneable"), (0, .class_ 1), (0, u "java/lang/Object"), (0, .class_ 3)] 3

/-- java/lang/Cloneable -/
def k3 : Class := { plain "java/lang/Cloneable" (some 0) with
  accessFlags := 1537
  interfaces := #[]
  cf := some (fileOf pool3 2 #[] #[] 1537 4 #[] #[])
  fields := #[]
  methods := #[]
  instanceTypes := #[]
  staticTypes := #[]
  resolved := Array.replicate 8 none
  statics := none }

def pool4 : Array CpInfo := pool [(1, u "java/io/Serializable"), (0, .class_ 1), (0, u "java/lang/Object"), (0, .class_ 3)] 3

/-- java/io/Serializable -/
def k4 : Class := { plain "java/io/Serializable" (some 0) with
  accessFlags := 1537
  interfaces := #[]
  cf := some (fileOf pool4 2 #[] #[] 1537 4 #[] #[])
  fields := #[]
  methods := #[]
  instanceTypes := #[]
  staticTypes := #[]
  resolved := Array.replicate 8 none
  statics := none }

/-- the primitive byte -/
def k5 : Class := { plain "byte" none with kind := .primitive 'B', accessFlags := 0x411 }
/-- [B -/
def k6 : Class := { plain "[B" (some 0) with kind := .array 5 .byte, interfaces := #[3, 4], accessFlags := 1041 }

/-- the primitive int -/
def k7 : Class := { plain "int" none with kind := .primitive 'I', accessFlags := 0x411 }
/-- [I -/
def k8 : Class := { plain "[I" (some 0) with kind := .array 7 .int, interfaces := #[3, 4], accessFlags := 1041 }

/-- the primitive long -/
def k9 : Class := { plain "long" none with kind := .primitive 'J', accessFlags := 0x411 }
/-- [J -/
def k10 : Class := { plain "[J" (some 0) with kind := .array 9 .long, interfaces := #[3, 4], accessFlags := 1041 }

def heap : Heap := #[]
def classes : Array Class := #[k0, k1, k2, k3, k4, k5, k6, k7, k8, k9, k10]
def interned : List (Array UInt16 × Addr) := []
def slotsUsed : Nat := 0
def theMethod : MethodId := ⟨1, 3⟩
def args0 : Array Value := #[.int 5, .int 7, .int 3, .int 9, .int 11]
def aboutOver (below : List Frame) : State where
  vm := { classes := classes, interned := interned.toArray }
  heap := heap
  slotsUsed := slotsUsed
  threads := #[{ frames := .invoking theMethod args0 :: below }]
def below0 : List Frame := [.native { method := ⟨0, 0⟩, args := #[] }]
def about1 : State := aboutOver below0
def p0 : Program := .bare "" "" ""
def e0 : Env := launch0.env 0 0 0
theorem w_frames : about1.frames = Frame.invoking theMethod args0 :: below0 := rfl
set_option maxRecDepth 65536 in
theorem w_args : argsFit about1.vm theMethod args0 = true := by decide +kernel
set_option maxRecDepth 65536 in
theorem w_heap : heapFits about1 = true := by decide +kernel
set_option maxRecDepth 65536 in
theorem w_runnable : about1.curStatus? = some .runnable := by decide +kernel
set_option maxRecDepth 65536 in
theorem w_alone : about1.alone = true := by decide +kernel
set_option maxRecDepth 65536 in
theorem w_named : about1.methodNamed? x = some theMethod := by decide +kernel
set_option maxRecDepth 65536 in
theorem w_hears : about1.hears theMethod below0 = true := by decide +kernel
set_option maxRecDepth 65536 in
theorem w_ripe : about1.ripe theMethod args0 below0 = true := by decide +kernel
theorem w_running : about1.status = .running := rfl
set_option maxRecDepth 65536 in
theorem w_room : about1.hasRoom e0.platform room_1 = true :=
  launch0.hasRoom_least _ room_1 (by decide +kernel) (by decide +kernel) (by decide +kernel) (by decide +kernel) (by decide +kernel) (by decide +kernel)
theorem allAtoms_all (ts : List Jvm.Cond) (a : Array Jvm.Value) (st : Jvm.State) : (allAtoms ts).before a st = ts.all (fun c => c.before a st) := by
  induction ts with
  | nil => rfl
  | cons c t ih =>
    show (Jvm.Cond.and c (allAtoms t)).before a st = _
    rw [Jvm.Cond.before_and, ih, List.all_cons]
def words1 : List Jvm.Cond := Jvm.Cond.code x code maxLocals ret :: tables_1
/-- a 'code' word, met by the world's own term for the bytes: nothing is compared byte by byte -/
theorem code_word {y : MethodName} {bytes : ByteArray} {mx : Nat} {rt : Option FieldType} {a : Array Value} {s : State} {m : MethodId} {meth : Method} {c : Code} (h1 : s.methodNamed? y = some m) (h2 : s.vm.method? m = some meth) (h3 : meth.code = some c) (h4 : c.code = bytes)
    (h5 : (c.maxLocals == mx && c.exceptionTable.isEmpty && decide (c.maxStack ≤ mostOperands) && decide (meth.sig.returnType = rt) && !meth.locks && decide (parseMethodDescriptor y.desc = some meth.sig)) = true) : (Jvm.Cond.code y bytes mx rt).before a s = true := by
  simp only [Bool.and_eq_true, beq_iff_eq, Bool.not_eq_true', decide_eq_true_eq] at h5
  obtain ⟨⟨⟨⟨⟨g1, g2⟩, g3⟩, g4⟩, g5⟩, g6⟩ := h5
  simp [Cond.before, Cond.holds, Cond.value, h1, h2, h3, h4, g1, g2, g3, g4, g5, g6]
def isCode : Jvm.Cond → Bool
  | .code _ _ _ _ => true
  | _ => false
theorem all_split {L : List Jvm.Cond} {P : Jvm.Cond → Bool} (h1 : L.all (fun c => isCode c || P c) = true) (h2 : ∀ c ∈ L.filter isCode, P c = true) : L.all P = true := by
  refine List.all_eq_true.mpr fun c hc => ?_
  have h := List.all_eq_true.mp h1 c hc
  rcases Bool.eq_false_or_eq_true (isCode c) with hi | hi
  · exact h2 c (List.mem_filter.mpr ⟨hc, hi⟩)
  · simpa [hi] using h
set_option maxRecDepth 65536 in
theorem w_c0 : (Jvm.Cond.code x code maxLocals ret).before args0 about1 = true := code_word (m := ⟨1, 3⟩) (meth := k1m3) (c := k1c3) (by decide +kernel) rfl rfl rfl (by decide +kernel)
set_option maxRecDepth 65536 in
theorem w_c1 : (Jvm.Cond.code ({ cls := "com/example/sinogrid/sinogrid/BitBuffer", name := "<init>", desc := "()V" } : Jvm.MethodName) prog_2_method_1_code (1 : Nat) (Option.none : Option Jvm.ClassFile.FieldType)).before args0 about1 = true := code_word (m := ⟨2, 0⟩) (meth := k2m0) (c := k2c0) (by decide +kernel) rfl rfl rfl (by decide +kernel)
set_option maxRecDepth 65536 in
theorem w_c2 : (Jvm.Cond.code ({ cls := "java/lang/Object", name := "<init>", desc := "()V" } : Jvm.MethodName) object_method_1_code (1 : Nat) (Option.none : Option Jvm.ClassFile.FieldType)).before args0 about1 = true := code_word (m := ⟨0, 0⟩) (meth := k0m0) (c := k0c0) (by decide +kernel) rfl rfl rfl (by decide +kernel)
set_option maxRecDepth 65536 in
theorem w_c3 : (Jvm.Cond.code ({ cls := "com/example/sinogrid/sinogrid/BitBuffer", name := "append", desc := "(II)V" } : Jvm.MethodName) prog_2_method_2_code (8 : Nat) (Option.none : Option Jvm.ClassFile.FieldType)).before args0 about1 = true := code_word (m := ⟨2, 1⟩) (meth := k2m1) (c := k2c1) (by decide +kernel) rfl rfl rfl (by decide +kernel)
set_option maxRecDepth 65536 in
theorem w_c4 : (Jvm.Cond.code ({ cls := "com/example/sinogrid/sinogrid/BitBuffer", name := "toCodewords", desc := "(I)[I" } : Jvm.MethodName) prog_2_method_6_code (5 : Nat) (Option.some (Jvm.ClassFile.FieldType.array Jvm.ClassFile.FieldType.int))).before args0 about1 = true := code_word (m := ⟨2, 2⟩) (meth := k2m2) (c := k2c2) (by decide +kernel) rfl rfl rfl (by decide +kernel)
set_option maxRecDepth 65536 in
theorem w_c5 : (Jvm.Cond.code ({ cls := "com/example/sinogrid/sinogrid/BitBufferToCodewordsPinLaw", name := "same", desc := "([I[III)Z" } : Jvm.MethodName) method_3_code (4 : Nat) (Option.some Jvm.ClassFile.FieldType.boolean)).before args0 about1 = true := code_word (m := ⟨1, 2⟩) (meth := k1m2) (c := k1c2) (by decide +kernel) rfl rfl rfl (by decide +kernel)
set_option maxRecDepth 65536 in
theorem w_c6 : (Jvm.Cond.code ({ cls := "com/example/sinogrid/sinogrid/BitBufferToCodewordsPinLaw", name := "put3", desc := "([III)V" } : Jvm.MethodName) method_2_code (3 : Nat) (Option.none : Option Jvm.ClassFile.FieldType)).before args0 about1 = true := code_word (m := ⟨1, 1⟩) (meth := k1m1) (c := k1c1) (by decide +kernel) rfl rfl rfl (by decide +kernel)
def codes1 : List Jvm.Cond := [Jvm.Cond.code x code maxLocals ret, Jvm.Cond.code ({ cls := "com/example/sinogrid/sinogrid/BitBuffer", name := "<init>", desc := "()V" } : Jvm.MethodName) prog_2_method_1_code (1 : Nat) (Option.none : Option Jvm.ClassFile.FieldType), Jvm.Cond.code ({ cls := "java/lang/Object", name := "<init>", desc := "()V" } : Jvm.MethodName) object_method_1_code (1 : Nat) (Option.none : Option Jvm.ClassFile.FieldType), Jvm.Cond.code ({ cls := "com/example/sinogrid/sinogrid/BitBuffer", name := "append", desc := "(II)V" } : Jvm.MethodName) prog_2_method_2_code (8 : Nat) (Option.none : Option Jvm.ClassFile.FieldType), Jvm.Cond.code ({ cls := "com/example/sinogrid/sinogrid/BitBuffer", name := "toCodewords", desc := "(I)[I" } : Jvm.MethodName) prog_2_method_6_code (5 : Nat) (Option.some (Jvm.ClassFile.FieldType.array Jvm.ClassFile.FieldType.int)), Jvm.Cond.code ({ cls := "com/example/sinogrid/sinogrid/BitBufferToCodewordsPinLaw", name := "same", desc := "([I[III)Z" } : Jvm.MethodName) method_3_code (4 : Nat) (Option.some Jvm.ClassFile.FieldType.boolean), Jvm.Cond.code ({ cls := "com/example/sinogrid/sinogrid/BitBufferToCodewordsPinLaw", name := "put3", desc := "([III)V" } : Jvm.MethodName) method_2_code (3 : Nat) (Option.none : Option Jvm.ClassFile.FieldType)]
set_option maxRecDepth 65536 in
theorem codes_eq : words1.filter isCode = codes1 := rfl
theorem w_codes : ∀ c ∈ words1.filter isCode, c.before args0 about1 = true := by
  rw [codes_eq]
  intro c hc
  simp only [codes1, List.mem_cons, List.not_mem_nil, or_false] at hc
  rcases hc with rfl | rfl | rfl | rfl | rfl | rfl | rfl
  · exact w_c0
  · exact w_c1
  · exact w_c2
  · exact w_c3
  · exact w_c4
  · exact w_c5
  · exact w_c6
set_option maxRecDepth 65536 in
theorem w_t1 : (words1.take 24).all (fun c => isCode c || c.before args0 about1) = true := by decide +kernel
set_option maxRecDepth 65536 in
theorem w_t2 : (words1.drop 24).all (fun c => isCode c || c.before args0 about1) = true := by decide +kernel
theorem w_tables : (allAtoms (Jvm.Cond.code x code maxLocals ret :: tables_1)).before args0 about1 = true := by
  rw [allAtoms_all]
  show words1.all (fun c => c.before args0 about1) = true
  refine all_split ?_ w_codes
  rw [← List.take_append_drop 24 words1, List.all_append, w_t1, w_t2]
  rfl
set_option maxRecDepth 65536 in
theorem w_case : (Jvm.Cond.and given_1 narrow_1).before args0 about1 = true := by decide +kernel
theorem w_applies : (headSpec (Jvm.Cond.code x code maxLocals ret :: tables_1) room_1).applies x e0.platform about1 = true :=
  (Spec.applies_iff w_frames).mpr ⟨w_running, w_runnable, w_alone, w_named, w_hears, w_ripe, w_room, w_tables⟩
theorem atStart : AtStart classFile x code maxLocals ret World_1 tables_1 room_1 Calls_1 rest_1 Pre_1 launch0 p0 e0 about1 theMethod args0 below0 :=
  ⟨lists_1, trivial, launch0.admits_env _ _ _, launch0.least_env, fairChoices_fair.cas, fairChoices_fair.clock, w_frames, w_args, w_heap, w_applies, trivial, trivial, w_case⟩
end start1
theorem witness_1 : WitnessClaimed_1 := ⟨start1.p0, start1.e0, start1.about1, start1.theMethod, start1.args0, start1.below0, start1.atStart⟩
end Jvm.Pilot.@@N@@
