import JvmDerived
import JvmDerived.Pilot.@@N@@Statement
import JvmDerived.Pilot.@@N@@Code
set_option linter.unusedVariables false
set_option linter.unusedSimpArgs false
namespace Jvm.RoadKit
open Sem ClassFile Op Lib Jvm.Stand Jvm.Free Jvm.LawKit
section Own
variable {p : Program} {l : Launch} {e : Env} {R : Room} {s : State} {m : MethodId} {args : Array Value} {below : List Frame} {meth : Method} {c : Code} {T : State} {locs : List Loc} {cells slots : Nat} {k n : Nat} {Q : Option Value → Heap → List Loc → Prop} {W W' : State} {Z : State} {a0 : Array Value} {h : Heap}
/-- the run from W comes back, with what Q says -/
def OwnOut (p : Program) (e : Env) (s : State) (below : List Frame) (k n : Nat) (Q : Option Value → Heap → List Loc → Prop) (W : State) : Prop :=
  ∃ s₂ o, Steps p.tables e below W s₂ ∧ s₂.status = .running ∧ Ended s₂ below o ∧ ∃ v L, o = .returned v ∧ Q v s₂.heap L ∧ FrameEnd s o s₂ L k n
theorem OwnOut.go (h : ∀ t, Steps p.tables e below W' t → Steps p.tables e below W t) (H : OwnOut p e s below k n Q W') : OwnOut p e s below k n Q W := by
  obtain ⟨s₂, o, h1, h2⟩ := H
  exact ⟨s₂, o, h _ h1, h2⟩
theorem OwnOut.at {g g' : JFrame} (q : g = g') (H : OwnOut p e s below k n Q (T.setTop g')) : OwnOut p e s below k n Q (T.setTop g) := q ▸ H
theorem OwnOut.imp {Q' : Option Value → Heap → List Loc → Prop} (q : ∀ v h L, Q' v h L → Q v h L) (H : OwnOut p e s below k n Q' W) : OwnOut p e s below k n Q W := by
  obtain ⟨s₂, o, h1, h2, h3, v, L, h4, h5, h6⟩ := H
  exact ⟨s₂, o, h1, h2, h3, v, L, h4, q _ _ _ h5, h6⟩
theorem outI (X : Stand p l e R s m args below meth c T locs cells slots) (hx : p.tables.exec = Jvm.exec) {pc : Nat} {Ls : Array Slot} {z : Int32} (hret : meth.sig.returnType = some .int) (hd : decode c.code pc = .ok (.ireturn, 1)) (hlk : meth.locks = false) (hk : cells ≤ k) (hn : slots ≤ n) (q : Q (some (.int z)) T.heap locs) :
    OwnOut p e s below k n Q (T.setTop (mkF m pc Ls [.int z])) := by
  obtain ⟨fs, hr, hrun, hended, hW, hsame⟩ := X.leave (v := some (.int z)) (fun h => by rw [hret] at h; cases h) hlk
  exact ⟨_, _, X.ireturnOut hx hret rfl (Or.inl rfl) hd hr, hrun, hended, _, _, rfl, q, ⟨_, rfl⟩, hW, hsame.mono hk hn⟩
theorem outZ (X : Stand p l e R s m args below meth c T locs cells slots) (hx : p.tables.exec = Jvm.exec) {pc : Nat} {Ls : Array Slot} {z : Int32} (hret : meth.sig.returnType = some .boolean) (hd : decode c.code pc = .ok (.ireturn, 1)) (hlk : meth.locks = false) (hk : cells ≤ k) (hn : slots ≤ n) (q : Q (some (.int (z &&& 1))) T.heap locs) :
    OwnOut p e s below k n Q (T.setTop (mkF m pc Ls [.int z])) := by
  obtain ⟨fs, hr, hrun, hended, hW, hsame⟩ := X.leave (v := some (.int (z &&& 1))) (fun h => by rw [hret] at h; cases h) hlk
  exact ⟨_, _, retN X hx (t := .boolean) hret (by simp) hd hr, hrun, hended, _, _, rfl, q, ⟨_, rfl⟩, hW, hsame.mono hk hn⟩
theorem outJ (X : Stand p l e R s m args below meth c T locs cells slots) (hx : p.tables.exec = Jvm.exec) {pc : Nat} {Ls : Array Slot} {z : Int64} (hret : meth.sig.returnType = some .long) (hd : decode c.code pc = .ok (.lreturn, 1)) (hlk : meth.locks = false) (hk : cells ≤ k) (hn : slots ≤ n) (q : Q (some (.long z)) T.heap locs) :
    OwnOut p e s below k n Q (T.setTop (mkF m pc Ls [.long z])) := by
  obtain ⟨fs, hr, hrun, hended, hW, hsame⟩ := X.leave (v := some (.long z)) (fun h => by rw [hret] at h; cases h) hlk
  exact ⟨_, _, X.lreturnOut hx hret hd hr, hrun, hended, _, _, rfl, q, ⟨_, rfl⟩, hW, hsame.mono hk hn⟩
theorem outA (X : Stand p l e R s m args below meth c T locs cells slots) (hx : p.tables.exec = Jvm.exec) {pc : Nat} {Ls : Array Slot} {w : Value} {t : FieldType} (hw : w.isRef = true) (hret : meth.sig.returnType = some t) (ht : t.isReference = true) (hd : decode c.code pc = .ok (.areturn, 1)) (hlk : meth.locks = false) (hk : cells ≤ k) (hn : slots ≤ n) (q : Q (some w) T.heap locs) :
    OwnOut p e s below k n Q (T.setTop (mkF m pc Ls [w])) := by
  obtain ⟨fs, hr, hrun, hended, hW, hsame⟩ := X.leave (v := some w) (fun h => by rw [hret] at h; cases h) hlk
  exact ⟨_, _, X.areturnOut hx hw hret ht hd hr, hrun, hended, _, _, rfl, q, ⟨_, rfl⟩, hW, hsame.mono hk hn⟩
theorem outV (X : Stand p l e R s m args below meth c T locs cells slots) (hx : p.tables.exec = Jvm.exec) {pc : Nat} {Ls : Array Slot} (hret : meth.sig.returnType = none) (hd : decode c.code pc = .ok (.return_, 1)) (hlk : meth.locks = false) (hk : cells ≤ k) (hn : slots ≤ n) (q : Q none T.heap locs) :
    OwnOut p e s below k n Q (T.setTop (mkF m pc Ls [])) := by
  obtain ⟨fs, hr, hrun, hended, hW, hsame⟩ := X.leave (v := none) (fun _ => rfl) hlk
  exact ⟨_, _, X.returnOut hx hret hd hr, hrun, hended, _, _, rfl, q, ⟨_, rfl⟩, hW, hsame.mono hk hn⟩
theorem lremM {g : JFrame} {target : State} (X : Stand p l e R s m args below meth c T locs cells slots) (hx : p.tables.exec = Jvm.exec) (hg : g.method = m) {x y : Int64} {rest : List Value} (hd : decode c.code g.pc = .ok (.lrem, 1)) (hs : g.stack = .long y :: .long x :: rest) (hy : y ≠ 0)
    (hr : Steps p.tables e below (T.setTop { g with pc := g.pc + 1, stack := .long (x % y) :: rest }) target) : Steps p.tables e below (T.setTop g) target :=
  XS.lrem X.here hx hg hd hs hy (by rw [lrem_mod]; exact hr)
/-- a body that touches nothing: what it returns, the heap as it was, nothing written -/
def QP (h0 : Heap) (w : Option Value) (v : Option Value) (h : Heap) (L : List Loc) : Prop := v = w ∧ h = h0 ∧ L = []
/-- a static call of such a body -/
theorem callP (X : Stand p l e R s m args below meth c T locs cells slots) (hx : p.tables.exec = Jvm.exec) (hZ : Z.Warmed39 s.vm) {own : String} {index : Nat} {y : MethodName} {bytes : ByteArray} {maxL : Nat} {ret : Option FieldType} {rm : Room} {as' : Array Value} {w : Option Value}
    (hown : s.vm.findClass own = some m.cls) (w1 : (Cond.methodLink own index y).before a0 Z = true) (w2 : (Cond.static y).before a0 Z = true) (w3 : (Cond.initialized y.cls).before a0 Z = true) (w4 : (Cond.code y bytes maxL ret).before a0 Z = true) (hy : y.cls ≠ "java/lang/invoke/MethodHandle" ∧ y.cls ≠ "java/lang/invoke/VarHandle")
    (hM : MetFree l y (head1 [Cond.code y bytes maxL ret] rm) (fun a U => a = as' ∧ Z.Warmed39 U.vm ∧ U.heap = h) (fun _ _ _ _ _ => True) (fun _ U o U' => ∃ v L, o = .returned v ∧ QP h w v U'.heap L ∧ FrameEnd U o U' L rm.cells rm.slots))
    {W : Nat} (hf : rm.frames + 1 ≤ R.frames) (hl : W + (maxL + 11) + rm.locals ≤ R.locals) (z1 : rm.cells = 0) (z2 : rm.slots = 0) (hc : cells ≤ R.cells) (hs' : slots ≤ R.slots) (eT : T.heap = h)
    {g : JFrame} (hg : g.method = m) (hsize : g.locals.size = c.maxLocals) {argsL rest : List Value} (hlen : ∀ sig, parseMethodDescriptor y.desc = some sig → argsL.length = sig.parameters.length)
    (hstack : g.stack = argsL.reverse ++ rest) (hW : 2 * g.monitorRoom + (rest.map fun v => v.category).sum ≤ W) (hdg : decode c.code g.pc = .ok (.invokestatic index, 3)) (has : argsL.toArray = as' := by rfl) :
    ∃ T', Stand p l e R s m args below meth c T' locs cells slots ∧ T'.heap = h ∧ ∀ target, Steps p.tables e below (T'.setTop { g with pc := g.pc + 3, stack := w.toList ++ rest }) target → Steps p.tables e below (T.setTop g) target := by
  obtain ⟨v, vm₁, ⟨T', L', k', n'⟩, -, X', ⟨Lc, ⟨rfl, q2, rfl⟩, l1, y1, z3⟩, st⟩ := Jvm.LawKit.callS X hx (y := y) hown (mvT hZ w1) (mvT hZ w2) (mvT hZ w3) (mvT hZ w4) hy (backOf (W := W) hM hZ w4 w3 hf hl) hg hsize hlen hstack hW hdg (fun _ _ => ⟨has, eT, by rw [z1]; exact hc, by rw [z2]; exact hs'⟩)
  dsimp only [Pt.U, Pt.locs, Pt.cells, Pt.slots] at X' l1 y1 z3 st q2
  rw [z1] at y1; rw [z2] at z3
  rw [List.append_nil] at l1
  subst l1 y1 z3
  exact ⟨T', X', q2, st⟩
end Own
end Jvm.RoadKit
namespace Jvm.RoadKit
open Sem ClassFile Op Lib Jvm.Stand Jvm.Free Jvm.LawKit
section Own2
variable {p : Program} {l : Launch} {e : Env} {R : Room} {s : State} {m : MethodId} {args : Array Value} {below : List Frame} {meth : Method} {c : Code} {T : State} {locs : List Loc} {cells slots : Nat} {Z : State} {a0 : Array Value} {h h' : Heap} {a b : Addr} {ty : FieldType} {vs : List Value} {sl : Nat} {v : Value} {ws : List Addr}
/-- an array, by the list of what it holds -/
def Ar (Z : State) (h : Heap) (a : Addr) (ty : FieldType) (vs : List Value) : Prop := ∃ c : Cell, Arr Z h a c ty ∧ c.slots.toList = vs ∧ vs.length < 2 ^ 31
theorem Ar.lt (A : Ar Z h a ty vs) : a < h.size := by obtain ⟨c, q, -⟩ := A; exact q.lt
theorem Ar.ext (A : Ar Z h a ty vs) (E : Ext h h') : Ar Z h' a ty vs := by obtain ⟨c, q, r⟩ := A; exact ⟨c, q.ext E, r⟩
theorem Ar.other (A : Ar Z h b ty vs) (W : Wr h h' a sl v) (q : b ≠ a) : Ar Z h' b ty vs := by obtain ⟨c, r, t⟩ := A; exact ⟨c, r.other W q, t⟩
theorem Ar.keep (A : Ar Z h a ty vs) (K : Keep h h' ws) (q : a ∉ ws) : Ar Z h' a ty vs := by obtain ⟨c, r, t⟩ := A; exact ⟨c, ⟨K.2.1 a c r.1 q, r.2⟩, t⟩
theorem Ar.same (A : Ar Z h a ty vs) (W : Wr h h' a sl v) : Ar Z h' a ty (vs.set sl v) := by
  obtain ⟨c, r, t, u⟩ := A
  refine ⟨_, r.same W, ?_, by rw [List.length_set]; exact u⟩
  show (c.slots.setIfInBounds sl v).toList = _
  rw [Array.toList_setIfInBounds, t]
abbrev Ari (Z : State) (h : Heap) (a : Addr) (ty : FieldType) (xs : List Int32) : Prop := Ar Z h a ty (xs.map Value.int)
abbrev Arj (Z : State) (h : Heap) (a : Addr) (xs : List Int64) : Prop := Ar Z h a .long (xs.map Value.long)
/-- what an array's place holds -/
def ldx {α : Type} (xs : List α) (j : Int32) : Option α := if j < 0 then none else xs[j.toNatClampNeg]?
def stx {α : Type} (xs : List α) (j : Int32) (v : α) : Option (List α) := if j < 0 then none else if xs.length ≤ j.toNatClampNeg then none else some (xs.set j.toNatClampNeg v)
def nwx {α : Type} (d : α) (cap : Nat) (n : Int32) : Option (List α) := if n < 0 then none else if cap < n.toNatClampNeg then none else some (List.replicate n.toNatClampNeg d)
def lenx {α : Type} (xs : List α) : Int32 := xs.length.toInt32
theorem ldx_at {α : Type} {f : α → Value} {xs : List α} {j : Int32} {x : α} {cl : Cell} (hv : ldx xs j = some x) (q : cl.slots.toList = xs.map f) : ¬ (j < 0 ∨ cl.slots.size ≤ j.toNatClampNeg) ∧ cl.slots[j.toNatClampNeg]? = some (f x) := by
  unfold ldx at hv
  by_cases hj : j < 0
  · rw [if_pos hj] at hv; cases hv
  rw [if_neg hj] at hv
  have h1 : cl.slots[j.toNatClampNeg]? = some (f x) := by rw [← Array.getElem?_toList, q, List.getElem?_map, hv]; rfl
  refine ⟨fun z => z.elim hj fun z => ?_, h1⟩
  rw [Array.getElem?_eq_none z] at h1; cases h1
theorem stx_at {α : Type} {f : α → Value} {xs ys : List α} {j : Int32} {x : α} {cl : Cell} (hv : stx xs j x = some ys) (q : cl.slots.toList = xs.map f) : ¬ (j < 0 ∨ cl.slots.size ≤ j.toNatClampNeg) ∧ ys = xs.set j.toNatClampNeg x := by
  unfold stx at hv
  by_cases hj : j < 0
  · rw [if_pos hj] at hv; cases hv
  rw [if_neg hj] at hv
  by_cases hl : xs.length ≤ j.toNatClampNeg
  · rw [if_pos hl] at hv; cases hv
  rw [if_neg hl] at hv
  refine ⟨fun z => z.elim hj fun z => hl ?_, (Option.some.inj hv).symm⟩
  have : cl.slots.size = xs.length := by rw [← Array.length_toList, q, List.length_map]
  omega
theorem ldI (X : Stand p l e R s m args below meth c T locs cells slots) (hx : p.tables.exec = Jvm.exec) (hZ : Z.Warmed39 s.vm) (eT : T.heap = h) {xs : List Int32} (A : Ari Z h a .int xs) {j v : Int32} (hv : ldx xs j = some v) {g : JFrame} (hg : g.method = m) {rest : List Value} (hs : g.stack = .int j :: .ref a :: rest) (hd : decode c.code g.pc = .ok (.iaload, 1)) (target : State)
    (hr : Steps p.tables e below (T.setTop { g with pc := g.pc + 1, stack := .int v :: rest }) target) : Steps p.tables e below (T.setTop g) target := by
  obtain ⟨cl, A1, A2, -⟩ := A
  obtain ⟨hj, hat⟩ := ldx_at hv A2
  exact X.iaload hx (by rw [eT]; exact A1.1) (State.isArrayOf_alike hZ.alike A1.2.1) A1.2.2 hj hat hg hs hd target hr
theorem ldB (X : Stand p l e R s m args below meth c T locs cells slots) (hx : p.tables.exec = Jvm.exec) (hZ : Z.Warmed39 s.vm) (eT : T.heap = h) {xs : List Int32} (A : Ari Z h a .byte xs) {j v : Int32} (hv : ldx xs j = some v) {g : JFrame} (hg : g.method = m) {rest : List Value} (hs : g.stack = .int j :: .ref a :: rest) (hd : decode c.code g.pc = .ok (.baload, 1)) (target : State)
    (hr : Steps p.tables e below (T.setTop { g with pc := g.pc + 1, stack := .int v :: rest }) target) : Steps p.tables e below (T.setTop g) target := by
  obtain ⟨cl, A1, A2, -⟩ := A
  obtain ⟨hj, hat⟩ := ldx_at hv A2
  exact X.baloadBytes hx (by rw [eT]; exact A1.1) (State.isArrayOf_alike hZ.alike A1.2.1) A1.2.2 hj hat hg hs hd target hr
theorem ldZ (X : Stand p l e R s m args below meth c T locs cells slots) (hx : p.tables.exec = Jvm.exec) (hZ : Z.Warmed39 s.vm) (eT : T.heap = h) {xs : List Int32} (A : Ari Z h a .boolean xs) {j v : Int32} (hv : ldx xs j = some v) {g : JFrame} (hg : g.method = m) {rest : List Value} (hs : g.stack = .int j :: .ref a :: rest) (hd : decode c.code g.pc = .ok (.baload, 1)) (target : State)
    (hr : Steps p.tables e below (T.setTop { g with pc := g.pc + 1, stack := .int v :: rest }) target) : Steps p.tables e below (T.setTop g) target := by
  obtain ⟨cl, A1, A2, -⟩ := A
  obtain ⟨hj, hat⟩ := ldx_at hv A2
  exact X.baloadBooleans hx (by rw [eT]; exact A1.1) (State.isArrayOf_alike hZ.alike A1.2.1) A1.2.2 hj hat hg hs hd target hr
theorem ldJ (X : Stand p l e R s m args below meth c T locs cells slots) (hx : p.tables.exec = Jvm.exec) (hZ : Z.Warmed39 s.vm) (eT : T.heap = h) {xs : List Int64} (A : Arj Z h a xs) {j : Int32} {v : Int64} (hv : ldx xs j = some v) {g : JFrame} (hg : g.method = m) {rest : List Value} (hs : g.stack = .int j :: .ref a :: rest) (hd : decode c.code g.pc = .ok (.laload, 1)) (target : State)
    (hr : Steps p.tables e below (T.setTop { g with pc := g.pc + 1, stack := .long v :: rest }) target) : Steps p.tables e below (T.setTop g) target := by
  obtain ⟨cl, A1, A2, -⟩ := A
  obtain ⟨hj, hat⟩ := ldx_at hv A2
  exact X.laload hx (by rw [eT]; exact A1.1) (State.isArrayOf_alike hZ.alike A1.2.1) A1.2.2 hj hat hg hs hd target hr
theorem lenA (X : Stand p l e R s m args below meth c T locs cells slots) (hx : p.tables.exec = Jvm.exec) (hZ : Z.Warmed39 s.vm) (eT : T.heap = h) {α : Type} {f : α → Value} {xs : List α} (A : Ar Z h a ty (xs.map f)) {g : JFrame} (hg : g.method = m) {rest : List Value} (hs : g.stack = .ref a :: rest) (hd : decode c.code g.pc = .ok (.arraylength, 1)) (target : State)
    (hr : Steps p.tables e below (T.setTop { g with pc := g.pc + 1, stack := .int (lenx xs) :: rest }) target) : Steps p.tables e below (T.setTop g) target := by
  obtain ⟨cl, A1, A2, -⟩ := A
  have : cl.slots.size = xs.length := by rw [← Array.length_toList, A2, List.length_map]
  refine X.arraylength hx (by rw [eT]; exact A1.1) (State.isArrayOf_alike hZ.alike A1.2.1) hg hs hd target ?_
  rw [this]; exact hr
theorem saI (X : Stand p l e R s m args below meth c T locs cells slots) (hx : p.tables.exec = Jvm.exec) (hZ : Z.Warmed39 s.vm) (eT : T.heap = h) {xs ys : List Int32} (A : Ari Z h a .int xs) {j v : Int32} (hv : stx xs j v = some ys) {g : JFrame} (hg : g.method = m) {rest : List Value} (hs : g.stack = .int v :: .int j :: .ref a :: rest) (hd : decode c.code g.pc = .ok (.iastore, 1)) :
    ∃ T' h', Stand p l e R s m args below meth c T' (locs ++ [⟨a, j.toNatClampNeg⟩]) cells slots ∧ T'.heap = h' ∧ Wr h h' a j.toNatClampNeg (.int v) ∧ Ari Z h' a .int ys ∧ ∀ target, Steps p.tables e below (T'.setTop { g with pc := g.pc + 1, stack := rest }) target → Steps p.tables e below (T.setTop g) target := by
  have A' := A
  obtain ⟨cl, A1, A2, -⟩ := A
  obtain ⟨hj, rfl⟩ := stx_at hv A2
  obtain ⟨T', h', X', e', W', st⟩ := stI X hx hZ eT A1 hj hg hs hd
  exact ⟨T', h', X', e', W', by have q := A'.same W'; rw [← List.map_set] at q; exact q, st⟩
theorem saB (X : Stand p l e R s m args below meth c T locs cells slots) (hx : p.tables.exec = Jvm.exec) (hZ : Z.Warmed39 s.vm) (eT : T.heap = h) {xs ys : List Int32} (A : Ari Z h a .byte xs) {j v : Int32} (hv : stx xs j v.toInt8.toInt32 = some ys) {g : JFrame} (hg : g.method = m) {rest : List Value} (hs : g.stack = .int v :: .int j :: .ref a :: rest) (hd : decode c.code g.pc = .ok (.bastore, 1)) :
    ∃ T' h', Stand p l e R s m args below meth c T' (locs ++ [⟨a, j.toNatClampNeg⟩]) cells slots ∧ T'.heap = h' ∧ Wr h h' a j.toNatClampNeg (.int v.toInt8.toInt32) ∧ Ari Z h' a .byte ys ∧ ∀ target, Steps p.tables e below (T'.setTop { g with pc := g.pc + 1, stack := rest }) target → Steps p.tables e below (T.setTop g) target := by
  have A' := A
  obtain ⟨cl, A1, A2, -⟩ := A
  obtain ⟨hj, rfl⟩ := stx_at hv A2
  obtain ⟨T', h', X', e', W', st⟩ := stB X hx hZ eT A1 hj hg hs hd
  exact ⟨T', h', X', e', W', by have q := A'.same W'; rw [show Value.int (nar .byte v) = Value.int v.toInt8.toInt32 from rfl, ← List.map_set] at q; exact q, st⟩
theorem saZ (X : Stand p l e R s m args below meth c T locs cells slots) (hx : p.tables.exec = Jvm.exec) (hZ : Z.Warmed39 s.vm) (eT : T.heap = h) {xs ys : List Int32} (A : Ari Z h a .boolean xs) {j v : Int32} (hv : stx xs j (v &&& 1) = some ys) {g : JFrame} (hg : g.method = m) {rest : List Value} (hs : g.stack = .int v :: .int j :: .ref a :: rest) (hd : decode c.code g.pc = .ok (.bastore, 1)) :
    ∃ T' h', Stand p l e R s m args below meth c T' (locs ++ [⟨a, j.toNatClampNeg⟩]) cells slots ∧ T'.heap = h' ∧ Wr h h' a j.toNatClampNeg (.int (v &&& 1)) ∧ Ari Z h' a .boolean ys ∧ ∀ target, Steps p.tables e below (T'.setTop { g with pc := g.pc + 1, stack := rest }) target → Steps p.tables e below (T.setTop g) target := by
  have A' := A
  obtain ⟨cl, A1, A2, -⟩ := A
  obtain ⟨hj, rfl⟩ := stx_at hv A2
  obtain ⟨T', h', X', e', W', st⟩ := stZ X hx hZ eT A1 hj hg hs hd
  exact ⟨T', h', X', e', W', by have q := A'.same W'; rw [show Value.int (nar .boolean v) = Value.int (v &&& 1) from rfl, ← List.map_set] at q; exact q, st⟩
theorem saJ (X : Stand p l e R s m args below meth c T locs cells slots) (hx : p.tables.exec = Jvm.exec) (hZ : Z.Warmed39 s.vm) (eT : T.heap = h) {xs ys : List Int64} (A : Arj Z h a xs) {j : Int32} {v : Int64} (hv : stx xs j v = some ys) {g : JFrame} (hg : g.method = m) {rest : List Value} (hs : g.stack = .long v :: .int j :: .ref a :: rest) (hd : decode c.code g.pc = .ok (.lastore, 1)) :
    ∃ T' h', Stand p l e R s m args below meth c T' (locs ++ [⟨a, j.toNatClampNeg⟩]) cells slots ∧ T'.heap = h' ∧ Wr h h' a j.toNatClampNeg (.long v) ∧ Arj Z h' a ys ∧ ∀ target, Steps p.tables e below (T'.setTop { g with pc := g.pc + 1, stack := rest }) target → Steps p.tables e below (T.setTop g) target := by
  have A' := A
  obtain ⟨cl, A1, A2, -⟩ := A
  obtain ⟨hj, rfl⟩ := stx_at hv A2
  obtain ⟨T', h', X', e', W', st⟩ := stJ X hx hZ eT A1 hj hg hs hd
  exact ⟨T', h', X', e', W', by have q := A'.same W'; rw [← List.map_set] at q; exact q, st⟩
theorem nwx_at {α : Type} {d : α} {cap : Nat} {n : Int32} {xs : List α} (hv : nwx d cap n = some xs) : ¬ n < 0 ∧ n.toNatClampNeg ≤ cap ∧ xs = List.replicate n.toNatClampNeg d := by
  unfold nwx at hv
  by_cases hj : n < 0
  · rw [if_pos hj] at hv; cases hv
  rw [if_neg hj] at hv
  by_cases hl : cap < n.toNatClampNeg
  · rw [if_pos hl] at hv; cases hv
  rw [if_neg hl] at hv
  exact ⟨hj, Nat.le_of_not_lt hl, (Option.some.inj hv).symm⟩
theorem Ar.new {α : Type} {f : α → Value} {d : α} {n : Int32} {cA : ClassId} (A : Arr Z h a (newA cA ty n) ty) (q : ¬ n < 0) (hd : defaultValue ty = f d) : Ar Z h a ty ((List.replicate n.toNatClampNeg d).map f) := by
  refine ⟨_, A, ?_, ?_⟩
  · show (Array.replicate n.toNatClampNeg (defaultValue ty)).toList = _
    rw [Array.toList_replicate, List.map_replicate, hd]
  · rw [List.length_map, List.length_replicate]; exact (back32 q).2
/-- a new array of ints, bytes, booleans .. -/
theorem nwA (X : Stand p l e R s m args below meth c T locs cells slots) (hx : p.tables.exec = Jvm.exec) (hZ : Z.Warmed39 s.vm) {aty : ArrayType} (w : (Cond.arrayClass (newarray.typeOf aty)).before a0 Z = true) (eT : T.heap = h) {α : Type} {f : α → Value} {d : α} {cap : Nat} {n : Int32} {xs : List α} (hv : nwx d cap n = some xs) (hdf : defaultValue (newarray.typeOf aty) = f d)
    {g : JFrame} (hg : g.method = m) {rest : List Value} (hs : g.stack = .int n :: rest) (hd : decode c.code g.pc = .ok (.newarray aty, 2)) (hb : cap * 8 ≤ 536870912) (hc : cells + 1 ≤ R.cells) (hl : slots + cap ≤ R.slots) :
    ∃ T' h', Stand p l e R s m args below meth c T' locs (cells + 1) (slots + cap) ∧ T'.heap = h' ∧ Ext h h' ∧ Ar Z h' h.size (newarray.typeOf aty) (xs.map f) ∧ ∀ target, Steps p.tables e below (T'.setTop { g with pc := g.pc + 2, stack := .ref h.size :: rest }) target → Steps p.tables e below (T.setTop g) target := by
  obtain ⟨q1, q2, rfl⟩ := nwx_at hv
  obtain ⟨T', h', cA, X', e', E', A', st⟩ := newP X hx hZ w eT hg hd hs q1 (cap := cap) q2 hb hc hl
  exact ⟨T', h', X', e', E', Ar.new A' q1 hdf, st⟩
variable {y : MethodName} {bytes : ByteArray} {maxL : Nat} {ret : Option FieldType} {rm : Room} {as' : Array Value} {Q : Option Value → Heap → List Loc → Prop} {own : String} {index : Nat}
/-- a static call by the callee's contract -/
theorem callQ (X : Stand p l e R s m args below meth c T locs cells slots) (hx : p.tables.exec = Jvm.exec) (hZ : Z.Warmed39 s.vm)
    (hown : s.vm.findClass own = some m.cls) (w1 : (Cond.methodLink own index y).before a0 Z = true) (w2 : (Cond.static y).before a0 Z = true) (w3 : (Cond.initialized y.cls).before a0 Z = true) (w4 : (Cond.code y bytes maxL ret).before a0 Z = true) (hy : y.cls ≠ "java/lang/invoke/MethodHandle" ∧ y.cls ≠ "java/lang/invoke/VarHandle")
    (hM : MetFree l y (head1 [Cond.code y bytes maxL ret] rm) (fun a U => a = as' ∧ Z.Warmed39 U.vm ∧ U.heap = h) (fun _ _ _ _ _ => True) (fun _ U o U' => ∃ v L, o = .returned v ∧ Q v U'.heap L ∧ FrameEnd U o U' L rm.cells rm.slots))
    {W : Nat} (hf : rm.frames + 1 ≤ R.frames) (hl : W + (maxL + 11) + rm.locals ≤ R.locals) (hc : cells + rm.cells ≤ R.cells) (hs' : slots + rm.slots ≤ R.slots) (eT : T.heap = h)
    {g : JFrame} (hg : g.method = m) (hsize : g.locals.size = c.maxLocals) {argsL rest : List Value} (hlen : ∀ sig, parseMethodDescriptor y.desc = some sig → argsL.length = sig.parameters.length)
    (hstack : g.stack = argsL.reverse ++ rest) (hW : 2 * g.monitorRoom + (rest.map fun v => v.category).sum ≤ W) (hdg : decode c.code g.pc = .ok (.invokestatic index, 3)) (has : argsL.toArray = as' := by rfl) :
    ∃ v T' L', Stand p l e R s m args below meth c T' (locs ++ L') (cells + rm.cells) (slots + rm.slots) ∧ Q v T'.heap L' ∧ ∀ target, Steps p.tables e below (T'.setTop { g with pc := g.pc + 3, stack := v.toList ++ rest }) target → Steps p.tables e below (T.setTop g) target := by
  obtain ⟨v, vm₁, ⟨T', L', k', n'⟩, -, X', ⟨Lc, q2, l1, y1, z3⟩, st⟩ := Jvm.LawKit.callS X hx (y := y) hown (mvT hZ w1) (mvT hZ w2) (mvT hZ w3) (mvT hZ w4) hy (backOf (W := W) hM hZ w4 w3 hf hl) hg hsize hlen hstack hW hdg (fun _ _ => ⟨has, eT, hc, hs'⟩)
  dsimp only [Pt.U, Pt.locs, Pt.cells, Pt.slots] at X' l1 y1 z3 st q2
  subst l1 y1 z3
  exact ⟨v, T', Lc, X', q2, st⟩
/-- a constructor by its contract -/
theorem callN {ret : Option FieldType} (X : Stand p l e R s m args below meth c T locs cells slots) (hx : p.tables.exec = Jvm.exec) (hZ : Z.Warmed39 s.vm) (hret : ret = none) (hnm : y.name = "<init>")
    (hown : s.vm.findClass own = some m.cls) (w1 : (Cond.methodLink own index y).before a0 Z = true) (w2 : (Cond.instanceMethod y).before a0 Z = true) (w3 : (Cond.initialized y.cls).before a0 Z = true) (w4 : (Cond.code y bytes maxL ret).before a0 Z = true) (hy : y.cls ≠ "java/lang/invoke/MethodHandle" ∧ y.cls ≠ "java/lang/invoke/VarHandle")
    (hM : MetFree l y (head1 [Cond.code y bytes maxL ret] rm) (fun a U => a = as' ∧ Z.Warmed39 U.vm ∧ U.heap = h) (fun _ _ _ _ _ => True) (fun _ U o U' => ∃ v L, o = .returned v ∧ Q v U'.heap L ∧ FrameEnd U o U' L rm.cells rm.slots))
    {W : Nat} (hf : rm.frames + 1 ≤ R.frames) (hl : W + (maxL + 11) + rm.locals ≤ R.locals) (hc : cells + rm.cells ≤ R.cells) (hs' : slots + rm.slots ≤ R.slots) (eT : T.heap = h)
    {g : JFrame} (hg : g.method = m) (hsize : g.locals.size = c.maxLocals) {a : Addr} {argsL rest : List Value} (hlen : ∀ sig, parseMethodDescriptor y.desc = some sig → argsL.length = sig.parameters.length)
    (hstack : g.stack = argsL.reverse ++ .ref a :: rest) (hW : 2 * g.monitorRoom + (rest.map fun v => v.category).sum ≤ W) (hdg : decode c.code g.pc = .ok (.invokespecial index, 3)) (has : (Value.ref a :: argsL).toArray = as' := by rfl) :
    ∃ v T' L', Stand p l e R s m args below meth c T' (locs ++ L') (cells + rm.cells) (slots + rm.slots) ∧ Q v T'.heap L' ∧ ∀ target, Steps p.tables e below (T'.setTop { g with pc := g.pc + 3, stack := v.toList ++ rest }) target → Steps p.tables e below (T.setTop g) target := by
  subst hret
  obtain ⟨v, vm₁, ⟨T', L', k', n'⟩, -, X', ⟨Lc, q2, l1, y1, z3⟩, st⟩ := X.specialBack hx (y := y) hnm hown (mvT hZ w1) (mvT hZ w2) (mvT hZ w4) hy (backOf (W := W) hM hZ w4 w3 hf hl) hg hsize (Steps.refl _) hlen hstack hW hdg (fun _ _ => ⟨has, eT, hc, hs'⟩)
  dsimp only [Pt.U, Pt.locs, Pt.cells, Pt.slots] at X' l1 y1 z3 st q2
  subst l1 y1 z3
  exact ⟨v, T', Lc, X', q2, fun t k => st.trans k⟩
/-- an instance method by its contract -/
theorem callV (X : Stand p l e R s m args below meth c T locs cells slots) (hx : p.tables.exec = Jvm.exec) (hZ : Z.Warmed39 s.vm)
    (hown : s.vm.findClass own = some m.cls) (w1 : (Cond.methodLink own index y).before a0 Z = true) (w2 : (Cond.declares y).before a0 Z = true) (w3 : (Cond.selects y.cls y y).before a0 Z = true) (w5 : (Cond.instanceMethod y).before a0 Z = true) (w6 : (Cond.initialized y.cls).before a0 Z = true) (w4 : (Cond.code y bytes maxL ret).before a0 Z = true) (hy : y.cls ≠ "java/lang/invoke/MethodHandle" ∧ y.cls ≠ "java/lang/invoke/VarHandle")
    (hM : MetFree l y (head1 [Cond.code y bytes maxL ret] rm) (fun a U => a = as' ∧ Z.Warmed39 U.vm ∧ U.heap = h) (fun _ _ _ _ _ => True) (fun _ U o U' => ∃ v L, o = .returned v ∧ Q v U'.heap L ∧ FrameEnd U o U' L rm.cells rm.slots))
    {W : Nat} (hf : rm.frames + 1 ≤ R.frames) (hl : W + (maxL + 11) + rm.locals ≤ R.locals) (hc : cells + rm.cells ≤ R.cells) (hs' : slots + rm.slots ≤ R.slots) (eT : T.heap = h) {a : Addr} (E : Exa Z h a y.cls)
    {g : JFrame} (hg : g.method = m) (hsize : g.locals.size = c.maxLocals) {argsL rest : List Value} (hlen : ∀ sig, parseMethodDescriptor y.desc = some sig → argsL.length = sig.parameters.length)
    (hstack : g.stack = argsL.reverse ++ .ref a :: rest) (hW : 2 * g.monitorRoom + (rest.map fun v => v.category).sum ≤ W) (hdg : decode c.code g.pc = .ok (.invokevirtual index, 3)) (has : (Value.ref a :: argsL).toArray = as' := by rfl) :
    ∃ v T' L', Stand p l e R s m args below meth c T' (locs ++ L') (cells + rm.cells) (slots + rm.slots) ∧ Q v T'.heap L' ∧ ∀ target, Steps p.tables e below (T'.setTop { g with pc := g.pc + 3, stack := v.toList ++ rest }) target → Steps p.tables e below (T.setTop g) target := by
  obtain ⟨cq, kq, qa, qb, qc⟩ := isOf hZ eT E
  obtain ⟨v, vm₁, ⟨T', L', k', n'⟩, -, X', ⟨Lc, q2, l1, y1, z3⟩, st⟩ := X.virtualBack hx (y := y) (z := y) hown (mvT hZ w1) (mvT hZ w2) (notFace_of_selects (args := #[]) (mvT hZ w3)) (mvT hZ w3) (mvT hZ w5) hy (backOf (W := W) hM hZ w4 w6 hf hl) qa qc hg hsize (Steps.refl _) hlen hstack hW hdg (fun _ _ => ⟨has, eT, hc, hs'⟩)
  dsimp only [Pt.U, Pt.locs, Pt.cells, Pt.slots] at X' l1 y1 z3 st q2
  subst l1 y1 z3
  exact ⟨v, T', Lc, X', q2, fun t k => st.trans k⟩
/-- a private method by its contract -/
theorem callR (X : Stand p l e R s m args below meth c T locs cells slots) (hx : p.tables.exec = Jvm.exec) (hZ : Z.Warmed39 s.vm)
    (hown : s.vm.findClass own = some m.cls) (w1 : (Cond.methodLink own index y).before a0 Z = true) (w2 : (Cond.privateMethod y).before a0 Z = true) {kk : Nat} (w3 : (Cond.instantiable y.cls kk).before a0 Z = true) (w5 : (Cond.instanceMethod y).before a0 Z = true) (w6 : (Cond.initialized y.cls).before a0 Z = true) (w4 : (Cond.code y bytes maxL ret).before a0 Z = true) (hy : y.cls ≠ "java/lang/invoke/MethodHandle" ∧ y.cls ≠ "java/lang/invoke/VarHandle")
    (hM : MetFree l y (head1 [Cond.code y bytes maxL ret] rm) (fun a U => a = as' ∧ Z.Warmed39 U.vm ∧ U.heap = h) (fun _ _ _ _ _ => True) (fun _ U o U' => ∃ v L, o = .returned v ∧ Q v U'.heap L ∧ FrameEnd U o U' L rm.cells rm.slots))
    {W : Nat} (hf : rm.frames + 1 ≤ R.frames) (hl : W + (maxL + 11) + rm.locals ≤ R.locals) (hc : cells + rm.cells ≤ R.cells) (hs' : slots + rm.slots ≤ R.slots) (eT : T.heap = h) {a : Addr} (E : Exa Z h a y.cls)
    {g : JFrame} (hg : g.method = m) (hsize : g.locals.size = c.maxLocals) {argsL rest : List Value} (hlen : ∀ sig, parseMethodDescriptor y.desc = some sig → argsL.length = sig.parameters.length)
    (hstack : g.stack = argsL.reverse ++ .ref a :: rest) (hW : 2 * g.monitorRoom + (rest.map fun v => v.category).sum ≤ W) (hdg : decode c.code g.pc = .ok (.invokevirtual index, 3)) (has : (Value.ref a :: argsL).toArray = as' := by rfl) :
    ∃ v T' L', Stand p l e R s m args below meth c T' (locs ++ L') (cells + rm.cells) (slots + rm.slots) ∧ Q v T'.heap L' ∧ ∀ target, Steps p.tables e below (T'.setTop { g with pc := g.pc + 3, stack := v.toList ++ rest }) target → Steps p.tables e below (T.setTop g) target := by
  obtain ⟨cq, q, q'⟩ := E.cell
  have hpr := Cond.privateMethod_at (mvP hZ w2 (args := args))
  obtain ⟨c4, k2, i1, i2, -, i4, -⟩ := Cond.instantiable_spec (mvT hZ w3 : (Cond.instantiable y.cls kk).before args s = true)
  have hsel := selects_self_of_private (args := args) i1 i2 (by simp only [Bool.or_eq_false_iff] at i4; exact i4.1) hpr (mvT hZ w5) hy
  obtain ⟨v, vm₁, ⟨T', L', k', n'⟩, -, X', ⟨Lc, q2, l1, y1, z3⟩, st⟩ := X.privateBack hx (y := y) hown (mvT hZ w1) (mvT hZ w5) hsel hpr (mvT hZ w4) hy (backOf (W := W) hM hZ w4 w6 hf hl) hg hsize (Steps.refl _) (by rw [eT]; exact q) q' hlen hstack hW hdg (fun _ _ => ⟨has, eT, hc, hs'⟩)
  dsimp only [Pt.U, Pt.locs, Pt.cells, Pt.slots] at X' l1 y1 z3 st q2
  subst l1 y1 z3
  exact ⟨v, T', Lc, X', q2, fun t k => st.trans k⟩
end Own2
end Jvm.RoadKit
namespace Jvm.Pilot.@@N@@
open Jvm Jvm.ClassFile Sem Op Lib Jvm.Free Jvm.Stand Jvm.LawKit Jvm.RoadKit Bundle Jvm.Pilot.@@N@@.Jvm.D
-- body 3 as 3: com/example/sinogrid/sinogrid/LuminanceGrid.fits:(JJ)Z (touches nothing)
theorem d3_0 : decode prog_23_method_2_code 0 = .ok (.lload_n 0, 1) := by decide +kernel
theorem d3_1 : decode prog_23_method_2_code 1 = .ok (.lconst 1, 1) := by decide +kernel
theorem d3_2 : decode prog_23_method_2_code 2 = .ok (.lcmp, 1) := by decide +kernel
theorem d3_3 : decode prog_23_method_2_code 3 = .ok (.ifCond .lt 39, 3) := by decide +kernel
theorem d3_6 : decode prog_23_method_2_code 6 = .ok (.lload_n 0, 1) := by decide +kernel
theorem d3_7 : decode prog_23_method_2_code 7 = .ok (.ldc2_w 33, 3) := by decide +kernel
theorem d3_10 : decode prog_23_method_2_code 10 = .ok (.lcmp, 1) := by decide +kernel
theorem d3_11 : decode prog_23_method_2_code 11 = .ok (.ifCond .gt 31, 3) := by decide +kernel
theorem d3_14 : decode prog_23_method_2_code 14 = .ok (.lload_n 2, 1) := by decide +kernel
theorem d3_15 : decode prog_23_method_2_code 15 = .ok (.lconst 1, 1) := by decide +kernel
theorem d3_16 : decode prog_23_method_2_code 16 = .ok (.lcmp, 1) := by decide +kernel
theorem d3_17 : decode prog_23_method_2_code 17 = .ok (.ifCond .lt 25, 3) := by decide +kernel
theorem d3_20 : decode prog_23_method_2_code 20 = .ok (.lload_n 2, 1) := by decide +kernel
theorem d3_21 : decode prog_23_method_2_code 21 = .ok (.ldc2_w 33, 3) := by decide +kernel
theorem d3_24 : decode prog_23_method_2_code 24 = .ok (.lcmp, 1) := by decide +kernel
theorem d3_25 : decode prog_23_method_2_code 25 = .ok (.ifCond .gt 17, 3) := by decide +kernel
theorem d3_28 : decode prog_23_method_2_code 28 = .ok (.lload_n 0, 1) := by decide +kernel
theorem d3_29 : decode prog_23_method_2_code 29 = .ok (.lload_n 2, 1) := by decide +kernel
theorem d3_30 : decode prog_23_method_2_code 30 = .ok (.lmul, 1) := by decide +kernel
theorem d3_31 : decode prog_23_method_2_code 31 = .ok (.ldc2_w 35, 3) := by decide +kernel
theorem d3_34 : decode prog_23_method_2_code 34 = .ok (.lcmp, 1) := by decide +kernel
theorem d3_35 : decode prog_23_method_2_code 35 = .ok (.ifCond .gt 7, 3) := by decide +kernel
theorem d3_38 : decode prog_23_method_2_code 38 = .ok (.iconst 1, 1) := by decide +kernel
theorem d3_39 : decode prog_23_method_2_code 39 = .ok (.goto 4, 3) := by decide +kernel
theorem d3_42 : decode prog_23_method_2_code 42 = .ok (.iconst 0, 1) := by decide +kernel
theorem d3_43 : decode prog_23_method_2_code 43 = .ok (.ireturn, 1) := by decide +kernel
theorem pn3 : plainName "com/example/sinogrid/sinogrid/LuminanceGrid" = true := by first | (simp [plainName, overriddenIn]; done) | decide +kernel
theorem pd3 : parseMethodDescriptor "(JJ)Z" = some ⟨[.long, .long], some .boolean⟩ := by decide +kernel
theorem ef3 (m : MethodId) (x0 : Int64) (x2 : Int64) : entryFrame m #[(.long x0), (.long x2)] 4 = mkF m 0 #[.val (.long x0), .second, .val (.long x2), .second] [] := by first | (simp [entryFrame, mkF, argsToLocals, Value.category]; done) | rfl
abbrev rx3 : Room := { frames := 0, cells := 0, slots := 0, locals := 0 }
abbrev Cx3 (Z : State) (a0 : Array Value) (p : Program) (s : State) (m : MethodId) (meth : Method) (c : Code) : Prop := p.tables.exec = Jvm.exec ∧ Z.Warmed39 s.vm ∧ (∀ d ∈ tables_1, d.before a0 Z = true) ∧ c.code = prog_23_method_2_code ∧ c.maxLocals = 4 ∧ s.vm.findClass "com/example/sinogrid/sinogrid/LuminanceGrid" = some m.cls ∧ meth.sig.returnType = (some .boolean) ∧ meth.locks = false ∧ meth.name = "fits"
def Q3 (Z : State) (x0 : Int64) (x2 : Int64) (h0 : Heap) (o : Int32) (v : Option Value) (h : Heap) (L : List Loc) : Prop := v = some (.int o) ∧ h = h0 ∧ L = []
def f3 (x0 : Int64) (x2 : Int64) : Option (Int32) := (if x0 < (1 : Int64) then some ((0 : Int32)) else (if (32768 : Int64) < x0 then some ((0 : Int32)) else (if x2 < (1 : Int64) then some ((0 : Int32)) else (if (32768 : Int64) < x2 then some ((0 : Int32)) else (if (67108864 : Int64) < (x0 * x2) then some ((0 : Int32)) else some ((1 : Int32)))))))
set_option maxRecDepth 65536 in
set_option maxHeartbeats 40000000 in
theorem w3_0 {p : Program} {l : Launch} {e : Env} {s : State} {m : MethodId} {args : Array Value} {below : List Frame} {meth : Method} {c : Code} {Z : State} {a0 : Array Value} {h0 : Heap} (C : Cx3 Z a0 p s m meth c) :
    ∀ (T : State) (x0 : Int64) (x2 : Int64) (o : Int32), f3 x0 x2 = some o → Stand p l e rx3 s m args below meth c T [] 0 0 → T.heap = h0 →  OwnOut p e s below 0 0 (Q3 Z default default h0 o) (T.setTop (mkF m 0 #[.val (.long x0), .second, .val (.long x2), .second] [])) := by
    obtain ⟨hx, hZ, hw, hby, hml, hown, hret, hlk, hnm⟩ := C
    intro T x0 x2 o hr X0 e0
    rw [f3] at hr
    refine OwnOut.go (fun t k => XS.lloadN X0.here hx rfl (hb hby d3_0) rfl k) ?_
    show OwnOut p e s below 0 0 _ (T.setTop (mkF m 1 #[.val (.long x0), .second, .val (.long x2), .second] [(.long x0)]))
    refine OwnOut.go (fun t k => XT.lconstV X0.here hx rfl (1 : Int64) (hb hby d3_1) rfl k) ?_
    show OwnOut p e s below 0 0 _ (T.setTop (mkF m 2 #[.val (.long x0), .second, .val (.long x2), .second] [(.long (1 : Int64)), (.long x0)]))
    refine OwnOut.go (fun t k => XS.lcmp X0.here hx rfl (hb hby d3_2) rfl k) ?_
    show OwnOut p e s below 0 0 _ (T.setTop (mkF m 3 #[.val (.long x0), .second, .val (.long x2), .second] [(.int (XT.cmpL x0 (1 : Int64)))]))
    by_cases hc3 : x0 < (1 : Int64)
    · rw [if_pos hc3] at hr
      refine OwnOut.go (fun t k => XS.ifYes X0.here hx rfl (pc0 := 3) (pc' := 42) rfl (hb hby d3_3) rfl (XT.ll_lt_t hc3) (by decide) (by decide) k) ?_
      show OwnOut p e s below 0 0 _ (T.setTop (mkF m 42 #[.val (.long x0), .second, .val (.long x2), .second] []))
      refine OwnOut.go (fun t k => XT.iconstV X0.here hx rfl (0 : Int32) (hb hby d3_42) rfl k) ?_
      show OwnOut p e s below 0 0 _ (T.setTop (mkF m 43 #[.val (.long x0), .second, .val (.long x2), .second] [(.int (0 : Int32))]))
      cases hr
      exact outZ X0 hx hret (hb hby d3_43) hlk (by decide) (by decide) ⟨rfl, e0, rfl⟩
    · rw [if_neg hc3] at hr
      refine OwnOut.go (fun t k => XS.ifNo X0.here hx rfl (hb hby d3_3) rfl (XT.ll_lt_f hc3) k) ?_
      show OwnOut p e s below 0 0 _ (T.setTop (mkF m 6 #[.val (.long x0), .second, .val (.long x2), .second] []))
      refine OwnOut.go (fun t k => XS.lloadN X0.here hx rfl (hb hby d3_6) rfl k) ?_
      show OwnOut p e s below 0 0 _ (T.setTop (mkF m 7 #[.val (.long x0), .second, .val (.long x2), .second] [(.long x0)]))
      refine OwnOut.go (fun t k => X0.ldc2Long hx hown (mvT hZ (hw _ (List.mem_of_getElem? (i := 12) rfl))) (g := (mkF m 7 #[.val (.long x0), .second, .val (.long x2), .second] [(.long x0)])) rfl (hb hby d3_7) _ k) ?_
      show OwnOut p e s below 0 0 _ (T.setTop (mkF m 10 #[.val (.long x0), .second, .val (.long x2), .second] [(.long (32768 : Int64)), (.long x0)]))
      refine OwnOut.go (fun t k => XS.lcmp X0.here hx rfl (hb hby d3_10) rfl k) ?_
      show OwnOut p e s below 0 0 _ (T.setTop (mkF m 11 #[.val (.long x0), .second, .val (.long x2), .second] [(.int (XT.cmpL x0 (32768 : Int64)))]))
      by_cases hc11 : (32768 : Int64) < x0
      · rw [if_pos hc11] at hr
        refine OwnOut.go (fun t k => XS.ifYes X0.here hx rfl (pc0 := 11) (pc' := 42) rfl (hb hby d3_11) rfl (XT.ll_gt_t hc11) (by decide) (by decide) k) ?_
        show OwnOut p e s below 0 0 _ (T.setTop (mkF m 42 #[.val (.long x0), .second, .val (.long x2), .second] []))
        refine OwnOut.go (fun t k => XT.iconstV X0.here hx rfl (0 : Int32) (hb hby d3_42) rfl k) ?_
        show OwnOut p e s below 0 0 _ (T.setTop (mkF m 43 #[.val (.long x0), .second, .val (.long x2), .second] [(.int (0 : Int32))]))
        cases hr
        exact outZ X0 hx hret (hb hby d3_43) hlk (by decide) (by decide) ⟨rfl, e0, rfl⟩
      · rw [if_neg hc11] at hr
        refine OwnOut.go (fun t k => XS.ifNo X0.here hx rfl (hb hby d3_11) rfl (XT.ll_gt_f hc11) k) ?_
        show OwnOut p e s below 0 0 _ (T.setTop (mkF m 14 #[.val (.long x0), .second, .val (.long x2), .second] []))
        refine OwnOut.go (fun t k => XS.lloadN X0.here hx rfl (hb hby d3_14) rfl k) ?_
        show OwnOut p e s below 0 0 _ (T.setTop (mkF m 15 #[.val (.long x0), .second, .val (.long x2), .second] [(.long x2)]))
        refine OwnOut.go (fun t k => XT.lconstV X0.here hx rfl (1 : Int64) (hb hby d3_15) rfl k) ?_
        show OwnOut p e s below 0 0 _ (T.setTop (mkF m 16 #[.val (.long x0), .second, .val (.long x2), .second] [(.long (1 : Int64)), (.long x2)]))
        refine OwnOut.go (fun t k => XS.lcmp X0.here hx rfl (hb hby d3_16) rfl k) ?_
        show OwnOut p e s below 0 0 _ (T.setTop (mkF m 17 #[.val (.long x0), .second, .val (.long x2), .second] [(.int (XT.cmpL x2 (1 : Int64)))]))
        by_cases hc17 : x2 < (1 : Int64)
        · rw [if_pos hc17] at hr
          refine OwnOut.go (fun t k => XS.ifYes X0.here hx rfl (pc0 := 17) (pc' := 42) rfl (hb hby d3_17) rfl (XT.ll_lt_t hc17) (by decide) (by decide) k) ?_
          show OwnOut p e s below 0 0 _ (T.setTop (mkF m 42 #[.val (.long x0), .second, .val (.long x2), .second] []))
          refine OwnOut.go (fun t k => XT.iconstV X0.here hx rfl (0 : Int32) (hb hby d3_42) rfl k) ?_
          show OwnOut p e s below 0 0 _ (T.setTop (mkF m 43 #[.val (.long x0), .second, .val (.long x2), .second] [(.int (0 : Int32))]))
          cases hr
          exact outZ X0 hx hret (hb hby d3_43) hlk (by decide) (by decide) ⟨rfl, e0, rfl⟩
        · rw [if_neg hc17] at hr
          refine OwnOut.go (fun t k => XS.ifNo X0.here hx rfl (hb hby d3_17) rfl (XT.ll_lt_f hc17) k) ?_
          show OwnOut p e s below 0 0 _ (T.setTop (mkF m 20 #[.val (.long x0), .second, .val (.long x2), .second] []))
          refine OwnOut.go (fun t k => XS.lloadN X0.here hx rfl (hb hby d3_20) rfl k) ?_
          show OwnOut p e s below 0 0 _ (T.setTop (mkF m 21 #[.val (.long x0), .second, .val (.long x2), .second] [(.long x2)]))
          refine OwnOut.go (fun t k => X0.ldc2Long hx hown (mvT hZ (hw _ (List.mem_of_getElem? (i := 12) rfl))) (g := (mkF m 21 #[.val (.long x0), .second, .val (.long x2), .second] [(.long x2)])) rfl (hb hby d3_21) _ k) ?_
          show OwnOut p e s below 0 0 _ (T.setTop (mkF m 24 #[.val (.long x0), .second, .val (.long x2), .second] [(.long (32768 : Int64)), (.long x2)]))
          refine OwnOut.go (fun t k => XS.lcmp X0.here hx rfl (hb hby d3_24) rfl k) ?_
          show OwnOut p e s below 0 0 _ (T.setTop (mkF m 25 #[.val (.long x0), .second, .val (.long x2), .second] [(.int (XT.cmpL x2 (32768 : Int64)))]))
          by_cases hc25 : (32768 : Int64) < x2
          · rw [if_pos hc25] at hr
            refine OwnOut.go (fun t k => XS.ifYes X0.here hx rfl (pc0 := 25) (pc' := 42) rfl (hb hby d3_25) rfl (XT.ll_gt_t hc25) (by decide) (by decide) k) ?_
            show OwnOut p e s below 0 0 _ (T.setTop (mkF m 42 #[.val (.long x0), .second, .val (.long x2), .second] []))
            refine OwnOut.go (fun t k => XT.iconstV X0.here hx rfl (0 : Int32) (hb hby d3_42) rfl k) ?_
            show OwnOut p e s below 0 0 _ (T.setTop (mkF m 43 #[.val (.long x0), .second, .val (.long x2), .second] [(.int (0 : Int32))]))
            cases hr
            exact outZ X0 hx hret (hb hby d3_43) hlk (by decide) (by decide) ⟨rfl, e0, rfl⟩
          · rw [if_neg hc25] at hr
            refine OwnOut.go (fun t k => XS.ifNo X0.here hx rfl (hb hby d3_25) rfl (XT.ll_gt_f hc25) k) ?_
            show OwnOut p e s below 0 0 _ (T.setTop (mkF m 28 #[.val (.long x0), .second, .val (.long x2), .second] []))
            refine OwnOut.go (fun t k => XS.lloadN X0.here hx rfl (hb hby d3_28) rfl k) ?_
            show OwnOut p e s below 0 0 _ (T.setTop (mkF m 29 #[.val (.long x0), .second, .val (.long x2), .second] [(.long x0)]))
            refine OwnOut.go (fun t k => XS.lloadN X0.here hx rfl (hb hby d3_29) rfl k) ?_
            show OwnOut p e s below 0 0 _ (T.setTop (mkF m 30 #[.val (.long x0), .second, .val (.long x2), .second] [(.long x2), (.long x0)]))
            refine OwnOut.go (fun t k => XS.lmul X0.here hx rfl (hb hby d3_30) rfl k) ?_
            show OwnOut p e s below 0 0 _ (T.setTop (mkF m 31 #[.val (.long x0), .second, .val (.long x2), .second] [(.long (x0 * x2))]))
            refine OwnOut.go (fun t k => X0.ldc2Long hx hown (mvT hZ (hw _ (List.mem_of_getElem? (i := 13) rfl))) (g := (mkF m 31 #[.val (.long x0), .second, .val (.long x2), .second] [(.long (x0 * x2))])) rfl (hb hby d3_31) _ k) ?_
            show OwnOut p e s below 0 0 _ (T.setTop (mkF m 34 #[.val (.long x0), .second, .val (.long x2), .second] [(.long (67108864 : Int64)), (.long (x0 * x2))]))
            refine OwnOut.go (fun t k => XS.lcmp X0.here hx rfl (hb hby d3_34) rfl k) ?_
            show OwnOut p e s below 0 0 _ (T.setTop (mkF m 35 #[.val (.long x0), .second, .val (.long x2), .second] [(.int (XT.cmpL (x0 * x2) (67108864 : Int64)))]))
            by_cases hc35 : (67108864 : Int64) < (x0 * x2)
            · rw [if_pos hc35] at hr
              refine OwnOut.go (fun t k => XS.ifYes X0.here hx rfl (pc0 := 35) (pc' := 42) rfl (hb hby d3_35) rfl (XT.ll_gt_t hc35) (by decide) (by decide) k) ?_
              show OwnOut p e s below 0 0 _ (T.setTop (mkF m 42 #[.val (.long x0), .second, .val (.long x2), .second] []))
              refine OwnOut.go (fun t k => XT.iconstV X0.here hx rfl (0 : Int32) (hb hby d3_42) rfl k) ?_
              show OwnOut p e s below 0 0 _ (T.setTop (mkF m 43 #[.val (.long x0), .second, .val (.long x2), .second] [(.int (0 : Int32))]))
              cases hr
              exact outZ X0 hx hret (hb hby d3_43) hlk (by decide) (by decide) ⟨rfl, e0, rfl⟩
            · rw [if_neg hc35] at hr
              refine OwnOut.go (fun t k => XS.ifNo X0.here hx rfl (hb hby d3_35) rfl (XT.ll_gt_f hc35) k) ?_
              show OwnOut p e s below 0 0 _ (T.setTop (mkF m 38 #[.val (.long x0), .second, .val (.long x2), .second] []))
              refine OwnOut.go (fun t k => XT.iconstV X0.here hx rfl (1 : Int32) (hb hby d3_38) rfl k) ?_
              show OwnOut p e s below 0 0 _ (T.setTop (mkF m 39 #[.val (.long x0), .second, .val (.long x2), .second] [(.int (1 : Int32))]))
              refine OwnOut.go (fun t k => XS.goto X0.here hx rfl (pc0 := 39) (pc' := 43) rfl (hb hby d3_39) (by decide) (by decide) k) ?_
              show OwnOut p e s below 0 0 _ (T.setTop (mkF m 43 #[.val (.long x0), .second, .val (.long x2), .second] [(.int (1 : Int32))]))
              cases hr
              exact outZ X0 hx hret (hb hby d3_43) hlk (by decide) (by decide) ⟨rfl, e0, rfl⟩
set_option maxRecDepth 65536 in
set_option maxHeartbeats 40000000 in
theorem rm3 (l : Launch) (Z : State) (a0 : Array Value) (hw : ∀ d ∈ tables_1, d.before a0 Z = true) (ws : List Jvm.Cond) (x0 : Int64) (x2 : Int64) (h0 : Heap) (o : Int32) (hr : f3 x0 x2 = some o) :
    MetFree l (⟨"com/example/sinogrid/sinogrid/LuminanceGrid", "fits", "(JJ)Z"⟩ : MethodName) (head1 (Jvm.Cond.code (⟨"com/example/sinogrid/sinogrid/LuminanceGrid", "fits", "(JJ)Z"⟩ : MethodName) prog_23_method_2_code 4 (some .boolean) :: ws) rx3) (fun a U => a = #[(.long x0), (.long x2)] ∧ Z.Warmed39 U.vm ∧ U.heap = h0) (fun _ _ _ _ _ => True) (fun _ U o' U' => ∃ v L, o' = .returned v ∧ Q3 Z x0 x2 h0 o v U'.heap L ∧ FrameEnd U o' U' L rx3.cells rx3.slots) := by
  refine MetFree.of_bodySF (plainFor_of_name pn3) hisR ?_
  intro p e s m args below meth c s₁ Bd hml0 hP hK
  obtain ⟨rfl, hZ, hh⟩ := hP
  have X0 : Stand p l e rx3 s m #[(.long x0), (.long x2)] below meth c s₁ [] 0 0 := Stand.of_body Bd
  have e0 : s₁.heap = h0 := by rw [← hh, Bd.state]; rfl
  exact OwnOut.at (ef3 m x0 x2) (w3_0 ⟨Bd.exec, hZ, hw, Bd.bytes, hml0, findClass_of_methodNamed Bd.named, Bd.returns, Bd.notSynchronized, (name_of_methodNamed Bd.named Bd.method).1⟩ _ x0 x2 o hr X0 e0  )
-- body 1 as 1: com/example/sinogrid/sinogrid/LuminanceGrid.<init>:(II)V
theorem d1_0 : decode prog_23_method_1_code 0 = .ok (.aload_n 0, 1) := by decide +kernel
theorem d1_1 : decode prog_23_method_1_code 1 = .ok (.invokespecial 1, 3) := by decide +kernel
theorem d1_4 : decode prog_23_method_1_code 4 = .ok (.iload_n 1, 1) := by decide +kernel
theorem d1_5 : decode prog_23_method_1_code 5 = .ok (.i2l, 1) := by decide +kernel
theorem d1_6 : decode prog_23_method_1_code 6 = .ok (.iload_n 2, 1) := by decide +kernel
theorem d1_7 : decode prog_23_method_1_code 7 = .ok (.i2l, 1) := by decide +kernel
theorem d1_8 : decode prog_23_method_1_code 8 = .ok (.invokestatic 7, 3) := by decide +kernel
theorem d1_11 : decode prog_23_method_1_code 11 = .ok (.ifCond .ne 18, 3) := by decide +kernel
theorem d1_29 : decode prog_23_method_1_code 29 = .ok (.aload_n 0, 1) := by decide +kernel
theorem d1_30 : decode prog_23_method_1_code 30 = .ok (.iload_n 1, 1) := by decide +kernel
theorem d1_31 : decode prog_23_method_1_code 31 = .ok (.putfield 22, 3) := by decide +kernel
theorem d1_34 : decode prog_23_method_1_code 34 = .ok (.aload_n 0, 1) := by decide +kernel
theorem d1_35 : decode prog_23_method_1_code 35 = .ok (.iload_n 2, 1) := by decide +kernel
theorem d1_36 : decode prog_23_method_1_code 36 = .ok (.putfield 26, 3) := by decide +kernel
theorem d1_39 : decode prog_23_method_1_code 39 = .ok (.aload_n 0, 1) := by decide +kernel
theorem d1_40 : decode prog_23_method_1_code 40 = .ok (.iload_n 1, 1) := by decide +kernel
theorem d1_41 : decode prog_23_method_1_code 41 = .ok (.iload_n 2, 1) := by decide +kernel
theorem d1_42 : decode prog_23_method_1_code 42 = .ok (.imul, 1) := by decide +kernel
theorem d1_43 : decode prog_23_method_1_code 43 = .ok (.newarray .byte, 2) := by decide +kernel
theorem d1_45 : decode prog_23_method_1_code 45 = .ok (.putfield 29, 3) := by decide +kernel
theorem d1_48 : decode prog_23_method_1_code 48 = .ok (.return_, 1) := by decide +kernel
theorem pn1 : plainName "com/example/sinogrid/sinogrid/LuminanceGrid" = true := by first | (simp [plainName, overriddenIn]; done) | decide +kernel
theorem pd1 : parseMethodDescriptor "(II)V" = some ⟨[.int, .int], none⟩ := by decide +kernel
theorem ef1 (m : MethodId) (b0 : Addr) (x1 : Int32) (x2 : Int32) : entryFrame m #[(.ref b0), (.int x1), (.int x2)] 3 = mkF m 0 #[.val (.ref b0), .val (.int x1), .val (.int x2)] [] := by first | (simp [entryFrame, mkF, argsToLocals, Value.category]; done) | rfl
abbrev rx1 : Room := { frames := 1, cells := 1, slots := 4, locals := 15 }
abbrev Cx1 (Z : State) (a0 : Array Value) (p : Program) (s : State) (m : MethodId) (meth : Method) (c : Code) : Prop := p.tables.exec = Jvm.exec ∧ Z.Warmed39 s.vm ∧ (∀ d ∈ tables_1, d.before a0 Z = true) ∧ c.code = prog_23_method_1_code ∧ c.maxLocals = 3 ∧ s.vm.findClass "com/example/sinogrid/sinogrid/LuminanceGrid" = some m.cls ∧ meth.sig.returnType = none ∧ meth.locks = false ∧ meth.name = "<init>"
def Q1 (Z : State) (x1 : Int32) (x2 : Int32) (b0 : Addr) (u0_width : Int32) (u0_height : Int32) (h0 : Heap) (n0 : Nat) (o : Int32 × Int32 × List Int32) (v : Option Value) (h : Heap) (L : List Loc) : Prop := ∃ c0 : Addr, v = none ∧ Fr n0 L ∧ Keep h0 h [b0] ∧ Fld Z h b0 "com/example/sinogrid/sinogrid/LuminanceGrid" "width" "I" (.int o.1) ∧ Fld Z h b0 "com/example/sinogrid/sinogrid/LuminanceGrid" "height" "I" (.int o.2.1) ∧ Fld Z h b0 "com/example/sinogrid/sinogrid/LuminanceGrid" "values" "[B" (.ref c0) ∧ h0.size ≤ c0 ∧ n0 ≤ c0 ∧ Ari Z h c0 .byte o.2.2
def f1 (x1 : Int32) (x2 : Int32) (u0_width : Int32) (u0_height : Int32) : Option (Int32 × Int32 × List Int32) := ((f3 (x1.toInt64) (x2.toInt64)).bind fun o2 => (if o2 = (0 : Int32) then none else ((nwx (0 : Int32) 4 (x1 * x2)).bind fun l_5 => some (x1, x2, l_5))))
set_option maxRecDepth 65536 in
set_option maxHeartbeats 40000000 in
theorem w1_0 {p : Program} {l : Launch} {e : Env} {s : State} {m : MethodId} {args : Array Value} {below : List Frame} {meth : Method} {c : Code} {Z : State} {a0 : Array Value} {h0 : Heap} {n0 : Nat} (C : Cx1 Z a0 p s m meth c) :
    ∀ (T : State) (locs : List Loc) (hA : Heap) (x1 : Int32) (x2 : Int32) (b0 : Addr) (u0_width : Int32) (u0_height : Int32) (o : Int32 × Int32 × List Int32), f1 x1 x2 u0_width u0_height = some o → Stand p l e rx1 s m args below meth c T locs 0 0 → T.heap = hA → Fr n0 locs → Old Z n0 hA → Keep h0 hA [b0] → (Exa Z hA b0 "com/example/sinogrid/sinogrid/LuminanceGrid") → (Fld Z hA b0 "com/example/sinogrid/sinogrid/LuminanceGrid" "width" "I" (.int u0_width)) → (Fld Z hA b0 "com/example/sinogrid/sinogrid/LuminanceGrid" "height" "I" (.int u0_height)) → (Fld Z hA b0 "com/example/sinogrid/sinogrid/LuminanceGrid" "values" "[B" .null) → (n0 ≤ b0) →  OwnOut p e s below 1 4 (Q1 Z default default b0 default default h0 n0 o) (T.setTop (mkF m 0 #[.val (.ref b0), .val (.int x1), .val (.int x2)] [])) := by
    obtain ⟨hx, hZ, hw, hby, hml, hown, hret, hlk, hnm⟩ := C
    intro T locs hA x1 x2 b0 u0_width u0_height o hr X0 e0 N0 O0 K0 E0 F0_width F0_height F0_values g0
    rw [f1] at hr
    refine OwnOut.go (fun t k => XS.aloadN X0.here hx rfl (hb hby d1_0) rfl rfl k) ?_
    show OwnOut p e s below 1 4 _ (T.setTop (mkF m 1 #[.val (.ref b0), .val (.int x1), .val (.int x2)] [(.ref b0)]))
    obtain ⟨T1, X1, e1, st1⟩ := initO X0 hx hZ hown (hw _ (List.mem_of_getElem? (i := 6) rfl)) (hw _ (List.mem_of_getElem? (i := 7) rfl)) (hw _ (List.mem_of_getElem? (i := 8) rfl)) e0 (g := (mkF m 1 #[.val (.ref b0), .val (.int x1), .val (.int x2)] [(.ref b0)])) rfl (by rw [hml]; rfl) rfl (hb hby d1_1) (by decide) (W := 0) (by show 2 * 0 + _ ≤ _; exact Nat.le_of_eq rfl) (by decide)
    refine OwnOut.go (fun t k => st1 _ k) ?_
    show OwnOut p e s below 1 4 _ (T1.setTop (mkF m 4 #[.val (.ref b0), .val (.int x1), .val (.int x2)] []))
    refine OwnOut.go (fun t k => XS.iloadN X1.here hx rfl (hb hby d1_4) rfl k) ?_
    show OwnOut p e s below 1 4 _ (T1.setTop (mkF m 5 #[.val (.ref b0), .val (.int x1), .val (.int x2)] [(.int x1)]))
    refine OwnOut.go (fun t k => XS.i2l X1.here hx rfl (hb hby d1_5) rfl k) ?_
    show OwnOut p e s below 1 4 _ (T1.setTop (mkF m 6 #[.val (.ref b0), .val (.int x1), .val (.int x2)] [(.long (x1.toInt64))]))
    refine OwnOut.go (fun t k => XS.iloadN X1.here hx rfl (hb hby d1_6) rfl k) ?_
    show OwnOut p e s below 1 4 _ (T1.setTop (mkF m 7 #[.val (.ref b0), .val (.int x1), .val (.int x2)] [(.int x2), (.long (x1.toInt64))]))
    refine OwnOut.go (fun t k => XS.i2l X1.here hx rfl (hb hby d1_7) rfl k) ?_
    show OwnOut p e s below 1 4 _ (T1.setTop (mkF m 8 #[.val (.ref b0), .val (.int x1), .val (.int x2)] [(.long (x2.toInt64)), (.long (x1.toInt64))]))
    obtain ⟨o2, ho2, hr⟩ := Option.bind_eq_some_iff.mp hr
    obtain ⟨r2, T2, L2, X2', hQ2, st2⟩ := callQ (W := 0) (rm := rx3) X1 hx hZ (y := (⟨"com/example/sinogrid/sinogrid/LuminanceGrid", "fits", "(JJ)Z"⟩ : MethodName)) hown (hw _ (List.mem_of_getElem? (i := 9) rfl)) (hw _ (List.mem_of_getElem? (i := 10) rfl)) (hw _ (List.mem_of_getElem? (i := 2) rfl)) (hw _ (List.mem_of_getElem? (i := 11) rfl)) (by decide) (rm3 l Z a0 hw [] (x1.toInt64) (x2.toInt64) hA o2 ho2 ) (by decide) (by decide) (by decide) (by decide) e1 (g := (mkF m 8 #[.val (.ref b0), .val (.int x1), .val (.int x2)] [(.long (x2.toInt64)), (.long (x1.toInt64))])) rfl (by rw [hml]; rfl) (argsL := [(.long (x1.toInt64)), (.long (x2.toInt64))]) (rest := []) (lenOf pd3 rfl) rfl (by show 2 * 0 + _ ≤ _; exact Nat.le_of_eq rfl) (hb hby d1_8)
    obtain ⟨rfl, e2, rfl⟩ := hQ2
    rw [List.append_nil] at X2'
    have X2 : Stand p l e rx1 s m args below meth c T2 _ 0 0 := X2'
    refine OwnOut.go (fun t k => st2 _ k) ?_
    show OwnOut p e s below 1 4 _ (T2.setTop (mkF m 11 #[.val (.ref b0), .val (.int x1), .val (.int x2)] [(.int o2)]))
    by_cases hc11 : o2 = (0 : Int32)
    · rw [if_pos hc11] at hr
      cases hr
    · rw [if_neg hc11] at hr
      refine OwnOut.go (fun t k => XS.ifYes X2.here hx rfl (pc0 := 11) (pc' := 29) rfl (hb hby d1_11) rfl (XT.i0_ne_t hc11) (by decide) (by decide) k) ?_
      show OwnOut p e s below 1 4 _ (T2.setTop (mkF m 29 #[.val (.ref b0), .val (.int x1), .val (.int x2)] []))
      refine OwnOut.go (fun t k => XS.aloadN X2.here hx rfl (hb hby d1_29) rfl rfl k) ?_
      show OwnOut p e s below 1 4 _ (T2.setTop (mkF m 30 #[.val (.ref b0), .val (.int x1), .val (.int x2)] [(.ref b0)]))
      refine OwnOut.go (fun t k => XS.iloadN X2.here hx rfl (hb hby d1_30) rfl k) ?_
      show OwnOut p e s below 1 4 _ (T2.setTop (mkF m 31 #[.val (.ref b0), .val (.int x1), .val (.int x2)] [(.int x1), (.ref b0)]))
      obtain ⟨T3, h3, X3, e3, W3, st3⟩ := putF X2 hx hZ hown (host := "") (Or.inl (hw _ (List.mem_of_getElem? (i := 14) rfl))) Via.refl e2 F0_width E0 (Or.inr ⟨(hw _ (List.mem_of_getElem? (i := 15) rfl)), rfl, hnm⟩) (hw _ (List.mem_of_getElem? (i := 1) rfl)) (ty := .int) (by decide) rfl rfl (g := (mkF m 31 #[.val (.ref b0), .val (.int x1), .val (.int x2)] [(.int x1), (.ref b0)])) rfl rfl (hb hby d1_31)
      refine OwnOut.go (fun t k => st3 _ k) ?_
      have E0_3 := E0.wr W3
      have F0_width_3 := F0_width.same W3
      have F0_height_3 := F0_height.other W3 (Or.inr (slot_ne (Or.inr (hw _ (List.mem_of_getElem? (i := 17) rfl))) (Or.inr (hw _ (List.mem_of_getElem? (i := 15) rfl))) (by decide) (t := .int) (t' := .int) (by decide) (by decide)))
      have F0_values_3 := F0_values.other W3 (Or.inr (slot_ne (Or.inr (hw _ (List.mem_of_getElem? (i := 20) rfl))) (Or.inr (hw _ (List.mem_of_getElem? (i := 15) rfl))) (by decide) (t := (.array .byte)) (t' := .int) (by decide) (by decide)))
      have N_3 := Fr.snoc X3 N0 g0
      have O_3 := O0.wr W3 g0
      have K_3 := K0.wr W3 (Or.inl (List.mem_of_getElem? (i := 0) rfl))
      show OwnOut p e s below 1 4 _ (T3.setTop (mkF m 34 #[.val (.ref b0), .val (.int x1), .val (.int x2)] []))
      refine OwnOut.go (fun t k => XS.aloadN X3.here hx rfl (hb hby d1_34) rfl rfl k) ?_
      show OwnOut p e s below 1 4 _ (T3.setTop (mkF m 35 #[.val (.ref b0), .val (.int x1), .val (.int x2)] [(.ref b0)]))
      refine OwnOut.go (fun t k => XS.iloadN X3.here hx rfl (hb hby d1_35) rfl k) ?_
      show OwnOut p e s below 1 4 _ (T3.setTop (mkF m 36 #[.val (.ref b0), .val (.int x1), .val (.int x2)] [(.int x2), (.ref b0)]))
      obtain ⟨T4, h4, X4, e4, W4, st4⟩ := putF X3 hx hZ hown (host := "") (Or.inl (hw _ (List.mem_of_getElem? (i := 16) rfl))) Via.refl e3 F0_height_3 E0_3 (Or.inr ⟨(hw _ (List.mem_of_getElem? (i := 17) rfl)), rfl, hnm⟩) (hw _ (List.mem_of_getElem? (i := 1) rfl)) (ty := .int) (by decide) rfl rfl (g := (mkF m 36 #[.val (.ref b0), .val (.int x1), .val (.int x2)] [(.int x2), (.ref b0)])) rfl rfl (hb hby d1_36)
      refine OwnOut.go (fun t k => st4 _ k) ?_
      have E0_4 := E0_3.wr W4
      have F0_width_4 := F0_width_3.other W4 (Or.inr (slot_ne (Or.inr (hw _ (List.mem_of_getElem? (i := 15) rfl))) (Or.inr (hw _ (List.mem_of_getElem? (i := 17) rfl))) (by decide) (t := .int) (t' := .int) (by decide) (by decide)))
      have F0_height_4 := F0_height_3.same W4
      have F0_values_4 := F0_values_3.other W4 (Or.inr (slot_ne (Or.inr (hw _ (List.mem_of_getElem? (i := 20) rfl))) (Or.inr (hw _ (List.mem_of_getElem? (i := 17) rfl))) (by decide) (t := (.array .byte)) (t' := .int) (by decide) (by decide)))
      have N_4 := Fr.snoc X4 N_3 g0
      have O_4 := O_3.wr W4 g0
      have K_4 := K_3.wr W4 (Or.inl (List.mem_of_getElem? (i := 0) rfl))
      show OwnOut p e s below 1 4 _ (T4.setTop (mkF m 39 #[.val (.ref b0), .val (.int x1), .val (.int x2)] []))
      refine OwnOut.go (fun t k => XS.aloadN X4.here hx rfl (hb hby d1_39) rfl rfl k) ?_
      show OwnOut p e s below 1 4 _ (T4.setTop (mkF m 40 #[.val (.ref b0), .val (.int x1), .val (.int x2)] [(.ref b0)]))
      refine OwnOut.go (fun t k => XS.iloadN X4.here hx rfl (hb hby d1_40) rfl k) ?_
      show OwnOut p e s below 1 4 _ (T4.setTop (mkF m 41 #[.val (.ref b0), .val (.int x1), .val (.int x2)] [(.int x1), (.ref b0)]))
      refine OwnOut.go (fun t k => XS.iloadN X4.here hx rfl (hb hby d1_41) rfl k) ?_
      show OwnOut p e s below 1 4 _ (T4.setTop (mkF m 42 #[.val (.ref b0), .val (.int x1), .val (.int x2)] [(.int x2), (.int x1), (.ref b0)]))
      refine OwnOut.go (fun t k => XS.imul X4.here hx rfl (hb hby d1_42) rfl k) ?_
      show OwnOut p e s below 1 4 _ (T4.setTop (mkF m 43 #[.val (.ref b0), .val (.int x1), .val (.int x2)] [(.int (x1 * x2)), (.ref b0)]))
      obtain ⟨l_5, hl5, hr⟩ := Option.bind_eq_some_iff.mp hr
      obtain ⟨T5, h5, X5, e5, Ex5, A_5, st5⟩ := nwA X4 hx hZ (hw _ (List.mem_of_getElem? (i := 18) rfl)) e4 hl5 (f := Value.int) rfl (g := (mkF m 43 #[.val (.ref b0), .val (.int x1), .val (.int x2)] [(.int (x1 * x2)), (.ref b0)])) rfl rfl (hb hby d1_43) (by decide) (by decide) (by decide)
      obtain ⟨c5, gc5⟩ : ∃ z, z = h4.size := ⟨_, rfl⟩
      rw [← gc5] at A_5 st5
      refine OwnOut.go (fun t k => st5 _ k) ?_
      have ne0_1_5 : b0 ≠ c5 := Nat.ne_of_lt (gc5 ▸ E0_4.lt)
      have E0_5 := E0_4.ext Ex5
      have F0_width_5 := F0_width_4.ext Ex5
      have F0_height_5 := F0_height_4.ext Ex5
      have F0_values_5 := F0_values_4.ext Ex5
      have g_5 : n0 ≤ c5 := gc5 ▸ (O_4.1 ▸ O_4.2.1)
      have z_5 : h0.size ≤ c5 := gc5 ▸ K_4.1
      have O_5 := O_4.ext Ex5
      have K_5 := K_4.ext Ex5
      show OwnOut p e s below 1 4 _ (T5.setTop (mkF m 45 #[.val (.ref b0), .val (.int x1), .val (.int x2)] [(.ref c5), (.ref b0)]))
      obtain ⟨T6, h6, X6, e6, W6, st6⟩ := putF X5 hx hZ hown (host := "") (Or.inl (hw _ (List.mem_of_getElem? (i := 19) rfl))) Via.refl e5 F0_values_5 E0_5 (Or.inr ⟨(hw _ (List.mem_of_getElem? (i := 20) rfl)), rfl, hnm⟩) (hw _ (List.mem_of_getElem? (i := 1) rfl)) (ty := (.array .byte)) (by decide) rfl rfl (g := (mkF m 45 #[.val (.ref b0), .val (.int x1), .val (.int x2)] [(.ref c5), (.ref b0)])) rfl rfl (hb hby d1_45)
      refine OwnOut.go (fun t k => st6 _ k) ?_
      have E0_6 := E0_5.wr W6
      have F0_width_6 := F0_width_5.other W6 (Or.inr (slot_ne (Or.inr (hw _ (List.mem_of_getElem? (i := 15) rfl))) (Or.inr (hw _ (List.mem_of_getElem? (i := 20) rfl))) (by decide) (t := .int) (t' := (.array .byte)) (by decide) (by decide)))
      have F0_height_6 := F0_height_5.other W6 (Or.inr (slot_ne (Or.inr (hw _ (List.mem_of_getElem? (i := 17) rfl))) (Or.inr (hw _ (List.mem_of_getElem? (i := 20) rfl))) (by decide) (t := .int) (t' := (.array .byte)) (by decide) (by decide)))
      have F0_values_6 := F0_values_5.same W6
      have A1_6 := A_5.other W6 (Ne.symm ne0_1_5)
      have N_6 := Fr.snoc X6 N_4 g0
      have O_6 := O_5.wr W6 g0
      have K_6 := K_5.wr W6 (Or.inl (List.mem_of_getElem? (i := 0) rfl))
      show OwnOut p e s below 1 4 _ (T6.setTop (mkF m 48 #[.val (.ref b0), .val (.int x1), .val (.int x2)] []))
      cases hr
      exact outV X6 hx hret (hb hby d1_48) hlk (by decide) (by decide) (by rw [e6]; exact ⟨c5, rfl, N_6, K_6, F0_width_6, F0_height_6, F0_values_6, z_5, g_5, A1_6⟩)
set_option maxRecDepth 65536 in
set_option maxHeartbeats 40000000 in
theorem rm1 (l : Launch) (Z : State) (a0 : Array Value) (hw : ∀ d ∈ tables_1, d.before a0 Z = true) (ws : List Jvm.Cond) (x1 : Int32) (x2 : Int32) (b0 : Addr) (u0_width : Int32) (u0_height : Int32) (h0 : Heap) (n0 : Nat) (o : Int32 × Int32 × List Int32) (hr : f1 x1 x2 u0_width u0_height = some o) (O0 : Old Z n0 h0) (E0 : Exa Z h0 b0 "com/example/sinogrid/sinogrid/LuminanceGrid") (F0_width : Fld Z h0 b0 "com/example/sinogrid/sinogrid/LuminanceGrid" "width" "I" (.int u0_width)) (F0_height : Fld Z h0 b0 "com/example/sinogrid/sinogrid/LuminanceGrid" "height" "I" (.int u0_height)) (F0_values : Fld Z h0 b0 "com/example/sinogrid/sinogrid/LuminanceGrid" "values" "[B" .null) (g0 : n0 ≤ b0) :
    MetFree l (⟨"com/example/sinogrid/sinogrid/LuminanceGrid", "<init>", "(II)V"⟩ : MethodName) (head1 (Jvm.Cond.code (⟨"com/example/sinogrid/sinogrid/LuminanceGrid", "<init>", "(II)V"⟩ : MethodName) prog_23_method_1_code 3 none :: ws) rx1) (fun a U => a = #[(.ref b0), (.int x1), (.int x2)] ∧ Z.Warmed39 U.vm ∧ U.heap = h0) (fun _ _ _ _ _ => True) (fun _ U o' U' => ∃ v L, o' = .returned v ∧ Q1 Z x1 x2 b0 u0_width u0_height h0 n0 o v U'.heap L ∧ FrameEnd U o' U' L rx1.cells rx1.slots) := by
  refine MetFree.of_bodySF (plainFor_of_name pn1) hisR ?_
  intro p e s m args below meth c s₁ Bd hml0 hP hK
  obtain ⟨rfl, hZ, hh⟩ := hP
  have X0 : Stand p l e rx1 s m #[(.ref b0), (.int x1), (.int x2)] below meth c s₁ [] 0 0 := Stand.of_body Bd
  have e0 : s₁.heap = h0 := by rw [← hh, Bd.state]; rfl
  exact OwnOut.at (ef1 m b0 x1 x2) (w1_0 ⟨Bd.exec, hZ, hw, Bd.bytes, hml0, findClass_of_methodNamed Bd.named, Bd.returns, Bd.notSynchronized, (name_of_methodNamed Bd.named Bd.method).1⟩ _ _ _ x1 x2 b0 u0_width u0_height o hr X0 e0 (Fr.nil n0) O0 (Keep.refl _ _) E0 F0_width F0_height F0_values g0)
-- body 7 as 7: jdk/internal/util/Preconditions.checkIndex:(IILjava/util/function/BiFunction;)I (touches nothing)
theorem d7_0 : decode jdk_41_method_11_code 0 = .ok (.iload_n 0, 1) := by decide +kernel
theorem d7_1 : decode jdk_41_method_11_code 1 = .ok (.ifCond .lt 8, 3) := by decide +kernel
theorem d7_4 : decode jdk_41_method_11_code 4 = .ok (.iload_n 0, 1) := by decide +kernel
theorem d7_5 : decode jdk_41_method_11_code 5 = .ok (.iload_n 1, 1) := by decide +kernel
theorem d7_6 : decode jdk_41_method_11_code 6 = .ok (.if_icmp .lt 10, 3) := by decide +kernel
theorem d7_16 : decode jdk_41_method_11_code 16 = .ok (.iload_n 0, 1) := by decide +kernel
theorem d7_17 : decode jdk_41_method_11_code 17 = .ok (.ireturn, 1) := by decide +kernel
theorem pn7 : plainName "jdk/internal/util/Preconditions" = true := by first | (simp [plainName, overriddenIn]; done) | decide +kernel
theorem pd7 : parseMethodDescriptor "(IILjava/util/function/BiFunction;)I" = some ⟨[.int, .int, (.object "java/util/function/BiFunction")], some .int⟩ := by decide +kernel
theorem ef7 (m : MethodId) (x0 : Int32) (x1 : Int32) : entryFrame m #[(.int x0), (.int x1), .null] 3 = mkF m 0 #[.val (.int x0), .val (.int x1), .val .null] [] := by first | (simp [entryFrame, mkF, argsToLocals, Value.category]; done) | rfl
abbrev rx7 : Room := { frames := 0, cells := 0, slots := 0, locals := 0 }
abbrev Cx7 (Z : State) (a0 : Array Value) (p : Program) (s : State) (m : MethodId) (meth : Method) (c : Code) : Prop := p.tables.exec = Jvm.exec ∧ Z.Warmed39 s.vm ∧ (∀ d ∈ tables_1, d.before a0 Z = true) ∧ c.code = jdk_41_method_11_code ∧ c.maxLocals = 3 ∧ s.vm.findClass "jdk/internal/util/Preconditions" = some m.cls ∧ meth.sig.returnType = (some .int) ∧ meth.locks = false ∧ meth.name = "checkIndex"
def Q7 (Z : State) (x0 : Int32) (x1 : Int32) (h0 : Heap) (o : Int32) (v : Option Value) (h : Heap) (L : List Loc) : Prop := v = some (.int o) ∧ h = h0 ∧ L = []
def f7 (x0 : Int32) (x1 : Int32) : Option (Int32) := (if x0 < (0 : Int32) then none else (if x0 < x1 then some (x0) else none))
set_option maxRecDepth 65536 in
set_option maxHeartbeats 40000000 in
theorem w7_0 {p : Program} {l : Launch} {e : Env} {s : State} {m : MethodId} {args : Array Value} {below : List Frame} {meth : Method} {c : Code} {Z : State} {a0 : Array Value} {h0 : Heap} (C : Cx7 Z a0 p s m meth c) :
    ∀ (T : State) (x0 : Int32) (x1 : Int32) (o : Int32), f7 x0 x1 = some o → Stand p l e rx7 s m args below meth c T [] 0 0 → T.heap = h0 →  OwnOut p e s below 0 0 (Q7 Z default default h0 o) (T.setTop (mkF m 0 #[.val (.int x0), .val (.int x1), .val .null] [])) := by
    obtain ⟨hx, hZ, hw, hby, hml, hown, hret, hlk, hnm⟩ := C
    intro T x0 x1 o hr X0 e0
    rw [f7] at hr
    refine OwnOut.go (fun t k => XS.iloadN X0.here hx rfl (hb hby d7_0) rfl k) ?_
    show OwnOut p e s below 0 0 _ (T.setTop (mkF m 1 #[.val (.int x0), .val (.int x1), .val .null] [(.int x0)]))
    by_cases hc1 : x0 < (0 : Int32)
    · rw [if_pos hc1] at hr
      cases hr
    · rw [if_neg hc1] at hr
      refine OwnOut.go (fun t k => XS.ifNo X0.here hx rfl (hb hby d7_1) rfl (XT.i0_lt_f hc1) k) ?_
      show OwnOut p e s below 0 0 _ (T.setTop (mkF m 4 #[.val (.int x0), .val (.int x1), .val .null] []))
      refine OwnOut.go (fun t k => XS.iloadN X0.here hx rfl (hb hby d7_4) rfl k) ?_
      show OwnOut p e s below 0 0 _ (T.setTop (mkF m 5 #[.val (.int x0), .val (.int x1), .val .null] [(.int x0)]))
      refine OwnOut.go (fun t k => XS.iloadN X0.here hx rfl (hb hby d7_5) rfl k) ?_
      show OwnOut p e s below 0 0 _ (T.setTop (mkF m 6 #[.val (.int x0), .val (.int x1), .val .null] [(.int x1), (.int x0)]))
      by_cases hc6 : x0 < x1
      · rw [if_pos hc6] at hr
        refine OwnOut.go (fun t k => XS.icmpYes X0.here hx rfl (pc0 := 6) (pc' := 16) rfl (hb hby d7_6) rfl (XT.ii_lt_t hc6) (by decide) (by decide) k) ?_
        show OwnOut p e s below 0 0 _ (T.setTop (mkF m 16 #[.val (.int x0), .val (.int x1), .val .null] []))
        refine OwnOut.go (fun t k => XS.iloadN X0.here hx rfl (hb hby d7_16) rfl k) ?_
        show OwnOut p e s below 0 0 _ (T.setTop (mkF m 17 #[.val (.int x0), .val (.int x1), .val .null] [(.int x0)]))
        cases hr
        exact outI X0 hx hret (hb hby d7_17) hlk (by decide) (by decide) ⟨rfl, e0, rfl⟩
      · rw [if_neg hc6] at hr
        cases hr
set_option maxRecDepth 65536 in
set_option maxHeartbeats 40000000 in
theorem rm7 (l : Launch) (Z : State) (a0 : Array Value) (hw : ∀ d ∈ tables_1, d.before a0 Z = true) (ws : List Jvm.Cond) (x0 : Int32) (x1 : Int32) (h0 : Heap) (o : Int32) (hr : f7 x0 x1 = some o) :
    MetFree l (⟨"jdk/internal/util/Preconditions", "checkIndex", "(IILjava/util/function/BiFunction;)I"⟩ : MethodName) (head1 (Jvm.Cond.code (⟨"jdk/internal/util/Preconditions", "checkIndex", "(IILjava/util/function/BiFunction;)I"⟩ : MethodName) jdk_41_method_11_code 3 (some .int) :: ws) rx7) (fun a U => a = #[(.int x0), (.int x1), .null] ∧ Z.Warmed39 U.vm ∧ U.heap = h0) (fun _ _ _ _ _ => True) (fun _ U o' U' => ∃ v L, o' = .returned v ∧ Q7 Z x0 x1 h0 o v U'.heap L ∧ FrameEnd U o' U' L rx7.cells rx7.slots) := by
  refine MetFree.of_bodySF (plainFor_of_name pn7) hisR ?_
  intro p e s m args below meth c s₁ Bd hml0 hP hK
  obtain ⟨rfl, hZ, hh⟩ := hP
  have X0 : Stand p l e rx7 s m #[(.int x0), (.int x1), .null] below meth c s₁ [] 0 0 := Stand.of_body Bd
  have e0 : s₁.heap = h0 := by rw [← hh, Bd.state]; rfl
  exact OwnOut.at (ef7 m x0 x1) (w7_0 ⟨Bd.exec, hZ, hw, Bd.bytes, hml0, findClass_of_methodNamed Bd.named, Bd.returns, Bd.notSynchronized, (name_of_methodNamed Bd.named Bd.method).1⟩ _ x0 x1 o hr X0 e0  )
-- body 6 as 6: java/util/Objects.checkIndex:(II)I (touches nothing)
theorem d6_0 : decode jdk_31_method_17_code 0 = .ok (.iload_n 0, 1) := by decide +kernel
theorem d6_1 : decode jdk_31_method_17_code 1 = .ok (.iload_n 1, 1) := by decide +kernel
theorem d6_2 : decode jdk_31_method_17_code 2 = .ok (.aconst_null, 1) := by decide +kernel
theorem d6_3 : decode jdk_31_method_17_code 3 = .ok (.invokestatic 105, 3) := by decide +kernel
theorem d6_6 : decode jdk_31_method_17_code 6 = .ok (.ireturn, 1) := by decide +kernel
theorem pn6 : plainName "java/util/Objects" = true := by first | (simp [plainName, overriddenIn]; done) | decide +kernel
theorem pd6 : parseMethodDescriptor "(II)I" = some ⟨[.int, .int], some .int⟩ := by decide +kernel
theorem ef6 (m : MethodId) (x0 : Int32) (x1 : Int32) : entryFrame m #[(.int x0), (.int x1)] 2 = mkF m 0 #[.val (.int x0), .val (.int x1)] [] := by first | (simp [entryFrame, mkF, argsToLocals, Value.category]; done) | rfl
abbrev rx6 : Room := { frames := 1, cells := 0, slots := 0, locals := 14 }
abbrev Cx6 (Z : State) (a0 : Array Value) (p : Program) (s : State) (m : MethodId) (meth : Method) (c : Code) : Prop := p.tables.exec = Jvm.exec ∧ Z.Warmed39 s.vm ∧ (∀ d ∈ tables_1, d.before a0 Z = true) ∧ c.code = jdk_31_method_17_code ∧ c.maxLocals = 2 ∧ s.vm.findClass "java/util/Objects" = some m.cls ∧ meth.sig.returnType = (some .int) ∧ meth.locks = false ∧ meth.name = "checkIndex"
def Q6 (Z : State) (x0 : Int32) (x1 : Int32) (h0 : Heap) (o : Int32) (v : Option Value) (h : Heap) (L : List Loc) : Prop := v = some (.int o) ∧ h = h0 ∧ L = []
def f6 (x0 : Int32) (x1 : Int32) : Option (Int32) := ((f7 x0 x1).bind fun o1 => some (o1))
set_option maxRecDepth 65536 in
set_option maxHeartbeats 40000000 in
theorem w6_0 {p : Program} {l : Launch} {e : Env} {s : State} {m : MethodId} {args : Array Value} {below : List Frame} {meth : Method} {c : Code} {Z : State} {a0 : Array Value} {h0 : Heap} (C : Cx6 Z a0 p s m meth c) :
    ∀ (T : State) (x0 : Int32) (x1 : Int32) (o : Int32), f6 x0 x1 = some o → Stand p l e rx6 s m args below meth c T [] 0 0 → T.heap = h0 →  OwnOut p e s below 0 0 (Q6 Z default default h0 o) (T.setTop (mkF m 0 #[.val (.int x0), .val (.int x1)] [])) := by
    obtain ⟨hx, hZ, hw, hby, hml, hown, hret, hlk, hnm⟩ := C
    intro T x0 x1 o hr X0 e0
    rw [f6] at hr
    refine OwnOut.go (fun t k => XS.iloadN X0.here hx rfl (hb hby d6_0) rfl k) ?_
    show OwnOut p e s below 0 0 _ (T.setTop (mkF m 1 #[.val (.int x0), .val (.int x1)] [(.int x0)]))
    refine OwnOut.go (fun t k => XS.iloadN X0.here hx rfl (hb hby d6_1) rfl k) ?_
    show OwnOut p e s below 0 0 _ (T.setTop (mkF m 2 #[.val (.int x0), .val (.int x1)] [(.int x1), (.int x0)]))
    refine OwnOut.go (fun t k => XS.aconstNull X0.here hx rfl (hb hby d6_2) k) ?_
    show OwnOut p e s below 0 0 _ (T.setTop (mkF m 3 #[.val (.int x0), .val (.int x1)] [.null, (.int x1), (.int x0)]))
    obtain ⟨o1, ho1, hr⟩ := Option.bind_eq_some_iff.mp hr
    obtain ⟨r1, T1, L1, X1', hQ1, st1⟩ := callQ (W := 0) (rm := rx7) X0 hx hZ (y := (⟨"jdk/internal/util/Preconditions", "checkIndex", "(IILjava/util/function/BiFunction;)I"⟩ : MethodName)) hown (hw _ (List.mem_of_getElem? (i := 34) rfl)) (hw _ (List.mem_of_getElem? (i := 35) rfl)) (hw _ (List.mem_of_getElem? (i := 36) rfl)) (hw _ (List.mem_of_getElem? (i := 37) rfl)) (by decide) (rm7 l Z a0 hw [] x0 x1 h0 o1 ho1 ) (by decide) (by decide) (by decide) (by decide) e0 (g := (mkF m 3 #[.val (.int x0), .val (.int x1)] [.null, (.int x1), (.int x0)])) rfl (by rw [hml]; rfl) (argsL := [(.int x0), (.int x1), .null]) (rest := []) (lenOf pd7 rfl) rfl (by show 2 * 0 + _ ≤ _; exact Nat.le_of_eq rfl) (hb hby d6_3)
    obtain ⟨rfl, e1, rfl⟩ := hQ1
    rw [List.append_nil] at X1'
    have X1 : Stand p l e rx6 s m args below meth c T1 _ 0 0 := X1'
    refine OwnOut.go (fun t k => st1 _ k) ?_
    show OwnOut p e s below 0 0 _ (T1.setTop (mkF m 6 #[.val (.int x0), .val (.int x1)] [(.int o1)]))
    cases hr
    exact outI X1 hx hret (hb hby d6_6) hlk (by decide) (by decide) ⟨rfl, e1, rfl⟩
set_option maxRecDepth 65536 in
set_option maxHeartbeats 40000000 in
theorem rm6 (l : Launch) (Z : State) (a0 : Array Value) (hw : ∀ d ∈ tables_1, d.before a0 Z = true) (ws : List Jvm.Cond) (x0 : Int32) (x1 : Int32) (h0 : Heap) (o : Int32) (hr : f6 x0 x1 = some o) :
    MetFree l (⟨"java/util/Objects", "checkIndex", "(II)I"⟩ : MethodName) (head1 (Jvm.Cond.code (⟨"java/util/Objects", "checkIndex", "(II)I"⟩ : MethodName) jdk_31_method_17_code 2 (some .int) :: ws) rx6) (fun a U => a = #[(.int x0), (.int x1)] ∧ Z.Warmed39 U.vm ∧ U.heap = h0) (fun _ _ _ _ _ => True) (fun _ U o' U' => ∃ v L, o' = .returned v ∧ Q6 Z x0 x1 h0 o v U'.heap L ∧ FrameEnd U o' U' L rx6.cells rx6.slots) := by
  refine MetFree.of_bodySF (plainFor_of_name pn6) hisR ?_
  intro p e s m args below meth c s₁ Bd hml0 hP hK
  obtain ⟨rfl, hZ, hh⟩ := hP
  have X0 : Stand p l e rx6 s m #[(.int x0), (.int x1)] below meth c s₁ [] 0 0 := Stand.of_body Bd
  have e0 : s₁.heap = h0 := by rw [← hh, Bd.state]; rfl
  exact OwnOut.at (ef6 m x0 x1) (w6_0 ⟨Bd.exec, hZ, hw, Bd.bytes, hml0, findClass_of_methodNamed Bd.named, Bd.returns, Bd.notSynchronized, (name_of_methodNamed Bd.named Bd.method).1⟩ _ x0 x1 o hr X0 e0  )
-- body 5 as 5: com/example/sinogrid/sinogrid/LuminanceGrid.index:(II)I (touches nothing)
theorem d5_0 : decode prog_23_method_11_code 0 = .ok (.iload_n 1, 1) := by decide +kernel
theorem d5_1 : decode prog_23_method_11_code 1 = .ok (.aload_n 0, 1) := by decide +kernel
theorem d5_2 : decode prog_23_method_11_code 2 = .ok (.getfield 26, 3) := by decide +kernel
theorem d5_5 : decode prog_23_method_11_code 5 = .ok (.invokestatic 44, 3) := by decide +kernel
theorem d5_8 : decode prog_23_method_11_code 8 = .ok (.pop, 1) := by decide +kernel
theorem d5_9 : decode prog_23_method_11_code 9 = .ok (.iload_n 2, 1) := by decide +kernel
theorem d5_10 : decode prog_23_method_11_code 10 = .ok (.aload_n 0, 1) := by decide +kernel
theorem d5_11 : decode prog_23_method_11_code 11 = .ok (.getfield 22, 3) := by decide +kernel
theorem d5_14 : decode prog_23_method_11_code 14 = .ok (.invokestatic 44, 3) := by decide +kernel
theorem d5_17 : decode prog_23_method_11_code 17 = .ok (.pop, 1) := by decide +kernel
theorem d5_18 : decode prog_23_method_11_code 18 = .ok (.iload_n 1, 1) := by decide +kernel
theorem d5_19 : decode prog_23_method_11_code 19 = .ok (.aload_n 0, 1) := by decide +kernel
theorem d5_20 : decode prog_23_method_11_code 20 = .ok (.getfield 22, 3) := by decide +kernel
theorem d5_23 : decode prog_23_method_11_code 23 = .ok (.imul, 1) := by decide +kernel
theorem d5_24 : decode prog_23_method_11_code 24 = .ok (.iload_n 2, 1) := by decide +kernel
theorem d5_25 : decode prog_23_method_11_code 25 = .ok (.iadd, 1) := by decide +kernel
theorem d5_26 : decode prog_23_method_11_code 26 = .ok (.ireturn, 1) := by decide +kernel
theorem pn5 : plainName "com/example/sinogrid/sinogrid/LuminanceGrid" = true := by first | (simp [plainName, overriddenIn]; done) | decide +kernel
theorem pd5 : parseMethodDescriptor "(II)I" = some ⟨[.int, .int], some .int⟩ := by decide +kernel
theorem ef5 (m : MethodId) (b0 : Addr) (x1 : Int32) (x2 : Int32) : entryFrame m #[(.ref b0), (.int x1), (.int x2)] 3 = mkF m 0 #[.val (.ref b0), .val (.int x1), .val (.int x2)] [] := by first | (simp [entryFrame, mkF, argsToLocals, Value.category]; done) | rfl
abbrev rx5 : Room := { frames := 2, cells := 0, slots := 0, locals := 27 }
abbrev Cx5 (Z : State) (a0 : Array Value) (p : Program) (s : State) (m : MethodId) (meth : Method) (c : Code) : Prop := p.tables.exec = Jvm.exec ∧ Z.Warmed39 s.vm ∧ (∀ d ∈ tables_1, d.before a0 Z = true) ∧ c.code = prog_23_method_11_code ∧ c.maxLocals = 3 ∧ s.vm.findClass "com/example/sinogrid/sinogrid/LuminanceGrid" = some m.cls ∧ meth.sig.returnType = (some .int) ∧ meth.locks = false ∧ meth.name = "index"
def Q5 (Z : State) (x1 : Int32) (x2 : Int32) (b0 : Addr) (u0_width : Int32) (u0_height : Int32) (b1 : Addr) (l1 : List Int32) (h0 : Heap) (o : Int32) (v : Option Value) (h : Heap) (L : List Loc) : Prop := v = some (.int o) ∧ h = h0 ∧ L = []
def f5 (x1 : Int32) (x2 : Int32) (u0_width : Int32) (u0_height : Int32) (l1 : List Int32) : Option (Int32) := ((f6 x1 u0_height).bind fun o2 => ((f6 x2 u0_width).bind fun o4 => some (((x1 * u0_width) + x2))))
set_option maxRecDepth 65536 in
set_option maxHeartbeats 40000000 in
theorem w5_0 {p : Program} {l : Launch} {e : Env} {s : State} {m : MethodId} {args : Array Value} {below : List Frame} {meth : Method} {c : Code} {Z : State} {a0 : Array Value} {h0 : Heap} (C : Cx5 Z a0 p s m meth c) :
    ∀ (T : State) (x1 : Int32) (x2 : Int32) (b0 : Addr) (u0_width : Int32) (u0_height : Int32) (b1 : Addr) (l1 : List Int32) (o : Int32), f5 x1 x2 u0_width u0_height l1 = some o → Stand p l e rx5 s m args below meth c T [] 0 0 → T.heap = h0 → (Exa Z h0 b0 "com/example/sinogrid/sinogrid/LuminanceGrid") → (Fld Z h0 b0 "com/example/sinogrid/sinogrid/LuminanceGrid" "width" "I" (.int u0_width)) → (Fld Z h0 b0 "com/example/sinogrid/sinogrid/LuminanceGrid" "height" "I" (.int u0_height)) → (Fld Z h0 b0 "com/example/sinogrid/sinogrid/LuminanceGrid" "values" "[B" (.ref b1)) → (Ari Z h0 b1 .byte l1) →  OwnOut p e s below 0 0 (Q5 Z default default b0 u0_width u0_height b1 l1 h0 o) (T.setTop (mkF m 0 #[.val (.ref b0), .val (.int x1), .val (.int x2)] [])) := by
    obtain ⟨hx, hZ, hw, hby, hml, hown, hret, hlk, hnm⟩ := C
    intro T x1 x2 b0 u0_width u0_height b1 l1 o hr X0 e0 E0 F0_width F0_height F0_values A1
    rw [f5] at hr
    refine OwnOut.go (fun t k => XS.iloadN X0.here hx rfl (hb hby d5_0) rfl k) ?_
    show OwnOut p e s below 0 0 _ (T.setTop (mkF m 1 #[.val (.ref b0), .val (.int x1), .val (.int x2)] [(.int x1)]))
    refine OwnOut.go (fun t k => XS.aloadN X0.here hx rfl (hb hby d5_1) rfl rfl k) ?_
    show OwnOut p e s below 0 0 _ (T.setTop (mkF m 2 #[.val (.ref b0), .val (.int x1), .val (.int x2)] [(.ref b0), (.int x1)]))
    obtain ⟨T1, X1, e1, st1⟩ := getF X0 hx hZ hown (host := "") (Or.inl (hw _ (List.mem_of_getElem? (i := 16) rfl))) Via.refl e0 F0_height (g := (mkF m 2 #[.val (.ref b0), .val (.int x1), .val (.int x2)] [(.ref b0), (.int x1)])) rfl rfl (hb hby d5_2)
    refine OwnOut.go (fun t k => st1 _ k) ?_
    show OwnOut p e s below 0 0 _ (T1.setTop (mkF m 5 #[.val (.ref b0), .val (.int x1), .val (.int x2)] [(.int u0_height), (.int x1)]))
    obtain ⟨o2, ho2, hr⟩ := Option.bind_eq_some_iff.mp hr
    obtain ⟨r2, T2, L2, X2', hQ2, st2⟩ := callQ (W := 0) (rm := rx6) X1 hx hZ (y := (⟨"java/util/Objects", "checkIndex", "(II)I"⟩ : MethodName)) hown (hw _ (List.mem_of_getElem? (i := 30) rfl)) (hw _ (List.mem_of_getElem? (i := 31) rfl)) (hw _ (List.mem_of_getElem? (i := 32) rfl)) (hw _ (List.mem_of_getElem? (i := 33) rfl)) (by decide) (rm6 l Z a0 hw [] x1 u0_height h0 o2 ho2 ) (by decide) (by decide) (by decide) (by decide) e1 (g := (mkF m 5 #[.val (.ref b0), .val (.int x1), .val (.int x2)] [(.int u0_height), (.int x1)])) rfl (by rw [hml]; rfl) (argsL := [(.int x1), (.int u0_height)]) (rest := []) (lenOf pd6 rfl) rfl (by show 2 * 0 + _ ≤ _; exact Nat.le_of_eq rfl) (hb hby d5_5)
    obtain ⟨rfl, e2, rfl⟩ := hQ2
    rw [List.append_nil] at X2'
    have X2 : Stand p l e rx5 s m args below meth c T2 _ 0 0 := X2'
    refine OwnOut.go (fun t k => st2 _ k) ?_
    show OwnOut p e s below 0 0 _ (T2.setTop (mkF m 8 #[.val (.ref b0), .val (.int x1), .val (.int x2)] [(.int o2)]))
    refine OwnOut.go (fun t k => XS.pop X2.here hx rfl (hb hby d5_8) rfl rfl k) ?_
    show OwnOut p e s below 0 0 _ (T2.setTop (mkF m 9 #[.val (.ref b0), .val (.int x1), .val (.int x2)] []))
    refine OwnOut.go (fun t k => XS.iloadN X2.here hx rfl (hb hby d5_9) rfl k) ?_
    show OwnOut p e s below 0 0 _ (T2.setTop (mkF m 10 #[.val (.ref b0), .val (.int x1), .val (.int x2)] [(.int x2)]))
    refine OwnOut.go (fun t k => XS.aloadN X2.here hx rfl (hb hby d5_10) rfl rfl k) ?_
    show OwnOut p e s below 0 0 _ (T2.setTop (mkF m 11 #[.val (.ref b0), .val (.int x1), .val (.int x2)] [(.ref b0), (.int x2)]))
    obtain ⟨T3, X3, e3, st3⟩ := getF X2 hx hZ hown (host := "") (Or.inl (hw _ (List.mem_of_getElem? (i := 14) rfl))) Via.refl e2 F0_width (g := (mkF m 11 #[.val (.ref b0), .val (.int x1), .val (.int x2)] [(.ref b0), (.int x2)])) rfl rfl (hb hby d5_11)
    refine OwnOut.go (fun t k => st3 _ k) ?_
    show OwnOut p e s below 0 0 _ (T3.setTop (mkF m 14 #[.val (.ref b0), .val (.int x1), .val (.int x2)] [(.int u0_width), (.int x2)]))
    obtain ⟨o4, ho4, hr⟩ := Option.bind_eq_some_iff.mp hr
    obtain ⟨r4, T4, L4, X4', hQ4, st4⟩ := callQ (W := 0) (rm := rx6) X3 hx hZ (y := (⟨"java/util/Objects", "checkIndex", "(II)I"⟩ : MethodName)) hown (hw _ (List.mem_of_getElem? (i := 30) rfl)) (hw _ (List.mem_of_getElem? (i := 31) rfl)) (hw _ (List.mem_of_getElem? (i := 32) rfl)) (hw _ (List.mem_of_getElem? (i := 33) rfl)) (by decide) (rm6 l Z a0 hw [] x2 u0_width h0 o4 ho4 ) (by decide) (by decide) (by decide) (by decide) e3 (g := (mkF m 14 #[.val (.ref b0), .val (.int x1), .val (.int x2)] [(.int u0_width), (.int x2)])) rfl (by rw [hml]; rfl) (argsL := [(.int x2), (.int u0_width)]) (rest := []) (lenOf pd6 rfl) rfl (by show 2 * 0 + _ ≤ _; exact Nat.le_of_eq rfl) (hb hby d5_14)
    obtain ⟨rfl, e4, rfl⟩ := hQ4
    rw [List.append_nil] at X4'
    have X4 : Stand p l e rx5 s m args below meth c T4 _ 0 0 := X4'
    refine OwnOut.go (fun t k => st4 _ k) ?_
    show OwnOut p e s below 0 0 _ (T4.setTop (mkF m 17 #[.val (.ref b0), .val (.int x1), .val (.int x2)] [(.int o4)]))
    refine OwnOut.go (fun t k => XS.pop X4.here hx rfl (hb hby d5_17) rfl rfl k) ?_
    show OwnOut p e s below 0 0 _ (T4.setTop (mkF m 18 #[.val (.ref b0), .val (.int x1), .val (.int x2)] []))
    refine OwnOut.go (fun t k => XS.iloadN X4.here hx rfl (hb hby d5_18) rfl k) ?_
    show OwnOut p e s below 0 0 _ (T4.setTop (mkF m 19 #[.val (.ref b0), .val (.int x1), .val (.int x2)] [(.int x1)]))
    refine OwnOut.go (fun t k => XS.aloadN X4.here hx rfl (hb hby d5_19) rfl rfl k) ?_
    show OwnOut p e s below 0 0 _ (T4.setTop (mkF m 20 #[.val (.ref b0), .val (.int x1), .val (.int x2)] [(.ref b0), (.int x1)]))
    obtain ⟨T5, X5, e5, st5⟩ := getF X4 hx hZ hown (host := "") (Or.inl (hw _ (List.mem_of_getElem? (i := 14) rfl))) Via.refl e4 F0_width (g := (mkF m 20 #[.val (.ref b0), .val (.int x1), .val (.int x2)] [(.ref b0), (.int x1)])) rfl rfl (hb hby d5_20)
    refine OwnOut.go (fun t k => st5 _ k) ?_
    show OwnOut p e s below 0 0 _ (T5.setTop (mkF m 23 #[.val (.ref b0), .val (.int x1), .val (.int x2)] [(.int u0_width), (.int x1)]))
    refine OwnOut.go (fun t k => XS.imul X5.here hx rfl (hb hby d5_23) rfl k) ?_
    show OwnOut p e s below 0 0 _ (T5.setTop (mkF m 24 #[.val (.ref b0), .val (.int x1), .val (.int x2)] [(.int (x1 * u0_width))]))
    refine OwnOut.go (fun t k => XS.iloadN X5.here hx rfl (hb hby d5_24) rfl k) ?_
    show OwnOut p e s below 0 0 _ (T5.setTop (mkF m 25 #[.val (.ref b0), .val (.int x1), .val (.int x2)] [(.int x2), (.int (x1 * u0_width))]))
    refine OwnOut.go (fun t k => XS.iadd X5.here hx rfl (hb hby d5_25) rfl k) ?_
    show OwnOut p e s below 0 0 _ (T5.setTop (mkF m 26 #[.val (.ref b0), .val (.int x1), .val (.int x2)] [(.int ((x1 * u0_width) + x2))]))
    cases hr
    exact outI X5 hx hret (hb hby d5_26) hlk (by decide) (by decide) ⟨rfl, e5, rfl⟩
set_option maxRecDepth 65536 in
set_option maxHeartbeats 40000000 in
theorem rm5 (l : Launch) (Z : State) (a0 : Array Value) (hw : ∀ d ∈ tables_1, d.before a0 Z = true) (ws : List Jvm.Cond) (x1 : Int32) (x2 : Int32) (b0 : Addr) (u0_width : Int32) (u0_height : Int32) (b1 : Addr) (l1 : List Int32) (h0 : Heap) (o : Int32) (hr : f5 x1 x2 u0_width u0_height l1 = some o) (E0 : Exa Z h0 b0 "com/example/sinogrid/sinogrid/LuminanceGrid") (F0_width : Fld Z h0 b0 "com/example/sinogrid/sinogrid/LuminanceGrid" "width" "I" (.int u0_width)) (F0_height : Fld Z h0 b0 "com/example/sinogrid/sinogrid/LuminanceGrid" "height" "I" (.int u0_height)) (F0_values : Fld Z h0 b0 "com/example/sinogrid/sinogrid/LuminanceGrid" "values" "[B" (.ref b1)) (A1 : Ari Z h0 b1 .byte l1) :
    MetFree l (⟨"com/example/sinogrid/sinogrid/LuminanceGrid", "index", "(II)I"⟩ : MethodName) (head1 (Jvm.Cond.code (⟨"com/example/sinogrid/sinogrid/LuminanceGrid", "index", "(II)I"⟩ : MethodName) prog_23_method_11_code 3 (some .int) :: ws) rx5) (fun a U => a = #[(.ref b0), (.int x1), (.int x2)] ∧ Z.Warmed39 U.vm ∧ U.heap = h0) (fun _ _ _ _ _ => True) (fun _ U o' U' => ∃ v L, o' = .returned v ∧ Q5 Z x1 x2 b0 u0_width u0_height b1 l1 h0 o v U'.heap L ∧ FrameEnd U o' U' L rx5.cells rx5.slots) := by
  refine MetFree.of_bodySF (plainFor_of_name pn5) hisR ?_
  intro p e s m args below meth c s₁ Bd hml0 hP hK
  obtain ⟨rfl, hZ, hh⟩ := hP
  have X0 : Stand p l e rx5 s m #[(.ref b0), (.int x1), (.int x2)] below meth c s₁ [] 0 0 := Stand.of_body Bd
  have e0 : s₁.heap = h0 := by rw [← hh, Bd.state]; rfl
  exact OwnOut.at (ef5 m b0 x1 x2) (w5_0 ⟨Bd.exec, hZ, hw, Bd.bytes, hml0, findClass_of_methodNamed Bd.named, Bd.returns, Bd.notSynchronized, (name_of_methodNamed Bd.named Bd.method).1⟩ _ x1 x2 b0 u0_width u0_height b1 l1 o hr X0 e0  E0 F0_width F0_height F0_values A1)
-- body 4 as 4: com/example/sinogrid/sinogrid/LuminanceGrid.set:(III)V
theorem d4_0 : decode prog_23_method_6_code 0 = .ok (.iload_n 3, 1) := by decide +kernel
theorem d4_1 : decode prog_23_method_6_code 1 = .ok (.ifCond .lt 10, 3) := by decide +kernel
theorem d4_4 : decode prog_23_method_6_code 4 = .ok (.iload_n 3, 1) := by decide +kernel
theorem d4_5 : decode prog_23_method_6_code 5 = .ok (.sipush 255, 3) := by decide +kernel
theorem d4_8 : decode prog_23_method_6_code 8 = .ok (.if_icmp .le 17, 3) := by decide +kernel
theorem d4_25 : decode prog_23_method_6_code 25 = .ok (.aload_n 0, 1) := by decide +kernel
theorem d4_26 : decode prog_23_method_6_code 26 = .ok (.getfield 29, 3) := by decide +kernel
theorem d4_29 : decode prog_23_method_6_code 29 = .ok (.aload_n 0, 1) := by decide +kernel
theorem d4_30 : decode prog_23_method_6_code 30 = .ok (.iload_n 1, 1) := by decide +kernel
theorem d4_31 : decode prog_23_method_6_code 31 = .ok (.iload_n 2, 1) := by decide +kernel
theorem d4_32 : decode prog_23_method_6_code 32 = .ok (.invokevirtual 37, 3) := by decide +kernel
theorem d4_35 : decode prog_23_method_6_code 35 = .ok (.iload_n 3, 1) := by decide +kernel
theorem d4_36 : decode prog_23_method_6_code 36 = .ok (.i2b, 1) := by decide +kernel
theorem d4_37 : decode prog_23_method_6_code 37 = .ok (.bastore, 1) := by decide +kernel
theorem d4_38 : decode prog_23_method_6_code 38 = .ok (.return_, 1) := by decide +kernel
theorem pn4 : plainName "com/example/sinogrid/sinogrid/LuminanceGrid" = true := by first | (simp [plainName, overriddenIn]; done) | decide +kernel
theorem pd4 : parseMethodDescriptor "(III)V" = some ⟨[.int, .int, .int], none⟩ := by decide +kernel
theorem ef4 (m : MethodId) (b0 : Addr) (x1 : Int32) (x2 : Int32) (x3 : Int32) : entryFrame m #[(.ref b0), (.int x1), (.int x2), (.int x3)] 4 = mkF m 0 #[.val (.ref b0), .val (.int x1), .val (.int x2), .val (.int x3)] [] := by first | (simp [entryFrame, mkF, argsToLocals, Value.category]; done) | rfl
abbrev rx4 : Room := { frames := 3, cells := 0, slots := 0, locals := 42 }
abbrev Cx4 (Z : State) (a0 : Array Value) (p : Program) (s : State) (m : MethodId) (meth : Method) (c : Code) : Prop := p.tables.exec = Jvm.exec ∧ Z.Warmed39 s.vm ∧ (∀ d ∈ tables_1, d.before a0 Z = true) ∧ c.code = prog_23_method_6_code ∧ c.maxLocals = 4 ∧ s.vm.findClass "com/example/sinogrid/sinogrid/LuminanceGrid" = some m.cls ∧ meth.sig.returnType = none ∧ meth.locks = false ∧ meth.name = "set"
def Q4 (Z : State) (x1 : Int32) (x2 : Int32) (x3 : Int32) (b0 : Addr) (u0_width : Int32) (u0_height : Int32) (b1 : Addr) (l1 : List Int32) (h0 : Heap) (n0 : Nat) (o : List Int32) (v : Option Value) (h : Heap) (L : List Loc) : Prop := v = none ∧ Fr n0 L ∧ Keep h0 h [b1] ∧ Ari Z h b1 .byte o
def f4 (x1 : Int32) (x2 : Int32) (x3 : Int32) (u0_width : Int32) (u0_height : Int32) (l1 : List Int32) : Option (List Int32) := (if x3 < (0 : Int32) then none else (if (255 : Int32) < x3 then none else ((f5 x1 x2 u0_width u0_height l1).bind fun o2 => ((stx l1 o2 (x3.toInt8.toInt32).toInt8.toInt32).bind fun l_3 => some (l_3)))))
set_option maxRecDepth 65536 in
set_option maxHeartbeats 40000000 in
theorem w4_0 {p : Program} {l : Launch} {e : Env} {s : State} {m : MethodId} {args : Array Value} {below : List Frame} {meth : Method} {c : Code} {Z : State} {a0 : Array Value} {h0 : Heap} {n0 : Nat} (C : Cx4 Z a0 p s m meth c) :
    ∀ (T : State) (locs : List Loc) (hA : Heap) (x1 : Int32) (x2 : Int32) (x3 : Int32) (b0 : Addr) (u0_width : Int32) (u0_height : Int32) (b1 : Addr) (l1 : List Int32) (o : List Int32), f4 x1 x2 x3 u0_width u0_height l1 = some o → Stand p l e rx4 s m args below meth c T locs 0 0 → T.heap = hA → Fr n0 locs → Old Z n0 hA → Keep h0 hA [b1] → (Exa Z hA b0 "com/example/sinogrid/sinogrid/LuminanceGrid") → (Fld Z hA b0 "com/example/sinogrid/sinogrid/LuminanceGrid" "width" "I" (.int u0_width)) → (Fld Z hA b0 "com/example/sinogrid/sinogrid/LuminanceGrid" "height" "I" (.int u0_height)) → (Fld Z hA b0 "com/example/sinogrid/sinogrid/LuminanceGrid" "values" "[B" (.ref b1)) → (Ari Z hA b1 .byte l1) → (n0 ≤ b0) → (n0 ≤ b1) → (b0 ≠ b1) →  OwnOut p e s below 0 0 (Q4 Z default default default b0 u0_width u0_height b1 [] h0 n0 o) (T.setTop (mkF m 0 #[.val (.ref b0), .val (.int x1), .val (.int x2), .val (.int x3)] [])) := by
    obtain ⟨hx, hZ, hw, hby, hml, hown, hret, hlk, hnm⟩ := C
    intro T locs hA x1 x2 x3 b0 u0_width u0_height b1 l1 o hr X0 e0 N0 O0 K0 E0 F0_width F0_height F0_values A1 g0 g1 ne0_1
    rw [f4] at hr
    refine OwnOut.go (fun t k => XS.iloadN X0.here hx rfl (hb hby d4_0) rfl k) ?_
    show OwnOut p e s below 0 0 _ (T.setTop (mkF m 1 #[.val (.ref b0), .val (.int x1), .val (.int x2), .val (.int x3)] [(.int x3)]))
    by_cases hc1 : x3 < (0 : Int32)
    · rw [if_pos hc1] at hr
      cases hr
    · rw [if_neg hc1] at hr
      refine OwnOut.go (fun t k => XS.ifNo X0.here hx rfl (hb hby d4_1) rfl (XT.i0_lt_f hc1) k) ?_
      show OwnOut p e s below 0 0 _ (T.setTop (mkF m 4 #[.val (.ref b0), .val (.int x1), .val (.int x2), .val (.int x3)] []))
      refine OwnOut.go (fun t k => XS.iloadN X0.here hx rfl (hb hby d4_4) rfl k) ?_
      show OwnOut p e s below 0 0 _ (T.setTop (mkF m 5 #[.val (.ref b0), .val (.int x1), .val (.int x2), .val (.int x3)] [(.int x3)]))
      refine OwnOut.go (fun t k => XT.sipushV X0.here hx rfl (255 : Int32) (hb hby d4_5) rfl k) ?_
      show OwnOut p e s below 0 0 _ (T.setTop (mkF m 8 #[.val (.ref b0), .val (.int x1), .val (.int x2), .val (.int x3)] [(.int (255 : Int32)), (.int x3)]))
      by_cases hc8 : (255 : Int32) < x3
      · rw [if_pos hc8] at hr
        cases hr
      · rw [if_neg hc8] at hr
        refine OwnOut.go (fun t k => XS.icmpYes X0.here hx rfl (pc0 := 8) (pc' := 25) rfl (hb hby d4_8) rfl (XT.ii_le_t hc8) (by decide) (by decide) k) ?_
        show OwnOut p e s below 0 0 _ (T.setTop (mkF m 25 #[.val (.ref b0), .val (.int x1), .val (.int x2), .val (.int x3)] []))
        refine OwnOut.go (fun t k => XS.aloadN X0.here hx rfl (hb hby d4_25) rfl rfl k) ?_
        show OwnOut p e s below 0 0 _ (T.setTop (mkF m 26 #[.val (.ref b0), .val (.int x1), .val (.int x2), .val (.int x3)] [(.ref b0)]))
        obtain ⟨T1, X1, e1, st1⟩ := getF X0 hx hZ hown (host := "") (Or.inl (hw _ (List.mem_of_getElem? (i := 19) rfl))) Via.refl e0 F0_values (g := (mkF m 26 #[.val (.ref b0), .val (.int x1), .val (.int x2), .val (.int x3)] [(.ref b0)])) rfl rfl (hb hby d4_26)
        refine OwnOut.go (fun t k => st1 _ k) ?_
        show OwnOut p e s below 0 0 _ (T1.setTop (mkF m 29 #[.val (.ref b0), .val (.int x1), .val (.int x2), .val (.int x3)] [(.ref b1)]))
        refine OwnOut.go (fun t k => XS.aloadN X1.here hx rfl (hb hby d4_29) rfl rfl k) ?_
        show OwnOut p e s below 0 0 _ (T1.setTop (mkF m 30 #[.val (.ref b0), .val (.int x1), .val (.int x2), .val (.int x3)] [(.ref b0), (.ref b1)]))
        refine OwnOut.go (fun t k => XS.iloadN X1.here hx rfl (hb hby d4_30) rfl k) ?_
        show OwnOut p e s below 0 0 _ (T1.setTop (mkF m 31 #[.val (.ref b0), .val (.int x1), .val (.int x2), .val (.int x3)] [(.int x1), (.ref b0), (.ref b1)]))
        refine OwnOut.go (fun t k => XS.iloadN X1.here hx rfl (hb hby d4_31) rfl k) ?_
        show OwnOut p e s below 0 0 _ (T1.setTop (mkF m 32 #[.val (.ref b0), .val (.int x1), .val (.int x2), .val (.int x3)] [(.int x2), (.int x1), (.ref b0), (.ref b1)]))
        obtain ⟨o2, ho2, hr⟩ := Option.bind_eq_some_iff.mp hr
        obtain ⟨r2, T2, L2, X2', hQ2, st2⟩ := callR (W := 1) (rm := rx5) X1 hx hZ (y := (⟨"com/example/sinogrid/sinogrid/LuminanceGrid", "index", "(II)I"⟩ : MethodName)) hown (hw _ (List.mem_of_getElem? (i := 26) rfl)) (hw _ (List.mem_of_getElem? (i := 28) rfl)) (hw _ (List.mem_of_getElem? (i := 1) rfl)) (hw _ (List.mem_of_getElem? (i := 27) rfl)) (hw _ (List.mem_of_getElem? (i := 2) rfl)) (hw _ (List.mem_of_getElem? (i := 29) rfl)) (by decide) (rm5 l Z a0 hw [] x1 x2 b0 u0_width u0_height b1 l1 hA o2 ho2 E0 F0_width F0_height F0_values A1) (by decide) (by decide) (by decide) (by decide) e1 E0 (g := (mkF m 32 #[.val (.ref b0), .val (.int x1), .val (.int x2), .val (.int x3)] [(.int x2), (.int x1), (.ref b0), (.ref b1)])) rfl (by rw [hml]; rfl) (argsL := [(.int x1), (.int x2)]) (rest := [(.ref b1)]) (lenOf pd5 rfl) rfl (by show 2 * 0 + _ ≤ _; exact Nat.le_of_eq rfl) (hb hby d4_32)
        obtain ⟨rfl, e2, rfl⟩ := hQ2
        rw [List.append_nil] at X2'
        have X2 : Stand p l e rx4 s m args below meth c T2 _ 0 0 := X2'
        refine OwnOut.go (fun t k => st2 _ k) ?_
        show OwnOut p e s below 0 0 _ (T2.setTop (mkF m 35 #[.val (.ref b0), .val (.int x1), .val (.int x2), .val (.int x3)] [(.int o2), (.ref b1)]))
        refine OwnOut.go (fun t k => XS.iloadN X2.here hx rfl (hb hby d4_35) rfl k) ?_
        show OwnOut p e s below 0 0 _ (T2.setTop (mkF m 36 #[.val (.ref b0), .val (.int x1), .val (.int x2), .val (.int x3)] [(.int x3), (.int o2), (.ref b1)]))
        refine OwnOut.go (fun t k => XS.i2b X2.here hx rfl (hb hby d4_36) rfl k) ?_
        show OwnOut p e s below 0 0 _ (T2.setTop (mkF m 37 #[.val (.ref b0), .val (.int x1), .val (.int x2), .val (.int x3)] [(.int (x3.toInt8.toInt32)), (.int o2), (.ref b1)]))
        obtain ⟨l_3, hl3, hr⟩ := Option.bind_eq_some_iff.mp hr
        obtain ⟨T3, h3, X3, e3, W3, A_3, st3⟩ := saB X2 hx hZ e2 A1 hl3 (g := (mkF m 37 #[.val (.ref b0), .val (.int x1), .val (.int x2), .val (.int x3)] [(.int (x3.toInt8.toInt32)), (.int o2), (.ref b1)])) rfl rfl (hb hby d4_37)
        refine OwnOut.go (fun t k => st3 _ k) ?_
        have E0_3 := E0.wr W3
        have F0_width_3 := F0_width.other W3 (Or.inl ne0_1)
        have F0_height_3 := F0_height.other W3 (Or.inl ne0_1)
        have F0_values_3 := F0_values.other W3 (Or.inl ne0_1)
        have N_3 := Fr.snoc X3 N0 g1
        have O_3 := O0.wr W3 g1
        have K_3 := K0.wr W3 (Or.inl (List.mem_of_getElem? (i := 0) rfl))
        show OwnOut p e s below 0 0 _ (T3.setTop (mkF m 38 #[.val (.ref b0), .val (.int x1), .val (.int x2), .val (.int x3)] []))
        cases hr
        exact outV X3 hx hret (hb hby d4_38) hlk (by decide) (by decide) (by rw [e3]; exact ⟨rfl, N_3, K_3, A_3⟩)
set_option maxRecDepth 65536 in
set_option maxHeartbeats 40000000 in
theorem rm4 (l : Launch) (Z : State) (a0 : Array Value) (hw : ∀ d ∈ tables_1, d.before a0 Z = true) (ws : List Jvm.Cond) (x1 : Int32) (x2 : Int32) (x3 : Int32) (b0 : Addr) (u0_width : Int32) (u0_height : Int32) (b1 : Addr) (l1 : List Int32) (h0 : Heap) (n0 : Nat) (o : List Int32) (hr : f4 x1 x2 x3 u0_width u0_height l1 = some o) (O0 : Old Z n0 h0) (E0 : Exa Z h0 b0 "com/example/sinogrid/sinogrid/LuminanceGrid") (F0_width : Fld Z h0 b0 "com/example/sinogrid/sinogrid/LuminanceGrid" "width" "I" (.int u0_width)) (F0_height : Fld Z h0 b0 "com/example/sinogrid/sinogrid/LuminanceGrid" "height" "I" (.int u0_height)) (F0_values : Fld Z h0 b0 "com/example/sinogrid/sinogrid/LuminanceGrid" "values" "[B" (.ref b1)) (A1 : Ari Z h0 b1 .byte l1) (g0 : n0 ≤ b0) (g1 : n0 ≤ b1) (ne0_1 : b0 ≠ b1) :
    MetFree l (⟨"com/example/sinogrid/sinogrid/LuminanceGrid", "set", "(III)V"⟩ : MethodName) (head1 (Jvm.Cond.code (⟨"com/example/sinogrid/sinogrid/LuminanceGrid", "set", "(III)V"⟩ : MethodName) prog_23_method_6_code 4 none :: ws) rx4) (fun a U => a = #[(.ref b0), (.int x1), (.int x2), (.int x3)] ∧ Z.Warmed39 U.vm ∧ U.heap = h0) (fun _ _ _ _ _ => True) (fun _ U o' U' => ∃ v L, o' = .returned v ∧ Q4 Z x1 x2 x3 b0 u0_width u0_height b1 l1 h0 n0 o v U'.heap L ∧ FrameEnd U o' U' L rx4.cells rx4.slots) := by
  refine MetFree.of_bodySF (plainFor_of_name pn4) hisR ?_
  intro p e s m args below meth c s₁ Bd hml0 hP hK
  obtain ⟨rfl, hZ, hh⟩ := hP
  have X0 : Stand p l e rx4 s m #[(.ref b0), (.int x1), (.int x2), (.int x3)] below meth c s₁ [] 0 0 := Stand.of_body Bd
  have e0 : s₁.heap = h0 := by rw [← hh, Bd.state]; rfl
  exact OwnOut.at (ef4 m b0 x1 x2 x3) (w4_0 ⟨Bd.exec, hZ, hw, Bd.bytes, hml0, findClass_of_methodNamed Bd.named, Bd.returns, Bd.notSynchronized, (name_of_methodNamed Bd.named Bd.method).1⟩ _ _ _ x1 x2 x3 b0 u0_width u0_height b1 l1 o hr X0 e0 (Fr.nil n0) O0 (Keep.refl _ _) E0 F0_width F0_height F0_values A1 g0 g1 ne0_1)
-- body 8 as 8: com/example/sinogrid/sinogrid/LuminanceGrid.histogram:()[J
theorem d8_0 : decode prog_23_method_8_code 0 = .ok (.sipush 256, 3) := by decide +kernel
theorem d8_3 : decode prog_23_method_8_code 3 = .ok (.newarray .long, 2) := by decide +kernel
theorem d8_5 : decode prog_23_method_8_code 5 = .ok (.astore_n 1, 1) := by decide +kernel
theorem d8_6 : decode prog_23_method_8_code 6 = .ok (.aload_n 0, 1) := by decide +kernel
theorem d8_7 : decode prog_23_method_8_code 7 = .ok (.getfield 29, 3) := by decide +kernel
theorem d8_10 : decode prog_23_method_8_code 10 = .ok (.astore_n 2, 1) := by decide +kernel
theorem d8_11 : decode prog_23_method_8_code 11 = .ok (.aload_n 2, 1) := by decide +kernel
theorem d8_12 : decode prog_23_method_8_code 12 = .ok (.arraylength, 1) := by decide +kernel
theorem d8_13 : decode prog_23_method_8_code 13 = .ok (.istore_n 3, 1) := by decide +kernel
theorem d8_14 : decode prog_23_method_8_code 14 = .ok (.iconst 0, 1) := by decide +kernel
theorem d8_15 : decode prog_23_method_8_code 15 = .ok (.istore 4, 2) := by decide +kernel
theorem d8_17 : decode prog_23_method_8_code 17 = .ok (.iload 4, 2) := by decide +kernel
theorem d8_19 : decode prog_23_method_8_code 19 = .ok (.iload_n 3, 1) := by decide +kernel
theorem d8_20 : decode prog_23_method_8_code 20 = .ok (.if_icmp .ge 27, 3) := by decide +kernel
theorem d8_23 : decode prog_23_method_8_code 23 = .ok (.aload_n 2, 1) := by decide +kernel
theorem d8_24 : decode prog_23_method_8_code 24 = .ok (.iload 4, 2) := by decide +kernel
theorem d8_26 : decode prog_23_method_8_code 26 = .ok (.baload, 1) := by decide +kernel
theorem d8_27 : decode prog_23_method_8_code 27 = .ok (.istore 5, 2) := by decide +kernel
theorem d8_29 : decode prog_23_method_8_code 29 = .ok (.aload_n 1, 1) := by decide +kernel
theorem d8_30 : decode prog_23_method_8_code 30 = .ok (.iload 5, 2) := by decide +kernel
theorem d8_32 : decode prog_23_method_8_code 32 = .ok (.sipush 255, 3) := by decide +kernel
theorem d8_35 : decode prog_23_method_8_code 35 = .ok (.iand, 1) := by decide +kernel
theorem d8_36 : decode prog_23_method_8_code 36 = .ok (.dup2, 1) := by decide +kernel
theorem d8_37 : decode prog_23_method_8_code 37 = .ok (.laload, 1) := by decide +kernel
theorem d8_38 : decode prog_23_method_8_code 38 = .ok (.lconst 1, 1) := by decide +kernel
theorem d8_39 : decode prog_23_method_8_code 39 = .ok (.ladd, 1) := by decide +kernel
theorem d8_40 : decode prog_23_method_8_code 40 = .ok (.lastore, 1) := by decide +kernel
theorem d8_41 : decode prog_23_method_8_code 41 = .ok (.iinc 4 1, 3) := by decide +kernel
theorem d8_44 : decode prog_23_method_8_code 44 = .ok (.goto (-27), 3) := by decide +kernel
theorem d8_47 : decode prog_23_method_8_code 47 = .ok (.aload_n 1, 1) := by decide +kernel
theorem d8_48 : decode prog_23_method_8_code 48 = .ok (.areturn, 1) := by decide +kernel
theorem pn8 : plainName "com/example/sinogrid/sinogrid/LuminanceGrid" = true := by first | (simp [plainName, overriddenIn]; done) | decide +kernel
theorem pd8 : parseMethodDescriptor "()[J" = some ⟨[], some (.array .long)⟩ := by decide +kernel
theorem ef8 (m : MethodId) (b0 : Addr) : entryFrame m #[(.ref b0)] 6 = mkF m 0 #[.val (.ref b0), .unset, .unset, .unset, .unset, .unset] [] := by first | (simp [entryFrame, mkF, argsToLocals, Value.category]; done) | rfl
abbrev rx8 : Room := { frames := 0, cells := 1, slots := 256, locals := 0 }
abbrev Cx8 (Z : State) (a0 : Array Value) (p : Program) (s : State) (m : MethodId) (meth : Method) (c : Code) : Prop := p.tables.exec = Jvm.exec ∧ Z.Warmed39 s.vm ∧ (∀ d ∈ tables_1, d.before a0 Z = true) ∧ c.code = prog_23_method_8_code ∧ c.maxLocals = 6 ∧ s.vm.findClass "com/example/sinogrid/sinogrid/LuminanceGrid" = some m.cls ∧ meth.sig.returnType = (some (.array .long)) ∧ meth.locks = false ∧ meth.name = "histogram"
def Q8 (Z : State) (b0 : Addr) (u0_width : Int32) (u0_height : Int32) (b1 : Addr) (l1 : List Int32) (h0 : Heap) (n0 : Nat) (o : List Int64) (v : Option Value) (h : Heap) (L : List Loc) : Prop := ∃ c0 : Addr, v = some (.ref c0) ∧ Fr n0 L ∧ Keep h0 h [] ∧ h0.size ≤ c0 ∧ n0 ≤ c0 ∧ Arj Z h c0 o
def f8_17 : Nat → Int32 → Int32 → Int32 → Int32 → (List Int32) → (List Int64) → Option (List Int64)
  | 0, _, _, _, _, _, _ => none
  | n + 1, x3, x4, u0_width, u0_height, l1, l2 => (if x4 < x3 then ((ldx l1 x4).bind fun v6 => ((ldx l2 (v6 &&& (255 : Int32))).bind fun v7 => ((stx l2 (v6 &&& (255 : Int32)) (v7 + (1 : Int64))).bind fun l_8 => (f8_17 n x3 (x4 + (1 : Int32)) u0_width u0_height l1 l_8)))) else some (l2))
set_option maxRecDepth 65536 in
set_option maxHeartbeats 40000000 in
theorem w8_17a {p : Program} {l : Launch} {e : Env} {s : State} {m : MethodId} {args : Array Value} {below : List Frame} {meth : Method} {c : Code} {Z : State} {a0 : Array Value} {h0 : Heap} {n0 : Nat} (C : Cx8 Z a0 p s m meth c) (n : Nat) :
    ∀ (T : State) (locs : List Loc) (hA : Heap) (x3 : Int32) (x4 : Int32) (x5 : Int32) (b0 : Addr) (u0_width : Int32) (u0_height : Int32) (b1 : Addr) (l1 : List Int32) (b2 : Addr) (l2 : List Int64) (o : List Int64), f8_17 n x3 x4 u0_width u0_height l1 l2 = some o → Stand p l e rx8 s m args below meth c T locs 1 256 → T.heap = hA → Fr n0 locs → Old Z n0 hA → Keep h0 hA [] → (Exa Z hA b0 "com/example/sinogrid/sinogrid/LuminanceGrid") → (Fld Z hA b0 "com/example/sinogrid/sinogrid/LuminanceGrid" "width" "I" (.int u0_width)) → (Fld Z hA b0 "com/example/sinogrid/sinogrid/LuminanceGrid" "height" "I" (.int u0_height)) → (Fld Z hA b0 "com/example/sinogrid/sinogrid/LuminanceGrid" "values" "[B" (.ref b1)) → (Ari Z hA b1 .byte l1) → (Arj Z hA b2 l2) → (n0 ≤ b0) → (n0 ≤ b1) → (n0 ≤ b2) → (h0.size ≤ b2) → (b0 ≠ b1) → (b0 ≠ b2) → (b1 ≠ b2) →  OwnOut p e s below 1 256 (Q8 Z b0 u0_width u0_height b1 l1 h0 n0 o) (T.setTop (mkF m 17 #[.val (.ref b0), .val (.ref b2), .val (.ref b1), .val (.int x3), .val (.int x4), .val (.int x5)] [])) := by
  obtain ⟨hx, hZ, hw, hby, hml, hown, hret, hlk, hnm⟩ := C
  induction n with
  | zero => intro T locs hA x3 x4 x5 b0 u0_width u0_height b1 l1 b2 l2 o hr X0 e0 N0 O0 K0 E0 F0_width F0_height F0_values A1 A2 g0 g1 g2 z2 ne0_1 ne0_2 ne1_2; rw [f8_17] at hr; cases hr
  | succ n ih =>
    intro T locs hA x3 x4 x5 b0 u0_width u0_height b1 l1 b2 l2 o hr X0 e0 N0 O0 K0 E0 F0_width F0_height F0_values A1 A2 g0 g1 g2 z2 ne0_1 ne0_2 ne1_2
    rw [f8_17] at hr
    refine OwnOut.go (fun t k => XS.iload X0.here hx rfl (hb hby d8_17) rfl k) ?_
    show OwnOut p e s below 1 256 _ (T.setTop (mkF m 19 #[.val (.ref b0), .val (.ref b2), .val (.ref b1), .val (.int x3), .val (.int x4), .val (.int x5)] [(.int x4)]))
    refine OwnOut.go (fun t k => XS.iloadN X0.here hx rfl (hb hby d8_19) rfl k) ?_
    show OwnOut p e s below 1 256 _ (T.setTop (mkF m 20 #[.val (.ref b0), .val (.ref b2), .val (.ref b1), .val (.int x3), .val (.int x4), .val (.int x5)] [(.int x3), (.int x4)]))
    by_cases hc20 : x4 < x3
    · rw [if_pos hc20] at hr
      refine OwnOut.go (fun t k => XS.icmpNo X0.here hx rfl (hb hby d8_20) rfl (XT.ii_ge_f hc20) k) ?_
      show OwnOut p e s below 1 256 _ (T.setTop (mkF m 23 #[.val (.ref b0), .val (.ref b2), .val (.ref b1), .val (.int x3), .val (.int x4), .val (.int x5)] []))
      refine OwnOut.go (fun t k => XS.aloadN X0.here hx rfl (hb hby d8_23) rfl rfl k) ?_
      show OwnOut p e s below 1 256 _ (T.setTop (mkF m 24 #[.val (.ref b0), .val (.ref b2), .val (.ref b1), .val (.int x3), .val (.int x4), .val (.int x5)] [(.ref b1)]))
      refine OwnOut.go (fun t k => XS.iload X0.here hx rfl (hb hby d8_24) rfl k) ?_
      show OwnOut p e s below 1 256 _ (T.setTop (mkF m 26 #[.val (.ref b0), .val (.ref b2), .val (.ref b1), .val (.int x3), .val (.int x4), .val (.int x5)] [(.int x4), (.ref b1)]))
      obtain ⟨v6, hv6, hr⟩ := Option.bind_eq_some_iff.mp hr
      refine OwnOut.go (fun t k => ldB X0 hx hZ e0 A1 hv6 (g := (mkF m 26 #[.val (.ref b0), .val (.ref b2), .val (.ref b1), .val (.int x3), .val (.int x4), .val (.int x5)] [(.int x4), (.ref b1)])) rfl rfl (hb hby d8_26) t k) ?_
      show OwnOut p e s below 1 256 _ (T.setTop (mkF m 27 #[.val (.ref b0), .val (.ref b2), .val (.ref b1), .val (.int x3), .val (.int x4), .val (.int x5)] [(.int v6)]))
      refine OwnOut.go (fun t k => XS.istore X0.here hx rfl (hb hby d8_27) rfl (l' := #[.val (.ref b0), .val (.ref b2), .val (.ref b1), .val (.int x3), .val (.int x4), .val (.int v6)]) rfl k) ?_
      show OwnOut p e s below 1 256 _ (T.setTop (mkF m 29 #[.val (.ref b0), .val (.ref b2), .val (.ref b1), .val (.int x3), .val (.int x4), .val (.int v6)] []))
      refine OwnOut.go (fun t k => XS.aloadN X0.here hx rfl (hb hby d8_29) rfl rfl k) ?_
      show OwnOut p e s below 1 256 _ (T.setTop (mkF m 30 #[.val (.ref b0), .val (.ref b2), .val (.ref b1), .val (.int x3), .val (.int x4), .val (.int v6)] [(.ref b2)]))
      refine OwnOut.go (fun t k => XS.iload X0.here hx rfl (hb hby d8_30) rfl k) ?_
      show OwnOut p e s below 1 256 _ (T.setTop (mkF m 32 #[.val (.ref b0), .val (.ref b2), .val (.ref b1), .val (.int x3), .val (.int x4), .val (.int v6)] [(.int v6), (.ref b2)]))
      refine OwnOut.go (fun t k => XT.sipushV X0.here hx rfl (255 : Int32) (hb hby d8_32) rfl k) ?_
      show OwnOut p e s below 1 256 _ (T.setTop (mkF m 35 #[.val (.ref b0), .val (.ref b2), .val (.ref b1), .val (.int x3), .val (.int x4), .val (.int v6)] [(.int (255 : Int32)), (.int v6), (.ref b2)]))
      refine OwnOut.go (fun t k => XS.iand X0.here hx rfl (hb hby d8_35) rfl k) ?_
      show OwnOut p e s below 1 256 _ (T.setTop (mkF m 36 #[.val (.ref b0), .val (.ref b2), .val (.ref b1), .val (.int x3), .val (.int x4), .val (.int v6)] [(.int (v6 &&& (255 : Int32))), (.ref b2)]))
      refine OwnOut.go (W' := T.setTop (mkF m 37 #[.val (.ref b0), .val (.ref b2), .val (.ref b1), .val (.int x3), .val (.int x4), .val (.int v6)] [(.int (v6 &&& (255 : Int32))), (.ref b2), (.int (v6 &&& (255 : Int32))), (.ref b2)])) (fun t k => by jvm_step X0.here [X0.here.top, hx, (hb hby d8_36), Value.category]; exact k) ?_
      show OwnOut p e s below 1 256 _ (T.setTop (mkF m 37 #[.val (.ref b0), .val (.ref b2), .val (.ref b1), .val (.int x3), .val (.int x4), .val (.int v6)] [(.int (v6 &&& (255 : Int32))), (.ref b2), (.int (v6 &&& (255 : Int32))), (.ref b2)]))
      obtain ⟨v7, hv7, hr⟩ := Option.bind_eq_some_iff.mp hr
      refine OwnOut.go (fun t k => ldJ X0 hx hZ e0 A2 hv7 (g := (mkF m 37 #[.val (.ref b0), .val (.ref b2), .val (.ref b1), .val (.int x3), .val (.int x4), .val (.int v6)] [(.int (v6 &&& (255 : Int32))), (.ref b2), (.int (v6 &&& (255 : Int32))), (.ref b2)])) rfl rfl (hb hby d8_37) t k) ?_
      show OwnOut p e s below 1 256 _ (T.setTop (mkF m 38 #[.val (.ref b0), .val (.ref b2), .val (.ref b1), .val (.int x3), .val (.int x4), .val (.int v6)] [(.long v7), (.int (v6 &&& (255 : Int32))), (.ref b2)]))
      refine OwnOut.go (fun t k => XT.lconstV X0.here hx rfl (1 : Int64) (hb hby d8_38) rfl k) ?_
      show OwnOut p e s below 1 256 _ (T.setTop (mkF m 39 #[.val (.ref b0), .val (.ref b2), .val (.ref b1), .val (.int x3), .val (.int x4), .val (.int v6)] [(.long (1 : Int64)), (.long v7), (.int (v6 &&& (255 : Int32))), (.ref b2)]))
      refine OwnOut.go (fun t k => XS.ladd X0.here hx rfl (hb hby d8_39) rfl k) ?_
      show OwnOut p e s below 1 256 _ (T.setTop (mkF m 40 #[.val (.ref b0), .val (.ref b2), .val (.ref b1), .val (.int x3), .val (.int x4), .val (.int v6)] [(.long (v7 + (1 : Int64))), (.int (v6 &&& (255 : Int32))), (.ref b2)]))
      obtain ⟨l_8, hl8, hr⟩ := Option.bind_eq_some_iff.mp hr
      obtain ⟨T8, h8, X8, e8, W8, A_8, st8⟩ := saJ X0 hx hZ e0 A2 hl8 (g := (mkF m 40 #[.val (.ref b0), .val (.ref b2), .val (.ref b1), .val (.int x3), .val (.int x4), .val (.int v6)] [(.long (v7 + (1 : Int64))), (.int (v6 &&& (255 : Int32))), (.ref b2)])) rfl rfl (hb hby d8_40)
      refine OwnOut.go (fun t k => st8 _ k) ?_
      have E0_8 := E0.wr W8
      have F0_width_8 := F0_width.other W8 (Or.inl ne0_2)
      have F0_height_8 := F0_height.other W8 (Or.inl ne0_2)
      have F0_values_8 := F0_values.other W8 (Or.inl ne0_2)
      have A1_8 := A1.other W8 ne1_2
      have N_8 := Fr.snoc X8 N0 g2
      have O_8 := O0.wr W8 g2
      have K_8 := K0.wr W8 (Or.inr z2)
      show OwnOut p e s below 1 256 _ (T8.setTop (mkF m 41 #[.val (.ref b0), .val (.ref b2), .val (.ref b1), .val (.int x3), .val (.int x4), .val (.int v6)] []))
      refine OwnOut.go (fun t k => XT.iincV X8.here hx rfl (1 : Int32) (hb hby d8_41) rfl rfl (l' := #[.val (.ref b0), .val (.ref b2), .val (.ref b1), .val (.int x3), .val (.int (x4 + (1 : Int32))), .val (.int v6)]) rfl k) ?_
      show OwnOut p e s below 1 256 _ (T8.setTop (mkF m 44 #[.val (.ref b0), .val (.ref b2), .val (.ref b1), .val (.int x3), .val (.int (x4 + (1 : Int32))), .val (.int v6)] []))
      refine OwnOut.go (fun t k => XS.goto X8.here hx rfl (pc0 := 44) (pc' := 17) rfl (hb hby d8_44) (by decide) (by decide) k) ?_
      show OwnOut p e s below 1 256 _ (T8.setTop (mkF m 17 #[.val (.ref b0), .val (.ref b2), .val (.ref b1), .val (.int x3), .val (.int (x4 + (1 : Int32))), .val (.int v6)] []))
      exact ih _ _ _ x3 (x4 + (1 : Int32)) v6 b0 u0_width u0_height b1 l1 b2 l_8 _ hr X8 e8 N_8 O_8 K_8 E0_8 F0_width_8 F0_height_8 F0_values_8 A1_8 A_8 g0 g1 g2 z2 ne0_1 ne0_2 ne1_2
    · rw [if_neg hc20] at hr
      refine OwnOut.go (fun t k => XS.icmpYes X0.here hx rfl (pc0 := 20) (pc' := 47) rfl (hb hby d8_20) rfl (XT.ii_ge_t hc20) (by decide) (by decide) k) ?_
      show OwnOut p e s below 1 256 _ (T.setTop (mkF m 47 #[.val (.ref b0), .val (.ref b2), .val (.ref b1), .val (.int x3), .val (.int x4), .val (.int x5)] []))
      refine OwnOut.go (fun t k => XS.aloadN X0.here hx rfl (hb hby d8_47) rfl rfl k) ?_
      show OwnOut p e s below 1 256 _ (T.setTop (mkF m 48 #[.val (.ref b0), .val (.ref b2), .val (.ref b1), .val (.int x3), .val (.int x4), .val (.int x5)] [(.ref b2)]))
      cases hr
      exact outA X0 hx rfl hret rfl (hb hby d8_48) hlk (by decide) (by decide) (by rw [e0]; exact ⟨b2, rfl, N0, K0, z2, g2, A2⟩)
set_option maxRecDepth 65536 in
set_option maxHeartbeats 40000000 in
theorem w8_17 {p : Program} {l : Launch} {e : Env} {s : State} {m : MethodId} {args : Array Value} {below : List Frame} {meth : Method} {c : Code} {Z : State} {a0 : Array Value} {h0 : Heap} {n0 : Nat} (C : Cx8 Z a0 p s m meth c) (n : Nat) :
    ∀ (T : State) (locs : List Loc) (hA : Heap) (x3 : Int32) (x4 : Int32) (b0 : Addr) (u0_width : Int32) (u0_height : Int32) (b1 : Addr) (l1 : List Int32) (b2 : Addr) (l2 : List Int64) (o : List Int64), f8_17 n x3 x4 u0_width u0_height l1 l2 = some o → Stand p l e rx8 s m args below meth c T locs 1 256 → T.heap = hA → Fr n0 locs → Old Z n0 hA → Keep h0 hA [] → (Exa Z hA b0 "com/example/sinogrid/sinogrid/LuminanceGrid") → (Fld Z hA b0 "com/example/sinogrid/sinogrid/LuminanceGrid" "width" "I" (.int u0_width)) → (Fld Z hA b0 "com/example/sinogrid/sinogrid/LuminanceGrid" "height" "I" (.int u0_height)) → (Fld Z hA b0 "com/example/sinogrid/sinogrid/LuminanceGrid" "values" "[B" (.ref b1)) → (Ari Z hA b1 .byte l1) → (Arj Z hA b2 l2) → (n0 ≤ b0) → (n0 ≤ b1) → (n0 ≤ b2) → (h0.size ≤ b2) → (b0 ≠ b1) → (b0 ≠ b2) → (b1 ≠ b2) →  OwnOut p e s below 1 256 (Q8 Z b0 u0_width u0_height b1 l1 h0 n0 o) (T.setTop (mkF m 17 #[.val (.ref b0), .val (.ref b2), .val (.ref b1), .val (.int x3), .val (.int x4), .unset] [])) := by
  obtain ⟨hx, hZ, hw, hby, hml, hown, hret, hlk, hnm⟩ := C
  induction n with
  | zero => intro T locs hA x3 x4 b0 u0_width u0_height b1 l1 b2 l2 o hr X0 e0 N0 O0 K0 E0 F0_width F0_height F0_values A1 A2 g0 g1 g2 z2 ne0_1 ne0_2 ne1_2; rw [f8_17] at hr; cases hr
  | succ n ih =>
    intro T locs hA x3 x4 b0 u0_width u0_height b1 l1 b2 l2 o hr X0 e0 N0 O0 K0 E0 F0_width F0_height F0_values A1 A2 g0 g1 g2 z2 ne0_1 ne0_2 ne1_2
    rw [f8_17] at hr
    refine OwnOut.go (fun t k => XS.iload X0.here hx rfl (hb hby d8_17) rfl k) ?_
    show OwnOut p e s below 1 256 _ (T.setTop (mkF m 19 #[.val (.ref b0), .val (.ref b2), .val (.ref b1), .val (.int x3), .val (.int x4), .unset] [(.int x4)]))
    refine OwnOut.go (fun t k => XS.iloadN X0.here hx rfl (hb hby d8_19) rfl k) ?_
    show OwnOut p e s below 1 256 _ (T.setTop (mkF m 20 #[.val (.ref b0), .val (.ref b2), .val (.ref b1), .val (.int x3), .val (.int x4), .unset] [(.int x3), (.int x4)]))
    by_cases hc20 : x4 < x3
    · rw [if_pos hc20] at hr
      refine OwnOut.go (fun t k => XS.icmpNo X0.here hx rfl (hb hby d8_20) rfl (XT.ii_ge_f hc20) k) ?_
      show OwnOut p e s below 1 256 _ (T.setTop (mkF m 23 #[.val (.ref b0), .val (.ref b2), .val (.ref b1), .val (.int x3), .val (.int x4), .unset] []))
      refine OwnOut.go (fun t k => XS.aloadN X0.here hx rfl (hb hby d8_23) rfl rfl k) ?_
      show OwnOut p e s below 1 256 _ (T.setTop (mkF m 24 #[.val (.ref b0), .val (.ref b2), .val (.ref b1), .val (.int x3), .val (.int x4), .unset] [(.ref b1)]))
      refine OwnOut.go (fun t k => XS.iload X0.here hx rfl (hb hby d8_24) rfl k) ?_
      show OwnOut p e s below 1 256 _ (T.setTop (mkF m 26 #[.val (.ref b0), .val (.ref b2), .val (.ref b1), .val (.int x3), .val (.int x4), .unset] [(.int x4), (.ref b1)]))
      obtain ⟨v3, hv3, hr⟩ := Option.bind_eq_some_iff.mp hr
      refine OwnOut.go (fun t k => ldB X0 hx hZ e0 A1 hv3 (g := (mkF m 26 #[.val (.ref b0), .val (.ref b2), .val (.ref b1), .val (.int x3), .val (.int x4), .unset] [(.int x4), (.ref b1)])) rfl rfl (hb hby d8_26) t k) ?_
      show OwnOut p e s below 1 256 _ (T.setTop (mkF m 27 #[.val (.ref b0), .val (.ref b2), .val (.ref b1), .val (.int x3), .val (.int x4), .unset] [(.int v3)]))
      refine OwnOut.go (fun t k => XS.istore X0.here hx rfl (hb hby d8_27) rfl (l' := #[.val (.ref b0), .val (.ref b2), .val (.ref b1), .val (.int x3), .val (.int x4), .val (.int v3)]) rfl k) ?_
      show OwnOut p e s below 1 256 _ (T.setTop (mkF m 29 #[.val (.ref b0), .val (.ref b2), .val (.ref b1), .val (.int x3), .val (.int x4), .val (.int v3)] []))
      refine OwnOut.go (fun t k => XS.aloadN X0.here hx rfl (hb hby d8_29) rfl rfl k) ?_
      show OwnOut p e s below 1 256 _ (T.setTop (mkF m 30 #[.val (.ref b0), .val (.ref b2), .val (.ref b1), .val (.int x3), .val (.int x4), .val (.int v3)] [(.ref b2)]))
      refine OwnOut.go (fun t k => XS.iload X0.here hx rfl (hb hby d8_30) rfl k) ?_
      show OwnOut p e s below 1 256 _ (T.setTop (mkF m 32 #[.val (.ref b0), .val (.ref b2), .val (.ref b1), .val (.int x3), .val (.int x4), .val (.int v3)] [(.int v3), (.ref b2)]))
      refine OwnOut.go (fun t k => XT.sipushV X0.here hx rfl (255 : Int32) (hb hby d8_32) rfl k) ?_
      show OwnOut p e s below 1 256 _ (T.setTop (mkF m 35 #[.val (.ref b0), .val (.ref b2), .val (.ref b1), .val (.int x3), .val (.int x4), .val (.int v3)] [(.int (255 : Int32)), (.int v3), (.ref b2)]))
      refine OwnOut.go (fun t k => XS.iand X0.here hx rfl (hb hby d8_35) rfl k) ?_
      show OwnOut p e s below 1 256 _ (T.setTop (mkF m 36 #[.val (.ref b0), .val (.ref b2), .val (.ref b1), .val (.int x3), .val (.int x4), .val (.int v3)] [(.int (v3 &&& (255 : Int32))), (.ref b2)]))
      refine OwnOut.go (W' := T.setTop (mkF m 37 #[.val (.ref b0), .val (.ref b2), .val (.ref b1), .val (.int x3), .val (.int x4), .val (.int v3)] [(.int (v3 &&& (255 : Int32))), (.ref b2), (.int (v3 &&& (255 : Int32))), (.ref b2)])) (fun t k => by jvm_step X0.here [X0.here.top, hx, (hb hby d8_36), Value.category]; exact k) ?_
      show OwnOut p e s below 1 256 _ (T.setTop (mkF m 37 #[.val (.ref b0), .val (.ref b2), .val (.ref b1), .val (.int x3), .val (.int x4), .val (.int v3)] [(.int (v3 &&& (255 : Int32))), (.ref b2), (.int (v3 &&& (255 : Int32))), (.ref b2)]))
      obtain ⟨v4, hv4, hr⟩ := Option.bind_eq_some_iff.mp hr
      refine OwnOut.go (fun t k => ldJ X0 hx hZ e0 A2 hv4 (g := (mkF m 37 #[.val (.ref b0), .val (.ref b2), .val (.ref b1), .val (.int x3), .val (.int x4), .val (.int v3)] [(.int (v3 &&& (255 : Int32))), (.ref b2), (.int (v3 &&& (255 : Int32))), (.ref b2)])) rfl rfl (hb hby d8_37) t k) ?_
      show OwnOut p e s below 1 256 _ (T.setTop (mkF m 38 #[.val (.ref b0), .val (.ref b2), .val (.ref b1), .val (.int x3), .val (.int x4), .val (.int v3)] [(.long v4), (.int (v3 &&& (255 : Int32))), (.ref b2)]))
      refine OwnOut.go (fun t k => XT.lconstV X0.here hx rfl (1 : Int64) (hb hby d8_38) rfl k) ?_
      show OwnOut p e s below 1 256 _ (T.setTop (mkF m 39 #[.val (.ref b0), .val (.ref b2), .val (.ref b1), .val (.int x3), .val (.int x4), .val (.int v3)] [(.long (1 : Int64)), (.long v4), (.int (v3 &&& (255 : Int32))), (.ref b2)]))
      refine OwnOut.go (fun t k => XS.ladd X0.here hx rfl (hb hby d8_39) rfl k) ?_
      show OwnOut p e s below 1 256 _ (T.setTop (mkF m 40 #[.val (.ref b0), .val (.ref b2), .val (.ref b1), .val (.int x3), .val (.int x4), .val (.int v3)] [(.long (v4 + (1 : Int64))), (.int (v3 &&& (255 : Int32))), (.ref b2)]))
      obtain ⟨l_5, hl5, hr⟩ := Option.bind_eq_some_iff.mp hr
      obtain ⟨T5, h5, X5, e5, W5, A_5, st5⟩ := saJ X0 hx hZ e0 A2 hl5 (g := (mkF m 40 #[.val (.ref b0), .val (.ref b2), .val (.ref b1), .val (.int x3), .val (.int x4), .val (.int v3)] [(.long (v4 + (1 : Int64))), (.int (v3 &&& (255 : Int32))), (.ref b2)])) rfl rfl (hb hby d8_40)
      refine OwnOut.go (fun t k => st5 _ k) ?_
      have E0_5 := E0.wr W5
      have F0_width_5 := F0_width.other W5 (Or.inl ne0_2)
      have F0_height_5 := F0_height.other W5 (Or.inl ne0_2)
      have F0_values_5 := F0_values.other W5 (Or.inl ne0_2)
      have A1_5 := A1.other W5 ne1_2
      have N_5 := Fr.snoc X5 N0 g2
      have O_5 := O0.wr W5 g2
      have K_5 := K0.wr W5 (Or.inr z2)
      show OwnOut p e s below 1 256 _ (T5.setTop (mkF m 41 #[.val (.ref b0), .val (.ref b2), .val (.ref b1), .val (.int x3), .val (.int x4), .val (.int v3)] []))
      refine OwnOut.go (fun t k => XT.iincV X5.here hx rfl (1 : Int32) (hb hby d8_41) rfl rfl (l' := #[.val (.ref b0), .val (.ref b2), .val (.ref b1), .val (.int x3), .val (.int (x4 + (1 : Int32))), .val (.int v3)]) rfl k) ?_
      show OwnOut p e s below 1 256 _ (T5.setTop (mkF m 44 #[.val (.ref b0), .val (.ref b2), .val (.ref b1), .val (.int x3), .val (.int (x4 + (1 : Int32))), .val (.int v3)] []))
      refine OwnOut.go (fun t k => XS.goto X5.here hx rfl (pc0 := 44) (pc' := 17) rfl (hb hby d8_44) (by decide) (by decide) k) ?_
      show OwnOut p e s below 1 256 _ (T5.setTop (mkF m 17 #[.val (.ref b0), .val (.ref b2), .val (.ref b1), .val (.int x3), .val (.int (x4 + (1 : Int32))), .val (.int v3)] []))
      exact w8_17a ⟨hx, hZ, hw, hby, hml, hown, hret, hlk, hnm⟩ n  _ _ _ x3 (x4 + (1 : Int32)) v3 b0 u0_width u0_height b1 l1 b2 l_5 _ hr X5 e5 N_5 O_5 K_5 E0_5 F0_width_5 F0_height_5 F0_values_5 A1_5 A_5 g0 g1 g2 z2 ne0_1 ne0_2 ne1_2
    · rw [if_neg hc20] at hr
      refine OwnOut.go (fun t k => XS.icmpYes X0.here hx rfl (pc0 := 20) (pc' := 47) rfl (hb hby d8_20) rfl (XT.ii_ge_t hc20) (by decide) (by decide) k) ?_
      show OwnOut p e s below 1 256 _ (T.setTop (mkF m 47 #[.val (.ref b0), .val (.ref b2), .val (.ref b1), .val (.int x3), .val (.int x4), .unset] []))
      refine OwnOut.go (fun t k => XS.aloadN X0.here hx rfl (hb hby d8_47) rfl rfl k) ?_
      show OwnOut p e s below 1 256 _ (T.setTop (mkF m 48 #[.val (.ref b0), .val (.ref b2), .val (.ref b1), .val (.int x3), .val (.int x4), .unset] [(.ref b2)]))
      cases hr
      exact outA X0 hx rfl hret rfl (hb hby d8_48) hlk (by decide) (by decide) (by rw [e0]; exact ⟨b2, rfl, N0, K0, z2, g2, A2⟩)
def f8 (u0_width : Int32) (u0_height : Int32) (l1 : List Int32) : Option (List Int64) := ((nwx (0 : Int64) 256 (256 : Int32)).bind fun l_1 => (f8_17 8 (lenx l1) (0 : Int32) u0_width u0_height l1 l_1))
set_option maxRecDepth 65536 in
set_option maxHeartbeats 40000000 in
theorem w8_0 {p : Program} {l : Launch} {e : Env} {s : State} {m : MethodId} {args : Array Value} {below : List Frame} {meth : Method} {c : Code} {Z : State} {a0 : Array Value} {h0 : Heap} {n0 : Nat} (C : Cx8 Z a0 p s m meth c) :
    ∀ (T : State) (locs : List Loc) (hA : Heap) (b0 : Addr) (u0_width : Int32) (u0_height : Int32) (b1 : Addr) (l1 : List Int32) (o : List Int64), f8 u0_width u0_height l1 = some o → Stand p l e rx8 s m args below meth c T locs 0 0 → T.heap = hA → Fr n0 locs → Old Z n0 hA → Keep h0 hA [] → (Exa Z hA b0 "com/example/sinogrid/sinogrid/LuminanceGrid") → (Fld Z hA b0 "com/example/sinogrid/sinogrid/LuminanceGrid" "width" "I" (.int u0_width)) → (Fld Z hA b0 "com/example/sinogrid/sinogrid/LuminanceGrid" "height" "I" (.int u0_height)) → (Fld Z hA b0 "com/example/sinogrid/sinogrid/LuminanceGrid" "values" "[B" (.ref b1)) → (Ari Z hA b1 .byte l1) → (n0 ≤ b0) → (n0 ≤ b1) → (b0 ≠ b1) →  OwnOut p e s below 1 256 (Q8 Z b0 u0_width u0_height b1 l1 h0 n0 o) (T.setTop (mkF m 0 #[.val (.ref b0), .unset, .unset, .unset, .unset, .unset] [])) := by
    obtain ⟨hx, hZ, hw, hby, hml, hown, hret, hlk, hnm⟩ := C
    intro T locs hA b0 u0_width u0_height b1 l1 o hr X0 e0 N0 O0 K0 E0 F0_width F0_height F0_values A1 g0 g1 ne0_1
    rw [f8] at hr
    refine OwnOut.go (fun t k => XT.sipushV X0.here hx rfl (256 : Int32) (hb hby d8_0) rfl k) ?_
    show OwnOut p e s below 1 256 _ (T.setTop (mkF m 3 #[.val (.ref b0), .unset, .unset, .unset, .unset, .unset] [(.int (256 : Int32))]))
    obtain ⟨l_1, hl1, hr⟩ := Option.bind_eq_some_iff.mp hr
    obtain ⟨T1, h1, X1, e1, Ex1, A_1, st1⟩ := nwA X0 hx hZ (hw _ (List.mem_of_getElem? (i := 43) rfl)) e0 hl1 (f := Value.long) rfl (g := (mkF m 3 #[.val (.ref b0), .unset, .unset, .unset, .unset, .unset] [(.int (256 : Int32))])) rfl rfl (hb hby d8_3) (by decide) (by decide) (by decide)
    obtain ⟨c1, gc1⟩ : ∃ z, z = hA.size := ⟨_, rfl⟩
    rw [← gc1] at A_1 st1
    refine OwnOut.go (fun t k => st1 _ k) ?_
    have ne0_2_1 : b0 ≠ c1 := Nat.ne_of_lt (gc1 ▸ E0.lt)
    have ne1_2_1 : b1 ≠ c1 := Nat.ne_of_lt (gc1 ▸ A1.lt)
    have E0_1 := E0.ext Ex1
    have F0_width_1 := F0_width.ext Ex1
    have F0_height_1 := F0_height.ext Ex1
    have F0_values_1 := F0_values.ext Ex1
    have A1_1 := A1.ext Ex1
    have g_1 : n0 ≤ c1 := gc1 ▸ (O0.1 ▸ O0.2.1)
    have z_1 : h0.size ≤ c1 := gc1 ▸ K0.1
    have O_1 := O0.ext Ex1
    have K_1 := K0.ext Ex1
    show OwnOut p e s below 1 256 _ (T1.setTop (mkF m 5 #[.val (.ref b0), .unset, .unset, .unset, .unset, .unset] [(.ref c1)]))
    refine OwnOut.go (fun t k => XS.astoreN X1.here hx rfl (hb hby d8_5) rfl rfl (l' := #[.val (.ref b0), .val (.ref c1), .unset, .unset, .unset, .unset]) rfl k) ?_
    show OwnOut p e s below 1 256 _ (T1.setTop (mkF m 6 #[.val (.ref b0), .val (.ref c1), .unset, .unset, .unset, .unset] []))
    refine OwnOut.go (fun t k => XS.aloadN X1.here hx rfl (hb hby d8_6) rfl rfl k) ?_
    show OwnOut p e s below 1 256 _ (T1.setTop (mkF m 7 #[.val (.ref b0), .val (.ref c1), .unset, .unset, .unset, .unset] [(.ref b0)]))
    obtain ⟨T2, X2, e2, st2⟩ := getF X1 hx hZ hown (host := "") (Or.inl (hw _ (List.mem_of_getElem? (i := 19) rfl))) Via.refl e1 F0_values_1 (g := (mkF m 7 #[.val (.ref b0), .val (.ref c1), .unset, .unset, .unset, .unset] [(.ref b0)])) rfl rfl (hb hby d8_7)
    refine OwnOut.go (fun t k => st2 _ k) ?_
    show OwnOut p e s below 1 256 _ (T2.setTop (mkF m 10 #[.val (.ref b0), .val (.ref c1), .unset, .unset, .unset, .unset] [(.ref b1)]))
    refine OwnOut.go (fun t k => XS.astoreN X2.here hx rfl (hb hby d8_10) rfl rfl (l' := #[.val (.ref b0), .val (.ref c1), .val (.ref b1), .unset, .unset, .unset]) rfl k) ?_
    show OwnOut p e s below 1 256 _ (T2.setTop (mkF m 11 #[.val (.ref b0), .val (.ref c1), .val (.ref b1), .unset, .unset, .unset] []))
    refine OwnOut.go (fun t k => XS.aloadN X2.here hx rfl (hb hby d8_11) rfl rfl k) ?_
    show OwnOut p e s below 1 256 _ (T2.setTop (mkF m 12 #[.val (.ref b0), .val (.ref c1), .val (.ref b1), .unset, .unset, .unset] [(.ref b1)]))
    refine OwnOut.go (fun t k => lenA X2 hx hZ e2 A1_1 (g := (mkF m 12 #[.val (.ref b0), .val (.ref c1), .val (.ref b1), .unset, .unset, .unset] [(.ref b1)])) rfl rfl (hb hby d8_12) t k) ?_
    show OwnOut p e s below 1 256 _ (T2.setTop (mkF m 13 #[.val (.ref b0), .val (.ref c1), .val (.ref b1), .unset, .unset, .unset] [(.int (lenx l1))]))
    refine OwnOut.go (fun t k => XS.istoreN X2.here hx rfl (hb hby d8_13) rfl (l' := #[.val (.ref b0), .val (.ref c1), .val (.ref b1), .val (.int (lenx l1)), .unset, .unset]) rfl k) ?_
    show OwnOut p e s below 1 256 _ (T2.setTop (mkF m 14 #[.val (.ref b0), .val (.ref c1), .val (.ref b1), .val (.int (lenx l1)), .unset, .unset] []))
    refine OwnOut.go (fun t k => XT.iconstV X2.here hx rfl (0 : Int32) (hb hby d8_14) rfl k) ?_
    show OwnOut p e s below 1 256 _ (T2.setTop (mkF m 15 #[.val (.ref b0), .val (.ref c1), .val (.ref b1), .val (.int (lenx l1)), .unset, .unset] [(.int (0 : Int32))]))
    refine OwnOut.go (fun t k => XS.istore X2.here hx rfl (hb hby d8_15) rfl (l' := #[.val (.ref b0), .val (.ref c1), .val (.ref b1), .val (.int (lenx l1)), .val (.int (0 : Int32)), .unset]) rfl k) ?_
    show OwnOut p e s below 1 256 _ (T2.setTop (mkF m 17 #[.val (.ref b0), .val (.ref c1), .val (.ref b1), .val (.int (lenx l1)), .val (.int (0 : Int32)), .unset] []))
    exact w8_17 ⟨hx, hZ, hw, hby, hml, hown, hret, hlk, hnm⟩ 8  _ _ _ (lenx l1) (0 : Int32) b0 u0_width u0_height b1 l1 c1 l_1 _ hr X2 e2 N0 O_1 K_1 E0_1 F0_width_1 F0_height_1 F0_values_1 A1_1 A_1 g0 g1 g_1 z_1 ne0_1 ne0_2_1 ne1_2_1
set_option maxRecDepth 65536 in
set_option maxHeartbeats 40000000 in
theorem rm8 (l : Launch) (Z : State) (a0 : Array Value) (hw : ∀ d ∈ tables_1, d.before a0 Z = true) (ws : List Jvm.Cond) (b0 : Addr) (u0_width : Int32) (u0_height : Int32) (b1 : Addr) (l1 : List Int32) (h0 : Heap) (n0 : Nat) (o : List Int64) (hr : f8 u0_width u0_height l1 = some o) (O0 : Old Z n0 h0) (E0 : Exa Z h0 b0 "com/example/sinogrid/sinogrid/LuminanceGrid") (F0_width : Fld Z h0 b0 "com/example/sinogrid/sinogrid/LuminanceGrid" "width" "I" (.int u0_width)) (F0_height : Fld Z h0 b0 "com/example/sinogrid/sinogrid/LuminanceGrid" "height" "I" (.int u0_height)) (F0_values : Fld Z h0 b0 "com/example/sinogrid/sinogrid/LuminanceGrid" "values" "[B" (.ref b1)) (A1 : Ari Z h0 b1 .byte l1) (g0 : n0 ≤ b0) (g1 : n0 ≤ b1) (ne0_1 : b0 ≠ b1) :
    MetFree l (⟨"com/example/sinogrid/sinogrid/LuminanceGrid", "histogram", "()[J"⟩ : MethodName) (head1 (Jvm.Cond.code (⟨"com/example/sinogrid/sinogrid/LuminanceGrid", "histogram", "()[J"⟩ : MethodName) prog_23_method_8_code 6 (some (.array .long)) :: ws) rx8) (fun a U => a = #[(.ref b0)] ∧ Z.Warmed39 U.vm ∧ U.heap = h0) (fun _ _ _ _ _ => True) (fun _ U o' U' => ∃ v L, o' = .returned v ∧ Q8 Z b0 u0_width u0_height b1 l1 h0 n0 o v U'.heap L ∧ FrameEnd U o' U' L rx8.cells rx8.slots) := by
  refine MetFree.of_bodySF (plainFor_of_name pn8) hisR ?_
  intro p e s m args below meth c s₁ Bd hml0 hP hK
  obtain ⟨rfl, hZ, hh⟩ := hP
  have X0 : Stand p l e rx8 s m #[(.ref b0)] below meth c s₁ [] 0 0 := Stand.of_body Bd
  have e0 : s₁.heap = h0 := by rw [← hh, Bd.state]; rfl
  exact OwnOut.at (ef8 m b0) (w8_0 ⟨Bd.exec, hZ, hw, Bd.bytes, hml0, findClass_of_methodNamed Bd.named, Bd.returns, Bd.notSynchronized, (name_of_methodNamed Bd.named Bd.method).1⟩ _ _ _ b0 u0_width u0_height b1 l1 o hr X0 e0 (Fr.nil n0) O0 (Keep.refl _ _) E0 F0_width F0_height F0_values A1 g0 g1 ne0_1)
-- body 9 as 9: com/example/sinogrid/sinogrid/LuminanceGridHistogramPinLaw.count:(IIIIIZZZ)J (touches nothing)
theorem d9_0 : decode method_3_code 0 = .ok (.lconst 0, 1) := by decide +kernel
theorem d9_1 : decode method_3_code 1 = .ok (.lstore 8, 2) := by decide +kernel
theorem d9_3 : decode method_3_code 3 = .ok (.iload_n 1, 1) := by decide +kernel
theorem d9_4 : decode method_3_code 4 = .ok (.iload_n 0, 1) := by decide +kernel
theorem d9_5 : decode method_3_code 5 = .ok (.if_icmp .ne 9, 3) := by decide +kernel
theorem d9_8 : decode method_3_code 8 = .ok (.lload 8, 2) := by decide +kernel
theorem d9_10 : decode method_3_code 10 = .ok (.lconst 1, 1) := by decide +kernel
theorem d9_11 : decode method_3_code 11 = .ok (.ladd, 1) := by decide +kernel
theorem d9_12 : decode method_3_code 12 = .ok (.lstore 8, 2) := by decide +kernel
theorem d9_14 : decode method_3_code 14 = .ok (.iload 5, 2) := by decide +kernel
theorem d9_16 : decode method_3_code 16 = .ok (.ifCond .eq 14, 3) := by decide +kernel
theorem d9_19 : decode method_3_code 19 = .ok (.iload_n 2, 1) := by decide +kernel
theorem d9_20 : decode method_3_code 20 = .ok (.iload_n 0, 1) := by decide +kernel
theorem d9_21 : decode method_3_code 21 = .ok (.if_icmp .ne 9, 3) := by decide +kernel
theorem d9_24 : decode method_3_code 24 = .ok (.lload 8, 2) := by decide +kernel
theorem d9_26 : decode method_3_code 26 = .ok (.lconst 1, 1) := by decide +kernel
theorem d9_27 : decode method_3_code 27 = .ok (.ladd, 1) := by decide +kernel
theorem d9_28 : decode method_3_code 28 = .ok (.lstore 8, 2) := by decide +kernel
theorem d9_30 : decode method_3_code 30 = .ok (.iload 6, 2) := by decide +kernel
theorem d9_32 : decode method_3_code 32 = .ok (.ifCond .eq 14, 3) := by decide +kernel
theorem d9_35 : decode method_3_code 35 = .ok (.iload_n 3, 1) := by decide +kernel
theorem d9_36 : decode method_3_code 36 = .ok (.iload_n 0, 1) := by decide +kernel
theorem d9_37 : decode method_3_code 37 = .ok (.if_icmp .ne 9, 3) := by decide +kernel
theorem d9_40 : decode method_3_code 40 = .ok (.lload 8, 2) := by decide +kernel
theorem d9_42 : decode method_3_code 42 = .ok (.lconst 1, 1) := by decide +kernel
theorem d9_43 : decode method_3_code 43 = .ok (.ladd, 1) := by decide +kernel
theorem d9_44 : decode method_3_code 44 = .ok (.lstore 8, 2) := by decide +kernel
theorem d9_46 : decode method_3_code 46 = .ok (.iload 7, 2) := by decide +kernel
theorem d9_48 : decode method_3_code 48 = .ok (.ifCond .eq 15, 3) := by decide +kernel
theorem d9_51 : decode method_3_code 51 = .ok (.iload 4, 2) := by decide +kernel
theorem d9_53 : decode method_3_code 53 = .ok (.iload_n 0, 1) := by decide +kernel
theorem d9_54 : decode method_3_code 54 = .ok (.if_icmp .ne 9, 3) := by decide +kernel
theorem d9_57 : decode method_3_code 57 = .ok (.lload 8, 2) := by decide +kernel
theorem d9_59 : decode method_3_code 59 = .ok (.lconst 1, 1) := by decide +kernel
theorem d9_60 : decode method_3_code 60 = .ok (.ladd, 1) := by decide +kernel
theorem d9_61 : decode method_3_code 61 = .ok (.lstore 8, 2) := by decide +kernel
theorem d9_63 : decode method_3_code 63 = .ok (.lload 8, 2) := by decide +kernel
theorem d9_65 : decode method_3_code 65 = .ok (.lreturn, 1) := by decide +kernel
theorem pn9 : plainName "com/example/sinogrid/sinogrid/LuminanceGridHistogramPinLaw" = true := by first | (simp [plainName, overriddenIn]; done) | decide +kernel
theorem pd9 : parseMethodDescriptor "(IIIIIZZZ)J" = some ⟨[.int, .int, .int, .int, .int, .boolean, .boolean, .boolean], some .long⟩ := by decide +kernel
theorem ef9 (m : MethodId) (x0 : Int32) (x1 : Int32) (x2 : Int32) (x3 : Int32) (x4 : Int32) (x5 : Int32) (x6 : Int32) (x7 : Int32) : entryFrame m #[(.int x0), (.int x1), (.int x2), (.int x3), (.int x4), (.int x5), (.int x6), (.int x7)] 10 = mkF m 0 #[.val (.int x0), .val (.int x1), .val (.int x2), .val (.int x3), .val (.int x4), .val (.int x5), .val (.int x6), .val (.int x7), .unset, .unset] [] := by first | (simp [entryFrame, mkF, argsToLocals, Value.category]; done) | rfl
abbrev rx9 : Room := { frames := 0, cells := 0, slots := 0, locals := 0 }
abbrev Cx9 (Z : State) (a0 : Array Value) (p : Program) (s : State) (m : MethodId) (meth : Method) (c : Code) : Prop := p.tables.exec = Jvm.exec ∧ Z.Warmed39 s.vm ∧ (∀ d ∈ tables_1, d.before a0 Z = true) ∧ c.code = method_3_code ∧ c.maxLocals = 10 ∧ s.vm.findClass "com/example/sinogrid/sinogrid/LuminanceGridHistogramPinLaw" = some m.cls ∧ meth.sig.returnType = (some .long) ∧ meth.locks = false ∧ meth.name = "count"
def Q9 (Z : State) (x0 : Int32) (x1 : Int32) (x2 : Int32) (x3 : Int32) (x4 : Int32) (x5 : Int32) (x6 : Int32) (x7 : Int32) (h0 : Heap) (o : Int64) (v : Option Value) (h : Heap) (L : List Loc) : Prop := v = some (.long o) ∧ h = h0 ∧ L = []
def f9_46 (x0 : Int32) (x4 : Int32) (x7 : Int32) (x8 : Int64) : Option (Int64) := (if x7 = (0 : Int32) then some (x8) else (if x4 = x0 then some ((x8 + (1 : Int64))) else some (x8)))
set_option maxRecDepth 65536 in
set_option maxHeartbeats 40000000 in
theorem w9_46 {p : Program} {l : Launch} {e : Env} {s : State} {m : MethodId} {args : Array Value} {below : List Frame} {meth : Method} {c : Code} {Z : State} {a0 : Array Value} {h0 : Heap} (C : Cx9 Z a0 p s m meth c) :
    ∀ (T : State) (x0 : Int32) (x1 : Int32) (x2 : Int32) (x3 : Int32) (x4 : Int32) (x5 : Int32) (x6 : Int32) (x7 : Int32) (x8 : Int64) (o : Int64), f9_46 x0 x4 x7 x8 = some o → Stand p l e rx9 s m args below meth c T [] 0 0 → T.heap = h0 →  OwnOut p e s below 0 0 (Q9 Z default default default default default default default default h0 o) (T.setTop (mkF m 46 #[.val (.int x0), .val (.int x1), .val (.int x2), .val (.int x3), .val (.int x4), .val (.int x5), .val (.int x6), .val (.int x7), .val (.long x8), .second] [])) := by
    obtain ⟨hx, hZ, hw, hby, hml, hown, hret, hlk, hnm⟩ := C
    intro T x0 x1 x2 x3 x4 x5 x6 x7 x8 o hr X0 e0
    rw [f9_46] at hr
    refine OwnOut.go (fun t k => XS.iload X0.here hx rfl (hb hby d9_46) rfl k) ?_
    show OwnOut p e s below 0 0 _ (T.setTop (mkF m 48 #[.val (.int x0), .val (.int x1), .val (.int x2), .val (.int x3), .val (.int x4), .val (.int x5), .val (.int x6), .val (.int x7), .val (.long x8), .second] [(.int x7)]))
    by_cases hc48 : x7 = (0 : Int32)
    · rw [if_pos hc48] at hr
      refine OwnOut.go (fun t k => XS.ifYes X0.here hx rfl (pc0 := 48) (pc' := 63) rfl (hb hby d9_48) rfl (XT.i0_eq_t hc48) (by decide) (by decide) k) ?_
      show OwnOut p e s below 0 0 _ (T.setTop (mkF m 63 #[.val (.int x0), .val (.int x1), .val (.int x2), .val (.int x3), .val (.int x4), .val (.int x5), .val (.int x6), .val (.int x7), .val (.long x8), .second] []))
      refine OwnOut.go (fun t k => XS.lload X0.here hx rfl (hb hby d9_63) rfl k) ?_
      show OwnOut p e s below 0 0 _ (T.setTop (mkF m 65 #[.val (.int x0), .val (.int x1), .val (.int x2), .val (.int x3), .val (.int x4), .val (.int x5), .val (.int x6), .val (.int x7), .val (.long x8), .second] [(.long x8)]))
      cases hr
      exact outJ X0 hx hret (hb hby d9_65) hlk (by decide) (by decide) ⟨rfl, e0, rfl⟩
    · rw [if_neg hc48] at hr
      refine OwnOut.go (fun t k => XS.ifNo X0.here hx rfl (hb hby d9_48) rfl (XT.i0_eq_f hc48) k) ?_
      show OwnOut p e s below 0 0 _ (T.setTop (mkF m 51 #[.val (.int x0), .val (.int x1), .val (.int x2), .val (.int x3), .val (.int x4), .val (.int x5), .val (.int x6), .val (.int x7), .val (.long x8), .second] []))
      refine OwnOut.go (fun t k => XS.iload X0.here hx rfl (hb hby d9_51) rfl k) ?_
      show OwnOut p e s below 0 0 _ (T.setTop (mkF m 53 #[.val (.int x0), .val (.int x1), .val (.int x2), .val (.int x3), .val (.int x4), .val (.int x5), .val (.int x6), .val (.int x7), .val (.long x8), .second] [(.int x4)]))
      refine OwnOut.go (fun t k => XS.iloadN X0.here hx rfl (hb hby d9_53) rfl k) ?_
      show OwnOut p e s below 0 0 _ (T.setTop (mkF m 54 #[.val (.int x0), .val (.int x1), .val (.int x2), .val (.int x3), .val (.int x4), .val (.int x5), .val (.int x6), .val (.int x7), .val (.long x8), .second] [(.int x0), (.int x4)]))
      by_cases hc54 : x4 = x0
      · rw [if_pos hc54] at hr
        refine OwnOut.go (fun t k => XS.icmpNo X0.here hx rfl (hb hby d9_54) rfl (XT.ii_ne_f hc54) k) ?_
        show OwnOut p e s below 0 0 _ (T.setTop (mkF m 57 #[.val (.int x0), .val (.int x1), .val (.int x2), .val (.int x3), .val (.int x4), .val (.int x5), .val (.int x6), .val (.int x7), .val (.long x8), .second] []))
        refine OwnOut.go (fun t k => XS.lload X0.here hx rfl (hb hby d9_57) rfl k) ?_
        show OwnOut p e s below 0 0 _ (T.setTop (mkF m 59 #[.val (.int x0), .val (.int x1), .val (.int x2), .val (.int x3), .val (.int x4), .val (.int x5), .val (.int x6), .val (.int x7), .val (.long x8), .second] [(.long x8)]))
        refine OwnOut.go (fun t k => XT.lconstV X0.here hx rfl (1 : Int64) (hb hby d9_59) rfl k) ?_
        show OwnOut p e s below 0 0 _ (T.setTop (mkF m 60 #[.val (.int x0), .val (.int x1), .val (.int x2), .val (.int x3), .val (.int x4), .val (.int x5), .val (.int x6), .val (.int x7), .val (.long x8), .second] [(.long (1 : Int64)), (.long x8)]))
        refine OwnOut.go (fun t k => XS.ladd X0.here hx rfl (hb hby d9_60) rfl k) ?_
        show OwnOut p e s below 0 0 _ (T.setTop (mkF m 61 #[.val (.int x0), .val (.int x1), .val (.int x2), .val (.int x3), .val (.int x4), .val (.int x5), .val (.int x6), .val (.int x7), .val (.long x8), .second] [(.long (x8 + (1 : Int64)))]))
        refine OwnOut.go (fun t k => XS.lstore X0.here hx rfl (hb hby d9_61) rfl (l' := #[.val (.int x0), .val (.int x1), .val (.int x2), .val (.int x3), .val (.int x4), .val (.int x5), .val (.int x6), .val (.int x7), .val (.long (x8 + (1 : Int64))), .second]) rfl k) ?_
        show OwnOut p e s below 0 0 _ (T.setTop (mkF m 63 #[.val (.int x0), .val (.int x1), .val (.int x2), .val (.int x3), .val (.int x4), .val (.int x5), .val (.int x6), .val (.int x7), .val (.long (x8 + (1 : Int64))), .second] []))
        refine OwnOut.go (fun t k => XS.lload X0.here hx rfl (hb hby d9_63) rfl k) ?_
        show OwnOut p e s below 0 0 _ (T.setTop (mkF m 65 #[.val (.int x0), .val (.int x1), .val (.int x2), .val (.int x3), .val (.int x4), .val (.int x5), .val (.int x6), .val (.int x7), .val (.long (x8 + (1 : Int64))), .second] [(.long (x8 + (1 : Int64)))]))
        cases hr
        exact outJ X0 hx hret (hb hby d9_65) hlk (by decide) (by decide) ⟨rfl, e0, rfl⟩
      · rw [if_neg hc54] at hr
        refine OwnOut.go (fun t k => XS.icmpYes X0.here hx rfl (pc0 := 54) (pc' := 63) rfl (hb hby d9_54) rfl (XT.ii_ne_t hc54) (by decide) (by decide) k) ?_
        show OwnOut p e s below 0 0 _ (T.setTop (mkF m 63 #[.val (.int x0), .val (.int x1), .val (.int x2), .val (.int x3), .val (.int x4), .val (.int x5), .val (.int x6), .val (.int x7), .val (.long x8), .second] []))
        refine OwnOut.go (fun t k => XS.lload X0.here hx rfl (hb hby d9_63) rfl k) ?_
        show OwnOut p e s below 0 0 _ (T.setTop (mkF m 65 #[.val (.int x0), .val (.int x1), .val (.int x2), .val (.int x3), .val (.int x4), .val (.int x5), .val (.int x6), .val (.int x7), .val (.long x8), .second] [(.long x8)]))
        cases hr
        exact outJ X0 hx hret (hb hby d9_65) hlk (by decide) (by decide) ⟨rfl, e0, rfl⟩
def f9_30 (x0 : Int32) (x3 : Int32) (x4 : Int32) (x6 : Int32) (x7 : Int32) (x8 : Int64) : Option (Int64) := (if x6 = (0 : Int32) then (f9_46 x0 x4 x7 x8) else (if x3 = x0 then (f9_46 x0 x4 x7 (x8 + (1 : Int64))) else (f9_46 x0 x4 x7 x8)))
set_option maxRecDepth 65536 in
set_option maxHeartbeats 40000000 in
theorem w9_30 {p : Program} {l : Launch} {e : Env} {s : State} {m : MethodId} {args : Array Value} {below : List Frame} {meth : Method} {c : Code} {Z : State} {a0 : Array Value} {h0 : Heap} (C : Cx9 Z a0 p s m meth c) :
    ∀ (T : State) (x0 : Int32) (x1 : Int32) (x2 : Int32) (x3 : Int32) (x4 : Int32) (x5 : Int32) (x6 : Int32) (x7 : Int32) (x8 : Int64) (o : Int64), f9_30 x0 x3 x4 x6 x7 x8 = some o → Stand p l e rx9 s m args below meth c T [] 0 0 → T.heap = h0 →  OwnOut p e s below 0 0 (Q9 Z default default default default default default default default h0 o) (T.setTop (mkF m 30 #[.val (.int x0), .val (.int x1), .val (.int x2), .val (.int x3), .val (.int x4), .val (.int x5), .val (.int x6), .val (.int x7), .val (.long x8), .second] [])) := by
    obtain ⟨hx, hZ, hw, hby, hml, hown, hret, hlk, hnm⟩ := C
    intro T x0 x1 x2 x3 x4 x5 x6 x7 x8 o hr X0 e0
    rw [f9_30] at hr
    refine OwnOut.go (fun t k => XS.iload X0.here hx rfl (hb hby d9_30) rfl k) ?_
    show OwnOut p e s below 0 0 _ (T.setTop (mkF m 32 #[.val (.int x0), .val (.int x1), .val (.int x2), .val (.int x3), .val (.int x4), .val (.int x5), .val (.int x6), .val (.int x7), .val (.long x8), .second] [(.int x6)]))
    by_cases hc32 : x6 = (0 : Int32)
    · rw [if_pos hc32] at hr
      refine OwnOut.go (fun t k => XS.ifYes X0.here hx rfl (pc0 := 32) (pc' := 46) rfl (hb hby d9_32) rfl (XT.i0_eq_t hc32) (by decide) (by decide) k) ?_
      show OwnOut p e s below 0 0 _ (T.setTop (mkF m 46 #[.val (.int x0), .val (.int x1), .val (.int x2), .val (.int x3), .val (.int x4), .val (.int x5), .val (.int x6), .val (.int x7), .val (.long x8), .second] []))
      exact w9_46 ⟨hx, hZ, hw, hby, hml, hown, hret, hlk, hnm⟩  _ x0 x1 x2 x3 x4 x5 x6 x7 x8 _ hr X0 e0
    · rw [if_neg hc32] at hr
      refine OwnOut.go (fun t k => XS.ifNo X0.here hx rfl (hb hby d9_32) rfl (XT.i0_eq_f hc32) k) ?_
      show OwnOut p e s below 0 0 _ (T.setTop (mkF m 35 #[.val (.int x0), .val (.int x1), .val (.int x2), .val (.int x3), .val (.int x4), .val (.int x5), .val (.int x6), .val (.int x7), .val (.long x8), .second] []))
      refine OwnOut.go (fun t k => XS.iloadN X0.here hx rfl (hb hby d9_35) rfl k) ?_
      show OwnOut p e s below 0 0 _ (T.setTop (mkF m 36 #[.val (.int x0), .val (.int x1), .val (.int x2), .val (.int x3), .val (.int x4), .val (.int x5), .val (.int x6), .val (.int x7), .val (.long x8), .second] [(.int x3)]))
      refine OwnOut.go (fun t k => XS.iloadN X0.here hx rfl (hb hby d9_36) rfl k) ?_
      show OwnOut p e s below 0 0 _ (T.setTop (mkF m 37 #[.val (.int x0), .val (.int x1), .val (.int x2), .val (.int x3), .val (.int x4), .val (.int x5), .val (.int x6), .val (.int x7), .val (.long x8), .second] [(.int x0), (.int x3)]))
      by_cases hc37 : x3 = x0
      · rw [if_pos hc37] at hr
        refine OwnOut.go (fun t k => XS.icmpNo X0.here hx rfl (hb hby d9_37) rfl (XT.ii_ne_f hc37) k) ?_
        show OwnOut p e s below 0 0 _ (T.setTop (mkF m 40 #[.val (.int x0), .val (.int x1), .val (.int x2), .val (.int x3), .val (.int x4), .val (.int x5), .val (.int x6), .val (.int x7), .val (.long x8), .second] []))
        refine OwnOut.go (fun t k => XS.lload X0.here hx rfl (hb hby d9_40) rfl k) ?_
        show OwnOut p e s below 0 0 _ (T.setTop (mkF m 42 #[.val (.int x0), .val (.int x1), .val (.int x2), .val (.int x3), .val (.int x4), .val (.int x5), .val (.int x6), .val (.int x7), .val (.long x8), .second] [(.long x8)]))
        refine OwnOut.go (fun t k => XT.lconstV X0.here hx rfl (1 : Int64) (hb hby d9_42) rfl k) ?_
        show OwnOut p e s below 0 0 _ (T.setTop (mkF m 43 #[.val (.int x0), .val (.int x1), .val (.int x2), .val (.int x3), .val (.int x4), .val (.int x5), .val (.int x6), .val (.int x7), .val (.long x8), .second] [(.long (1 : Int64)), (.long x8)]))
        refine OwnOut.go (fun t k => XS.ladd X0.here hx rfl (hb hby d9_43) rfl k) ?_
        show OwnOut p e s below 0 0 _ (T.setTop (mkF m 44 #[.val (.int x0), .val (.int x1), .val (.int x2), .val (.int x3), .val (.int x4), .val (.int x5), .val (.int x6), .val (.int x7), .val (.long x8), .second] [(.long (x8 + (1 : Int64)))]))
        refine OwnOut.go (fun t k => XS.lstore X0.here hx rfl (hb hby d9_44) rfl (l' := #[.val (.int x0), .val (.int x1), .val (.int x2), .val (.int x3), .val (.int x4), .val (.int x5), .val (.int x6), .val (.int x7), .val (.long (x8 + (1 : Int64))), .second]) rfl k) ?_
        show OwnOut p e s below 0 0 _ (T.setTop (mkF m 46 #[.val (.int x0), .val (.int x1), .val (.int x2), .val (.int x3), .val (.int x4), .val (.int x5), .val (.int x6), .val (.int x7), .val (.long (x8 + (1 : Int64))), .second] []))
        exact w9_46 ⟨hx, hZ, hw, hby, hml, hown, hret, hlk, hnm⟩  _ x0 x1 x2 x3 x4 x5 x6 x7 (x8 + (1 : Int64)) _ hr X0 e0
      · rw [if_neg hc37] at hr
        refine OwnOut.go (fun t k => XS.icmpYes X0.here hx rfl (pc0 := 37) (pc' := 46) rfl (hb hby d9_37) rfl (XT.ii_ne_t hc37) (by decide) (by decide) k) ?_
        show OwnOut p e s below 0 0 _ (T.setTop (mkF m 46 #[.val (.int x0), .val (.int x1), .val (.int x2), .val (.int x3), .val (.int x4), .val (.int x5), .val (.int x6), .val (.int x7), .val (.long x8), .second] []))
        exact w9_46 ⟨hx, hZ, hw, hby, hml, hown, hret, hlk, hnm⟩  _ x0 x1 x2 x3 x4 x5 x6 x7 x8 _ hr X0 e0
def f9_14 (x0 : Int32) (x2 : Int32) (x3 : Int32) (x4 : Int32) (x5 : Int32) (x6 : Int32) (x7 : Int32) (x8 : Int64) : Option (Int64) := (if x5 = (0 : Int32) then (f9_30 x0 x3 x4 x6 x7 x8) else (if x2 = x0 then (f9_30 x0 x3 x4 x6 x7 (x8 + (1 : Int64))) else (f9_30 x0 x3 x4 x6 x7 x8)))
set_option maxRecDepth 65536 in
set_option maxHeartbeats 40000000 in
theorem w9_14 {p : Program} {l : Launch} {e : Env} {s : State} {m : MethodId} {args : Array Value} {below : List Frame} {meth : Method} {c : Code} {Z : State} {a0 : Array Value} {h0 : Heap} (C : Cx9 Z a0 p s m meth c) :
    ∀ (T : State) (x0 : Int32) (x1 : Int32) (x2 : Int32) (x3 : Int32) (x4 : Int32) (x5 : Int32) (x6 : Int32) (x7 : Int32) (x8 : Int64) (o : Int64), f9_14 x0 x2 x3 x4 x5 x6 x7 x8 = some o → Stand p l e rx9 s m args below meth c T [] 0 0 → T.heap = h0 →  OwnOut p e s below 0 0 (Q9 Z default default default default default default default default h0 o) (T.setTop (mkF m 14 #[.val (.int x0), .val (.int x1), .val (.int x2), .val (.int x3), .val (.int x4), .val (.int x5), .val (.int x6), .val (.int x7), .val (.long x8), .second] [])) := by
    obtain ⟨hx, hZ, hw, hby, hml, hown, hret, hlk, hnm⟩ := C
    intro T x0 x1 x2 x3 x4 x5 x6 x7 x8 o hr X0 e0
    rw [f9_14] at hr
    refine OwnOut.go (fun t k => XS.iload X0.here hx rfl (hb hby d9_14) rfl k) ?_
    show OwnOut p e s below 0 0 _ (T.setTop (mkF m 16 #[.val (.int x0), .val (.int x1), .val (.int x2), .val (.int x3), .val (.int x4), .val (.int x5), .val (.int x6), .val (.int x7), .val (.long x8), .second] [(.int x5)]))
    by_cases hc16 : x5 = (0 : Int32)
    · rw [if_pos hc16] at hr
      refine OwnOut.go (fun t k => XS.ifYes X0.here hx rfl (pc0 := 16) (pc' := 30) rfl (hb hby d9_16) rfl (XT.i0_eq_t hc16) (by decide) (by decide) k) ?_
      show OwnOut p e s below 0 0 _ (T.setTop (mkF m 30 #[.val (.int x0), .val (.int x1), .val (.int x2), .val (.int x3), .val (.int x4), .val (.int x5), .val (.int x6), .val (.int x7), .val (.long x8), .second] []))
      exact w9_30 ⟨hx, hZ, hw, hby, hml, hown, hret, hlk, hnm⟩  _ x0 x1 x2 x3 x4 x5 x6 x7 x8 _ hr X0 e0
    · rw [if_neg hc16] at hr
      refine OwnOut.go (fun t k => XS.ifNo X0.here hx rfl (hb hby d9_16) rfl (XT.i0_eq_f hc16) k) ?_
      show OwnOut p e s below 0 0 _ (T.setTop (mkF m 19 #[.val (.int x0), .val (.int x1), .val (.int x2), .val (.int x3), .val (.int x4), .val (.int x5), .val (.int x6), .val (.int x7), .val (.long x8), .second] []))
      refine OwnOut.go (fun t k => XS.iloadN X0.here hx rfl (hb hby d9_19) rfl k) ?_
      show OwnOut p e s below 0 0 _ (T.setTop (mkF m 20 #[.val (.int x0), .val (.int x1), .val (.int x2), .val (.int x3), .val (.int x4), .val (.int x5), .val (.int x6), .val (.int x7), .val (.long x8), .second] [(.int x2)]))
      refine OwnOut.go (fun t k => XS.iloadN X0.here hx rfl (hb hby d9_20) rfl k) ?_
      show OwnOut p e s below 0 0 _ (T.setTop (mkF m 21 #[.val (.int x0), .val (.int x1), .val (.int x2), .val (.int x3), .val (.int x4), .val (.int x5), .val (.int x6), .val (.int x7), .val (.long x8), .second] [(.int x0), (.int x2)]))
      by_cases hc21 : x2 = x0
      · rw [if_pos hc21] at hr
        refine OwnOut.go (fun t k => XS.icmpNo X0.here hx rfl (hb hby d9_21) rfl (XT.ii_ne_f hc21) k) ?_
        show OwnOut p e s below 0 0 _ (T.setTop (mkF m 24 #[.val (.int x0), .val (.int x1), .val (.int x2), .val (.int x3), .val (.int x4), .val (.int x5), .val (.int x6), .val (.int x7), .val (.long x8), .second] []))
        refine OwnOut.go (fun t k => XS.lload X0.here hx rfl (hb hby d9_24) rfl k) ?_
        show OwnOut p e s below 0 0 _ (T.setTop (mkF m 26 #[.val (.int x0), .val (.int x1), .val (.int x2), .val (.int x3), .val (.int x4), .val (.int x5), .val (.int x6), .val (.int x7), .val (.long x8), .second] [(.long x8)]))
        refine OwnOut.go (fun t k => XT.lconstV X0.here hx rfl (1 : Int64) (hb hby d9_26) rfl k) ?_
        show OwnOut p e s below 0 0 _ (T.setTop (mkF m 27 #[.val (.int x0), .val (.int x1), .val (.int x2), .val (.int x3), .val (.int x4), .val (.int x5), .val (.int x6), .val (.int x7), .val (.long x8), .second] [(.long (1 : Int64)), (.long x8)]))
        refine OwnOut.go (fun t k => XS.ladd X0.here hx rfl (hb hby d9_27) rfl k) ?_
        show OwnOut p e s below 0 0 _ (T.setTop (mkF m 28 #[.val (.int x0), .val (.int x1), .val (.int x2), .val (.int x3), .val (.int x4), .val (.int x5), .val (.int x6), .val (.int x7), .val (.long x8), .second] [(.long (x8 + (1 : Int64)))]))
        refine OwnOut.go (fun t k => XS.lstore X0.here hx rfl (hb hby d9_28) rfl (l' := #[.val (.int x0), .val (.int x1), .val (.int x2), .val (.int x3), .val (.int x4), .val (.int x5), .val (.int x6), .val (.int x7), .val (.long (x8 + (1 : Int64))), .second]) rfl k) ?_
        show OwnOut p e s below 0 0 _ (T.setTop (mkF m 30 #[.val (.int x0), .val (.int x1), .val (.int x2), .val (.int x3), .val (.int x4), .val (.int x5), .val (.int x6), .val (.int x7), .val (.long (x8 + (1 : Int64))), .second] []))
        exact w9_30 ⟨hx, hZ, hw, hby, hml, hown, hret, hlk, hnm⟩  _ x0 x1 x2 x3 x4 x5 x6 x7 (x8 + (1 : Int64)) _ hr X0 e0
      · rw [if_neg hc21] at hr
        refine OwnOut.go (fun t k => XS.icmpYes X0.here hx rfl (pc0 := 21) (pc' := 30) rfl (hb hby d9_21) rfl (XT.ii_ne_t hc21) (by decide) (by decide) k) ?_
        show OwnOut p e s below 0 0 _ (T.setTop (mkF m 30 #[.val (.int x0), .val (.int x1), .val (.int x2), .val (.int x3), .val (.int x4), .val (.int x5), .val (.int x6), .val (.int x7), .val (.long x8), .second] []))
        exact w9_30 ⟨hx, hZ, hw, hby, hml, hown, hret, hlk, hnm⟩  _ x0 x1 x2 x3 x4 x5 x6 x7 x8 _ hr X0 e0
def f9 (x0 : Int32) (x1 : Int32) (x2 : Int32) (x3 : Int32) (x4 : Int32) (x5 : Int32) (x6 : Int32) (x7 : Int32) : Option (Int64) := (if x1 = x0 then (f9_14 x0 x2 x3 x4 x5 x6 x7 ((0 : Int64) + (1 : Int64))) else (f9_14 x0 x2 x3 x4 x5 x6 x7 (0 : Int64)))
set_option maxRecDepth 65536 in
set_option maxHeartbeats 40000000 in
theorem w9_0 {p : Program} {l : Launch} {e : Env} {s : State} {m : MethodId} {args : Array Value} {below : List Frame} {meth : Method} {c : Code} {Z : State} {a0 : Array Value} {h0 : Heap} (C : Cx9 Z a0 p s m meth c) :
    ∀ (T : State) (x0 : Int32) (x1 : Int32) (x2 : Int32) (x3 : Int32) (x4 : Int32) (x5 : Int32) (x6 : Int32) (x7 : Int32) (o : Int64), f9 x0 x1 x2 x3 x4 x5 x6 x7 = some o → Stand p l e rx9 s m args below meth c T [] 0 0 → T.heap = h0 →  OwnOut p e s below 0 0 (Q9 Z default default default default default default default default h0 o) (T.setTop (mkF m 0 #[.val (.int x0), .val (.int x1), .val (.int x2), .val (.int x3), .val (.int x4), .val (.int x5), .val (.int x6), .val (.int x7), .unset, .unset] [])) := by
    obtain ⟨hx, hZ, hw, hby, hml, hown, hret, hlk, hnm⟩ := C
    intro T x0 x1 x2 x3 x4 x5 x6 x7 o hr X0 e0
    rw [f9] at hr
    refine OwnOut.go (fun t k => XT.lconstV X0.here hx rfl (0 : Int64) (hb hby d9_0) rfl k) ?_
    show OwnOut p e s below 0 0 _ (T.setTop (mkF m 1 #[.val (.int x0), .val (.int x1), .val (.int x2), .val (.int x3), .val (.int x4), .val (.int x5), .val (.int x6), .val (.int x7), .unset, .unset] [(.long (0 : Int64))]))
    refine OwnOut.go (fun t k => XS.lstore X0.here hx rfl (hb hby d9_1) rfl (l' := #[.val (.int x0), .val (.int x1), .val (.int x2), .val (.int x3), .val (.int x4), .val (.int x5), .val (.int x6), .val (.int x7), .val (.long (0 : Int64)), .second]) rfl k) ?_
    show OwnOut p e s below 0 0 _ (T.setTop (mkF m 3 #[.val (.int x0), .val (.int x1), .val (.int x2), .val (.int x3), .val (.int x4), .val (.int x5), .val (.int x6), .val (.int x7), .val (.long (0 : Int64)), .second] []))
    refine OwnOut.go (fun t k => XS.iloadN X0.here hx rfl (hb hby d9_3) rfl k) ?_
    show OwnOut p e s below 0 0 _ (T.setTop (mkF m 4 #[.val (.int x0), .val (.int x1), .val (.int x2), .val (.int x3), .val (.int x4), .val (.int x5), .val (.int x6), .val (.int x7), .val (.long (0 : Int64)), .second] [(.int x1)]))
    refine OwnOut.go (fun t k => XS.iloadN X0.here hx rfl (hb hby d9_4) rfl k) ?_
    show OwnOut p e s below 0 0 _ (T.setTop (mkF m 5 #[.val (.int x0), .val (.int x1), .val (.int x2), .val (.int x3), .val (.int x4), .val (.int x5), .val (.int x6), .val (.int x7), .val (.long (0 : Int64)), .second] [(.int x0), (.int x1)]))
    by_cases hc5 : x1 = x0
    · rw [if_pos hc5] at hr
      refine OwnOut.go (fun t k => XS.icmpNo X0.here hx rfl (hb hby d9_5) rfl (XT.ii_ne_f hc5) k) ?_
      show OwnOut p e s below 0 0 _ (T.setTop (mkF m 8 #[.val (.int x0), .val (.int x1), .val (.int x2), .val (.int x3), .val (.int x4), .val (.int x5), .val (.int x6), .val (.int x7), .val (.long (0 : Int64)), .second] []))
      refine OwnOut.go (fun t k => XS.lload X0.here hx rfl (hb hby d9_8) rfl k) ?_
      show OwnOut p e s below 0 0 _ (T.setTop (mkF m 10 #[.val (.int x0), .val (.int x1), .val (.int x2), .val (.int x3), .val (.int x4), .val (.int x5), .val (.int x6), .val (.int x7), .val (.long (0 : Int64)), .second] [(.long (0 : Int64))]))
      refine OwnOut.go (fun t k => XT.lconstV X0.here hx rfl (1 : Int64) (hb hby d9_10) rfl k) ?_
      show OwnOut p e s below 0 0 _ (T.setTop (mkF m 11 #[.val (.int x0), .val (.int x1), .val (.int x2), .val (.int x3), .val (.int x4), .val (.int x5), .val (.int x6), .val (.int x7), .val (.long (0 : Int64)), .second] [(.long (1 : Int64)), (.long (0 : Int64))]))
      refine OwnOut.go (fun t k => XS.ladd X0.here hx rfl (hb hby d9_11) rfl k) ?_
      show OwnOut p e s below 0 0 _ (T.setTop (mkF m 12 #[.val (.int x0), .val (.int x1), .val (.int x2), .val (.int x3), .val (.int x4), .val (.int x5), .val (.int x6), .val (.int x7), .val (.long (0 : Int64)), .second] [(.long ((0 : Int64) + (1 : Int64)))]))
      refine OwnOut.go (fun t k => XS.lstore X0.here hx rfl (hb hby d9_12) rfl (l' := #[.val (.int x0), .val (.int x1), .val (.int x2), .val (.int x3), .val (.int x4), .val (.int x5), .val (.int x6), .val (.int x7), .val (.long ((0 : Int64) + (1 : Int64))), .second]) rfl k) ?_
      show OwnOut p e s below 0 0 _ (T.setTop (mkF m 14 #[.val (.int x0), .val (.int x1), .val (.int x2), .val (.int x3), .val (.int x4), .val (.int x5), .val (.int x6), .val (.int x7), .val (.long ((0 : Int64) + (1 : Int64))), .second] []))
      exact w9_14 ⟨hx, hZ, hw, hby, hml, hown, hret, hlk, hnm⟩  _ x0 x1 x2 x3 x4 x5 x6 x7 ((0 : Int64) + (1 : Int64)) _ hr X0 e0
    · rw [if_neg hc5] at hr
      refine OwnOut.go (fun t k => XS.icmpYes X0.here hx rfl (pc0 := 5) (pc' := 14) rfl (hb hby d9_5) rfl (XT.ii_ne_t hc5) (by decide) (by decide) k) ?_
      show OwnOut p e s below 0 0 _ (T.setTop (mkF m 14 #[.val (.int x0), .val (.int x1), .val (.int x2), .val (.int x3), .val (.int x4), .val (.int x5), .val (.int x6), .val (.int x7), .val (.long (0 : Int64)), .second] []))
      exact w9_14 ⟨hx, hZ, hw, hby, hml, hown, hret, hlk, hnm⟩  _ x0 x1 x2 x3 x4 x5 x6 x7 (0 : Int64) _ hr X0 e0
set_option maxRecDepth 65536 in
set_option maxHeartbeats 40000000 in
theorem rm9 (l : Launch) (Z : State) (a0 : Array Value) (hw : ∀ d ∈ tables_1, d.before a0 Z = true) (ws : List Jvm.Cond) (x0 : Int32) (x1 : Int32) (x2 : Int32) (x3 : Int32) (x4 : Int32) (x5 : Int32) (x6 : Int32) (x7 : Int32) (h0 : Heap) (o : Int64) (hr : f9 x0 x1 x2 x3 x4 x5 x6 x7 = some o) :
    MetFree l (⟨"com/example/sinogrid/sinogrid/LuminanceGridHistogramPinLaw", "count", "(IIIIIZZZ)J"⟩ : MethodName) (head1 (Jvm.Cond.code (⟨"com/example/sinogrid/sinogrid/LuminanceGridHistogramPinLaw", "count", "(IIIIIZZZ)J"⟩ : MethodName) method_3_code 10 (some .long) :: ws) rx9) (fun a U => a = #[(.int x0), (.int x1), (.int x2), (.int x3), (.int x4), (.int x5), (.int x6), (.int x7)] ∧ Z.Warmed39 U.vm ∧ U.heap = h0) (fun _ _ _ _ _ => True) (fun _ U o' U' => ∃ v L, o' = .returned v ∧ Q9 Z x0 x1 x2 x3 x4 x5 x6 x7 h0 o v U'.heap L ∧ FrameEnd U o' U' L rx9.cells rx9.slots) := by
  refine MetFree.of_bodySF (plainFor_of_name pn9) hisR ?_
  intro p e s m args below meth c s₁ Bd hml0 hP hK
  obtain ⟨rfl, hZ, hh⟩ := hP
  have X0 : Stand p l e rx9 s m #[(.int x0), (.int x1), (.int x2), (.int x3), (.int x4), (.int x5), (.int x6), (.int x7)] below meth c s₁ [] 0 0 := Stand.of_body Bd
  have e0 : s₁.heap = h0 := by rw [← hh, Bd.state]; rfl
  exact OwnOut.at (ef9 m x0 x1 x2 x3 x4 x5 x6 x7) (w9_0 ⟨Bd.exec, hZ, hw, Bd.bytes, hml0, findClass_of_methodNamed Bd.named, Bd.returns, Bd.notSynchronized, (name_of_methodNamed Bd.named Bd.method).1⟩ _ x0 x1 x2 x3 x4 x5 x6 x7 o hr X0 e0  )
-- body 0 as 0: com/example/sinogrid/sinogrid/LuminanceGridHistogramPinLaw.law:(IIIIII)Z
theorem pn0 : plainName "com/example/sinogrid/sinogrid/LuminanceGridHistogramPinLaw" = true := by first | (simp [plainName, overriddenIn]; done) | decide +kernel
theorem pd0 : parseMethodDescriptor "(IIIIII)Z" = some ⟨[.int, .int, .int, .int, .int, .int], some .boolean⟩ := by decide +kernel
theorem ef0 (m : MethodId) (x0 : Int32) (x1 : Int32) (x2 : Int32) (x3 : Int32) (x4 : Int32) (x5 : Int32) : entryFrame m #[(.int x0), (.int x1), (.int x2), (.int x3), (.int x4), (.int x5)] maxLocals = mkF m 0 #[.val (.int x0), .val (.int x1), .val (.int x2), .val (.int x3), .val (.int x4), .val (.int x5), .unset, .unset, .unset, .unset, .unset, .unset, .unset, .unset, .unset, .unset, .unset, .unset, .unset, .unset] [] := by first | (simp [entryFrame, mkF, argsToLocals, Value.category, maxLocals]; done) | rfl
abbrev Cx0 (Z : State) (a0 : Array Value) (p : Program) (s : State) (m : MethodId) (meth : Method) (c : Code) : Prop := p.tables.exec = Jvm.exec ∧ Z.Warmed39 s.vm ∧ (∀ d ∈ tables_1, d.before a0 Z = true) ∧ c.code = code ∧ c.maxLocals = 20 ∧ s.vm.findClass "com/example/sinogrid/sinogrid/LuminanceGridHistogramPinLaw" = some m.cls ∧ meth.sig.returnType = (some .boolean) ∧ meth.locks = false ∧ meth.name = "law"
def Q0 (Z : State) (x0 : Int32) (x1 : Int32) (x2 : Int32) (x3 : Int32) (x4 : Int32) (x5 : Int32) (h0 : Heap) (n0 : Nat) (o : Int32) (v : Option Value) (h : Heap) (L : List Loc) : Prop := v = some (.int o) ∧ Fr n0 L
def f0_428 (y0 : Int32) : Option (Int32) := some ((y0 &&& 1))
set_option maxRecDepth 65536 in
set_option maxHeartbeats 40000000 in
theorem w0_428 {p : Program} {l : Launch} {e : Env} {s : State} {m : MethodId} {args : Array Value} {below : List Frame} {meth : Method} {c : Code} {Z : State} {a0 : Array Value} {h0 : Heap} {n0 : Nat} (C : Cx0 Z a0 p s m meth c) :
    ∀ (T : State) (locs : List Loc) (hA : Heap) (x0 : Int32) (x1 : Int32) (x2 : Int32) (x3 : Int32) (x4 : Int32) (x5 : Int32) (x6 : Int32) (x7 : Int32) (x8 : Int32) (x9 : Int32) (x10 : Int32) (x11 : Int32) (x12 : Int32) (x13 : Int32) (x14 : Int32) (x17 : Int32) (x18 : Int32) (x19 : Int32) (y0 : Int32) (b0 : Addr) (u0_width : Int32) (u0_height : Int32) (b1 : Addr) (l1 : List Int32) (b2 : Addr) (l2 : List Int64) (o : Int32), f0_428 y0 = some o → Stand p l e room_1 s m args below meth c T locs 3 263 → T.heap = hA → Fr n0 locs → Old Z n0 hA → Keep h0 hA [] → (Exa Z hA b0 "com/example/sinogrid/sinogrid/LuminanceGrid") → (Fld Z hA b0 "com/example/sinogrid/sinogrid/LuminanceGrid" "width" "I" (.int u0_width)) → (Fld Z hA b0 "com/example/sinogrid/sinogrid/LuminanceGrid" "height" "I" (.int u0_height)) → (Fld Z hA b0 "com/example/sinogrid/sinogrid/LuminanceGrid" "values" "[B" (.ref b1)) → (Ari Z hA b1 .byte l1) → (Arj Z hA b2 l2) → (n0 ≤ b0) → (h0.size ≤ b0) → (n0 ≤ b1) → (h0.size ≤ b1) → (n0 ≤ b2) → (h0.size ≤ b2) → (b0 ≠ b1) → (b0 ≠ b2) → (b1 ≠ b2) →  OwnOut p e s below 16 640 (Q0 Z default default default default default default h0 n0 o) (T.setTop (mkF m 428 #[.val (.int x0), .val (.int x1), .val (.int x2), .val (.int x3), .val (.int x4), .val (.int x5), .val (.int x6), .val (.int x7), .val (.int x8), .val (.int x9), .val (.int x10), .val (.int x11), .val (.int x12), .val (.int x13), .val (.int x14), .val (.ref b0), .val (.ref b2), .val (.int x17), .val (.int x18), .val (.int x19)] [(.int y0)])) := by
    obtain ⟨hx, hZ, hw, hby, hml, hown, hret, hlk, hnm⟩ := C
    intro T locs hA x0 x1 x2 x3 x4 x5 x6 x7 x8 x9 x10 x11 x12 x13 x14 x17 x18 x19 y0 b0 u0_width u0_height b1 l1 b2 l2 o hr X0 e0 N0 O0 K0 E0 F0_width F0_height F0_values A1 A2 g0 z0 g1 z1 g2 z2 ne0_1 ne0_2 ne1_2
    rw [f0_428] at hr
    refine OwnOut.go (fun t k => XS.istore X0.here hx rfl (hb hby at_428) rfl (l' := #[.val (.int x0), .val (.int x1), .val (.int x2), .val (.int x3), .val (.int x4), .val (.int x5), .val (.int x6), .val (.int x7), .val (.int x8), .val (.int x9), .val (.int x10), .val (.int x11), .val (.int x12), .val (.int x13), .val (.int x14), .val (.ref b0), .val (.ref b2), .val (.int x17), .val (.int x18), .val (.int y0)]) rfl k) ?_
    show OwnOut p e s below 16 640 _ (T.setTop (mkF m 430 #[.val (.int x0), .val (.int x1), .val (.int x2), .val (.int x3), .val (.int x4), .val (.int x5), .val (.int x6), .val (.int x7), .val (.int x8), .val (.int x9), .val (.int x10), .val (.int x11), .val (.int x12), .val (.int x13), .val (.int x14), .val (.ref b0), .val (.ref b2), .val (.int x17), .val (.int x18), .val (.int y0)] []))
    refine OwnOut.go (fun t k => XS.iload X0.here hx rfl (hb hby at_430) rfl k) ?_
    show OwnOut p e s below 16 640 _ (T.setTop (mkF m 432 #[.val (.int x0), .val (.int x1), .val (.int x2), .val (.int x3), .val (.int x4), .val (.int x5), .val (.int x6), .val (.int x7), .val (.int x8), .val (.int x9), .val (.int x10), .val (.int x11), .val (.int x12), .val (.int x13), .val (.int x14), .val (.ref b0), .val (.ref b2), .val (.int x17), .val (.int x18), .val (.int y0)] [(.int y0)]))
    cases hr
    exact outZ X0 hx hret (hb hby at_432) hlk (by decide) (by decide) ⟨rfl, N0⟩
def f0_427  : Option (Int32) := (f0_428 (0 : Int32))
set_option maxRecDepth 65536 in
set_option maxHeartbeats 40000000 in
theorem w0_427 {p : Program} {l : Launch} {e : Env} {s : State} {m : MethodId} {args : Array Value} {below : List Frame} {meth : Method} {c : Code} {Z : State} {a0 : Array Value} {h0 : Heap} {n0 : Nat} (C : Cx0 Z a0 p s m meth c) :
    ∀ (T : State) (locs : List Loc) (hA : Heap) (x0 : Int32) (x1 : Int32) (x2 : Int32) (x3 : Int32) (x4 : Int32) (x5 : Int32) (x6 : Int32) (x7 : Int32) (x8 : Int32) (x9 : Int32) (x10 : Int32) (x11 : Int32) (x12 : Int32) (x13 : Int32) (x14 : Int32) (x17 : Int32) (x18 : Int32) (x19 : Int32) (b0 : Addr) (u0_width : Int32) (u0_height : Int32) (b1 : Addr) (l1 : List Int32) (b2 : Addr) (l2 : List Int64) (o : Int32), f0_427 = some o → Stand p l e room_1 s m args below meth c T locs 3 263 → T.heap = hA → Fr n0 locs → Old Z n0 hA → Keep h0 hA [] → (Exa Z hA b0 "com/example/sinogrid/sinogrid/LuminanceGrid") → (Fld Z hA b0 "com/example/sinogrid/sinogrid/LuminanceGrid" "width" "I" (.int u0_width)) → (Fld Z hA b0 "com/example/sinogrid/sinogrid/LuminanceGrid" "height" "I" (.int u0_height)) → (Fld Z hA b0 "com/example/sinogrid/sinogrid/LuminanceGrid" "values" "[B" (.ref b1)) → (Ari Z hA b1 .byte l1) → (Arj Z hA b2 l2) → (n0 ≤ b0) → (h0.size ≤ b0) → (n0 ≤ b1) → (h0.size ≤ b1) → (n0 ≤ b2) → (h0.size ≤ b2) → (b0 ≠ b1) → (b0 ≠ b2) → (b1 ≠ b2) →  OwnOut p e s below 16 640 (Q0 Z default default default default default default h0 n0 o) (T.setTop (mkF m 427 #[.val (.int x0), .val (.int x1), .val (.int x2), .val (.int x3), .val (.int x4), .val (.int x5), .val (.int x6), .val (.int x7), .val (.int x8), .val (.int x9), .val (.int x10), .val (.int x11), .val (.int x12), .val (.int x13), .val (.int x14), .val (.ref b0), .val (.ref b2), .val (.int x17), .val (.int x18), .val (.int x19)] [])) := by
    obtain ⟨hx, hZ, hw, hby, hml, hown, hret, hlk, hnm⟩ := C
    intro T locs hA x0 x1 x2 x3 x4 x5 x6 x7 x8 x9 x10 x11 x12 x13 x14 x17 x18 x19 b0 u0_width u0_height b1 l1 b2 l2 o hr X0 e0 N0 O0 K0 E0 F0_width F0_height F0_values A1 A2 g0 z0 g1 z1 g2 z2 ne0_1 ne0_2 ne1_2
    rw [f0_427] at hr
    refine OwnOut.go (fun t k => XT.iconstV X0.here hx rfl (0 : Int32) (hb hby at_427) rfl k) ?_
    show OwnOut p e s below 16 640 _ (T.setTop (mkF m 428 #[.val (.int x0), .val (.int x1), .val (.int x2), .val (.int x3), .val (.int x4), .val (.int x5), .val (.int x6), .val (.int x7), .val (.int x8), .val (.int x9), .val (.int x10), .val (.int x11), .val (.int x12), .val (.int x13), .val (.int x14), .val (.ref b0), .val (.ref b2), .val (.int x17), .val (.int x18), .val (.int x19)] [(.int (0 : Int32))]))
    exact w0_428 ⟨hx, hZ, hw, hby, hml, hown, hret, hlk, hnm⟩  _ _ _ x0 x1 x2 x3 x4 x5 x6 x7 x8 x9 x10 x11 x12 x13 x14 x17 x18 x19 (0 : Int32) b0 u0_width u0_height b1 l1 b2 l2 _ hr X0 e0 N0 O0 K0 E0 F0_width F0_height F0_values A1 A2 g0 z0 g1 z1 g2 z2 ne0_1 ne0_2 ne1_2
def f0_388 (x8 : Int32) (x9 : Int32) (x10 : Int32) (x11 : Int32) (x12 : Int32) (x13 : Int32) (x14 : Int32) (x18 : Int32) (y0 : Int32) (l2 : List Int64) : Option (Int32) := (if y0 = (0 : Int32) then (f0_427 ) else ((ldx l2 x18).bind fun v7 => ((f9 x18 x8 x9 x10 x11 x12 x13 x14).bind fun o8 => (if v7 = o8 then (f0_428 (1 : Int32)) else (f0_427 )))))
set_option maxRecDepth 65536 in
set_option maxHeartbeats 40000000 in
theorem w0_388 {p : Program} {l : Launch} {e : Env} {s : State} {m : MethodId} {args : Array Value} {below : List Frame} {meth : Method} {c : Code} {Z : State} {a0 : Array Value} {h0 : Heap} {n0 : Nat} (C : Cx0 Z a0 p s m meth c) :
    ∀ (T : State) (locs : List Loc) (hA : Heap) (x0 : Int32) (x1 : Int32) (x2 : Int32) (x3 : Int32) (x4 : Int32) (x5 : Int32) (x6 : Int32) (x7 : Int32) (x8 : Int32) (x9 : Int32) (x10 : Int32) (x11 : Int32) (x12 : Int32) (x13 : Int32) (x14 : Int32) (x17 : Int32) (x18 : Int32) (x19 : Int32) (y0 : Int32) (b0 : Addr) (u0_width : Int32) (u0_height : Int32) (b1 : Addr) (l1 : List Int32) (b2 : Addr) (l2 : List Int64) (o : Int32), f0_388 x8 x9 x10 x11 x12 x13 x14 x18 y0 l2 = some o → Stand p l e room_1 s m args below meth c T locs 3 263 → T.heap = hA → Fr n0 locs → Old Z n0 hA → Keep h0 hA [] → (Exa Z hA b0 "com/example/sinogrid/sinogrid/LuminanceGrid") → (Fld Z hA b0 "com/example/sinogrid/sinogrid/LuminanceGrid" "width" "I" (.int u0_width)) → (Fld Z hA b0 "com/example/sinogrid/sinogrid/LuminanceGrid" "height" "I" (.int u0_height)) → (Fld Z hA b0 "com/example/sinogrid/sinogrid/LuminanceGrid" "values" "[B" (.ref b1)) → (Ari Z hA b1 .byte l1) → (Arj Z hA b2 l2) → (n0 ≤ b0) → (h0.size ≤ b0) → (n0 ≤ b1) → (h0.size ≤ b1) → (n0 ≤ b2) → (h0.size ≤ b2) → (b0 ≠ b1) → (b0 ≠ b2) → (b1 ≠ b2) →  OwnOut p e s below 16 640 (Q0 Z default default default default default default h0 n0 o) (T.setTop (mkF m 388 #[.val (.int x0), .val (.int x1), .val (.int x2), .val (.int x3), .val (.int x4), .val (.int x5), .val (.int x6), .val (.int x7), .val (.int x8), .val (.int x9), .val (.int x10), .val (.int x11), .val (.int x12), .val (.int x13), .val (.int x14), .val (.ref b0), .val (.ref b2), .val (.int x17), .val (.int x18), .val (.int x19)] [(.int y0)])) := by
    obtain ⟨hx, hZ, hw, hby, hml, hown, hret, hlk, hnm⟩ := C
    intro T locs hA x0 x1 x2 x3 x4 x5 x6 x7 x8 x9 x10 x11 x12 x13 x14 x17 x18 x19 y0 b0 u0_width u0_height b1 l1 b2 l2 o hr X0 e0 N0 O0 K0 E0 F0_width F0_height F0_values A1 A2 g0 z0 g1 z1 g2 z2 ne0_1 ne0_2 ne1_2
    rw [f0_388] at hr
    refine OwnOut.go (fun t k => XS.istore X0.here hx rfl (hb hby at_388) rfl (l' := #[.val (.int x0), .val (.int x1), .val (.int x2), .val (.int x3), .val (.int x4), .val (.int x5), .val (.int x6), .val (.int x7), .val (.int x8), .val (.int x9), .val (.int x10), .val (.int x11), .val (.int x12), .val (.int x13), .val (.int x14), .val (.ref b0), .val (.ref b2), .val (.int x17), .val (.int x18), .val (.int y0)]) rfl k) ?_
    show OwnOut p e s below 16 640 _ (T.setTop (mkF m 390 #[.val (.int x0), .val (.int x1), .val (.int x2), .val (.int x3), .val (.int x4), .val (.int x5), .val (.int x6), .val (.int x7), .val (.int x8), .val (.int x9), .val (.int x10), .val (.int x11), .val (.int x12), .val (.int x13), .val (.int x14), .val (.ref b0), .val (.ref b2), .val (.int x17), .val (.int x18), .val (.int y0)] []))
    refine OwnOut.go (fun t k => XS.iload X0.here hx rfl (hb hby at_390) rfl k) ?_
    show OwnOut p e s below 16 640 _ (T.setTop (mkF m 392 #[.val (.int x0), .val (.int x1), .val (.int x2), .val (.int x3), .val (.int x4), .val (.int x5), .val (.int x6), .val (.int x7), .val (.int x8), .val (.int x9), .val (.int x10), .val (.int x11), .val (.int x12), .val (.int x13), .val (.int x14), .val (.ref b0), .val (.ref b2), .val (.int x17), .val (.int x18), .val (.int y0)] [(.int y0)]))
    by_cases hc392 : y0 = (0 : Int32)
    · rw [if_pos hc392] at hr
      refine OwnOut.go (fun t k => XS.ifYes X0.here hx rfl (pc0 := 392) (pc' := 427) rfl (hb hby at_392) rfl (XT.i0_eq_t hc392) (by decide) (by decide) k) ?_
      show OwnOut p e s below 16 640 _ (T.setTop (mkF m 427 #[.val (.int x0), .val (.int x1), .val (.int x2), .val (.int x3), .val (.int x4), .val (.int x5), .val (.int x6), .val (.int x7), .val (.int x8), .val (.int x9), .val (.int x10), .val (.int x11), .val (.int x12), .val (.int x13), .val (.int x14), .val (.ref b0), .val (.ref b2), .val (.int x17), .val (.int x18), .val (.int y0)] []))
      exact w0_427 ⟨hx, hZ, hw, hby, hml, hown, hret, hlk, hnm⟩  _ _ _ x0 x1 x2 x3 x4 x5 x6 x7 x8 x9 x10 x11 x12 x13 x14 x17 x18 y0 b0 u0_width u0_height b1 l1 b2 l2 _ hr X0 e0 N0 O0 K0 E0 F0_width F0_height F0_values A1 A2 g0 z0 g1 z1 g2 z2 ne0_1 ne0_2 ne1_2
    · rw [if_neg hc392] at hr
      refine OwnOut.go (fun t k => XS.ifNo X0.here hx rfl (hb hby at_392) rfl (XT.i0_eq_f hc392) k) ?_
      show OwnOut p e s below 16 640 _ (T.setTop (mkF m 395 #[.val (.int x0), .val (.int x1), .val (.int x2), .val (.int x3), .val (.int x4), .val (.int x5), .val (.int x6), .val (.int x7), .val (.int x8), .val (.int x9), .val (.int x10), .val (.int x11), .val (.int x12), .val (.int x13), .val (.int x14), .val (.ref b0), .val (.ref b2), .val (.int x17), .val (.int x18), .val (.int y0)] []))
      refine OwnOut.go (fun t k => XS.aload X0.here hx rfl (hb hby at_395) rfl rfl k) ?_
      show OwnOut p e s below 16 640 _ (T.setTop (mkF m 397 #[.val (.int x0), .val (.int x1), .val (.int x2), .val (.int x3), .val (.int x4), .val (.int x5), .val (.int x6), .val (.int x7), .val (.int x8), .val (.int x9), .val (.int x10), .val (.int x11), .val (.int x12), .val (.int x13), .val (.int x14), .val (.ref b0), .val (.ref b2), .val (.int x17), .val (.int x18), .val (.int y0)] [(.ref b2)]))
      refine OwnOut.go (fun t k => XS.iload X0.here hx rfl (hb hby at_397) rfl k) ?_
      show OwnOut p e s below 16 640 _ (T.setTop (mkF m 399 #[.val (.int x0), .val (.int x1), .val (.int x2), .val (.int x3), .val (.int x4), .val (.int x5), .val (.int x6), .val (.int x7), .val (.int x8), .val (.int x9), .val (.int x10), .val (.int x11), .val (.int x12), .val (.int x13), .val (.int x14), .val (.ref b0), .val (.ref b2), .val (.int x17), .val (.int x18), .val (.int y0)] [(.int x18), (.ref b2)]))
      obtain ⟨v7, hv7, hr⟩ := Option.bind_eq_some_iff.mp hr
      refine OwnOut.go (fun t k => ldJ X0 hx hZ e0 A2 hv7 (g := (mkF m 399 #[.val (.int x0), .val (.int x1), .val (.int x2), .val (.int x3), .val (.int x4), .val (.int x5), .val (.int x6), .val (.int x7), .val (.int x8), .val (.int x9), .val (.int x10), .val (.int x11), .val (.int x12), .val (.int x13), .val (.int x14), .val (.ref b0), .val (.ref b2), .val (.int x17), .val (.int x18), .val (.int y0)] [(.int x18), (.ref b2)])) rfl rfl (hb hby at_399) t k) ?_
      show OwnOut p e s below 16 640 _ (T.setTop (mkF m 400 #[.val (.int x0), .val (.int x1), .val (.int x2), .val (.int x3), .val (.int x4), .val (.int x5), .val (.int x6), .val (.int x7), .val (.int x8), .val (.int x9), .val (.int x10), .val (.int x11), .val (.int x12), .val (.int x13), .val (.int x14), .val (.ref b0), .val (.ref b2), .val (.int x17), .val (.int x18), .val (.int y0)] [(.long v7)]))
      refine OwnOut.go (fun t k => XS.iload X0.here hx rfl (hb hby at_400) rfl k) ?_
      show OwnOut p e s below 16 640 _ (T.setTop (mkF m 402 #[.val (.int x0), .val (.int x1), .val (.int x2), .val (.int x3), .val (.int x4), .val (.int x5), .val (.int x6), .val (.int x7), .val (.int x8), .val (.int x9), .val (.int x10), .val (.int x11), .val (.int x12), .val (.int x13), .val (.int x14), .val (.ref b0), .val (.ref b2), .val (.int x17), .val (.int x18), .val (.int y0)] [(.int x18), (.long v7)]))
      refine OwnOut.go (fun t k => XS.iload X0.here hx rfl (hb hby at_402) rfl k) ?_
      show OwnOut p e s below 16 640 _ (T.setTop (mkF m 404 #[.val (.int x0), .val (.int x1), .val (.int x2), .val (.int x3), .val (.int x4), .val (.int x5), .val (.int x6), .val (.int x7), .val (.int x8), .val (.int x9), .val (.int x10), .val (.int x11), .val (.int x12), .val (.int x13), .val (.int x14), .val (.ref b0), .val (.ref b2), .val (.int x17), .val (.int x18), .val (.int y0)] [(.int x8), (.int x18), (.long v7)]))
      refine OwnOut.go (fun t k => XS.iload X0.here hx rfl (hb hby at_404) rfl k) ?_
      show OwnOut p e s below 16 640 _ (T.setTop (mkF m 406 #[.val (.int x0), .val (.int x1), .val (.int x2), .val (.int x3), .val (.int x4), .val (.int x5), .val (.int x6), .val (.int x7), .val (.int x8), .val (.int x9), .val (.int x10), .val (.int x11), .val (.int x12), .val (.int x13), .val (.int x14), .val (.ref b0), .val (.ref b2), .val (.int x17), .val (.int x18), .val (.int y0)] [(.int x9), (.int x8), (.int x18), (.long v7)]))
      refine OwnOut.go (fun t k => XS.iload X0.here hx rfl (hb hby at_406) rfl k) ?_
      show OwnOut p e s below 16 640 _ (T.setTop (mkF m 408 #[.val (.int x0), .val (.int x1), .val (.int x2), .val (.int x3), .val (.int x4), .val (.int x5), .val (.int x6), .val (.int x7), .val (.int x8), .val (.int x9), .val (.int x10), .val (.int x11), .val (.int x12), .val (.int x13), .val (.int x14), .val (.ref b0), .val (.ref b2), .val (.int x17), .val (.int x18), .val (.int y0)] [(.int x10), (.int x9), (.int x8), (.int x18), (.long v7)]))
      refine OwnOut.go (fun t k => XS.iload X0.here hx rfl (hb hby at_408) rfl k) ?_
      show OwnOut p e s below 16 640 _ (T.setTop (mkF m 410 #[.val (.int x0), .val (.int x1), .val (.int x2), .val (.int x3), .val (.int x4), .val (.int x5), .val (.int x6), .val (.int x7), .val (.int x8), .val (.int x9), .val (.int x10), .val (.int x11), .val (.int x12), .val (.int x13), .val (.int x14), .val (.ref b0), .val (.ref b2), .val (.int x17), .val (.int x18), .val (.int y0)] [(.int x11), (.int x10), (.int x9), (.int x8), (.int x18), (.long v7)]))
      refine OwnOut.go (fun t k => XS.iload X0.here hx rfl (hb hby at_410) rfl k) ?_
      show OwnOut p e s below 16 640 _ (T.setTop (mkF m 412 #[.val (.int x0), .val (.int x1), .val (.int x2), .val (.int x3), .val (.int x4), .val (.int x5), .val (.int x6), .val (.int x7), .val (.int x8), .val (.int x9), .val (.int x10), .val (.int x11), .val (.int x12), .val (.int x13), .val (.int x14), .val (.ref b0), .val (.ref b2), .val (.int x17), .val (.int x18), .val (.int y0)] [(.int x12), (.int x11), (.int x10), (.int x9), (.int x8), (.int x18), (.long v7)]))
      refine OwnOut.go (fun t k => XS.iload X0.here hx rfl (hb hby at_412) rfl k) ?_
      show OwnOut p e s below 16 640 _ (T.setTop (mkF m 414 #[.val (.int x0), .val (.int x1), .val (.int x2), .val (.int x3), .val (.int x4), .val (.int x5), .val (.int x6), .val (.int x7), .val (.int x8), .val (.int x9), .val (.int x10), .val (.int x11), .val (.int x12), .val (.int x13), .val (.int x14), .val (.ref b0), .val (.ref b2), .val (.int x17), .val (.int x18), .val (.int y0)] [(.int x13), (.int x12), (.int x11), (.int x10), (.int x9), (.int x8), (.int x18), (.long v7)]))
      refine OwnOut.go (fun t k => XS.iload X0.here hx rfl (hb hby at_414) rfl k) ?_
      show OwnOut p e s below 16 640 _ (T.setTop (mkF m 416 #[.val (.int x0), .val (.int x1), .val (.int x2), .val (.int x3), .val (.int x4), .val (.int x5), .val (.int x6), .val (.int x7), .val (.int x8), .val (.int x9), .val (.int x10), .val (.int x11), .val (.int x12), .val (.int x13), .val (.int x14), .val (.ref b0), .val (.ref b2), .val (.int x17), .val (.int x18), .val (.int y0)] [(.int x14), (.int x13), (.int x12), (.int x11), (.int x10), (.int x9), (.int x8), (.int x18), (.long v7)]))
      obtain ⟨o8, ho8, hr⟩ := Option.bind_eq_some_iff.mp hr
      obtain ⟨r8, T8, L8, X8', hQ8, st8⟩ := callQ (W := 2) (rm := rx9) X0 hx hZ (y := (⟨"com/example/sinogrid/sinogrid/LuminanceGridHistogramPinLaw", "count", "(IIIIIZZZ)J"⟩ : MethodName)) hown (hw _ (List.mem_of_getElem? (i := 44) rfl)) (hw _ (List.mem_of_getElem? (i := 45) rfl)) (hw _ (List.mem_of_getElem? (i := 46) rfl)) (hw _ (List.mem_of_getElem? (i := 47) rfl)) (by decide) (rm9 l Z a0 hw [] x18 x8 x9 x10 x11 x12 x13 x14 hA o8 ho8 ) (by decide) (by decide) (by decide) (by decide) e0 (g := (mkF m 416 #[.val (.int x0), .val (.int x1), .val (.int x2), .val (.int x3), .val (.int x4), .val (.int x5), .val (.int x6), .val (.int x7), .val (.int x8), .val (.int x9), .val (.int x10), .val (.int x11), .val (.int x12), .val (.int x13), .val (.int x14), .val (.ref b0), .val (.ref b2), .val (.int x17), .val (.int x18), .val (.int y0)] [(.int x14), (.int x13), (.int x12), (.int x11), (.int x10), (.int x9), (.int x8), (.int x18), (.long v7)])) rfl (by rw [hml]; rfl) (argsL := [(.int x18), (.int x8), (.int x9), (.int x10), (.int x11), (.int x12), (.int x13), (.int x14)]) (rest := [(.long v7)]) (lenOf pd9 rfl) rfl (by show 2 * 0 + _ ≤ _; exact Nat.le_of_eq rfl) (hb hby at_416)
      obtain ⟨rfl, e8, rfl⟩ := hQ8
      rw [List.append_nil] at X8'
      have X8 : Stand p l e room_1 s m args below meth c T8 _ 3 263 := X8'
      refine OwnOut.go (fun t k => st8 _ k) ?_
      show OwnOut p e s below 16 640 _ (T8.setTop (mkF m 419 #[.val (.int x0), .val (.int x1), .val (.int x2), .val (.int x3), .val (.int x4), .val (.int x5), .val (.int x6), .val (.int x7), .val (.int x8), .val (.int x9), .val (.int x10), .val (.int x11), .val (.int x12), .val (.int x13), .val (.int x14), .val (.ref b0), .val (.ref b2), .val (.int x17), .val (.int x18), .val (.int y0)] [(.long o8), (.long v7)]))
      refine OwnOut.go (fun t k => XS.lcmp X8.here hx rfl (hb hby at_419) rfl k) ?_
      show OwnOut p e s below 16 640 _ (T8.setTop (mkF m 420 #[.val (.int x0), .val (.int x1), .val (.int x2), .val (.int x3), .val (.int x4), .val (.int x5), .val (.int x6), .val (.int x7), .val (.int x8), .val (.int x9), .val (.int x10), .val (.int x11), .val (.int x12), .val (.int x13), .val (.int x14), .val (.ref b0), .val (.ref b2), .val (.int x17), .val (.int x18), .val (.int y0)] [(.int (XT.cmpL v7 o8))]))
      by_cases hc420 : v7 = o8
      · rw [if_pos hc420] at hr
        refine OwnOut.go (fun t k => XS.ifNo X8.here hx rfl (hb hby at_420) rfl (XT.ll_ne_f hc420) k) ?_
        show OwnOut p e s below 16 640 _ (T8.setTop (mkF m 423 #[.val (.int x0), .val (.int x1), .val (.int x2), .val (.int x3), .val (.int x4), .val (.int x5), .val (.int x6), .val (.int x7), .val (.int x8), .val (.int x9), .val (.int x10), .val (.int x11), .val (.int x12), .val (.int x13), .val (.int x14), .val (.ref b0), .val (.ref b2), .val (.int x17), .val (.int x18), .val (.int y0)] []))
        refine OwnOut.go (fun t k => XT.iconstV X8.here hx rfl (1 : Int32) (hb hby at_423) rfl k) ?_
        show OwnOut p e s below 16 640 _ (T8.setTop (mkF m 424 #[.val (.int x0), .val (.int x1), .val (.int x2), .val (.int x3), .val (.int x4), .val (.int x5), .val (.int x6), .val (.int x7), .val (.int x8), .val (.int x9), .val (.int x10), .val (.int x11), .val (.int x12), .val (.int x13), .val (.int x14), .val (.ref b0), .val (.ref b2), .val (.int x17), .val (.int x18), .val (.int y0)] [(.int (1 : Int32))]))
        refine OwnOut.go (fun t k => XS.goto X8.here hx rfl (pc0 := 424) (pc' := 428) rfl (hb hby at_424) (by decide) (by decide) k) ?_
        show OwnOut p e s below 16 640 _ (T8.setTop (mkF m 428 #[.val (.int x0), .val (.int x1), .val (.int x2), .val (.int x3), .val (.int x4), .val (.int x5), .val (.int x6), .val (.int x7), .val (.int x8), .val (.int x9), .val (.int x10), .val (.int x11), .val (.int x12), .val (.int x13), .val (.int x14), .val (.ref b0), .val (.ref b2), .val (.int x17), .val (.int x18), .val (.int y0)] [(.int (1 : Int32))]))
        exact w0_428 ⟨hx, hZ, hw, hby, hml, hown, hret, hlk, hnm⟩  _ _ _ x0 x1 x2 x3 x4 x5 x6 x7 x8 x9 x10 x11 x12 x13 x14 x17 x18 y0 (1 : Int32) b0 u0_width u0_height b1 l1 b2 l2 _ hr X8 e8 N0 O0 K0 E0 F0_width F0_height F0_values A1 A2 g0 z0 g1 z1 g2 z2 ne0_1 ne0_2 ne1_2
      · rw [if_neg hc420] at hr
        refine OwnOut.go (fun t k => XS.ifYes X8.here hx rfl (pc0 := 420) (pc' := 427) rfl (hb hby at_420) rfl (XT.ll_ne_t hc420) (by decide) (by decide) k) ?_
        show OwnOut p e s below 16 640 _ (T8.setTop (mkF m 427 #[.val (.int x0), .val (.int x1), .val (.int x2), .val (.int x3), .val (.int x4), .val (.int x5), .val (.int x6), .val (.int x7), .val (.int x8), .val (.int x9), .val (.int x10), .val (.int x11), .val (.int x12), .val (.int x13), .val (.int x14), .val (.ref b0), .val (.ref b2), .val (.int x17), .val (.int x18), .val (.int y0)] []))
        exact w0_427 ⟨hx, hZ, hw, hby, hml, hown, hret, hlk, hnm⟩  _ _ _ x0 x1 x2 x3 x4 x5 x6 x7 x8 x9 x10 x11 x12 x13 x14 x17 x18 y0 b0 u0_width u0_height b1 l1 b2 l2 _ hr X8 e8 N0 O0 K0 E0 F0_width F0_height F0_values A1 A2 g0 z0 g1 z1 g2 z2 ne0_1 ne0_2 ne1_2
def f0_387 (x8 : Int32) (x9 : Int32) (x10 : Int32) (x11 : Int32) (x12 : Int32) (x13 : Int32) (x14 : Int32) (x18 : Int32) (l2 : List Int64) : Option (Int32) := (f0_388 x8 x9 x10 x11 x12 x13 x14 x18 (0 : Int32) l2)
set_option maxRecDepth 65536 in
set_option maxHeartbeats 40000000 in
theorem w0_387 {p : Program} {l : Launch} {e : Env} {s : State} {m : MethodId} {args : Array Value} {below : List Frame} {meth : Method} {c : Code} {Z : State} {a0 : Array Value} {h0 : Heap} {n0 : Nat} (C : Cx0 Z a0 p s m meth c) :
    ∀ (T : State) (locs : List Loc) (hA : Heap) (x0 : Int32) (x1 : Int32) (x2 : Int32) (x3 : Int32) (x4 : Int32) (x5 : Int32) (x6 : Int32) (x7 : Int32) (x8 : Int32) (x9 : Int32) (x10 : Int32) (x11 : Int32) (x12 : Int32) (x13 : Int32) (x14 : Int32) (x17 : Int32) (x18 : Int32) (x19 : Int32) (b0 : Addr) (u0_width : Int32) (u0_height : Int32) (b1 : Addr) (l1 : List Int32) (b2 : Addr) (l2 : List Int64) (o : Int32), f0_387 x8 x9 x10 x11 x12 x13 x14 x18 l2 = some o → Stand p l e room_1 s m args below meth c T locs 3 263 → T.heap = hA → Fr n0 locs → Old Z n0 hA → Keep h0 hA [] → (Exa Z hA b0 "com/example/sinogrid/sinogrid/LuminanceGrid") → (Fld Z hA b0 "com/example/sinogrid/sinogrid/LuminanceGrid" "width" "I" (.int u0_width)) → (Fld Z hA b0 "com/example/sinogrid/sinogrid/LuminanceGrid" "height" "I" (.int u0_height)) → (Fld Z hA b0 "com/example/sinogrid/sinogrid/LuminanceGrid" "values" "[B" (.ref b1)) → (Ari Z hA b1 .byte l1) → (Arj Z hA b2 l2) → (n0 ≤ b0) → (h0.size ≤ b0) → (n0 ≤ b1) → (h0.size ≤ b1) → (n0 ≤ b2) → (h0.size ≤ b2) → (b0 ≠ b1) → (b0 ≠ b2) → (b1 ≠ b2) →  OwnOut p e s below 16 640 (Q0 Z default default default default default default h0 n0 o) (T.setTop (mkF m 387 #[.val (.int x0), .val (.int x1), .val (.int x2), .val (.int x3), .val (.int x4), .val (.int x5), .val (.int x6), .val (.int x7), .val (.int x8), .val (.int x9), .val (.int x10), .val (.int x11), .val (.int x12), .val (.int x13), .val (.int x14), .val (.ref b0), .val (.ref b2), .val (.int x17), .val (.int x18), .val (.int x19)] [])) := by
    obtain ⟨hx, hZ, hw, hby, hml, hown, hret, hlk, hnm⟩ := C
    intro T locs hA x0 x1 x2 x3 x4 x5 x6 x7 x8 x9 x10 x11 x12 x13 x14 x17 x18 x19 b0 u0_width u0_height b1 l1 b2 l2 o hr X0 e0 N0 O0 K0 E0 F0_width F0_height F0_values A1 A2 g0 z0 g1 z1 g2 z2 ne0_1 ne0_2 ne1_2
    rw [f0_387] at hr
    refine OwnOut.go (fun t k => XT.iconstV X0.here hx rfl (0 : Int32) (hb hby at_387) rfl k) ?_
    show OwnOut p e s below 16 640 _ (T.setTop (mkF m 388 #[.val (.int x0), .val (.int x1), .val (.int x2), .val (.int x3), .val (.int x4), .val (.int x5), .val (.int x6), .val (.int x7), .val (.int x8), .val (.int x9), .val (.int x10), .val (.int x11), .val (.int x12), .val (.int x13), .val (.int x14), .val (.ref b0), .val (.ref b2), .val (.int x17), .val (.int x18), .val (.int x19)] [(.int (0 : Int32))]))
    exact w0_388 ⟨hx, hZ, hw, hby, hml, hown, hret, hlk, hnm⟩  _ _ _ x0 x1 x2 x3 x4 x5 x6 x7 x8 x9 x10 x11 x12 x13 x14 x17 x18 x19 (0 : Int32) b0 u0_width u0_height b1 l1 b2 l2 _ hr X0 e0 N0 O0 K0 E0 F0_width F0_height F0_values A1 A2 g0 z0 g1 z1 g2 z2 ne0_1 ne0_2 ne1_2
def f0_348 (x8 : Int32) (x9 : Int32) (x10 : Int32) (x11 : Int32) (x12 : Int32) (x13 : Int32) (x14 : Int32) (x17 : Int32) (x18 : Int32) (y0 : Int32) (l2 : List Int64) : Option (Int32) := (if y0 = (0 : Int32) then (f0_387 x8 x9 x10 x11 x12 x13 x14 x18 l2) else ((ldx l2 x17).bind fun v9 => ((f9 x17 x8 x9 x10 x11 x12 x13 x14).bind fun o10 => (if v9 = o10 then (f0_388 x8 x9 x10 x11 x12 x13 x14 x18 (1 : Int32) l2) else (f0_387 x8 x9 x10 x11 x12 x13 x14 x18 l2)))))
set_option maxRecDepth 65536 in
set_option maxHeartbeats 40000000 in
theorem w0_348 {p : Program} {l : Launch} {e : Env} {s : State} {m : MethodId} {args : Array Value} {below : List Frame} {meth : Method} {c : Code} {Z : State} {a0 : Array Value} {h0 : Heap} {n0 : Nat} (C : Cx0 Z a0 p s m meth c) :
    ∀ (T : State) (locs : List Loc) (hA : Heap) (x0 : Int32) (x1 : Int32) (x2 : Int32) (x3 : Int32) (x4 : Int32) (x5 : Int32) (x6 : Int32) (x7 : Int32) (x8 : Int32) (x9 : Int32) (x10 : Int32) (x11 : Int32) (x12 : Int32) (x13 : Int32) (x14 : Int32) (x17 : Int32) (x18 : Int32) (x19 : Int32) (y0 : Int32) (b0 : Addr) (u0_width : Int32) (u0_height : Int32) (b1 : Addr) (l1 : List Int32) (b2 : Addr) (l2 : List Int64) (o : Int32), f0_348 x8 x9 x10 x11 x12 x13 x14 x17 x18 y0 l2 = some o → Stand p l e room_1 s m args below meth c T locs 3 263 → T.heap = hA → Fr n0 locs → Old Z n0 hA → Keep h0 hA [] → (Exa Z hA b0 "com/example/sinogrid/sinogrid/LuminanceGrid") → (Fld Z hA b0 "com/example/sinogrid/sinogrid/LuminanceGrid" "width" "I" (.int u0_width)) → (Fld Z hA b0 "com/example/sinogrid/sinogrid/LuminanceGrid" "height" "I" (.int u0_height)) → (Fld Z hA b0 "com/example/sinogrid/sinogrid/LuminanceGrid" "values" "[B" (.ref b1)) → (Ari Z hA b1 .byte l1) → (Arj Z hA b2 l2) → (n0 ≤ b0) → (h0.size ≤ b0) → (n0 ≤ b1) → (h0.size ≤ b1) → (n0 ≤ b2) → (h0.size ≤ b2) → (b0 ≠ b1) → (b0 ≠ b2) → (b1 ≠ b2) →  OwnOut p e s below 16 640 (Q0 Z default default default default default default h0 n0 o) (T.setTop (mkF m 348 #[.val (.int x0), .val (.int x1), .val (.int x2), .val (.int x3), .val (.int x4), .val (.int x5), .val (.int x6), .val (.int x7), .val (.int x8), .val (.int x9), .val (.int x10), .val (.int x11), .val (.int x12), .val (.int x13), .val (.int x14), .val (.ref b0), .val (.ref b2), .val (.int x17), .val (.int x18), .val (.int x19)] [(.int y0)])) := by
    obtain ⟨hx, hZ, hw, hby, hml, hown, hret, hlk, hnm⟩ := C
    intro T locs hA x0 x1 x2 x3 x4 x5 x6 x7 x8 x9 x10 x11 x12 x13 x14 x17 x18 x19 y0 b0 u0_width u0_height b1 l1 b2 l2 o hr X0 e0 N0 O0 K0 E0 F0_width F0_height F0_values A1 A2 g0 z0 g1 z1 g2 z2 ne0_1 ne0_2 ne1_2
    rw [f0_348] at hr
    refine OwnOut.go (fun t k => XS.istore X0.here hx rfl (hb hby at_348) rfl (l' := #[.val (.int x0), .val (.int x1), .val (.int x2), .val (.int x3), .val (.int x4), .val (.int x5), .val (.int x6), .val (.int x7), .val (.int x8), .val (.int x9), .val (.int x10), .val (.int x11), .val (.int x12), .val (.int x13), .val (.int x14), .val (.ref b0), .val (.ref b2), .val (.int x17), .val (.int x18), .val (.int y0)]) rfl k) ?_
    show OwnOut p e s below 16 640 _ (T.setTop (mkF m 350 #[.val (.int x0), .val (.int x1), .val (.int x2), .val (.int x3), .val (.int x4), .val (.int x5), .val (.int x6), .val (.int x7), .val (.int x8), .val (.int x9), .val (.int x10), .val (.int x11), .val (.int x12), .val (.int x13), .val (.int x14), .val (.ref b0), .val (.ref b2), .val (.int x17), .val (.int x18), .val (.int y0)] []))
    refine OwnOut.go (fun t k => XS.iload X0.here hx rfl (hb hby at_350) rfl k) ?_
    show OwnOut p e s below 16 640 _ (T.setTop (mkF m 352 #[.val (.int x0), .val (.int x1), .val (.int x2), .val (.int x3), .val (.int x4), .val (.int x5), .val (.int x6), .val (.int x7), .val (.int x8), .val (.int x9), .val (.int x10), .val (.int x11), .val (.int x12), .val (.int x13), .val (.int x14), .val (.ref b0), .val (.ref b2), .val (.int x17), .val (.int x18), .val (.int y0)] [(.int y0)]))
    by_cases hc352 : y0 = (0 : Int32)
    · rw [if_pos hc352] at hr
      refine OwnOut.go (fun t k => XS.ifYes X0.here hx rfl (pc0 := 352) (pc' := 387) rfl (hb hby at_352) rfl (XT.i0_eq_t hc352) (by decide) (by decide) k) ?_
      show OwnOut p e s below 16 640 _ (T.setTop (mkF m 387 #[.val (.int x0), .val (.int x1), .val (.int x2), .val (.int x3), .val (.int x4), .val (.int x5), .val (.int x6), .val (.int x7), .val (.int x8), .val (.int x9), .val (.int x10), .val (.int x11), .val (.int x12), .val (.int x13), .val (.int x14), .val (.ref b0), .val (.ref b2), .val (.int x17), .val (.int x18), .val (.int y0)] []))
      exact w0_387 ⟨hx, hZ, hw, hby, hml, hown, hret, hlk, hnm⟩  _ _ _ x0 x1 x2 x3 x4 x5 x6 x7 x8 x9 x10 x11 x12 x13 x14 x17 x18 y0 b0 u0_width u0_height b1 l1 b2 l2 _ hr X0 e0 N0 O0 K0 E0 F0_width F0_height F0_values A1 A2 g0 z0 g1 z1 g2 z2 ne0_1 ne0_2 ne1_2
    · rw [if_neg hc352] at hr
      refine OwnOut.go (fun t k => XS.ifNo X0.here hx rfl (hb hby at_352) rfl (XT.i0_eq_f hc352) k) ?_
      show OwnOut p e s below 16 640 _ (T.setTop (mkF m 355 #[.val (.int x0), .val (.int x1), .val (.int x2), .val (.int x3), .val (.int x4), .val (.int x5), .val (.int x6), .val (.int x7), .val (.int x8), .val (.int x9), .val (.int x10), .val (.int x11), .val (.int x12), .val (.int x13), .val (.int x14), .val (.ref b0), .val (.ref b2), .val (.int x17), .val (.int x18), .val (.int y0)] []))
      refine OwnOut.go (fun t k => XS.aload X0.here hx rfl (hb hby at_355) rfl rfl k) ?_
      show OwnOut p e s below 16 640 _ (T.setTop (mkF m 357 #[.val (.int x0), .val (.int x1), .val (.int x2), .val (.int x3), .val (.int x4), .val (.int x5), .val (.int x6), .val (.int x7), .val (.int x8), .val (.int x9), .val (.int x10), .val (.int x11), .val (.int x12), .val (.int x13), .val (.int x14), .val (.ref b0), .val (.ref b2), .val (.int x17), .val (.int x18), .val (.int y0)] [(.ref b2)]))
      refine OwnOut.go (fun t k => XS.iload X0.here hx rfl (hb hby at_357) rfl k) ?_
      show OwnOut p e s below 16 640 _ (T.setTop (mkF m 359 #[.val (.int x0), .val (.int x1), .val (.int x2), .val (.int x3), .val (.int x4), .val (.int x5), .val (.int x6), .val (.int x7), .val (.int x8), .val (.int x9), .val (.int x10), .val (.int x11), .val (.int x12), .val (.int x13), .val (.int x14), .val (.ref b0), .val (.ref b2), .val (.int x17), .val (.int x18), .val (.int y0)] [(.int x17), (.ref b2)]))
      obtain ⟨v9, hv9, hr⟩ := Option.bind_eq_some_iff.mp hr
      refine OwnOut.go (fun t k => ldJ X0 hx hZ e0 A2 hv9 (g := (mkF m 359 #[.val (.int x0), .val (.int x1), .val (.int x2), .val (.int x3), .val (.int x4), .val (.int x5), .val (.int x6), .val (.int x7), .val (.int x8), .val (.int x9), .val (.int x10), .val (.int x11), .val (.int x12), .val (.int x13), .val (.int x14), .val (.ref b0), .val (.ref b2), .val (.int x17), .val (.int x18), .val (.int y0)] [(.int x17), (.ref b2)])) rfl rfl (hb hby at_359) t k) ?_
      show OwnOut p e s below 16 640 _ (T.setTop (mkF m 360 #[.val (.int x0), .val (.int x1), .val (.int x2), .val (.int x3), .val (.int x4), .val (.int x5), .val (.int x6), .val (.int x7), .val (.int x8), .val (.int x9), .val (.int x10), .val (.int x11), .val (.int x12), .val (.int x13), .val (.int x14), .val (.ref b0), .val (.ref b2), .val (.int x17), .val (.int x18), .val (.int y0)] [(.long v9)]))
      refine OwnOut.go (fun t k => XS.iload X0.here hx rfl (hb hby at_360) rfl k) ?_
      show OwnOut p e s below 16 640 _ (T.setTop (mkF m 362 #[.val (.int x0), .val (.int x1), .val (.int x2), .val (.int x3), .val (.int x4), .val (.int x5), .val (.int x6), .val (.int x7), .val (.int x8), .val (.int x9), .val (.int x10), .val (.int x11), .val (.int x12), .val (.int x13), .val (.int x14), .val (.ref b0), .val (.ref b2), .val (.int x17), .val (.int x18), .val (.int y0)] [(.int x17), (.long v9)]))
      refine OwnOut.go (fun t k => XS.iload X0.here hx rfl (hb hby at_362) rfl k) ?_
      show OwnOut p e s below 16 640 _ (T.setTop (mkF m 364 #[.val (.int x0), .val (.int x1), .val (.int x2), .val (.int x3), .val (.int x4), .val (.int x5), .val (.int x6), .val (.int x7), .val (.int x8), .val (.int x9), .val (.int x10), .val (.int x11), .val (.int x12), .val (.int x13), .val (.int x14), .val (.ref b0), .val (.ref b2), .val (.int x17), .val (.int x18), .val (.int y0)] [(.int x8), (.int x17), (.long v9)]))
      refine OwnOut.go (fun t k => XS.iload X0.here hx rfl (hb hby at_364) rfl k) ?_
      show OwnOut p e s below 16 640 _ (T.setTop (mkF m 366 #[.val (.int x0), .val (.int x1), .val (.int x2), .val (.int x3), .val (.int x4), .val (.int x5), .val (.int x6), .val (.int x7), .val (.int x8), .val (.int x9), .val (.int x10), .val (.int x11), .val (.int x12), .val (.int x13), .val (.int x14), .val (.ref b0), .val (.ref b2), .val (.int x17), .val (.int x18), .val (.int y0)] [(.int x9), (.int x8), (.int x17), (.long v9)]))
      refine OwnOut.go (fun t k => XS.iload X0.here hx rfl (hb hby at_366) rfl k) ?_
      show OwnOut p e s below 16 640 _ (T.setTop (mkF m 368 #[.val (.int x0), .val (.int x1), .val (.int x2), .val (.int x3), .val (.int x4), .val (.int x5), .val (.int x6), .val (.int x7), .val (.int x8), .val (.int x9), .val (.int x10), .val (.int x11), .val (.int x12), .val (.int x13), .val (.int x14), .val (.ref b0), .val (.ref b2), .val (.int x17), .val (.int x18), .val (.int y0)] [(.int x10), (.int x9), (.int x8), (.int x17), (.long v9)]))
      refine OwnOut.go (fun t k => XS.iload X0.here hx rfl (hb hby at_368) rfl k) ?_
      show OwnOut p e s below 16 640 _ (T.setTop (mkF m 370 #[.val (.int x0), .val (.int x1), .val (.int x2), .val (.int x3), .val (.int x4), .val (.int x5), .val (.int x6), .val (.int x7), .val (.int x8), .val (.int x9), .val (.int x10), .val (.int x11), .val (.int x12), .val (.int x13), .val (.int x14), .val (.ref b0), .val (.ref b2), .val (.int x17), .val (.int x18), .val (.int y0)] [(.int x11), (.int x10), (.int x9), (.int x8), (.int x17), (.long v9)]))
      refine OwnOut.go (fun t k => XS.iload X0.here hx rfl (hb hby at_370) rfl k) ?_
      show OwnOut p e s below 16 640 _ (T.setTop (mkF m 372 #[.val (.int x0), .val (.int x1), .val (.int x2), .val (.int x3), .val (.int x4), .val (.int x5), .val (.int x6), .val (.int x7), .val (.int x8), .val (.int x9), .val (.int x10), .val (.int x11), .val (.int x12), .val (.int x13), .val (.int x14), .val (.ref b0), .val (.ref b2), .val (.int x17), .val (.int x18), .val (.int y0)] [(.int x12), (.int x11), (.int x10), (.int x9), (.int x8), (.int x17), (.long v9)]))
      refine OwnOut.go (fun t k => XS.iload X0.here hx rfl (hb hby at_372) rfl k) ?_
      show OwnOut p e s below 16 640 _ (T.setTop (mkF m 374 #[.val (.int x0), .val (.int x1), .val (.int x2), .val (.int x3), .val (.int x4), .val (.int x5), .val (.int x6), .val (.int x7), .val (.int x8), .val (.int x9), .val (.int x10), .val (.int x11), .val (.int x12), .val (.int x13), .val (.int x14), .val (.ref b0), .val (.ref b2), .val (.int x17), .val (.int x18), .val (.int y0)] [(.int x13), (.int x12), (.int x11), (.int x10), (.int x9), (.int x8), (.int x17), (.long v9)]))
      refine OwnOut.go (fun t k => XS.iload X0.here hx rfl (hb hby at_374) rfl k) ?_
      show OwnOut p e s below 16 640 _ (T.setTop (mkF m 376 #[.val (.int x0), .val (.int x1), .val (.int x2), .val (.int x3), .val (.int x4), .val (.int x5), .val (.int x6), .val (.int x7), .val (.int x8), .val (.int x9), .val (.int x10), .val (.int x11), .val (.int x12), .val (.int x13), .val (.int x14), .val (.ref b0), .val (.ref b2), .val (.int x17), .val (.int x18), .val (.int y0)] [(.int x14), (.int x13), (.int x12), (.int x11), (.int x10), (.int x9), (.int x8), (.int x17), (.long v9)]))
      obtain ⟨o10, ho10, hr⟩ := Option.bind_eq_some_iff.mp hr
      obtain ⟨r10, T10, L10, X10', hQ10, st10⟩ := callQ (W := 2) (rm := rx9) X0 hx hZ (y := (⟨"com/example/sinogrid/sinogrid/LuminanceGridHistogramPinLaw", "count", "(IIIIIZZZ)J"⟩ : MethodName)) hown (hw _ (List.mem_of_getElem? (i := 44) rfl)) (hw _ (List.mem_of_getElem? (i := 45) rfl)) (hw _ (List.mem_of_getElem? (i := 46) rfl)) (hw _ (List.mem_of_getElem? (i := 47) rfl)) (by decide) (rm9 l Z a0 hw [] x17 x8 x9 x10 x11 x12 x13 x14 hA o10 ho10 ) (by decide) (by decide) (by decide) (by decide) e0 (g := (mkF m 376 #[.val (.int x0), .val (.int x1), .val (.int x2), .val (.int x3), .val (.int x4), .val (.int x5), .val (.int x6), .val (.int x7), .val (.int x8), .val (.int x9), .val (.int x10), .val (.int x11), .val (.int x12), .val (.int x13), .val (.int x14), .val (.ref b0), .val (.ref b2), .val (.int x17), .val (.int x18), .val (.int y0)] [(.int x14), (.int x13), (.int x12), (.int x11), (.int x10), (.int x9), (.int x8), (.int x17), (.long v9)])) rfl (by rw [hml]; rfl) (argsL := [(.int x17), (.int x8), (.int x9), (.int x10), (.int x11), (.int x12), (.int x13), (.int x14)]) (rest := [(.long v9)]) (lenOf pd9 rfl) rfl (by show 2 * 0 + _ ≤ _; exact Nat.le_of_eq rfl) (hb hby at_376)
      obtain ⟨rfl, e10, rfl⟩ := hQ10
      rw [List.append_nil] at X10'
      have X10 : Stand p l e room_1 s m args below meth c T10 _ 3 263 := X10'
      refine OwnOut.go (fun t k => st10 _ k) ?_
      show OwnOut p e s below 16 640 _ (T10.setTop (mkF m 379 #[.val (.int x0), .val (.int x1), .val (.int x2), .val (.int x3), .val (.int x4), .val (.int x5), .val (.int x6), .val (.int x7), .val (.int x8), .val (.int x9), .val (.int x10), .val (.int x11), .val (.int x12), .val (.int x13), .val (.int x14), .val (.ref b0), .val (.ref b2), .val (.int x17), .val (.int x18), .val (.int y0)] [(.long o10), (.long v9)]))
      refine OwnOut.go (fun t k => XS.lcmp X10.here hx rfl (hb hby at_379) rfl k) ?_
      show OwnOut p e s below 16 640 _ (T10.setTop (mkF m 380 #[.val (.int x0), .val (.int x1), .val (.int x2), .val (.int x3), .val (.int x4), .val (.int x5), .val (.int x6), .val (.int x7), .val (.int x8), .val (.int x9), .val (.int x10), .val (.int x11), .val (.int x12), .val (.int x13), .val (.int x14), .val (.ref b0), .val (.ref b2), .val (.int x17), .val (.int x18), .val (.int y0)] [(.int (XT.cmpL v9 o10))]))
      by_cases hc380 : v9 = o10
      · rw [if_pos hc380] at hr
        refine OwnOut.go (fun t k => XS.ifNo X10.here hx rfl (hb hby at_380) rfl (XT.ll_ne_f hc380) k) ?_
        show OwnOut p e s below 16 640 _ (T10.setTop (mkF m 383 #[.val (.int x0), .val (.int x1), .val (.int x2), .val (.int x3), .val (.int x4), .val (.int x5), .val (.int x6), .val (.int x7), .val (.int x8), .val (.int x9), .val (.int x10), .val (.int x11), .val (.int x12), .val (.int x13), .val (.int x14), .val (.ref b0), .val (.ref b2), .val (.int x17), .val (.int x18), .val (.int y0)] []))
        refine OwnOut.go (fun t k => XT.iconstV X10.here hx rfl (1 : Int32) (hb hby at_383) rfl k) ?_
        show OwnOut p e s below 16 640 _ (T10.setTop (mkF m 384 #[.val (.int x0), .val (.int x1), .val (.int x2), .val (.int x3), .val (.int x4), .val (.int x5), .val (.int x6), .val (.int x7), .val (.int x8), .val (.int x9), .val (.int x10), .val (.int x11), .val (.int x12), .val (.int x13), .val (.int x14), .val (.ref b0), .val (.ref b2), .val (.int x17), .val (.int x18), .val (.int y0)] [(.int (1 : Int32))]))
        refine OwnOut.go (fun t k => XS.goto X10.here hx rfl (pc0 := 384) (pc' := 388) rfl (hb hby at_384) (by decide) (by decide) k) ?_
        show OwnOut p e s below 16 640 _ (T10.setTop (mkF m 388 #[.val (.int x0), .val (.int x1), .val (.int x2), .val (.int x3), .val (.int x4), .val (.int x5), .val (.int x6), .val (.int x7), .val (.int x8), .val (.int x9), .val (.int x10), .val (.int x11), .val (.int x12), .val (.int x13), .val (.int x14), .val (.ref b0), .val (.ref b2), .val (.int x17), .val (.int x18), .val (.int y0)] [(.int (1 : Int32))]))
        exact w0_388 ⟨hx, hZ, hw, hby, hml, hown, hret, hlk, hnm⟩  _ _ _ x0 x1 x2 x3 x4 x5 x6 x7 x8 x9 x10 x11 x12 x13 x14 x17 x18 y0 (1 : Int32) b0 u0_width u0_height b1 l1 b2 l2 _ hr X10 e10 N0 O0 K0 E0 F0_width F0_height F0_values A1 A2 g0 z0 g1 z1 g2 z2 ne0_1 ne0_2 ne1_2
      · rw [if_neg hc380] at hr
        refine OwnOut.go (fun t k => XS.ifYes X10.here hx rfl (pc0 := 380) (pc' := 387) rfl (hb hby at_380) rfl (XT.ll_ne_t hc380) (by decide) (by decide) k) ?_
        show OwnOut p e s below 16 640 _ (T10.setTop (mkF m 387 #[.val (.int x0), .val (.int x1), .val (.int x2), .val (.int x3), .val (.int x4), .val (.int x5), .val (.int x6), .val (.int x7), .val (.int x8), .val (.int x9), .val (.int x10), .val (.int x11), .val (.int x12), .val (.int x13), .val (.int x14), .val (.ref b0), .val (.ref b2), .val (.int x17), .val (.int x18), .val (.int y0)] []))
        exact w0_387 ⟨hx, hZ, hw, hby, hml, hown, hret, hlk, hnm⟩  _ _ _ x0 x1 x2 x3 x4 x5 x6 x7 x8 x9 x10 x11 x12 x13 x14 x17 x18 y0 b0 u0_width u0_height b1 l1 b2 l2 _ hr X10 e10 N0 O0 K0 E0 F0_width F0_height F0_values A1 A2 g0 z0 g1 z1 g2 z2 ne0_1 ne0_2 ne1_2
def f0_347 (x8 : Int32) (x9 : Int32) (x10 : Int32) (x11 : Int32) (x12 : Int32) (x13 : Int32) (x14 : Int32) (x17 : Int32) (x18 : Int32) (l2 : List Int64) : Option (Int32) := (f0_348 x8 x9 x10 x11 x12 x13 x14 x17 x18 (0 : Int32) l2)
set_option maxRecDepth 65536 in
set_option maxHeartbeats 40000000 in
theorem w0_347 {p : Program} {l : Launch} {e : Env} {s : State} {m : MethodId} {args : Array Value} {below : List Frame} {meth : Method} {c : Code} {Z : State} {a0 : Array Value} {h0 : Heap} {n0 : Nat} (C : Cx0 Z a0 p s m meth c) :
    ∀ (T : State) (locs : List Loc) (hA : Heap) (x0 : Int32) (x1 : Int32) (x2 : Int32) (x3 : Int32) (x4 : Int32) (x5 : Int32) (x6 : Int32) (x7 : Int32) (x8 : Int32) (x9 : Int32) (x10 : Int32) (x11 : Int32) (x12 : Int32) (x13 : Int32) (x14 : Int32) (x17 : Int32) (x18 : Int32) (x19 : Int32) (b0 : Addr) (u0_width : Int32) (u0_height : Int32) (b1 : Addr) (l1 : List Int32) (b2 : Addr) (l2 : List Int64) (o : Int32), f0_347 x8 x9 x10 x11 x12 x13 x14 x17 x18 l2 = some o → Stand p l e room_1 s m args below meth c T locs 3 263 → T.heap = hA → Fr n0 locs → Old Z n0 hA → Keep h0 hA [] → (Exa Z hA b0 "com/example/sinogrid/sinogrid/LuminanceGrid") → (Fld Z hA b0 "com/example/sinogrid/sinogrid/LuminanceGrid" "width" "I" (.int u0_width)) → (Fld Z hA b0 "com/example/sinogrid/sinogrid/LuminanceGrid" "height" "I" (.int u0_height)) → (Fld Z hA b0 "com/example/sinogrid/sinogrid/LuminanceGrid" "values" "[B" (.ref b1)) → (Ari Z hA b1 .byte l1) → (Arj Z hA b2 l2) → (n0 ≤ b0) → (h0.size ≤ b0) → (n0 ≤ b1) → (h0.size ≤ b1) → (n0 ≤ b2) → (h0.size ≤ b2) → (b0 ≠ b1) → (b0 ≠ b2) → (b1 ≠ b2) →  OwnOut p e s below 16 640 (Q0 Z default default default default default default h0 n0 o) (T.setTop (mkF m 347 #[.val (.int x0), .val (.int x1), .val (.int x2), .val (.int x3), .val (.int x4), .val (.int x5), .val (.int x6), .val (.int x7), .val (.int x8), .val (.int x9), .val (.int x10), .val (.int x11), .val (.int x12), .val (.int x13), .val (.int x14), .val (.ref b0), .val (.ref b2), .val (.int x17), .val (.int x18), .val (.int x19)] [])) := by
    obtain ⟨hx, hZ, hw, hby, hml, hown, hret, hlk, hnm⟩ := C
    intro T locs hA x0 x1 x2 x3 x4 x5 x6 x7 x8 x9 x10 x11 x12 x13 x14 x17 x18 x19 b0 u0_width u0_height b1 l1 b2 l2 o hr X0 e0 N0 O0 K0 E0 F0_width F0_height F0_values A1 A2 g0 z0 g1 z1 g2 z2 ne0_1 ne0_2 ne1_2
    rw [f0_347] at hr
    refine OwnOut.go (fun t k => XT.iconstV X0.here hx rfl (0 : Int32) (hb hby at_347) rfl k) ?_
    show OwnOut p e s below 16 640 _ (T.setTop (mkF m 348 #[.val (.int x0), .val (.int x1), .val (.int x2), .val (.int x3), .val (.int x4), .val (.int x5), .val (.int x6), .val (.int x7), .val (.int x8), .val (.int x9), .val (.int x10), .val (.int x11), .val (.int x12), .val (.int x13), .val (.int x14), .val (.ref b0), .val (.ref b2), .val (.int x17), .val (.int x18), .val (.int x19)] [(.int (0 : Int32))]))
    exact w0_348 ⟨hx, hZ, hw, hby, hml, hown, hret, hlk, hnm⟩  _ _ _ x0 x1 x2 x3 x4 x5 x6 x7 x8 x9 x10 x11 x12 x13 x14 x17 x18 x19 (0 : Int32) b0 u0_width u0_height b1 l1 b2 l2 _ hr X0 e0 N0 O0 K0 E0 F0_width F0_height F0_values A1 A2 g0 z0 g1 z1 g2 z2 ne0_1 ne0_2 ne1_2
def f0_308 (x8 : Int32) (x9 : Int32) (x10 : Int32) (x11 : Int32) (x12 : Int32) (x13 : Int32) (x14 : Int32) (x17 : Int32) (x18 : Int32) (y0 : Int32) (l2 : List Int64) : Option (Int32) := (if y0 = (0 : Int32) then (f0_347 x8 x9 x10 x11 x12 x13 x14 x17 x18 l2) else ((ldx l2 x11).bind fun v11 => ((f9 x11 x8 x9 x10 x11 x12 x13 x14).bind fun o12 => (if v11 = o12 then (f0_348 x8 x9 x10 x11 x12 x13 x14 x17 x18 (1 : Int32) l2) else (f0_347 x8 x9 x10 x11 x12 x13 x14 x17 x18 l2)))))
set_option maxRecDepth 65536 in
set_option maxHeartbeats 40000000 in
theorem w0_308 {p : Program} {l : Launch} {e : Env} {s : State} {m : MethodId} {args : Array Value} {below : List Frame} {meth : Method} {c : Code} {Z : State} {a0 : Array Value} {h0 : Heap} {n0 : Nat} (C : Cx0 Z a0 p s m meth c) :
    ∀ (T : State) (locs : List Loc) (hA : Heap) (x0 : Int32) (x1 : Int32) (x2 : Int32) (x3 : Int32) (x4 : Int32) (x5 : Int32) (x6 : Int32) (x7 : Int32) (x8 : Int32) (x9 : Int32) (x10 : Int32) (x11 : Int32) (x12 : Int32) (x13 : Int32) (x14 : Int32) (x17 : Int32) (x18 : Int32) (x19 : Int32) (y0 : Int32) (b0 : Addr) (u0_width : Int32) (u0_height : Int32) (b1 : Addr) (l1 : List Int32) (b2 : Addr) (l2 : List Int64) (o : Int32), f0_308 x8 x9 x10 x11 x12 x13 x14 x17 x18 y0 l2 = some o → Stand p l e room_1 s m args below meth c T locs 3 263 → T.heap = hA → Fr n0 locs → Old Z n0 hA → Keep h0 hA [] → (Exa Z hA b0 "com/example/sinogrid/sinogrid/LuminanceGrid") → (Fld Z hA b0 "com/example/sinogrid/sinogrid/LuminanceGrid" "width" "I" (.int u0_width)) → (Fld Z hA b0 "com/example/sinogrid/sinogrid/LuminanceGrid" "height" "I" (.int u0_height)) → (Fld Z hA b0 "com/example/sinogrid/sinogrid/LuminanceGrid" "values" "[B" (.ref b1)) → (Ari Z hA b1 .byte l1) → (Arj Z hA b2 l2) → (n0 ≤ b0) → (h0.size ≤ b0) → (n0 ≤ b1) → (h0.size ≤ b1) → (n0 ≤ b2) → (h0.size ≤ b2) → (b0 ≠ b1) → (b0 ≠ b2) → (b1 ≠ b2) →  OwnOut p e s below 16 640 (Q0 Z default default default default default default h0 n0 o) (T.setTop (mkF m 308 #[.val (.int x0), .val (.int x1), .val (.int x2), .val (.int x3), .val (.int x4), .val (.int x5), .val (.int x6), .val (.int x7), .val (.int x8), .val (.int x9), .val (.int x10), .val (.int x11), .val (.int x12), .val (.int x13), .val (.int x14), .val (.ref b0), .val (.ref b2), .val (.int x17), .val (.int x18), .val (.int x19)] [(.int y0)])) := by
    obtain ⟨hx, hZ, hw, hby, hml, hown, hret, hlk, hnm⟩ := C
    intro T locs hA x0 x1 x2 x3 x4 x5 x6 x7 x8 x9 x10 x11 x12 x13 x14 x17 x18 x19 y0 b0 u0_width u0_height b1 l1 b2 l2 o hr X0 e0 N0 O0 K0 E0 F0_width F0_height F0_values A1 A2 g0 z0 g1 z1 g2 z2 ne0_1 ne0_2 ne1_2
    rw [f0_308] at hr
    refine OwnOut.go (fun t k => XS.istore X0.here hx rfl (hb hby at_308) rfl (l' := #[.val (.int x0), .val (.int x1), .val (.int x2), .val (.int x3), .val (.int x4), .val (.int x5), .val (.int x6), .val (.int x7), .val (.int x8), .val (.int x9), .val (.int x10), .val (.int x11), .val (.int x12), .val (.int x13), .val (.int x14), .val (.ref b0), .val (.ref b2), .val (.int x17), .val (.int x18), .val (.int y0)]) rfl k) ?_
    show OwnOut p e s below 16 640 _ (T.setTop (mkF m 310 #[.val (.int x0), .val (.int x1), .val (.int x2), .val (.int x3), .val (.int x4), .val (.int x5), .val (.int x6), .val (.int x7), .val (.int x8), .val (.int x9), .val (.int x10), .val (.int x11), .val (.int x12), .val (.int x13), .val (.int x14), .val (.ref b0), .val (.ref b2), .val (.int x17), .val (.int x18), .val (.int y0)] []))
    refine OwnOut.go (fun t k => XS.iload X0.here hx rfl (hb hby at_310) rfl k) ?_
    show OwnOut p e s below 16 640 _ (T.setTop (mkF m 312 #[.val (.int x0), .val (.int x1), .val (.int x2), .val (.int x3), .val (.int x4), .val (.int x5), .val (.int x6), .val (.int x7), .val (.int x8), .val (.int x9), .val (.int x10), .val (.int x11), .val (.int x12), .val (.int x13), .val (.int x14), .val (.ref b0), .val (.ref b2), .val (.int x17), .val (.int x18), .val (.int y0)] [(.int y0)]))
    by_cases hc312 : y0 = (0 : Int32)
    · rw [if_pos hc312] at hr
      refine OwnOut.go (fun t k => XS.ifYes X0.here hx rfl (pc0 := 312) (pc' := 347) rfl (hb hby at_312) rfl (XT.i0_eq_t hc312) (by decide) (by decide) k) ?_
      show OwnOut p e s below 16 640 _ (T.setTop (mkF m 347 #[.val (.int x0), .val (.int x1), .val (.int x2), .val (.int x3), .val (.int x4), .val (.int x5), .val (.int x6), .val (.int x7), .val (.int x8), .val (.int x9), .val (.int x10), .val (.int x11), .val (.int x12), .val (.int x13), .val (.int x14), .val (.ref b0), .val (.ref b2), .val (.int x17), .val (.int x18), .val (.int y0)] []))
      exact w0_347 ⟨hx, hZ, hw, hby, hml, hown, hret, hlk, hnm⟩  _ _ _ x0 x1 x2 x3 x4 x5 x6 x7 x8 x9 x10 x11 x12 x13 x14 x17 x18 y0 b0 u0_width u0_height b1 l1 b2 l2 _ hr X0 e0 N0 O0 K0 E0 F0_width F0_height F0_values A1 A2 g0 z0 g1 z1 g2 z2 ne0_1 ne0_2 ne1_2
    · rw [if_neg hc312] at hr
      refine OwnOut.go (fun t k => XS.ifNo X0.here hx rfl (hb hby at_312) rfl (XT.i0_eq_f hc312) k) ?_
      show OwnOut p e s below 16 640 _ (T.setTop (mkF m 315 #[.val (.int x0), .val (.int x1), .val (.int x2), .val (.int x3), .val (.int x4), .val (.int x5), .val (.int x6), .val (.int x7), .val (.int x8), .val (.int x9), .val (.int x10), .val (.int x11), .val (.int x12), .val (.int x13), .val (.int x14), .val (.ref b0), .val (.ref b2), .val (.int x17), .val (.int x18), .val (.int y0)] []))
      refine OwnOut.go (fun t k => XS.aload X0.here hx rfl (hb hby at_315) rfl rfl k) ?_
      show OwnOut p e s below 16 640 _ (T.setTop (mkF m 317 #[.val (.int x0), .val (.int x1), .val (.int x2), .val (.int x3), .val (.int x4), .val (.int x5), .val (.int x6), .val (.int x7), .val (.int x8), .val (.int x9), .val (.int x10), .val (.int x11), .val (.int x12), .val (.int x13), .val (.int x14), .val (.ref b0), .val (.ref b2), .val (.int x17), .val (.int x18), .val (.int y0)] [(.ref b2)]))
      refine OwnOut.go (fun t k => XS.iload X0.here hx rfl (hb hby at_317) rfl k) ?_
      show OwnOut p e s below 16 640 _ (T.setTop (mkF m 319 #[.val (.int x0), .val (.int x1), .val (.int x2), .val (.int x3), .val (.int x4), .val (.int x5), .val (.int x6), .val (.int x7), .val (.int x8), .val (.int x9), .val (.int x10), .val (.int x11), .val (.int x12), .val (.int x13), .val (.int x14), .val (.ref b0), .val (.ref b2), .val (.int x17), .val (.int x18), .val (.int y0)] [(.int x11), (.ref b2)]))
      obtain ⟨v11, hv11, hr⟩ := Option.bind_eq_some_iff.mp hr
      refine OwnOut.go (fun t k => ldJ X0 hx hZ e0 A2 hv11 (g := (mkF m 319 #[.val (.int x0), .val (.int x1), .val (.int x2), .val (.int x3), .val (.int x4), .val (.int x5), .val (.int x6), .val (.int x7), .val (.int x8), .val (.int x9), .val (.int x10), .val (.int x11), .val (.int x12), .val (.int x13), .val (.int x14), .val (.ref b0), .val (.ref b2), .val (.int x17), .val (.int x18), .val (.int y0)] [(.int x11), (.ref b2)])) rfl rfl (hb hby at_319) t k) ?_
      show OwnOut p e s below 16 640 _ (T.setTop (mkF m 320 #[.val (.int x0), .val (.int x1), .val (.int x2), .val (.int x3), .val (.int x4), .val (.int x5), .val (.int x6), .val (.int x7), .val (.int x8), .val (.int x9), .val (.int x10), .val (.int x11), .val (.int x12), .val (.int x13), .val (.int x14), .val (.ref b0), .val (.ref b2), .val (.int x17), .val (.int x18), .val (.int y0)] [(.long v11)]))
      refine OwnOut.go (fun t k => XS.iload X0.here hx rfl (hb hby at_320) rfl k) ?_
      show OwnOut p e s below 16 640 _ (T.setTop (mkF m 322 #[.val (.int x0), .val (.int x1), .val (.int x2), .val (.int x3), .val (.int x4), .val (.int x5), .val (.int x6), .val (.int x7), .val (.int x8), .val (.int x9), .val (.int x10), .val (.int x11), .val (.int x12), .val (.int x13), .val (.int x14), .val (.ref b0), .val (.ref b2), .val (.int x17), .val (.int x18), .val (.int y0)] [(.int x11), (.long v11)]))
      refine OwnOut.go (fun t k => XS.iload X0.here hx rfl (hb hby at_322) rfl k) ?_
      show OwnOut p e s below 16 640 _ (T.setTop (mkF m 324 #[.val (.int x0), .val (.int x1), .val (.int x2), .val (.int x3), .val (.int x4), .val (.int x5), .val (.int x6), .val (.int x7), .val (.int x8), .val (.int x9), .val (.int x10), .val (.int x11), .val (.int x12), .val (.int x13), .val (.int x14), .val (.ref b0), .val (.ref b2), .val (.int x17), .val (.int x18), .val (.int y0)] [(.int x8), (.int x11), (.long v11)]))
      refine OwnOut.go (fun t k => XS.iload X0.here hx rfl (hb hby at_324) rfl k) ?_
      show OwnOut p e s below 16 640 _ (T.setTop (mkF m 326 #[.val (.int x0), .val (.int x1), .val (.int x2), .val (.int x3), .val (.int x4), .val (.int x5), .val (.int x6), .val (.int x7), .val (.int x8), .val (.int x9), .val (.int x10), .val (.int x11), .val (.int x12), .val (.int x13), .val (.int x14), .val (.ref b0), .val (.ref b2), .val (.int x17), .val (.int x18), .val (.int y0)] [(.int x9), (.int x8), (.int x11), (.long v11)]))
      refine OwnOut.go (fun t k => XS.iload X0.here hx rfl (hb hby at_326) rfl k) ?_
      show OwnOut p e s below 16 640 _ (T.setTop (mkF m 328 #[.val (.int x0), .val (.int x1), .val (.int x2), .val (.int x3), .val (.int x4), .val (.int x5), .val (.int x6), .val (.int x7), .val (.int x8), .val (.int x9), .val (.int x10), .val (.int x11), .val (.int x12), .val (.int x13), .val (.int x14), .val (.ref b0), .val (.ref b2), .val (.int x17), .val (.int x18), .val (.int y0)] [(.int x10), (.int x9), (.int x8), (.int x11), (.long v11)]))
      refine OwnOut.go (fun t k => XS.iload X0.here hx rfl (hb hby at_328) rfl k) ?_
      show OwnOut p e s below 16 640 _ (T.setTop (mkF m 330 #[.val (.int x0), .val (.int x1), .val (.int x2), .val (.int x3), .val (.int x4), .val (.int x5), .val (.int x6), .val (.int x7), .val (.int x8), .val (.int x9), .val (.int x10), .val (.int x11), .val (.int x12), .val (.int x13), .val (.int x14), .val (.ref b0), .val (.ref b2), .val (.int x17), .val (.int x18), .val (.int y0)] [(.int x11), (.int x10), (.int x9), (.int x8), (.int x11), (.long v11)]))
      refine OwnOut.go (fun t k => XS.iload X0.here hx rfl (hb hby at_330) rfl k) ?_
      show OwnOut p e s below 16 640 _ (T.setTop (mkF m 332 #[.val (.int x0), .val (.int x1), .val (.int x2), .val (.int x3), .val (.int x4), .val (.int x5), .val (.int x6), .val (.int x7), .val (.int x8), .val (.int x9), .val (.int x10), .val (.int x11), .val (.int x12), .val (.int x13), .val (.int x14), .val (.ref b0), .val (.ref b2), .val (.int x17), .val (.int x18), .val (.int y0)] [(.int x12), (.int x11), (.int x10), (.int x9), (.int x8), (.int x11), (.long v11)]))
      refine OwnOut.go (fun t k => XS.iload X0.here hx rfl (hb hby at_332) rfl k) ?_
      show OwnOut p e s below 16 640 _ (T.setTop (mkF m 334 #[.val (.int x0), .val (.int x1), .val (.int x2), .val (.int x3), .val (.int x4), .val (.int x5), .val (.int x6), .val (.int x7), .val (.int x8), .val (.int x9), .val (.int x10), .val (.int x11), .val (.int x12), .val (.int x13), .val (.int x14), .val (.ref b0), .val (.ref b2), .val (.int x17), .val (.int x18), .val (.int y0)] [(.int x13), (.int x12), (.int x11), (.int x10), (.int x9), (.int x8), (.int x11), (.long v11)]))
      refine OwnOut.go (fun t k => XS.iload X0.here hx rfl (hb hby at_334) rfl k) ?_
      show OwnOut p e s below 16 640 _ (T.setTop (mkF m 336 #[.val (.int x0), .val (.int x1), .val (.int x2), .val (.int x3), .val (.int x4), .val (.int x5), .val (.int x6), .val (.int x7), .val (.int x8), .val (.int x9), .val (.int x10), .val (.int x11), .val (.int x12), .val (.int x13), .val (.int x14), .val (.ref b0), .val (.ref b2), .val (.int x17), .val (.int x18), .val (.int y0)] [(.int x14), (.int x13), (.int x12), (.int x11), (.int x10), (.int x9), (.int x8), (.int x11), (.long v11)]))
      obtain ⟨o12, ho12, hr⟩ := Option.bind_eq_some_iff.mp hr
      obtain ⟨r12, T12, L12, X12', hQ12, st12⟩ := callQ (W := 2) (rm := rx9) X0 hx hZ (y := (⟨"com/example/sinogrid/sinogrid/LuminanceGridHistogramPinLaw", "count", "(IIIIIZZZ)J"⟩ : MethodName)) hown (hw _ (List.mem_of_getElem? (i := 44) rfl)) (hw _ (List.mem_of_getElem? (i := 45) rfl)) (hw _ (List.mem_of_getElem? (i := 46) rfl)) (hw _ (List.mem_of_getElem? (i := 47) rfl)) (by decide) (rm9 l Z a0 hw [] x11 x8 x9 x10 x11 x12 x13 x14 hA o12 ho12 ) (by decide) (by decide) (by decide) (by decide) e0 (g := (mkF m 336 #[.val (.int x0), .val (.int x1), .val (.int x2), .val (.int x3), .val (.int x4), .val (.int x5), .val (.int x6), .val (.int x7), .val (.int x8), .val (.int x9), .val (.int x10), .val (.int x11), .val (.int x12), .val (.int x13), .val (.int x14), .val (.ref b0), .val (.ref b2), .val (.int x17), .val (.int x18), .val (.int y0)] [(.int x14), (.int x13), (.int x12), (.int x11), (.int x10), (.int x9), (.int x8), (.int x11), (.long v11)])) rfl (by rw [hml]; rfl) (argsL := [(.int x11), (.int x8), (.int x9), (.int x10), (.int x11), (.int x12), (.int x13), (.int x14)]) (rest := [(.long v11)]) (lenOf pd9 rfl) rfl (by show 2 * 0 + _ ≤ _; exact Nat.le_of_eq rfl) (hb hby at_336)
      obtain ⟨rfl, e12, rfl⟩ := hQ12
      rw [List.append_nil] at X12'
      have X12 : Stand p l e room_1 s m args below meth c T12 _ 3 263 := X12'
      refine OwnOut.go (fun t k => st12 _ k) ?_
      show OwnOut p e s below 16 640 _ (T12.setTop (mkF m 339 #[.val (.int x0), .val (.int x1), .val (.int x2), .val (.int x3), .val (.int x4), .val (.int x5), .val (.int x6), .val (.int x7), .val (.int x8), .val (.int x9), .val (.int x10), .val (.int x11), .val (.int x12), .val (.int x13), .val (.int x14), .val (.ref b0), .val (.ref b2), .val (.int x17), .val (.int x18), .val (.int y0)] [(.long o12), (.long v11)]))
      refine OwnOut.go (fun t k => XS.lcmp X12.here hx rfl (hb hby at_339) rfl k) ?_
      show OwnOut p e s below 16 640 _ (T12.setTop (mkF m 340 #[.val (.int x0), .val (.int x1), .val (.int x2), .val (.int x3), .val (.int x4), .val (.int x5), .val (.int x6), .val (.int x7), .val (.int x8), .val (.int x9), .val (.int x10), .val (.int x11), .val (.int x12), .val (.int x13), .val (.int x14), .val (.ref b0), .val (.ref b2), .val (.int x17), .val (.int x18), .val (.int y0)] [(.int (XT.cmpL v11 o12))]))
      by_cases hc340 : v11 = o12
      · rw [if_pos hc340] at hr
        refine OwnOut.go (fun t k => XS.ifNo X12.here hx rfl (hb hby at_340) rfl (XT.ll_ne_f hc340) k) ?_
        show OwnOut p e s below 16 640 _ (T12.setTop (mkF m 343 #[.val (.int x0), .val (.int x1), .val (.int x2), .val (.int x3), .val (.int x4), .val (.int x5), .val (.int x6), .val (.int x7), .val (.int x8), .val (.int x9), .val (.int x10), .val (.int x11), .val (.int x12), .val (.int x13), .val (.int x14), .val (.ref b0), .val (.ref b2), .val (.int x17), .val (.int x18), .val (.int y0)] []))
        refine OwnOut.go (fun t k => XT.iconstV X12.here hx rfl (1 : Int32) (hb hby at_343) rfl k) ?_
        show OwnOut p e s below 16 640 _ (T12.setTop (mkF m 344 #[.val (.int x0), .val (.int x1), .val (.int x2), .val (.int x3), .val (.int x4), .val (.int x5), .val (.int x6), .val (.int x7), .val (.int x8), .val (.int x9), .val (.int x10), .val (.int x11), .val (.int x12), .val (.int x13), .val (.int x14), .val (.ref b0), .val (.ref b2), .val (.int x17), .val (.int x18), .val (.int y0)] [(.int (1 : Int32))]))
        refine OwnOut.go (fun t k => XS.goto X12.here hx rfl (pc0 := 344) (pc' := 348) rfl (hb hby at_344) (by decide) (by decide) k) ?_
        show OwnOut p e s below 16 640 _ (T12.setTop (mkF m 348 #[.val (.int x0), .val (.int x1), .val (.int x2), .val (.int x3), .val (.int x4), .val (.int x5), .val (.int x6), .val (.int x7), .val (.int x8), .val (.int x9), .val (.int x10), .val (.int x11), .val (.int x12), .val (.int x13), .val (.int x14), .val (.ref b0), .val (.ref b2), .val (.int x17), .val (.int x18), .val (.int y0)] [(.int (1 : Int32))]))
        exact w0_348 ⟨hx, hZ, hw, hby, hml, hown, hret, hlk, hnm⟩  _ _ _ x0 x1 x2 x3 x4 x5 x6 x7 x8 x9 x10 x11 x12 x13 x14 x17 x18 y0 (1 : Int32) b0 u0_width u0_height b1 l1 b2 l2 _ hr X12 e12 N0 O0 K0 E0 F0_width F0_height F0_values A1 A2 g0 z0 g1 z1 g2 z2 ne0_1 ne0_2 ne1_2
      · rw [if_neg hc340] at hr
        refine OwnOut.go (fun t k => XS.ifYes X12.here hx rfl (pc0 := 340) (pc' := 347) rfl (hb hby at_340) rfl (XT.ll_ne_t hc340) (by decide) (by decide) k) ?_
        show OwnOut p e s below 16 640 _ (T12.setTop (mkF m 347 #[.val (.int x0), .val (.int x1), .val (.int x2), .val (.int x3), .val (.int x4), .val (.int x5), .val (.int x6), .val (.int x7), .val (.int x8), .val (.int x9), .val (.int x10), .val (.int x11), .val (.int x12), .val (.int x13), .val (.int x14), .val (.ref b0), .val (.ref b2), .val (.int x17), .val (.int x18), .val (.int y0)] []))
        exact w0_347 ⟨hx, hZ, hw, hby, hml, hown, hret, hlk, hnm⟩  _ _ _ x0 x1 x2 x3 x4 x5 x6 x7 x8 x9 x10 x11 x12 x13 x14 x17 x18 y0 b0 u0_width u0_height b1 l1 b2 l2 _ hr X12 e12 N0 O0 K0 E0 F0_width F0_height F0_values A1 A2 g0 z0 g1 z1 g2 z2 ne0_1 ne0_2 ne1_2
def f0_307 (x8 : Int32) (x9 : Int32) (x10 : Int32) (x11 : Int32) (x12 : Int32) (x13 : Int32) (x14 : Int32) (x17 : Int32) (x18 : Int32) (l2 : List Int64) : Option (Int32) := (f0_308 x8 x9 x10 x11 x12 x13 x14 x17 x18 (0 : Int32) l2)
set_option maxRecDepth 65536 in
set_option maxHeartbeats 40000000 in
theorem w0_307 {p : Program} {l : Launch} {e : Env} {s : State} {m : MethodId} {args : Array Value} {below : List Frame} {meth : Method} {c : Code} {Z : State} {a0 : Array Value} {h0 : Heap} {n0 : Nat} (C : Cx0 Z a0 p s m meth c) :
    ∀ (T : State) (locs : List Loc) (hA : Heap) (x0 : Int32) (x1 : Int32) (x2 : Int32) (x3 : Int32) (x4 : Int32) (x5 : Int32) (x6 : Int32) (x7 : Int32) (x8 : Int32) (x9 : Int32) (x10 : Int32) (x11 : Int32) (x12 : Int32) (x13 : Int32) (x14 : Int32) (x17 : Int32) (x18 : Int32) (x19 : Int32) (b0 : Addr) (u0_width : Int32) (u0_height : Int32) (b1 : Addr) (l1 : List Int32) (b2 : Addr) (l2 : List Int64) (o : Int32), f0_307 x8 x9 x10 x11 x12 x13 x14 x17 x18 l2 = some o → Stand p l e room_1 s m args below meth c T locs 3 263 → T.heap = hA → Fr n0 locs → Old Z n0 hA → Keep h0 hA [] → (Exa Z hA b0 "com/example/sinogrid/sinogrid/LuminanceGrid") → (Fld Z hA b0 "com/example/sinogrid/sinogrid/LuminanceGrid" "width" "I" (.int u0_width)) → (Fld Z hA b0 "com/example/sinogrid/sinogrid/LuminanceGrid" "height" "I" (.int u0_height)) → (Fld Z hA b0 "com/example/sinogrid/sinogrid/LuminanceGrid" "values" "[B" (.ref b1)) → (Ari Z hA b1 .byte l1) → (Arj Z hA b2 l2) → (n0 ≤ b0) → (h0.size ≤ b0) → (n0 ≤ b1) → (h0.size ≤ b1) → (n0 ≤ b2) → (h0.size ≤ b2) → (b0 ≠ b1) → (b0 ≠ b2) → (b1 ≠ b2) →  OwnOut p e s below 16 640 (Q0 Z default default default default default default h0 n0 o) (T.setTop (mkF m 307 #[.val (.int x0), .val (.int x1), .val (.int x2), .val (.int x3), .val (.int x4), .val (.int x5), .val (.int x6), .val (.int x7), .val (.int x8), .val (.int x9), .val (.int x10), .val (.int x11), .val (.int x12), .val (.int x13), .val (.int x14), .val (.ref b0), .val (.ref b2), .val (.int x17), .val (.int x18), .val (.int x19)] [])) := by
    obtain ⟨hx, hZ, hw, hby, hml, hown, hret, hlk, hnm⟩ := C
    intro T locs hA x0 x1 x2 x3 x4 x5 x6 x7 x8 x9 x10 x11 x12 x13 x14 x17 x18 x19 b0 u0_width u0_height b1 l1 b2 l2 o hr X0 e0 N0 O0 K0 E0 F0_width F0_height F0_values A1 A2 g0 z0 g1 z1 g2 z2 ne0_1 ne0_2 ne1_2
    rw [f0_307] at hr
    refine OwnOut.go (fun t k => XT.iconstV X0.here hx rfl (0 : Int32) (hb hby at_307) rfl k) ?_
    show OwnOut p e s below 16 640 _ (T.setTop (mkF m 308 #[.val (.int x0), .val (.int x1), .val (.int x2), .val (.int x3), .val (.int x4), .val (.int x5), .val (.int x6), .val (.int x7), .val (.int x8), .val (.int x9), .val (.int x10), .val (.int x11), .val (.int x12), .val (.int x13), .val (.int x14), .val (.ref b0), .val (.ref b2), .val (.int x17), .val (.int x18), .val (.int x19)] [(.int (0 : Int32))]))
    exact w0_308 ⟨hx, hZ, hw, hby, hml, hown, hret, hlk, hnm⟩  _ _ _ x0 x1 x2 x3 x4 x5 x6 x7 x8 x9 x10 x11 x12 x13 x14 x17 x18 x19 (0 : Int32) b0 u0_width u0_height b1 l1 b2 l2 _ hr X0 e0 N0 O0 K0 E0 F0_width F0_height F0_values A1 A2 g0 z0 g1 z1 g2 z2 ne0_1 ne0_2 ne1_2
def f0_268 (x8 : Int32) (x9 : Int32) (x10 : Int32) (x11 : Int32) (x12 : Int32) (x13 : Int32) (x14 : Int32) (x17 : Int32) (x18 : Int32) (y0 : Int32) (l2 : List Int64) : Option (Int32) := (if y0 = (0 : Int32) then (f0_307 x8 x9 x10 x11 x12 x13 x14 x17 x18 l2) else ((ldx l2 x10).bind fun v13 => ((f9 x10 x8 x9 x10 x11 x12 x13 x14).bind fun o14 => (if v13 = o14 then (f0_308 x8 x9 x10 x11 x12 x13 x14 x17 x18 (1 : Int32) l2) else (f0_307 x8 x9 x10 x11 x12 x13 x14 x17 x18 l2)))))
set_option maxRecDepth 65536 in
set_option maxHeartbeats 40000000 in
theorem w0_268 {p : Program} {l : Launch} {e : Env} {s : State} {m : MethodId} {args : Array Value} {below : List Frame} {meth : Method} {c : Code} {Z : State} {a0 : Array Value} {h0 : Heap} {n0 : Nat} (C : Cx0 Z a0 p s m meth c) :
    ∀ (T : State) (locs : List Loc) (hA : Heap) (x0 : Int32) (x1 : Int32) (x2 : Int32) (x3 : Int32) (x4 : Int32) (x5 : Int32) (x6 : Int32) (x7 : Int32) (x8 : Int32) (x9 : Int32) (x10 : Int32) (x11 : Int32) (x12 : Int32) (x13 : Int32) (x14 : Int32) (x17 : Int32) (x18 : Int32) (x19 : Int32) (y0 : Int32) (b0 : Addr) (u0_width : Int32) (u0_height : Int32) (b1 : Addr) (l1 : List Int32) (b2 : Addr) (l2 : List Int64) (o : Int32), f0_268 x8 x9 x10 x11 x12 x13 x14 x17 x18 y0 l2 = some o → Stand p l e room_1 s m args below meth c T locs 3 263 → T.heap = hA → Fr n0 locs → Old Z n0 hA → Keep h0 hA [] → (Exa Z hA b0 "com/example/sinogrid/sinogrid/LuminanceGrid") → (Fld Z hA b0 "com/example/sinogrid/sinogrid/LuminanceGrid" "width" "I" (.int u0_width)) → (Fld Z hA b0 "com/example/sinogrid/sinogrid/LuminanceGrid" "height" "I" (.int u0_height)) → (Fld Z hA b0 "com/example/sinogrid/sinogrid/LuminanceGrid" "values" "[B" (.ref b1)) → (Ari Z hA b1 .byte l1) → (Arj Z hA b2 l2) → (n0 ≤ b0) → (h0.size ≤ b0) → (n0 ≤ b1) → (h0.size ≤ b1) → (n0 ≤ b2) → (h0.size ≤ b2) → (b0 ≠ b1) → (b0 ≠ b2) → (b1 ≠ b2) →  OwnOut p e s below 16 640 (Q0 Z default default default default default default h0 n0 o) (T.setTop (mkF m 268 #[.val (.int x0), .val (.int x1), .val (.int x2), .val (.int x3), .val (.int x4), .val (.int x5), .val (.int x6), .val (.int x7), .val (.int x8), .val (.int x9), .val (.int x10), .val (.int x11), .val (.int x12), .val (.int x13), .val (.int x14), .val (.ref b0), .val (.ref b2), .val (.int x17), .val (.int x18), .val (.int x19)] [(.int y0)])) := by
    obtain ⟨hx, hZ, hw, hby, hml, hown, hret, hlk, hnm⟩ := C
    intro T locs hA x0 x1 x2 x3 x4 x5 x6 x7 x8 x9 x10 x11 x12 x13 x14 x17 x18 x19 y0 b0 u0_width u0_height b1 l1 b2 l2 o hr X0 e0 N0 O0 K0 E0 F0_width F0_height F0_values A1 A2 g0 z0 g1 z1 g2 z2 ne0_1 ne0_2 ne1_2
    rw [f0_268] at hr
    refine OwnOut.go (fun t k => XS.istore X0.here hx rfl (hb hby at_268) rfl (l' := #[.val (.int x0), .val (.int x1), .val (.int x2), .val (.int x3), .val (.int x4), .val (.int x5), .val (.int x6), .val (.int x7), .val (.int x8), .val (.int x9), .val (.int x10), .val (.int x11), .val (.int x12), .val (.int x13), .val (.int x14), .val (.ref b0), .val (.ref b2), .val (.int x17), .val (.int x18), .val (.int y0)]) rfl k) ?_
    show OwnOut p e s below 16 640 _ (T.setTop (mkF m 270 #[.val (.int x0), .val (.int x1), .val (.int x2), .val (.int x3), .val (.int x4), .val (.int x5), .val (.int x6), .val (.int x7), .val (.int x8), .val (.int x9), .val (.int x10), .val (.int x11), .val (.int x12), .val (.int x13), .val (.int x14), .val (.ref b0), .val (.ref b2), .val (.int x17), .val (.int x18), .val (.int y0)] []))
    refine OwnOut.go (fun t k => XS.iload X0.here hx rfl (hb hby at_270) rfl k) ?_
    show OwnOut p e s below 16 640 _ (T.setTop (mkF m 272 #[.val (.int x0), .val (.int x1), .val (.int x2), .val (.int x3), .val (.int x4), .val (.int x5), .val (.int x6), .val (.int x7), .val (.int x8), .val (.int x9), .val (.int x10), .val (.int x11), .val (.int x12), .val (.int x13), .val (.int x14), .val (.ref b0), .val (.ref b2), .val (.int x17), .val (.int x18), .val (.int y0)] [(.int y0)]))
    by_cases hc272 : y0 = (0 : Int32)
    · rw [if_pos hc272] at hr
      refine OwnOut.go (fun t k => XS.ifYes X0.here hx rfl (pc0 := 272) (pc' := 307) rfl (hb hby at_272) rfl (XT.i0_eq_t hc272) (by decide) (by decide) k) ?_
      show OwnOut p e s below 16 640 _ (T.setTop (mkF m 307 #[.val (.int x0), .val (.int x1), .val (.int x2), .val (.int x3), .val (.int x4), .val (.int x5), .val (.int x6), .val (.int x7), .val (.int x8), .val (.int x9), .val (.int x10), .val (.int x11), .val (.int x12), .val (.int x13), .val (.int x14), .val (.ref b0), .val (.ref b2), .val (.int x17), .val (.int x18), .val (.int y0)] []))
      exact w0_307 ⟨hx, hZ, hw, hby, hml, hown, hret, hlk, hnm⟩  _ _ _ x0 x1 x2 x3 x4 x5 x6 x7 x8 x9 x10 x11 x12 x13 x14 x17 x18 y0 b0 u0_width u0_height b1 l1 b2 l2 _ hr X0 e0 N0 O0 K0 E0 F0_width F0_height F0_values A1 A2 g0 z0 g1 z1 g2 z2 ne0_1 ne0_2 ne1_2
    · rw [if_neg hc272] at hr
      refine OwnOut.go (fun t k => XS.ifNo X0.here hx rfl (hb hby at_272) rfl (XT.i0_eq_f hc272) k) ?_
      show OwnOut p e s below 16 640 _ (T.setTop (mkF m 275 #[.val (.int x0), .val (.int x1), .val (.int x2), .val (.int x3), .val (.int x4), .val (.int x5), .val (.int x6), .val (.int x7), .val (.int x8), .val (.int x9), .val (.int x10), .val (.int x11), .val (.int x12), .val (.int x13), .val (.int x14), .val (.ref b0), .val (.ref b2), .val (.int x17), .val (.int x18), .val (.int y0)] []))
      refine OwnOut.go (fun t k => XS.aload X0.here hx rfl (hb hby at_275) rfl rfl k) ?_
      show OwnOut p e s below 16 640 _ (T.setTop (mkF m 277 #[.val (.int x0), .val (.int x1), .val (.int x2), .val (.int x3), .val (.int x4), .val (.int x5), .val (.int x6), .val (.int x7), .val (.int x8), .val (.int x9), .val (.int x10), .val (.int x11), .val (.int x12), .val (.int x13), .val (.int x14), .val (.ref b0), .val (.ref b2), .val (.int x17), .val (.int x18), .val (.int y0)] [(.ref b2)]))
      refine OwnOut.go (fun t k => XS.iload X0.here hx rfl (hb hby at_277) rfl k) ?_
      show OwnOut p e s below 16 640 _ (T.setTop (mkF m 279 #[.val (.int x0), .val (.int x1), .val (.int x2), .val (.int x3), .val (.int x4), .val (.int x5), .val (.int x6), .val (.int x7), .val (.int x8), .val (.int x9), .val (.int x10), .val (.int x11), .val (.int x12), .val (.int x13), .val (.int x14), .val (.ref b0), .val (.ref b2), .val (.int x17), .val (.int x18), .val (.int y0)] [(.int x10), (.ref b2)]))
      obtain ⟨v13, hv13, hr⟩ := Option.bind_eq_some_iff.mp hr
      refine OwnOut.go (fun t k => ldJ X0 hx hZ e0 A2 hv13 (g := (mkF m 279 #[.val (.int x0), .val (.int x1), .val (.int x2), .val (.int x3), .val (.int x4), .val (.int x5), .val (.int x6), .val (.int x7), .val (.int x8), .val (.int x9), .val (.int x10), .val (.int x11), .val (.int x12), .val (.int x13), .val (.int x14), .val (.ref b0), .val (.ref b2), .val (.int x17), .val (.int x18), .val (.int y0)] [(.int x10), (.ref b2)])) rfl rfl (hb hby at_279) t k) ?_
      show OwnOut p e s below 16 640 _ (T.setTop (mkF m 280 #[.val (.int x0), .val (.int x1), .val (.int x2), .val (.int x3), .val (.int x4), .val (.int x5), .val (.int x6), .val (.int x7), .val (.int x8), .val (.int x9), .val (.int x10), .val (.int x11), .val (.int x12), .val (.int x13), .val (.int x14), .val (.ref b0), .val (.ref b2), .val (.int x17), .val (.int x18), .val (.int y0)] [(.long v13)]))
      refine OwnOut.go (fun t k => XS.iload X0.here hx rfl (hb hby at_280) rfl k) ?_
      show OwnOut p e s below 16 640 _ (T.setTop (mkF m 282 #[.val (.int x0), .val (.int x1), .val (.int x2), .val (.int x3), .val (.int x4), .val (.int x5), .val (.int x6), .val (.int x7), .val (.int x8), .val (.int x9), .val (.int x10), .val (.int x11), .val (.int x12), .val (.int x13), .val (.int x14), .val (.ref b0), .val (.ref b2), .val (.int x17), .val (.int x18), .val (.int y0)] [(.int x10), (.long v13)]))
      refine OwnOut.go (fun t k => XS.iload X0.here hx rfl (hb hby at_282) rfl k) ?_
      show OwnOut p e s below 16 640 _ (T.setTop (mkF m 284 #[.val (.int x0), .val (.int x1), .val (.int x2), .val (.int x3), .val (.int x4), .val (.int x5), .val (.int x6), .val (.int x7), .val (.int x8), .val (.int x9), .val (.int x10), .val (.int x11), .val (.int x12), .val (.int x13), .val (.int x14), .val (.ref b0), .val (.ref b2), .val (.int x17), .val (.int x18), .val (.int y0)] [(.int x8), (.int x10), (.long v13)]))
      refine OwnOut.go (fun t k => XS.iload X0.here hx rfl (hb hby at_284) rfl k) ?_
      show OwnOut p e s below 16 640 _ (T.setTop (mkF m 286 #[.val (.int x0), .val (.int x1), .val (.int x2), .val (.int x3), .val (.int x4), .val (.int x5), .val (.int x6), .val (.int x7), .val (.int x8), .val (.int x9), .val (.int x10), .val (.int x11), .val (.int x12), .val (.int x13), .val (.int x14), .val (.ref b0), .val (.ref b2), .val (.int x17), .val (.int x18), .val (.int y0)] [(.int x9), (.int x8), (.int x10), (.long v13)]))
      refine OwnOut.go (fun t k => XS.iload X0.here hx rfl (hb hby at_286) rfl k) ?_
      show OwnOut p e s below 16 640 _ (T.setTop (mkF m 288 #[.val (.int x0), .val (.int x1), .val (.int x2), .val (.int x3), .val (.int x4), .val (.int x5), .val (.int x6), .val (.int x7), .val (.int x8), .val (.int x9), .val (.int x10), .val (.int x11), .val (.int x12), .val (.int x13), .val (.int x14), .val (.ref b0), .val (.ref b2), .val (.int x17), .val (.int x18), .val (.int y0)] [(.int x10), (.int x9), (.int x8), (.int x10), (.long v13)]))
      refine OwnOut.go (fun t k => XS.iload X0.here hx rfl (hb hby at_288) rfl k) ?_
      show OwnOut p e s below 16 640 _ (T.setTop (mkF m 290 #[.val (.int x0), .val (.int x1), .val (.int x2), .val (.int x3), .val (.int x4), .val (.int x5), .val (.int x6), .val (.int x7), .val (.int x8), .val (.int x9), .val (.int x10), .val (.int x11), .val (.int x12), .val (.int x13), .val (.int x14), .val (.ref b0), .val (.ref b2), .val (.int x17), .val (.int x18), .val (.int y0)] [(.int x11), (.int x10), (.int x9), (.int x8), (.int x10), (.long v13)]))
      refine OwnOut.go (fun t k => XS.iload X0.here hx rfl (hb hby at_290) rfl k) ?_
      show OwnOut p e s below 16 640 _ (T.setTop (mkF m 292 #[.val (.int x0), .val (.int x1), .val (.int x2), .val (.int x3), .val (.int x4), .val (.int x5), .val (.int x6), .val (.int x7), .val (.int x8), .val (.int x9), .val (.int x10), .val (.int x11), .val (.int x12), .val (.int x13), .val (.int x14), .val (.ref b0), .val (.ref b2), .val (.int x17), .val (.int x18), .val (.int y0)] [(.int x12), (.int x11), (.int x10), (.int x9), (.int x8), (.int x10), (.long v13)]))
      refine OwnOut.go (fun t k => XS.iload X0.here hx rfl (hb hby at_292) rfl k) ?_
      show OwnOut p e s below 16 640 _ (T.setTop (mkF m 294 #[.val (.int x0), .val (.int x1), .val (.int x2), .val (.int x3), .val (.int x4), .val (.int x5), .val (.int x6), .val (.int x7), .val (.int x8), .val (.int x9), .val (.int x10), .val (.int x11), .val (.int x12), .val (.int x13), .val (.int x14), .val (.ref b0), .val (.ref b2), .val (.int x17), .val (.int x18), .val (.int y0)] [(.int x13), (.int x12), (.int x11), (.int x10), (.int x9), (.int x8), (.int x10), (.long v13)]))
      refine OwnOut.go (fun t k => XS.iload X0.here hx rfl (hb hby at_294) rfl k) ?_
      show OwnOut p e s below 16 640 _ (T.setTop (mkF m 296 #[.val (.int x0), .val (.int x1), .val (.int x2), .val (.int x3), .val (.int x4), .val (.int x5), .val (.int x6), .val (.int x7), .val (.int x8), .val (.int x9), .val (.int x10), .val (.int x11), .val (.int x12), .val (.int x13), .val (.int x14), .val (.ref b0), .val (.ref b2), .val (.int x17), .val (.int x18), .val (.int y0)] [(.int x14), (.int x13), (.int x12), (.int x11), (.int x10), (.int x9), (.int x8), (.int x10), (.long v13)]))
      obtain ⟨o14, ho14, hr⟩ := Option.bind_eq_some_iff.mp hr
      obtain ⟨r14, T14, L14, X14', hQ14, st14⟩ := callQ (W := 2) (rm := rx9) X0 hx hZ (y := (⟨"com/example/sinogrid/sinogrid/LuminanceGridHistogramPinLaw", "count", "(IIIIIZZZ)J"⟩ : MethodName)) hown (hw _ (List.mem_of_getElem? (i := 44) rfl)) (hw _ (List.mem_of_getElem? (i := 45) rfl)) (hw _ (List.mem_of_getElem? (i := 46) rfl)) (hw _ (List.mem_of_getElem? (i := 47) rfl)) (by decide) (rm9 l Z a0 hw [] x10 x8 x9 x10 x11 x12 x13 x14 hA o14 ho14 ) (by decide) (by decide) (by decide) (by decide) e0 (g := (mkF m 296 #[.val (.int x0), .val (.int x1), .val (.int x2), .val (.int x3), .val (.int x4), .val (.int x5), .val (.int x6), .val (.int x7), .val (.int x8), .val (.int x9), .val (.int x10), .val (.int x11), .val (.int x12), .val (.int x13), .val (.int x14), .val (.ref b0), .val (.ref b2), .val (.int x17), .val (.int x18), .val (.int y0)] [(.int x14), (.int x13), (.int x12), (.int x11), (.int x10), (.int x9), (.int x8), (.int x10), (.long v13)])) rfl (by rw [hml]; rfl) (argsL := [(.int x10), (.int x8), (.int x9), (.int x10), (.int x11), (.int x12), (.int x13), (.int x14)]) (rest := [(.long v13)]) (lenOf pd9 rfl) rfl (by show 2 * 0 + _ ≤ _; exact Nat.le_of_eq rfl) (hb hby at_296)
      obtain ⟨rfl, e14, rfl⟩ := hQ14
      rw [List.append_nil] at X14'
      have X14 : Stand p l e room_1 s m args below meth c T14 _ 3 263 := X14'
      refine OwnOut.go (fun t k => st14 _ k) ?_
      show OwnOut p e s below 16 640 _ (T14.setTop (mkF m 299 #[.val (.int x0), .val (.int x1), .val (.int x2), .val (.int x3), .val (.int x4), .val (.int x5), .val (.int x6), .val (.int x7), .val (.int x8), .val (.int x9), .val (.int x10), .val (.int x11), .val (.int x12), .val (.int x13), .val (.int x14), .val (.ref b0), .val (.ref b2), .val (.int x17), .val (.int x18), .val (.int y0)] [(.long o14), (.long v13)]))
      refine OwnOut.go (fun t k => XS.lcmp X14.here hx rfl (hb hby at_299) rfl k) ?_
      show OwnOut p e s below 16 640 _ (T14.setTop (mkF m 300 #[.val (.int x0), .val (.int x1), .val (.int x2), .val (.int x3), .val (.int x4), .val (.int x5), .val (.int x6), .val (.int x7), .val (.int x8), .val (.int x9), .val (.int x10), .val (.int x11), .val (.int x12), .val (.int x13), .val (.int x14), .val (.ref b0), .val (.ref b2), .val (.int x17), .val (.int x18), .val (.int y0)] [(.int (XT.cmpL v13 o14))]))
      by_cases hc300 : v13 = o14
      · rw [if_pos hc300] at hr
        refine OwnOut.go (fun t k => XS.ifNo X14.here hx rfl (hb hby at_300) rfl (XT.ll_ne_f hc300) k) ?_
        show OwnOut p e s below 16 640 _ (T14.setTop (mkF m 303 #[.val (.int x0), .val (.int x1), .val (.int x2), .val (.int x3), .val (.int x4), .val (.int x5), .val (.int x6), .val (.int x7), .val (.int x8), .val (.int x9), .val (.int x10), .val (.int x11), .val (.int x12), .val (.int x13), .val (.int x14), .val (.ref b0), .val (.ref b2), .val (.int x17), .val (.int x18), .val (.int y0)] []))
        refine OwnOut.go (fun t k => XT.iconstV X14.here hx rfl (1 : Int32) (hb hby at_303) rfl k) ?_
        show OwnOut p e s below 16 640 _ (T14.setTop (mkF m 304 #[.val (.int x0), .val (.int x1), .val (.int x2), .val (.int x3), .val (.int x4), .val (.int x5), .val (.int x6), .val (.int x7), .val (.int x8), .val (.int x9), .val (.int x10), .val (.int x11), .val (.int x12), .val (.int x13), .val (.int x14), .val (.ref b0), .val (.ref b2), .val (.int x17), .val (.int x18), .val (.int y0)] [(.int (1 : Int32))]))
        refine OwnOut.go (fun t k => XS.goto X14.here hx rfl (pc0 := 304) (pc' := 308) rfl (hb hby at_304) (by decide) (by decide) k) ?_
        show OwnOut p e s below 16 640 _ (T14.setTop (mkF m 308 #[.val (.int x0), .val (.int x1), .val (.int x2), .val (.int x3), .val (.int x4), .val (.int x5), .val (.int x6), .val (.int x7), .val (.int x8), .val (.int x9), .val (.int x10), .val (.int x11), .val (.int x12), .val (.int x13), .val (.int x14), .val (.ref b0), .val (.ref b2), .val (.int x17), .val (.int x18), .val (.int y0)] [(.int (1 : Int32))]))
        exact w0_308 ⟨hx, hZ, hw, hby, hml, hown, hret, hlk, hnm⟩  _ _ _ x0 x1 x2 x3 x4 x5 x6 x7 x8 x9 x10 x11 x12 x13 x14 x17 x18 y0 (1 : Int32) b0 u0_width u0_height b1 l1 b2 l2 _ hr X14 e14 N0 O0 K0 E0 F0_width F0_height F0_values A1 A2 g0 z0 g1 z1 g2 z2 ne0_1 ne0_2 ne1_2
      · rw [if_neg hc300] at hr
        refine OwnOut.go (fun t k => XS.ifYes X14.here hx rfl (pc0 := 300) (pc' := 307) rfl (hb hby at_300) rfl (XT.ll_ne_t hc300) (by decide) (by decide) k) ?_
        show OwnOut p e s below 16 640 _ (T14.setTop (mkF m 307 #[.val (.int x0), .val (.int x1), .val (.int x2), .val (.int x3), .val (.int x4), .val (.int x5), .val (.int x6), .val (.int x7), .val (.int x8), .val (.int x9), .val (.int x10), .val (.int x11), .val (.int x12), .val (.int x13), .val (.int x14), .val (.ref b0), .val (.ref b2), .val (.int x17), .val (.int x18), .val (.int y0)] []))
        exact w0_307 ⟨hx, hZ, hw, hby, hml, hown, hret, hlk, hnm⟩  _ _ _ x0 x1 x2 x3 x4 x5 x6 x7 x8 x9 x10 x11 x12 x13 x14 x17 x18 y0 b0 u0_width u0_height b1 l1 b2 l2 _ hr X14 e14 N0 O0 K0 E0 F0_width F0_height F0_values A1 A2 g0 z0 g1 z1 g2 z2 ne0_1 ne0_2 ne1_2
def f0_267 (x8 : Int32) (x9 : Int32) (x10 : Int32) (x11 : Int32) (x12 : Int32) (x13 : Int32) (x14 : Int32) (x17 : Int32) (x18 : Int32) (l2 : List Int64) : Option (Int32) := (f0_268 x8 x9 x10 x11 x12 x13 x14 x17 x18 (0 : Int32) l2)
set_option maxRecDepth 65536 in
set_option maxHeartbeats 40000000 in
theorem w0_267 {p : Program} {l : Launch} {e : Env} {s : State} {m : MethodId} {args : Array Value} {below : List Frame} {meth : Method} {c : Code} {Z : State} {a0 : Array Value} {h0 : Heap} {n0 : Nat} (C : Cx0 Z a0 p s m meth c) :
    ∀ (T : State) (locs : List Loc) (hA : Heap) (x0 : Int32) (x1 : Int32) (x2 : Int32) (x3 : Int32) (x4 : Int32) (x5 : Int32) (x6 : Int32) (x7 : Int32) (x8 : Int32) (x9 : Int32) (x10 : Int32) (x11 : Int32) (x12 : Int32) (x13 : Int32) (x14 : Int32) (x17 : Int32) (x18 : Int32) (x19 : Int32) (b0 : Addr) (u0_width : Int32) (u0_height : Int32) (b1 : Addr) (l1 : List Int32) (b2 : Addr) (l2 : List Int64) (o : Int32), f0_267 x8 x9 x10 x11 x12 x13 x14 x17 x18 l2 = some o → Stand p l e room_1 s m args below meth c T locs 3 263 → T.heap = hA → Fr n0 locs → Old Z n0 hA → Keep h0 hA [] → (Exa Z hA b0 "com/example/sinogrid/sinogrid/LuminanceGrid") → (Fld Z hA b0 "com/example/sinogrid/sinogrid/LuminanceGrid" "width" "I" (.int u0_width)) → (Fld Z hA b0 "com/example/sinogrid/sinogrid/LuminanceGrid" "height" "I" (.int u0_height)) → (Fld Z hA b0 "com/example/sinogrid/sinogrid/LuminanceGrid" "values" "[B" (.ref b1)) → (Ari Z hA b1 .byte l1) → (Arj Z hA b2 l2) → (n0 ≤ b0) → (h0.size ≤ b0) → (n0 ≤ b1) → (h0.size ≤ b1) → (n0 ≤ b2) → (h0.size ≤ b2) → (b0 ≠ b1) → (b0 ≠ b2) → (b1 ≠ b2) →  OwnOut p e s below 16 640 (Q0 Z default default default default default default h0 n0 o) (T.setTop (mkF m 267 #[.val (.int x0), .val (.int x1), .val (.int x2), .val (.int x3), .val (.int x4), .val (.int x5), .val (.int x6), .val (.int x7), .val (.int x8), .val (.int x9), .val (.int x10), .val (.int x11), .val (.int x12), .val (.int x13), .val (.int x14), .val (.ref b0), .val (.ref b2), .val (.int x17), .val (.int x18), .val (.int x19)] [])) := by
    obtain ⟨hx, hZ, hw, hby, hml, hown, hret, hlk, hnm⟩ := C
    intro T locs hA x0 x1 x2 x3 x4 x5 x6 x7 x8 x9 x10 x11 x12 x13 x14 x17 x18 x19 b0 u0_width u0_height b1 l1 b2 l2 o hr X0 e0 N0 O0 K0 E0 F0_width F0_height F0_values A1 A2 g0 z0 g1 z1 g2 z2 ne0_1 ne0_2 ne1_2
    rw [f0_267] at hr
    refine OwnOut.go (fun t k => XT.iconstV X0.here hx rfl (0 : Int32) (hb hby at_267) rfl k) ?_
    show OwnOut p e s below 16 640 _ (T.setTop (mkF m 268 #[.val (.int x0), .val (.int x1), .val (.int x2), .val (.int x3), .val (.int x4), .val (.int x5), .val (.int x6), .val (.int x7), .val (.int x8), .val (.int x9), .val (.int x10), .val (.int x11), .val (.int x12), .val (.int x13), .val (.int x14), .val (.ref b0), .val (.ref b2), .val (.int x17), .val (.int x18), .val (.int x19)] [(.int (0 : Int32))]))
    exact w0_268 ⟨hx, hZ, hw, hby, hml, hown, hret, hlk, hnm⟩  _ _ _ x0 x1 x2 x3 x4 x5 x6 x7 x8 x9 x10 x11 x12 x13 x14 x17 x18 x19 (0 : Int32) b0 u0_width u0_height b1 l1 b2 l2 _ hr X0 e0 N0 O0 K0 E0 F0_width F0_height F0_values A1 A2 g0 z0 g1 z1 g2 z2 ne0_1 ne0_2 ne1_2
def f0_228 (x8 : Int32) (x9 : Int32) (x10 : Int32) (x11 : Int32) (x12 : Int32) (x13 : Int32) (x14 : Int32) (x17 : Int32) (x18 : Int32) (y0 : Int32) (l2 : List Int64) : Option (Int32) := (if y0 = (0 : Int32) then (f0_267 x8 x9 x10 x11 x12 x13 x14 x17 x18 l2) else ((ldx l2 x9).bind fun v15 => ((f9 x9 x8 x9 x10 x11 x12 x13 x14).bind fun o16 => (if v15 = o16 then (f0_268 x8 x9 x10 x11 x12 x13 x14 x17 x18 (1 : Int32) l2) else (f0_267 x8 x9 x10 x11 x12 x13 x14 x17 x18 l2)))))
set_option maxRecDepth 65536 in
set_option maxHeartbeats 40000000 in
theorem w0_228 {p : Program} {l : Launch} {e : Env} {s : State} {m : MethodId} {args : Array Value} {below : List Frame} {meth : Method} {c : Code} {Z : State} {a0 : Array Value} {h0 : Heap} {n0 : Nat} (C : Cx0 Z a0 p s m meth c) :
    ∀ (T : State) (locs : List Loc) (hA : Heap) (x0 : Int32) (x1 : Int32) (x2 : Int32) (x3 : Int32) (x4 : Int32) (x5 : Int32) (x6 : Int32) (x7 : Int32) (x8 : Int32) (x9 : Int32) (x10 : Int32) (x11 : Int32) (x12 : Int32) (x13 : Int32) (x14 : Int32) (x17 : Int32) (x18 : Int32) (y0 : Int32) (b0 : Addr) (u0_width : Int32) (u0_height : Int32) (b1 : Addr) (l1 : List Int32) (b2 : Addr) (l2 : List Int64) (o : Int32), f0_228 x8 x9 x10 x11 x12 x13 x14 x17 x18 y0 l2 = some o → Stand p l e room_1 s m args below meth c T locs 3 263 → T.heap = hA → Fr n0 locs → Old Z n0 hA → Keep h0 hA [] → (Exa Z hA b0 "com/example/sinogrid/sinogrid/LuminanceGrid") → (Fld Z hA b0 "com/example/sinogrid/sinogrid/LuminanceGrid" "width" "I" (.int u0_width)) → (Fld Z hA b0 "com/example/sinogrid/sinogrid/LuminanceGrid" "height" "I" (.int u0_height)) → (Fld Z hA b0 "com/example/sinogrid/sinogrid/LuminanceGrid" "values" "[B" (.ref b1)) → (Ari Z hA b1 .byte l1) → (Arj Z hA b2 l2) → (n0 ≤ b0) → (h0.size ≤ b0) → (n0 ≤ b1) → (h0.size ≤ b1) → (n0 ≤ b2) → (h0.size ≤ b2) → (b0 ≠ b1) → (b0 ≠ b2) → (b1 ≠ b2) →  OwnOut p e s below 16 640 (Q0 Z default default default default default default h0 n0 o) (T.setTop (mkF m 228 #[.val (.int x0), .val (.int x1), .val (.int x2), .val (.int x3), .val (.int x4), .val (.int x5), .val (.int x6), .val (.int x7), .val (.int x8), .val (.int x9), .val (.int x10), .val (.int x11), .val (.int x12), .val (.int x13), .val (.int x14), .val (.ref b0), .val (.ref b2), .val (.int x17), .val (.int x18), .unset] [(.int y0)])) := by
    obtain ⟨hx, hZ, hw, hby, hml, hown, hret, hlk, hnm⟩ := C
    intro T locs hA x0 x1 x2 x3 x4 x5 x6 x7 x8 x9 x10 x11 x12 x13 x14 x17 x18 y0 b0 u0_width u0_height b1 l1 b2 l2 o hr X0 e0 N0 O0 K0 E0 F0_width F0_height F0_values A1 A2 g0 z0 g1 z1 g2 z2 ne0_1 ne0_2 ne1_2
    rw [f0_228] at hr
    refine OwnOut.go (fun t k => XS.istore X0.here hx rfl (hb hby at_228) rfl (l' := #[.val (.int x0), .val (.int x1), .val (.int x2), .val (.int x3), .val (.int x4), .val (.int x5), .val (.int x6), .val (.int x7), .val (.int x8), .val (.int x9), .val (.int x10), .val (.int x11), .val (.int x12), .val (.int x13), .val (.int x14), .val (.ref b0), .val (.ref b2), .val (.int x17), .val (.int x18), .val (.int y0)]) rfl k) ?_
    show OwnOut p e s below 16 640 _ (T.setTop (mkF m 230 #[.val (.int x0), .val (.int x1), .val (.int x2), .val (.int x3), .val (.int x4), .val (.int x5), .val (.int x6), .val (.int x7), .val (.int x8), .val (.int x9), .val (.int x10), .val (.int x11), .val (.int x12), .val (.int x13), .val (.int x14), .val (.ref b0), .val (.ref b2), .val (.int x17), .val (.int x18), .val (.int y0)] []))
    refine OwnOut.go (fun t k => XS.iload X0.here hx rfl (hb hby at_230) rfl k) ?_
    show OwnOut p e s below 16 640 _ (T.setTop (mkF m 232 #[.val (.int x0), .val (.int x1), .val (.int x2), .val (.int x3), .val (.int x4), .val (.int x5), .val (.int x6), .val (.int x7), .val (.int x8), .val (.int x9), .val (.int x10), .val (.int x11), .val (.int x12), .val (.int x13), .val (.int x14), .val (.ref b0), .val (.ref b2), .val (.int x17), .val (.int x18), .val (.int y0)] [(.int y0)]))
    by_cases hc232 : y0 = (0 : Int32)
    · rw [if_pos hc232] at hr
      refine OwnOut.go (fun t k => XS.ifYes X0.here hx rfl (pc0 := 232) (pc' := 267) rfl (hb hby at_232) rfl (XT.i0_eq_t hc232) (by decide) (by decide) k) ?_
      show OwnOut p e s below 16 640 _ (T.setTop (mkF m 267 #[.val (.int x0), .val (.int x1), .val (.int x2), .val (.int x3), .val (.int x4), .val (.int x5), .val (.int x6), .val (.int x7), .val (.int x8), .val (.int x9), .val (.int x10), .val (.int x11), .val (.int x12), .val (.int x13), .val (.int x14), .val (.ref b0), .val (.ref b2), .val (.int x17), .val (.int x18), .val (.int y0)] []))
      exact w0_267 ⟨hx, hZ, hw, hby, hml, hown, hret, hlk, hnm⟩  _ _ _ x0 x1 x2 x3 x4 x5 x6 x7 x8 x9 x10 x11 x12 x13 x14 x17 x18 y0 b0 u0_width u0_height b1 l1 b2 l2 _ hr X0 e0 N0 O0 K0 E0 F0_width F0_height F0_values A1 A2 g0 z0 g1 z1 g2 z2 ne0_1 ne0_2 ne1_2
    · rw [if_neg hc232] at hr
      refine OwnOut.go (fun t k => XS.ifNo X0.here hx rfl (hb hby at_232) rfl (XT.i0_eq_f hc232) k) ?_
      show OwnOut p e s below 16 640 _ (T.setTop (mkF m 235 #[.val (.int x0), .val (.int x1), .val (.int x2), .val (.int x3), .val (.int x4), .val (.int x5), .val (.int x6), .val (.int x7), .val (.int x8), .val (.int x9), .val (.int x10), .val (.int x11), .val (.int x12), .val (.int x13), .val (.int x14), .val (.ref b0), .val (.ref b2), .val (.int x17), .val (.int x18), .val (.int y0)] []))
      refine OwnOut.go (fun t k => XS.aload X0.here hx rfl (hb hby at_235) rfl rfl k) ?_
      show OwnOut p e s below 16 640 _ (T.setTop (mkF m 237 #[.val (.int x0), .val (.int x1), .val (.int x2), .val (.int x3), .val (.int x4), .val (.int x5), .val (.int x6), .val (.int x7), .val (.int x8), .val (.int x9), .val (.int x10), .val (.int x11), .val (.int x12), .val (.int x13), .val (.int x14), .val (.ref b0), .val (.ref b2), .val (.int x17), .val (.int x18), .val (.int y0)] [(.ref b2)]))
      refine OwnOut.go (fun t k => XS.iload X0.here hx rfl (hb hby at_237) rfl k) ?_
      show OwnOut p e s below 16 640 _ (T.setTop (mkF m 239 #[.val (.int x0), .val (.int x1), .val (.int x2), .val (.int x3), .val (.int x4), .val (.int x5), .val (.int x6), .val (.int x7), .val (.int x8), .val (.int x9), .val (.int x10), .val (.int x11), .val (.int x12), .val (.int x13), .val (.int x14), .val (.ref b0), .val (.ref b2), .val (.int x17), .val (.int x18), .val (.int y0)] [(.int x9), (.ref b2)]))
      obtain ⟨v15, hv15, hr⟩ := Option.bind_eq_some_iff.mp hr
      refine OwnOut.go (fun t k => ldJ X0 hx hZ e0 A2 hv15 (g := (mkF m 239 #[.val (.int x0), .val (.int x1), .val (.int x2), .val (.int x3), .val (.int x4), .val (.int x5), .val (.int x6), .val (.int x7), .val (.int x8), .val (.int x9), .val (.int x10), .val (.int x11), .val (.int x12), .val (.int x13), .val (.int x14), .val (.ref b0), .val (.ref b2), .val (.int x17), .val (.int x18), .val (.int y0)] [(.int x9), (.ref b2)])) rfl rfl (hb hby at_239) t k) ?_
      show OwnOut p e s below 16 640 _ (T.setTop (mkF m 240 #[.val (.int x0), .val (.int x1), .val (.int x2), .val (.int x3), .val (.int x4), .val (.int x5), .val (.int x6), .val (.int x7), .val (.int x8), .val (.int x9), .val (.int x10), .val (.int x11), .val (.int x12), .val (.int x13), .val (.int x14), .val (.ref b0), .val (.ref b2), .val (.int x17), .val (.int x18), .val (.int y0)] [(.long v15)]))
      refine OwnOut.go (fun t k => XS.iload X0.here hx rfl (hb hby at_240) rfl k) ?_
      show OwnOut p e s below 16 640 _ (T.setTop (mkF m 242 #[.val (.int x0), .val (.int x1), .val (.int x2), .val (.int x3), .val (.int x4), .val (.int x5), .val (.int x6), .val (.int x7), .val (.int x8), .val (.int x9), .val (.int x10), .val (.int x11), .val (.int x12), .val (.int x13), .val (.int x14), .val (.ref b0), .val (.ref b2), .val (.int x17), .val (.int x18), .val (.int y0)] [(.int x9), (.long v15)]))
      refine OwnOut.go (fun t k => XS.iload X0.here hx rfl (hb hby at_242) rfl k) ?_
      show OwnOut p e s below 16 640 _ (T.setTop (mkF m 244 #[.val (.int x0), .val (.int x1), .val (.int x2), .val (.int x3), .val (.int x4), .val (.int x5), .val (.int x6), .val (.int x7), .val (.int x8), .val (.int x9), .val (.int x10), .val (.int x11), .val (.int x12), .val (.int x13), .val (.int x14), .val (.ref b0), .val (.ref b2), .val (.int x17), .val (.int x18), .val (.int y0)] [(.int x8), (.int x9), (.long v15)]))
      refine OwnOut.go (fun t k => XS.iload X0.here hx rfl (hb hby at_244) rfl k) ?_
      show OwnOut p e s below 16 640 _ (T.setTop (mkF m 246 #[.val (.int x0), .val (.int x1), .val (.int x2), .val (.int x3), .val (.int x4), .val (.int x5), .val (.int x6), .val (.int x7), .val (.int x8), .val (.int x9), .val (.int x10), .val (.int x11), .val (.int x12), .val (.int x13), .val (.int x14), .val (.ref b0), .val (.ref b2), .val (.int x17), .val (.int x18), .val (.int y0)] [(.int x9), (.int x8), (.int x9), (.long v15)]))
      refine OwnOut.go (fun t k => XS.iload X0.here hx rfl (hb hby at_246) rfl k) ?_
      show OwnOut p e s below 16 640 _ (T.setTop (mkF m 248 #[.val (.int x0), .val (.int x1), .val (.int x2), .val (.int x3), .val (.int x4), .val (.int x5), .val (.int x6), .val (.int x7), .val (.int x8), .val (.int x9), .val (.int x10), .val (.int x11), .val (.int x12), .val (.int x13), .val (.int x14), .val (.ref b0), .val (.ref b2), .val (.int x17), .val (.int x18), .val (.int y0)] [(.int x10), (.int x9), (.int x8), (.int x9), (.long v15)]))
      refine OwnOut.go (fun t k => XS.iload X0.here hx rfl (hb hby at_248) rfl k) ?_
      show OwnOut p e s below 16 640 _ (T.setTop (mkF m 250 #[.val (.int x0), .val (.int x1), .val (.int x2), .val (.int x3), .val (.int x4), .val (.int x5), .val (.int x6), .val (.int x7), .val (.int x8), .val (.int x9), .val (.int x10), .val (.int x11), .val (.int x12), .val (.int x13), .val (.int x14), .val (.ref b0), .val (.ref b2), .val (.int x17), .val (.int x18), .val (.int y0)] [(.int x11), (.int x10), (.int x9), (.int x8), (.int x9), (.long v15)]))
      refine OwnOut.go (fun t k => XS.iload X0.here hx rfl (hb hby at_250) rfl k) ?_
      show OwnOut p e s below 16 640 _ (T.setTop (mkF m 252 #[.val (.int x0), .val (.int x1), .val (.int x2), .val (.int x3), .val (.int x4), .val (.int x5), .val (.int x6), .val (.int x7), .val (.int x8), .val (.int x9), .val (.int x10), .val (.int x11), .val (.int x12), .val (.int x13), .val (.int x14), .val (.ref b0), .val (.ref b2), .val (.int x17), .val (.int x18), .val (.int y0)] [(.int x12), (.int x11), (.int x10), (.int x9), (.int x8), (.int x9), (.long v15)]))
      refine OwnOut.go (fun t k => XS.iload X0.here hx rfl (hb hby at_252) rfl k) ?_
      show OwnOut p e s below 16 640 _ (T.setTop (mkF m 254 #[.val (.int x0), .val (.int x1), .val (.int x2), .val (.int x3), .val (.int x4), .val (.int x5), .val (.int x6), .val (.int x7), .val (.int x8), .val (.int x9), .val (.int x10), .val (.int x11), .val (.int x12), .val (.int x13), .val (.int x14), .val (.ref b0), .val (.ref b2), .val (.int x17), .val (.int x18), .val (.int y0)] [(.int x13), (.int x12), (.int x11), (.int x10), (.int x9), (.int x8), (.int x9), (.long v15)]))
      refine OwnOut.go (fun t k => XS.iload X0.here hx rfl (hb hby at_254) rfl k) ?_
      show OwnOut p e s below 16 640 _ (T.setTop (mkF m 256 #[.val (.int x0), .val (.int x1), .val (.int x2), .val (.int x3), .val (.int x4), .val (.int x5), .val (.int x6), .val (.int x7), .val (.int x8), .val (.int x9), .val (.int x10), .val (.int x11), .val (.int x12), .val (.int x13), .val (.int x14), .val (.ref b0), .val (.ref b2), .val (.int x17), .val (.int x18), .val (.int y0)] [(.int x14), (.int x13), (.int x12), (.int x11), (.int x10), (.int x9), (.int x8), (.int x9), (.long v15)]))
      obtain ⟨o16, ho16, hr⟩ := Option.bind_eq_some_iff.mp hr
      obtain ⟨r16, T16, L16, X16', hQ16, st16⟩ := callQ (W := 2) (rm := rx9) X0 hx hZ (y := (⟨"com/example/sinogrid/sinogrid/LuminanceGridHistogramPinLaw", "count", "(IIIIIZZZ)J"⟩ : MethodName)) hown (hw _ (List.mem_of_getElem? (i := 44) rfl)) (hw _ (List.mem_of_getElem? (i := 45) rfl)) (hw _ (List.mem_of_getElem? (i := 46) rfl)) (hw _ (List.mem_of_getElem? (i := 47) rfl)) (by decide) (rm9 l Z a0 hw [] x9 x8 x9 x10 x11 x12 x13 x14 hA o16 ho16 ) (by decide) (by decide) (by decide) (by decide) e0 (g := (mkF m 256 #[.val (.int x0), .val (.int x1), .val (.int x2), .val (.int x3), .val (.int x4), .val (.int x5), .val (.int x6), .val (.int x7), .val (.int x8), .val (.int x9), .val (.int x10), .val (.int x11), .val (.int x12), .val (.int x13), .val (.int x14), .val (.ref b0), .val (.ref b2), .val (.int x17), .val (.int x18), .val (.int y0)] [(.int x14), (.int x13), (.int x12), (.int x11), (.int x10), (.int x9), (.int x8), (.int x9), (.long v15)])) rfl (by rw [hml]; rfl) (argsL := [(.int x9), (.int x8), (.int x9), (.int x10), (.int x11), (.int x12), (.int x13), (.int x14)]) (rest := [(.long v15)]) (lenOf pd9 rfl) rfl (by show 2 * 0 + _ ≤ _; exact Nat.le_of_eq rfl) (hb hby at_256)
      obtain ⟨rfl, e16, rfl⟩ := hQ16
      rw [List.append_nil] at X16'
      have X16 : Stand p l e room_1 s m args below meth c T16 _ 3 263 := X16'
      refine OwnOut.go (fun t k => st16 _ k) ?_
      show OwnOut p e s below 16 640 _ (T16.setTop (mkF m 259 #[.val (.int x0), .val (.int x1), .val (.int x2), .val (.int x3), .val (.int x4), .val (.int x5), .val (.int x6), .val (.int x7), .val (.int x8), .val (.int x9), .val (.int x10), .val (.int x11), .val (.int x12), .val (.int x13), .val (.int x14), .val (.ref b0), .val (.ref b2), .val (.int x17), .val (.int x18), .val (.int y0)] [(.long o16), (.long v15)]))
      refine OwnOut.go (fun t k => XS.lcmp X16.here hx rfl (hb hby at_259) rfl k) ?_
      show OwnOut p e s below 16 640 _ (T16.setTop (mkF m 260 #[.val (.int x0), .val (.int x1), .val (.int x2), .val (.int x3), .val (.int x4), .val (.int x5), .val (.int x6), .val (.int x7), .val (.int x8), .val (.int x9), .val (.int x10), .val (.int x11), .val (.int x12), .val (.int x13), .val (.int x14), .val (.ref b0), .val (.ref b2), .val (.int x17), .val (.int x18), .val (.int y0)] [(.int (XT.cmpL v15 o16))]))
      by_cases hc260 : v15 = o16
      · rw [if_pos hc260] at hr
        refine OwnOut.go (fun t k => XS.ifNo X16.here hx rfl (hb hby at_260) rfl (XT.ll_ne_f hc260) k) ?_
        show OwnOut p e s below 16 640 _ (T16.setTop (mkF m 263 #[.val (.int x0), .val (.int x1), .val (.int x2), .val (.int x3), .val (.int x4), .val (.int x5), .val (.int x6), .val (.int x7), .val (.int x8), .val (.int x9), .val (.int x10), .val (.int x11), .val (.int x12), .val (.int x13), .val (.int x14), .val (.ref b0), .val (.ref b2), .val (.int x17), .val (.int x18), .val (.int y0)] []))
        refine OwnOut.go (fun t k => XT.iconstV X16.here hx rfl (1 : Int32) (hb hby at_263) rfl k) ?_
        show OwnOut p e s below 16 640 _ (T16.setTop (mkF m 264 #[.val (.int x0), .val (.int x1), .val (.int x2), .val (.int x3), .val (.int x4), .val (.int x5), .val (.int x6), .val (.int x7), .val (.int x8), .val (.int x9), .val (.int x10), .val (.int x11), .val (.int x12), .val (.int x13), .val (.int x14), .val (.ref b0), .val (.ref b2), .val (.int x17), .val (.int x18), .val (.int y0)] [(.int (1 : Int32))]))
        refine OwnOut.go (fun t k => XS.goto X16.here hx rfl (pc0 := 264) (pc' := 268) rfl (hb hby at_264) (by decide) (by decide) k) ?_
        show OwnOut p e s below 16 640 _ (T16.setTop (mkF m 268 #[.val (.int x0), .val (.int x1), .val (.int x2), .val (.int x3), .val (.int x4), .val (.int x5), .val (.int x6), .val (.int x7), .val (.int x8), .val (.int x9), .val (.int x10), .val (.int x11), .val (.int x12), .val (.int x13), .val (.int x14), .val (.ref b0), .val (.ref b2), .val (.int x17), .val (.int x18), .val (.int y0)] [(.int (1 : Int32))]))
        exact w0_268 ⟨hx, hZ, hw, hby, hml, hown, hret, hlk, hnm⟩  _ _ _ x0 x1 x2 x3 x4 x5 x6 x7 x8 x9 x10 x11 x12 x13 x14 x17 x18 y0 (1 : Int32) b0 u0_width u0_height b1 l1 b2 l2 _ hr X16 e16 N0 O0 K0 E0 F0_width F0_height F0_values A1 A2 g0 z0 g1 z1 g2 z2 ne0_1 ne0_2 ne1_2
      · rw [if_neg hc260] at hr
        refine OwnOut.go (fun t k => XS.ifYes X16.here hx rfl (pc0 := 260) (pc' := 267) rfl (hb hby at_260) rfl (XT.ll_ne_t hc260) (by decide) (by decide) k) ?_
        show OwnOut p e s below 16 640 _ (T16.setTop (mkF m 267 #[.val (.int x0), .val (.int x1), .val (.int x2), .val (.int x3), .val (.int x4), .val (.int x5), .val (.int x6), .val (.int x7), .val (.int x8), .val (.int x9), .val (.int x10), .val (.int x11), .val (.int x12), .val (.int x13), .val (.int x14), .val (.ref b0), .val (.ref b2), .val (.int x17), .val (.int x18), .val (.int y0)] []))
        exact w0_267 ⟨hx, hZ, hw, hby, hml, hown, hret, hlk, hnm⟩  _ _ _ x0 x1 x2 x3 x4 x5 x6 x7 x8 x9 x10 x11 x12 x13 x14 x17 x18 y0 b0 u0_width u0_height b1 l1 b2 l2 _ hr X16 e16 N0 O0 K0 E0 F0_width F0_height F0_values A1 A2 g0 z0 g1 z1 g2 z2 ne0_1 ne0_2 ne1_2
def f0_195 (x8 : Int32) (x9 : Int32) (x10 : Int32) (x11 : Int32) (x12 : Int32) (x13 : Int32) (x14 : Int32) (x17 : Int32) (x18 : Int32) (l2 : List Int64) : Option (Int32) := ((ldx l2 x8).bind fun v5 => ((f9 x8 x8 x9 x10 x11 x12 x13 x14).bind fun o6 => (if v5 = o6 then (f0_228 x8 x9 x10 x11 x12 x13 x14 x17 x18 (1 : Int32) l2) else (f0_228 x8 x9 x10 x11 x12 x13 x14 x17 x18 (0 : Int32) l2))))
set_option maxRecDepth 65536 in
set_option maxHeartbeats 40000000 in
theorem w0_195 {p : Program} {l : Launch} {e : Env} {s : State} {m : MethodId} {args : Array Value} {below : List Frame} {meth : Method} {c : Code} {Z : State} {a0 : Array Value} {h0 : Heap} {n0 : Nat} (C : Cx0 Z a0 p s m meth c) :
    ∀ (T : State) (locs : List Loc) (hA : Heap) (x0 : Int32) (x1 : Int32) (x2 : Int32) (x3 : Int32) (x4 : Int32) (x5 : Int32) (x6 : Int32) (x7 : Int32) (x8 : Int32) (x9 : Int32) (x10 : Int32) (x11 : Int32) (x12 : Int32) (x13 : Int32) (x14 : Int32) (x17 : Int32) (x18 : Int32) (b0 : Addr) (u0_width : Int32) (u0_height : Int32) (b1 : Addr) (l1 : List Int32) (b2 : Addr) (l2 : List Int64) (o : Int32), f0_195 x8 x9 x10 x11 x12 x13 x14 x17 x18 l2 = some o → Stand p l e room_1 s m args below meth c T locs 3 263 → T.heap = hA → Fr n0 locs → Old Z n0 hA → Keep h0 hA [] → (Exa Z hA b0 "com/example/sinogrid/sinogrid/LuminanceGrid") → (Fld Z hA b0 "com/example/sinogrid/sinogrid/LuminanceGrid" "width" "I" (.int u0_width)) → (Fld Z hA b0 "com/example/sinogrid/sinogrid/LuminanceGrid" "height" "I" (.int u0_height)) → (Fld Z hA b0 "com/example/sinogrid/sinogrid/LuminanceGrid" "values" "[B" (.ref b1)) → (Ari Z hA b1 .byte l1) → (Arj Z hA b2 l2) → (n0 ≤ b0) → (h0.size ≤ b0) → (n0 ≤ b1) → (h0.size ≤ b1) → (n0 ≤ b2) → (h0.size ≤ b2) → (b0 ≠ b1) → (b0 ≠ b2) → (b1 ≠ b2) →  OwnOut p e s below 16 640 (Q0 Z default default default default default default h0 n0 o) (T.setTop (mkF m 195 #[.val (.int x0), .val (.int x1), .val (.int x2), .val (.int x3), .val (.int x4), .val (.int x5), .val (.int x6), .val (.int x7), .val (.int x8), .val (.int x9), .val (.int x10), .val (.int x11), .val (.int x12), .val (.int x13), .val (.int x14), .val (.ref b0), .val (.ref b2), .val (.int x17), .val (.int x18), .unset] [])) := by
    obtain ⟨hx, hZ, hw, hby, hml, hown, hret, hlk, hnm⟩ := C
    intro T locs hA x0 x1 x2 x3 x4 x5 x6 x7 x8 x9 x10 x11 x12 x13 x14 x17 x18 b0 u0_width u0_height b1 l1 b2 l2 o hr X0 e0 N0 O0 K0 E0 F0_width F0_height F0_values A1 A2 g0 z0 g1 z1 g2 z2 ne0_1 ne0_2 ne1_2
    rw [f0_195] at hr
    refine OwnOut.go (fun t k => XS.aload X0.here hx rfl (hb hby at_195) rfl rfl k) ?_
    show OwnOut p e s below 16 640 _ (T.setTop (mkF m 197 #[.val (.int x0), .val (.int x1), .val (.int x2), .val (.int x3), .val (.int x4), .val (.int x5), .val (.int x6), .val (.int x7), .val (.int x8), .val (.int x9), .val (.int x10), .val (.int x11), .val (.int x12), .val (.int x13), .val (.int x14), .val (.ref b0), .val (.ref b2), .val (.int x17), .val (.int x18), .unset] [(.ref b2)]))
    refine OwnOut.go (fun t k => XS.iload X0.here hx rfl (hb hby at_197) rfl k) ?_
    show OwnOut p e s below 16 640 _ (T.setTop (mkF m 199 #[.val (.int x0), .val (.int x1), .val (.int x2), .val (.int x3), .val (.int x4), .val (.int x5), .val (.int x6), .val (.int x7), .val (.int x8), .val (.int x9), .val (.int x10), .val (.int x11), .val (.int x12), .val (.int x13), .val (.int x14), .val (.ref b0), .val (.ref b2), .val (.int x17), .val (.int x18), .unset] [(.int x8), (.ref b2)]))
    obtain ⟨v5, hv5, hr⟩ := Option.bind_eq_some_iff.mp hr
    refine OwnOut.go (fun t k => ldJ X0 hx hZ e0 A2 hv5 (g := (mkF m 199 #[.val (.int x0), .val (.int x1), .val (.int x2), .val (.int x3), .val (.int x4), .val (.int x5), .val (.int x6), .val (.int x7), .val (.int x8), .val (.int x9), .val (.int x10), .val (.int x11), .val (.int x12), .val (.int x13), .val (.int x14), .val (.ref b0), .val (.ref b2), .val (.int x17), .val (.int x18), .unset] [(.int x8), (.ref b2)])) rfl rfl (hb hby at_199) t k) ?_
    show OwnOut p e s below 16 640 _ (T.setTop (mkF m 200 #[.val (.int x0), .val (.int x1), .val (.int x2), .val (.int x3), .val (.int x4), .val (.int x5), .val (.int x6), .val (.int x7), .val (.int x8), .val (.int x9), .val (.int x10), .val (.int x11), .val (.int x12), .val (.int x13), .val (.int x14), .val (.ref b0), .val (.ref b2), .val (.int x17), .val (.int x18), .unset] [(.long v5)]))
    refine OwnOut.go (fun t k => XS.iload X0.here hx rfl (hb hby at_200) rfl k) ?_
    show OwnOut p e s below 16 640 _ (T.setTop (mkF m 202 #[.val (.int x0), .val (.int x1), .val (.int x2), .val (.int x3), .val (.int x4), .val (.int x5), .val (.int x6), .val (.int x7), .val (.int x8), .val (.int x9), .val (.int x10), .val (.int x11), .val (.int x12), .val (.int x13), .val (.int x14), .val (.ref b0), .val (.ref b2), .val (.int x17), .val (.int x18), .unset] [(.int x8), (.long v5)]))
    refine OwnOut.go (fun t k => XS.iload X0.here hx rfl (hb hby at_202) rfl k) ?_
    show OwnOut p e s below 16 640 _ (T.setTop (mkF m 204 #[.val (.int x0), .val (.int x1), .val (.int x2), .val (.int x3), .val (.int x4), .val (.int x5), .val (.int x6), .val (.int x7), .val (.int x8), .val (.int x9), .val (.int x10), .val (.int x11), .val (.int x12), .val (.int x13), .val (.int x14), .val (.ref b0), .val (.ref b2), .val (.int x17), .val (.int x18), .unset] [(.int x8), (.int x8), (.long v5)]))
    refine OwnOut.go (fun t k => XS.iload X0.here hx rfl (hb hby at_204) rfl k) ?_
    show OwnOut p e s below 16 640 _ (T.setTop (mkF m 206 #[.val (.int x0), .val (.int x1), .val (.int x2), .val (.int x3), .val (.int x4), .val (.int x5), .val (.int x6), .val (.int x7), .val (.int x8), .val (.int x9), .val (.int x10), .val (.int x11), .val (.int x12), .val (.int x13), .val (.int x14), .val (.ref b0), .val (.ref b2), .val (.int x17), .val (.int x18), .unset] [(.int x9), (.int x8), (.int x8), (.long v5)]))
    refine OwnOut.go (fun t k => XS.iload X0.here hx rfl (hb hby at_206) rfl k) ?_
    show OwnOut p e s below 16 640 _ (T.setTop (mkF m 208 #[.val (.int x0), .val (.int x1), .val (.int x2), .val (.int x3), .val (.int x4), .val (.int x5), .val (.int x6), .val (.int x7), .val (.int x8), .val (.int x9), .val (.int x10), .val (.int x11), .val (.int x12), .val (.int x13), .val (.int x14), .val (.ref b0), .val (.ref b2), .val (.int x17), .val (.int x18), .unset] [(.int x10), (.int x9), (.int x8), (.int x8), (.long v5)]))
    refine OwnOut.go (fun t k => XS.iload X0.here hx rfl (hb hby at_208) rfl k) ?_
    show OwnOut p e s below 16 640 _ (T.setTop (mkF m 210 #[.val (.int x0), .val (.int x1), .val (.int x2), .val (.int x3), .val (.int x4), .val (.int x5), .val (.int x6), .val (.int x7), .val (.int x8), .val (.int x9), .val (.int x10), .val (.int x11), .val (.int x12), .val (.int x13), .val (.int x14), .val (.ref b0), .val (.ref b2), .val (.int x17), .val (.int x18), .unset] [(.int x11), (.int x10), (.int x9), (.int x8), (.int x8), (.long v5)]))
    refine OwnOut.go (fun t k => XS.iload X0.here hx rfl (hb hby at_210) rfl k) ?_
    show OwnOut p e s below 16 640 _ (T.setTop (mkF m 212 #[.val (.int x0), .val (.int x1), .val (.int x2), .val (.int x3), .val (.int x4), .val (.int x5), .val (.int x6), .val (.int x7), .val (.int x8), .val (.int x9), .val (.int x10), .val (.int x11), .val (.int x12), .val (.int x13), .val (.int x14), .val (.ref b0), .val (.ref b2), .val (.int x17), .val (.int x18), .unset] [(.int x12), (.int x11), (.int x10), (.int x9), (.int x8), (.int x8), (.long v5)]))
    refine OwnOut.go (fun t k => XS.iload X0.here hx rfl (hb hby at_212) rfl k) ?_
    show OwnOut p e s below 16 640 _ (T.setTop (mkF m 214 #[.val (.int x0), .val (.int x1), .val (.int x2), .val (.int x3), .val (.int x4), .val (.int x5), .val (.int x6), .val (.int x7), .val (.int x8), .val (.int x9), .val (.int x10), .val (.int x11), .val (.int x12), .val (.int x13), .val (.int x14), .val (.ref b0), .val (.ref b2), .val (.int x17), .val (.int x18), .unset] [(.int x13), (.int x12), (.int x11), (.int x10), (.int x9), (.int x8), (.int x8), (.long v5)]))
    refine OwnOut.go (fun t k => XS.iload X0.here hx rfl (hb hby at_214) rfl k) ?_
    show OwnOut p e s below 16 640 _ (T.setTop (mkF m 216 #[.val (.int x0), .val (.int x1), .val (.int x2), .val (.int x3), .val (.int x4), .val (.int x5), .val (.int x6), .val (.int x7), .val (.int x8), .val (.int x9), .val (.int x10), .val (.int x11), .val (.int x12), .val (.int x13), .val (.int x14), .val (.ref b0), .val (.ref b2), .val (.int x17), .val (.int x18), .unset] [(.int x14), (.int x13), (.int x12), (.int x11), (.int x10), (.int x9), (.int x8), (.int x8), (.long v5)]))
    obtain ⟨o6, ho6, hr⟩ := Option.bind_eq_some_iff.mp hr
    obtain ⟨r6, T6, L6, X6', hQ6, st6⟩ := callQ (W := 2) (rm := rx9) X0 hx hZ (y := (⟨"com/example/sinogrid/sinogrid/LuminanceGridHistogramPinLaw", "count", "(IIIIIZZZ)J"⟩ : MethodName)) hown (hw _ (List.mem_of_getElem? (i := 44) rfl)) (hw _ (List.mem_of_getElem? (i := 45) rfl)) (hw _ (List.mem_of_getElem? (i := 46) rfl)) (hw _ (List.mem_of_getElem? (i := 47) rfl)) (by decide) (rm9 l Z a0 hw [] x8 x8 x9 x10 x11 x12 x13 x14 hA o6 ho6 ) (by decide) (by decide) (by decide) (by decide) e0 (g := (mkF m 216 #[.val (.int x0), .val (.int x1), .val (.int x2), .val (.int x3), .val (.int x4), .val (.int x5), .val (.int x6), .val (.int x7), .val (.int x8), .val (.int x9), .val (.int x10), .val (.int x11), .val (.int x12), .val (.int x13), .val (.int x14), .val (.ref b0), .val (.ref b2), .val (.int x17), .val (.int x18), .unset] [(.int x14), (.int x13), (.int x12), (.int x11), (.int x10), (.int x9), (.int x8), (.int x8), (.long v5)])) rfl (by rw [hml]; rfl) (argsL := [(.int x8), (.int x8), (.int x9), (.int x10), (.int x11), (.int x12), (.int x13), (.int x14)]) (rest := [(.long v5)]) (lenOf pd9 rfl) rfl (by show 2 * 0 + _ ≤ _; exact Nat.le_of_eq rfl) (hb hby at_216)
    obtain ⟨rfl, e6, rfl⟩ := hQ6
    rw [List.append_nil] at X6'
    have X6 : Stand p l e room_1 s m args below meth c T6 _ 3 263 := X6'
    refine OwnOut.go (fun t k => st6 _ k) ?_
    show OwnOut p e s below 16 640 _ (T6.setTop (mkF m 219 #[.val (.int x0), .val (.int x1), .val (.int x2), .val (.int x3), .val (.int x4), .val (.int x5), .val (.int x6), .val (.int x7), .val (.int x8), .val (.int x9), .val (.int x10), .val (.int x11), .val (.int x12), .val (.int x13), .val (.int x14), .val (.ref b0), .val (.ref b2), .val (.int x17), .val (.int x18), .unset] [(.long o6), (.long v5)]))
    refine OwnOut.go (fun t k => XS.lcmp X6.here hx rfl (hb hby at_219) rfl k) ?_
    show OwnOut p e s below 16 640 _ (T6.setTop (mkF m 220 #[.val (.int x0), .val (.int x1), .val (.int x2), .val (.int x3), .val (.int x4), .val (.int x5), .val (.int x6), .val (.int x7), .val (.int x8), .val (.int x9), .val (.int x10), .val (.int x11), .val (.int x12), .val (.int x13), .val (.int x14), .val (.ref b0), .val (.ref b2), .val (.int x17), .val (.int x18), .unset] [(.int (XT.cmpL v5 o6))]))
    by_cases hc220 : v5 = o6
    · rw [if_pos hc220] at hr
      refine OwnOut.go (fun t k => XS.ifNo X6.here hx rfl (hb hby at_220) rfl (XT.ll_ne_f hc220) k) ?_
      show OwnOut p e s below 16 640 _ (T6.setTop (mkF m 223 #[.val (.int x0), .val (.int x1), .val (.int x2), .val (.int x3), .val (.int x4), .val (.int x5), .val (.int x6), .val (.int x7), .val (.int x8), .val (.int x9), .val (.int x10), .val (.int x11), .val (.int x12), .val (.int x13), .val (.int x14), .val (.ref b0), .val (.ref b2), .val (.int x17), .val (.int x18), .unset] []))
      refine OwnOut.go (fun t k => XT.iconstV X6.here hx rfl (1 : Int32) (hb hby at_223) rfl k) ?_
      show OwnOut p e s below 16 640 _ (T6.setTop (mkF m 224 #[.val (.int x0), .val (.int x1), .val (.int x2), .val (.int x3), .val (.int x4), .val (.int x5), .val (.int x6), .val (.int x7), .val (.int x8), .val (.int x9), .val (.int x10), .val (.int x11), .val (.int x12), .val (.int x13), .val (.int x14), .val (.ref b0), .val (.ref b2), .val (.int x17), .val (.int x18), .unset] [(.int (1 : Int32))]))
      refine OwnOut.go (fun t k => XS.goto X6.here hx rfl (pc0 := 224) (pc' := 228) rfl (hb hby at_224) (by decide) (by decide) k) ?_
      show OwnOut p e s below 16 640 _ (T6.setTop (mkF m 228 #[.val (.int x0), .val (.int x1), .val (.int x2), .val (.int x3), .val (.int x4), .val (.int x5), .val (.int x6), .val (.int x7), .val (.int x8), .val (.int x9), .val (.int x10), .val (.int x11), .val (.int x12), .val (.int x13), .val (.int x14), .val (.ref b0), .val (.ref b2), .val (.int x17), .val (.int x18), .unset] [(.int (1 : Int32))]))
      exact w0_228 ⟨hx, hZ, hw, hby, hml, hown, hret, hlk, hnm⟩  _ _ _ x0 x1 x2 x3 x4 x5 x6 x7 x8 x9 x10 x11 x12 x13 x14 x17 x18 (1 : Int32) b0 u0_width u0_height b1 l1 b2 l2 _ hr X6 e6 N0 O0 K0 E0 F0_width F0_height F0_values A1 A2 g0 z0 g1 z1 g2 z2 ne0_1 ne0_2 ne1_2
    · rw [if_neg hc220] at hr
      refine OwnOut.go (fun t k => XS.ifYes X6.here hx rfl (pc0 := 220) (pc' := 227) rfl (hb hby at_220) rfl (XT.ll_ne_t hc220) (by decide) (by decide) k) ?_
      show OwnOut p e s below 16 640 _ (T6.setTop (mkF m 227 #[.val (.int x0), .val (.int x1), .val (.int x2), .val (.int x3), .val (.int x4), .val (.int x5), .val (.int x6), .val (.int x7), .val (.int x8), .val (.int x9), .val (.int x10), .val (.int x11), .val (.int x12), .val (.int x13), .val (.int x14), .val (.ref b0), .val (.ref b2), .val (.int x17), .val (.int x18), .unset] []))
      refine OwnOut.go (fun t k => XT.iconstV X6.here hx rfl (0 : Int32) (hb hby at_227) rfl k) ?_
      show OwnOut p e s below 16 640 _ (T6.setTop (mkF m 228 #[.val (.int x0), .val (.int x1), .val (.int x2), .val (.int x3), .val (.int x4), .val (.int x5), .val (.int x6), .val (.int x7), .val (.int x8), .val (.int x9), .val (.int x10), .val (.int x11), .val (.int x12), .val (.int x13), .val (.int x14), .val (.ref b0), .val (.ref b2), .val (.int x17), .val (.int x18), .unset] [(.int (0 : Int32))]))
      exact w0_228 ⟨hx, hZ, hw, hby, hml, hown, hret, hlk, hnm⟩  _ _ _ x0 x1 x2 x3 x4 x5 x6 x7 x8 x9 x10 x11 x12 x13 x14 x17 x18 (0 : Int32) b0 u0_width u0_height b1 l1 b2 l2 _ hr X6 e6 N0 O0 K0 E0 F0_width F0_height F0_values A1 A2 g0 z0 g1 z1 g2 z2 ne0_1 ne0_2 ne1_2
def f0_153 (x5 : Int32) (x8 : Int32) (x9 : Int32) (x10 : Int32) (x11 : Int32) (x12 : Int32) (x13 : Int32) (x14 : Int32) (u0_width : Int32) (u0_height : Int32) (l1 : List Int32) : Option (Int32) := ((f8 u0_width u0_height l1).bind fun o4 => (if (lenx o4) = (256 : Int32) then (f0_195 x8 x9 x10 x11 x12 x13 x14 (x5 &&& (255 : Int32)) (((x5.toUInt32 >>> ((8 : Int32) &&& 31).toUInt32).toInt32) &&& (255 : Int32)) o4) else some ((0 : Int32))))
set_option maxRecDepth 65536 in
set_option maxHeartbeats 40000000 in
theorem w0_153 {p : Program} {l : Launch} {e : Env} {s : State} {m : MethodId} {args : Array Value} {below : List Frame} {meth : Method} {c : Code} {Z : State} {a0 : Array Value} {h0 : Heap} {n0 : Nat} (C : Cx0 Z a0 p s m meth c) :
    ∀ (T : State) (locs : List Loc) (hA : Heap) (x0 : Int32) (x1 : Int32) (x2 : Int32) (x3 : Int32) (x4 : Int32) (x5 : Int32) (x6 : Int32) (x7 : Int32) (x8 : Int32) (x9 : Int32) (x10 : Int32) (x11 : Int32) (x12 : Int32) (x13 : Int32) (x14 : Int32) (b0 : Addr) (u0_width : Int32) (u0_height : Int32) (b1 : Addr) (l1 : List Int32) (o : Int32), f0_153 x5 x8 x9 x10 x11 x12 x13 x14 u0_width u0_height l1 = some o → Stand p l e room_1 s m args below meth c T locs 2 7 → T.heap = hA → Fr n0 locs → Old Z n0 hA → Keep h0 hA [] → (Exa Z hA b0 "com/example/sinogrid/sinogrid/LuminanceGrid") → (Fld Z hA b0 "com/example/sinogrid/sinogrid/LuminanceGrid" "width" "I" (.int u0_width)) → (Fld Z hA b0 "com/example/sinogrid/sinogrid/LuminanceGrid" "height" "I" (.int u0_height)) → (Fld Z hA b0 "com/example/sinogrid/sinogrid/LuminanceGrid" "values" "[B" (.ref b1)) → (Ari Z hA b1 .byte l1) → (n0 ≤ b0) → (h0.size ≤ b0) → (n0 ≤ b1) → (h0.size ≤ b1) → (b0 ≠ b1) →  OwnOut p e s below 16 640 (Q0 Z default default default default default default h0 n0 o) (T.setTop (mkF m 153 #[.val (.int x0), .val (.int x1), .val (.int x2), .val (.int x3), .val (.int x4), .val (.int x5), .val (.int x6), .val (.int x7), .val (.int x8), .val (.int x9), .val (.int x10), .val (.int x11), .val (.int x12), .val (.int x13), .val (.int x14), .val (.ref b0), .unset, .unset, .unset, .unset] [])) := by
    obtain ⟨hx, hZ, hw, hby, hml, hown, hret, hlk, hnm⟩ := C
    intro T locs hA x0 x1 x2 x3 x4 x5 x6 x7 x8 x9 x10 x11 x12 x13 x14 b0 u0_width u0_height b1 l1 o hr X0 e0 N0 O0 K0 E0 F0_width F0_height F0_values A1 g0 z0 g1 z1 ne0_1
    rw [f0_153] at hr
    refine OwnOut.go (fun t k => XS.aload X0.here hx rfl (hb hby at_153) rfl rfl k) ?_
    show OwnOut p e s below 16 640 _ (T.setTop (mkF m 155 #[.val (.int x0), .val (.int x1), .val (.int x2), .val (.int x3), .val (.int x4), .val (.int x5), .val (.int x6), .val (.int x7), .val (.int x8), .val (.int x9), .val (.int x10), .val (.int x11), .val (.int x12), .val (.int x13), .val (.int x14), .val (.ref b0), .unset, .unset, .unset, .unset] [(.ref b0)]))
    obtain ⟨o4, ho4, hr⟩ := Option.bind_eq_some_iff.mp hr
    obtain ⟨r4, T4, L4, X4', hQ4, st4⟩ := callV (W := 0) (rm := rx8) X0 hx hZ (y := (⟨"com/example/sinogrid/sinogrid/LuminanceGrid", "histogram", "()[J"⟩ : MethodName)) hown (hw _ (List.mem_of_getElem? (i := 38) rfl)) (hw _ (List.mem_of_getElem? (i := 39) rfl)) (hw _ (List.mem_of_getElem? (i := 41) rfl)) (hw _ (List.mem_of_getElem? (i := 40) rfl)) (hw _ (List.mem_of_getElem? (i := 2) rfl)) (hw _ (List.mem_of_getElem? (i := 42) rfl)) (by decide) (rm8 l Z a0 hw [] b0 u0_width u0_height b1 l1 hA n0 o4 ho4 O0 E0 F0_width F0_height F0_values A1 g0 g1 ne0_1) (by decide) (by decide) (by decide) (by decide) e0 E0 (g := (mkF m 155 #[.val (.int x0), .val (.int x1), .val (.int x2), .val (.int x3), .val (.int x4), .val (.int x5), .val (.int x6), .val (.int x7), .val (.int x8), .val (.int x9), .val (.int x10), .val (.int x11), .val (.int x12), .val (.int x13), .val (.int x14), .val (.ref b0), .unset, .unset, .unset, .unset] [(.ref b0)])) rfl (by rw [hml]; rfl) (argsL := []) (rest := []) (lenOf pd8 rfl) rfl (by show 2 * 0 + _ ≤ _; exact Nat.le_of_eq rfl) (hb hby at_155)
    obtain ⟨c4_0, rfl, Nq4, Kq4, zq4_0, gq4_0, Aq4_0⟩ := hQ4
    have X4 : Stand p l e room_1 s m args below meth c T4 _ 3 263 := X4'
    have ne0_2_4 : b0 ≠ c4_0 := Nat.ne_of_lt (Nat.lt_of_lt_of_le E0.lt zq4_0)
    have ne1_2_4 : b1 ≠ c4_0 := Nat.ne_of_lt (Nat.lt_of_lt_of_le A1.lt zq4_0)
    have z_4_0 : h0.size ≤ c4_0 := Nat.le_trans K0.1 zq4_0
    have E0_4 := E0.keep Kq4
    have F0_width_4 := F0_width.keep Kq4 nin0
    have F0_height_4 := F0_height.keep Kq4 nin0
    have F0_values_4 := F0_values.keep Kq4 nin0
    have A1_4 := A1.keep Kq4 nin0
    have N_4 := Fr.app N0 Nq4
    have O_4 := O0.keep Kq4 all0
    have K_4 := K0.trans Kq4 all0
    refine OwnOut.go (fun t k => st4 _ k) ?_
    show OwnOut p e s below 16 640 _ (T4.setTop (mkF m 158 #[.val (.int x0), .val (.int x1), .val (.int x2), .val (.int x3), .val (.int x4), .val (.int x5), .val (.int x6), .val (.int x7), .val (.int x8), .val (.int x9), .val (.int x10), .val (.int x11), .val (.int x12), .val (.int x13), .val (.int x14), .val (.ref b0), .unset, .unset, .unset, .unset] [(.ref c4_0)]))
    refine OwnOut.go (fun t k => XS.astore X4.here hx rfl (hb hby at_158) rfl rfl (l' := #[.val (.int x0), .val (.int x1), .val (.int x2), .val (.int x3), .val (.int x4), .val (.int x5), .val (.int x6), .val (.int x7), .val (.int x8), .val (.int x9), .val (.int x10), .val (.int x11), .val (.int x12), .val (.int x13), .val (.int x14), .val (.ref b0), .val (.ref c4_0), .unset, .unset, .unset]) rfl k) ?_
    show OwnOut p e s below 16 640 _ (T4.setTop (mkF m 160 #[.val (.int x0), .val (.int x1), .val (.int x2), .val (.int x3), .val (.int x4), .val (.int x5), .val (.int x6), .val (.int x7), .val (.int x8), .val (.int x9), .val (.int x10), .val (.int x11), .val (.int x12), .val (.int x13), .val (.int x14), .val (.ref b0), .val (.ref c4_0), .unset, .unset, .unset] []))
    refine OwnOut.go (fun t k => XS.aload X4.here hx rfl (hb hby at_160) rfl rfl k) ?_
    show OwnOut p e s below 16 640 _ (T4.setTop (mkF m 162 #[.val (.int x0), .val (.int x1), .val (.int x2), .val (.int x3), .val (.int x4), .val (.int x5), .val (.int x6), .val (.int x7), .val (.int x8), .val (.int x9), .val (.int x10), .val (.int x11), .val (.int x12), .val (.int x13), .val (.int x14), .val (.ref b0), .val (.ref c4_0), .unset, .unset, .unset] [(.ref c4_0)]))
    refine OwnOut.go (fun t k => XS.ifnullNo X4.here hx rfl (hb hby at_162) rfl k) ?_
    show OwnOut p e s below 16 640 _ (T4.setTop (mkF m 165 #[.val (.int x0), .val (.int x1), .val (.int x2), .val (.int x3), .val (.int x4), .val (.int x5), .val (.int x6), .val (.int x7), .val (.int x8), .val (.int x9), .val (.int x10), .val (.int x11), .val (.int x12), .val (.int x13), .val (.int x14), .val (.ref b0), .val (.ref c4_0), .unset, .unset, .unset] []))
    refine OwnOut.go (fun t k => XS.aload X4.here hx rfl (hb hby at_165) rfl rfl k) ?_
    show OwnOut p e s below 16 640 _ (T4.setTop (mkF m 167 #[.val (.int x0), .val (.int x1), .val (.int x2), .val (.int x3), .val (.int x4), .val (.int x5), .val (.int x6), .val (.int x7), .val (.int x8), .val (.int x9), .val (.int x10), .val (.int x11), .val (.int x12), .val (.int x13), .val (.int x14), .val (.ref b0), .val (.ref c4_0), .unset, .unset, .unset] [(.ref c4_0)]))
    refine OwnOut.go (fun t k => lenA X4 hx hZ rfl Aq4_0 (g := (mkF m 167 #[.val (.int x0), .val (.int x1), .val (.int x2), .val (.int x3), .val (.int x4), .val (.int x5), .val (.int x6), .val (.int x7), .val (.int x8), .val (.int x9), .val (.int x10), .val (.int x11), .val (.int x12), .val (.int x13), .val (.int x14), .val (.ref b0), .val (.ref c4_0), .unset, .unset, .unset] [(.ref c4_0)])) rfl rfl (hb hby at_167) t k) ?_
    show OwnOut p e s below 16 640 _ (T4.setTop (mkF m 168 #[.val (.int x0), .val (.int x1), .val (.int x2), .val (.int x3), .val (.int x4), .val (.int x5), .val (.int x6), .val (.int x7), .val (.int x8), .val (.int x9), .val (.int x10), .val (.int x11), .val (.int x12), .val (.int x13), .val (.int x14), .val (.ref b0), .val (.ref c4_0), .unset, .unset, .unset] [(.int (lenx o4))]))
    refine OwnOut.go (fun t k => XT.sipushV X4.here hx rfl (256 : Int32) (hb hby at_168) rfl k) ?_
    show OwnOut p e s below 16 640 _ (T4.setTop (mkF m 171 #[.val (.int x0), .val (.int x1), .val (.int x2), .val (.int x3), .val (.int x4), .val (.int x5), .val (.int x6), .val (.int x7), .val (.int x8), .val (.int x9), .val (.int x10), .val (.int x11), .val (.int x12), .val (.int x13), .val (.int x14), .val (.ref b0), .val (.ref c4_0), .unset, .unset, .unset] [(.int (256 : Int32)), (.int (lenx o4))]))
    by_cases hc171 : (lenx o4) = (256 : Int32)
    · rw [if_pos hc171] at hr
      refine OwnOut.go (fun t k => XS.icmpYes X4.here hx rfl (pc0 := 171) (pc' := 176) rfl (hb hby at_171) rfl (XT.ii_eq_t hc171) (by decide) (by decide) k) ?_
      show OwnOut p e s below 16 640 _ (T4.setTop (mkF m 176 #[.val (.int x0), .val (.int x1), .val (.int x2), .val (.int x3), .val (.int x4), .val (.int x5), .val (.int x6), .val (.int x7), .val (.int x8), .val (.int x9), .val (.int x10), .val (.int x11), .val (.int x12), .val (.int x13), .val (.int x14), .val (.ref b0), .val (.ref c4_0), .unset, .unset, .unset] []))
      refine OwnOut.go (fun t k => XS.iload X4.here hx rfl (hb hby at_176) rfl k) ?_
      show OwnOut p e s below 16 640 _ (T4.setTop (mkF m 178 #[.val (.int x0), .val (.int x1), .val (.int x2), .val (.int x3), .val (.int x4), .val (.int x5), .val (.int x6), .val (.int x7), .val (.int x8), .val (.int x9), .val (.int x10), .val (.int x11), .val (.int x12), .val (.int x13), .val (.int x14), .val (.ref b0), .val (.ref c4_0), .unset, .unset, .unset] [(.int x5)]))
      refine OwnOut.go (fun t k => XT.sipushV X4.here hx rfl (255 : Int32) (hb hby at_178) rfl k) ?_
      show OwnOut p e s below 16 640 _ (T4.setTop (mkF m 181 #[.val (.int x0), .val (.int x1), .val (.int x2), .val (.int x3), .val (.int x4), .val (.int x5), .val (.int x6), .val (.int x7), .val (.int x8), .val (.int x9), .val (.int x10), .val (.int x11), .val (.int x12), .val (.int x13), .val (.int x14), .val (.ref b0), .val (.ref c4_0), .unset, .unset, .unset] [(.int (255 : Int32)), (.int x5)]))
      refine OwnOut.go (fun t k => XS.iand X4.here hx rfl (hb hby at_181) rfl k) ?_
      show OwnOut p e s below 16 640 _ (T4.setTop (mkF m 182 #[.val (.int x0), .val (.int x1), .val (.int x2), .val (.int x3), .val (.int x4), .val (.int x5), .val (.int x6), .val (.int x7), .val (.int x8), .val (.int x9), .val (.int x10), .val (.int x11), .val (.int x12), .val (.int x13), .val (.int x14), .val (.ref b0), .val (.ref c4_0), .unset, .unset, .unset] [(.int (x5 &&& (255 : Int32)))]))
      refine OwnOut.go (fun t k => XS.istore X4.here hx rfl (hb hby at_182) rfl (l' := #[.val (.int x0), .val (.int x1), .val (.int x2), .val (.int x3), .val (.int x4), .val (.int x5), .val (.int x6), .val (.int x7), .val (.int x8), .val (.int x9), .val (.int x10), .val (.int x11), .val (.int x12), .val (.int x13), .val (.int x14), .val (.ref b0), .val (.ref c4_0), .val (.int (x5 &&& (255 : Int32))), .unset, .unset]) rfl k) ?_
      show OwnOut p e s below 16 640 _ (T4.setTop (mkF m 184 #[.val (.int x0), .val (.int x1), .val (.int x2), .val (.int x3), .val (.int x4), .val (.int x5), .val (.int x6), .val (.int x7), .val (.int x8), .val (.int x9), .val (.int x10), .val (.int x11), .val (.int x12), .val (.int x13), .val (.int x14), .val (.ref b0), .val (.ref c4_0), .val (.int (x5 &&& (255 : Int32))), .unset, .unset] []))
      refine OwnOut.go (fun t k => XS.iload X4.here hx rfl (hb hby at_184) rfl k) ?_
      show OwnOut p e s below 16 640 _ (T4.setTop (mkF m 186 #[.val (.int x0), .val (.int x1), .val (.int x2), .val (.int x3), .val (.int x4), .val (.int x5), .val (.int x6), .val (.int x7), .val (.int x8), .val (.int x9), .val (.int x10), .val (.int x11), .val (.int x12), .val (.int x13), .val (.int x14), .val (.ref b0), .val (.ref c4_0), .val (.int (x5 &&& (255 : Int32))), .unset, .unset] [(.int x5)]))
      refine OwnOut.go (fun t k => XT.bipushV X4.here hx rfl (8 : Int32) (hb hby at_186) rfl k) ?_
      show OwnOut p e s below 16 640 _ (T4.setTop (mkF m 188 #[.val (.int x0), .val (.int x1), .val (.int x2), .val (.int x3), .val (.int x4), .val (.int x5), .val (.int x6), .val (.int x7), .val (.int x8), .val (.int x9), .val (.int x10), .val (.int x11), .val (.int x12), .val (.int x13), .val (.int x14), .val (.ref b0), .val (.ref c4_0), .val (.int (x5 &&& (255 : Int32))), .unset, .unset] [(.int (8 : Int32)), (.int x5)]))
      refine OwnOut.go (fun t k => XS.iushr X4.here hx rfl (hb hby at_188) rfl k) ?_
      show OwnOut p e s below 16 640 _ (T4.setTop (mkF m 189 #[.val (.int x0), .val (.int x1), .val (.int x2), .val (.int x3), .val (.int x4), .val (.int x5), .val (.int x6), .val (.int x7), .val (.int x8), .val (.int x9), .val (.int x10), .val (.int x11), .val (.int x12), .val (.int x13), .val (.int x14), .val (.ref b0), .val (.ref c4_0), .val (.int (x5 &&& (255 : Int32))), .unset, .unset] [(.int ((x5.toUInt32 >>> ((8 : Int32) &&& 31).toUInt32).toInt32))]))
      refine OwnOut.go (fun t k => XT.sipushV X4.here hx rfl (255 : Int32) (hb hby at_189) rfl k) ?_
      show OwnOut p e s below 16 640 _ (T4.setTop (mkF m 192 #[.val (.int x0), .val (.int x1), .val (.int x2), .val (.int x3), .val (.int x4), .val (.int x5), .val (.int x6), .val (.int x7), .val (.int x8), .val (.int x9), .val (.int x10), .val (.int x11), .val (.int x12), .val (.int x13), .val (.int x14), .val (.ref b0), .val (.ref c4_0), .val (.int (x5 &&& (255 : Int32))), .unset, .unset] [(.int (255 : Int32)), (.int ((x5.toUInt32 >>> ((8 : Int32) &&& 31).toUInt32).toInt32))]))
      refine OwnOut.go (fun t k => XS.iand X4.here hx rfl (hb hby at_192) rfl k) ?_
      show OwnOut p e s below 16 640 _ (T4.setTop (mkF m 193 #[.val (.int x0), .val (.int x1), .val (.int x2), .val (.int x3), .val (.int x4), .val (.int x5), .val (.int x6), .val (.int x7), .val (.int x8), .val (.int x9), .val (.int x10), .val (.int x11), .val (.int x12), .val (.int x13), .val (.int x14), .val (.ref b0), .val (.ref c4_0), .val (.int (x5 &&& (255 : Int32))), .unset, .unset] [(.int (((x5.toUInt32 >>> ((8 : Int32) &&& 31).toUInt32).toInt32) &&& (255 : Int32)))]))
      refine OwnOut.go (fun t k => XS.istore X4.here hx rfl (hb hby at_193) rfl (l' := #[.val (.int x0), .val (.int x1), .val (.int x2), .val (.int x3), .val (.int x4), .val (.int x5), .val (.int x6), .val (.int x7), .val (.int x8), .val (.int x9), .val (.int x10), .val (.int x11), .val (.int x12), .val (.int x13), .val (.int x14), .val (.ref b0), .val (.ref c4_0), .val (.int (x5 &&& (255 : Int32))), .val (.int (((x5.toUInt32 >>> ((8 : Int32) &&& 31).toUInt32).toInt32) &&& (255 : Int32))), .unset]) rfl k) ?_
      show OwnOut p e s below 16 640 _ (T4.setTop (mkF m 195 #[.val (.int x0), .val (.int x1), .val (.int x2), .val (.int x3), .val (.int x4), .val (.int x5), .val (.int x6), .val (.int x7), .val (.int x8), .val (.int x9), .val (.int x10), .val (.int x11), .val (.int x12), .val (.int x13), .val (.int x14), .val (.ref b0), .val (.ref c4_0), .val (.int (x5 &&& (255 : Int32))), .val (.int (((x5.toUInt32 >>> ((8 : Int32) &&& 31).toUInt32).toInt32) &&& (255 : Int32))), .unset] []))
      exact w0_195 ⟨hx, hZ, hw, hby, hml, hown, hret, hlk, hnm⟩  _ _ _ x0 x1 x2 x3 x4 x5 x6 x7 x8 x9 x10 x11 x12 x13 x14 (x5 &&& (255 : Int32)) (((x5.toUInt32 >>> ((8 : Int32) &&& 31).toUInt32).toInt32) &&& (255 : Int32)) b0 u0_width u0_height b1 l1 c4_0 o4 _ hr X4 rfl N_4 O_4 K_4 E0_4 F0_width_4 F0_height_4 F0_values_4 A1_4 Aq4_0 g0 z0 g1 z1 gq4_0 z_4_0 ne0_1 ne0_2_4 ne1_2_4
    · rw [if_neg hc171] at hr
      refine OwnOut.go (fun t k => XS.icmpNo X4.here hx rfl (hb hby at_171) rfl (XT.ii_eq_f hc171) k) ?_
      show OwnOut p e s below 16 640 _ (T4.setTop (mkF m 174 #[.val (.int x0), .val (.int x1), .val (.int x2), .val (.int x3), .val (.int x4), .val (.int x5), .val (.int x6), .val (.int x7), .val (.int x8), .val (.int x9), .val (.int x10), .val (.int x11), .val (.int x12), .val (.int x13), .val (.int x14), .val (.ref b0), .val (.ref c4_0), .unset, .unset, .unset] []))
      refine OwnOut.go (fun t k => XT.iconstV X4.here hx rfl (0 : Int32) (hb hby at_174) rfl k) ?_
      show OwnOut p e s below 16 640 _ (T4.setTop (mkF m 175 #[.val (.int x0), .val (.int x1), .val (.int x2), .val (.int x3), .val (.int x4), .val (.int x5), .val (.int x6), .val (.int x7), .val (.int x8), .val (.int x9), .val (.int x10), .val (.int x11), .val (.int x12), .val (.int x13), .val (.int x14), .val (.ref b0), .val (.ref c4_0), .unset, .unset, .unset] [(.int (0 : Int32))]))
      cases hr
      exact outZ X4 hx hret (hb hby at_175) hlk (by decide) (by decide) ⟨rfl, N_4⟩
def f0_139 (x5 : Int32) (x8 : Int32) (x9 : Int32) (x10 : Int32) (x11 : Int32) (x12 : Int32) (x13 : Int32) (x14 : Int32) (u0_width : Int32) (u0_height : Int32) (l1 : List Int32) : Option (Int32) := (if x14 = (0 : Int32) then (f0_153 x5 x8 x9 x10 x11 x12 x13 x14 u0_width u0_height l1) else ((f4 (1 : Int32) (1 : Int32) x11 u0_width u0_height l1).bind fun o17 => (f0_153 x5 x8 x9 x10 x11 x12 x13 x14 u0_width u0_height o17)))
set_option maxRecDepth 65536 in
set_option maxHeartbeats 40000000 in
theorem w0_139 {p : Program} {l : Launch} {e : Env} {s : State} {m : MethodId} {args : Array Value} {below : List Frame} {meth : Method} {c : Code} {Z : State} {a0 : Array Value} {h0 : Heap} {n0 : Nat} (C : Cx0 Z a0 p s m meth c) :
    ∀ (T : State) (locs : List Loc) (hA : Heap) (x0 : Int32) (x1 : Int32) (x2 : Int32) (x3 : Int32) (x4 : Int32) (x5 : Int32) (x6 : Int32) (x7 : Int32) (x8 : Int32) (x9 : Int32) (x10 : Int32) (x11 : Int32) (x12 : Int32) (x13 : Int32) (x14 : Int32) (b0 : Addr) (u0_width : Int32) (u0_height : Int32) (b1 : Addr) (l1 : List Int32) (o : Int32), f0_139 x5 x8 x9 x10 x11 x12 x13 x14 u0_width u0_height l1 = some o → Stand p l e room_1 s m args below meth c T locs 2 7 → T.heap = hA → Fr n0 locs → Old Z n0 hA → Keep h0 hA [] → (Exa Z hA b0 "com/example/sinogrid/sinogrid/LuminanceGrid") → (Fld Z hA b0 "com/example/sinogrid/sinogrid/LuminanceGrid" "width" "I" (.int u0_width)) → (Fld Z hA b0 "com/example/sinogrid/sinogrid/LuminanceGrid" "height" "I" (.int u0_height)) → (Fld Z hA b0 "com/example/sinogrid/sinogrid/LuminanceGrid" "values" "[B" (.ref b1)) → (Ari Z hA b1 .byte l1) → (n0 ≤ b0) → (h0.size ≤ b0) → (n0 ≤ b1) → (h0.size ≤ b1) → (b0 ≠ b1) →  OwnOut p e s below 16 640 (Q0 Z default default default default default default h0 n0 o) (T.setTop (mkF m 139 #[.val (.int x0), .val (.int x1), .val (.int x2), .val (.int x3), .val (.int x4), .val (.int x5), .val (.int x6), .val (.int x7), .val (.int x8), .val (.int x9), .val (.int x10), .val (.int x11), .val (.int x12), .val (.int x13), .val (.int x14), .val (.ref b0), .unset, .unset, .unset, .unset] [])) := by
    obtain ⟨hx, hZ, hw, hby, hml, hown, hret, hlk, hnm⟩ := C
    intro T locs hA x0 x1 x2 x3 x4 x5 x6 x7 x8 x9 x10 x11 x12 x13 x14 b0 u0_width u0_height b1 l1 o hr X0 e0 N0 O0 K0 E0 F0_width F0_height F0_values A1 g0 z0 g1 z1 ne0_1
    rw [f0_139] at hr
    refine OwnOut.go (fun t k => XS.iload X0.here hx rfl (hb hby at_139) rfl k) ?_
    show OwnOut p e s below 16 640 _ (T.setTop (mkF m 141 #[.val (.int x0), .val (.int x1), .val (.int x2), .val (.int x3), .val (.int x4), .val (.int x5), .val (.int x6), .val (.int x7), .val (.int x8), .val (.int x9), .val (.int x10), .val (.int x11), .val (.int x12), .val (.int x13), .val (.int x14), .val (.ref b0), .unset, .unset, .unset, .unset] [(.int x14)]))
    by_cases hc141 : x14 = (0 : Int32)
    · rw [if_pos hc141] at hr
      refine OwnOut.go (fun t k => XS.ifYes X0.here hx rfl (pc0 := 141) (pc' := 153) rfl (hb hby at_141) rfl (XT.i0_eq_t hc141) (by decide) (by decide) k) ?_
      show OwnOut p e s below 16 640 _ (T.setTop (mkF m 153 #[.val (.int x0), .val (.int x1), .val (.int x2), .val (.int x3), .val (.int x4), .val (.int x5), .val (.int x6), .val (.int x7), .val (.int x8), .val (.int x9), .val (.int x10), .val (.int x11), .val (.int x12), .val (.int x13), .val (.int x14), .val (.ref b0), .unset, .unset, .unset, .unset] []))
      exact w0_153 ⟨hx, hZ, hw, hby, hml, hown, hret, hlk, hnm⟩  _ _ _ x0 x1 x2 x3 x4 x5 x6 x7 x8 x9 x10 x11 x12 x13 x14 b0 u0_width u0_height b1 l1 _ hr X0 e0 N0 O0 K0 E0 F0_width F0_height F0_values A1 g0 z0 g1 z1 ne0_1
    · rw [if_neg hc141] at hr
      refine OwnOut.go (fun t k => XS.ifNo X0.here hx rfl (hb hby at_141) rfl (XT.i0_eq_f hc141) k) ?_
      show OwnOut p e s below 16 640 _ (T.setTop (mkF m 144 #[.val (.int x0), .val (.int x1), .val (.int x2), .val (.int x3), .val (.int x4), .val (.int x5), .val (.int x6), .val (.int x7), .val (.int x8), .val (.int x9), .val (.int x10), .val (.int x11), .val (.int x12), .val (.int x13), .val (.int x14), .val (.ref b0), .unset, .unset, .unset, .unset] []))
      refine OwnOut.go (fun t k => XS.aload X0.here hx rfl (hb hby at_144) rfl rfl k) ?_
      show OwnOut p e s below 16 640 _ (T.setTop (mkF m 146 #[.val (.int x0), .val (.int x1), .val (.int x2), .val (.int x3), .val (.int x4), .val (.int x5), .val (.int x6), .val (.int x7), .val (.int x8), .val (.int x9), .val (.int x10), .val (.int x11), .val (.int x12), .val (.int x13), .val (.int x14), .val (.ref b0), .unset, .unset, .unset, .unset] [(.ref b0)]))
      refine OwnOut.go (fun t k => XT.iconstV X0.here hx rfl (1 : Int32) (hb hby at_146) rfl k) ?_
      show OwnOut p e s below 16 640 _ (T.setTop (mkF m 147 #[.val (.int x0), .val (.int x1), .val (.int x2), .val (.int x3), .val (.int x4), .val (.int x5), .val (.int x6), .val (.int x7), .val (.int x8), .val (.int x9), .val (.int x10), .val (.int x11), .val (.int x12), .val (.int x13), .val (.int x14), .val (.ref b0), .unset, .unset, .unset, .unset] [(.int (1 : Int32)), (.ref b0)]))
      refine OwnOut.go (fun t k => XT.iconstV X0.here hx rfl (1 : Int32) (hb hby at_147) rfl k) ?_
      show OwnOut p e s below 16 640 _ (T.setTop (mkF m 148 #[.val (.int x0), .val (.int x1), .val (.int x2), .val (.int x3), .val (.int x4), .val (.int x5), .val (.int x6), .val (.int x7), .val (.int x8), .val (.int x9), .val (.int x10), .val (.int x11), .val (.int x12), .val (.int x13), .val (.int x14), .val (.ref b0), .unset, .unset, .unset, .unset] [(.int (1 : Int32)), (.int (1 : Int32)), (.ref b0)]))
      refine OwnOut.go (fun t k => XS.iload X0.here hx rfl (hb hby at_148) rfl k) ?_
      show OwnOut p e s below 16 640 _ (T.setTop (mkF m 150 #[.val (.int x0), .val (.int x1), .val (.int x2), .val (.int x3), .val (.int x4), .val (.int x5), .val (.int x6), .val (.int x7), .val (.int x8), .val (.int x9), .val (.int x10), .val (.int x11), .val (.int x12), .val (.int x13), .val (.int x14), .val (.ref b0), .unset, .unset, .unset, .unset] [(.int x11), (.int (1 : Int32)), (.int (1 : Int32)), (.ref b0)]))
      obtain ⟨o17, ho17, hr⟩ := Option.bind_eq_some_iff.mp hr
      obtain ⟨r17, T17, L17, X17', hQ17, st17⟩ := callV (W := 0) (rm := rx4) X0 hx hZ (y := (⟨"com/example/sinogrid/sinogrid/LuminanceGrid", "set", "(III)V"⟩ : MethodName)) hown (hw _ (List.mem_of_getElem? (i := 21) rfl)) (hw _ (List.mem_of_getElem? (i := 22) rfl)) (hw _ (List.mem_of_getElem? (i := 24) rfl)) (hw _ (List.mem_of_getElem? (i := 23) rfl)) (hw _ (List.mem_of_getElem? (i := 2) rfl)) (hw _ (List.mem_of_getElem? (i := 25) rfl)) (by decide) (rm4 l Z a0 hw [] (1 : Int32) (1 : Int32) x11 b0 u0_width u0_height b1 l1 hA n0 o17 ho17 O0 E0 F0_width F0_height F0_values A1 g0 g1 ne0_1) (by decide) (by decide) (by decide) (by decide) e0 E0 (g := (mkF m 150 #[.val (.int x0), .val (.int x1), .val (.int x2), .val (.int x3), .val (.int x4), .val (.int x5), .val (.int x6), .val (.int x7), .val (.int x8), .val (.int x9), .val (.int x10), .val (.int x11), .val (.int x12), .val (.int x13), .val (.int x14), .val (.ref b0), .unset, .unset, .unset, .unset] [(.int x11), (.int (1 : Int32)), (.int (1 : Int32)), (.ref b0)])) rfl (by rw [hml]; rfl) (argsL := [(.int (1 : Int32)), (.int (1 : Int32)), (.int x11)]) (rest := []) (lenOf pd4 rfl) rfl (by show 2 * 0 + _ ≤ _; exact Nat.le_of_eq rfl) (hb hby at_150)
      obtain ⟨rfl, Nq17, Kq17, A1_17⟩ := hQ17
      have X17 : Stand p l e room_1 s m args below meth c T17 _ 2 7 := X17'
      have E0_17 := E0.keep Kq17
      have F0_width_17 := F0_width.keep Kq17 (ninS ne0_1 nin0)
      have F0_height_17 := F0_height.keep Kq17 (ninS ne0_1 nin0)
      have F0_values_17 := F0_values.keep Kq17 (ninS ne0_1 nin0)
      have N_17 := Fr.app N0 Nq17
      have O_17 := O0.keep Kq17 (allS g1 all0)
      have K_17 := K0.trans Kq17 (allS (Or.inr z1) all0)
      refine OwnOut.go (fun t k => st17 _ k) ?_
      show OwnOut p e s below 16 640 _ (T17.setTop (mkF m 153 #[.val (.int x0), .val (.int x1), .val (.int x2), .val (.int x3), .val (.int x4), .val (.int x5), .val (.int x6), .val (.int x7), .val (.int x8), .val (.int x9), .val (.int x10), .val (.int x11), .val (.int x12), .val (.int x13), .val (.int x14), .val (.ref b0), .unset, .unset, .unset, .unset] []))
      exact w0_153 ⟨hx, hZ, hw, hby, hml, hown, hret, hlk, hnm⟩  _ _ _ x0 x1 x2 x3 x4 x5 x6 x7 x8 x9 x10 x11 x12 x13 x14 b0 u0_width u0_height b1 o17 _ hr X17 rfl N_17 O_17 K_17 E0_17 F0_width_17 F0_height_17 F0_values_17 A1_17 g0 z0 g1 z1 ne0_1
def f0_125 (x5 : Int32) (x8 : Int32) (x9 : Int32) (x10 : Int32) (x11 : Int32) (x12 : Int32) (x13 : Int32) (x14 : Int32) (u0_width : Int32) (u0_height : Int32) (l1 : List Int32) : Option (Int32) := (if x13 = (0 : Int32) then (f0_139 x5 x8 x9 x10 x11 x12 x13 x14 u0_width u0_height l1) else ((f4 (1 : Int32) (0 : Int32) x10 u0_width u0_height l1).bind fun o18 => (f0_139 x5 x8 x9 x10 x11 x12 x13 x14 u0_width u0_height o18)))
set_option maxRecDepth 65536 in
set_option maxHeartbeats 40000000 in
theorem w0_125 {p : Program} {l : Launch} {e : Env} {s : State} {m : MethodId} {args : Array Value} {below : List Frame} {meth : Method} {c : Code} {Z : State} {a0 : Array Value} {h0 : Heap} {n0 : Nat} (C : Cx0 Z a0 p s m meth c) :
    ∀ (T : State) (locs : List Loc) (hA : Heap) (x0 : Int32) (x1 : Int32) (x2 : Int32) (x3 : Int32) (x4 : Int32) (x5 : Int32) (x6 : Int32) (x7 : Int32) (x8 : Int32) (x9 : Int32) (x10 : Int32) (x11 : Int32) (x12 : Int32) (x13 : Int32) (x14 : Int32) (b0 : Addr) (u0_width : Int32) (u0_height : Int32) (b1 : Addr) (l1 : List Int32) (o : Int32), f0_125 x5 x8 x9 x10 x11 x12 x13 x14 u0_width u0_height l1 = some o → Stand p l e room_1 s m args below meth c T locs 2 7 → T.heap = hA → Fr n0 locs → Old Z n0 hA → Keep h0 hA [] → (Exa Z hA b0 "com/example/sinogrid/sinogrid/LuminanceGrid") → (Fld Z hA b0 "com/example/sinogrid/sinogrid/LuminanceGrid" "width" "I" (.int u0_width)) → (Fld Z hA b0 "com/example/sinogrid/sinogrid/LuminanceGrid" "height" "I" (.int u0_height)) → (Fld Z hA b0 "com/example/sinogrid/sinogrid/LuminanceGrid" "values" "[B" (.ref b1)) → (Ari Z hA b1 .byte l1) → (n0 ≤ b0) → (h0.size ≤ b0) → (n0 ≤ b1) → (h0.size ≤ b1) → (b0 ≠ b1) →  OwnOut p e s below 16 640 (Q0 Z default default default default default default h0 n0 o) (T.setTop (mkF m 125 #[.val (.int x0), .val (.int x1), .val (.int x2), .val (.int x3), .val (.int x4), .val (.int x5), .val (.int x6), .val (.int x7), .val (.int x8), .val (.int x9), .val (.int x10), .val (.int x11), .val (.int x12), .val (.int x13), .val (.int x14), .val (.ref b0), .unset, .unset, .unset, .unset] [])) := by
    obtain ⟨hx, hZ, hw, hby, hml, hown, hret, hlk, hnm⟩ := C
    intro T locs hA x0 x1 x2 x3 x4 x5 x6 x7 x8 x9 x10 x11 x12 x13 x14 b0 u0_width u0_height b1 l1 o hr X0 e0 N0 O0 K0 E0 F0_width F0_height F0_values A1 g0 z0 g1 z1 ne0_1
    rw [f0_125] at hr
    refine OwnOut.go (fun t k => XS.iload X0.here hx rfl (hb hby at_125) rfl k) ?_
    show OwnOut p e s below 16 640 _ (T.setTop (mkF m 127 #[.val (.int x0), .val (.int x1), .val (.int x2), .val (.int x3), .val (.int x4), .val (.int x5), .val (.int x6), .val (.int x7), .val (.int x8), .val (.int x9), .val (.int x10), .val (.int x11), .val (.int x12), .val (.int x13), .val (.int x14), .val (.ref b0), .unset, .unset, .unset, .unset] [(.int x13)]))
    by_cases hc127 : x13 = (0 : Int32)
    · rw [if_pos hc127] at hr
      refine OwnOut.go (fun t k => XS.ifYes X0.here hx rfl (pc0 := 127) (pc' := 139) rfl (hb hby at_127) rfl (XT.i0_eq_t hc127) (by decide) (by decide) k) ?_
      show OwnOut p e s below 16 640 _ (T.setTop (mkF m 139 #[.val (.int x0), .val (.int x1), .val (.int x2), .val (.int x3), .val (.int x4), .val (.int x5), .val (.int x6), .val (.int x7), .val (.int x8), .val (.int x9), .val (.int x10), .val (.int x11), .val (.int x12), .val (.int x13), .val (.int x14), .val (.ref b0), .unset, .unset, .unset, .unset] []))
      exact w0_139 ⟨hx, hZ, hw, hby, hml, hown, hret, hlk, hnm⟩  _ _ _ x0 x1 x2 x3 x4 x5 x6 x7 x8 x9 x10 x11 x12 x13 x14 b0 u0_width u0_height b1 l1 _ hr X0 e0 N0 O0 K0 E0 F0_width F0_height F0_values A1 g0 z0 g1 z1 ne0_1
    · rw [if_neg hc127] at hr
      refine OwnOut.go (fun t k => XS.ifNo X0.here hx rfl (hb hby at_127) rfl (XT.i0_eq_f hc127) k) ?_
      show OwnOut p e s below 16 640 _ (T.setTop (mkF m 130 #[.val (.int x0), .val (.int x1), .val (.int x2), .val (.int x3), .val (.int x4), .val (.int x5), .val (.int x6), .val (.int x7), .val (.int x8), .val (.int x9), .val (.int x10), .val (.int x11), .val (.int x12), .val (.int x13), .val (.int x14), .val (.ref b0), .unset, .unset, .unset, .unset] []))
      refine OwnOut.go (fun t k => XS.aload X0.here hx rfl (hb hby at_130) rfl rfl k) ?_
      show OwnOut p e s below 16 640 _ (T.setTop (mkF m 132 #[.val (.int x0), .val (.int x1), .val (.int x2), .val (.int x3), .val (.int x4), .val (.int x5), .val (.int x6), .val (.int x7), .val (.int x8), .val (.int x9), .val (.int x10), .val (.int x11), .val (.int x12), .val (.int x13), .val (.int x14), .val (.ref b0), .unset, .unset, .unset, .unset] [(.ref b0)]))
      refine OwnOut.go (fun t k => XT.iconstV X0.here hx rfl (1 : Int32) (hb hby at_132) rfl k) ?_
      show OwnOut p e s below 16 640 _ (T.setTop (mkF m 133 #[.val (.int x0), .val (.int x1), .val (.int x2), .val (.int x3), .val (.int x4), .val (.int x5), .val (.int x6), .val (.int x7), .val (.int x8), .val (.int x9), .val (.int x10), .val (.int x11), .val (.int x12), .val (.int x13), .val (.int x14), .val (.ref b0), .unset, .unset, .unset, .unset] [(.int (1 : Int32)), (.ref b0)]))
      refine OwnOut.go (fun t k => XT.iconstV X0.here hx rfl (0 : Int32) (hb hby at_133) rfl k) ?_
      show OwnOut p e s below 16 640 _ (T.setTop (mkF m 134 #[.val (.int x0), .val (.int x1), .val (.int x2), .val (.int x3), .val (.int x4), .val (.int x5), .val (.int x6), .val (.int x7), .val (.int x8), .val (.int x9), .val (.int x10), .val (.int x11), .val (.int x12), .val (.int x13), .val (.int x14), .val (.ref b0), .unset, .unset, .unset, .unset] [(.int (0 : Int32)), (.int (1 : Int32)), (.ref b0)]))
      refine OwnOut.go (fun t k => XS.iload X0.here hx rfl (hb hby at_134) rfl k) ?_
      show OwnOut p e s below 16 640 _ (T.setTop (mkF m 136 #[.val (.int x0), .val (.int x1), .val (.int x2), .val (.int x3), .val (.int x4), .val (.int x5), .val (.int x6), .val (.int x7), .val (.int x8), .val (.int x9), .val (.int x10), .val (.int x11), .val (.int x12), .val (.int x13), .val (.int x14), .val (.ref b0), .unset, .unset, .unset, .unset] [(.int x10), (.int (0 : Int32)), (.int (1 : Int32)), (.ref b0)]))
      obtain ⟨o18, ho18, hr⟩ := Option.bind_eq_some_iff.mp hr
      obtain ⟨r18, T18, L18, X18', hQ18, st18⟩ := callV (W := 0) (rm := rx4) X0 hx hZ (y := (⟨"com/example/sinogrid/sinogrid/LuminanceGrid", "set", "(III)V"⟩ : MethodName)) hown (hw _ (List.mem_of_getElem? (i := 21) rfl)) (hw _ (List.mem_of_getElem? (i := 22) rfl)) (hw _ (List.mem_of_getElem? (i := 24) rfl)) (hw _ (List.mem_of_getElem? (i := 23) rfl)) (hw _ (List.mem_of_getElem? (i := 2) rfl)) (hw _ (List.mem_of_getElem? (i := 25) rfl)) (by decide) (rm4 l Z a0 hw [] (1 : Int32) (0 : Int32) x10 b0 u0_width u0_height b1 l1 hA n0 o18 ho18 O0 E0 F0_width F0_height F0_values A1 g0 g1 ne0_1) (by decide) (by decide) (by decide) (by decide) e0 E0 (g := (mkF m 136 #[.val (.int x0), .val (.int x1), .val (.int x2), .val (.int x3), .val (.int x4), .val (.int x5), .val (.int x6), .val (.int x7), .val (.int x8), .val (.int x9), .val (.int x10), .val (.int x11), .val (.int x12), .val (.int x13), .val (.int x14), .val (.ref b0), .unset, .unset, .unset, .unset] [(.int x10), (.int (0 : Int32)), (.int (1 : Int32)), (.ref b0)])) rfl (by rw [hml]; rfl) (argsL := [(.int (1 : Int32)), (.int (0 : Int32)), (.int x10)]) (rest := []) (lenOf pd4 rfl) rfl (by show 2 * 0 + _ ≤ _; exact Nat.le_of_eq rfl) (hb hby at_136)
      obtain ⟨rfl, Nq18, Kq18, A1_18⟩ := hQ18
      have X18 : Stand p l e room_1 s m args below meth c T18 _ 2 7 := X18'
      have E0_18 := E0.keep Kq18
      have F0_width_18 := F0_width.keep Kq18 (ninS ne0_1 nin0)
      have F0_height_18 := F0_height.keep Kq18 (ninS ne0_1 nin0)
      have F0_values_18 := F0_values.keep Kq18 (ninS ne0_1 nin0)
      have N_18 := Fr.app N0 Nq18
      have O_18 := O0.keep Kq18 (allS g1 all0)
      have K_18 := K0.trans Kq18 (allS (Or.inr z1) all0)
      refine OwnOut.go (fun t k => st18 _ k) ?_
      show OwnOut p e s below 16 640 _ (T18.setTop (mkF m 139 #[.val (.int x0), .val (.int x1), .val (.int x2), .val (.int x3), .val (.int x4), .val (.int x5), .val (.int x6), .val (.int x7), .val (.int x8), .val (.int x9), .val (.int x10), .val (.int x11), .val (.int x12), .val (.int x13), .val (.int x14), .val (.ref b0), .unset, .unset, .unset, .unset] []))
      exact w0_139 ⟨hx, hZ, hw, hby, hml, hown, hret, hlk, hnm⟩  _ _ _ x0 x1 x2 x3 x4 x5 x6 x7 x8 x9 x10 x11 x12 x13 x14 b0 u0_width u0_height b1 o18 _ hr X18 rfl N_18 O_18 K_18 E0_18 F0_width_18 F0_height_18 F0_values_18 A1_18 g0 z0 g1 z1 ne0_1
def f0_87 (x5 : Int32) (x6 : Int32) (x7 : Int32) (x8 : Int32) (x9 : Int32) (x10 : Int32) (x11 : Int32) (x12 : Int32) (x13 : Int32) (y0 : Int32) : Option (Int32) := ((f1 x6 x7 (0 : Int32) (0 : Int32)).bind fun o2 => ((f4 (0 : Int32) (0 : Int32) x8 o2.1 o2.2.1 o2.2.2).bind fun o3 => (if x12 = (0 : Int32) then (f0_125 x5 x8 x9 x10 x11 x12 x13 y0 o2.1 o2.2.1 o3) else ((f4 (0 : Int32) (1 : Int32) x9 o2.1 o2.2.1 o3).bind fun o19 => (f0_125 x5 x8 x9 x10 x11 x12 x13 y0 o2.1 o2.2.1 o19)))))
set_option maxRecDepth 65536 in
set_option maxHeartbeats 40000000 in
theorem w0_87 {p : Program} {l : Launch} {e : Env} {s : State} {m : MethodId} {args : Array Value} {below : List Frame} {meth : Method} {c : Code} {Z : State} {a0 : Array Value} {h0 : Heap} {n0 : Nat} (C : Cx0 Z a0 p s m meth c) :
    ∀ (T : State) (locs : List Loc) (hA : Heap) (x0 : Int32) (x1 : Int32) (x2 : Int32) (x3 : Int32) (x4 : Int32) (x5 : Int32) (x6 : Int32) (x7 : Int32) (x8 : Int32) (x9 : Int32) (x10 : Int32) (x11 : Int32) (x12 : Int32) (x13 : Int32) (y0 : Int32) (o : Int32), f0_87 x5 x6 x7 x8 x9 x10 x11 x12 x13 y0 = some o → Stand p l e room_1 s m args below meth c T locs 0 0 → T.heap = hA → Fr n0 locs → Old Z n0 hA → Keep h0 hA [] →  OwnOut p e s below 16 640 (Q0 Z default default default default default default h0 n0 o) (T.setTop (mkF m 87 #[.val (.int x0), .val (.int x1), .val (.int x2), .val (.int x3), .val (.int x4), .val (.int x5), .val (.int x6), .val (.int x7), .val (.int x8), .val (.int x9), .val (.int x10), .val (.int x11), .val (.int x12), .val (.int x13), .unset, .unset, .unset, .unset, .unset, .unset] [(.int y0)])) := by
    obtain ⟨hx, hZ, hw, hby, hml, hown, hret, hlk, hnm⟩ := C
    intro T locs hA x0 x1 x2 x3 x4 x5 x6 x7 x8 x9 x10 x11 x12 x13 y0 o hr X0 e0 N0 O0 K0
    rw [f0_87] at hr
    refine OwnOut.go (fun t k => XS.istore X0.here hx rfl (hb hby at_87) rfl (l' := #[.val (.int x0), .val (.int x1), .val (.int x2), .val (.int x3), .val (.int x4), .val (.int x5), .val (.int x6), .val (.int x7), .val (.int x8), .val (.int x9), .val (.int x10), .val (.int x11), .val (.int x12), .val (.int x13), .val (.int y0), .unset, .unset, .unset, .unset, .unset]) rfl k) ?_
    show OwnOut p e s below 16 640 _ (T.setTop (mkF m 89 #[.val (.int x0), .val (.int x1), .val (.int x2), .val (.int x3), .val (.int x4), .val (.int x5), .val (.int x6), .val (.int x7), .val (.int x8), .val (.int x9), .val (.int x10), .val (.int x11), .val (.int x12), .val (.int x13), .val (.int y0), .unset, .unset, .unset, .unset, .unset] []))
    obtain ⟨T1, h1, X1, e1, Ex1, E_1, Df1, -, st1⟩ := newO X0 hx hZ hown (hw _ (List.mem_of_getElem? (i := 0) rfl)) (hw _ (List.mem_of_getElem? (i := 1) rfl)) (hw _ (List.mem_of_getElem? (i := 2) rfl)) e0 (g := (mkF m 89 #[.val (.int x0), .val (.int x1), .val (.int x2), .val (.int x3), .val (.int x4), .val (.int x5), .val (.int x6), .val (.int x7), .val (.int x8), .val (.int x9), .val (.int x10), .val (.int x11), .val (.int x12), .val (.int x13), .val (.int y0), .unset, .unset, .unset, .unset, .unset] [])) rfl (hb hby at_89) (by decide) (by decide)
    obtain ⟨c1, gc1⟩ : ∃ z, z = hA.size := ⟨_, rfl⟩
    rw [← gc1] at E_1 st1
    have F_width_1 : Fld Z h1 c1 "com/example/sinogrid/sinogrid/LuminanceGrid" "width" "I" (.int (0 : Int32)) := by rw [gc1]; exact Df1 (Or.inr (hw _ (List.mem_of_getElem? (i := 15) rfl))) (ty := .int) (by decide)
    have F_height_1 : Fld Z h1 c1 "com/example/sinogrid/sinogrid/LuminanceGrid" "height" "I" (.int (0 : Int32)) := by rw [gc1]; exact Df1 (Or.inr (hw _ (List.mem_of_getElem? (i := 17) rfl))) (ty := .int) (by decide)
    have F_values_1 : Fld Z h1 c1 "com/example/sinogrid/sinogrid/LuminanceGrid" "values" "[B" .null := by rw [gc1]; exact Df1 (Or.inr (hw _ (List.mem_of_getElem? (i := 20) rfl))) (ty := (.array .byte)) (by decide)
    refine OwnOut.go (fun t k => st1 _ k) ?_
    have g_1 : n0 ≤ c1 := gc1 ▸ (O0.1 ▸ O0.2.1)
    have z_1 : h0.size ≤ c1 := gc1 ▸ K0.1
    have O_1 := O0.ext Ex1
    have K_1 := K0.ext Ex1
    show OwnOut p e s below 16 640 _ (T1.setTop (mkF m 92 #[.val (.int x0), .val (.int x1), .val (.int x2), .val (.int x3), .val (.int x4), .val (.int x5), .val (.int x6), .val (.int x7), .val (.int x8), .val (.int x9), .val (.int x10), .val (.int x11), .val (.int x12), .val (.int x13), .val (.int y0), .unset, .unset, .unset, .unset, .unset] [(.ref c1)]))
    refine OwnOut.go (fun t k => XS.dup X1.here hx rfl (hb hby at_92) rfl rfl k) ?_
    show OwnOut p e s below 16 640 _ (T1.setTop (mkF m 93 #[.val (.int x0), .val (.int x1), .val (.int x2), .val (.int x3), .val (.int x4), .val (.int x5), .val (.int x6), .val (.int x7), .val (.int x8), .val (.int x9), .val (.int x10), .val (.int x11), .val (.int x12), .val (.int x13), .val (.int y0), .unset, .unset, .unset, .unset, .unset] [(.ref c1), (.ref c1)]))
    refine OwnOut.go (fun t k => XS.iload X1.here hx rfl (hb hby at_93) rfl k) ?_
    show OwnOut p e s below 16 640 _ (T1.setTop (mkF m 95 #[.val (.int x0), .val (.int x1), .val (.int x2), .val (.int x3), .val (.int x4), .val (.int x5), .val (.int x6), .val (.int x7), .val (.int x8), .val (.int x9), .val (.int x10), .val (.int x11), .val (.int x12), .val (.int x13), .val (.int y0), .unset, .unset, .unset, .unset, .unset] [(.int x6), (.ref c1), (.ref c1)]))
    refine OwnOut.go (fun t k => XS.iload X1.here hx rfl (hb hby at_95) rfl k) ?_
    show OwnOut p e s below 16 640 _ (T1.setTop (mkF m 97 #[.val (.int x0), .val (.int x1), .val (.int x2), .val (.int x3), .val (.int x4), .val (.int x5), .val (.int x6), .val (.int x7), .val (.int x8), .val (.int x9), .val (.int x10), .val (.int x11), .val (.int x12), .val (.int x13), .val (.int y0), .unset, .unset, .unset, .unset, .unset] [(.int x7), (.int x6), (.ref c1), (.ref c1)]))
    obtain ⟨o2, ho2, hr⟩ := Option.bind_eq_some_iff.mp hr
    obtain ⟨r2, T2, L2, X2', hQ2, st2⟩ := callN (W := 1) (rm := rx1) X1 hx hZ rfl (y := (⟨"com/example/sinogrid/sinogrid/LuminanceGrid", "<init>", "(II)V"⟩ : MethodName)) rfl hown (hw _ (List.mem_of_getElem? (i := 3) rfl)) (hw _ (List.mem_of_getElem? (i := 4) rfl)) (hw _ (List.mem_of_getElem? (i := 2) rfl)) (hw _ (List.mem_of_getElem? (i := 5) rfl)) (by decide) (rm1 l Z a0 hw [] x6 x7 c1 (0 : Int32) (0 : Int32) h1 n0 o2 ho2 O_1 E_1 F_width_1 F_height_1 F_values_1 g_1) (by decide) (by decide) (by decide) (by decide) e1 (g := (mkF m 97 #[.val (.int x0), .val (.int x1), .val (.int x2), .val (.int x3), .val (.int x4), .val (.int x5), .val (.int x6), .val (.int x7), .val (.int x8), .val (.int x9), .val (.int x10), .val (.int x11), .val (.int x12), .val (.int x13), .val (.int y0), .unset, .unset, .unset, .unset, .unset] [(.int x7), (.int x6), (.ref c1), (.ref c1)])) rfl (by rw [hml]; rfl) (argsL := [(.int x6), (.int x7)]) (rest := [(.ref c1)]) (lenOf pd1 rfl) rfl (by show 2 * 0 + _ ≤ _; exact Nat.le_of_eq rfl) (hb hby at_97)
    obtain ⟨c2_0, rfl, Nq2, Kq2, F0_width_2, F0_height_2, F0_values_2, zq2_0, gq2_0, Aq2_0⟩ := hQ2
    have X2 : Stand p l e room_1 s m args below meth c T2 _ 2 7 := X2'
    have ne0_1_2 : c1 ≠ c2_0 := Nat.ne_of_lt (Nat.lt_of_lt_of_le E_1.lt zq2_0)
    have z_2_0 : h0.size ≤ c2_0 := Nat.le_trans K_1.1 zq2_0
    have E0_2 := E_1.keep Kq2
    have N_2 := Fr.app N0 Nq2
    have O_2 := O_1.keep Kq2 (allS g_1 all0)
    have K_2 := K_1.trans Kq2 (allS (Or.inr z_1) all0)
    refine OwnOut.go (fun t k => st2 _ k) ?_
    show OwnOut p e s below 16 640 _ (T2.setTop (mkF m 100 #[.val (.int x0), .val (.int x1), .val (.int x2), .val (.int x3), .val (.int x4), .val (.int x5), .val (.int x6), .val (.int x7), .val (.int x8), .val (.int x9), .val (.int x10), .val (.int x11), .val (.int x12), .val (.int x13), .val (.int y0), .unset, .unset, .unset, .unset, .unset] [(.ref c1)]))
    refine OwnOut.go (fun t k => XS.astore X2.here hx rfl (hb hby at_100) rfl rfl (l' := #[.val (.int x0), .val (.int x1), .val (.int x2), .val (.int x3), .val (.int x4), .val (.int x5), .val (.int x6), .val (.int x7), .val (.int x8), .val (.int x9), .val (.int x10), .val (.int x11), .val (.int x12), .val (.int x13), .val (.int y0), .val (.ref c1), .unset, .unset, .unset, .unset]) rfl k) ?_
    show OwnOut p e s below 16 640 _ (T2.setTop (mkF m 102 #[.val (.int x0), .val (.int x1), .val (.int x2), .val (.int x3), .val (.int x4), .val (.int x5), .val (.int x6), .val (.int x7), .val (.int x8), .val (.int x9), .val (.int x10), .val (.int x11), .val (.int x12), .val (.int x13), .val (.int y0), .val (.ref c1), .unset, .unset, .unset, .unset] []))
    refine OwnOut.go (fun t k => XS.aload X2.here hx rfl (hb hby at_102) rfl rfl k) ?_
    show OwnOut p e s below 16 640 _ (T2.setTop (mkF m 104 #[.val (.int x0), .val (.int x1), .val (.int x2), .val (.int x3), .val (.int x4), .val (.int x5), .val (.int x6), .val (.int x7), .val (.int x8), .val (.int x9), .val (.int x10), .val (.int x11), .val (.int x12), .val (.int x13), .val (.int y0), .val (.ref c1), .unset, .unset, .unset, .unset] [(.ref c1)]))
    refine OwnOut.go (fun t k => XT.iconstV X2.here hx rfl (0 : Int32) (hb hby at_104) rfl k) ?_
    show OwnOut p e s below 16 640 _ (T2.setTop (mkF m 105 #[.val (.int x0), .val (.int x1), .val (.int x2), .val (.int x3), .val (.int x4), .val (.int x5), .val (.int x6), .val (.int x7), .val (.int x8), .val (.int x9), .val (.int x10), .val (.int x11), .val (.int x12), .val (.int x13), .val (.int y0), .val (.ref c1), .unset, .unset, .unset, .unset] [(.int (0 : Int32)), (.ref c1)]))
    refine OwnOut.go (fun t k => XT.iconstV X2.here hx rfl (0 : Int32) (hb hby at_105) rfl k) ?_
    show OwnOut p e s below 16 640 _ (T2.setTop (mkF m 106 #[.val (.int x0), .val (.int x1), .val (.int x2), .val (.int x3), .val (.int x4), .val (.int x5), .val (.int x6), .val (.int x7), .val (.int x8), .val (.int x9), .val (.int x10), .val (.int x11), .val (.int x12), .val (.int x13), .val (.int y0), .val (.ref c1), .unset, .unset, .unset, .unset] [(.int (0 : Int32)), (.int (0 : Int32)), (.ref c1)]))
    refine OwnOut.go (fun t k => XS.iload X2.here hx rfl (hb hby at_106) rfl k) ?_
    show OwnOut p e s below 16 640 _ (T2.setTop (mkF m 108 #[.val (.int x0), .val (.int x1), .val (.int x2), .val (.int x3), .val (.int x4), .val (.int x5), .val (.int x6), .val (.int x7), .val (.int x8), .val (.int x9), .val (.int x10), .val (.int x11), .val (.int x12), .val (.int x13), .val (.int y0), .val (.ref c1), .unset, .unset, .unset, .unset] [(.int x8), (.int (0 : Int32)), (.int (0 : Int32)), (.ref c1)]))
    obtain ⟨o3, ho3, hr⟩ := Option.bind_eq_some_iff.mp hr
    obtain ⟨r3, T3, L3, X3', hQ3, st3⟩ := callV (W := 0) (rm := rx4) X2 hx hZ (y := (⟨"com/example/sinogrid/sinogrid/LuminanceGrid", "set", "(III)V"⟩ : MethodName)) hown (hw _ (List.mem_of_getElem? (i := 21) rfl)) (hw _ (List.mem_of_getElem? (i := 22) rfl)) (hw _ (List.mem_of_getElem? (i := 24) rfl)) (hw _ (List.mem_of_getElem? (i := 23) rfl)) (hw _ (List.mem_of_getElem? (i := 2) rfl)) (hw _ (List.mem_of_getElem? (i := 25) rfl)) (by decide) (rm4 l Z a0 hw [] (0 : Int32) (0 : Int32) x8 c1 o2.1 o2.2.1 c2_0 o2.2.2 T2.heap n0 o3 ho3 O_2 E0_2 F0_width_2 F0_height_2 F0_values_2 Aq2_0 g_1 gq2_0 ne0_1_2) (by decide) (by decide) (by decide) (by decide) rfl E0_2 (g := (mkF m 108 #[.val (.int x0), .val (.int x1), .val (.int x2), .val (.int x3), .val (.int x4), .val (.int x5), .val (.int x6), .val (.int x7), .val (.int x8), .val (.int x9), .val (.int x10), .val (.int x11), .val (.int x12), .val (.int x13), .val (.int y0), .val (.ref c1), .unset, .unset, .unset, .unset] [(.int x8), (.int (0 : Int32)), (.int (0 : Int32)), (.ref c1)])) rfl (by rw [hml]; rfl) (argsL := [(.int (0 : Int32)), (.int (0 : Int32)), (.int x8)]) (rest := []) (lenOf pd4 rfl) rfl (by show 2 * 0 + _ ≤ _; exact Nat.le_of_eq rfl) (hb hby at_108)
    obtain ⟨rfl, Nq3, Kq3, A1_3⟩ := hQ3
    have X3 : Stand p l e room_1 s m args below meth c T3 _ 2 7 := X3'
    have E0_3 := E0_2.keep Kq3
    have F0_width_3 := F0_width_2.keep Kq3 (ninS ne0_1_2 nin0)
    have F0_height_3 := F0_height_2.keep Kq3 (ninS ne0_1_2 nin0)
    have F0_values_3 := F0_values_2.keep Kq3 (ninS ne0_1_2 nin0)
    have N_3 := Fr.app N_2 Nq3
    have O_3 := O_2.keep Kq3 (allS gq2_0 all0)
    have K_3 := K_2.trans Kq3 (allS (Or.inr z_2_0) all0)
    refine OwnOut.go (fun t k => st3 _ k) ?_
    show OwnOut p e s below 16 640 _ (T3.setTop (mkF m 111 #[.val (.int x0), .val (.int x1), .val (.int x2), .val (.int x3), .val (.int x4), .val (.int x5), .val (.int x6), .val (.int x7), .val (.int x8), .val (.int x9), .val (.int x10), .val (.int x11), .val (.int x12), .val (.int x13), .val (.int y0), .val (.ref c1), .unset, .unset, .unset, .unset] []))
    refine OwnOut.go (fun t k => XS.iload X3.here hx rfl (hb hby at_111) rfl k) ?_
    show OwnOut p e s below 16 640 _ (T3.setTop (mkF m 113 #[.val (.int x0), .val (.int x1), .val (.int x2), .val (.int x3), .val (.int x4), .val (.int x5), .val (.int x6), .val (.int x7), .val (.int x8), .val (.int x9), .val (.int x10), .val (.int x11), .val (.int x12), .val (.int x13), .val (.int y0), .val (.ref c1), .unset, .unset, .unset, .unset] [(.int x12)]))
    by_cases hc113 : x12 = (0 : Int32)
    · rw [if_pos hc113] at hr
      refine OwnOut.go (fun t k => XS.ifYes X3.here hx rfl (pc0 := 113) (pc' := 125) rfl (hb hby at_113) rfl (XT.i0_eq_t hc113) (by decide) (by decide) k) ?_
      show OwnOut p e s below 16 640 _ (T3.setTop (mkF m 125 #[.val (.int x0), .val (.int x1), .val (.int x2), .val (.int x3), .val (.int x4), .val (.int x5), .val (.int x6), .val (.int x7), .val (.int x8), .val (.int x9), .val (.int x10), .val (.int x11), .val (.int x12), .val (.int x13), .val (.int y0), .val (.ref c1), .unset, .unset, .unset, .unset] []))
      exact w0_125 ⟨hx, hZ, hw, hby, hml, hown, hret, hlk, hnm⟩  _ _ _ x0 x1 x2 x3 x4 x5 x6 x7 x8 x9 x10 x11 x12 x13 y0 c1 o2.1 o2.2.1 c2_0 o3 _ hr X3 rfl N_3 O_3 K_3 E0_3 F0_width_3 F0_height_3 F0_values_3 A1_3 g_1 z_1 gq2_0 z_2_0 ne0_1_2
    · rw [if_neg hc113] at hr
      refine OwnOut.go (fun t k => XS.ifNo X3.here hx rfl (hb hby at_113) rfl (XT.i0_eq_f hc113) k) ?_
      show OwnOut p e s below 16 640 _ (T3.setTop (mkF m 116 #[.val (.int x0), .val (.int x1), .val (.int x2), .val (.int x3), .val (.int x4), .val (.int x5), .val (.int x6), .val (.int x7), .val (.int x8), .val (.int x9), .val (.int x10), .val (.int x11), .val (.int x12), .val (.int x13), .val (.int y0), .val (.ref c1), .unset, .unset, .unset, .unset] []))
      refine OwnOut.go (fun t k => XS.aload X3.here hx rfl (hb hby at_116) rfl rfl k) ?_
      show OwnOut p e s below 16 640 _ (T3.setTop (mkF m 118 #[.val (.int x0), .val (.int x1), .val (.int x2), .val (.int x3), .val (.int x4), .val (.int x5), .val (.int x6), .val (.int x7), .val (.int x8), .val (.int x9), .val (.int x10), .val (.int x11), .val (.int x12), .val (.int x13), .val (.int y0), .val (.ref c1), .unset, .unset, .unset, .unset] [(.ref c1)]))
      refine OwnOut.go (fun t k => XT.iconstV X3.here hx rfl (0 : Int32) (hb hby at_118) rfl k) ?_
      show OwnOut p e s below 16 640 _ (T3.setTop (mkF m 119 #[.val (.int x0), .val (.int x1), .val (.int x2), .val (.int x3), .val (.int x4), .val (.int x5), .val (.int x6), .val (.int x7), .val (.int x8), .val (.int x9), .val (.int x10), .val (.int x11), .val (.int x12), .val (.int x13), .val (.int y0), .val (.ref c1), .unset, .unset, .unset, .unset] [(.int (0 : Int32)), (.ref c1)]))
      refine OwnOut.go (fun t k => XT.iconstV X3.here hx rfl (1 : Int32) (hb hby at_119) rfl k) ?_
      show OwnOut p e s below 16 640 _ (T3.setTop (mkF m 120 #[.val (.int x0), .val (.int x1), .val (.int x2), .val (.int x3), .val (.int x4), .val (.int x5), .val (.int x6), .val (.int x7), .val (.int x8), .val (.int x9), .val (.int x10), .val (.int x11), .val (.int x12), .val (.int x13), .val (.int y0), .val (.ref c1), .unset, .unset, .unset, .unset] [(.int (1 : Int32)), (.int (0 : Int32)), (.ref c1)]))
      refine OwnOut.go (fun t k => XS.iload X3.here hx rfl (hb hby at_120) rfl k) ?_
      show OwnOut p e s below 16 640 _ (T3.setTop (mkF m 122 #[.val (.int x0), .val (.int x1), .val (.int x2), .val (.int x3), .val (.int x4), .val (.int x5), .val (.int x6), .val (.int x7), .val (.int x8), .val (.int x9), .val (.int x10), .val (.int x11), .val (.int x12), .val (.int x13), .val (.int y0), .val (.ref c1), .unset, .unset, .unset, .unset] [(.int x9), (.int (1 : Int32)), (.int (0 : Int32)), (.ref c1)]))
      obtain ⟨o19, ho19, hr⟩ := Option.bind_eq_some_iff.mp hr
      obtain ⟨r19, T19, L19, X19', hQ19, st19⟩ := callV (W := 0) (rm := rx4) X3 hx hZ (y := (⟨"com/example/sinogrid/sinogrid/LuminanceGrid", "set", "(III)V"⟩ : MethodName)) hown (hw _ (List.mem_of_getElem? (i := 21) rfl)) (hw _ (List.mem_of_getElem? (i := 22) rfl)) (hw _ (List.mem_of_getElem? (i := 24) rfl)) (hw _ (List.mem_of_getElem? (i := 23) rfl)) (hw _ (List.mem_of_getElem? (i := 2) rfl)) (hw _ (List.mem_of_getElem? (i := 25) rfl)) (by decide) (rm4 l Z a0 hw [] (0 : Int32) (1 : Int32) x9 c1 o2.1 o2.2.1 c2_0 o3 T3.heap n0 o19 ho19 O_3 E0_3 F0_width_3 F0_height_3 F0_values_3 A1_3 g_1 gq2_0 ne0_1_2) (by decide) (by decide) (by decide) (by decide) rfl E0_3 (g := (mkF m 122 #[.val (.int x0), .val (.int x1), .val (.int x2), .val (.int x3), .val (.int x4), .val (.int x5), .val (.int x6), .val (.int x7), .val (.int x8), .val (.int x9), .val (.int x10), .val (.int x11), .val (.int x12), .val (.int x13), .val (.int y0), .val (.ref c1), .unset, .unset, .unset, .unset] [(.int x9), (.int (1 : Int32)), (.int (0 : Int32)), (.ref c1)])) rfl (by rw [hml]; rfl) (argsL := [(.int (0 : Int32)), (.int (1 : Int32)), (.int x9)]) (rest := []) (lenOf pd4 rfl) rfl (by show 2 * 0 + _ ≤ _; exact Nat.le_of_eq rfl) (hb hby at_122)
      obtain ⟨rfl, Nq19, Kq19, A1_19⟩ := hQ19
      have X19 : Stand p l e room_1 s m args below meth c T19 _ 2 7 := X19'
      have E0_19 := E0_3.keep Kq19
      have F0_width_19 := F0_width_3.keep Kq19 (ninS ne0_1_2 nin0)
      have F0_height_19 := F0_height_3.keep Kq19 (ninS ne0_1_2 nin0)
      have F0_values_19 := F0_values_3.keep Kq19 (ninS ne0_1_2 nin0)
      have N_19 := Fr.app N_3 Nq19
      have O_19 := O_3.keep Kq19 (allS gq2_0 all0)
      have K_19 := K_3.trans Kq19 (allS (Or.inr z_2_0) all0)
      refine OwnOut.go (fun t k => st19 _ k) ?_
      show OwnOut p e s below 16 640 _ (T19.setTop (mkF m 125 #[.val (.int x0), .val (.int x1), .val (.int x2), .val (.int x3), .val (.int x4), .val (.int x5), .val (.int x6), .val (.int x7), .val (.int x8), .val (.int x9), .val (.int x10), .val (.int x11), .val (.int x12), .val (.int x13), .val (.int y0), .val (.ref c1), .unset, .unset, .unset, .unset] []))
      exact w0_125 ⟨hx, hZ, hw, hby, hml, hown, hret, hlk, hnm⟩  _ _ _ x0 x1 x2 x3 x4 x5 x6 x7 x8 x9 x10 x11 x12 x13 y0 c1 o2.1 o2.2.1 c2_0 o19 _ hr X19 rfl N_19 O_19 K_19 E0_19 F0_width_19 F0_height_19 F0_values_19 A1_19 g_1 z_1 gq2_0 z_2_0 ne0_1_2
def f0_86 (x5 : Int32) (x6 : Int32) (x7 : Int32) (x8 : Int32) (x9 : Int32) (x10 : Int32) (x11 : Int32) (x12 : Int32) (x13 : Int32) : Option (Int32) := (f0_87 x5 x6 x7 x8 x9 x10 x11 x12 x13 (0 : Int32))
set_option maxRecDepth 65536 in
set_option maxHeartbeats 40000000 in
theorem w0_86 {p : Program} {l : Launch} {e : Env} {s : State} {m : MethodId} {args : Array Value} {below : List Frame} {meth : Method} {c : Code} {Z : State} {a0 : Array Value} {h0 : Heap} {n0 : Nat} (C : Cx0 Z a0 p s m meth c) :
    ∀ (T : State) (locs : List Loc) (hA : Heap) (x0 : Int32) (x1 : Int32) (x2 : Int32) (x3 : Int32) (x4 : Int32) (x5 : Int32) (x6 : Int32) (x7 : Int32) (x8 : Int32) (x9 : Int32) (x10 : Int32) (x11 : Int32) (x12 : Int32) (x13 : Int32) (o : Int32), f0_86 x5 x6 x7 x8 x9 x10 x11 x12 x13 = some o → Stand p l e room_1 s m args below meth c T locs 0 0 → T.heap = hA → Fr n0 locs → Old Z n0 hA → Keep h0 hA [] →  OwnOut p e s below 16 640 (Q0 Z default default default default default default h0 n0 o) (T.setTop (mkF m 86 #[.val (.int x0), .val (.int x1), .val (.int x2), .val (.int x3), .val (.int x4), .val (.int x5), .val (.int x6), .val (.int x7), .val (.int x8), .val (.int x9), .val (.int x10), .val (.int x11), .val (.int x12), .val (.int x13), .unset, .unset, .unset, .unset, .unset, .unset] [])) := by
    obtain ⟨hx, hZ, hw, hby, hml, hown, hret, hlk, hnm⟩ := C
    intro T locs hA x0 x1 x2 x3 x4 x5 x6 x7 x8 x9 x10 x11 x12 x13 o hr X0 e0 N0 O0 K0
    rw [f0_86] at hr
    refine OwnOut.go (fun t k => XT.iconstV X0.here hx rfl (0 : Int32) (hb hby at_86) rfl k) ?_
    show OwnOut p e s below 16 640 _ (T.setTop (mkF m 87 #[.val (.int x0), .val (.int x1), .val (.int x2), .val (.int x3), .val (.int x4), .val (.int x5), .val (.int x6), .val (.int x7), .val (.int x8), .val (.int x9), .val (.int x10), .val (.int x11), .val (.int x12), .val (.int x13), .unset, .unset, .unset, .unset, .unset, .unset] [(.int (0 : Int32))]))
    exact w0_87 ⟨hx, hZ, hw, hby, hml, hown, hret, hlk, hnm⟩  _ _ _ x0 x1 x2 x3 x4 x5 x6 x7 x8 x9 x10 x11 x12 x13 (0 : Int32) _ hr X0 e0 N0 O0 K0
def f0_70 (x5 : Int32) (x6 : Int32) (x7 : Int32) (x8 : Int32) (x9 : Int32) (x10 : Int32) (x11 : Int32) (x12 : Int32) (y0 : Int32) : Option (Int32) := (if x12 = (0 : Int32) then (f0_86 x5 x6 x7 x8 x9 x10 x11 x12 y0) else (if y0 = (0 : Int32) then (f0_86 x5 x6 x7 x8 x9 x10 x11 x12 y0) else (f0_87 x5 x6 x7 x8 x9 x10 x11 x12 y0 (1 : Int32))))
set_option maxRecDepth 65536 in
set_option maxHeartbeats 40000000 in
theorem w0_70 {p : Program} {l : Launch} {e : Env} {s : State} {m : MethodId} {args : Array Value} {below : List Frame} {meth : Method} {c : Code} {Z : State} {a0 : Array Value} {h0 : Heap} {n0 : Nat} (C : Cx0 Z a0 p s m meth c) :
    ∀ (T : State) (locs : List Loc) (hA : Heap) (x0 : Int32) (x1 : Int32) (x2 : Int32) (x3 : Int32) (x4 : Int32) (x5 : Int32) (x6 : Int32) (x7 : Int32) (x8 : Int32) (x9 : Int32) (x10 : Int32) (x11 : Int32) (x12 : Int32) (y0 : Int32) (o : Int32), f0_70 x5 x6 x7 x8 x9 x10 x11 x12 y0 = some o → Stand p l e room_1 s m args below meth c T locs 0 0 → T.heap = hA → Fr n0 locs → Old Z n0 hA → Keep h0 hA [] →  OwnOut p e s below 16 640 (Q0 Z default default default default default default h0 n0 o) (T.setTop (mkF m 70 #[.val (.int x0), .val (.int x1), .val (.int x2), .val (.int x3), .val (.int x4), .val (.int x5), .val (.int x6), .val (.int x7), .val (.int x8), .val (.int x9), .val (.int x10), .val (.int x11), .val (.int x12), .unset, .unset, .unset, .unset, .unset, .unset, .unset] [(.int y0)])) := by
    obtain ⟨hx, hZ, hw, hby, hml, hown, hret, hlk, hnm⟩ := C
    intro T locs hA x0 x1 x2 x3 x4 x5 x6 x7 x8 x9 x10 x11 x12 y0 o hr X0 e0 N0 O0 K0
    rw [f0_70] at hr
    refine OwnOut.go (fun t k => XS.istore X0.here hx rfl (hb hby at_70) rfl (l' := #[.val (.int x0), .val (.int x1), .val (.int x2), .val (.int x3), .val (.int x4), .val (.int x5), .val (.int x6), .val (.int x7), .val (.int x8), .val (.int x9), .val (.int x10), .val (.int x11), .val (.int x12), .val (.int y0), .unset, .unset, .unset, .unset, .unset, .unset]) rfl k) ?_
    show OwnOut p e s below 16 640 _ (T.setTop (mkF m 72 #[.val (.int x0), .val (.int x1), .val (.int x2), .val (.int x3), .val (.int x4), .val (.int x5), .val (.int x6), .val (.int x7), .val (.int x8), .val (.int x9), .val (.int x10), .val (.int x11), .val (.int x12), .val (.int y0), .unset, .unset, .unset, .unset, .unset, .unset] []))
    refine OwnOut.go (fun t k => XS.iload X0.here hx rfl (hb hby at_72) rfl k) ?_
    show OwnOut p e s below 16 640 _ (T.setTop (mkF m 74 #[.val (.int x0), .val (.int x1), .val (.int x2), .val (.int x3), .val (.int x4), .val (.int x5), .val (.int x6), .val (.int x7), .val (.int x8), .val (.int x9), .val (.int x10), .val (.int x11), .val (.int x12), .val (.int y0), .unset, .unset, .unset, .unset, .unset, .unset] [(.int x12)]))
    by_cases hc74 : x12 = (0 : Int32)
    · rw [if_pos hc74] at hr
      refine OwnOut.go (fun t k => XS.ifYes X0.here hx rfl (pc0 := 74) (pc' := 86) rfl (hb hby at_74) rfl (XT.i0_eq_t hc74) (by decide) (by decide) k) ?_
      show OwnOut p e s below 16 640 _ (T.setTop (mkF m 86 #[.val (.int x0), .val (.int x1), .val (.int x2), .val (.int x3), .val (.int x4), .val (.int x5), .val (.int x6), .val (.int x7), .val (.int x8), .val (.int x9), .val (.int x10), .val (.int x11), .val (.int x12), .val (.int y0), .unset, .unset, .unset, .unset, .unset, .unset] []))
      exact w0_86 ⟨hx, hZ, hw, hby, hml, hown, hret, hlk, hnm⟩  _ _ _ x0 x1 x2 x3 x4 x5 x6 x7 x8 x9 x10 x11 x12 y0 _ hr X0 e0 N0 O0 K0
    · rw [if_neg hc74] at hr
      refine OwnOut.go (fun t k => XS.ifNo X0.here hx rfl (hb hby at_74) rfl (XT.i0_eq_f hc74) k) ?_
      show OwnOut p e s below 16 640 _ (T.setTop (mkF m 77 #[.val (.int x0), .val (.int x1), .val (.int x2), .val (.int x3), .val (.int x4), .val (.int x5), .val (.int x6), .val (.int x7), .val (.int x8), .val (.int x9), .val (.int x10), .val (.int x11), .val (.int x12), .val (.int y0), .unset, .unset, .unset, .unset, .unset, .unset] []))
      refine OwnOut.go (fun t k => XS.iload X0.here hx rfl (hb hby at_77) rfl k) ?_
      show OwnOut p e s below 16 640 _ (T.setTop (mkF m 79 #[.val (.int x0), .val (.int x1), .val (.int x2), .val (.int x3), .val (.int x4), .val (.int x5), .val (.int x6), .val (.int x7), .val (.int x8), .val (.int x9), .val (.int x10), .val (.int x11), .val (.int x12), .val (.int y0), .unset, .unset, .unset, .unset, .unset, .unset] [(.int y0)]))
      by_cases hc79 : y0 = (0 : Int32)
      · rw [if_pos hc79] at hr
        refine OwnOut.go (fun t k => XS.ifYes X0.here hx rfl (pc0 := 79) (pc' := 86) rfl (hb hby at_79) rfl (XT.i0_eq_t hc79) (by decide) (by decide) k) ?_
        show OwnOut p e s below 16 640 _ (T.setTop (mkF m 86 #[.val (.int x0), .val (.int x1), .val (.int x2), .val (.int x3), .val (.int x4), .val (.int x5), .val (.int x6), .val (.int x7), .val (.int x8), .val (.int x9), .val (.int x10), .val (.int x11), .val (.int x12), .val (.int y0), .unset, .unset, .unset, .unset, .unset, .unset] []))
        exact w0_86 ⟨hx, hZ, hw, hby, hml, hown, hret, hlk, hnm⟩  _ _ _ x0 x1 x2 x3 x4 x5 x6 x7 x8 x9 x10 x11 x12 y0 _ hr X0 e0 N0 O0 K0
      · rw [if_neg hc79] at hr
        refine OwnOut.go (fun t k => XS.ifNo X0.here hx rfl (hb hby at_79) rfl (XT.i0_eq_f hc79) k) ?_
        show OwnOut p e s below 16 640 _ (T.setTop (mkF m 82 #[.val (.int x0), .val (.int x1), .val (.int x2), .val (.int x3), .val (.int x4), .val (.int x5), .val (.int x6), .val (.int x7), .val (.int x8), .val (.int x9), .val (.int x10), .val (.int x11), .val (.int x12), .val (.int y0), .unset, .unset, .unset, .unset, .unset, .unset] []))
        refine OwnOut.go (fun t k => XT.iconstV X0.here hx rfl (1 : Int32) (hb hby at_82) rfl k) ?_
        show OwnOut p e s below 16 640 _ (T.setTop (mkF m 83 #[.val (.int x0), .val (.int x1), .val (.int x2), .val (.int x3), .val (.int x4), .val (.int x5), .val (.int x6), .val (.int x7), .val (.int x8), .val (.int x9), .val (.int x10), .val (.int x11), .val (.int x12), .val (.int y0), .unset, .unset, .unset, .unset, .unset, .unset] [(.int (1 : Int32))]))
        refine OwnOut.go (fun t k => XS.goto X0.here hx rfl (pc0 := 83) (pc' := 87) rfl (hb hby at_83) (by decide) (by decide) k) ?_
        show OwnOut p e s below 16 640 _ (T.setTop (mkF m 87 #[.val (.int x0), .val (.int x1), .val (.int x2), .val (.int x3), .val (.int x4), .val (.int x5), .val (.int x6), .val (.int x7), .val (.int x8), .val (.int x9), .val (.int x10), .val (.int x11), .val (.int x12), .val (.int y0), .unset, .unset, .unset, .unset, .unset, .unset] [(.int (1 : Int32))]))
        exact w0_87 ⟨hx, hZ, hw, hby, hml, hown, hret, hlk, hnm⟩  _ _ _ x0 x1 x2 x3 x4 x5 x6 x7 x8 x9 x10 x11 x12 y0 (1 : Int32) _ hr X0 e0 N0 O0 K0
def f0_57 (x5 : Int32) (x6 : Int32) (x7 : Int32) (x8 : Int32) (x9 : Int32) (x10 : Int32) (x11 : Int32) (y0 : Int32) : Option (Int32) := (if x7 = (2 : Int32) then (f0_70 x5 x6 x7 x8 x9 x10 x11 y0 (1 : Int32)) else (f0_70 x5 x6 x7 x8 x9 x10 x11 y0 (0 : Int32)))
set_option maxRecDepth 65536 in
set_option maxHeartbeats 40000000 in
theorem w0_57 {p : Program} {l : Launch} {e : Env} {s : State} {m : MethodId} {args : Array Value} {below : List Frame} {meth : Method} {c : Code} {Z : State} {a0 : Array Value} {h0 : Heap} {n0 : Nat} (C : Cx0 Z a0 p s m meth c) :
    ∀ (T : State) (locs : List Loc) (hA : Heap) (x0 : Int32) (x1 : Int32) (x2 : Int32) (x3 : Int32) (x4 : Int32) (x5 : Int32) (x6 : Int32) (x7 : Int32) (x8 : Int32) (x9 : Int32) (x10 : Int32) (x11 : Int32) (y0 : Int32) (o : Int32), f0_57 x5 x6 x7 x8 x9 x10 x11 y0 = some o → Stand p l e room_1 s m args below meth c T locs 0 0 → T.heap = hA → Fr n0 locs → Old Z n0 hA → Keep h0 hA [] →  OwnOut p e s below 16 640 (Q0 Z default default default default default default h0 n0 o) (T.setTop (mkF m 57 #[.val (.int x0), .val (.int x1), .val (.int x2), .val (.int x3), .val (.int x4), .val (.int x5), .val (.int x6), .val (.int x7), .val (.int x8), .val (.int x9), .val (.int x10), .val (.int x11), .unset, .unset, .unset, .unset, .unset, .unset, .unset, .unset] [(.int y0)])) := by
    obtain ⟨hx, hZ, hw, hby, hml, hown, hret, hlk, hnm⟩ := C
    intro T locs hA x0 x1 x2 x3 x4 x5 x6 x7 x8 x9 x10 x11 y0 o hr X0 e0 N0 O0 K0
    rw [f0_57] at hr
    refine OwnOut.go (fun t k => XS.istore X0.here hx rfl (hb hby at_57) rfl (l' := #[.val (.int x0), .val (.int x1), .val (.int x2), .val (.int x3), .val (.int x4), .val (.int x5), .val (.int x6), .val (.int x7), .val (.int x8), .val (.int x9), .val (.int x10), .val (.int x11), .val (.int y0), .unset, .unset, .unset, .unset, .unset, .unset, .unset]) rfl k) ?_
    show OwnOut p e s below 16 640 _ (T.setTop (mkF m 59 #[.val (.int x0), .val (.int x1), .val (.int x2), .val (.int x3), .val (.int x4), .val (.int x5), .val (.int x6), .val (.int x7), .val (.int x8), .val (.int x9), .val (.int x10), .val (.int x11), .val (.int y0), .unset, .unset, .unset, .unset, .unset, .unset, .unset] []))
    refine OwnOut.go (fun t k => XS.iload X0.here hx rfl (hb hby at_59) rfl k) ?_
    show OwnOut p e s below 16 640 _ (T.setTop (mkF m 61 #[.val (.int x0), .val (.int x1), .val (.int x2), .val (.int x3), .val (.int x4), .val (.int x5), .val (.int x6), .val (.int x7), .val (.int x8), .val (.int x9), .val (.int x10), .val (.int x11), .val (.int y0), .unset, .unset, .unset, .unset, .unset, .unset, .unset] [(.int x7)]))
    refine OwnOut.go (fun t k => XT.iconstV X0.here hx rfl (2 : Int32) (hb hby at_61) rfl k) ?_
    show OwnOut p e s below 16 640 _ (T.setTop (mkF m 62 #[.val (.int x0), .val (.int x1), .val (.int x2), .val (.int x3), .val (.int x4), .val (.int x5), .val (.int x6), .val (.int x7), .val (.int x8), .val (.int x9), .val (.int x10), .val (.int x11), .val (.int y0), .unset, .unset, .unset, .unset, .unset, .unset, .unset] [(.int (2 : Int32)), (.int x7)]))
    by_cases hc62 : x7 = (2 : Int32)
    · rw [if_pos hc62] at hr
      refine OwnOut.go (fun t k => XS.icmpNo X0.here hx rfl (hb hby at_62) rfl (XT.ii_ne_f hc62) k) ?_
      show OwnOut p e s below 16 640 _ (T.setTop (mkF m 65 #[.val (.int x0), .val (.int x1), .val (.int x2), .val (.int x3), .val (.int x4), .val (.int x5), .val (.int x6), .val (.int x7), .val (.int x8), .val (.int x9), .val (.int x10), .val (.int x11), .val (.int y0), .unset, .unset, .unset, .unset, .unset, .unset, .unset] []))
      refine OwnOut.go (fun t k => XT.iconstV X0.here hx rfl (1 : Int32) (hb hby at_65) rfl k) ?_
      show OwnOut p e s below 16 640 _ (T.setTop (mkF m 66 #[.val (.int x0), .val (.int x1), .val (.int x2), .val (.int x3), .val (.int x4), .val (.int x5), .val (.int x6), .val (.int x7), .val (.int x8), .val (.int x9), .val (.int x10), .val (.int x11), .val (.int y0), .unset, .unset, .unset, .unset, .unset, .unset, .unset] [(.int (1 : Int32))]))
      refine OwnOut.go (fun t k => XS.goto X0.here hx rfl (pc0 := 66) (pc' := 70) rfl (hb hby at_66) (by decide) (by decide) k) ?_
      show OwnOut p e s below 16 640 _ (T.setTop (mkF m 70 #[.val (.int x0), .val (.int x1), .val (.int x2), .val (.int x3), .val (.int x4), .val (.int x5), .val (.int x6), .val (.int x7), .val (.int x8), .val (.int x9), .val (.int x10), .val (.int x11), .val (.int y0), .unset, .unset, .unset, .unset, .unset, .unset, .unset] [(.int (1 : Int32))]))
      exact w0_70 ⟨hx, hZ, hw, hby, hml, hown, hret, hlk, hnm⟩  _ _ _ x0 x1 x2 x3 x4 x5 x6 x7 x8 x9 x10 x11 y0 (1 : Int32) _ hr X0 e0 N0 O0 K0
    · rw [if_neg hc62] at hr
      refine OwnOut.go (fun t k => XS.icmpYes X0.here hx rfl (pc0 := 62) (pc' := 69) rfl (hb hby at_62) rfl (XT.ii_ne_t hc62) (by decide) (by decide) k) ?_
      show OwnOut p e s below 16 640 _ (T.setTop (mkF m 69 #[.val (.int x0), .val (.int x1), .val (.int x2), .val (.int x3), .val (.int x4), .val (.int x5), .val (.int x6), .val (.int x7), .val (.int x8), .val (.int x9), .val (.int x10), .val (.int x11), .val (.int y0), .unset, .unset, .unset, .unset, .unset, .unset, .unset] []))
      refine OwnOut.go (fun t k => XT.iconstV X0.here hx rfl (0 : Int32) (hb hby at_69) rfl k) ?_
      show OwnOut p e s below 16 640 _ (T.setTop (mkF m 70 #[.val (.int x0), .val (.int x1), .val (.int x2), .val (.int x3), .val (.int x4), .val (.int x5), .val (.int x6), .val (.int x7), .val (.int x8), .val (.int x9), .val (.int x10), .val (.int x11), .val (.int y0), .unset, .unset, .unset, .unset, .unset, .unset, .unset] [(.int (0 : Int32))]))
      exact w0_70 ⟨hx, hZ, hw, hby, hml, hown, hret, hlk, hnm⟩  _ _ _ x0 x1 x2 x3 x4 x5 x6 x7 x8 x9 x10 x11 y0 (0 : Int32) _ hr X0 e0 N0 O0 K0
def f0_18 (x0 : Int32) (x1 : Int32) (x2 : Int32) (x3 : Int32) (x5 : Int32) (x6 : Int32) (x7 : Int32) : Option (Int32) := (if x6 = (2 : Int32) then (f0_57 x5 x6 x7 (x0 &&& (255 : Int32)) (x1 &&& (255 : Int32)) (x2 &&& (255 : Int32)) (x3 &&& (255 : Int32)) (1 : Int32)) else (f0_57 x5 x6 x7 (x0 &&& (255 : Int32)) (x1 &&& (255 : Int32)) (x2 &&& (255 : Int32)) (x3 &&& (255 : Int32)) (0 : Int32)))
set_option maxRecDepth 65536 in
set_option maxHeartbeats 40000000 in
theorem w0_18 {p : Program} {l : Launch} {e : Env} {s : State} {m : MethodId} {args : Array Value} {below : List Frame} {meth : Method} {c : Code} {Z : State} {a0 : Array Value} {h0 : Heap} {n0 : Nat} (C : Cx0 Z a0 p s m meth c) :
    ∀ (T : State) (locs : List Loc) (hA : Heap) (x0 : Int32) (x1 : Int32) (x2 : Int32) (x3 : Int32) (x4 : Int32) (x5 : Int32) (x6 : Int32) (x7 : Int32) (o : Int32), f0_18 x0 x1 x2 x3 x5 x6 x7 = some o → Stand p l e room_1 s m args below meth c T locs 0 0 → T.heap = hA → Fr n0 locs → Old Z n0 hA → Keep h0 hA [] →  OwnOut p e s below 16 640 (Q0 Z default default default default default default h0 n0 o) (T.setTop (mkF m 18 #[.val (.int x0), .val (.int x1), .val (.int x2), .val (.int x3), .val (.int x4), .val (.int x5), .val (.int x6), .val (.int x7), .unset, .unset, .unset, .unset, .unset, .unset, .unset, .unset, .unset, .unset, .unset, .unset] [])) := by
    obtain ⟨hx, hZ, hw, hby, hml, hown, hret, hlk, hnm⟩ := C
    intro T locs hA x0 x1 x2 x3 x4 x5 x6 x7 o hr X0 e0 N0 O0 K0
    rw [f0_18] at hr
    refine OwnOut.go (fun t k => XS.iloadN X0.here hx rfl (hb hby at_18) rfl k) ?_
    show OwnOut p e s below 16 640 _ (T.setTop (mkF m 19 #[.val (.int x0), .val (.int x1), .val (.int x2), .val (.int x3), .val (.int x4), .val (.int x5), .val (.int x6), .val (.int x7), .unset, .unset, .unset, .unset, .unset, .unset, .unset, .unset, .unset, .unset, .unset, .unset] [(.int x0)]))
    refine OwnOut.go (fun t k => XT.sipushV X0.here hx rfl (255 : Int32) (hb hby at_19) rfl k) ?_
    show OwnOut p e s below 16 640 _ (T.setTop (mkF m 22 #[.val (.int x0), .val (.int x1), .val (.int x2), .val (.int x3), .val (.int x4), .val (.int x5), .val (.int x6), .val (.int x7), .unset, .unset, .unset, .unset, .unset, .unset, .unset, .unset, .unset, .unset, .unset, .unset] [(.int (255 : Int32)), (.int x0)]))
    refine OwnOut.go (fun t k => XS.iand X0.here hx rfl (hb hby at_22) rfl k) ?_
    show OwnOut p e s below 16 640 _ (T.setTop (mkF m 23 #[.val (.int x0), .val (.int x1), .val (.int x2), .val (.int x3), .val (.int x4), .val (.int x5), .val (.int x6), .val (.int x7), .unset, .unset, .unset, .unset, .unset, .unset, .unset, .unset, .unset, .unset, .unset, .unset] [(.int (x0 &&& (255 : Int32)))]))
    refine OwnOut.go (fun t k => XS.istore X0.here hx rfl (hb hby at_23) rfl (l' := #[.val (.int x0), .val (.int x1), .val (.int x2), .val (.int x3), .val (.int x4), .val (.int x5), .val (.int x6), .val (.int x7), .val (.int (x0 &&& (255 : Int32))), .unset, .unset, .unset, .unset, .unset, .unset, .unset, .unset, .unset, .unset, .unset]) rfl k) ?_
    show OwnOut p e s below 16 640 _ (T.setTop (mkF m 25 #[.val (.int x0), .val (.int x1), .val (.int x2), .val (.int x3), .val (.int x4), .val (.int x5), .val (.int x6), .val (.int x7), .val (.int (x0 &&& (255 : Int32))), .unset, .unset, .unset, .unset, .unset, .unset, .unset, .unset, .unset, .unset, .unset] []))
    refine OwnOut.go (fun t k => XS.iloadN X0.here hx rfl (hb hby at_25) rfl k) ?_
    show OwnOut p e s below 16 640 _ (T.setTop (mkF m 26 #[.val (.int x0), .val (.int x1), .val (.int x2), .val (.int x3), .val (.int x4), .val (.int x5), .val (.int x6), .val (.int x7), .val (.int (x0 &&& (255 : Int32))), .unset, .unset, .unset, .unset, .unset, .unset, .unset, .unset, .unset, .unset, .unset] [(.int x1)]))
    refine OwnOut.go (fun t k => XT.sipushV X0.here hx rfl (255 : Int32) (hb hby at_26) rfl k) ?_
    show OwnOut p e s below 16 640 _ (T.setTop (mkF m 29 #[.val (.int x0), .val (.int x1), .val (.int x2), .val (.int x3), .val (.int x4), .val (.int x5), .val (.int x6), .val (.int x7), .val (.int (x0 &&& (255 : Int32))), .unset, .unset, .unset, .unset, .unset, .unset, .unset, .unset, .unset, .unset, .unset] [(.int (255 : Int32)), (.int x1)]))
    refine OwnOut.go (fun t k => XS.iand X0.here hx rfl (hb hby at_29) rfl k) ?_
    show OwnOut p e s below 16 640 _ (T.setTop (mkF m 30 #[.val (.int x0), .val (.int x1), .val (.int x2), .val (.int x3), .val (.int x4), .val (.int x5), .val (.int x6), .val (.int x7), .val (.int (x0 &&& (255 : Int32))), .unset, .unset, .unset, .unset, .unset, .unset, .unset, .unset, .unset, .unset, .unset] [(.int (x1 &&& (255 : Int32)))]))
    refine OwnOut.go (fun t k => XS.istore X0.here hx rfl (hb hby at_30) rfl (l' := #[.val (.int x0), .val (.int x1), .val (.int x2), .val (.int x3), .val (.int x4), .val (.int x5), .val (.int x6), .val (.int x7), .val (.int (x0 &&& (255 : Int32))), .val (.int (x1 &&& (255 : Int32))), .unset, .unset, .unset, .unset, .unset, .unset, .unset, .unset, .unset, .unset]) rfl k) ?_
    show OwnOut p e s below 16 640 _ (T.setTop (mkF m 32 #[.val (.int x0), .val (.int x1), .val (.int x2), .val (.int x3), .val (.int x4), .val (.int x5), .val (.int x6), .val (.int x7), .val (.int (x0 &&& (255 : Int32))), .val (.int (x1 &&& (255 : Int32))), .unset, .unset, .unset, .unset, .unset, .unset, .unset, .unset, .unset, .unset] []))
    refine OwnOut.go (fun t k => XS.iloadN X0.here hx rfl (hb hby at_32) rfl k) ?_
    show OwnOut p e s below 16 640 _ (T.setTop (mkF m 33 #[.val (.int x0), .val (.int x1), .val (.int x2), .val (.int x3), .val (.int x4), .val (.int x5), .val (.int x6), .val (.int x7), .val (.int (x0 &&& (255 : Int32))), .val (.int (x1 &&& (255 : Int32))), .unset, .unset, .unset, .unset, .unset, .unset, .unset, .unset, .unset, .unset] [(.int x2)]))
    refine OwnOut.go (fun t k => XT.sipushV X0.here hx rfl (255 : Int32) (hb hby at_33) rfl k) ?_
    show OwnOut p e s below 16 640 _ (T.setTop (mkF m 36 #[.val (.int x0), .val (.int x1), .val (.int x2), .val (.int x3), .val (.int x4), .val (.int x5), .val (.int x6), .val (.int x7), .val (.int (x0 &&& (255 : Int32))), .val (.int (x1 &&& (255 : Int32))), .unset, .unset, .unset, .unset, .unset, .unset, .unset, .unset, .unset, .unset] [(.int (255 : Int32)), (.int x2)]))
    refine OwnOut.go (fun t k => XS.iand X0.here hx rfl (hb hby at_36) rfl k) ?_
    show OwnOut p e s below 16 640 _ (T.setTop (mkF m 37 #[.val (.int x0), .val (.int x1), .val (.int x2), .val (.int x3), .val (.int x4), .val (.int x5), .val (.int x6), .val (.int x7), .val (.int (x0 &&& (255 : Int32))), .val (.int (x1 &&& (255 : Int32))), .unset, .unset, .unset, .unset, .unset, .unset, .unset, .unset, .unset, .unset] [(.int (x2 &&& (255 : Int32)))]))
    refine OwnOut.go (fun t k => XS.istore X0.here hx rfl (hb hby at_37) rfl (l' := #[.val (.int x0), .val (.int x1), .val (.int x2), .val (.int x3), .val (.int x4), .val (.int x5), .val (.int x6), .val (.int x7), .val (.int (x0 &&& (255 : Int32))), .val (.int (x1 &&& (255 : Int32))), .val (.int (x2 &&& (255 : Int32))), .unset, .unset, .unset, .unset, .unset, .unset, .unset, .unset, .unset]) rfl k) ?_
    show OwnOut p e s below 16 640 _ (T.setTop (mkF m 39 #[.val (.int x0), .val (.int x1), .val (.int x2), .val (.int x3), .val (.int x4), .val (.int x5), .val (.int x6), .val (.int x7), .val (.int (x0 &&& (255 : Int32))), .val (.int (x1 &&& (255 : Int32))), .val (.int (x2 &&& (255 : Int32))), .unset, .unset, .unset, .unset, .unset, .unset, .unset, .unset, .unset] []))
    refine OwnOut.go (fun t k => XS.iloadN X0.here hx rfl (hb hby at_39) rfl k) ?_
    show OwnOut p e s below 16 640 _ (T.setTop (mkF m 40 #[.val (.int x0), .val (.int x1), .val (.int x2), .val (.int x3), .val (.int x4), .val (.int x5), .val (.int x6), .val (.int x7), .val (.int (x0 &&& (255 : Int32))), .val (.int (x1 &&& (255 : Int32))), .val (.int (x2 &&& (255 : Int32))), .unset, .unset, .unset, .unset, .unset, .unset, .unset, .unset, .unset] [(.int x3)]))
    refine OwnOut.go (fun t k => XT.sipushV X0.here hx rfl (255 : Int32) (hb hby at_40) rfl k) ?_
    show OwnOut p e s below 16 640 _ (T.setTop (mkF m 43 #[.val (.int x0), .val (.int x1), .val (.int x2), .val (.int x3), .val (.int x4), .val (.int x5), .val (.int x6), .val (.int x7), .val (.int (x0 &&& (255 : Int32))), .val (.int (x1 &&& (255 : Int32))), .val (.int (x2 &&& (255 : Int32))), .unset, .unset, .unset, .unset, .unset, .unset, .unset, .unset, .unset] [(.int (255 : Int32)), (.int x3)]))
    refine OwnOut.go (fun t k => XS.iand X0.here hx rfl (hb hby at_43) rfl k) ?_
    show OwnOut p e s below 16 640 _ (T.setTop (mkF m 44 #[.val (.int x0), .val (.int x1), .val (.int x2), .val (.int x3), .val (.int x4), .val (.int x5), .val (.int x6), .val (.int x7), .val (.int (x0 &&& (255 : Int32))), .val (.int (x1 &&& (255 : Int32))), .val (.int (x2 &&& (255 : Int32))), .unset, .unset, .unset, .unset, .unset, .unset, .unset, .unset, .unset] [(.int (x3 &&& (255 : Int32)))]))
    refine OwnOut.go (fun t k => XS.istore X0.here hx rfl (hb hby at_44) rfl (l' := #[.val (.int x0), .val (.int x1), .val (.int x2), .val (.int x3), .val (.int x4), .val (.int x5), .val (.int x6), .val (.int x7), .val (.int (x0 &&& (255 : Int32))), .val (.int (x1 &&& (255 : Int32))), .val (.int (x2 &&& (255 : Int32))), .val (.int (x3 &&& (255 : Int32))), .unset, .unset, .unset, .unset, .unset, .unset, .unset, .unset]) rfl k) ?_
    show OwnOut p e s below 16 640 _ (T.setTop (mkF m 46 #[.val (.int x0), .val (.int x1), .val (.int x2), .val (.int x3), .val (.int x4), .val (.int x5), .val (.int x6), .val (.int x7), .val (.int (x0 &&& (255 : Int32))), .val (.int (x1 &&& (255 : Int32))), .val (.int (x2 &&& (255 : Int32))), .val (.int (x3 &&& (255 : Int32))), .unset, .unset, .unset, .unset, .unset, .unset, .unset, .unset] []))
    refine OwnOut.go (fun t k => XS.iload X0.here hx rfl (hb hby at_46) rfl k) ?_
    show OwnOut p e s below 16 640 _ (T.setTop (mkF m 48 #[.val (.int x0), .val (.int x1), .val (.int x2), .val (.int x3), .val (.int x4), .val (.int x5), .val (.int x6), .val (.int x7), .val (.int (x0 &&& (255 : Int32))), .val (.int (x1 &&& (255 : Int32))), .val (.int (x2 &&& (255 : Int32))), .val (.int (x3 &&& (255 : Int32))), .unset, .unset, .unset, .unset, .unset, .unset, .unset, .unset] [(.int x6)]))
    refine OwnOut.go (fun t k => XT.iconstV X0.here hx rfl (2 : Int32) (hb hby at_48) rfl k) ?_
    show OwnOut p e s below 16 640 _ (T.setTop (mkF m 49 #[.val (.int x0), .val (.int x1), .val (.int x2), .val (.int x3), .val (.int x4), .val (.int x5), .val (.int x6), .val (.int x7), .val (.int (x0 &&& (255 : Int32))), .val (.int (x1 &&& (255 : Int32))), .val (.int (x2 &&& (255 : Int32))), .val (.int (x3 &&& (255 : Int32))), .unset, .unset, .unset, .unset, .unset, .unset, .unset, .unset] [(.int (2 : Int32)), (.int x6)]))
    by_cases hc49 : x6 = (2 : Int32)
    · rw [if_pos hc49] at hr
      refine OwnOut.go (fun t k => XS.icmpNo X0.here hx rfl (hb hby at_49) rfl (XT.ii_ne_f hc49) k) ?_
      show OwnOut p e s below 16 640 _ (T.setTop (mkF m 52 #[.val (.int x0), .val (.int x1), .val (.int x2), .val (.int x3), .val (.int x4), .val (.int x5), .val (.int x6), .val (.int x7), .val (.int (x0 &&& (255 : Int32))), .val (.int (x1 &&& (255 : Int32))), .val (.int (x2 &&& (255 : Int32))), .val (.int (x3 &&& (255 : Int32))), .unset, .unset, .unset, .unset, .unset, .unset, .unset, .unset] []))
      refine OwnOut.go (fun t k => XT.iconstV X0.here hx rfl (1 : Int32) (hb hby at_52) rfl k) ?_
      show OwnOut p e s below 16 640 _ (T.setTop (mkF m 53 #[.val (.int x0), .val (.int x1), .val (.int x2), .val (.int x3), .val (.int x4), .val (.int x5), .val (.int x6), .val (.int x7), .val (.int (x0 &&& (255 : Int32))), .val (.int (x1 &&& (255 : Int32))), .val (.int (x2 &&& (255 : Int32))), .val (.int (x3 &&& (255 : Int32))), .unset, .unset, .unset, .unset, .unset, .unset, .unset, .unset] [(.int (1 : Int32))]))
      refine OwnOut.go (fun t k => XS.goto X0.here hx rfl (pc0 := 53) (pc' := 57) rfl (hb hby at_53) (by decide) (by decide) k) ?_
      show OwnOut p e s below 16 640 _ (T.setTop (mkF m 57 #[.val (.int x0), .val (.int x1), .val (.int x2), .val (.int x3), .val (.int x4), .val (.int x5), .val (.int x6), .val (.int x7), .val (.int (x0 &&& (255 : Int32))), .val (.int (x1 &&& (255 : Int32))), .val (.int (x2 &&& (255 : Int32))), .val (.int (x3 &&& (255 : Int32))), .unset, .unset, .unset, .unset, .unset, .unset, .unset, .unset] [(.int (1 : Int32))]))
      exact w0_57 ⟨hx, hZ, hw, hby, hml, hown, hret, hlk, hnm⟩  _ _ _ x0 x1 x2 x3 x4 x5 x6 x7 (x0 &&& (255 : Int32)) (x1 &&& (255 : Int32)) (x2 &&& (255 : Int32)) (x3 &&& (255 : Int32)) (1 : Int32) _ hr X0 e0 N0 O0 K0
    · rw [if_neg hc49] at hr
      refine OwnOut.go (fun t k => XS.icmpYes X0.here hx rfl (pc0 := 49) (pc' := 56) rfl (hb hby at_49) rfl (XT.ii_ne_t hc49) (by decide) (by decide) k) ?_
      show OwnOut p e s below 16 640 _ (T.setTop (mkF m 56 #[.val (.int x0), .val (.int x1), .val (.int x2), .val (.int x3), .val (.int x4), .val (.int x5), .val (.int x6), .val (.int x7), .val (.int (x0 &&& (255 : Int32))), .val (.int (x1 &&& (255 : Int32))), .val (.int (x2 &&& (255 : Int32))), .val (.int (x3 &&& (255 : Int32))), .unset, .unset, .unset, .unset, .unset, .unset, .unset, .unset] []))
      refine OwnOut.go (fun t k => XT.iconstV X0.here hx rfl (0 : Int32) (hb hby at_56) rfl k) ?_
      show OwnOut p e s below 16 640 _ (T.setTop (mkF m 57 #[.val (.int x0), .val (.int x1), .val (.int x2), .val (.int x3), .val (.int x4), .val (.int x5), .val (.int x6), .val (.int x7), .val (.int (x0 &&& (255 : Int32))), .val (.int (x1 &&& (255 : Int32))), .val (.int (x2 &&& (255 : Int32))), .val (.int (x3 &&& (255 : Int32))), .unset, .unset, .unset, .unset, .unset, .unset, .unset, .unset] [(.int (0 : Int32))]))
      exact w0_57 ⟨hx, hZ, hw, hby, hml, hown, hret, hlk, hnm⟩  _ _ _ x0 x1 x2 x3 x4 x5 x6 x7 (x0 &&& (255 : Int32)) (x1 &&& (255 : Int32)) (x2 &&& (255 : Int32)) (x3 &&& (255 : Int32)) (0 : Int32) _ hr X0 e0 N0 O0 K0
def f0 (x0 : Int32) (x1 : Int32) (x2 : Int32) (x3 : Int32) (x4 : Int32) (x5 : Int32) : Option (Int32) := (f0_18 x0 x1 x2 x3 x5 ((x4 &&& (1 : Int32)) + (1 : Int32)) ((((x4.toUInt32 >>> ((1 : Int32) &&& 31).toUInt32).toInt32) &&& (1 : Int32)) + (1 : Int32)))
set_option maxRecDepth 65536 in
set_option maxHeartbeats 40000000 in
theorem w0_0 {p : Program} {l : Launch} {e : Env} {s : State} {m : MethodId} {args : Array Value} {below : List Frame} {meth : Method} {c : Code} {Z : State} {a0 : Array Value} {h0 : Heap} {n0 : Nat} (C : Cx0 Z a0 p s m meth c) :
    ∀ (T : State) (locs : List Loc) (hA : Heap) (x0 : Int32) (x1 : Int32) (x2 : Int32) (x3 : Int32) (x4 : Int32) (x5 : Int32) (o : Int32), f0 x0 x1 x2 x3 x4 x5 = some o → Stand p l e room_1 s m args below meth c T locs 0 0 → T.heap = hA → Fr n0 locs → Old Z n0 hA → Keep h0 hA [] →  OwnOut p e s below 16 640 (Q0 Z default default default default default default h0 n0 o) (T.setTop (mkF m 0 #[.val (.int x0), .val (.int x1), .val (.int x2), .val (.int x3), .val (.int x4), .val (.int x5), .unset, .unset, .unset, .unset, .unset, .unset, .unset, .unset, .unset, .unset, .unset, .unset, .unset, .unset] [])) := by
    obtain ⟨hx, hZ, hw, hby, hml, hown, hret, hlk, hnm⟩ := C
    intro T locs hA x0 x1 x2 x3 x4 x5 o hr X0 e0 N0 O0 K0
    rw [f0] at hr
    refine OwnOut.go (fun t k => XS.iload X0.here hx rfl (hb hby at_0) rfl k) ?_
    show OwnOut p e s below 16 640 _ (T.setTop (mkF m 2 #[.val (.int x0), .val (.int x1), .val (.int x2), .val (.int x3), .val (.int x4), .val (.int x5), .unset, .unset, .unset, .unset, .unset, .unset, .unset, .unset, .unset, .unset, .unset, .unset, .unset, .unset] [(.int x4)]))
    refine OwnOut.go (fun t k => XT.iconstV X0.here hx rfl (1 : Int32) (hb hby at_2) rfl k) ?_
    show OwnOut p e s below 16 640 _ (T.setTop (mkF m 3 #[.val (.int x0), .val (.int x1), .val (.int x2), .val (.int x3), .val (.int x4), .val (.int x5), .unset, .unset, .unset, .unset, .unset, .unset, .unset, .unset, .unset, .unset, .unset, .unset, .unset, .unset] [(.int (1 : Int32)), (.int x4)]))
    refine OwnOut.go (fun t k => XS.iand X0.here hx rfl (hb hby at_3) rfl k) ?_
    show OwnOut p e s below 16 640 _ (T.setTop (mkF m 4 #[.val (.int x0), .val (.int x1), .val (.int x2), .val (.int x3), .val (.int x4), .val (.int x5), .unset, .unset, .unset, .unset, .unset, .unset, .unset, .unset, .unset, .unset, .unset, .unset, .unset, .unset] [(.int (x4 &&& (1 : Int32)))]))
    refine OwnOut.go (fun t k => XT.iconstV X0.here hx rfl (1 : Int32) (hb hby at_4) rfl k) ?_
    show OwnOut p e s below 16 640 _ (T.setTop (mkF m 5 #[.val (.int x0), .val (.int x1), .val (.int x2), .val (.int x3), .val (.int x4), .val (.int x5), .unset, .unset, .unset, .unset, .unset, .unset, .unset, .unset, .unset, .unset, .unset, .unset, .unset, .unset] [(.int (1 : Int32)), (.int (x4 &&& (1 : Int32)))]))
    refine OwnOut.go (fun t k => XS.iadd X0.here hx rfl (hb hby at_5) rfl k) ?_
    show OwnOut p e s below 16 640 _ (T.setTop (mkF m 6 #[.val (.int x0), .val (.int x1), .val (.int x2), .val (.int x3), .val (.int x4), .val (.int x5), .unset, .unset, .unset, .unset, .unset, .unset, .unset, .unset, .unset, .unset, .unset, .unset, .unset, .unset] [(.int ((x4 &&& (1 : Int32)) + (1 : Int32)))]))
    refine OwnOut.go (fun t k => XS.istore X0.here hx rfl (hb hby at_6) rfl (l' := #[.val (.int x0), .val (.int x1), .val (.int x2), .val (.int x3), .val (.int x4), .val (.int x5), .val (.int ((x4 &&& (1 : Int32)) + (1 : Int32))), .unset, .unset, .unset, .unset, .unset, .unset, .unset, .unset, .unset, .unset, .unset, .unset, .unset]) rfl k) ?_
    show OwnOut p e s below 16 640 _ (T.setTop (mkF m 8 #[.val (.int x0), .val (.int x1), .val (.int x2), .val (.int x3), .val (.int x4), .val (.int x5), .val (.int ((x4 &&& (1 : Int32)) + (1 : Int32))), .unset, .unset, .unset, .unset, .unset, .unset, .unset, .unset, .unset, .unset, .unset, .unset, .unset] []))
    refine OwnOut.go (fun t k => XS.iload X0.here hx rfl (hb hby at_8) rfl k) ?_
    show OwnOut p e s below 16 640 _ (T.setTop (mkF m 10 #[.val (.int x0), .val (.int x1), .val (.int x2), .val (.int x3), .val (.int x4), .val (.int x5), .val (.int ((x4 &&& (1 : Int32)) + (1 : Int32))), .unset, .unset, .unset, .unset, .unset, .unset, .unset, .unset, .unset, .unset, .unset, .unset, .unset] [(.int x4)]))
    refine OwnOut.go (fun t k => XT.iconstV X0.here hx rfl (1 : Int32) (hb hby at_10) rfl k) ?_
    show OwnOut p e s below 16 640 _ (T.setTop (mkF m 11 #[.val (.int x0), .val (.int x1), .val (.int x2), .val (.int x3), .val (.int x4), .val (.int x5), .val (.int ((x4 &&& (1 : Int32)) + (1 : Int32))), .unset, .unset, .unset, .unset, .unset, .unset, .unset, .unset, .unset, .unset, .unset, .unset, .unset] [(.int (1 : Int32)), (.int x4)]))
    refine OwnOut.go (fun t k => XS.iushr X0.here hx rfl (hb hby at_11) rfl k) ?_
    show OwnOut p e s below 16 640 _ (T.setTop (mkF m 12 #[.val (.int x0), .val (.int x1), .val (.int x2), .val (.int x3), .val (.int x4), .val (.int x5), .val (.int ((x4 &&& (1 : Int32)) + (1 : Int32))), .unset, .unset, .unset, .unset, .unset, .unset, .unset, .unset, .unset, .unset, .unset, .unset, .unset] [(.int ((x4.toUInt32 >>> ((1 : Int32) &&& 31).toUInt32).toInt32))]))
    refine OwnOut.go (fun t k => XT.iconstV X0.here hx rfl (1 : Int32) (hb hby at_12) rfl k) ?_
    show OwnOut p e s below 16 640 _ (T.setTop (mkF m 13 #[.val (.int x0), .val (.int x1), .val (.int x2), .val (.int x3), .val (.int x4), .val (.int x5), .val (.int ((x4 &&& (1 : Int32)) + (1 : Int32))), .unset, .unset, .unset, .unset, .unset, .unset, .unset, .unset, .unset, .unset, .unset, .unset, .unset] [(.int (1 : Int32)), (.int ((x4.toUInt32 >>> ((1 : Int32) &&& 31).toUInt32).toInt32))]))
    refine OwnOut.go (fun t k => XS.iand X0.here hx rfl (hb hby at_13) rfl k) ?_
    show OwnOut p e s below 16 640 _ (T.setTop (mkF m 14 #[.val (.int x0), .val (.int x1), .val (.int x2), .val (.int x3), .val (.int x4), .val (.int x5), .val (.int ((x4 &&& (1 : Int32)) + (1 : Int32))), .unset, .unset, .unset, .unset, .unset, .unset, .unset, .unset, .unset, .unset, .unset, .unset, .unset] [(.int (((x4.toUInt32 >>> ((1 : Int32) &&& 31).toUInt32).toInt32) &&& (1 : Int32)))]))
    refine OwnOut.go (fun t k => XT.iconstV X0.here hx rfl (1 : Int32) (hb hby at_14) rfl k) ?_
    show OwnOut p e s below 16 640 _ (T.setTop (mkF m 15 #[.val (.int x0), .val (.int x1), .val (.int x2), .val (.int x3), .val (.int x4), .val (.int x5), .val (.int ((x4 &&& (1 : Int32)) + (1 : Int32))), .unset, .unset, .unset, .unset, .unset, .unset, .unset, .unset, .unset, .unset, .unset, .unset, .unset] [(.int (1 : Int32)), (.int (((x4.toUInt32 >>> ((1 : Int32) &&& 31).toUInt32).toInt32) &&& (1 : Int32)))]))
    refine OwnOut.go (fun t k => XS.iadd X0.here hx rfl (hb hby at_15) rfl k) ?_
    show OwnOut p e s below 16 640 _ (T.setTop (mkF m 16 #[.val (.int x0), .val (.int x1), .val (.int x2), .val (.int x3), .val (.int x4), .val (.int x5), .val (.int ((x4 &&& (1 : Int32)) + (1 : Int32))), .unset, .unset, .unset, .unset, .unset, .unset, .unset, .unset, .unset, .unset, .unset, .unset, .unset] [(.int ((((x4.toUInt32 >>> ((1 : Int32) &&& 31).toUInt32).toInt32) &&& (1 : Int32)) + (1 : Int32)))]))
    refine OwnOut.go (fun t k => XS.istore X0.here hx rfl (hb hby at_16) rfl (l' := #[.val (.int x0), .val (.int x1), .val (.int x2), .val (.int x3), .val (.int x4), .val (.int x5), .val (.int ((x4 &&& (1 : Int32)) + (1 : Int32))), .val (.int ((((x4.toUInt32 >>> ((1 : Int32) &&& 31).toUInt32).toInt32) &&& (1 : Int32)) + (1 : Int32))), .unset, .unset, .unset, .unset, .unset, .unset, .unset, .unset, .unset, .unset, .unset, .unset]) rfl k) ?_
    show OwnOut p e s below 16 640 _ (T.setTop (mkF m 18 #[.val (.int x0), .val (.int x1), .val (.int x2), .val (.int x3), .val (.int x4), .val (.int x5), .val (.int ((x4 &&& (1 : Int32)) + (1 : Int32))), .val (.int ((((x4.toUInt32 >>> ((1 : Int32) &&& 31).toUInt32).toInt32) &&& (1 : Int32)) + (1 : Int32))), .unset, .unset, .unset, .unset, .unset, .unset, .unset, .unset, .unset, .unset, .unset, .unset] []))
    exact w0_18 ⟨hx, hZ, hw, hby, hml, hown, hret, hlk, hnm⟩  _ _ _ x0 x1 x2 x3 x4 x5 ((x4 &&& (1 : Int32)) + (1 : Int32)) ((((x4.toUInt32 >>> ((1 : Int32) &&& 31).toUInt32).toInt32) &&& (1 : Int32)) + (1 : Int32)) _ hr X0 e0 N0 O0 K0
set_option maxRecDepth 65536 in
set_option maxHeartbeats 40000000 in
theorem rm0 (l : Launch) (Z : State) (a0 : Array Value) (hw : ∀ d ∈ tables_1, d.before a0 Z = true) (ws : List Jvm.Cond) (x0 : Int32) (x1 : Int32) (x2 : Int32) (x3 : Int32) (x4 : Int32) (x5 : Int32) (h0 : Heap) (n0 : Nat) (o : Int32) (hr : f0 x0 x1 x2 x3 x4 x5 = some o) (O0 : Old Z n0 h0) :
    MetFree l x (head1 (Jvm.Cond.code x code maxLocals ret :: ws) room_1) (fun a U => a = #[(.int x0), (.int x1), (.int x2), (.int x3), (.int x4), (.int x5)] ∧ Z.Warmed39 U.vm ∧ U.heap = h0) (fun _ _ _ _ _ => True) (fun _ U o' U' => ∃ v L, o' = .returned v ∧ Q0 Z x0 x1 x2 x3 x4 x5 h0 n0 o v U'.heap L ∧ FrameEnd U o' U' L 16 640) := by
  refine MetFree.of_bodySF (plainFor_of_name pn0) hisR ?_
  intro p e s m args below meth c s₁ Bd hml0 hP hK
  obtain ⟨rfl, hZ, hh⟩ := hP
  have X0 : Stand p l e room_1 s m #[(.int x0), (.int x1), (.int x2), (.int x3), (.int x4), (.int x5)] below meth c s₁ [] 0 0 := Stand.of_body Bd
  have e0 : s₁.heap = h0 := by rw [← hh, Bd.state]; rfl
  exact OwnOut.at (ef0 m x0 x1 x2 x3 x4 x5) (w0_0 ⟨Bd.exec, hZ, hw, Bd.bytes, hml0, findClass_of_methodNamed Bd.named, Bd.returns, Bd.notSynchronized, (name_of_methodNamed Bd.named Bd.method).1⟩ _ _ _ x0 x1 x2 x3 x4 x5 o hr X0 e0 (Fr.nil n0) O0 (Keep.refl _ _) )
def own_enc (a : Int32) : Int32 := a.toInt8.toInt32.toInt8.toInt32
theorem own_encAll : ∀ k : Fin 256, own_enc (Int32.ofNat k.val) &&& 255 = Int32.ofNat k.val := by decide +kernel
/-- a value from 0 to 255 -/
def own_by (a : Int32) : Prop := 0 ≤ a.toInt ∧ a.toInt ≤ 255
theorem own_byk {a : Int32} (h : own_by a) : ∃ k : Fin 256, a = Int32.ofNat k.val := by
  refine ⟨⟨a.toInt.toNat, by have := h.1; have := h.2; omega⟩, Int32.toInt_inj.mp ?_⟩
  show _ = (Int32.ofNat _).toInt
  rw [Int32.toInt_ofNat_of_lt (by have := h.1; have := h.2; show _ < 2 ^ 31; omega)]
  exact (Int.toNat_of_nonneg h.1).symm
theorem own_dec {a : Int32} (h : own_by a) : own_enc a &&& 255 = a := by
  obtain ⟨k, rfl⟩ := own_byk h
  exact own_encAll k
theorem own_mask (a : Int32) : own_by (a &&& 255) := by
  have e : (a &&& 255).toInt = a.toInt % (2 ^ 8 : Nat) := c_mask a 255 8 (by decide) (by decide)
  constructor <;> omega
theorem own_ld {H : List Int64} (hl : H.length = 256) {p : Int32} (h : own_by p) : ∃ y, ldx H p = some y := by
  unfold ldx
  rw [if_neg (by rw [Int32.lt_iff_toInt_lt]; have : (0 : Int32).toInt = 0 := by decide
                 have := h.1; omega)]
  exact ⟨_, List.getElem?_eq_getElem (by show p.toInt.toNat < _; have := h.1; have := h.2; omega)⟩
theorem own_st {α : Type} {xs : List α} {j : Int32} {t v : α} (h : ldx xs j = some t) : ∃ ys, stx xs j v = some ys ∧ ys.length = xs.length ∧ ldx ys j = some v ∧ ∀ k, k ≠ j → ldx ys k = ldx xs k := by
  unfold ldx at h
  by_cases hj : j < 0
  · rw [if_pos hj] at h; cases h
  rw [if_neg hj] at h
  have hlt : j.toNatClampNeg < xs.length := by
    rw [List.getElem?_eq_some_iff] at h
    exact h.1
  refine ⟨xs.set j.toNatClampNeg v, ?_, by simp, ?_, ?_⟩
  · unfold stx; rw [if_neg hj, if_neg (by omega)]
  · unfold ldx; rw [if_neg hj]; simp [hlt]
  · intro k hk
    unfold ldx
    by_cases hk0 : k < 0
    · rw [if_pos hk0, if_pos hk0]
    · rw [if_neg hk0, if_neg hk0, List.getElem?_set_ne]
      intro e
      apply hk
      rw [Int32.lt_iff_toInt_lt] at hj hk0
      have z : (0 : Int32).toInt = 0 := by decide
      have e' : j.toInt.toNat = k.toInt.toNat := e
      exact Int32.toInt_inj.mp (by omega)
/-- a turn of the histogram's loop -/
theorem own_turn (n : Nat) (N i w h : Int32) (xs : List Int32) (H : List Int64) (v : Int32) (hv : own_by v) (hi : i < N) (hx : ldx xs i = some (own_enc v)) (hl : H.length = 256) :
    ∃ H', f8_17 (n + 1) N i w h xs H = f8_17 n N (i + 1) w h xs H' ∧ H'.length = 256 ∧ ∀ p, ∀ y, ldx H p = some y → ldx H' p = some (if v = p then y + 1 else y) := by
  obtain ⟨y, hy⟩ := own_ld hl hv
  obtain ⟨H', q1, q2, q3, q4⟩ := own_st (v := y + 1) hy
  refine ⟨H', ?_, by rw [q2]; exact hl, ?_⟩
  · simp only [f8_17, if_pos hi, hx, Option.bind_some, own_dec hv, hy, q1]
  · intro p z hz
    by_cases e : v = p
    · subst e
      rw [hy] at hz
      obtain rfl := Option.some.inj hz
      rw [if_pos rfl]; exact q3
    · rw [if_neg e, q4 p (fun z => e z.symm)]; exact hz
theorem own_out (n : Nat) (N i w h : Int32) (xs : List Int32) (H : List Int64) (hi : ¬ i < N) : f8_17 (n + 1) N i w h xs H = some H := by
  simp only [f8_17, if_neg hi]
theorem own_new : nwx (0 : Int64) 256 (256 : Int32) = some (List.replicate 256 0) := by decide +kernel
theorem own_zero {p : Int32} (h : own_by p) : ldx (List.replicate 256 (0 : Int64)) p = some 0 := by
  unfold ldx
  rw [if_neg (by rw [Int32.lt_iff_toInt_lt]; have : (0 : Int32).toInt = 0 := by decide
                 have := h.1; omega)]
  have : p.toNatClampNeg < 256 := by show p.toInt.toNat < _; have := h.1; have := h.2; omega
  rw [List.getElem?_replicate, if_pos this]
/-- one more where it is that value -/
def own_c (p v : Int32) (y : Int64) : Int64 := if v = p then y + 1 else y
theorem own_h1 (w h : Int32) {a : Int32} (ha : own_by a) : ∃ H, f8 w h [own_enc a] = some H ∧ H.length = 256 ∧ ∀ p, own_by p → ldx H p = some (own_c p a 0) := by
  have L : lenx [own_enc a] = 1 := rfl
  obtain ⟨H1, e1, l1, g1⟩ := own_turn 7 1 0 w h [own_enc a] (List.replicate 256 0) a ha (by decide) rfl List.length_replicate
  refine ⟨H1, ?_, l1, fun p hp => g1 p 0 (own_zero hp)⟩
  simp only [f8, own_new, Option.bind_some, L]
  rw [e1, own_out 6 _ _ _ _ _ _ (by decide)]
theorem own_h2 (w h : Int32) {a b : Int32} (ha : own_by a) (hb : own_by b) : ∃ H, f8 w h [own_enc a, own_enc b] = some H ∧ H.length = 256 ∧ ∀ p, own_by p → ldx H p = some (own_c p b (own_c p a 0)) := by
  have L : lenx [own_enc a, own_enc b] = 2 := rfl
  obtain ⟨H1, e1, l1, g1⟩ := own_turn 7 2 0 w h [own_enc a, own_enc b] (List.replicate 256 0) a ha (by decide) rfl List.length_replicate
  obtain ⟨H2, e2, l2, g2⟩ := own_turn 6 2 (0 + 1) w h [own_enc a, own_enc b] H1 b hb (by decide) rfl l1
  refine ⟨H2, ?_, l2, fun p hp => g2 p _ (g1 p 0 (own_zero hp))⟩
  simp only [f8, own_new, Option.bind_some, L]
  rw [e1, e2, own_out 5 _ _ _ _ _ _ (by decide)]
theorem own_h4 (w h : Int32) {a b c d : Int32} (ha : own_by a) (hb : own_by b) (hc : own_by c) (hd : own_by d) : ∃ H, f8 w h [own_enc a, own_enc b, own_enc c, own_enc d] = some H ∧ H.length = 256 ∧ ∀ p, own_by p → ldx H p = some (own_c p d (own_c p c (own_c p b (own_c p a 0)))) := by
  have L : lenx [own_enc a, own_enc b, own_enc c, own_enc d] = 4 := rfl
  obtain ⟨H1, e1, l1, g1⟩ := own_turn 7 4 0 w h [own_enc a, own_enc b, own_enc c, own_enc d] (List.replicate 256 0) a ha (by decide) rfl List.length_replicate
  obtain ⟨H2, e2, l2, g2⟩ := own_turn 6 4 (0 + 1) w h [own_enc a, own_enc b, own_enc c, own_enc d] H1 b hb (by decide) rfl l1
  obtain ⟨H3, e3, l3, g3⟩ := own_turn 5 4 (0 + 1 + 1) w h [own_enc a, own_enc b, own_enc c, own_enc d] H2 c hc (by decide) rfl l2
  obtain ⟨H4, e4, l4, g4⟩ := own_turn 4 4 (0 + 1 + 1 + 1) w h [own_enc a, own_enc b, own_enc c, own_enc d] H3 d hd (by decide) rfl l3
  refine ⟨H4, ?_, l4, fun p hp => g4 p _ (g3 p _ (g2 p _ (g1 p 0 (own_zero hp))))⟩
  simp only [f8, own_new, Option.bind_some, L]
  rw [e1, e2, e3, e4, own_out 3 _ _ _ _ _ _ (by decide)]
theorem own_f9 (p a b c d : Int32) (x y z : Int32) : f9 p a b c d x y z = some ((fun q => if z = 0 then q else own_c p d q) ((fun q => if y = 0 then q else own_c p c q) ((fun q => if x = 0 then q else own_c p b q) (own_c p a 0)))) := by
  have e46 : ∀ q, f9_46 p d z q = some (if z = 0 then q else own_c p d q) := by
    intro q; simp only [f9_46, own_c]; repeat' split
    all_goals rfl
  have e30 : ∀ q, f9_30 p c d y z q = some ((fun q => if z = 0 then q else own_c p d q) (if y = 0 then q else own_c p c q)) := by
    intro q; simp only [f9_30, e46]
    by_cases h1 : y = 0
    · simp only [if_pos h1]
    · by_cases h2 : c = p
      · simp only [if_neg h1, own_c, if_pos h2]
      · simp only [if_neg h1, own_c, if_neg h2]
  have e14 : ∀ q, f9_14 p b c d x y z q = some ((fun q => if z = 0 then q else own_c p d q) ((fun q => if y = 0 then q else own_c p c q) (if x = 0 then q else own_c p b q))) := by
    intro q; simp only [f9_14, e30]
    by_cases h1 : x = 0
    · simp only [if_pos h1]
    · by_cases h2 : b = p
      · simp only [if_neg h1, own_c, if_pos h2]
      · simp only [if_neg h1, own_c, if_neg h2]
  simp only [f9, e14]
  by_cases h2 : a = p
  · simp only [own_c, if_pos h2]
  · simp only [own_c, if_neg h2]
theorem own_lenH {H : List Int64} (h : H.length = 256) : lenx H = 256 := by unfold lenx; rw [h]; rfl
/-- the last part: the histogram answers as count does -/
theorem own_153 (a b c d w h x y z pr : Int32) (l : List Int32) (ha : own_by a) (hb : own_by b) (hc : own_by c) (hd : own_by d) (H : List Int64) (hH : f8 w h l = some H) (hl : H.length = 256)
    (hg : ∀ p, own_by p → ldx H p = some ((fun q => if z = 0 then q else own_c p d q) ((fun q => if y = 0 then q else own_c p c q) ((fun q => if x = 0 then q else own_c p b q) (own_c p a 0))))) : f0_153 pr a b c d x y z w h l = some 1 := by
  have n1 : ¬ (1 : Int32) = 0 := by decide
  have m1 := hg _ (own_mask pr)
  have m2 := hg _ (own_mask ((pr.toUInt32 >>> ((8 : Int32) &&& 31).toUInt32).toInt32))
  simp only [f0_153, hH, Option.bind_some, own_lenH hl, if_true, f0_195, f0_228, f0_268, f0_308, f0_348, f0_388, f0_428, hg a ha, hg b hb, hg c hc, hg d hd, m1, m2, own_f9, if_neg n1]
  rfl
theorem own_not {p : Int32} (h : own_by p) : ¬ p < 0 ∧ ¬ 255 < p := by
  rw [Int32.lt_iff_toInt_lt, Int32.lt_iff_toInt_lt]
  have e1 : (0 : Int32).toInt = 0 := by decide
  have e2 : (255 : Int32).toInt = 255 := by decide
  have := h.1; have := h.2
  constructor <;> omega
theorem own_87 (pr a b c d : Int32) (ha : own_by a) (hb : own_by b) (hc : own_by c) (hd : own_by d) : f0_87 pr 1 1 a b c d 0 0 0 = some 1 ∧ f0_87 pr 2 1 a b c d 1 0 0 = some 1 ∧ f0_87 pr 1 2 a b c d 0 1 0 = some 1 ∧ f0_87 pr 2 2 a b c d 1 1 1 = some 1 := by
  have n1 : ¬ (1 : Int32) = 0 := by decide
  have i11 : f1 1 1 0 0 = some (1, 1, [0]) := by decide +kernel
  have i21 : f1 2 1 0 0 = some (2, 1, [0, 0]) := by decide +kernel
  have i12 : f1 1 2 0 0 = some (1, 2, [0, 0]) := by decide +kernel
  have i22 : f1 2 2 0 0 = some (2, 2, [0, 0, 0, 0]) := by decide +kernel
  have a0 := own_not ha
  have b0 := own_not hb
  have c0 := own_not hc
  have d0 := own_not hd
  refine ⟨?_, ?_, ?_, ?_⟩
  · have s1 : f4 0 0 a 1 1 [0] = some [own_enc a] := by
      have q : ∀ l, f5 0 0 1 1 l = some 0 := fun _ => rfl
      simp only [f4, if_neg a0.1, if_neg a0.2, q, Option.bind_some]; rfl
    obtain ⟨H, e, l, g⟩ := own_h1 1 1 ha
    simp only [f0_87, i11, Option.bind_some, s1, if_true, f0_125, f0_139]
    exact own_153 a b c d 1 1 0 0 0 pr _ ha hb hc hd H e l g
  · have s1 : f4 0 0 a 2 1 [0, 0] = some [own_enc a, 0] := by
      have q : ∀ l, f5 0 0 2 1 l = some 0 := fun _ => rfl
      simp only [f4, if_neg a0.1, if_neg a0.2, q, Option.bind_some]; rfl
    have s2 : f4 0 1 b 2 1 [own_enc a, 0] = some [own_enc a, own_enc b] := by
      have q : ∀ l, f5 0 1 2 1 l = some 1 := fun _ => rfl
      simp only [f4, if_neg b0.1, if_neg b0.2, q, Option.bind_some]; rfl
    obtain ⟨H, e, l, g⟩ := own_h2 2 1 ha hb
    simp only [f0_87, i21, Option.bind_some, s1, s2, if_true, if_neg n1, f0_125, f0_139]
    exact own_153 a b c d 2 1 1 0 0 pr _ ha hb hc hd H e l g
  · have s1 : f4 0 0 a 1 2 [0, 0] = some [own_enc a, 0] := by
      have q : ∀ l, f5 0 0 1 2 l = some 0 := fun _ => rfl
      simp only [f4, if_neg a0.1, if_neg a0.2, q, Option.bind_some]; rfl
    have s2 : f4 1 0 c 1 2 [own_enc a, 0] = some [own_enc a, own_enc c] := by
      have q : ∀ l, f5 1 0 1 2 l = some 1 := fun _ => rfl
      simp only [f4, if_neg c0.1, if_neg c0.2, q, Option.bind_some]; rfl
    obtain ⟨H, e, l, g⟩ := own_h2 1 2 ha hc
    simp only [f0_87, i12, Option.bind_some, s1, s2, if_true, if_neg n1, f0_125, f0_139]
    exact own_153 a b c d 1 2 0 1 0 pr _ ha hb hc hd H e l g
  · have s1 : f4 0 0 a 2 2 [0, 0, 0, 0] = some [own_enc a, 0, 0, 0] := by
      have q : ∀ l, f5 0 0 2 2 l = some 0 := fun _ => rfl
      simp only [f4, if_neg a0.1, if_neg a0.2, q, Option.bind_some]; rfl
    have s2 : f4 0 1 b 2 2 [own_enc a, 0, 0, 0] = some [own_enc a, own_enc b, 0, 0] := by
      have q : ∀ l, f5 0 1 2 2 l = some 1 := fun _ => rfl
      simp only [f4, if_neg b0.1, if_neg b0.2, q, Option.bind_some]; rfl
    have s3 : f4 1 0 c 2 2 [own_enc a, own_enc b, 0, 0] = some [own_enc a, own_enc b, own_enc c, 0] := by
      have q : ∀ l, f5 1 0 2 2 l = some 2 := fun _ => rfl
      simp only [f4, if_neg c0.1, if_neg c0.2, q, Option.bind_some]; rfl
    have s4 : f4 1 1 d 2 2 [own_enc a, own_enc b, own_enc c, 0] = some [own_enc a, own_enc b, own_enc c, own_enc d] := by
      have q : ∀ l, f5 1 1 2 2 l = some 3 := fun _ => rfl
      simp only [f4, if_neg d0.1, if_neg d0.2, q, Option.bind_some]; rfl
    obtain ⟨H, e, l, g⟩ := own_h4 2 2 ha hb hc hd
    simp only [f0_87, i22, Option.bind_some, s1, s2, s3, s4, if_neg n1, f0_125, f0_139]
    exact own_153 a b c d 2 2 1 1 1 pr _ ha hb hc hd H e l g
theorem own_bit (x : Int32) : (x &&& 1) + 1 = 1 ∨ (x &&& 1) + 1 = 2 := by
  have e : (x &&& 1).toInt = x.toInt % (2 ^ 1 : Nat) := c_mask x 1 1 (by decide) (by decide)
  have : (x &&& 1) = 0 ∨ (x &&& 1) = 1 := by simp only [← Int32.toInt_inj, Int32.reduceToInt]; omega
  rcases this with h | h <;> rw [h] <;> decide
theorem law_ok (a b c d s pr : Int32) : f0 a b c d s pr = some 1 := by
  obtain ⟨r1, r2, r3, r4⟩ := own_87 pr (a &&& 255) (b &&& 255) (c &&& 255) (d &&& 255) (own_mask a) (own_mask b) (own_mask c) (own_mask d)
  have n1 : ¬ (1 : Int32) = 0 := by decide
  have n2 : ¬ (1 : Int32) = 2 := by decide
  unfold f0
  rcases own_bit s with h | h <;> rcases own_bit ((s.toUInt32 >>> ((1 : Int32) &&& 31).toUInt32).toInt32) with k | k <;> rw [h, k]
  · simp only [f0_18, f0_57, f0_70, f0_86, if_neg n2, if_true]; exact r1
  · simp only [f0_18, f0_57, f0_70, f0_86, if_neg n2, if_true]; exact r3
  · simp only [f0_18, f0_57, f0_70, f0_86, if_neg n2, if_neg n1, if_true]; exact r2
  · simp only [f0_18, f0_57, f0_70, f0_86, if_neg n1, if_true]; exact r4
set_option maxRecDepth 65536 in
set_option maxHeartbeats 40000000 in
theorem comes_1 {Post : Tables → Env → Array Value → State → Outcome → State → Prop} (hpost : ∀ tb e args s v u, (limb_1_1.after args s (.returned v) u = true ∧ limb_1_2.after args s (.returned v) u = true ∧ True) → FrameEnd s (.returned v) u (Jvm.fieldLocs frame_1_writes args s ++ Jvm.arrayLocs frame_1_arrays args s ++ Jvm.staticLocs frame_1_statics s) 16 640 → Post tb e args s (.returned v) u) :
    ArmFor flags0 classFile x code maxLocals ret World_1 tables_1 room_1 Calls_1 rest_1 Pre_1 Post := by
  intro l hfl _ _ p e ha hc hk s m args below hf hA hF happ hP
  obtain ⟨hcalls, hrest, hpre⟩ := hP
  obtain ⟨-, -, -, hnamed, -, -, -, hat⟩ := (Spec.applies_iff hf).mp happ
  obtain ⟨hg, hn⟩ := and_e (Cond.before_iff.mp (show (Jvm.Cond.and given_1 narrow_1).before args s = true from hpre))
  obtain ⟨g1, g2⟩ := and_e hg
  obtain ⟨g3, g4⟩ := and_e g2
  obtain ⟨g5, g6⟩ := and_e g4
  obtain ⟨g7, g8⟩ := and_e g6
  obtain ⟨g9, g10⟩ := and_e g8
  obtain ⟨g11, g12⟩ := and_e g10
  obtain ⟨w0, w1, w2, w3, w4, w5, rfl⟩ : ∃ w0 w1 w2 w3 w4 w5 : Value, args = #[w0, w1, w2, w3, w4, w5] := by
    have hs : args.size = 6 := by simpa [Cond.value, given_1] using g1
    obtain ⟨L⟩ := args
    match L, hs with
    | [w0, w1, w2, w3, w4, w5], _ => exact ⟨w0, w1, w2, w3, w4, w5, rfl⟩
  have hw := fun d (hd : d ∈ tables_1) => atoms_spec (ws := Jvm.Cond.code x code maxLocals ret :: tables_1) hat d (List.mem_cons_of_mem _ hd)
  obtain ⟨i0, ei0⟩ := is_v g3
  obtain rfl : w0 = (.int i0) := Option.some.inj ei0
  obtain ⟨i1, ei1⟩ := is_v g5
  obtain rfl : w1 = (.int i1) := Option.some.inj ei1
  obtain ⟨i2, ei2⟩ := is_v g7
  obtain rfl : w2 = (.int i2) := Option.some.inj ei2
  obtain ⟨i3, ei3⟩ := is_v g9
  obtain rfl : w3 = (.int i3) := Option.some.inj ei3
  obtain ⟨i4, ei4⟩ := is_v g11
  obtain rfl : w4 = (.int i4) := Option.some.inj ei4
  obtain ⟨i5, ei5⟩ := is_v g12
  obtain rfl : w5 = (.int i5) := Option.some.inj ei5
  obtain ⟨n, o, h1, h2, h3, _, L, rfl, ⟨rfl, N⟩, hq⟩ := rm0 l s _ hw tables_1 i0 i1 i2 i3 i4 i5 s.heap s.heap.size 1 (law_ok i0 i1 i2 i3 i4 i5) (Old.start s) p e ha hc hk s m _ below hf ((Spec.applies_iff_loose hf).mp happ).1 ⟨rfl, State.Warmed39.refl s, rfl⟩ trivial
  have hv : (1 : Int32) = 1 := rfl
  refine ⟨n, _, h1, h2, h3, hpost _ _ _ _ _ _ ⟨Cond.after_iff.mpr rfl, Cond.after_iff.mpr (eq_i res_at (Term.int_eval (1)) (congrArg Value.int hv)), trivial⟩ ⟨hq.1, hq.2.1, (hq.2.2.sift fun y hy => Or.inr (N y hy)).mono (by decide) (by decide)⟩⟩
theorem main_1_1 : Claimed_1_1 := comes_1 fun _ _ _ _ _ _ h hF => ⟨h.1, hF⟩
theorem main_1_2 : Claimed_1_2 := comes_1 fun _ _ _ _ _ _ h hF => ⟨h.2.1, hF⟩
end Jvm.Pilot.@@N@@
namespace Jvm.Pilot.@@N@@
open Jvm Jvm.ClassFile Sem Op Lib Jvm.Free Jvm.Stand Jvm.Pilot.@@N@@.Jvm.D
/-! MADE BY PROGRAM (witnessworld.py) out of the Statement's table words and the real class files: 13 classes; the members and pool entries that the words name. The judged class is class 1, her method 1. -/
namespace start1
open Jvm.ClassFile
def u (s : String) : CpInfo := .utf8 (stringToUtf16 s)
/-- a pool by its gaps: so many unusable entries, then the entry; so many at the end -/
def gap : Nat → List CpInfo → List CpInfo
  | 0, r => r
  | n + 1, r => .unusable :: gap n r
def poolList (es : List (Nat × CpInfo)) (last : Nat) : List CpInfo := es.foldr (fun e r => gap e.1 (e.2 :: r)) (gap last [])
def pool (es : List (Nat × CpInfo)) (last : Nat) : Array CpInfo := ⟨poolList es last⟩
def fileOf (pool : Array CpInfo) (this : Nat) (attrs : Array Attribute := #[]) (ms : Array MethodInfo := #[]) (fl : Nat := 33) (sup : Nat := 0) (ifs : Array Nat := #[]) (fds : Array FieldInfo := #[]) : ClassFile where
  minorVersion := 0
  majorVersion := 65
  constantPool := pool
  accessFlags := fl
  thisClass := this
  superClass := sup
  interfaces := ifs
  fields := fds
  methods := ms
  attributes := attrs
def plain (name : String) (sup : Option ClassId) : Class where
  name := name
  kind := .ordinary
  loader := none
  accessFlags := 33
  super := sup
  interfaces := #[]
  cf := none
  fields := #[]
  methods := #[]
  instanceTypes := #[]
  staticTypes := #[]
  resolved := #[]
  callSites := []
  init := .initialized
  statics := none
  mirror := none

def pool0 : Array CpInfo := pool [(5, u "<init>"), (0, u "()V"), (1, .class_ 10), (1, u "java/lang/Object")] 113

def k0c0 : Code := { maxStack := 0, maxLocals := 1, code := object_method_1_code, exceptionTable := #[], attributes := #[] }
def k0m0 : Method := { name := "<init>", desc := "()V", sig := { parameters := [], returnType := none }, accessFlags := 1, code := some k0c0 }
/-- java/lang/Object -/
def k0 : Class := { plain "java/lang/Object" none with
  accessFlags := 33
  interfaces := #[]
  cf := some (fileOf pool0 8 #[] #[{ accessFlags := 1, nameIndex := 5, descriptorIndex := 6, attributes := #[] }] 33 0 #[] #[])
  fields := #[]
  methods := #[k0m0]
  instanceTypes := #[]
  staticTypes := #[]
  resolved := Array.replicate 124 none
  statics := none }

def pool1 : Array CpInfo := pool [(2, .class_ 4), (1, u "java/lang/Object"), (0, u "<init>"), (0, u "()V"), (0, .class_ 8), (0, u "com/example/sinogrid/sinogrid/LuminanceGrid"), (0, .methodref 7 10), (0, .nameAndType 5 11), (0, u "(II)V"), (0, .methodref 7 13), (0, .nameAndType 14 15), (0, u "set"), (0, u "(III)V"), (0, .methodref 7 17), (0, .nameAndType 18 19), (0, u "histogram"), (0, u "()[J"), (0, .methodref 21 22), (0, .class_ 23), (0, .nameAndType 24 25), (0, u "com/example/sinogrid/sinogrid/LuminanceGridHistogramPinLaw"), (0, u "count"), (0, u "(IIIIIZZZ)J"), (2, u "law"), (0, u "(IIIIII)Z")] 5

def k1m0 : Method := { name := "<init>", desc := "()V", sig := { parameters := [], returnType := none }, accessFlags := 1, code := none }
def k1c1 : Code := { maxStack := 10, maxLocals := 20, code := code, exceptionTable := #[], attributes := #[] }
def k1m1 : Method := { name := "law", desc := "(IIIIII)Z", sig := { parameters := [.int, .int, .int, .int, .int, .int], returnType := some .boolean }, accessFlags := 9, code := some k1c1 }
def k1c2 : Code := { maxStack := 4, maxLocals := 10, code := method_3_code, exceptionTable := #[], attributes := #[] }
def k1m2 : Method := { name := "count", desc := "(IIIIIZZZ)J", sig := { parameters := [.int, .int, .int, .int, .int, .boolean, .boolean, .boolean], returnType := some .long }, accessFlags := 10, code := some k1c2 }
/-- com/example/sinogrid/sinogrid/LuminanceGridHistogramPinLaw -/
def k1 : Class := { plain "com/example/sinogrid/sinogrid/LuminanceGridHistogramPinLaw" (some 0) with
  accessFlags := 49
  interfaces := #[]
  cf := some (fileOf pool1 21 #[] #[{ accessFlags := 1, nameIndex := 5, descriptorIndex := 6, attributes := #[] }, { accessFlags := 9, nameIndex := 28, descriptorIndex := 29, attributes := #[] }, { accessFlags := 10, nameIndex := 24, descriptorIndex := 25, attributes := #[] }] 49 2 #[] #[])
  fields := #[]
  methods := #[k1m0, k1m1, k1m2]
  instanceTypes := #[]
  staticTypes := #[]
  resolved := Array.replicate 35 none
  statics := none }

def pool2 : Array CpInfo := pool [(1, .methodref 2 3), (0, .class_ 4), (0, .nameAndType 5 6), (0, u "java/lang/Object"), (0, u "<init>"), (0, u "()V"), (0, .methodref 8 9), (0, .class_ 10), (0, .nameAndType 11 12), (0, u "com/example/sinogrid/sinogrid/LuminanceGrid"), (0, u "fits"), (0, u "(JJ)Z"), (9, .fieldref 8 23), (0, .nameAndType 24 25), (0, u "width"), (0, u "I"), (0, .fieldref 8 27), (0, .nameAndType 28 25), (0, u "height"), (0, .fieldref 8 30), (0, .nameAndType 31 32), (0, u "values"), (0, u "[B"), (0, .long 32768), (1, .long 67108864), (1, .methodref 8 38), (0, .nameAndType 39 40), (0, u "index"), (0, u "(II)I"), (3, .methodref 45 46), (0, .class_ 47), (0, .nameAndType 48 40), (0, u "java/util/Objects"), (0, u "checkIndex"), (12, u "MAX_SIDE"), (2, u "MAX_PIXELS"), (1, u "(II)V"), (5, u "set"), (0, u "(III)V"), (2, u "histogram"), (0, u "()[J")] 26

def k2c0 : Code := { maxStack := 4, maxLocals := 3, code := prog_23_method_1_code, exceptionTable := #[], attributes := #[] }
def k2m0 : Method := { name := "<init>", desc := "(II)V", sig := { parameters := [.int, .int], returnType := none }, accessFlags := 1, code := some k2c0 }
def k2c1 : Code := { maxStack := 4, maxLocals := 4, code := prog_23_method_2_code, exceptionTable := #[], attributes := #[] }
def k2m1 : Method := { name := "fits", desc := "(JJ)Z", sig := { parameters := [.long, .long], returnType := some .boolean }, accessFlags := 9, code := some k2c1 }
def k2c2 : Code := { maxStack := 4, maxLocals := 4, code := prog_23_method_6_code, exceptionTable := #[], attributes := #[] }
def k2m2 : Method := { name := "set", desc := "(III)V", sig := { parameters := [.int, .int, .int], returnType := none }, accessFlags := 1, code := some k2c2 }
def k2c3 : Code := { maxStack := 6, maxLocals := 6, code := prog_23_method_8_code, exceptionTable := #[], attributes := #[] }
def k2m3 : Method := { name := "histogram", desc := "()[J", sig := { parameters := [], returnType := some (.array .long) }, accessFlags := 0, code := some k2c3 }
def k2c4 : Code := { maxStack := 2, maxLocals := 3, code := prog_23_method_11_code, exceptionTable := #[], attributes := #[] }
def k2m4 : Method := { name := "index", desc := "(II)I", sig := { parameters := [.int, .int], returnType := some .int }, accessFlags := 2, code := some k2c4 }
/-- com/example/sinogrid/sinogrid/LuminanceGrid -/
def k2 : Class := { plain "com/example/sinogrid/sinogrid/LuminanceGrid" (some 0) with
  accessFlags := 49
  interfaces := #[]
  cf := some (fileOf pool2 8 #[] #[{ accessFlags := 1, nameIndex := 5, descriptorIndex := 66, attributes := #[] }, { accessFlags := 9, nameIndex := 11, descriptorIndex := 12, attributes := #[] }, { accessFlags := 1, nameIndex := 72, descriptorIndex := 73, attributes := #[] }, { accessFlags := 0, nameIndex := 76, descriptorIndex := 77, attributes := #[] }, { accessFlags := 2, nameIndex := 39, descriptorIndex := 40, attributes := #[] }] 49 2 #[] #[{ accessFlags := 25, nameIndex := 61, descriptorIndex := 25, attributes := #[] }, { accessFlags := 25, nameIndex := 64, descriptorIndex := 25, attributes := #[] }, { accessFlags := 18, nameIndex := 24, descriptorIndex := 25, attributes := #[] }, { accessFlags := 18, nameIndex := 28, descriptorIndex := 25, attributes := #[] }, { accessFlags := 18, nameIndex := 31, descriptorIndex := 32, attributes := #[] }])
  fields := #[{ name := "MAX_SIDE", type := .int, accessFlags := 25, slot := 0, constantValue := 0 }, { name := "MAX_PIXELS", type := .int, accessFlags := 25, slot := 1, constantValue := 0 }, { name := "width", type := .int, accessFlags := 18, slot := 0, constantValue := 0 }, { name := "height", type := .int, accessFlags := 18, slot := 1, constantValue := 0 }, { name := "values", type := (.array .byte), accessFlags := 18, slot := 2, constantValue := 0 }]
  methods := #[k2m0, k2m1, k2m2, k2m3, k2m4]
  instanceTypes := #[.int, .int, (.array .byte)]
  staticTypes := #[.int, .int]
  resolved := Array.replicate 104 none
  statics := none }

def pool3 : Array CpInfo := pool [(2, .class_ 4), (1, u "java/lang/Object"), (0, u "<init>"), (0, u "()V"), (35, .class_ 44), (1, u "java/util/Objects"), (60, .methodref 106 107), (0, .class_ 108), (0, .nameAndType 109 110), (0, u "jdk/internal/util/Preconditions"), (0, u "checkIndex"), (0, u "(IILjava/util/function/BiFunction;)I"), (60, u "(II)I")] 12

def k3m0 : Method := { name := "<init>", desc := "()V", sig := { parameters := [], returnType := none }, accessFlags := 2, code := none }
def k3c1 : Code := { maxStack := 3, maxLocals := 2, code := jdk_31_method_17_code, exceptionTable := #[], attributes := #[] }
def k3m1 : Method := { name := "checkIndex", desc := "(II)I", sig := { parameters := [.int, .int], returnType := some .int }, accessFlags := 9, code := some k3c1 }
/-- java/util/Objects -/
def k3 : Class := { plain "java/util/Objects" (some 0) with
  accessFlags := 49
  interfaces := #[]
  cf := some (fileOf pool3 42 #[] #[{ accessFlags := 2, nameIndex := 5, descriptorIndex := 6, attributes := #[] }, { accessFlags := 9, nameIndex := 109, descriptorIndex := 171, attributes := #[] }] 49 2 #[] #[])
  fields := #[]
  methods := #[k3m0, k3m1]
  instanceTypes := #[]
  staticTypes := #[]
  resolved := Array.replicate 184 none
  statics := none }

def pool4 : Array CpInfo := pool [(2, .class_ 4), (1, u "java/lang/Object"), (0, u "<init>"), (0, u "()V"), (17, .class_ 26), (1, u "jdk/internal/util/Preconditions"), (6, u "checkIndex"), (21, .class_ 56), (0, u "jdk/internal/util/Preconditions$4"), (57, .class_ 115), (0, u "jdk/internal/util/Preconditions$1"), (7, u "SIOOBE_FORMATTER"), (0, u "Ljava/util/function/BiFunction;"), (0, .class_ 126), (0, u "jdk/internal/util/Preconditions$2"), (3, u "AIOOBE_FORMATTER"), (0, .class_ 132), (0, u "jdk/internal/util/Preconditions$3"), (3, u "IOOBE_FORMATTER"), (41, u "(IILjava/util/function/BiFunction;)I")] 15

def k4m0 : Method := { name := "<init>", desc := "()V", sig := { parameters := [], returnType := none }, accessFlags := 1, code := none }
def k4c1 : Code := { maxStack := 3, maxLocals := 3, code := jdk_41_method_11_code, exceptionTable := #[], attributes := #[] }
def k4m1 : Method := { name := "checkIndex", desc := "(IILjava/util/function/BiFunction;)I", sig := { parameters := [.int, .int, (.object "java/util/function/BiFunction")], returnType := some .int }, accessFlags := 9, code := some k4c1 }
/-- jdk/internal/util/Preconditions -/
def k4 : Class := { plain "jdk/internal/util/Preconditions" (some 0) with
  accessFlags := 33
  interfaces := #[]
  cf := some (fileOf pool4 24 #[.nestMembers #[55, 131, 125, 114]] #[{ accessFlags := 1, nameIndex := 5, descriptorIndex := 6, attributes := #[] }, { accessFlags := 9, nameIndex := 33, descriptorIndex := 178, attributes := #[] }] 33 2 #[] #[{ accessFlags := 25, nameIndex := 123, descriptorIndex := 124, attributes := #[] }, { accessFlags := 25, nameIndex := 130, descriptorIndex := 124, attributes := #[] }, { accessFlags := 25, nameIndex := 136, descriptorIndex := 124, attributes := #[] }])
  fields := #[{ name := "SIOOBE_FORMATTER", type := (.object "java/util/function/BiFunction"), accessFlags := 25, slot := 0, constantValue := 0 }, { name := "AIOOBE_FORMATTER", type := (.object "java/util/function/BiFunction"), accessFlags := 25, slot := 1, constantValue := 0 }, { name := "IOOBE_FORMATTER", type := (.object "java/util/function/BiFunction"), accessFlags := 25, slot := 2, constantValue := 0 }]
  methods := #[k4m0, k4m1]
  instanceTypes := #[]
  staticTypes := #[(.object "java/util/function/BiFunction"), (.object "java/util/function/BiFunction"), (.object "java/util/function/BiFunction")]
  resolved := Array.replicate 194 none
  statics := none }

def pool5 : Array CpInfo := pool [(1, u "java/lang/Cloneable"), (0, .class_ 1), (0, u "java/lang/Object"), (0, .class_ 3)] 3

/-- java/lang/Cloneable -/
def k5 : Class := { plain "java/lang/Cloneable" (some 0) with
  accessFlags := 1537
  interfaces := #[]
  cf := some (fileOf pool5 2 #[] #[] 1537 4 #[] #[])
  fields := #[]
  methods := #[]
  instanceTypes := #[]
  staticTypes := #[]
  resolved := Array.replicate 8 none
  statics := none }

def pool6 : Array CpInfo := pool [(1, u "java/io/Serializable"), (0, .class_ 1), (0, u "java/lang/Object"), (0, .class_ 3)] 3

/-- java/io/Serializable -/
def k6 : Class := { plain "java/io/Serializable" (some 0) with
  accessFlags := 1537
  interfaces := #[]
  cf := some (fileOf pool6 2 #[] #[] 1537 4 #[] #[])
  fields := #[]
  methods := #[]
  instanceTypes := #[]
  staticTypes := #[]
  resolved := Array.replicate 8 none
  statics := none }

/-- the primitive byte -/
def k7 : Class := { plain "byte" none with kind := .primitive 'B', accessFlags := 0x411 }
/-- [B -/
def k8 : Class := { plain "[B" (some 0) with kind := .array 7 .byte, interfaces := #[5, 6], accessFlags := 1041 }

/-- the primitive int -/
def k9 : Class := { plain "int" none with kind := .primitive 'I', accessFlags := 0x411 }
/-- [I -/
def k10 : Class := { plain "[I" (some 0) with kind := .array 9 .int, interfaces := #[5, 6], accessFlags := 1041 }

/-- the primitive long -/
def k11 : Class := { plain "long" none with kind := .primitive 'J', accessFlags := 0x411 }
/-- [J -/
def k12 : Class := { plain "[J" (some 0) with kind := .array 11 .long, interfaces := #[5, 6], accessFlags := 1041 }

def heap : Heap := #[]
def classes : Array Class := #[k0, k1, k2, k3, k4, k5, k6, k7, k8, k9, k10, k11, k12]
def interned : List (Array UInt16 × Addr) := []
def slotsUsed : Nat := 0
def theMethod : MethodId := ⟨1, 1⟩
def args0 : Array Value := #[.int 5, .int 7, .int 3, .int 9, .int 11, .int 2]
def aboutOver (below : List Frame) : State where
  vm := { classes := classes, interned := interned.toArray }
  heap := heap
  slotsUsed := slotsUsed
  threads := #[{ frames := .invoking theMethod args0 :: below }]
def below0 : List Frame := [.native { method := ⟨0, 0⟩, args := #[] }]
def about1 : State := aboutOver below0
def p0 : Program := .bare "" "" ""
def e0 : Env := launch0.env 0 0 0
theorem w_frames : about1.frames = Frame.invoking theMethod args0 :: below0 := rfl
set_option maxRecDepth 65536 in
theorem w_args : argsFit about1.vm theMethod args0 = true := by decide +kernel
set_option maxRecDepth 65536 in
theorem w_heap : heapFits about1 = true := by decide +kernel
set_option maxRecDepth 65536 in
theorem w_runnable : about1.curStatus? = some .runnable := by decide +kernel
set_option maxRecDepth 65536 in
theorem w_alone : about1.alone = true := by decide +kernel
set_option maxRecDepth 65536 in
theorem w_named : about1.methodNamed? x = some theMethod := by decide +kernel
set_option maxRecDepth 65536 in
theorem w_hears : about1.hears theMethod below0 = true := by decide +kernel
set_option maxRecDepth 65536 in
theorem w_ripe : about1.ripe theMethod args0 below0 = true := by decide +kernel
theorem w_running : about1.status = .running := rfl
set_option maxRecDepth 65536 in
theorem w_room : about1.hasRoom e0.platform room_1 = true :=
  launch0.hasRoom_least _ room_1 (by decide +kernel) (by decide +kernel) (by decide +kernel) (by decide +kernel) (by decide +kernel) (by decide +kernel)
theorem allAtoms_all (ts : List Jvm.Cond) (a : Array Jvm.Value) (st : Jvm.State) : (allAtoms ts).before a st = ts.all (fun c => c.before a st) := by
  induction ts with
  | nil => rfl
  | cons c t ih =>
    show (Jvm.Cond.and c (allAtoms t)).before a st = _
    rw [Jvm.Cond.before_and, ih, List.all_cons]
def words1 : List Jvm.Cond := Jvm.Cond.code x code maxLocals ret :: tables_1
/-- a 'code' word, met by the world's own term for the bytes: nothing is compared byte by byte -/
theorem code_word {y : MethodName} {bytes : ByteArray} {mx : Nat} {rt : Option FieldType} {a : Array Value} {s : State} {m : MethodId} {meth : Method} {c : Code} (h1 : s.methodNamed? y = some m) (h2 : s.vm.method? m = some meth) (h3 : meth.code = some c) (h4 : c.code = bytes)
    (h5 : (c.maxLocals == mx && c.exceptionTable.isEmpty && decide (c.maxStack ≤ mostOperands) && decide (meth.sig.returnType = rt) && !meth.locks && decide (parseMethodDescriptor y.desc = some meth.sig)) = true) : (Jvm.Cond.code y bytes mx rt).before a s = true := by
  simp only [Bool.and_eq_true, beq_iff_eq, Bool.not_eq_true', decide_eq_true_eq] at h5
  obtain ⟨⟨⟨⟨⟨g1, g2⟩, g3⟩, g4⟩, g5⟩, g6⟩ := h5
  simp [Cond.before, Cond.holds, Cond.value, h1, h2, h3, h4, g1, g2, g3, g4, g5, g6]
def isCode : Jvm.Cond → Bool
  | .code _ _ _ _ => true
  | _ => false
theorem all_split {L : List Jvm.Cond} {P : Jvm.Cond → Bool} (h1 : L.all (fun c => isCode c || P c) = true) (h2 : ∀ c ∈ L.filter isCode, P c = true) : L.all P = true := by
  refine List.all_eq_true.mpr fun c hc => ?_
  have h := List.all_eq_true.mp h1 c hc
  rcases Bool.eq_false_or_eq_true (isCode c) with hi | hi
  · exact h2 c (List.mem_filter.mpr ⟨hc, hi⟩)
  · simpa [hi] using h
set_option maxRecDepth 65536 in
theorem w_c0 : (Jvm.Cond.code x code maxLocals ret).before args0 about1 = true := code_word (m := ⟨1, 1⟩) (meth := k1m1) (c := k1c1) (by decide +kernel) rfl rfl rfl (by decide +kernel)
set_option maxRecDepth 65536 in
theorem w_c1 : (Jvm.Cond.code ({ cls := "com/example/sinogrid/sinogrid/LuminanceGrid", name := "<init>", desc := "(II)V" } : Jvm.MethodName) prog_23_method_1_code (3 : Nat) (Option.none : Option Jvm.ClassFile.FieldType)).before args0 about1 = true := code_word (m := ⟨2, 0⟩) (meth := k2m0) (c := k2c0) (by decide +kernel) rfl rfl rfl (by decide +kernel)
set_option maxRecDepth 65536 in
theorem w_c2 : (Jvm.Cond.code ({ cls := "java/lang/Object", name := "<init>", desc := "()V" } : Jvm.MethodName) object_method_1_code (1 : Nat) (Option.none : Option Jvm.ClassFile.FieldType)).before args0 about1 = true := code_word (m := ⟨0, 0⟩) (meth := k0m0) (c := k0c0) (by decide +kernel) rfl rfl rfl (by decide +kernel)
set_option maxRecDepth 65536 in
theorem w_c3 : (Jvm.Cond.code ({ cls := "com/example/sinogrid/sinogrid/LuminanceGrid", name := "fits", desc := "(JJ)Z" } : Jvm.MethodName) prog_23_method_2_code (4 : Nat) (Option.some Jvm.ClassFile.FieldType.boolean)).before args0 about1 = true := code_word (m := ⟨2, 1⟩) (meth := k2m1) (c := k2c1) (by decide +kernel) rfl rfl rfl (by decide +kernel)
set_option maxRecDepth 65536 in
theorem w_c4 : (Jvm.Cond.code ({ cls := "com/example/sinogrid/sinogrid/LuminanceGrid", name := "set", desc := "(III)V" } : Jvm.MethodName) prog_23_method_6_code (4 : Nat) (Option.none : Option Jvm.ClassFile.FieldType)).before args0 about1 = true := code_word (m := ⟨2, 2⟩) (meth := k2m2) (c := k2c2) (by decide +kernel) rfl rfl rfl (by decide +kernel)
set_option maxRecDepth 65536 in
theorem w_c5 : (Jvm.Cond.code ({ cls := "com/example/sinogrid/sinogrid/LuminanceGrid", name := "index", desc := "(II)I" } : Jvm.MethodName) prog_23_method_11_code (3 : Nat) (Option.some Jvm.ClassFile.FieldType.int)).before args0 about1 = true := code_word (m := ⟨2, 4⟩) (meth := k2m4) (c := k2c4) (by decide +kernel) rfl rfl rfl (by decide +kernel)
set_option maxRecDepth 65536 in
theorem w_c6 : (Jvm.Cond.code ({ cls := "java/util/Objects", name := "checkIndex", desc := "(II)I" } : Jvm.MethodName) jdk_31_method_17_code (2 : Nat) (Option.some Jvm.ClassFile.FieldType.int)).before args0 about1 = true := code_word (m := ⟨3, 1⟩) (meth := k3m1) (c := k3c1) (by decide +kernel) rfl rfl rfl (by decide +kernel)
set_option maxRecDepth 65536 in
theorem w_c7 : (Jvm.Cond.code ({ cls := "jdk/internal/util/Preconditions", name := "checkIndex", desc := "(IILjava/util/function/BiFunction;)I" } : Jvm.MethodName) jdk_41_method_11_code (3 : Nat) (Option.some Jvm.ClassFile.FieldType.int)).before args0 about1 = true := code_word (m := ⟨4, 1⟩) (meth := k4m1) (c := k4c1) (by decide +kernel) rfl rfl rfl (by decide +kernel)
set_option maxRecDepth 65536 in
theorem w_c8 : (Jvm.Cond.code ({ cls := "com/example/sinogrid/sinogrid/LuminanceGrid", name := "histogram", desc := "()[J" } : Jvm.MethodName) prog_23_method_8_code (6 : Nat) (Option.some (Jvm.ClassFile.FieldType.array Jvm.ClassFile.FieldType.long))).before args0 about1 = true := code_word (m := ⟨2, 3⟩) (meth := k2m3) (c := k2c3) (by decide +kernel) rfl rfl rfl (by decide +kernel)
set_option maxRecDepth 65536 in
theorem w_c9 : (Jvm.Cond.code ({ cls := "com/example/sinogrid/sinogrid/LuminanceGridHistogramPinLaw", name := "count", desc := "(IIIIIZZZ)J" } : Jvm.MethodName) method_3_code (10 : Nat) (Option.some Jvm.ClassFile.FieldType.long)).before args0 about1 = true := code_word (m := ⟨1, 2⟩) (meth := k1m2) (c := k1c2) (by decide +kernel) rfl rfl rfl (by decide +kernel)
def codes1 : List Jvm.Cond := [Jvm.Cond.code x code maxLocals ret, Jvm.Cond.code ({ cls := "com/example/sinogrid/sinogrid/LuminanceGrid", name := "<init>", desc := "(II)V" } : Jvm.MethodName) prog_23_method_1_code (3 : Nat) (Option.none : Option Jvm.ClassFile.FieldType), Jvm.Cond.code ({ cls := "java/lang/Object", name := "<init>", desc := "()V" } : Jvm.MethodName) object_method_1_code (1 : Nat) (Option.none : Option Jvm.ClassFile.FieldType), Jvm.Cond.code ({ cls := "com/example/sinogrid/sinogrid/LuminanceGrid", name := "fits", desc := "(JJ)Z" } : Jvm.MethodName) prog_23_method_2_code (4 : Nat) (Option.some Jvm.ClassFile.FieldType.boolean), Jvm.Cond.code ({ cls := "com/example/sinogrid/sinogrid/LuminanceGrid", name := "set", desc := "(III)V" } : Jvm.MethodName) prog_23_method_6_code (4 : Nat) (Option.none : Option Jvm.ClassFile.FieldType), Jvm.Cond.code ({ cls := "com/example/sinogrid/sinogrid/LuminanceGrid", name := "index", desc := "(II)I" } : Jvm.MethodName) prog_23_method_11_code (3 : Nat) (Option.some Jvm.ClassFile.FieldType.int), Jvm.Cond.code ({ cls := "java/util/Objects", name := "checkIndex", desc := "(II)I" } : Jvm.MethodName) jdk_31_method_17_code (2 : Nat) (Option.some Jvm.ClassFile.FieldType.int), Jvm.Cond.code ({ cls := "jdk/internal/util/Preconditions", name := "checkIndex", desc := "(IILjava/util/function/BiFunction;)I" } : Jvm.MethodName) jdk_41_method_11_code (3 : Nat) (Option.some Jvm.ClassFile.FieldType.int), Jvm.Cond.code ({ cls := "com/example/sinogrid/sinogrid/LuminanceGrid", name := "histogram", desc := "()[J" } : Jvm.MethodName) prog_23_method_8_code (6 : Nat) (Option.some (Jvm.ClassFile.FieldType.array Jvm.ClassFile.FieldType.long)), Jvm.Cond.code ({ cls := "com/example/sinogrid/sinogrid/LuminanceGridHistogramPinLaw", name := "count", desc := "(IIIIIZZZ)J" } : Jvm.MethodName) method_3_code (10 : Nat) (Option.some Jvm.ClassFile.FieldType.long)]
set_option maxRecDepth 65536 in
theorem codes_eq : words1.filter isCode = codes1 := rfl
theorem w_codes : ∀ c ∈ words1.filter isCode, c.before args0 about1 = true := by
  rw [codes_eq]
  intro c hc
  simp only [codes1, List.mem_cons, List.not_mem_nil, or_false] at hc
  rcases hc with rfl | rfl | rfl | rfl | rfl | rfl | rfl | rfl | rfl | rfl
  · exact w_c0
  · exact w_c1
  · exact w_c2
  · exact w_c3
  · exact w_c4
  · exact w_c5
  · exact w_c6
  · exact w_c7
  · exact w_c8
  · exact w_c9
set_option maxRecDepth 65536 in
theorem w_t1 : (words1.take 24).all (fun c => isCode c || c.before args0 about1) = true := by decide +kernel
set_option maxRecDepth 65536 in
theorem w_t2 : ((words1.drop 24).take 24).all (fun c => isCode c || c.before args0 about1) = true := by decide +kernel
set_option maxRecDepth 65536 in
theorem w_t3 : ((words1.drop 24).drop 24).all (fun c => isCode c || c.before args0 about1) = true := by decide +kernel
theorem w_tables : (allAtoms (Jvm.Cond.code x code maxLocals ret :: tables_1)).before args0 about1 = true := by
  rw [allAtoms_all]
  show words1.all (fun c => c.before args0 about1) = true
  refine all_split ?_ w_codes
  rw [← List.take_append_drop 24 words1, List.all_append, w_t1, ← List.take_append_drop 24 (words1.drop 24), List.all_append, w_t2, w_t3]
  rfl
set_option maxRecDepth 65536 in
theorem w_case : (Jvm.Cond.and given_1 narrow_1).before args0 about1 = true := by decide +kernel
theorem w_applies : (headSpec (Jvm.Cond.code x code maxLocals ret :: tables_1) room_1).applies x e0.platform about1 = true :=
  (Spec.applies_iff w_frames).mpr ⟨w_running, w_runnable, w_alone, w_named, w_hears, w_ripe, w_room, w_tables⟩
theorem atStart : AtStart classFile x code maxLocals ret World_1 tables_1 room_1 Calls_1 rest_1 Pre_1 launch0 p0 e0 about1 theMethod args0 below0 :=
  ⟨lists_1, trivial, launch0.admits_env _ _ _, launch0.least_env, fairChoices_fair.cas, fairChoices_fair.clock, w_frames, w_args, w_heap, w_applies, trivial, trivial, w_case⟩
end start1
theorem witness_1 : WitnessClaimed_1 := ⟨start1.p0, start1.e0, start1.about1, start1.theMethod, start1.args0, start1.below0, start1.atStart⟩
end Jvm.Pilot.@@N@@
