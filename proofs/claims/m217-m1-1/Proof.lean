import JvmDerived
import JvmDerived.Pilot.@@N@@Statement
import JvmDerived.Pilot.@@N@@Code
set_option linter.unusedVariables false
set_option linter.unusedSimpArgs false
namespace Jvm.RoadKit
open Sem ClassFile Op Lib Jvm.Stand Jvm.Free Jvm.LawKit
section Own
variable {p : Program} {l : Launch} {e : Env} {R : Room} {s : State} {m : MethodId} {args : Array Value} {below : List Frame} {meth : Method} {c : Code} {T : State} {locs : List Loc} {cells slots : Nat} {k n : Nat} {Q : Option Value → Heap → List Loc → Prop} {W W' : State} {Z : State} {a0 : Array Value} {h : Heap}
/-- the run from W comes back, with what Q says -/
def OwnOut (p : Program) (e : Env) (s : State) (below : List Frame) (k n : Nat) (Q : Option Value → Heap → List Loc → Prop) (W : State) : Prop :=
  ∃ s₂ o, Steps p.tables e below W s₂ ∧ s₂.status = .running ∧ Ended s₂ below o ∧ ∃ v L, o = .returned v ∧ Q v s₂.heap L ∧ FrameEnd s o s₂ L k n
theorem OwnOut.go (h : ∀ t, Steps p.tables e below W' t → Steps p.tables e below W t) (H : OwnOut p e s below k n Q W') : OwnOut p e s below k n Q W := by
  obtain ⟨s₂, o, h1, h2⟩ := H
  exact ⟨s₂, o, h _ h1, h2⟩
theorem OwnOut.at {g g' : JFrame} (q : g = g') (H : OwnOut p e s below k n Q (T.setTop g')) : OwnOut p e s below k n Q (T.setTop g) := q ▸ H
theorem OwnOut.imp {Q' : Option Value → Heap → List Loc → Prop} (q : ∀ v h L, Q' v h L → Q v h L) (H : OwnOut p e s below k n Q' W) : OwnOut p e s below k n Q W := by
  obtain ⟨s₂, o, h1, h2, h3, v, L, h4, h5, h6⟩ := H
  exact ⟨s₂, o, h1, h2, h3, v, L, h4, q _ _ _ h5, h6⟩
theorem outI (X : Stand p l e R s m args below meth c T locs cells slots) (hx : p.tables.exec = Jvm.exec) {pc : Nat} {Ls : Array Slot} {z : Int32} (hret : meth.sig.returnType = some .int) (hd : decode c.code pc = .ok (.ireturn, 1)) (hlk : meth.locks = false) (hk : cells ≤ k) (hn : slots ≤ n) (q : Q (some (.int z)) T.heap locs) :
    OwnOut p e s below k n Q (T.setTop (mkF m pc Ls [.int z])) := by
  obtain ⟨fs, hr, hrun, hended, hW, hsame⟩ := X.leave (v := some (.int z)) (fun h => by rw [hret] at h; cases h) hlk
  exact ⟨_, _, X.ireturnOut hx hret rfl (Or.inl rfl) hd hr, hrun, hended, _, _, rfl, q, ⟨_, rfl⟩, hW, hsame.mono hk hn⟩
theorem outZ (X : Stand p l e R s m args below meth c T locs cells slots) (hx : p.tables.exec = Jvm.exec) {pc : Nat} {Ls : Array Slot} {z : Int32} (hret : meth.sig.returnType = some .boolean) (hd : decode c.code pc = .ok (.ireturn, 1)) (hlk : meth.locks = false) (hk : cells ≤ k) (hn : slots ≤ n) (q : Q (some (.int (z &&& 1))) T.heap locs) :
    OwnOut p e s below k n Q (T.setTop (mkF m pc Ls [.int z])) := by
  obtain ⟨fs, hr, hrun, hended, hW, hsame⟩ := X.leave (v := some (.int (z &&& 1))) (fun h => by rw [hret] at h; cases h) hlk
  exact ⟨_, _, retN X hx (t := .boolean) hret (by simp) hd hr, hrun, hended, _, _, rfl, q, ⟨_, rfl⟩, hW, hsame.mono hk hn⟩
theorem outJ (X : Stand p l e R s m args below meth c T locs cells slots) (hx : p.tables.exec = Jvm.exec) {pc : Nat} {Ls : Array Slot} {z : Int64} (hret : meth.sig.returnType = some .long) (hd : decode c.code pc = .ok (.lreturn, 1)) (hlk : meth.locks = false) (hk : cells ≤ k) (hn : slots ≤ n) (q : Q (some (.long z)) T.heap locs) :
    OwnOut p e s below k n Q (T.setTop (mkF m pc Ls [.long z])) := by
  obtain ⟨fs, hr, hrun, hended, hW, hsame⟩ := X.leave (v := some (.long z)) (fun h => by rw [hret] at h; cases h) hlk
  exact ⟨_, _, X.lreturnOut hx hret hd hr, hrun, hended, _, _, rfl, q, ⟨_, rfl⟩, hW, hsame.mono hk hn⟩
theorem outA (X : Stand p l e R s m args below meth c T locs cells slots) (hx : p.tables.exec = Jvm.exec) {pc : Nat} {Ls : Array Slot} {w : Value} {t : FieldType} (hw : w.isRef = true) (hret : meth.sig.returnType = some t) (ht : t.isReference = true) (hd : decode c.code pc = .ok (.areturn, 1)) (hlk : meth.locks = false) (hk : cells ≤ k) (hn : slots ≤ n) (q : Q (some w) T.heap locs) :
    OwnOut p e s below k n Q (T.setTop (mkF m pc Ls [w])) := by
  obtain ⟨fs, hr, hrun, hended, hW, hsame⟩ := X.leave (v := some w) (fun h => by rw [hret] at h; cases h) hlk
  exact ⟨_, _, X.areturnOut hx hw hret ht hd hr, hrun, hended, _, _, rfl, q, ⟨_, rfl⟩, hW, hsame.mono hk hn⟩
theorem outV (X : Stand p l e R s m args below meth c T locs cells slots) (hx : p.tables.exec = Jvm.exec) {pc : Nat} {Ls : Array Slot} (hret : meth.sig.returnType = none) (hd : decode c.code pc = .ok (.return_, 1)) (hlk : meth.locks = false) (hk : cells ≤ k) (hn : slots ≤ n) (q : Q none T.heap locs) :
    OwnOut p e s below k n Q (T.setTop (mkF m pc Ls [])) := by
  obtain ⟨fs, hr, hrun, hended, hW, hsame⟩ := X.leave (v := none) (fun _ => rfl) hlk
  exact ⟨_, _, X.returnOut hx hret hd hr, hrun, hended, _, _, rfl, q, ⟨_, rfl⟩, hW, hsame.mono hk hn⟩
theorem lremM {g : JFrame} {target : State} (X : Stand p l e R s m args below meth c T locs cells slots) (hx : p.tables.exec = Jvm.exec) (hg : g.method = m) {x y : Int64} {rest : List Value} (hd : decode c.code g.pc = .ok (.lrem, 1)) (hs : g.stack = .long y :: .long x :: rest) (hy : y ≠ 0)
    (hr : Steps p.tables e below (T.setTop { g with pc := g.pc + 1, stack := .long (x % y) :: rest }) target) : Steps p.tables e below (T.setTop g) target :=
  XS.lrem X.here hx hg hd hs hy (by rw [lrem_mod]; exact hr)
/-- a body that touches nothing: what it returns, the heap as it was, nothing written -/
def QP (h0 : Heap) (w : Option Value) (v : Option Value) (h : Heap) (L : List Loc) : Prop := v = w ∧ h = h0 ∧ L = []
/-- a static call of such a body -/
theorem callP (X : Stand p l e R s m args below meth c T locs cells slots) (hx : p.tables.exec = Jvm.exec) (hZ : Z.Warmed39 s.vm) {own : String} {index : Nat} {y : MethodName} {bytes : ByteArray} {maxL : Nat} {ret : Option FieldType} {rm : Room} {as' : Array Value} {w : Option Value}
    (hown : s.vm.findClass own = some m.cls) (w1 : (Cond.methodLink own index y).before a0 Z = true) (w2 : (Cond.static y).before a0 Z = true) (w3 : (Cond.initialized y.cls).before a0 Z = true) (w4 : (Cond.code y bytes maxL ret).before a0 Z = true) (hy : y.cls ≠ "java/lang/invoke/MethodHandle" ∧ y.cls ≠ "java/lang/invoke/VarHandle")
    (hM : MetFree l y (head1 [Cond.code y bytes maxL ret] rm) (fun a U => a = as' ∧ Z.Warmed39 U.vm ∧ U.heap = h) (fun _ _ _ _ _ => True) (fun _ U o U' => ∃ v L, o = .returned v ∧ QP h w v U'.heap L ∧ FrameEnd U o U' L rm.cells rm.slots))
    {W : Nat} (hf : rm.frames + 1 ≤ R.frames) (hl : W + (maxL + 11) + rm.locals ≤ R.locals) (z1 : rm.cells = 0) (z2 : rm.slots = 0) (hc : cells ≤ R.cells) (hs' : slots ≤ R.slots) (eT : T.heap = h)
    {g : JFrame} (hg : g.method = m) (hsize : g.locals.size = c.maxLocals) {argsL rest : List Value} (hlen : ∀ sig, parseMethodDescriptor y.desc = some sig → argsL.length = sig.parameters.length)
    (hstack : g.stack = argsL.reverse ++ rest) (hW : 2 * g.monitorRoom + (rest.map fun v => v.category).sum ≤ W) (hdg : decode c.code g.pc = .ok (.invokestatic index, 3)) (has : argsL.toArray = as' := by rfl) :
    ∃ T', Stand p l e R s m args below meth c T' locs cells slots ∧ T'.heap = h ∧ ∀ target, Steps p.tables e below (T'.setTop { g with pc := g.pc + 3, stack := w.toList ++ rest }) target → Steps p.tables e below (T.setTop g) target := by
  obtain ⟨v, vm₁, ⟨T', L', k', n'⟩, -, X', ⟨Lc, ⟨rfl, q2, rfl⟩, l1, y1, z3⟩, st⟩ := Jvm.LawKit.callS X hx (y := y) hown (mvT hZ w1) (mvT hZ w2) (mvT hZ w3) (mvT hZ w4) hy (backOf (W := W) hM hZ w4 w3 hf hl) hg hsize hlen hstack hW hdg (fun _ _ => ⟨has, eT, by rw [z1]; exact hc, by rw [z2]; exact hs'⟩)
  dsimp only [Pt.U, Pt.locs, Pt.cells, Pt.slots] at X' l1 y1 z3 st q2
  rw [z1] at y1; rw [z2] at z3
  rw [List.append_nil] at l1
  subst l1 y1 z3
  exact ⟨T', X', q2, st⟩
end Own
end Jvm.RoadKit
namespace Jvm.RoadKit
open Sem ClassFile Op Lib Jvm.Stand Jvm.Free Jvm.LawKit
section Own2
variable {p : Program} {l : Launch} {e : Env} {R : Room} {s : State} {m : MethodId} {args : Array Value} {below : List Frame} {meth : Method} {c : Code} {T : State} {locs : List Loc} {cells slots : Nat} {Z : State} {a0 : Array Value} {h h' : Heap} {a b : Addr} {ty : FieldType} {vs : List Value} {sl : Nat} {v : Value} {ws : List Addr}
/-- an array, by the list of what it holds -/
def Ar (Z : State) (h : Heap) (a : Addr) (ty : FieldType) (vs : List Value) : Prop := ∃ c : Cell, Arr Z h a c ty ∧ c.slots.toList = vs ∧ vs.length < 2 ^ 31
theorem Ar.lt (A : Ar Z h a ty vs) : a < h.size := by obtain ⟨c, q, -⟩ := A; exact q.lt
theorem Ar.ext (A : Ar Z h a ty vs) (E : Ext h h') : Ar Z h' a ty vs := by obtain ⟨c, q, r⟩ := A; exact ⟨c, q.ext E, r⟩
theorem Ar.other (A : Ar Z h b ty vs) (W : Wr h h' a sl v) (q : b ≠ a) : Ar Z h' b ty vs := by obtain ⟨c, r, t⟩ := A; exact ⟨c, r.other W q, t⟩
theorem Ar.keep (A : Ar Z h a ty vs) (K : Keep h h' ws) (q : a ∉ ws) : Ar Z h' a ty vs := by obtain ⟨c, r, t⟩ := A; exact ⟨c, ⟨K.2.1 a c r.1 q, r.2⟩, t⟩
theorem Ar.same (A : Ar Z h a ty vs) (W : Wr h h' a sl v) : Ar Z h' a ty (vs.set sl v) := by
  obtain ⟨c, r, t, u⟩ := A
  refine ⟨_, r.same W, ?_, by rw [List.length_set]; exact u⟩
  show (c.slots.setIfInBounds sl v).toList = _
  rw [Array.toList_setIfInBounds, t]
abbrev Ari (Z : State) (h : Heap) (a : Addr) (ty : FieldType) (xs : List Int32) : Prop := Ar Z h a ty (xs.map Value.int)
abbrev Arj (Z : State) (h : Heap) (a : Addr) (xs : List Int64) : Prop := Ar Z h a .long (xs.map Value.long)
/-- what an array's place holds -/
def ldx {α : Type} (xs : List α) (j : Int32) : Option α := if j < 0 then none else xs[j.toNatClampNeg]?
def stx {α : Type} (xs : List α) (j : Int32) (v : α) : Option (List α) := if j < 0 then none else if xs.length ≤ j.toNatClampNeg then none else some (xs.set j.toNatClampNeg v)
def nwx {α : Type} (d : α) (cap : Nat) (n : Int32) : Option (List α) := if n < 0 then none else if cap < n.toNatClampNeg then none else some (List.replicate n.toNatClampNeg d)
def lenx {α : Type} (xs : List α) : Int32 := xs.length.toInt32
theorem ldx_at {α : Type} {f : α → Value} {xs : List α} {j : Int32} {x : α} {cl : Cell} (hv : ldx xs j = some x) (q : cl.slots.toList = xs.map f) : ¬ (j < 0 ∨ cl.slots.size ≤ j.toNatClampNeg) ∧ cl.slots[j.toNatClampNeg]? = some (f x) := by
  unfold ldx at hv
  by_cases hj : j < 0
  · rw [if_pos hj] at hv; cases hv
  rw [if_neg hj] at hv
  have h1 : cl.slots[j.toNatClampNeg]? = some (f x) := by rw [← Array.getElem?_toList, q, List.getElem?_map, hv]; rfl
  refine ⟨fun z => z.elim hj fun z => ?_, h1⟩
  rw [Array.getElem?_eq_none z] at h1; cases h1
theorem stx_at {α : Type} {f : α → Value} {xs ys : List α} {j : Int32} {x : α} {cl : Cell} (hv : stx xs j x = some ys) (q : cl.slots.toList = xs.map f) : ¬ (j < 0 ∨ cl.slots.size ≤ j.toNatClampNeg) ∧ ys = xs.set j.toNatClampNeg x := by
  unfold stx at hv
  by_cases hj : j < 0
  · rw [if_pos hj] at hv; cases hv
  rw [if_neg hj] at hv
  by_cases hl : xs.length ≤ j.toNatClampNeg
  · rw [if_pos hl] at hv; cases hv
  rw [if_neg hl] at hv
  refine ⟨fun z => z.elim hj fun z => hl ?_, (Option.some.inj hv).symm⟩
  have : cl.slots.size = xs.length := by rw [← Array.length_toList, q, List.length_map]
  omega
theorem ldI (X : Stand p l e R s m args below meth c T locs cells slots) (hx : p.tables.exec = Jvm.exec) (hZ : Z.Warmed39 s.vm) (eT : T.heap = h) {xs : List Int32} (A : Ari Z h a .int xs) {j v : Int32} (hv : ldx xs j = some v) {g : JFrame} (hg : g.method = m) {rest : List Value} (hs : g.stack = .int j :: .ref a :: rest) (hd : decode c.code g.pc = .ok (.iaload, 1)) (target : State)
    (hr : Steps p.tables e below (T.setTop { g with pc := g.pc + 1, stack := .int v :: rest }) target) : Steps p.tables e below (T.setTop g) target := by
  obtain ⟨cl, A1, A2, -⟩ := A
  obtain ⟨hj, hat⟩ := ldx_at hv A2
  exact X.iaload hx (by rw [eT]; exact A1.1) (State.isArrayOf_alike hZ.alike A1.2.1) A1.2.2 hj hat hg hs hd target hr
theorem ldB (X : Stand p l e R s m args below meth c T locs cells slots) (hx : p.tables.exec = Jvm.exec) (hZ : Z.Warmed39 s.vm) (eT : T.heap = h) {xs : List Int32} (A : Ari Z h a .byte xs) {j v : Int32} (hv : ldx xs j = some v) {g : JFrame} (hg : g.method = m) {rest : List Value} (hs : g.stack = .int j :: .ref a :: rest) (hd : decode c.code g.pc = .ok (.baload, 1)) (target : State)
    (hr : Steps p.tables e below (T.setTop { g with pc := g.pc + 1, stack := .int v :: rest }) target) : Steps p.tables e below (T.setTop g) target := by
  obtain ⟨cl, A1, A2, -⟩ := A
  obtain ⟨hj, hat⟩ := ldx_at hv A2
  exact X.baloadBytes hx (by rw [eT]; exact A1.1) (State.isArrayOf_alike hZ.alike A1.2.1) A1.2.2 hj hat hg hs hd target hr
theorem ldZ (X : Stand p l e R s m args below meth c T locs cells slots) (hx : p.tables.exec = Jvm.exec) (hZ : Z.Warmed39 s.vm) (eT : T.heap = h) {xs : List Int32} (A : Ari Z h a .boolean xs) {j v : Int32} (hv : ldx xs j = some v) {g : JFrame} (hg : g.method = m) {rest : List Value} (hs : g.stack = .int j :: .ref a :: rest) (hd : decode c.code g.pc = .ok (.baload, 1)) (target : State)
    (hr : Steps p.tables e below (T.setTop { g with pc := g.pc + 1, stack := .int v :: rest }) target) : Steps p.tables e below (T.setTop g) target := by
  obtain ⟨cl, A1, A2, -⟩ := A
  obtain ⟨hj, hat⟩ := ldx_at hv A2
  exact X.baloadBooleans hx (by rw [eT]; exact A1.1) (State.isArrayOf_alike hZ.alike A1.2.1) A1.2.2 hj hat hg hs hd target hr
theorem ldJ (X : Stand p l e R s m args below meth c T locs cells slots) (hx : p.tables.exec = Jvm.exec) (hZ : Z.Warmed39 s.vm) (eT : T.heap = h) {xs : List Int64} (A : Arj Z h a xs) {j : Int32} {v : Int64} (hv : ldx xs j = some v) {g : JFrame} (hg : g.method = m) {rest : List Value} (hs : g.stack = .int j :: .ref a :: rest) (hd : decode c.code g.pc = .ok (.laload, 1)) (target : State)
    (hr : Steps p.tables e below (T.setTop { g with pc := g.pc + 1, stack := .long v :: rest }) target) : Steps p.tables e below (T.setTop g) target := by
  obtain ⟨cl, A1, A2, -⟩ := A
  obtain ⟨hj, hat⟩ := ldx_at hv A2
  exact X.laload hx (by rw [eT]; exact A1.1) (State.isArrayOf_alike hZ.alike A1.2.1) A1.2.2 hj hat hg hs hd target hr
theorem lenA (X : Stand p l e R s m args below meth c T locs cells slots) (hx : p.tables.exec = Jvm.exec) (hZ : Z.Warmed39 s.vm) (eT : T.heap = h) {α : Type} {f : α → Value} {xs : List α} (A : Ar Z h a ty (xs.map f)) {g : JFrame} (hg : g.method = m) {rest : List Value} (hs : g.stack = .ref a :: rest) (hd : decode c.code g.pc = .ok (.arraylength, 1)) (target : State)
    (hr : Steps p.tables e below (T.setTop { g with pc := g.pc + 1, stack := .int (lenx xs) :: rest }) target) : Steps p.tables e below (T.setTop g) target := by
  obtain ⟨cl, A1, A2, -⟩ := A
  have : cl.slots.size = xs.length := by rw [← Array.length_toList, A2, List.length_map]
  refine X.arraylength hx (by rw [eT]; exact A1.1) (State.isArrayOf_alike hZ.alike A1.2.1) hg hs hd target ?_
  rw [this]; exact hr
theorem saI (X : Stand p l e R s m args below meth c T locs cells slots) (hx : p.tables.exec = Jvm.exec) (hZ : Z.Warmed39 s.vm) (eT : T.heap = h) {xs ys : List Int32} (A : Ari Z h a .int xs) {j v : Int32} (hv : stx xs j v = some ys) {g : JFrame} (hg : g.method = m) {rest : List Value} (hs : g.stack = .int v :: .int j :: .ref a :: rest) (hd : decode c.code g.pc = .ok (.iastore, 1)) :
    ∃ T' h', Stand p l e R s m args below meth c T' (locs ++ [⟨a, j.toNatClampNeg⟩]) cells slots ∧ T'.heap = h' ∧ Wr h h' a j.toNatClampNeg (.int v) ∧ Ari Z h' a .int ys ∧ ∀ target, Steps p.tables e below (T'.setTop { g with pc := g.pc + 1, stack := rest }) target → Steps p.tables e below (T.setTop g) target := by
  have A' := A
  obtain ⟨cl, A1, A2, -⟩ := A
  obtain ⟨hj, rfl⟩ := stx_at hv A2
  obtain ⟨T', h', X', e', W', st⟩ := stI X hx hZ eT A1 hj hg hs hd
  exact ⟨T', h', X', e', W', by have q := A'.same W'; rw [← List.map_set] at q; exact q, st⟩
theorem saB (X : Stand p l e R s m args below meth c T locs cells slots) (hx : p.tables.exec = Jvm.exec) (hZ : Z.Warmed39 s.vm) (eT : T.heap = h) {xs ys : List Int32} (A : Ari Z h a .byte xs) {j v : Int32} (hv : stx xs j v.toInt8.toInt32 = some ys) {g : JFrame} (hg : g.method = m) {rest : List Value} (hs : g.stack = .int v :: .int j :: .ref a :: rest) (hd : decode c.code g.pc = .ok (.bastore, 1)) :
    ∃ T' h', Stand p l e R s m args below meth c T' (locs ++ [⟨a, j.toNatClampNeg⟩]) cells slots ∧ T'.heap = h' ∧ Wr h h' a j.toNatClampNeg (.int v.toInt8.toInt32) ∧ Ari Z h' a .byte ys ∧ ∀ target, Steps p.tables e below (T'.setTop { g with pc := g.pc + 1, stack := rest }) target → Steps p.tables e below (T.setTop g) target := by
  have A' := A
  obtain ⟨cl, A1, A2, -⟩ := A
  obtain ⟨hj, rfl⟩ := stx_at hv A2
  obtain ⟨T', h', X', e', W', st⟩ := stB X hx hZ eT A1 hj hg hs hd
  exact ⟨T', h', X', e', W', by have q := A'.same W'; rw [show Value.int (nar .byte v) = Value.int v.toInt8.toInt32 from rfl, ← List.map_set] at q; exact q, st⟩
theorem saZ (X : Stand p l e R s m args below meth c T locs cells slots) (hx : p.tables.exec = Jvm.exec) (hZ : Z.Warmed39 s.vm) (eT : T.heap = h) {xs ys : List Int32} (A : Ari Z h a .boolean xs) {j v : Int32} (hv : stx xs j (v &&& 1) = some ys) {g : JFrame} (hg : g.method = m) {rest : List Value} (hs : g.stack = .int v :: .int j :: .ref a :: rest) (hd : decode c.code g.pc = .ok (.bastore, 1)) :
    ∃ T' h', Stand p l e R s m args below meth c T' (locs ++ [⟨a, j.toNatClampNeg⟩]) cells slots ∧ T'.heap = h' ∧ Wr h h' a j.toNatClampNeg (.int (v &&& 1)) ∧ Ari Z h' a .boolean ys ∧ ∀ target, Steps p.tables e below (T'.setTop { g with pc := g.pc + 1, stack := rest }) target → Steps p.tables e below (T.setTop g) target := by
  have A' := A
  obtain ⟨cl, A1, A2, -⟩ := A
  obtain ⟨hj, rfl⟩ := stx_at hv A2
  obtain ⟨T', h', X', e', W', st⟩ := stZ X hx hZ eT A1 hj hg hs hd
  exact ⟨T', h', X', e', W', by have q := A'.same W'; rw [show Value.int (nar .boolean v) = Value.int (v &&& 1) from rfl, ← List.map_set] at q; exact q, st⟩
theorem saJ (X : Stand p l e R s m args below meth c T locs cells slots) (hx : p.tables.exec = Jvm.exec) (hZ : Z.Warmed39 s.vm) (eT : T.heap = h) {xs ys : List Int64} (A : Arj Z h a xs) {j : Int32} {v : Int64} (hv : stx xs j v = some ys) {g : JFrame} (hg : g.method = m) {rest : List Value} (hs : g.stack = .long v :: .int j :: .ref a :: rest) (hd : decode c.code g.pc = .ok (.lastore, 1)) :
    ∃ T' h', Stand p l e R s m args below meth c T' (locs ++ [⟨a, j.toNatClampNeg⟩]) cells slots ∧ T'.heap = h' ∧ Wr h h' a j.toNatClampNeg (.long v) ∧ Arj Z h' a ys ∧ ∀ target, Steps p.tables e below (T'.setTop { g with pc := g.pc + 1, stack := rest }) target → Steps p.tables e below (T.setTop g) target := by
  have A' := A
  obtain ⟨cl, A1, A2, -⟩ := A
  obtain ⟨hj, rfl⟩ := stx_at hv A2
  obtain ⟨T', h', X', e', W', st⟩ := stJ X hx hZ eT A1 hj hg hs hd
  exact ⟨T', h', X', e', W', by have q := A'.same W'; rw [← List.map_set] at q; exact q, st⟩
theorem nwx_at {α : Type} {d : α} {cap : Nat} {n : Int32} {xs : List α} (hv : nwx d cap n = some xs) : ¬ n < 0 ∧ n.toNatClampNeg ≤ cap ∧ xs = List.replicate n.toNatClampNeg d := by
  unfold nwx at hv
  by_cases hj : n < 0
  · rw [if_pos hj] at hv; cases hv
  rw [if_neg hj] at hv
  by_cases hl : cap < n.toNatClampNeg
  · rw [if_pos hl] at hv; cases hv
  rw [if_neg hl] at hv
  exact ⟨hj, Nat.le_of_not_lt hl, (Option.some.inj hv).symm⟩
theorem Ar.new {α : Type} {f : α → Value} {d : α} {n : Int32} {cA : ClassId} (A : Arr Z h a (newA cA ty n) ty) (q : ¬ n < 0) (hd : defaultValue ty = f d) : Ar Z h a ty ((List.replicate n.toNatClampNeg d).map f) := by
  refine ⟨_, A, ?_, ?_⟩
  · show (Array.replicate n.toNatClampNeg (defaultValue ty)).toList = _
    rw [Array.toList_replicate, List.map_replicate, hd]
  · rw [List.length_map, List.length_replicate]; exact (back32 q).2
/-- a new array of ints, bytes, booleans .. -/
theorem nwA (X : Stand p l e R s m args below meth c T locs cells slots) (hx : p.tables.exec = Jvm.exec) (hZ : Z.Warmed39 s.vm) {aty : ArrayType} (w : (Cond.arrayClass (newarray.typeOf aty)).before a0 Z = true) (eT : T.heap = h) {α : Type} {f : α → Value} {d : α} {cap : Nat} {n : Int32} {xs : List α} (hv : nwx d cap n = some xs) (hdf : defaultValue (newarray.typeOf aty) = f d)
    {g : JFrame} (hg : g.method = m) {rest : List Value} (hs : g.stack = .int n :: rest) (hd : decode c.code g.pc = .ok (.newarray aty, 2)) (hb : cap * 8 ≤ 536870912) (hc : cells + 1 ≤ R.cells) (hl : slots + cap ≤ R.slots) :
    ∃ T' h', Stand p l e R s m args below meth c T' locs (cells + 1) (slots + cap) ∧ T'.heap = h' ∧ Ext h h' ∧ Ar Z h' h.size (newarray.typeOf aty) (xs.map f) ∧ ∀ target, Steps p.tables e below (T'.setTop { g with pc := g.pc + 2, stack := .ref h.size :: rest }) target → Steps p.tables e below (T.setTop g) target := by
  obtain ⟨q1, q2, rfl⟩ := nwx_at hv
  obtain ⟨T', h', cA, X', e', E', A', st⟩ := newP X hx hZ w eT hg hd hs q1 (cap := cap) q2 hb hc hl
  exact ⟨T', h', X', e', E', Ar.new A' q1 hdf, st⟩
variable {y : MethodName} {bytes : ByteArray} {maxL : Nat} {ret : Option FieldType} {rm : Room} {as' : Array Value} {Q : Option Value → Heap → List Loc → Prop} {own : String} {index : Nat}
/-- a static call by the callee's contract -/
theorem callQ (X : Stand p l e R s m args below meth c T locs cells slots) (hx : p.tables.exec = Jvm.exec) (hZ : Z.Warmed39 s.vm)
    (hown : s.vm.findClass own = some m.cls) (w1 : (Cond.methodLink own index y).before a0 Z = true) (w2 : (Cond.static y).before a0 Z = true) (w3 : (Cond.initialized y.cls).before a0 Z = true) (w4 : (Cond.code y bytes maxL ret).before a0 Z = true) (hy : y.cls ≠ "java/lang/invoke/MethodHandle" ∧ y.cls ≠ "java/lang/invoke/VarHandle")
    (hM : MetFree l y (head1 [Cond.code y bytes maxL ret] rm) (fun a U => a = as' ∧ Z.Warmed39 U.vm ∧ U.heap = h) (fun _ _ _ _ _ => True) (fun _ U o U' => ∃ v L, o = .returned v ∧ Q v U'.heap L ∧ FrameEnd U o U' L rm.cells rm.slots))
    {W : Nat} (hf : rm.frames + 1 ≤ R.frames) (hl : W + (maxL + 11) + rm.locals ≤ R.locals) (hc : cells + rm.cells ≤ R.cells) (hs' : slots + rm.slots ≤ R.slots) (eT : T.heap = h)
    {g : JFrame} (hg : g.method = m) (hsize : g.locals.size = c.maxLocals) {argsL rest : List Value} (hlen : ∀ sig, parseMethodDescriptor y.desc = some sig → argsL.length = sig.parameters.length)
    (hstack : g.stack = argsL.reverse ++ rest) (hW : 2 * g.monitorRoom + (rest.map fun v => v.category).sum ≤ W) (hdg : decode c.code g.pc = .ok (.invokestatic index, 3)) (has : argsL.toArray = as' := by rfl) :
    ∃ v T' L', Stand p l e R s m args below meth c T' (locs ++ L') (cells + rm.cells) (slots + rm.slots) ∧ Q v T'.heap L' ∧ ∀ target, Steps p.tables e below (T'.setTop { g with pc := g.pc + 3, stack := v.toList ++ rest }) target → Steps p.tables e below (T.setTop g) target := by
  obtain ⟨v, vm₁, ⟨T', L', k', n'⟩, -, X', ⟨Lc, q2, l1, y1, z3⟩, st⟩ := Jvm.LawKit.callS X hx (y := y) hown (mvT hZ w1) (mvT hZ w2) (mvT hZ w3) (mvT hZ w4) hy (backOf (W := W) hM hZ w4 w3 hf hl) hg hsize hlen hstack hW hdg (fun _ _ => ⟨has, eT, hc, hs'⟩)
  dsimp only [Pt.U, Pt.locs, Pt.cells, Pt.slots] at X' l1 y1 z3 st q2
  subst l1 y1 z3
  exact ⟨v, T', Lc, X', q2, st⟩
/-- a constructor by its contract -/
theorem callN {ret : Option FieldType} (X : Stand p l e R s m args below meth c T locs cells slots) (hx : p.tables.exec = Jvm.exec) (hZ : Z.Warmed39 s.vm) (hret : ret = none) (hnm : y.name = "<init>")
    (hown : s.vm.findClass own = some m.cls) (w1 : (Cond.methodLink own index y).before a0 Z = true) (w2 : (Cond.instanceMethod y).before a0 Z = true) (w3 : (Cond.initialized y.cls).before a0 Z = true) (w4 : (Cond.code y bytes maxL ret).before a0 Z = true) (hy : y.cls ≠ "java/lang/invoke/MethodHandle" ∧ y.cls ≠ "java/lang/invoke/VarHandle")
    (hM : MetFree l y (head1 [Cond.code y bytes maxL ret] rm) (fun a U => a = as' ∧ Z.Warmed39 U.vm ∧ U.heap = h) (fun _ _ _ _ _ => True) (fun _ U o U' => ∃ v L, o = .returned v ∧ Q v U'.heap L ∧ FrameEnd U o U' L rm.cells rm.slots))
    {W : Nat} (hf : rm.frames + 1 ≤ R.frames) (hl : W + (maxL + 11) + rm.locals ≤ R.locals) (hc : cells + rm.cells ≤ R.cells) (hs' : slots + rm.slots ≤ R.slots) (eT : T.heap = h)
    {g : JFrame} (hg : g.method = m) (hsize : g.locals.size = c.maxLocals) {a : Addr} {argsL rest : List Value} (hlen : ∀ sig, parseMethodDescriptor y.desc = some sig → argsL.length = sig.parameters.length)
    (hstack : g.stack = argsL.reverse ++ .ref a :: rest) (hW : 2 * g.monitorRoom + (rest.map fun v => v.category).sum ≤ W) (hdg : decode c.code g.pc = .ok (.invokespecial index, 3)) (has : (Value.ref a :: argsL).toArray = as' := by rfl) :
    ∃ v T' L', Stand p l e R s m args below meth c T' (locs ++ L') (cells + rm.cells) (slots + rm.slots) ∧ Q v T'.heap L' ∧ ∀ target, Steps p.tables e below (T'.setTop { g with pc := g.pc + 3, stack := v.toList ++ rest }) target → Steps p.tables e below (T.setTop g) target := by
  subst hret
  obtain ⟨v, vm₁, ⟨T', L', k', n'⟩, -, X', ⟨Lc, q2, l1, y1, z3⟩, st⟩ := X.specialBack hx (y := y) hnm hown (mvT hZ w1) (mvT hZ w2) (mvT hZ w4) hy (backOf (W := W) hM hZ w4 w3 hf hl) hg hsize (Steps.refl _) hlen hstack hW hdg (fun _ _ => ⟨has, eT, hc, hs'⟩)
  dsimp only [Pt.U, Pt.locs, Pt.cells, Pt.slots] at X' l1 y1 z3 st q2
  subst l1 y1 z3
  exact ⟨v, T', Lc, X', q2, fun t k => st.trans k⟩
/-- an instance method by its contract -/
theorem callV (X : Stand p l e R s m args below meth c T locs cells slots) (hx : p.tables.exec = Jvm.exec) (hZ : Z.Warmed39 s.vm)
    (hown : s.vm.findClass own = some m.cls) (w1 : (Cond.methodLink own index y).before a0 Z = true) (w2 : (Cond.declares y).before a0 Z = true) (w3 : (Cond.selects y.cls y y).before a0 Z = true) (w5 : (Cond.instanceMethod y).before a0 Z = true) (w6 : (Cond.initialized y.cls).before a0 Z = true) (w4 : (Cond.code y bytes maxL ret).before a0 Z = true) (hy : y.cls ≠ "java/lang/invoke/MethodHandle" ∧ y.cls ≠ "java/lang/invoke/VarHandle")
    (hM : MetFree l y (head1 [Cond.code y bytes maxL ret] rm) (fun a U => a = as' ∧ Z.Warmed39 U.vm ∧ U.heap = h) (fun _ _ _ _ _ => True) (fun _ U o U' => ∃ v L, o = .returned v ∧ Q v U'.heap L ∧ FrameEnd U o U' L rm.cells rm.slots))
    {W : Nat} (hf : rm.frames + 1 ≤ R.frames) (hl : W + (maxL + 11) + rm.locals ≤ R.locals) (hc : cells + rm.cells ≤ R.cells) (hs' : slots + rm.slots ≤ R.slots) (eT : T.heap = h) {a : Addr} (E : Exa Z h a y.cls)
    {g : JFrame} (hg : g.method = m) (hsize : g.locals.size = c.maxLocals) {argsL rest : List Value} (hlen : ∀ sig, parseMethodDescriptor y.desc = some sig → argsL.length = sig.parameters.length)
    (hstack : g.stack = argsL.reverse ++ .ref a :: rest) (hW : 2 * g.monitorRoom + (rest.map fun v => v.category).sum ≤ W) (hdg : decode c.code g.pc = .ok (.invokevirtual index, 3)) (has : (Value.ref a :: argsL).toArray = as' := by rfl) :
    ∃ v T' L', Stand p l e R s m args below meth c T' (locs ++ L') (cells + rm.cells) (slots + rm.slots) ∧ Q v T'.heap L' ∧ ∀ target, Steps p.tables e below (T'.setTop { g with pc := g.pc + 3, stack := v.toList ++ rest }) target → Steps p.tables e below (T.setTop g) target := by
  obtain ⟨cq, kq, qa, qb, qc⟩ := isOf hZ eT E
  obtain ⟨v, vm₁, ⟨T', L', k', n'⟩, -, X', ⟨Lc, q2, l1, y1, z3⟩, st⟩ := X.virtualBack hx (y := y) (z := y) hown (mvT hZ w1) (mvT hZ w2) (notFace_of_selects (args := #[]) (mvT hZ w3)) (mvT hZ w3) (mvT hZ w5) hy (backOf (W := W) hM hZ w4 w6 hf hl) qa qc hg hsize (Steps.refl _) hlen hstack hW hdg (fun _ _ => ⟨has, eT, hc, hs'⟩)
  dsimp only [Pt.U, Pt.locs, Pt.cells, Pt.slots] at X' l1 y1 z3 st q2
  subst l1 y1 z3
  exact ⟨v, T', Lc, X', q2, fun t k => st.trans k⟩
/-- a private method by its contract -/
theorem callR (X : Stand p l e R s m args below meth c T locs cells slots) (hx : p.tables.exec = Jvm.exec) (hZ : Z.Warmed39 s.vm)
    (hown : s.vm.findClass own = some m.cls) (w1 : (Cond.methodLink own index y).before a0 Z = true) (w2 : (Cond.privateMethod y).before a0 Z = true) {kk : Nat} (w3 : (Cond.instantiable y.cls kk).before a0 Z = true) (w5 : (Cond.instanceMethod y).before a0 Z = true) (w6 : (Cond.initialized y.cls).before a0 Z = true) (w4 : (Cond.code y bytes maxL ret).before a0 Z = true) (hy : y.cls ≠ "java/lang/invoke/MethodHandle" ∧ y.cls ≠ "java/lang/invoke/VarHandle")
    (hM : MetFree l y (head1 [Cond.code y bytes maxL ret] rm) (fun a U => a = as' ∧ Z.Warmed39 U.vm ∧ U.heap = h) (fun _ _ _ _ _ => True) (fun _ U o U' => ∃ v L, o = .returned v ∧ Q v U'.heap L ∧ FrameEnd U o U' L rm.cells rm.slots))
    {W : Nat} (hf : rm.frames + 1 ≤ R.frames) (hl : W + (maxL + 11) + rm.locals ≤ R.locals) (hc : cells + rm.cells ≤ R.cells) (hs' : slots + rm.slots ≤ R.slots) (eT : T.heap = h) {a : Addr} (E : Exa Z h a y.cls)
    {g : JFrame} (hg : g.method = m) (hsize : g.locals.size = c.maxLocals) {argsL rest : List Value} (hlen : ∀ sig, parseMethodDescriptor y.desc = some sig → argsL.length = sig.parameters.length)
    (hstack : g.stack = argsL.reverse ++ .ref a :: rest) (hW : 2 * g.monitorRoom + (rest.map fun v => v.category).sum ≤ W) (hdg : decode c.code g.pc = .ok (.invokevirtual index, 3)) (has : (Value.ref a :: argsL).toArray = as' := by rfl) :
    ∃ v T' L', Stand p l e R s m args below meth c T' (locs ++ L') (cells + rm.cells) (slots + rm.slots) ∧ Q v T'.heap L' ∧ ∀ target, Steps p.tables e below (T'.setTop { g with pc := g.pc + 3, stack := v.toList ++ rest }) target → Steps p.tables e below (T.setTop g) target := by
  obtain ⟨cq, q, q'⟩ := E.cell
  have hpr := Cond.privateMethod_at (mvP hZ w2 (args := args))
  obtain ⟨c4, k2, i1, i2, -, i4, -⟩ := Cond.instantiable_spec (mvT hZ w3 : (Cond.instantiable y.cls kk).before args s = true)
  have hsel := selects_self_of_private (args := args) i1 i2 (by simp only [Bool.or_eq_false_iff] at i4; exact i4.1) hpr (mvT hZ w5) hy
  obtain ⟨v, vm₁, ⟨T', L', k', n'⟩, -, X', ⟨Lc, q2, l1, y1, z3⟩, st⟩ := X.privateBack hx (y := y) hown (mvT hZ w1) (mvT hZ w5) hsel hpr (mvT hZ w4) hy (backOf (W := W) hM hZ w4 w6 hf hl) hg hsize (Steps.refl _) (by rw [eT]; exact q) q' hlen hstack hW hdg (fun _ _ => ⟨has, eT, hc, hs'⟩)
  dsimp only [Pt.U, Pt.locs, Pt.cells, Pt.slots] at X' l1 y1 z3 st q2
  subst l1 y1 z3
  exact ⟨v, T', Lc, X', q2, fun t k => st.trans k⟩
end Own2
end Jvm.RoadKit
namespace Jvm.Pilot.@@N@@
open Jvm Jvm.ClassFile Sem Op Lib Jvm.Free Jvm.Stand Jvm.LawKit Jvm.RoadKit Bundle Jvm.Pilot.@@N@@.Jvm.D
def SX (Z : State) : Prop := ∃ w : Addr, Sta Z Z.heap "java/util/ArrayList" "DEFAULTCAPACITY_EMPTY_ELEMENTDATA" "[Ljava/lang/Object;" (.ref w)
theorem own_sx {s : State} {a : Array Value} (hw : ∀ d ∈ tables_1, d.before a s = true) (hs : ∀ d ∈ jdkStatics_1, d.before a s = true) : SX s := by
  obtain ⟨w, hw'⟩ := exa_v (Cond.before_iff.mp (hs _ (List.mem_of_getElem? (i := 7) rfl)))
  exact ⟨w, Sta.start hw' (Or.inr ⟨hw _ (List.mem_of_getElem? (i := 13) rfl), hs _ (List.mem_of_getElem? (i := 2) rfl)⟩)⟩
-- body 5 as 5: java/util/AbstractCollection.<init>:()V (touches nothing)
theorem d5_0 : decode jdk_22_method_1_code 0 = .ok (.aload_n 0, 1) := by decide +kernel
theorem d5_1 : decode jdk_22_method_1_code 1 = .ok (.invokespecial 1, 3) := by decide +kernel
theorem d5_4 : decode jdk_22_method_1_code 4 = .ok (.return_, 1) := by decide +kernel
theorem pn5 : plainName "java/util/AbstractCollection" = true := by first | (simp [plainName, overriddenIn]; done) | decide +kernel
theorem pd5 : parseMethodDescriptor "()V" = some ⟨[], none⟩ := by decide +kernel
theorem ef5 (m : MethodId) (b0 : Addr) : entryFrame m #[(.ref b0)] 1 = mkF m 0 #[.val (.ref b0)] [] := by first | (simp [entryFrame, mkF, argsToLocals, Value.category]; done) | rfl
abbrev rx5 : Room := { frames := 1, cells := 0, slots := 0, locals := 12 }
abbrev Cx5 (Z : State) (a0 : Array Value) (p : Program) (s : State) (m : MethodId) (meth : Method) (c : Code) : Prop := p.tables.exec = Jvm.exec ∧ Z.Warmed39 s.vm ∧ (∀ d ∈ tables_1, d.before a0 Z = true) ∧ c.code = jdk_22_method_1_code ∧ c.maxLocals = 1 ∧ s.vm.findClass "java/util/AbstractCollection" = some m.cls ∧ meth.sig.returnType = none ∧ meth.locks = false ∧ meth.name = "<init>" ∧ SX Z
def Q5 (Z : State) (b0 : Addr) (u0_modCount : Int32) (h0 : Heap) (o : Unit) (v : Option Value) (h : Heap) (L : List Loc) : Prop := v = none ∧ h = h0 ∧ L = []
def f5 (u0_modCount : Int32) : Option (Unit) := some ()
set_option maxRecDepth 65536 in
set_option maxHeartbeats 40000000 in
theorem w5_0 {p : Program} {l : Launch} {e : Env} {s : State} {m : MethodId} {args : Array Value} {below : List Frame} {meth : Method} {c : Code} {Z : State} {a0 : Array Value} {h0 : Heap} (C : Cx5 Z a0 p s m meth c) :
    ∀ (T : State) (b0 : Addr) (u0_modCount : Int32) (o : Unit), f5 u0_modCount = some o → Stand p l e rx5 s m args below meth c T [] 0 0 → T.heap = h0 → (Exa Z h0 b0 "java/util/ArrayList") → (Fld Z h0 b0 "java/util/AbstractList" "modCount" "I" (.int u0_modCount)) → (Fld Z h0 b0 "java/util/ArrayList" "elementData" "[Ljava/lang/Object;" .null) →  OwnOut p e s below 0 0 (Q5 Z b0 u0_modCount h0 o) (T.setTop (mkF m 0 #[.val (.ref b0)] [])) := by
    obtain ⟨hx, hZ, hw, hby, hml, hown, hret, hlk, hnm, hsx⟩ := C
    intro T b0 u0_modCount o hr X0 e0 E0 F0_modCount F0_elementData
    rw [f5] at hr
    refine OwnOut.go (fun t k => XS.aloadN X0.here hx rfl (hb hby d5_0) rfl rfl k) ?_
    show OwnOut p e s below 0 0 _ (T.setTop (mkF m 1 #[.val (.ref b0)] [(.ref b0)]))
    obtain ⟨T1, X1, e1, st1⟩ := initO X0 hx hZ hown (hw _ (List.mem_of_getElem? (i := 29) rfl)) (hw _ (List.mem_of_getElem? (i := 9) rfl)) (hw _ (List.mem_of_getElem? (i := 10) rfl)) e0 (g := (mkF m 1 #[.val (.ref b0)] [(.ref b0)])) rfl (by rw [hml]; rfl) rfl (hb hby d5_1) (by decide) (W := 0) (by show 2 * 0 + _ ≤ _; exact Nat.le_of_eq rfl) (by decide)
    refine OwnOut.go (fun t k => st1 _ k) ?_
    show OwnOut p e s below 0 0 _ (T1.setTop (mkF m 4 #[.val (.ref b0)] []))
    cases hr
    exact outV X1 hx hret (hb hby d5_4) hlk (by decide) (by decide) ⟨rfl, e1, rfl⟩
set_option maxRecDepth 65536 in
set_option maxHeartbeats 40000000 in
theorem rm5 (l : Launch) (Z : State) (a0 : Array Value) (hw : ∀ d ∈ tables_1, d.before a0 Z = true) (hsx : SX Z) (ws : List Jvm.Cond) (b0 : Addr) (u0_modCount : Int32) (h0 : Heap) (o : Unit) (hr : f5 u0_modCount = some o) (E0 : Exa Z h0 b0 "java/util/ArrayList") (F0_modCount : Fld Z h0 b0 "java/util/AbstractList" "modCount" "I" (.int u0_modCount)) (F0_elementData : Fld Z h0 b0 "java/util/ArrayList" "elementData" "[Ljava/lang/Object;" .null) :
    MetFree l (⟨"java/util/AbstractCollection", "<init>", "()V"⟩ : MethodName) (head1 (Jvm.Cond.code (⟨"java/util/AbstractCollection", "<init>", "()V"⟩ : MethodName) jdk_22_method_1_code 1 none :: ws) rx5) (fun a U => a = #[(.ref b0)] ∧ Z.Warmed39 U.vm ∧ U.heap = h0) (fun _ _ _ _ _ => True) (fun _ U o' U' => ∃ v L, o' = .returned v ∧ Q5 Z b0 u0_modCount h0 o v U'.heap L ∧ FrameEnd U o' U' L rx5.cells rx5.slots) := by
  refine MetFree.of_bodySF (plainFor_of_name pn5) hisR ?_
  intro p e s m args below meth c s₁ Bd hml0 hP hK
  obtain ⟨rfl, hZ, hh⟩ := hP
  have X0 : Stand p l e rx5 s m #[(.ref b0)] below meth c s₁ [] 0 0 := Stand.of_body Bd
  have e0 : s₁.heap = h0 := by rw [← hh, Bd.state]; rfl
  exact OwnOut.at (ef5 m b0) (w5_0 ⟨Bd.exec, hZ, hw, Bd.bytes, hml0, findClass_of_methodNamed Bd.named, Bd.returns, Bd.notSynchronized, (name_of_methodNamed Bd.named Bd.method).1, hsx⟩ _ b0 u0_modCount o hr X0 e0  E0 F0_modCount F0_elementData)
-- body 4 as 4: java/util/AbstractList.<init>:()V
theorem d4_0 : decode jdk_39_method_1_code 0 = .ok (.aload_n 0, 1) := by decide +kernel
theorem d4_1 : decode jdk_39_method_1_code 1 = .ok (.invokespecial 1, 3) := by decide +kernel
theorem d4_4 : decode jdk_39_method_1_code 4 = .ok (.aload_n 0, 1) := by decide +kernel
theorem d4_5 : decode jdk_39_method_1_code 5 = .ok (.iconst 0, 1) := by decide +kernel
theorem d4_6 : decode jdk_39_method_1_code 6 = .ok (.putfield 7, 3) := by decide +kernel
theorem d4_9 : decode jdk_39_method_1_code 9 = .ok (.return_, 1) := by decide +kernel
theorem pn4 : plainName "java/util/AbstractList" = true := by first | (simp [plainName, overriddenIn]; done) | decide +kernel
theorem pd4 : parseMethodDescriptor "()V" = some ⟨[], none⟩ := by decide +kernel
theorem ef4 (m : MethodId) (b0 : Addr) : entryFrame m #[(.ref b0)] 1 = mkF m 0 #[.val (.ref b0)] [] := by first | (simp [entryFrame, mkF, argsToLocals, Value.category]; done) | rfl
abbrev rx4 : Room := { frames := 2, cells := 0, slots := 0, locals := 24 }
abbrev Cx4 (Z : State) (a0 : Array Value) (p : Program) (s : State) (m : MethodId) (meth : Method) (c : Code) : Prop := p.tables.exec = Jvm.exec ∧ Z.Warmed39 s.vm ∧ (∀ d ∈ tables_1, d.before a0 Z = true) ∧ c.code = jdk_39_method_1_code ∧ c.maxLocals = 1 ∧ s.vm.findClass "java/util/AbstractList" = some m.cls ∧ meth.sig.returnType = none ∧ meth.locks = false ∧ meth.name = "<init>" ∧ SX Z
def Q4 (Z : State) (b0 : Addr) (u0_modCount : Int32) (h0 : Heap) (n0 : Nat) (o : Int32) (v : Option Value) (h : Heap) (L : List Loc) : Prop := v = none ∧ Fr n0 L ∧ Keep h0 h [b0] ∧ Fld Z h b0 "java/util/AbstractList" "modCount" "I" (.int o) ∧ Fld Z h b0 "java/util/ArrayList" "elementData" "[Ljava/lang/Object;" .null
def f4 (u0_modCount : Int32) : Option (Int32) := ((f5 u0_modCount).bind fun o1 => some ((0 : Int32)))
set_option maxRecDepth 65536 in
set_option maxHeartbeats 40000000 in
theorem w4_0 {p : Program} {l : Launch} {e : Env} {s : State} {m : MethodId} {args : Array Value} {below : List Frame} {meth : Method} {c : Code} {Z : State} {a0 : Array Value} {h0 : Heap} {n0 : Nat} (C : Cx4 Z a0 p s m meth c) :
    ∀ (T : State) (locs : List Loc) (hA : Heap) (b0 : Addr) (u0_modCount : Int32) (o : Int32), f4 u0_modCount = some o → Stand p l e rx4 s m args below meth c T locs 0 0 → T.heap = hA → Fr n0 locs → Old Z n0 hA → Keep h0 hA [b0] → (Exa Z hA b0 "java/util/ArrayList") → (Fld Z hA b0 "java/util/AbstractList" "modCount" "I" (.int u0_modCount)) → (Fld Z hA b0 "java/util/ArrayList" "elementData" "[Ljava/lang/Object;" .null) → (n0 ≤ b0) →  OwnOut p e s below 0 0 (Q4 Z b0 default h0 n0 o) (T.setTop (mkF m 0 #[.val (.ref b0)] [])) := by
    obtain ⟨hx, hZ, hw, hby, hml, hown, hret, hlk, hnm, hsx⟩ := C
    intro T locs hA b0 u0_modCount o hr X0 e0 N0 O0 K0 E0 F0_modCount F0_elementData g0
    rw [f4] at hr
    refine OwnOut.go (fun t k => XS.aloadN X0.here hx rfl (hb hby d4_0) rfl rfl k) ?_
    show OwnOut p e s below 0 0 _ (T.setTop (mkF m 1 #[.val (.ref b0)] [(.ref b0)]))
    obtain ⟨o1, ho1, hr⟩ := Option.bind_eq_some_iff.mp hr
    obtain ⟨r1, T1, L1, X1', hQ1, st1⟩ := callN (W := 0) (rm := rx5) X0 hx hZ rfl (y := (⟨"java/util/AbstractCollection", "<init>", "()V"⟩ : MethodName)) rfl hown (hw _ (List.mem_of_getElem? (i := 23) rfl)) (hw _ (List.mem_of_getElem? (i := 24) rfl)) (hw _ (List.mem_of_getElem? (i := 27) rfl)) (hw _ (List.mem_of_getElem? (i := 28) rfl)) (by decide) (rm5 l Z a0 hw hsx [] b0 u0_modCount hA o1 ho1 E0 F0_modCount F0_elementData) (by decide) (by decide) (by decide) (by decide) e0 (g := (mkF m 1 #[.val (.ref b0)] [(.ref b0)])) rfl (by rw [hml]; rfl) (argsL := []) (rest := []) (lenOf pd5 rfl) rfl (by show 2 * 0 + _ ≤ _; exact Nat.le_of_eq rfl) (hb hby d4_1)
    obtain ⟨rfl, e1, rfl⟩ := hQ1
    rw [List.append_nil] at X1'
    have X1 : Stand p l e rx4 s m args below meth c T1 _ 0 0 := X1'
    refine OwnOut.go (fun t k => st1 _ k) ?_
    show OwnOut p e s below 0 0 _ (T1.setTop (mkF m 4 #[.val (.ref b0)] []))
    refine OwnOut.go (fun t k => XS.aloadN X1.here hx rfl (hb hby d4_4) rfl rfl k) ?_
    show OwnOut p e s below 0 0 _ (T1.setTop (mkF m 5 #[.val (.ref b0)] [(.ref b0)]))
    refine OwnOut.go (fun t k => XT.iconstV X1.here hx rfl (0 : Int32) (hb hby d4_5) rfl k) ?_
    show OwnOut p e s below 0 0 _ (T1.setTop (mkF m 6 #[.val (.ref b0)] [(.int (0 : Int32)), (.ref b0)]))
    obtain ⟨T2, h2, X2, e2, W2, st2⟩ := putF X1 hx hZ hown (host := "") (Or.inl (hw _ (List.mem_of_getElem? (i := 30) rfl))) Via.refl e1 F0_modCount E0 (Or.inl (hw _ (List.mem_of_getElem? (i := 31) rfl))) (hw _ (List.mem_of_getElem? (i := 12) rfl)) (ty := .int) (by decide) rfl rfl (g := (mkF m 6 #[.val (.ref b0)] [(.int (0 : Int32)), (.ref b0)])) rfl rfl (hb hby d4_6)
    refine OwnOut.go (fun t k => st2 _ k) ?_
    have E0_2 := E0.wr W2
    have F0_modCount_2 := F0_modCount.same W2
    have F0_elementData_2 := F0_elementData.other W2 (Or.inr (slot_ne (Or.inl (hw _ (List.mem_of_getElem? (i := 34) rfl))) (Or.inl (hw _ (List.mem_of_getElem? (i := 31) rfl))) (by decide) (t := (.array (.object "java/lang/Object"))) (t' := .int) (by decide) (by decide)))
    have N_2 := Fr.snoc X2 N0 g0
    have O_2 := O0.wr W2 g0
    have K_2 := K0.wr W2 (Or.inl (List.mem_of_getElem? (i := 0) rfl))
    show OwnOut p e s below 0 0 _ (T2.setTop (mkF m 9 #[.val (.ref b0)] []))
    cases hr
    exact outV X2 hx hret (hb hby d4_9) hlk (by decide) (by decide) (by rw [e2]; exact ⟨rfl, N_2, K_2, F0_modCount_2, F0_elementData_2⟩)
set_option maxRecDepth 65536 in
set_option maxHeartbeats 40000000 in
theorem rm4 (l : Launch) (Z : State) (a0 : Array Value) (hw : ∀ d ∈ tables_1, d.before a0 Z = true) (hsx : SX Z) (ws : List Jvm.Cond) (b0 : Addr) (u0_modCount : Int32) (h0 : Heap) (n0 : Nat) (o : Int32) (hr : f4 u0_modCount = some o) (O0 : Old Z n0 h0) (E0 : Exa Z h0 b0 "java/util/ArrayList") (F0_modCount : Fld Z h0 b0 "java/util/AbstractList" "modCount" "I" (.int u0_modCount)) (F0_elementData : Fld Z h0 b0 "java/util/ArrayList" "elementData" "[Ljava/lang/Object;" .null) (g0 : n0 ≤ b0) :
    MetFree l (⟨"java/util/AbstractList", "<init>", "()V"⟩ : MethodName) (head1 (Jvm.Cond.code (⟨"java/util/AbstractList", "<init>", "()V"⟩ : MethodName) jdk_39_method_1_code 1 none :: ws) rx4) (fun a U => a = #[(.ref b0)] ∧ Z.Warmed39 U.vm ∧ U.heap = h0) (fun _ _ _ _ _ => True) (fun _ U o' U' => ∃ v L, o' = .returned v ∧ Q4 Z b0 u0_modCount h0 n0 o v U'.heap L ∧ FrameEnd U o' U' L rx4.cells rx4.slots) := by
  refine MetFree.of_bodySF (plainFor_of_name pn4) hisR ?_
  intro p e s m args below meth c s₁ Bd hml0 hP hK
  obtain ⟨rfl, hZ, hh⟩ := hP
  have X0 : Stand p l e rx4 s m #[(.ref b0)] below meth c s₁ [] 0 0 := Stand.of_body Bd
  have e0 : s₁.heap = h0 := by rw [← hh, Bd.state]; rfl
  exact OwnOut.at (ef4 m b0) (w4_0 ⟨Bd.exec, hZ, hw, Bd.bytes, hml0, findClass_of_methodNamed Bd.named, Bd.returns, Bd.notSynchronized, (name_of_methodNamed Bd.named Bd.method).1, hsx⟩ _ _ _ b0 u0_modCount o hr X0 e0 (Fr.nil n0) O0 (Keep.refl _ _) E0 F0_modCount F0_elementData g0)
-- body 3 as 3: java/util/ArrayList.<init>:()V
theorem d3_0 : decode jdk_38_method_2_code 0 = .ok (.aload_n 0, 1) := by decide +kernel
theorem d3_1 : decode jdk_38_method_2_code 1 = .ok (.invokespecial 1, 3) := by decide +kernel
theorem d3_4 : decode jdk_38_method_2_code 4 = .ok (.aload_n 0, 1) := by decide +kernel
theorem d3_5 : decode jdk_38_method_2_code 5 = .ok (.getstatic 39, 3) := by decide +kernel
theorem d3_8 : decode jdk_38_method_2_code 8 = .ok (.putfield 9, 3) := by decide +kernel
theorem d3_11 : decode jdk_38_method_2_code 11 = .ok (.return_, 1) := by decide +kernel
theorem pn3 : plainName "java/util/ArrayList" = true := by first | (simp [plainName, overriddenIn]; done) | decide +kernel
theorem pd3 : parseMethodDescriptor "()V" = some ⟨[], none⟩ := by decide +kernel
theorem ef3 (m : MethodId) (b0 : Addr) : entryFrame m #[(.ref b0)] 1 = mkF m 0 #[.val (.ref b0)] [] := by first | (simp [entryFrame, mkF, argsToLocals, Value.category]; done) | rfl
abbrev rx3 : Room := { frames := 3, cells := 0, slots := 0, locals := 36 }
abbrev Cx3 (Z : State) (a0 : Array Value) (p : Program) (s : State) (m : MethodId) (meth : Method) (c : Code) : Prop := p.tables.exec = Jvm.exec ∧ Z.Warmed39 s.vm ∧ (∀ d ∈ tables_1, d.before a0 Z = true) ∧ c.code = jdk_38_method_2_code ∧ c.maxLocals = 1 ∧ s.vm.findClass "java/util/ArrayList" = some m.cls ∧ meth.sig.returnType = none ∧ meth.locks = false ∧ meth.name = "<init>" ∧ SX Z
def Q3 (Z : State) (b0 : Addr) (u0_modCount : Int32) (h0 : Heap) (n0 : Nat) (o : Int32) (v : Option Value) (h : Heap) (L : List Loc) : Prop := v = none ∧ Fr n0 L ∧ Keep h0 h [b0] ∧ Fld Z h b0 "java/util/AbstractList" "modCount" "I" (.int o)
def f3 (u0_modCount : Int32) : Option (Int32) := ((f4 u0_modCount).bind fun o1 => some (o1))
set_option maxRecDepth 65536 in
set_option maxHeartbeats 40000000 in
theorem w3_0 {p : Program} {l : Launch} {e : Env} {s : State} {m : MethodId} {args : Array Value} {below : List Frame} {meth : Method} {c : Code} {Z : State} {a0 : Array Value} {h0 : Heap} {n0 : Nat} (C : Cx3 Z a0 p s m meth c) :
    ∀ (T : State) (locs : List Loc) (hA : Heap) (b0 : Addr) (u0_modCount : Int32) (o : Int32), f3 u0_modCount = some o → Stand p l e rx3 s m args below meth c T locs 0 0 → T.heap = hA → Fr n0 locs → Old Z n0 hA → Keep h0 hA [b0] → (Exa Z hA b0 "java/util/ArrayList") → (Fld Z hA b0 "java/util/AbstractList" "modCount" "I" (.int u0_modCount)) → (Fld Z hA b0 "java/util/ArrayList" "elementData" "[Ljava/lang/Object;" .null) → (n0 ≤ b0) →  OwnOut p e s below 0 0 (Q3 Z b0 default h0 n0 o) (T.setTop (mkF m 0 #[.val (.ref b0)] [])) := by
    obtain ⟨hx, hZ, hw, hby, hml, hown, hret, hlk, hnm, hsx⟩ := C
    intro T locs hA b0 u0_modCount o hr X0 e0 N0 O0 K0 E0 F0_modCount F0_elementData g0
    rw [f3] at hr
    refine OwnOut.go (fun t k => XS.aloadN X0.here hx rfl (hb hby d3_0) rfl rfl k) ?_
    show OwnOut p e s below 0 0 _ (T.setTop (mkF m 1 #[.val (.ref b0)] [(.ref b0)]))
    obtain ⟨o1, ho1, hr⟩ := Option.bind_eq_some_iff.mp hr
    obtain ⟨r1, T1, L1, X1', hQ1, st1⟩ := callN (W := 0) (rm := rx4) X0 hx hZ rfl (y := (⟨"java/util/AbstractList", "<init>", "()V"⟩ : MethodName)) rfl hown (hw _ (List.mem_of_getElem? (i := 17) rfl)) (hw _ (List.mem_of_getElem? (i := 18) rfl)) (hw _ (List.mem_of_getElem? (i := 21) rfl)) (hw _ (List.mem_of_getElem? (i := 22) rfl)) (by decide) (rm4 l Z a0 hw hsx [] b0 u0_modCount hA n0 o1 ho1 O0 E0 F0_modCount F0_elementData g0) (by decide) (by decide) (by decide) (by decide) e0 (g := (mkF m 1 #[.val (.ref b0)] [(.ref b0)])) rfl (by rw [hml]; rfl) (argsL := []) (rest := []) (lenOf pd4 rfl) rfl (by show 2 * 0 + _ ≤ _; exact Nat.le_of_eq rfl) (hb hby d3_1)
    obtain ⟨rfl, Nq1, Kq1, F0_modCount_1, F0_elementData_1⟩ := hQ1
    have X1 : Stand p l e rx3 s m args below meth c T1 _ 0 0 := X1'
    have E0_1 := E0.keep Kq1
    have N_1 := Fr.app N0 Nq1
    have O_1 := O0.keep Kq1 (allS g0 all0)
    have K_1 := K0.trans Kq1 (allS (Or.inl (List.mem_of_getElem? (i := 0) rfl)) all0)
    refine OwnOut.go (fun t k => st1 _ k) ?_
    show OwnOut p e s below 0 0 _ (T1.setTop (mkF m 4 #[.val (.ref b0)] []))
    refine OwnOut.go (fun t k => XS.aloadN X1.here hx rfl (hb hby d3_4) rfl rfl k) ?_
    show OwnOut p e s below 0 0 _ (T1.setTop (mkF m 5 #[.val (.ref b0)] [(.ref b0)]))
    obtain ⟨c2, S2⟩ := hsx
    obtain ⟨T2, X2, e2, st2⟩ := getS2 X1 hx hZ hown (host := "") (Or.inl (hw _ (List.mem_of_getElem? (i := 32) rfl))) Via.refl rfl (S2.ext O_1.2) (g := (mkF m 5 #[.val (.ref b0)] [(.ref b0)])) rfl (hb hby d3_5)
    refine OwnOut.go (fun t k => st2 _ k) ?_
    show OwnOut p e s below 0 0 _ (T2.setTop (mkF m 8 #[.val (.ref b0)] [(.ref c2), (.ref b0)]))
    obtain ⟨T3, h3, X3, e3, W3, st3⟩ := putF X2 hx hZ hown (host := "") (Or.inl (hw _ (List.mem_of_getElem? (i := 33) rfl))) Via.refl e2 F0_elementData_1 E0_1 (Or.inl (hw _ (List.mem_of_getElem? (i := 34) rfl))) (hw _ (List.mem_of_getElem? (i := 12) rfl)) (ty := (.array (.object "java/lang/Object"))) (by decide) rfl rfl (g := (mkF m 8 #[.val (.ref b0)] [(.ref c2), (.ref b0)])) rfl rfl (hb hby d3_8)
    refine OwnOut.go (fun t k => st3 _ k) ?_
    have E0_3 := E0_1.wr W3
    have F0_modCount_3 := F0_modCount_1.other W3 (Or.inr (slot_ne (Or.inl (hw _ (List.mem_of_getElem? (i := 31) rfl))) (Or.inl (hw _ (List.mem_of_getElem? (i := 34) rfl))) (by decide) (t := .int) (t' := (.array (.object "java/lang/Object"))) (by decide) (by decide)))
    have F0_elementData_3 := F0_elementData_1.same W3
    have N_3 := Fr.snoc X3 N_1 g0
    have O_3 := O_1.wr W3 g0
    have K_3 := K_1.wr W3 (Or.inl (List.mem_of_getElem? (i := 0) rfl))
    show OwnOut p e s below 0 0 _ (T3.setTop (mkF m 11 #[.val (.ref b0)] []))
    cases hr
    exact outV X3 hx hret (hb hby d3_11) hlk (by decide) (by decide) (by rw [e3]; exact ⟨rfl, N_3, K_3, F0_modCount_3⟩)
set_option maxRecDepth 65536 in
set_option maxHeartbeats 40000000 in
theorem rm3 (l : Launch) (Z : State) (a0 : Array Value) (hw : ∀ d ∈ tables_1, d.before a0 Z = true) (hsx : SX Z) (ws : List Jvm.Cond) (b0 : Addr) (u0_modCount : Int32) (h0 : Heap) (n0 : Nat) (o : Int32) (hr : f3 u0_modCount = some o) (O0 : Old Z n0 h0) (E0 : Exa Z h0 b0 "java/util/ArrayList") (F0_modCount : Fld Z h0 b0 "java/util/AbstractList" "modCount" "I" (.int u0_modCount)) (F0_elementData : Fld Z h0 b0 "java/util/ArrayList" "elementData" "[Ljava/lang/Object;" .null) (g0 : n0 ≤ b0) :
    MetFree l (⟨"java/util/ArrayList", "<init>", "()V"⟩ : MethodName) (head1 (Jvm.Cond.code (⟨"java/util/ArrayList", "<init>", "()V"⟩ : MethodName) jdk_38_method_2_code 1 none :: ws) rx3) (fun a U => a = #[(.ref b0)] ∧ Z.Warmed39 U.vm ∧ U.heap = h0) (fun _ _ _ _ _ => True) (fun _ U o' U' => ∃ v L, o' = .returned v ∧ Q3 Z b0 u0_modCount h0 n0 o v U'.heap L ∧ FrameEnd U o' U' L rx3.cells rx3.slots) := by
  refine MetFree.of_bodySF (plainFor_of_name pn3) hisR ?_
  intro p e s m args below meth c s₁ Bd hml0 hP hK
  obtain ⟨rfl, hZ, hh⟩ := hP
  have X0 : Stand p l e rx3 s m #[(.ref b0)] below meth c s₁ [] 0 0 := Stand.of_body Bd
  have e0 : s₁.heap = h0 := by rw [← hh, Bd.state]; rfl
  exact OwnOut.at (ef3 m b0) (w3_0 ⟨Bd.exec, hZ, hw, Bd.bytes, hml0, findClass_of_methodNamed Bd.named, Bd.returns, Bd.notSynchronized, (name_of_methodNamed Bd.named Bd.method).1, hsx⟩ _ _ _ b0 u0_modCount o hr X0 e0 (Fr.nil n0) O0 (Keep.refl _ _) E0 F0_modCount F0_elementData g0)
-- body 6 as 6: com/example/tagwire/tagwire/codec/OpenContainers.<init>:(I)V
theorem d6_0 : decode prog_25_method_1_code 0 = .ok (.aload_n 0, 1) := by decide +kernel
theorem d6_1 : decode prog_25_method_1_code 1 = .ok (.invokespecial 1, 3) := by decide +kernel
theorem d6_4 : decode prog_25_method_1_code 4 = .ok (.aload_n 0, 1) := by decide +kernel
theorem d6_5 : decode prog_25_method_1_code 5 = .ok (.bipush 16, 2) := by decide +kernel
theorem d6_7 : decode prog_25_method_1_code 7 = .ok (.newarray .int, 2) := by decide +kernel
theorem d6_9 : decode prog_25_method_1_code 9 = .ok (.putfield 7, 3) := by decide +kernel
theorem d6_12 : decode prog_25_method_1_code 12 = .ok (.aload_n 0, 1) := by decide +kernel
theorem d6_13 : decode prog_25_method_1_code 13 = .ok (.bipush 16, 2) := by decide +kernel
theorem d6_15 : decode prog_25_method_1_code 15 = .ok (.newarray .int, 2) := by decide +kernel
theorem d6_17 : decode prog_25_method_1_code 17 = .ok (.putfield 13, 3) := by decide +kernel
theorem d6_20 : decode prog_25_method_1_code 20 = .ok (.iload_n 1, 1) := by decide +kernel
theorem d6_21 : decode prog_25_method_1_code 21 = .ok (.iconst 1, 1) := by decide +kernel
theorem d6_22 : decode prog_25_method_1_code 22 = .ok (.if_icmp .ge 17, 3) := by decide +kernel
theorem d6_39 : decode prog_25_method_1_code 39 = .ok (.aload_n 0, 1) := by decide +kernel
theorem d6_40 : decode prog_25_method_1_code 40 = .ok (.iload_n 1, 1) := by decide +kernel
theorem d6_41 : decode prog_25_method_1_code 41 = .ok (.putfield 25, 3) := by decide +kernel
theorem d6_44 : decode prog_25_method_1_code 44 = .ok (.return_, 1) := by decide +kernel
theorem pn6 : plainName "com/example/tagwire/tagwire/codec/OpenContainers" = true := by first | (simp [plainName, overriddenIn]; done) | decide +kernel
theorem pd6 : parseMethodDescriptor "(I)V" = some ⟨[.int], none⟩ := by decide +kernel
theorem ef6 (m : MethodId) (b0 : Addr) (x1 : Int32) : entryFrame m #[(.ref b0), (.int x1)] 2 = mkF m 0 #[.val (.ref b0), .val (.int x1)] [] := by first | (simp [entryFrame, mkF, argsToLocals, Value.category]; done) | rfl
abbrev rx6 : Room := { frames := 1, cells := 2, slots := 32, locals := 12 }
abbrev Cx6 (Z : State) (a0 : Array Value) (p : Program) (s : State) (m : MethodId) (meth : Method) (c : Code) : Prop := p.tables.exec = Jvm.exec ∧ Z.Warmed39 s.vm ∧ (∀ d ∈ tables_1, d.before a0 Z = true) ∧ c.code = prog_25_method_1_code ∧ c.maxLocals = 2 ∧ s.vm.findClass "com/example/tagwire/tagwire/codec/OpenContainers" = some m.cls ∧ meth.sig.returnType = none ∧ meth.locks = false ∧ meth.name = "<init>" ∧ SX Z
def Q6 (Z : State) (x1 : Int32) (b0 : Addr) (u0_maxDepth : Int32) (h0 : Heap) (n0 : Nat) (o : Int32 × List Int32 × List Int32) (v : Option Value) (h : Heap) (L : List Loc) : Prop := ∃ c0 c1 : Addr, v = none ∧ Fr n0 L ∧ Keep h0 h [b0] ∧ Fld Z h b0 "com/example/tagwire/tagwire/codec/OpenContainers" "starts" "[I" (.ref c0) ∧ Fld Z h b0 "com/example/tagwire/tagwire/codec/OpenContainers" "remainings" "[I" (.ref c1) ∧ Fld Z h b0 "com/example/tagwire/tagwire/codec/OpenContainers" "maxDepth" "I" (.int o.1) ∧ h0.size ≤ c0 ∧ n0 ≤ c0 ∧ Ari Z h c0 .int o.2.1 ∧ h0.size ≤ c1 ∧ n0 ≤ c1 ∧ Ari Z h c1 .int o.2.2 ∧ c0 ≠ c1
def f6 (x1 : Int32) (u0_maxDepth : Int32) : Option (Int32 × List Int32 × List Int32) := (if x1 < (1 : Int32) then none else some (x1, [(0 : Int32), (0 : Int32), (0 : Int32), (0 : Int32), (0 : Int32), (0 : Int32), (0 : Int32), (0 : Int32), (0 : Int32), (0 : Int32), (0 : Int32), (0 : Int32), (0 : Int32), (0 : Int32), (0 : Int32), (0 : Int32)], [(0 : Int32), (0 : Int32), (0 : Int32), (0 : Int32), (0 : Int32), (0 : Int32), (0 : Int32), (0 : Int32), (0 : Int32), (0 : Int32), (0 : Int32), (0 : Int32), (0 : Int32), (0 : Int32), (0 : Int32), (0 : Int32)]))
set_option maxRecDepth 65536 in
set_option maxHeartbeats 40000000 in
theorem w6_0 {p : Program} {l : Launch} {e : Env} {s : State} {m : MethodId} {args : Array Value} {below : List Frame} {meth : Method} {c : Code} {Z : State} {a0 : Array Value} {h0 : Heap} {n0 : Nat} (C : Cx6 Z a0 p s m meth c) :
    ∀ (T : State) (locs : List Loc) (hA : Heap) (x1 : Int32) (b0 : Addr) (u0_maxDepth : Int32) (o : Int32 × List Int32 × List Int32), f6 x1 u0_maxDepth = some o → Stand p l e rx6 s m args below meth c T locs 0 0 → T.heap = hA → Fr n0 locs → Old Z n0 hA → Keep h0 hA [b0] → (Exa Z hA b0 "com/example/tagwire/tagwire/codec/OpenContainers") → (Fld Z hA b0 "com/example/tagwire/tagwire/codec/OpenContainers" "starts" "[I" .null) → (Fld Z hA b0 "com/example/tagwire/tagwire/codec/OpenContainers" "remainings" "[I" .null) → (Fld Z hA b0 "com/example/tagwire/tagwire/codec/OpenContainers" "maxDepth" "I" (.int u0_maxDepth)) → (n0 ≤ b0) →  OwnOut p e s below 2 32 (Q6 Z default b0 default h0 n0 o) (T.setTop (mkF m 0 #[.val (.ref b0), .val (.int x1)] [])) := by
    obtain ⟨hx, hZ, hw, hby, hml, hown, hret, hlk, hnm, hsx⟩ := C
    intro T locs hA x1 b0 u0_maxDepth o hr X0 e0 N0 O0 K0 E0 F0_starts F0_remainings F0_maxDepth g0
    rw [f6] at hr
    refine OwnOut.go (fun t k => XS.aloadN X0.here hx rfl (hb hby d6_0) rfl rfl k) ?_
    show OwnOut p e s below 2 32 _ (T.setTop (mkF m 1 #[.val (.ref b0), .val (.int x1)] [(.ref b0)]))
    obtain ⟨T1, X1, e1, st1⟩ := initO X0 hx hZ hown (hw _ (List.mem_of_getElem? (i := 45) rfl)) (hw _ (List.mem_of_getElem? (i := 9) rfl)) (hw _ (List.mem_of_getElem? (i := 10) rfl)) e0 (g := (mkF m 1 #[.val (.ref b0), .val (.int x1)] [(.ref b0)])) rfl (by rw [hml]; rfl) rfl (hb hby d6_1) (by decide) (W := 0) (by show 2 * 0 + _ ≤ _; exact Nat.le_of_eq rfl) (by decide)
    refine OwnOut.go (fun t k => st1 _ k) ?_
    show OwnOut p e s below 2 32 _ (T1.setTop (mkF m 4 #[.val (.ref b0), .val (.int x1)] []))
    refine OwnOut.go (fun t k => XS.aloadN X1.here hx rfl (hb hby d6_4) rfl rfl k) ?_
    show OwnOut p e s below 2 32 _ (T1.setTop (mkF m 5 #[.val (.ref b0), .val (.int x1)] [(.ref b0)]))
    refine OwnOut.go (fun t k => XT.bipushV X1.here hx rfl (16 : Int32) (hb hby d6_5) rfl k) ?_
    show OwnOut p e s below 2 32 _ (T1.setTop (mkF m 7 #[.val (.ref b0), .val (.int x1)] [(.int (16 : Int32)), (.ref b0)]))
    obtain ⟨T2, h2, X2, e2, Ex2, A_2, st2⟩ := nwA X1 hx hZ (hw _ (List.mem_of_getElem? (i := 46) rfl)) e1 (rfl : nwx (0 : Int32) 16 (16 : Int32) = some [(0 : Int32), (0 : Int32), (0 : Int32), (0 : Int32), (0 : Int32), (0 : Int32), (0 : Int32), (0 : Int32), (0 : Int32), (0 : Int32), (0 : Int32), (0 : Int32), (0 : Int32), (0 : Int32), (0 : Int32), (0 : Int32)]) (f := Value.int) rfl (g := (mkF m 7 #[.val (.ref b0), .val (.int x1)] [(.int (16 : Int32)), (.ref b0)])) rfl rfl (hb hby d6_7) (by decide) (by decide) (by decide)
    obtain ⟨c2, gc2⟩ : ∃ z, z = hA.size := ⟨_, rfl⟩
    rw [← gc2] at A_2 st2
    refine OwnOut.go (fun t k => st2 _ k) ?_
    have ne0_1_2 : b0 ≠ c2 := Nat.ne_of_lt (gc2 ▸ E0.lt)
    have E0_2 := E0.ext Ex2
    have F0_starts_2 := F0_starts.ext Ex2
    have F0_remainings_2 := F0_remainings.ext Ex2
    have F0_maxDepth_2 := F0_maxDepth.ext Ex2
    have g_2 : n0 ≤ c2 := gc2 ▸ (O0.1 ▸ O0.2.1)
    have z_2 : h0.size ≤ c2 := gc2 ▸ K0.1
    have O_2 := O0.ext Ex2
    have K_2 := K0.ext Ex2
    show OwnOut p e s below 2 32 _ (T2.setTop (mkF m 9 #[.val (.ref b0), .val (.int x1)] [(.ref c2), (.ref b0)]))
    obtain ⟨T3, h3, X3, e3, W3, st3⟩ := putF X2 hx hZ hown (host := "") (Or.inl (hw _ (List.mem_of_getElem? (i := 47) rfl))) Via.refl e2 F0_starts_2 E0_2 (Or.inl (hw _ (List.mem_of_getElem? (i := 48) rfl))) (hw _ (List.mem_of_getElem? (i := 40) rfl)) (ty := (.array .int)) (by decide) rfl rfl (g := (mkF m 9 #[.val (.ref b0), .val (.int x1)] [(.ref c2), (.ref b0)])) rfl rfl (hb hby d6_9)
    refine OwnOut.go (fun t k => st3 _ k) ?_
    have E0_3 := E0_2.wr W3
    have F0_starts_3 := F0_starts_2.same W3
    have F0_remainings_3 := F0_remainings_2.other W3 (Or.inr (slot_ne (Or.inl (hw _ (List.mem_of_getElem? (i := 50) rfl))) (Or.inl (hw _ (List.mem_of_getElem? (i := 48) rfl))) (by decide) (t := (.array .int)) (t' := (.array .int)) (by decide) (by decide)))
    have F0_maxDepth_3 := F0_maxDepth_2.other W3 (Or.inr (slot_ne (Or.inr (hw _ (List.mem_of_getElem? (i := 52) rfl))) (Or.inl (hw _ (List.mem_of_getElem? (i := 48) rfl))) (by decide) (t := .int) (t' := (.array .int)) (by decide) (by decide)))
    have A1_3 := A_2.other W3 (Ne.symm ne0_1_2)
    have N_3 := Fr.snoc X3 N0 g0
    have O_3 := O_2.wr W3 g0
    have K_3 := K_2.wr W3 (Or.inl (List.mem_of_getElem? (i := 0) rfl))
    show OwnOut p e s below 2 32 _ (T3.setTop (mkF m 12 #[.val (.ref b0), .val (.int x1)] []))
    refine OwnOut.go (fun t k => XS.aloadN X3.here hx rfl (hb hby d6_12) rfl rfl k) ?_
    show OwnOut p e s below 2 32 _ (T3.setTop (mkF m 13 #[.val (.ref b0), .val (.int x1)] [(.ref b0)]))
    refine OwnOut.go (fun t k => XT.bipushV X3.here hx rfl (16 : Int32) (hb hby d6_13) rfl k) ?_
    show OwnOut p e s below 2 32 _ (T3.setTop (mkF m 15 #[.val (.ref b0), .val (.int x1)] [(.int (16 : Int32)), (.ref b0)]))
    obtain ⟨T4, h4, X4, e4, Ex4, A_4, st4⟩ := nwA X3 hx hZ (hw _ (List.mem_of_getElem? (i := 46) rfl)) e3 (rfl : nwx (0 : Int32) 16 (16 : Int32) = some [(0 : Int32), (0 : Int32), (0 : Int32), (0 : Int32), (0 : Int32), (0 : Int32), (0 : Int32), (0 : Int32), (0 : Int32), (0 : Int32), (0 : Int32), (0 : Int32), (0 : Int32), (0 : Int32), (0 : Int32), (0 : Int32)]) (f := Value.int) rfl (g := (mkF m 15 #[.val (.ref b0), .val (.int x1)] [(.int (16 : Int32)), (.ref b0)])) rfl rfl (hb hby d6_15) (by decide) (by decide) (by decide)
    obtain ⟨c4, gc4⟩ : ∃ z, z = h3.size := ⟨_, rfl⟩
    rw [← gc4] at A_4 st4
    refine OwnOut.go (fun t k => st4 _ k) ?_
    have ne0_2_4 : b0 ≠ c4 := Nat.ne_of_lt (gc4 ▸ E0_3.lt)
    have ne1_2_4 : c2 ≠ c4 := Nat.ne_of_lt (gc4 ▸ A1_3.lt)
    have E0_4 := E0_3.ext Ex4
    have F0_starts_4 := F0_starts_3.ext Ex4
    have F0_remainings_4 := F0_remainings_3.ext Ex4
    have F0_maxDepth_4 := F0_maxDepth_3.ext Ex4
    have A1_4 := A1_3.ext Ex4
    have g_4 : n0 ≤ c4 := gc4 ▸ (O_3.1 ▸ O_3.2.1)
    have z_4 : h0.size ≤ c4 := gc4 ▸ K_3.1
    have O_4 := O_3.ext Ex4
    have K_4 := K_3.ext Ex4
    show OwnOut p e s below 2 32 _ (T4.setTop (mkF m 17 #[.val (.ref b0), .val (.int x1)] [(.ref c4), (.ref b0)]))
    obtain ⟨T5, h5, X5, e5, W5, st5⟩ := putF X4 hx hZ hown (host := "") (Or.inl (hw _ (List.mem_of_getElem? (i := 49) rfl))) Via.refl e4 F0_remainings_4 E0_4 (Or.inl (hw _ (List.mem_of_getElem? (i := 50) rfl))) (hw _ (List.mem_of_getElem? (i := 40) rfl)) (ty := (.array .int)) (by decide) rfl rfl (g := (mkF m 17 #[.val (.ref b0), .val (.int x1)] [(.ref c4), (.ref b0)])) rfl rfl (hb hby d6_17)
    refine OwnOut.go (fun t k => st5 _ k) ?_
    have E0_5 := E0_4.wr W5
    have F0_starts_5 := F0_starts_4.other W5 (Or.inr (slot_ne (Or.inl (hw _ (List.mem_of_getElem? (i := 48) rfl))) (Or.inl (hw _ (List.mem_of_getElem? (i := 50) rfl))) (by decide) (t := (.array .int)) (t' := (.array .int)) (by decide) (by decide)))
    have F0_remainings_5 := F0_remainings_4.same W5
    have F0_maxDepth_5 := F0_maxDepth_4.other W5 (Or.inr (slot_ne (Or.inr (hw _ (List.mem_of_getElem? (i := 52) rfl))) (Or.inl (hw _ (List.mem_of_getElem? (i := 50) rfl))) (by decide) (t := .int) (t' := (.array .int)) (by decide) (by decide)))
    have A1_5 := A1_4.other W5 (Ne.symm ne0_1_2)
    have A2_5 := A_4.other W5 (Ne.symm ne0_2_4)
    have N_5 := Fr.snoc X5 N_3 g0
    have O_5 := O_4.wr W5 g0
    have K_5 := K_4.wr W5 (Or.inl (List.mem_of_getElem? (i := 0) rfl))
    show OwnOut p e s below 2 32 _ (T5.setTop (mkF m 20 #[.val (.ref b0), .val (.int x1)] []))
    refine OwnOut.go (fun t k => XS.iloadN X5.here hx rfl (hb hby d6_20) rfl k) ?_
    show OwnOut p e s below 2 32 _ (T5.setTop (mkF m 21 #[.val (.ref b0), .val (.int x1)] [(.int x1)]))
    refine OwnOut.go (fun t k => XT.iconstV X5.here hx rfl (1 : Int32) (hb hby d6_21) rfl k) ?_
    show OwnOut p e s below 2 32 _ (T5.setTop (mkF m 22 #[.val (.ref b0), .val (.int x1)] [(.int (1 : Int32)), (.int x1)]))
    by_cases hc22 : x1 < (1 : Int32)
    · rw [if_pos hc22] at hr
      cases hr
    · rw [if_neg hc22] at hr
      refine OwnOut.go (fun t k => XS.icmpYes X5.here hx rfl (pc0 := 22) (pc' := 39) rfl (hb hby d6_22) rfl (XT.ii_ge_t hc22) (by decide) (by decide) k) ?_
      show OwnOut p e s below 2 32 _ (T5.setTop (mkF m 39 #[.val (.ref b0), .val (.int x1)] []))
      refine OwnOut.go (fun t k => XS.aloadN X5.here hx rfl (hb hby d6_39) rfl rfl k) ?_
      show OwnOut p e s below 2 32 _ (T5.setTop (mkF m 40 #[.val (.ref b0), .val (.int x1)] [(.ref b0)]))
      refine OwnOut.go (fun t k => XS.iloadN X5.here hx rfl (hb hby d6_40) rfl k) ?_
      show OwnOut p e s below 2 32 _ (T5.setTop (mkF m 41 #[.val (.ref b0), .val (.int x1)] [(.int x1), (.ref b0)]))
      obtain ⟨T6, h6, X6, e6, W6, st6⟩ := putF X5 hx hZ hown (host := "") (Or.inl (hw _ (List.mem_of_getElem? (i := 51) rfl))) Via.refl e5 F0_maxDepth_5 E0_5 (Or.inr ⟨(hw _ (List.mem_of_getElem? (i := 52) rfl)), rfl, hnm⟩) (hw _ (List.mem_of_getElem? (i := 40) rfl)) (ty := .int) (by decide) rfl rfl (g := (mkF m 41 #[.val (.ref b0), .val (.int x1)] [(.int x1), (.ref b0)])) rfl rfl (hb hby d6_41)
      refine OwnOut.go (fun t k => st6 _ k) ?_
      have E0_6 := E0_5.wr W6
      have F0_starts_6 := F0_starts_5.other W6 (Or.inr (slot_ne (Or.inl (hw _ (List.mem_of_getElem? (i := 48) rfl))) (Or.inr (hw _ (List.mem_of_getElem? (i := 52) rfl))) (by decide) (t := (.array .int)) (t' := .int) (by decide) (by decide)))
      have F0_remainings_6 := F0_remainings_5.other W6 (Or.inr (slot_ne (Or.inl (hw _ (List.mem_of_getElem? (i := 50) rfl))) (Or.inr (hw _ (List.mem_of_getElem? (i := 52) rfl))) (by decide) (t := (.array .int)) (t' := .int) (by decide) (by decide)))
      have F0_maxDepth_6 := F0_maxDepth_5.same W6
      have A1_6 := A1_5.other W6 (Ne.symm ne0_1_2)
      have A2_6 := A2_5.other W6 (Ne.symm ne0_2_4)
      have N_6 := Fr.snoc X6 N_5 g0
      have O_6 := O_5.wr W6 g0
      have K_6 := K_5.wr W6 (Or.inl (List.mem_of_getElem? (i := 0) rfl))
      show OwnOut p e s below 2 32 _ (T6.setTop (mkF m 44 #[.val (.ref b0), .val (.int x1)] []))
      cases hr
      exact outV X6 hx hret (hb hby d6_44) hlk (by decide) (by decide) (by rw [e6]; exact ⟨c2, c4, rfl, N_6, K_6, F0_starts_6, F0_remainings_6, F0_maxDepth_6, z_2, g_2, A1_6, z_4, g_4, A2_6, ne1_2_4⟩)
set_option maxRecDepth 65536 in
set_option maxHeartbeats 40000000 in
theorem rm6 (l : Launch) (Z : State) (a0 : Array Value) (hw : ∀ d ∈ tables_1, d.before a0 Z = true) (hsx : SX Z) (ws : List Jvm.Cond) (x1 : Int32) (b0 : Addr) (u0_maxDepth : Int32) (h0 : Heap) (n0 : Nat) (o : Int32 × List Int32 × List Int32) (hr : f6 x1 u0_maxDepth = some o) (O0 : Old Z n0 h0) (E0 : Exa Z h0 b0 "com/example/tagwire/tagwire/codec/OpenContainers") (F0_starts : Fld Z h0 b0 "com/example/tagwire/tagwire/codec/OpenContainers" "starts" "[I" .null) (F0_remainings : Fld Z h0 b0 "com/example/tagwire/tagwire/codec/OpenContainers" "remainings" "[I" .null) (F0_maxDepth : Fld Z h0 b0 "com/example/tagwire/tagwire/codec/OpenContainers" "maxDepth" "I" (.int u0_maxDepth)) (g0 : n0 ≤ b0) :
    MetFree l (⟨"com/example/tagwire/tagwire/codec/OpenContainers", "<init>", "(I)V"⟩ : MethodName) (head1 (Jvm.Cond.code (⟨"com/example/tagwire/tagwire/codec/OpenContainers", "<init>", "(I)V"⟩ : MethodName) prog_25_method_1_code 2 none :: ws) rx6) (fun a U => a = #[(.ref b0), (.int x1)] ∧ Z.Warmed39 U.vm ∧ U.heap = h0) (fun _ _ _ _ _ => True) (fun _ U o' U' => ∃ v L, o' = .returned v ∧ Q6 Z x1 b0 u0_maxDepth h0 n0 o v U'.heap L ∧ FrameEnd U o' U' L rx6.cells rx6.slots) := by
  refine MetFree.of_bodySF (plainFor_of_name pn6) hisR ?_
  intro p e s m args below meth c s₁ Bd hml0 hP hK
  obtain ⟨rfl, hZ, hh⟩ := hP
  have X0 : Stand p l e rx6 s m #[(.ref b0), (.int x1)] below meth c s₁ [] 0 0 := Stand.of_body Bd
  have e0 : s₁.heap = h0 := by rw [← hh, Bd.state]; rfl
  exact OwnOut.at (ef6 m b0 x1) (w6_0 ⟨Bd.exec, hZ, hw, Bd.bytes, hml0, findClass_of_methodNamed Bd.named, Bd.returns, Bd.notSynchronized, (name_of_methodNamed Bd.named Bd.method).1, hsx⟩ _ _ _ x1 b0 u0_maxDepth o hr X0 e0 (Fr.nil n0) O0 (Keep.refl _ _) E0 F0_starts F0_remainings F0_maxDepth g0)
-- body 1 as 1: com/example/tagwire/tagwire/hessian2/Hessian2Reader.<init>:([BI)V
theorem d1_0 : decode prog_31_method_1_code 0 = .ok (.aload_n 0, 1) := by decide +kernel
theorem d1_1 : decode prog_31_method_1_code 1 = .ok (.invokespecial 3, 3) := by decide +kernel
theorem d1_4 : decode prog_31_method_1_code 4 = .ok (.aload_n 0, 1) := by decide +kernel
theorem d1_5 : decode prog_31_method_1_code 5 = .ok (.new 9, 3) := by decide +kernel
theorem d1_8 : decode prog_31_method_1_code 8 = .ok (.dup, 1) := by decide +kernel
theorem d1_9 : decode prog_31_method_1_code 9 = .ok (.invokespecial 11, 3) := by decide +kernel
theorem d1_12 : decode prog_31_method_1_code 12 = .ok (.putfield 12, 3) := by decide +kernel
theorem d1_15 : decode prog_31_method_1_code 15 = .ok (.aload_n 0, 1) := by decide +kernel
theorem d1_16 : decode prog_31_method_1_code 16 = .ok (.new 9, 3) := by decide +kernel
theorem d1_19 : decode prog_31_method_1_code 19 = .ok (.dup, 1) := by decide +kernel
theorem d1_20 : decode prog_31_method_1_code 20 = .ok (.invokespecial 11, 3) := by decide +kernel
theorem d1_23 : decode prog_31_method_1_code 23 = .ok (.putfield 18, 3) := by decide +kernel
theorem d1_26 : decode prog_31_method_1_code 26 = .ok (.aload_n 0, 1) := by decide +kernel
theorem d1_27 : decode prog_31_method_1_code 27 = .ok (.new 21, 3) := by decide +kernel
theorem d1_30 : decode prog_31_method_1_code 30 = .ok (.dup, 1) := by decide +kernel
theorem d1_31 : decode prog_31_method_1_code 31 = .ok (.iload_n 2, 1) := by decide +kernel
theorem d1_32 : decode prog_31_method_1_code 32 = .ok (.invokespecial 23, 3) := by decide +kernel
theorem d1_35 : decode prog_31_method_1_code 35 = .ok (.putfield 26, 3) := by decide +kernel
theorem d1_38 : decode prog_31_method_1_code 38 = .ok (.aload_n 0, 1) := by decide +kernel
theorem d1_39 : decode prog_31_method_1_code 39 = .ok (.aload_n 1, 1) := by decide +kernel
theorem d1_40 : decode prog_31_method_1_code 40 = .ok (.putfield 30, 3) := by decide +kernel
theorem d1_43 : decode prog_31_method_1_code 43 = .ok (.return_, 1) := by decide +kernel
theorem pn1 : plainName "com/example/tagwire/tagwire/hessian2/Hessian2Reader" = true := by first | (simp [plainName, overriddenIn]; done) | decide +kernel
theorem pd1 : parseMethodDescriptor "([BI)V" = some ⟨[(.array .byte), .int], none⟩ := by decide +kernel
theorem ef1 (m : MethodId) (b0 : Addr) (b1 : Addr) (x2 : Int32) : entryFrame m #[(.ref b0), (.ref b1), (.int x2)] 3 = mkF m 0 #[.val (.ref b0), .val (.ref b1), .val (.int x2)] [] := by first | (simp [entryFrame, mkF, argsToLocals, Value.category]; done) | rfl
abbrev rx1 : Room := { frames := 4, cells := 5, slots := 42, locals := 50 }
abbrev Cx1 (Z : State) (a0 : Array Value) (p : Program) (s : State) (m : MethodId) (meth : Method) (c : Code) : Prop := p.tables.exec = Jvm.exec ∧ Z.Warmed39 s.vm ∧ (∀ d ∈ tables_1, d.before a0 Z = true) ∧ c.code = prog_31_method_1_code ∧ c.maxLocals = 3 ∧ s.vm.findClass "com/example/tagwire/tagwire/hessian2/Hessian2Reader" = some m.cls ∧ meth.sig.returnType = none ∧ meth.locks = false ∧ meth.name = "<init>" ∧ SX Z
def Q1 (Z : State) (x2 : Int32) (b0 : Addr) (u0_position : Int32) (b1 : Addr) (l1 : List Int32) (h0 : Heap) (n0 : Nat) (o : Int32 × Int32 × Int32 × List Int32 × List Int32) (v : Option Value) (h : Heap) (L : List Loc) : Prop := ∃ c0 c1 c2 c3 c4 : Addr, v = none ∧ Fr n0 L ∧ Keep h0 h [b0] ∧ Fld Z h b0 "com/example/tagwire/tagwire/hessian2/Hessian2Reader" "types" "Ljava/util/List;" (.ref c0) ∧ Fld Z h b0 "com/example/tagwire/tagwire/hessian2/Hessian2Reader" "classes" "Ljava/util/List;" (.ref c1) ∧ Fld Z h b0 "com/example/tagwire/tagwire/hessian2/Hessian2Reader" "open" "Lcom/example/tagwire/tagwire/codec/OpenContainers;" (.ref c2) ∧ Fld Z h b0 "com/example/tagwire/tagwire/hessian2/Hessian2Reader" "payload" "[B" (.ref b1) ∧ Fld Z h b0 "com/example/tagwire/tagwire/hessian2/Hessian2Reader" "position" "I" (.int u0_position) ∧ h0.size ≤ c0 ∧ n0 ≤ c0 ∧ Exa Z h c0 "java/util/ArrayList" ∧ Fld Z h c0 "java/util/AbstractList" "modCount" "I" (.int o.1) ∧ h0.size ≤ c1 ∧ n0 ≤ c1 ∧ Exa Z h c1 "java/util/ArrayList" ∧ Fld Z h c1 "java/util/AbstractList" "modCount" "I" (.int o.2.1) ∧ h0.size ≤ c2 ∧ n0 ≤ c2 ∧ Exa Z h c2 "com/example/tagwire/tagwire/codec/OpenContainers" ∧ Fld Z h c2 "com/example/tagwire/tagwire/codec/OpenContainers" "starts" "[I" (.ref c3) ∧ Fld Z h c2 "com/example/tagwire/tagwire/codec/OpenContainers" "remainings" "[I" (.ref c4) ∧ Fld Z h c2 "com/example/tagwire/tagwire/codec/OpenContainers" "maxDepth" "I" (.int o.2.2.1) ∧ h0.size ≤ c3 ∧ n0 ≤ c3 ∧ Ari Z h c3 .int o.2.2.2.1 ∧ h0.size ≤ c4 ∧ n0 ≤ c4 ∧ Ari Z h c4 .int o.2.2.2.2 ∧ c0 ≠ c1 ∧ c0 ≠ c2 ∧ c1 ≠ c2 ∧ c0 ≠ c3 ∧ c1 ≠ c3 ∧ c2 ≠ c3 ∧ c0 ≠ c4 ∧ c1 ≠ c4 ∧ c2 ≠ c4 ∧ c3 ≠ c4
def f1 (x2 : Int32) (u0_position : Int32) (l1 : List Int32) : Option (Int32 × Int32 × Int32 × List Int32 × List Int32) := ((f3 (0 : Int32)).bind fun o3 => ((f3 (0 : Int32)).bind fun o6 => ((f6 x2 (0 : Int32)).bind fun o9 => some (o3, o6, o9.1, o9.2.1, o9.2.2))))
set_option maxRecDepth 65536 in
set_option maxHeartbeats 40000000 in
theorem w1_0 {p : Program} {l : Launch} {e : Env} {s : State} {m : MethodId} {args : Array Value} {below : List Frame} {meth : Method} {c : Code} {Z : State} {a0 : Array Value} {h0 : Heap} {n0 : Nat} (C : Cx1 Z a0 p s m meth c) :
    ∀ (T : State) (locs : List Loc) (hA : Heap) (x2 : Int32) (b0 : Addr) (u0_position : Int32) (b1 : Addr) (l1 : List Int32) (o : Int32 × Int32 × Int32 × List Int32 × List Int32), f1 x2 u0_position l1 = some o → Stand p l e rx1 s m args below meth c T locs 0 0 → T.heap = hA → Fr n0 locs → Old Z n0 hA → Keep h0 hA [b0] → (Exa Z hA b0 "com/example/tagwire/tagwire/hessian2/Hessian2Reader") → (Fld Z hA b0 "com/example/tagwire/tagwire/hessian2/Hessian2Reader" "types" "Ljava/util/List;" .null) → (Fld Z hA b0 "com/example/tagwire/tagwire/hessian2/Hessian2Reader" "classes" "Ljava/util/List;" .null) → (Fld Z hA b0 "com/example/tagwire/tagwire/hessian2/Hessian2Reader" "open" "Lcom/example/tagwire/tagwire/codec/OpenContainers;" .null) → (Fld Z hA b0 "com/example/tagwire/tagwire/hessian2/Hessian2Reader" "payload" "[B" .null) → (Fld Z hA b0 "com/example/tagwire/tagwire/hessian2/Hessian2Reader" "position" "I" (.int u0_position)) → (Ari Z hA b1 .byte l1) → (n0 ≤ b0) → (n0 ≤ b1) → (b0 ≠ b1) →  OwnOut p e s below 5 42 (Q1 Z default b0 u0_position b1 l1 h0 n0 o) (T.setTop (mkF m 0 #[.val (.ref b0), .val (.ref b1), .val (.int x2)] [])) := by
    obtain ⟨hx, hZ, hw, hby, hml, hown, hret, hlk, hnm, hsx⟩ := C
    intro T locs hA x2 b0 u0_position b1 l1 o hr X0 e0 N0 O0 K0 E0 F0_types F0_classes F0_open F0_payload F0_position A1 g0 g1 ne0_1
    rw [f1] at hr
    refine OwnOut.go (fun t k => XS.aloadN X0.here hx rfl (hb hby d1_0) rfl rfl k) ?_
    show OwnOut p e s below 5 42 _ (T.setTop (mkF m 1 #[.val (.ref b0), .val (.ref b1), .val (.int x2)] [(.ref b0)]))
    obtain ⟨T1, X1, e1, st1⟩ := initO X0 hx hZ hown (hw _ (List.mem_of_getElem? (i := 8) rfl)) (hw _ (List.mem_of_getElem? (i := 9) rfl)) (hw _ (List.mem_of_getElem? (i := 10) rfl)) e0 (g := (mkF m 1 #[.val (.ref b0), .val (.ref b1), .val (.int x2)] [(.ref b0)])) rfl (by rw [hml]; rfl) rfl (hb hby d1_1) (by decide) (W := 0) (by show 2 * 0 + _ ≤ _; exact Nat.le_of_eq rfl) (by decide)
    refine OwnOut.go (fun t k => st1 _ k) ?_
    show OwnOut p e s below 5 42 _ (T1.setTop (mkF m 4 #[.val (.ref b0), .val (.ref b1), .val (.int x2)] []))
    refine OwnOut.go (fun t k => XS.aloadN X1.here hx rfl (hb hby d1_4) rfl rfl k) ?_
    show OwnOut p e s below 5 42 _ (T1.setTop (mkF m 5 #[.val (.ref b0), .val (.ref b1), .val (.int x2)] [(.ref b0)]))
    obtain ⟨T2, h2, X2, e2, Ex2, E_2, Df2, -, st2⟩ := newO X1 hx hZ hown (hw _ (List.mem_of_getElem? (i := 11) rfl)) (hw _ (List.mem_of_getElem? (i := 12) rfl)) (hw _ (List.mem_of_getElem? (i := 13) rfl)) e1 (g := (mkF m 5 #[.val (.ref b0), .val (.ref b1), .val (.int x2)] [(.ref b0)])) rfl (hb hby d1_5) (by decide) (by decide)
    obtain ⟨c2, gc2⟩ : ∃ z, z = hA.size := ⟨_, rfl⟩
    rw [← gc2] at E_2 st2
    have F_modCount_2 : Fld Z h2 c2 "java/util/AbstractList" "modCount" "I" (.int (0 : Int32)) := by rw [gc2]; exact Df2 (Or.inl (hw _ (List.mem_of_getElem? (i := 31) rfl))) (ty := .int) (by decide)
    have F_elementData_2 : Fld Z h2 c2 "java/util/ArrayList" "elementData" "[Ljava/lang/Object;" .null := by rw [gc2]; exact Df2 (Or.inl (hw _ (List.mem_of_getElem? (i := 34) rfl))) (ty := (.array (.object "java/lang/Object"))) (by decide)
    refine OwnOut.go (fun t k => st2 _ k) ?_
    have ne0_2_2 : b0 ≠ c2 := Nat.ne_of_lt (gc2 ▸ E0.lt)
    have ne1_2_2 : b1 ≠ c2 := Nat.ne_of_lt (gc2 ▸ A1.lt)
    have E0_2 := E0.ext Ex2
    have F0_types_2 := F0_types.ext Ex2
    have F0_classes_2 := F0_classes.ext Ex2
    have F0_open_2 := F0_open.ext Ex2
    have F0_payload_2 := F0_payload.ext Ex2
    have F0_position_2 := F0_position.ext Ex2
    have A1_2 := A1.ext Ex2
    have g_2 : n0 ≤ c2 := gc2 ▸ (O0.1 ▸ O0.2.1)
    have z_2 : h0.size ≤ c2 := gc2 ▸ K0.1
    have O_2 := O0.ext Ex2
    have K_2 := K0.ext Ex2
    show OwnOut p e s below 5 42 _ (T2.setTop (mkF m 8 #[.val (.ref b0), .val (.ref b1), .val (.int x2)] [(.ref c2), (.ref b0)]))
    refine OwnOut.go (fun t k => XS.dup X2.here hx rfl (hb hby d1_8) rfl rfl k) ?_
    show OwnOut p e s below 5 42 _ (T2.setTop (mkF m 9 #[.val (.ref b0), .val (.ref b1), .val (.int x2)] [(.ref c2), (.ref c2), (.ref b0)]))
    obtain ⟨o3, ho3, hr⟩ := Option.bind_eq_some_iff.mp hr
    obtain ⟨r3, T3, L3, X3', hQ3, st3⟩ := callN (W := 2) (rm := rx3) X2 hx hZ rfl (y := (⟨"java/util/ArrayList", "<init>", "()V"⟩ : MethodName)) rfl hown (hw _ (List.mem_of_getElem? (i := 14) rfl)) (hw _ (List.mem_of_getElem? (i := 15) rfl)) (hw _ (List.mem_of_getElem? (i := 13) rfl)) (hw _ (List.mem_of_getElem? (i := 16) rfl)) (by decide) (rm3 l Z a0 hw hsx [] c2 (0 : Int32) h2 n0 o3 ho3 O_2 E_2 F_modCount_2 F_elementData_2 g_2) (by decide) (by decide) (by decide) (by decide) e2 (g := (mkF m 9 #[.val (.ref b0), .val (.ref b1), .val (.int x2)] [(.ref c2), (.ref c2), (.ref b0)])) rfl (by rw [hml]; rfl) (argsL := []) (rest := [(.ref c2), (.ref b0)]) (lenOf pd3 rfl) rfl (by show 2 * 0 + _ ≤ _; exact Nat.le_of_eq rfl) (hb hby d1_9)
    obtain ⟨rfl, Nq3, Kq3, F2_modCount_3⟩ := hQ3
    have X3 : Stand p l e rx1 s m args below meth c T3 _ 1 3 := X3'
    have E0_3 := E0_2.keep Kq3
    have F0_types_3 := F0_types_2.keep Kq3 (ninS ne0_2_2 nin0)
    have F0_classes_3 := F0_classes_2.keep Kq3 (ninS ne0_2_2 nin0)
    have F0_open_3 := F0_open_2.keep Kq3 (ninS ne0_2_2 nin0)
    have F0_payload_3 := F0_payload_2.keep Kq3 (ninS ne0_2_2 nin0)
    have F0_position_3 := F0_position_2.keep Kq3 (ninS ne0_2_2 nin0)
    have A1_3 := A1_2.keep Kq3 (ninS ne1_2_2 nin0)
    have E2_3 := E_2.keep Kq3
    have N_3 := Fr.app N0 Nq3
    have O_3 := O_2.keep Kq3 (allS g_2 all0)
    have K_3 := K_2.trans Kq3 (allS (Or.inr z_2) all0)
    refine OwnOut.go (fun t k => st3 _ k) ?_
    show OwnOut p e s below 5 42 _ (T3.setTop (mkF m 12 #[.val (.ref b0), .val (.ref b1), .val (.int x2)] [(.ref c2), (.ref b0)]))
    obtain ⟨T4, h4, X4, e4, W4, st4⟩ := putF X3 hx hZ hown (host := "") (Or.inl (hw _ (List.mem_of_getElem? (i := 35) rfl))) Via.refl rfl F0_types_3 E0_3 (Or.inr ⟨(hw _ (List.mem_of_getElem? (i := 36) rfl)), rfl, hnm⟩) (hw _ (List.mem_of_getElem? (i := 2) rfl)) (ty := (.object "java/util/List")) (by decide) rfl rfl (g := (mkF m 12 #[.val (.ref b0), .val (.ref b1), .val (.int x2)] [(.ref c2), (.ref b0)])) rfl rfl (hb hby d1_12)
    refine OwnOut.go (fun t k => st4 _ k) ?_
    have E0_4 := E0_3.wr W4
    have F0_types_4 := F0_types_3.same W4
    have F0_classes_4 := F0_classes_3.other W4 (Or.inr (slot_ne (Or.inr (hw _ (List.mem_of_getElem? (i := 38) rfl))) (Or.inr (hw _ (List.mem_of_getElem? (i := 36) rfl))) (by decide) (t := (.object "java/util/List")) (t' := (.object "java/util/List")) (by decide) (by decide)))
    have F0_open_4 := F0_open_3.other W4 (Or.inr (slot_ne (Or.inr (hw _ (List.mem_of_getElem? (i := 54) rfl))) (Or.inr (hw _ (List.mem_of_getElem? (i := 36) rfl))) (by decide) (t := (.object "com/example/tagwire/tagwire/codec/OpenContainers")) (t' := (.object "java/util/List")) (by decide) (by decide)))
    have F0_payload_4 := F0_payload_3.other W4 (Or.inr (slot_ne (Or.inr (hw _ (List.mem_of_getElem? (i := 56) rfl))) (Or.inr (hw _ (List.mem_of_getElem? (i := 36) rfl))) (by decide) (t := (.array .byte)) (t' := (.object "java/util/List")) (by decide) (by decide)))
    have F0_position_4 := F0_position_3.other W4 (Or.inr (slot_ne (Or.inl (hw _ (List.mem_of_getElem? (i := 63) rfl))) (Or.inr (hw _ (List.mem_of_getElem? (i := 36) rfl))) (by decide) (t := .int) (t' := (.object "java/util/List")) (by decide) (by decide)))
    have A1_4 := A1_3.other W4 (Ne.symm ne0_1)
    have E2_4 := E2_3.wr W4
    have F2_modCount_4 := F2_modCount_3.other W4 (Or.inl (Ne.symm ne0_2_2))
    have N_4 := Fr.snoc X4 N_3 g0
    have O_4 := O_3.wr W4 g0
    have K_4 := K_3.wr W4 (Or.inl (List.mem_of_getElem? (i := 0) rfl))
    show OwnOut p e s below 5 42 _ (T4.setTop (mkF m 15 #[.val (.ref b0), .val (.ref b1), .val (.int x2)] []))
    refine OwnOut.go (fun t k => XS.aloadN X4.here hx rfl (hb hby d1_15) rfl rfl k) ?_
    show OwnOut p e s below 5 42 _ (T4.setTop (mkF m 16 #[.val (.ref b0), .val (.ref b1), .val (.int x2)] [(.ref b0)]))
    obtain ⟨T5, h5, X5, e5, Ex5, E_5, Df5, -, st5⟩ := newO X4 hx hZ hown (hw _ (List.mem_of_getElem? (i := 11) rfl)) (hw _ (List.mem_of_getElem? (i := 12) rfl)) (hw _ (List.mem_of_getElem? (i := 13) rfl)) e4 (g := (mkF m 16 #[.val (.ref b0), .val (.ref b1), .val (.int x2)] [(.ref b0)])) rfl (hb hby d1_16) (by decide) (by decide)
    obtain ⟨c5, gc5⟩ : ∃ z, z = h4.size := ⟨_, rfl⟩
    rw [← gc5] at E_5 st5
    have F_modCount_5 : Fld Z h5 c5 "java/util/AbstractList" "modCount" "I" (.int (0 : Int32)) := by rw [gc5]; exact Df5 (Or.inl (hw _ (List.mem_of_getElem? (i := 31) rfl))) (ty := .int) (by decide)
    have F_elementData_5 : Fld Z h5 c5 "java/util/ArrayList" "elementData" "[Ljava/lang/Object;" .null := by rw [gc5]; exact Df5 (Or.inl (hw _ (List.mem_of_getElem? (i := 34) rfl))) (ty := (.array (.object "java/lang/Object"))) (by decide)
    refine OwnOut.go (fun t k => st5 _ k) ?_
    have ne0_3_5 : b0 ≠ c5 := Nat.ne_of_lt (gc5 ▸ E0_4.lt)
    have ne1_3_5 : b1 ≠ c5 := Nat.ne_of_lt (gc5 ▸ A1_4.lt)
    have ne2_3_5 : c2 ≠ c5 := Nat.ne_of_lt (gc5 ▸ E2_4.lt)
    have E0_5 := E0_4.ext Ex5
    have F0_types_5 := F0_types_4.ext Ex5
    have F0_classes_5 := F0_classes_4.ext Ex5
    have F0_open_5 := F0_open_4.ext Ex5
    have F0_payload_5 := F0_payload_4.ext Ex5
    have F0_position_5 := F0_position_4.ext Ex5
    have A1_5 := A1_4.ext Ex5
    have E2_5 := E2_4.ext Ex5
    have F2_modCount_5 := F2_modCount_4.ext Ex5
    have g_5 : n0 ≤ c5 := gc5 ▸ (O_4.1 ▸ O_4.2.1)
    have z_5 : h0.size ≤ c5 := gc5 ▸ K_4.1
    have O_5 := O_4.ext Ex5
    have K_5 := K_4.ext Ex5
    show OwnOut p e s below 5 42 _ (T5.setTop (mkF m 19 #[.val (.ref b0), .val (.ref b1), .val (.int x2)] [(.ref c5), (.ref b0)]))
    refine OwnOut.go (fun t k => XS.dup X5.here hx rfl (hb hby d1_19) rfl rfl k) ?_
    show OwnOut p e s below 5 42 _ (T5.setTop (mkF m 20 #[.val (.ref b0), .val (.ref b1), .val (.int x2)] [(.ref c5), (.ref c5), (.ref b0)]))
    obtain ⟨o6, ho6, hr⟩ := Option.bind_eq_some_iff.mp hr
    obtain ⟨r6, T6, L6, X6', hQ6, st6⟩ := callN (W := 2) (rm := rx3) X5 hx hZ rfl (y := (⟨"java/util/ArrayList", "<init>", "()V"⟩ : MethodName)) rfl hown (hw _ (List.mem_of_getElem? (i := 14) rfl)) (hw _ (List.mem_of_getElem? (i := 15) rfl)) (hw _ (List.mem_of_getElem? (i := 13) rfl)) (hw _ (List.mem_of_getElem? (i := 16) rfl)) (by decide) (rm3 l Z a0 hw hsx [] c5 (0 : Int32) h5 n0 o6 ho6 O_5 E_5 F_modCount_5 F_elementData_5 g_5) (by decide) (by decide) (by decide) (by decide) e5 (g := (mkF m 20 #[.val (.ref b0), .val (.ref b1), .val (.int x2)] [(.ref c5), (.ref c5), (.ref b0)])) rfl (by rw [hml]; rfl) (argsL := []) (rest := [(.ref c5), (.ref b0)]) (lenOf pd3 rfl) rfl (by show 2 * 0 + _ ≤ _; exact Nat.le_of_eq rfl) (hb hby d1_20)
    obtain ⟨rfl, Nq6, Kq6, F3_modCount_6⟩ := hQ6
    have X6 : Stand p l e rx1 s m args below meth c T6 _ 2 6 := X6'
    have E0_6 := E0_5.keep Kq6
    have F0_types_6 := F0_types_5.keep Kq6 (ninS ne0_3_5 nin0)
    have F0_classes_6 := F0_classes_5.keep Kq6 (ninS ne0_3_5 nin0)
    have F0_open_6 := F0_open_5.keep Kq6 (ninS ne0_3_5 nin0)
    have F0_payload_6 := F0_payload_5.keep Kq6 (ninS ne0_3_5 nin0)
    have F0_position_6 := F0_position_5.keep Kq6 (ninS ne0_3_5 nin0)
    have A1_6 := A1_5.keep Kq6 (ninS ne1_3_5 nin0)
    have E2_6 := E2_5.keep Kq6
    have F2_modCount_6 := F2_modCount_5.keep Kq6 (ninS ne2_3_5 nin0)
    have E3_6 := E_5.keep Kq6
    have N_6 := Fr.app N_4 Nq6
    have O_6 := O_5.keep Kq6 (allS g_5 all0)
    have K_6 := K_5.trans Kq6 (allS (Or.inr z_5) all0)
    refine OwnOut.go (fun t k => st6 _ k) ?_
    show OwnOut p e s below 5 42 _ (T6.setTop (mkF m 23 #[.val (.ref b0), .val (.ref b1), .val (.int x2)] [(.ref c5), (.ref b0)]))
    obtain ⟨T7, h7, X7, e7, W7, st7⟩ := putF X6 hx hZ hown (host := "") (Or.inl (hw _ (List.mem_of_getElem? (i := 37) rfl))) Via.refl rfl F0_classes_6 E0_6 (Or.inr ⟨(hw _ (List.mem_of_getElem? (i := 38) rfl)), rfl, hnm⟩) (hw _ (List.mem_of_getElem? (i := 2) rfl)) (ty := (.object "java/util/List")) (by decide) rfl rfl (g := (mkF m 23 #[.val (.ref b0), .val (.ref b1), .val (.int x2)] [(.ref c5), (.ref b0)])) rfl rfl (hb hby d1_23)
    refine OwnOut.go (fun t k => st7 _ k) ?_
    have E0_7 := E0_6.wr W7
    have F0_types_7 := F0_types_6.other W7 (Or.inr (slot_ne (Or.inr (hw _ (List.mem_of_getElem? (i := 36) rfl))) (Or.inr (hw _ (List.mem_of_getElem? (i := 38) rfl))) (by decide) (t := (.object "java/util/List")) (t' := (.object "java/util/List")) (by decide) (by decide)))
    have F0_classes_7 := F0_classes_6.same W7
    have F0_open_7 := F0_open_6.other W7 (Or.inr (slot_ne (Or.inr (hw _ (List.mem_of_getElem? (i := 54) rfl))) (Or.inr (hw _ (List.mem_of_getElem? (i := 38) rfl))) (by decide) (t := (.object "com/example/tagwire/tagwire/codec/OpenContainers")) (t' := (.object "java/util/List")) (by decide) (by decide)))
    have F0_payload_7 := F0_payload_6.other W7 (Or.inr (slot_ne (Or.inr (hw _ (List.mem_of_getElem? (i := 56) rfl))) (Or.inr (hw _ (List.mem_of_getElem? (i := 38) rfl))) (by decide) (t := (.array .byte)) (t' := (.object "java/util/List")) (by decide) (by decide)))
    have F0_position_7 := F0_position_6.other W7 (Or.inr (slot_ne (Or.inl (hw _ (List.mem_of_getElem? (i := 63) rfl))) (Or.inr (hw _ (List.mem_of_getElem? (i := 38) rfl))) (by decide) (t := .int) (t' := (.object "java/util/List")) (by decide) (by decide)))
    have A1_7 := A1_6.other W7 (Ne.symm ne0_1)
    have E2_7 := E2_6.wr W7
    have F2_modCount_7 := F2_modCount_6.other W7 (Or.inl (Ne.symm ne0_2_2))
    have E3_7 := E3_6.wr W7
    have F3_modCount_7 := F3_modCount_6.other W7 (Or.inl (Ne.symm ne0_3_5))
    have N_7 := Fr.snoc X7 N_6 g0
    have O_7 := O_6.wr W7 g0
    have K_7 := K_6.wr W7 (Or.inl (List.mem_of_getElem? (i := 0) rfl))
    show OwnOut p e s below 5 42 _ (T7.setTop (mkF m 26 #[.val (.ref b0), .val (.ref b1), .val (.int x2)] []))
    refine OwnOut.go (fun t k => XS.aloadN X7.here hx rfl (hb hby d1_26) rfl rfl k) ?_
    show OwnOut p e s below 5 42 _ (T7.setTop (mkF m 27 #[.val (.ref b0), .val (.ref b1), .val (.int x2)] [(.ref b0)]))
    obtain ⟨T8, h8, X8, e8, Ex8, E_8, Df8, -, st8⟩ := newO X7 hx hZ hown (hw _ (List.mem_of_getElem? (i := 39) rfl)) (hw _ (List.mem_of_getElem? (i := 40) rfl)) (hw _ (List.mem_of_getElem? (i := 41) rfl)) e7 (g := (mkF m 27 #[.val (.ref b0), .val (.ref b1), .val (.int x2)] [(.ref b0)])) rfl (hb hby d1_27) (by decide) (by decide)
    obtain ⟨c8, gc8⟩ : ∃ z, z = h7.size := ⟨_, rfl⟩
    rw [← gc8] at E_8 st8
    have F_starts_8 : Fld Z h8 c8 "com/example/tagwire/tagwire/codec/OpenContainers" "starts" "[I" .null := by rw [gc8]; exact Df8 (Or.inl (hw _ (List.mem_of_getElem? (i := 48) rfl))) (ty := (.array .int)) (by decide)
    have F_remainings_8 : Fld Z h8 c8 "com/example/tagwire/tagwire/codec/OpenContainers" "remainings" "[I" .null := by rw [gc8]; exact Df8 (Or.inl (hw _ (List.mem_of_getElem? (i := 50) rfl))) (ty := (.array .int)) (by decide)
    have F_maxDepth_8 : Fld Z h8 c8 "com/example/tagwire/tagwire/codec/OpenContainers" "maxDepth" "I" (.int (0 : Int32)) := by rw [gc8]; exact Df8 (Or.inr (hw _ (List.mem_of_getElem? (i := 52) rfl))) (ty := .int) (by decide)
    refine OwnOut.go (fun t k => st8 _ k) ?_
    have ne0_4_8 : b0 ≠ c8 := Nat.ne_of_lt (gc8 ▸ E0_7.lt)
    have ne1_4_8 : b1 ≠ c8 := Nat.ne_of_lt (gc8 ▸ A1_7.lt)
    have ne2_4_8 : c2 ≠ c8 := Nat.ne_of_lt (gc8 ▸ E2_7.lt)
    have ne3_4_8 : c5 ≠ c8 := Nat.ne_of_lt (gc8 ▸ E3_7.lt)
    have E0_8 := E0_7.ext Ex8
    have F0_types_8 := F0_types_7.ext Ex8
    have F0_classes_8 := F0_classes_7.ext Ex8
    have F0_open_8 := F0_open_7.ext Ex8
    have F0_payload_8 := F0_payload_7.ext Ex8
    have F0_position_8 := F0_position_7.ext Ex8
    have A1_8 := A1_7.ext Ex8
    have E2_8 := E2_7.ext Ex8
    have F2_modCount_8 := F2_modCount_7.ext Ex8
    have E3_8 := E3_7.ext Ex8
    have F3_modCount_8 := F3_modCount_7.ext Ex8
    have g_8 : n0 ≤ c8 := gc8 ▸ (O_7.1 ▸ O_7.2.1)
    have z_8 : h0.size ≤ c8 := gc8 ▸ K_7.1
    have O_8 := O_7.ext Ex8
    have K_8 := K_7.ext Ex8
    show OwnOut p e s below 5 42 _ (T8.setTop (mkF m 30 #[.val (.ref b0), .val (.ref b1), .val (.int x2)] [(.ref c8), (.ref b0)]))
    refine OwnOut.go (fun t k => XS.dup X8.here hx rfl (hb hby d1_30) rfl rfl k) ?_
    show OwnOut p e s below 5 42 _ (T8.setTop (mkF m 31 #[.val (.ref b0), .val (.ref b1), .val (.int x2)] [(.ref c8), (.ref c8), (.ref b0)]))
    refine OwnOut.go (fun t k => XS.iloadN X8.here hx rfl (hb hby d1_31) rfl k) ?_
    show OwnOut p e s below 5 42 _ (T8.setTop (mkF m 32 #[.val (.ref b0), .val (.ref b1), .val (.int x2)] [(.int x2), (.ref c8), (.ref c8), (.ref b0)]))
    obtain ⟨o9, ho9, hr⟩ := Option.bind_eq_some_iff.mp hr
    obtain ⟨r9, T9, L9, X9', hQ9, st9⟩ := callN (W := 2) (rm := rx6) X8 hx hZ rfl (y := (⟨"com/example/tagwire/tagwire/codec/OpenContainers", "<init>", "(I)V"⟩ : MethodName)) rfl hown (hw _ (List.mem_of_getElem? (i := 42) rfl)) (hw _ (List.mem_of_getElem? (i := 43) rfl)) (hw _ (List.mem_of_getElem? (i := 41) rfl)) (hw _ (List.mem_of_getElem? (i := 44) rfl)) (by decide) (rm6 l Z a0 hw hsx [] x2 c8 (0 : Int32) h8 n0 o9 ho9 O_8 E_8 F_starts_8 F_remainings_8 F_maxDepth_8 g_8) (by decide) (by decide) (by decide) (by decide) e8 (g := (mkF m 32 #[.val (.ref b0), .val (.ref b1), .val (.int x2)] [(.int x2), (.ref c8), (.ref c8), (.ref b0)])) rfl (by rw [hml]; rfl) (argsL := [(.int x2)]) (rest := [(.ref c8), (.ref b0)]) (lenOf pd6 rfl) rfl (by show 2 * 0 + _ ≤ _; exact Nat.le_of_eq rfl) (hb hby d1_32)
    obtain ⟨c9_0, c9_1, rfl, Nq9, Kq9, F4_starts_9, F4_remainings_9, F4_maxDepth_9, zq9_0, gq9_0, Aq9_0, zq9_1, gq9_1, Aq9_1, neq9_0_1⟩ := hQ9
    have X9 : Stand p l e rx1 s m args below meth c T9 _ 5 42 := X9'
    have ne0_5_9 : b0 ≠ c9_0 := Nat.ne_of_lt (Nat.lt_of_lt_of_le E0_8.lt zq9_0)
    have ne1_5_9 : b1 ≠ c9_0 := Nat.ne_of_lt (Nat.lt_of_lt_of_le A1_8.lt zq9_0)
    have ne2_5_9 : c2 ≠ c9_0 := Nat.ne_of_lt (Nat.lt_of_lt_of_le E2_8.lt zq9_0)
    have ne3_5_9 : c5 ≠ c9_0 := Nat.ne_of_lt (Nat.lt_of_lt_of_le E3_8.lt zq9_0)
    have ne4_5_9 : c8 ≠ c9_0 := Nat.ne_of_lt (Nat.lt_of_lt_of_le E_8.lt zq9_0)
    have z_9_0 : h0.size ≤ c9_0 := Nat.le_trans K_8.1 zq9_0
    have ne0_6_9 : b0 ≠ c9_1 := Nat.ne_of_lt (Nat.lt_of_lt_of_le E0_8.lt zq9_1)
    have ne1_6_9 : b1 ≠ c9_1 := Nat.ne_of_lt (Nat.lt_of_lt_of_le A1_8.lt zq9_1)
    have ne2_6_9 : c2 ≠ c9_1 := Nat.ne_of_lt (Nat.lt_of_lt_of_le E2_8.lt zq9_1)
    have ne3_6_9 : c5 ≠ c9_1 := Nat.ne_of_lt (Nat.lt_of_lt_of_le E3_8.lt zq9_1)
    have ne4_6_9 : c8 ≠ c9_1 := Nat.ne_of_lt (Nat.lt_of_lt_of_le E_8.lt zq9_1)
    have z_9_1 : h0.size ≤ c9_1 := Nat.le_trans K_8.1 zq9_1
    have E0_9 := E0_8.keep Kq9
    have F0_types_9 := F0_types_8.keep Kq9 (ninS ne0_4_8 nin0)
    have F0_classes_9 := F0_classes_8.keep Kq9 (ninS ne0_4_8 nin0)
    have F0_open_9 := F0_open_8.keep Kq9 (ninS ne0_4_8 nin0)
    have F0_payload_9 := F0_payload_8.keep Kq9 (ninS ne0_4_8 nin0)
    have F0_position_9 := F0_position_8.keep Kq9 (ninS ne0_4_8 nin0)
    have A1_9 := A1_8.keep Kq9 (ninS ne1_4_8 nin0)
    have E2_9 := E2_8.keep Kq9
    have F2_modCount_9 := F2_modCount_8.keep Kq9 (ninS ne2_4_8 nin0)
    have E3_9 := E3_8.keep Kq9
    have F3_modCount_9 := F3_modCount_8.keep Kq9 (ninS ne3_4_8 nin0)
    have E4_9 := E_8.keep Kq9
    have N_9 := Fr.app N_7 Nq9
    have O_9 := O_8.keep Kq9 (allS g_8 all0)
    have K_9 := K_8.trans Kq9 (allS (Or.inr z_8) all0)
    refine OwnOut.go (fun t k => st9 _ k) ?_
    show OwnOut p e s below 5 42 _ (T9.setTop (mkF m 35 #[.val (.ref b0), .val (.ref b1), .val (.int x2)] [(.ref c8), (.ref b0)]))
    obtain ⟨T10, h10, X10, e10, W10, st10⟩ := putF X9 hx hZ hown (host := "") (Or.inl (hw _ (List.mem_of_getElem? (i := 53) rfl))) Via.refl rfl F0_open_9 E0_9 (Or.inr ⟨(hw _ (List.mem_of_getElem? (i := 54) rfl)), rfl, hnm⟩) (hw _ (List.mem_of_getElem? (i := 2) rfl)) (ty := (.object "com/example/tagwire/tagwire/codec/OpenContainers")) (by decide) rfl rfl (g := (mkF m 35 #[.val (.ref b0), .val (.ref b1), .val (.int x2)] [(.ref c8), (.ref b0)])) rfl rfl (hb hby d1_35)
    refine OwnOut.go (fun t k => st10 _ k) ?_
    have E0_10 := E0_9.wr W10
    have F0_types_10 := F0_types_9.other W10 (Or.inr (slot_ne (Or.inr (hw _ (List.mem_of_getElem? (i := 36) rfl))) (Or.inr (hw _ (List.mem_of_getElem? (i := 54) rfl))) (by decide) (t := (.object "java/util/List")) (t' := (.object "com/example/tagwire/tagwire/codec/OpenContainers")) (by decide) (by decide)))
    have F0_classes_10 := F0_classes_9.other W10 (Or.inr (slot_ne (Or.inr (hw _ (List.mem_of_getElem? (i := 38) rfl))) (Or.inr (hw _ (List.mem_of_getElem? (i := 54) rfl))) (by decide) (t := (.object "java/util/List")) (t' := (.object "com/example/tagwire/tagwire/codec/OpenContainers")) (by decide) (by decide)))
    have F0_open_10 := F0_open_9.same W10
    have F0_payload_10 := F0_payload_9.other W10 (Or.inr (slot_ne (Or.inr (hw _ (List.mem_of_getElem? (i := 56) rfl))) (Or.inr (hw _ (List.mem_of_getElem? (i := 54) rfl))) (by decide) (t := (.array .byte)) (t' := (.object "com/example/tagwire/tagwire/codec/OpenContainers")) (by decide) (by decide)))
    have F0_position_10 := F0_position_9.other W10 (Or.inr (slot_ne (Or.inl (hw _ (List.mem_of_getElem? (i := 63) rfl))) (Or.inr (hw _ (List.mem_of_getElem? (i := 54) rfl))) (by decide) (t := .int) (t' := (.object "com/example/tagwire/tagwire/codec/OpenContainers")) (by decide) (by decide)))
    have A1_10 := A1_9.other W10 (Ne.symm ne0_1)
    have E2_10 := E2_9.wr W10
    have F2_modCount_10 := F2_modCount_9.other W10 (Or.inl (Ne.symm ne0_2_2))
    have E3_10 := E3_9.wr W10
    have F3_modCount_10 := F3_modCount_9.other W10 (Or.inl (Ne.symm ne0_3_5))
    have E4_10 := E4_9.wr W10
    have F4_starts_10 := F4_starts_9.other W10 (Or.inl (Ne.symm ne0_4_8))
    have F4_remainings_10 := F4_remainings_9.other W10 (Or.inl (Ne.symm ne0_4_8))
    have F4_maxDepth_10 := F4_maxDepth_9.other W10 (Or.inl (Ne.symm ne0_4_8))
    have A5_10 := Aq9_0.other W10 (Ne.symm ne0_5_9)
    have A6_10 := Aq9_1.other W10 (Ne.symm ne0_6_9)
    have N_10 := Fr.snoc X10 N_9 g0
    have O_10 := O_9.wr W10 g0
    have K_10 := K_9.wr W10 (Or.inl (List.mem_of_getElem? (i := 0) rfl))
    show OwnOut p e s below 5 42 _ (T10.setTop (mkF m 38 #[.val (.ref b0), .val (.ref b1), .val (.int x2)] []))
    refine OwnOut.go (fun t k => XS.aloadN X10.here hx rfl (hb hby d1_38) rfl rfl k) ?_
    show OwnOut p e s below 5 42 _ (T10.setTop (mkF m 39 #[.val (.ref b0), .val (.ref b1), .val (.int x2)] [(.ref b0)]))
    refine OwnOut.go (fun t k => XS.aloadN X10.here hx rfl (hb hby d1_39) rfl rfl k) ?_
    show OwnOut p e s below 5 42 _ (T10.setTop (mkF m 40 #[.val (.ref b0), .val (.ref b1), .val (.int x2)] [(.ref b1), (.ref b0)]))
    obtain ⟨T11, h11, X11, e11, W11, st11⟩ := putF X10 hx hZ hown (host := "") (Or.inl (hw _ (List.mem_of_getElem? (i := 55) rfl))) Via.refl e10 F0_payload_10 E0_10 (Or.inr ⟨(hw _ (List.mem_of_getElem? (i := 56) rfl)), rfl, hnm⟩) (hw _ (List.mem_of_getElem? (i := 2) rfl)) (ty := (.array .byte)) (by decide) rfl rfl (g := (mkF m 40 #[.val (.ref b0), .val (.ref b1), .val (.int x2)] [(.ref b1), (.ref b0)])) rfl rfl (hb hby d1_40)
    refine OwnOut.go (fun t k => st11 _ k) ?_
    have E0_11 := E0_10.wr W11
    have F0_types_11 := F0_types_10.other W11 (Or.inr (slot_ne (Or.inr (hw _ (List.mem_of_getElem? (i := 36) rfl))) (Or.inr (hw _ (List.mem_of_getElem? (i := 56) rfl))) (by decide) (t := (.object "java/util/List")) (t' := (.array .byte)) (by decide) (by decide)))
    have F0_classes_11 := F0_classes_10.other W11 (Or.inr (slot_ne (Or.inr (hw _ (List.mem_of_getElem? (i := 38) rfl))) (Or.inr (hw _ (List.mem_of_getElem? (i := 56) rfl))) (by decide) (t := (.object "java/util/List")) (t' := (.array .byte)) (by decide) (by decide)))
    have F0_open_11 := F0_open_10.other W11 (Or.inr (slot_ne (Or.inr (hw _ (List.mem_of_getElem? (i := 54) rfl))) (Or.inr (hw _ (List.mem_of_getElem? (i := 56) rfl))) (by decide) (t := (.object "com/example/tagwire/tagwire/codec/OpenContainers")) (t' := (.array .byte)) (by decide) (by decide)))
    have F0_payload_11 := F0_payload_10.same W11
    have F0_position_11 := F0_position_10.other W11 (Or.inr (slot_ne (Or.inl (hw _ (List.mem_of_getElem? (i := 63) rfl))) (Or.inr (hw _ (List.mem_of_getElem? (i := 56) rfl))) (by decide) (t := .int) (t' := (.array .byte)) (by decide) (by decide)))
    have A1_11 := A1_10.other W11 (Ne.symm ne0_1)
    have E2_11 := E2_10.wr W11
    have F2_modCount_11 := F2_modCount_10.other W11 (Or.inl (Ne.symm ne0_2_2))
    have E3_11 := E3_10.wr W11
    have F3_modCount_11 := F3_modCount_10.other W11 (Or.inl (Ne.symm ne0_3_5))
    have E4_11 := E4_10.wr W11
    have F4_starts_11 := F4_starts_10.other W11 (Or.inl (Ne.symm ne0_4_8))
    have F4_remainings_11 := F4_remainings_10.other W11 (Or.inl (Ne.symm ne0_4_8))
    have F4_maxDepth_11 := F4_maxDepth_10.other W11 (Or.inl (Ne.symm ne0_4_8))
    have A5_11 := A5_10.other W11 (Ne.symm ne0_5_9)
    have A6_11 := A6_10.other W11 (Ne.symm ne0_6_9)
    have N_11 := Fr.snoc X11 N_10 g0
    have O_11 := O_10.wr W11 g0
    have K_11 := K_10.wr W11 (Or.inl (List.mem_of_getElem? (i := 0) rfl))
    show OwnOut p e s below 5 42 _ (T11.setTop (mkF m 43 #[.val (.ref b0), .val (.ref b1), .val (.int x2)] []))
    cases hr
    exact outV X11 hx hret (hb hby d1_43) hlk (by decide) (by decide) (by rw [e11]; exact ⟨c2, c5, c8, c9_0, c9_1, rfl, N_11, K_11, F0_types_11, F0_classes_11, F0_open_11, F0_payload_11, F0_position_11, z_2, g_2, E2_11, F2_modCount_11, z_5, g_5, E3_11, F3_modCount_11, z_8, g_8, E4_11, F4_starts_11, F4_remainings_11, F4_maxDepth_11, z_9_0, gq9_0, A5_11, z_9_1, gq9_1, A6_11, ne2_3_5, ne2_4_8, ne3_4_8, ne2_5_9, ne3_5_9, ne4_5_9, ne2_6_9, ne3_6_9, ne4_6_9, neq9_0_1⟩)
set_option maxRecDepth 65536 in
set_option maxHeartbeats 40000000 in
theorem rm1 (l : Launch) (Z : State) (a0 : Array Value) (hw : ∀ d ∈ tables_1, d.before a0 Z = true) (hsx : SX Z) (ws : List Jvm.Cond) (x2 : Int32) (b0 : Addr) (u0_position : Int32) (b1 : Addr) (l1 : List Int32) (h0 : Heap) (n0 : Nat) (o : Int32 × Int32 × Int32 × List Int32 × List Int32) (hr : f1 x2 u0_position l1 = some o) (O0 : Old Z n0 h0) (E0 : Exa Z h0 b0 "com/example/tagwire/tagwire/hessian2/Hessian2Reader") (F0_types : Fld Z h0 b0 "com/example/tagwire/tagwire/hessian2/Hessian2Reader" "types" "Ljava/util/List;" .null) (F0_classes : Fld Z h0 b0 "com/example/tagwire/tagwire/hessian2/Hessian2Reader" "classes" "Ljava/util/List;" .null) (F0_open : Fld Z h0 b0 "com/example/tagwire/tagwire/hessian2/Hessian2Reader" "open" "Lcom/example/tagwire/tagwire/codec/OpenContainers;" .null) (F0_payload : Fld Z h0 b0 "com/example/tagwire/tagwire/hessian2/Hessian2Reader" "payload" "[B" .null) (F0_position : Fld Z h0 b0 "com/example/tagwire/tagwire/hessian2/Hessian2Reader" "position" "I" (.int u0_position)) (A1 : Ari Z h0 b1 .byte l1) (g0 : n0 ≤ b0) (g1 : n0 ≤ b1) (ne0_1 : b0 ≠ b1) :
    MetFree l (⟨"com/example/tagwire/tagwire/hessian2/Hessian2Reader", "<init>", "([BI)V"⟩ : MethodName) (head1 (Jvm.Cond.code (⟨"com/example/tagwire/tagwire/hessian2/Hessian2Reader", "<init>", "([BI)V"⟩ : MethodName) prog_31_method_1_code 3 none :: ws) rx1) (fun a U => a = #[(.ref b0), (.ref b1), (.int x2)] ∧ Z.Warmed39 U.vm ∧ U.heap = h0) (fun _ _ _ _ _ => True) (fun _ U o' U' => ∃ v L, o' = .returned v ∧ Q1 Z x2 b0 u0_position b1 l1 h0 n0 o v U'.heap L ∧ FrameEnd U o' U' L rx1.cells rx1.slots) := by
  refine MetFree.of_bodySF (plainFor_of_name pn1) hisR ?_
  intro p e s m args below meth c s₁ Bd hml0 hP hK
  obtain ⟨rfl, hZ, hh⟩ := hP
  have X0 : Stand p l e rx1 s m #[(.ref b0), (.ref b1), (.int x2)] below meth c s₁ [] 0 0 := Stand.of_body Bd
  have e0 : s₁.heap = h0 := by rw [← hh, Bd.state]; rfl
  exact OwnOut.at (ef1 m b0 b1 x2) (w1_0 ⟨Bd.exec, hZ, hw, Bd.bytes, hml0, findClass_of_methodNamed Bd.named, Bd.returns, Bd.notSynchronized, (name_of_methodNamed Bd.named Bd.method).1, hsx⟩ _ _ _ x2 b0 u0_position b1 l1 o hr X0 e0 (Fr.nil n0) O0 (Keep.refl _ _) E0 F0_types F0_classes F0_open F0_payload F0_position A1 g0 g1 ne0_1)
-- body 7 as 7: com/example/tagwire/tagwire/hessian2/Hessian2Reader.hasNext:()Z (touches nothing)
theorem d7_0 : decode prog_31_method_2_code 0 = .ok (.aload_n 0, 1) := by decide +kernel
theorem d7_1 : decode prog_31_method_2_code 1 = .ok (.getfield 34, 3) := by decide +kernel
theorem d7_4 : decode prog_31_method_2_code 4 = .ok (.aload_n 0, 1) := by decide +kernel
theorem d7_5 : decode prog_31_method_2_code 5 = .ok (.getfield 30, 3) := by decide +kernel
theorem d7_8 : decode prog_31_method_2_code 8 = .ok (.arraylength, 1) := by decide +kernel
theorem d7_9 : decode prog_31_method_2_code 9 = .ok (.if_icmp .ge 7, 3) := by decide +kernel
theorem d7_12 : decode prog_31_method_2_code 12 = .ok (.iconst 1, 1) := by decide +kernel
theorem d7_13 : decode prog_31_method_2_code 13 = .ok (.goto 4, 3) := by decide +kernel
theorem d7_16 : decode prog_31_method_2_code 16 = .ok (.iconst 0, 1) := by decide +kernel
theorem d7_17 : decode prog_31_method_2_code 17 = .ok (.ireturn, 1) := by decide +kernel
theorem pn7 : plainName "com/example/tagwire/tagwire/hessian2/Hessian2Reader" = true := by first | (simp [plainName, overriddenIn]; done) | decide +kernel
theorem pd7 : parseMethodDescriptor "()Z" = some ⟨[], some .boolean⟩ := by decide +kernel
theorem ef7 (m : MethodId) (b0 : Addr) : entryFrame m #[(.ref b0)] 1 = mkF m 0 #[.val (.ref b0)] [] := by first | (simp [entryFrame, mkF, argsToLocals, Value.category]; done) | rfl
abbrev rx7 : Room := { frames := 0, cells := 0, slots := 0, locals := 0 }
abbrev Cx7 (Z : State) (a0 : Array Value) (p : Program) (s : State) (m : MethodId) (meth : Method) (c : Code) : Prop := p.tables.exec = Jvm.exec ∧ Z.Warmed39 s.vm ∧ (∀ d ∈ tables_1, d.before a0 Z = true) ∧ c.code = prog_31_method_2_code ∧ c.maxLocals = 1 ∧ s.vm.findClass "com/example/tagwire/tagwire/hessian2/Hessian2Reader" = some m.cls ∧ meth.sig.returnType = (some .boolean) ∧ meth.locks = false ∧ meth.name = "hasNext" ∧ SX Z
def Q7 (Z : State) (b0 : Addr) (u0_position : Int32) (b1 : Addr) (u1_modCount : Int32) (b2 : Addr) (u2_modCount : Int32) (b3 : Addr) (u3_maxDepth : Int32) (b4 : Addr) (l4 : List Int32) (b5 : Addr) (l5 : List Int32) (b6 : Addr) (l6 : List Int32) (h0 : Heap) (o : Int32) (v : Option Value) (h : Heap) (L : List Loc) : Prop := v = some (.int o) ∧ h = h0 ∧ L = []
def f7 (u0_position : Int32) (u1_modCount : Int32) (u2_modCount : Int32) (u3_maxDepth : Int32) (l4 : List Int32) (l5 : List Int32) (l6 : List Int32) : Option (Int32) := (if u0_position < (lenx l6) then some ((1 : Int32)) else some ((0 : Int32)))
set_option maxRecDepth 65536 in
set_option maxHeartbeats 40000000 in
theorem w7_0 {p : Program} {l : Launch} {e : Env} {s : State} {m : MethodId} {args : Array Value} {below : List Frame} {meth : Method} {c : Code} {Z : State} {a0 : Array Value} {h0 : Heap} (C : Cx7 Z a0 p s m meth c) :
    ∀ (T : State) (b0 : Addr) (u0_position : Int32) (b1 : Addr) (u1_modCount : Int32) (b2 : Addr) (u2_modCount : Int32) (b3 : Addr) (u3_maxDepth : Int32) (b4 : Addr) (l4 : List Int32) (b5 : Addr) (l5 : List Int32) (b6 : Addr) (l6 : List Int32) (o : Int32), f7 u0_position u1_modCount u2_modCount u3_maxDepth l4 l5 l6 = some o → Stand p l e rx7 s m args below meth c T [] 0 0 → T.heap = h0 → (Exa Z h0 b0 "com/example/tagwire/tagwire/hessian2/Hessian2Reader") → (Fld Z h0 b0 "com/example/tagwire/tagwire/hessian2/Hessian2Reader" "types" "Ljava/util/List;" (.ref b1)) → (Fld Z h0 b0 "com/example/tagwire/tagwire/hessian2/Hessian2Reader" "classes" "Ljava/util/List;" (.ref b2)) → (Fld Z h0 b0 "com/example/tagwire/tagwire/hessian2/Hessian2Reader" "open" "Lcom/example/tagwire/tagwire/codec/OpenContainers;" (.ref b3)) → (Fld Z h0 b0 "com/example/tagwire/tagwire/hessian2/Hessian2Reader" "payload" "[B" (.ref b6)) → (Fld Z h0 b0 "com/example/tagwire/tagwire/hessian2/Hessian2Reader" "position" "I" (.int u0_position)) → (Exa Z h0 b1 "java/util/ArrayList") → (Fld Z h0 b1 "java/util/AbstractList" "modCount" "I" (.int u1_modCount)) → (Exa Z h0 b2 "java/util/ArrayList") → (Fld Z h0 b2 "java/util/AbstractList" "modCount" "I" (.int u2_modCount)) → (Exa Z h0 b3 "com/example/tagwire/tagwire/codec/OpenContainers") → (Fld Z h0 b3 "com/example/tagwire/tagwire/codec/OpenContainers" "starts" "[I" (.ref b4)) → (Fld Z h0 b3 "com/example/tagwire/tagwire/codec/OpenContainers" "remainings" "[I" (.ref b5)) → (Fld Z h0 b3 "com/example/tagwire/tagwire/codec/OpenContainers" "maxDepth" "I" (.int u3_maxDepth)) → (Ari Z h0 b4 .int l4) → (Ari Z h0 b5 .int l5) → (Ari Z h0 b6 .byte l6) →  OwnOut p e s below 0 0 (Q7 Z b0 u0_position b1 u1_modCount b2 u2_modCount b3 u3_maxDepth b4 l4 b5 l5 b6 l6 h0 o) (T.setTop (mkF m 0 #[.val (.ref b0)] [])) := by
    obtain ⟨hx, hZ, hw, hby, hml, hown, hret, hlk, hnm, hsx⟩ := C
    intro T b0 u0_position b1 u1_modCount b2 u2_modCount b3 u3_maxDepth b4 l4 b5 l5 b6 l6 o hr X0 e0 E0 F0_types F0_classes F0_open F0_payload F0_position E1 F1_modCount E2 F2_modCount E3 F3_starts F3_remainings F3_maxDepth A4 A5 A6
    rw [f7] at hr
    refine OwnOut.go (fun t k => XS.aloadN X0.here hx rfl (hb hby d7_0) rfl rfl k) ?_
    show OwnOut p e s below 0 0 _ (T.setTop (mkF m 1 #[.val (.ref b0)] [(.ref b0)]))
    obtain ⟨T1, X1, e1, st1⟩ := getF X0 hx hZ hown (host := "") (Or.inl (hw _ (List.mem_of_getElem? (i := 62) rfl))) Via.refl e0 F0_position (g := (mkF m 1 #[.val (.ref b0)] [(.ref b0)])) rfl rfl (hb hby d7_1)
    refine OwnOut.go (fun t k => st1 _ k) ?_
    show OwnOut p e s below 0 0 _ (T1.setTop (mkF m 4 #[.val (.ref b0)] [(.int u0_position)]))
    refine OwnOut.go (fun t k => XS.aloadN X1.here hx rfl (hb hby d7_4) rfl rfl k) ?_
    show OwnOut p e s below 0 0 _ (T1.setTop (mkF m 5 #[.val (.ref b0)] [(.ref b0), (.int u0_position)]))
    obtain ⟨T2, X2, e2, st2⟩ := getF X1 hx hZ hown (host := "") (Or.inl (hw _ (List.mem_of_getElem? (i := 55) rfl))) Via.refl e1 F0_payload (g := (mkF m 5 #[.val (.ref b0)] [(.ref b0), (.int u0_position)])) rfl rfl (hb hby d7_5)
    refine OwnOut.go (fun t k => st2 _ k) ?_
    show OwnOut p e s below 0 0 _ (T2.setTop (mkF m 8 #[.val (.ref b0)] [(.ref b6), (.int u0_position)]))
    refine OwnOut.go (fun t k => lenA X2 hx hZ e2 A6 (g := (mkF m 8 #[.val (.ref b0)] [(.ref b6), (.int u0_position)])) rfl rfl (hb hby d7_8) t k) ?_
    show OwnOut p e s below 0 0 _ (T2.setTop (mkF m 9 #[.val (.ref b0)] [(.int (lenx l6)), (.int u0_position)]))
    by_cases hc9 : u0_position < (lenx l6)
    · rw [if_pos hc9] at hr
      refine OwnOut.go (fun t k => XS.icmpNo X2.here hx rfl (hb hby d7_9) rfl (XT.ii_ge_f hc9) k) ?_
      show OwnOut p e s below 0 0 _ (T2.setTop (mkF m 12 #[.val (.ref b0)] []))
      refine OwnOut.go (fun t k => XT.iconstV X2.here hx rfl (1 : Int32) (hb hby d7_12) rfl k) ?_
      show OwnOut p e s below 0 0 _ (T2.setTop (mkF m 13 #[.val (.ref b0)] [(.int (1 : Int32))]))
      refine OwnOut.go (fun t k => XS.goto X2.here hx rfl (pc0 := 13) (pc' := 17) rfl (hb hby d7_13) (by decide) (by decide) k) ?_
      show OwnOut p e s below 0 0 _ (T2.setTop (mkF m 17 #[.val (.ref b0)] [(.int (1 : Int32))]))
      cases hr
      exact outZ X2 hx hret (hb hby d7_17) hlk (by decide) (by decide) ⟨rfl, e2, rfl⟩
    · rw [if_neg hc9] at hr
      refine OwnOut.go (fun t k => XS.icmpYes X2.here hx rfl (pc0 := 9) (pc' := 16) rfl (hb hby d7_9) rfl (XT.ii_ge_t hc9) (by decide) (by decide) k) ?_
      show OwnOut p e s below 0 0 _ (T2.setTop (mkF m 16 #[.val (.ref b0)] []))
      refine OwnOut.go (fun t k => XT.iconstV X2.here hx rfl (0 : Int32) (hb hby d7_16) rfl k) ?_
      show OwnOut p e s below 0 0 _ (T2.setTop (mkF m 17 #[.val (.ref b0)] [(.int (0 : Int32))]))
      cases hr
      exact outZ X2 hx hret (hb hby d7_17) hlk (by decide) (by decide) ⟨rfl, e2, rfl⟩
set_option maxRecDepth 65536 in
set_option maxHeartbeats 40000000 in
theorem rm7 (l : Launch) (Z : State) (a0 : Array Value) (hw : ∀ d ∈ tables_1, d.before a0 Z = true) (hsx : SX Z) (ws : List Jvm.Cond) (b0 : Addr) (u0_position : Int32) (b1 : Addr) (u1_modCount : Int32) (b2 : Addr) (u2_modCount : Int32) (b3 : Addr) (u3_maxDepth : Int32) (b4 : Addr) (l4 : List Int32) (b5 : Addr) (l5 : List Int32) (b6 : Addr) (l6 : List Int32) (h0 : Heap) (o : Int32) (hr : f7 u0_position u1_modCount u2_modCount u3_maxDepth l4 l5 l6 = some o) (E0 : Exa Z h0 b0 "com/example/tagwire/tagwire/hessian2/Hessian2Reader") (F0_types : Fld Z h0 b0 "com/example/tagwire/tagwire/hessian2/Hessian2Reader" "types" "Ljava/util/List;" (.ref b1)) (F0_classes : Fld Z h0 b0 "com/example/tagwire/tagwire/hessian2/Hessian2Reader" "classes" "Ljava/util/List;" (.ref b2)) (F0_open : Fld Z h0 b0 "com/example/tagwire/tagwire/hessian2/Hessian2Reader" "open" "Lcom/example/tagwire/tagwire/codec/OpenContainers;" (.ref b3)) (F0_payload : Fld Z h0 b0 "com/example/tagwire/tagwire/hessian2/Hessian2Reader" "payload" "[B" (.ref b6)) (F0_position : Fld Z h0 b0 "com/example/tagwire/tagwire/hessian2/Hessian2Reader" "position" "I" (.int u0_position)) (E1 : Exa Z h0 b1 "java/util/ArrayList") (F1_modCount : Fld Z h0 b1 "java/util/AbstractList" "modCount" "I" (.int u1_modCount)) (E2 : Exa Z h0 b2 "java/util/ArrayList") (F2_modCount : Fld Z h0 b2 "java/util/AbstractList" "modCount" "I" (.int u2_modCount)) (E3 : Exa Z h0 b3 "com/example/tagwire/tagwire/codec/OpenContainers") (F3_starts : Fld Z h0 b3 "com/example/tagwire/tagwire/codec/OpenContainers" "starts" "[I" (.ref b4)) (F3_remainings : Fld Z h0 b3 "com/example/tagwire/tagwire/codec/OpenContainers" "remainings" "[I" (.ref b5)) (F3_maxDepth : Fld Z h0 b3 "com/example/tagwire/tagwire/codec/OpenContainers" "maxDepth" "I" (.int u3_maxDepth)) (A4 : Ari Z h0 b4 .int l4) (A5 : Ari Z h0 b5 .int l5) (A6 : Ari Z h0 b6 .byte l6) :
    MetFree l (⟨"com/example/tagwire/tagwire/hessian2/Hessian2Reader", "hasNext", "()Z"⟩ : MethodName) (head1 (Jvm.Cond.code (⟨"com/example/tagwire/tagwire/hessian2/Hessian2Reader", "hasNext", "()Z"⟩ : MethodName) prog_31_method_2_code 1 (some .boolean) :: ws) rx7) (fun a U => a = #[(.ref b0)] ∧ Z.Warmed39 U.vm ∧ U.heap = h0) (fun _ _ _ _ _ => True) (fun _ U o' U' => ∃ v L, o' = .returned v ∧ Q7 Z b0 u0_position b1 u1_modCount b2 u2_modCount b3 u3_maxDepth b4 l4 b5 l5 b6 l6 h0 o v U'.heap L ∧ FrameEnd U o' U' L rx7.cells rx7.slots) := by
  refine MetFree.of_bodySF (plainFor_of_name pn7) hisR ?_
  intro p e s m args below meth c s₁ Bd hml0 hP hK
  obtain ⟨rfl, hZ, hh⟩ := hP
  have X0 : Stand p l e rx7 s m #[(.ref b0)] below meth c s₁ [] 0 0 := Stand.of_body Bd
  have e0 : s₁.heap = h0 := by rw [← hh, Bd.state]; rfl
  exact OwnOut.at (ef7 m b0) (w7_0 ⟨Bd.exec, hZ, hw, Bd.bytes, hml0, findClass_of_methodNamed Bd.named, Bd.returns, Bd.notSynchronized, (name_of_methodNamed Bd.named Bd.method).1, hsx⟩ _ b0 u0_position b1 u1_modCount b2 u2_modCount b3 u3_maxDepth b4 l4 b5 l5 b6 l6 o hr X0 e0  E0 F0_types F0_classes F0_open F0_payload F0_position E1 F1_modCount E2 F2_modCount E3 F3_starts F3_remainings F3_maxDepth A4 A5 A6)
-- body 0 as 0: com/example/tagwire/tagwire/hessian2/Hessian2ReaderHasNextPinLaw.law:(IIII)Z
theorem pn0 : plainName "com/example/tagwire/tagwire/hessian2/Hessian2ReaderHasNextPinLaw" = true := by first | (simp [plainName, overriddenIn]; done) | decide +kernel
theorem pd0 : parseMethodDescriptor "(IIII)Z" = some ⟨[.int, .int, .int, .int], some .boolean⟩ := by decide +kernel
theorem ef0 (m : MethodId) (x0 : Int32) (x1 : Int32) (x2 : Int32) (x3 : Int32) : entryFrame m #[(.int x0), (.int x1), (.int x2), (.int x3)] maxLocals = mkF m 0 #[.val (.int x0), .val (.int x1), .val (.int x2), .val (.int x3), .unset, .unset, .unset, .unset, .unset] [] := by first | (simp [entryFrame, mkF, argsToLocals, Value.category, maxLocals]; done) | rfl
abbrev Cx0 (Z : State) (a0 : Array Value) (p : Program) (s : State) (m : MethodId) (meth : Method) (c : Code) : Prop := p.tables.exec = Jvm.exec ∧ Z.Warmed39 s.vm ∧ (∀ d ∈ tables_1, d.before a0 Z = true) ∧ c.code = code ∧ c.maxLocals = 9 ∧ s.vm.findClass "com/example/tagwire/tagwire/hessian2/Hessian2ReaderHasNextPinLaw" = some m.cls ∧ meth.sig.returnType = (some .boolean) ∧ meth.locks = false ∧ meth.name = "law" ∧ SX Z
def Q0 (Z : State) (x0 : Int32) (x1 : Int32) (x2 : Int32) (x3 : Int32) (h0 : Heap) (n0 : Nat) (o : Int32) (v : Option Value) (h : Heap) (L : List Loc) : Prop := v = some (.int o) ∧ Fr n0 L
def f0_83 (x7 : Int32) (x8 : Int32) (y0 : Int32) (y1 : Int32) : Option (Int32) := (if y1 = y0 then (if x8 = x7 then some ((1 : Int32)) else some ((0 : Int32))) else some ((0 : Int32)))
set_option maxRecDepth 65536 in
set_option maxHeartbeats 40000000 in
theorem w0_83 {p : Program} {l : Launch} {e : Env} {s : State} {m : MethodId} {args : Array Value} {below : List Frame} {meth : Method} {c : Code} {Z : State} {a0 : Array Value} {h0 : Heap} {n0 : Nat} (C : Cx0 Z a0 p s m meth c) :
    ∀ (T : State) (locs : List Loc) (hA : Heap) (x0 : Int32) (x1 : Int32) (x2 : Int32) (x3 : Int32) (x4 : Int32) (x7 : Int32) (x8 : Int32) (y0 : Int32) (y1 : Int32) (b0 : Addr) (l0 : List Int32) (b1 : Addr) (u1_position : Int32) (b2 : Addr) (u2_modCount : Int32) (b3 : Addr) (u3_modCount : Int32) (b4 : Addr) (u4_maxDepth : Int32) (b5 : Addr) (l5 : List Int32) (b6 : Addr) (l6 : List Int32) (o : Int32), f0_83 x7 x8 y0 y1 = some o → Stand p l e room_1 s m args below meth c T locs 7 67 → T.heap = hA → Fr n0 locs → Old Z n0 hA → Keep h0 hA [] → (Ari Z hA b0 .byte l0) → (Exa Z hA b1 "com/example/tagwire/tagwire/hessian2/Hessian2Reader") → (Fld Z hA b1 "com/example/tagwire/tagwire/hessian2/Hessian2Reader" "types" "Ljava/util/List;" (.ref b2)) → (Fld Z hA b1 "com/example/tagwire/tagwire/hessian2/Hessian2Reader" "classes" "Ljava/util/List;" (.ref b3)) → (Fld Z hA b1 "com/example/tagwire/tagwire/hessian2/Hessian2Reader" "open" "Lcom/example/tagwire/tagwire/codec/OpenContainers;" (.ref b4)) → (Fld Z hA b1 "com/example/tagwire/tagwire/hessian2/Hessian2Reader" "payload" "[B" (.ref b0)) → (Fld Z hA b1 "com/example/tagwire/tagwire/hessian2/Hessian2Reader" "position" "I" (.int u1_position)) → (Exa Z hA b2 "java/util/ArrayList") → (Fld Z hA b2 "java/util/AbstractList" "modCount" "I" (.int u2_modCount)) → (Exa Z hA b3 "java/util/ArrayList") → (Fld Z hA b3 "java/util/AbstractList" "modCount" "I" (.int u3_modCount)) → (Exa Z hA b4 "com/example/tagwire/tagwire/codec/OpenContainers") → (Fld Z hA b4 "com/example/tagwire/tagwire/codec/OpenContainers" "starts" "[I" (.ref b5)) → (Fld Z hA b4 "com/example/tagwire/tagwire/codec/OpenContainers" "remainings" "[I" (.ref b6)) → (Fld Z hA b4 "com/example/tagwire/tagwire/codec/OpenContainers" "maxDepth" "I" (.int u4_maxDepth)) → (Ari Z hA b5 .int l5) → (Ari Z hA b6 .int l6) → (n0 ≤ b0) → (h0.size ≤ b0) → (n0 ≤ b1) → (h0.size ≤ b1) → (n0 ≤ b2) → (h0.size ≤ b2) → (n0 ≤ b3) → (h0.size ≤ b3) → (n0 ≤ b4) → (h0.size ≤ b4) → (n0 ≤ b5) → (h0.size ≤ b5) → (n0 ≤ b6) → (h0.size ≤ b6) → (b0 ≠ b1) → (b0 ≠ b2) → (b0 ≠ b3) → (b0 ≠ b4) → (b0 ≠ b5) → (b0 ≠ b6) → (b1 ≠ b2) → (b1 ≠ b3) → (b1 ≠ b4) → (b1 ≠ b5) → (b1 ≠ b6) → (b2 ≠ b3) → (b2 ≠ b4) → (b2 ≠ b5) → (b2 ≠ b6) → (b3 ≠ b4) → (b3 ≠ b5) → (b3 ≠ b6) → (b4 ≠ b5) → (b4 ≠ b6) → (b5 ≠ b6) →  OwnOut p e s below 24 192 (Q0 Z default default default default h0 n0 o) (T.setTop (mkF m 83 #[.val (.int x0), .val (.int x1), .val (.int x2), .val (.int x3), .val (.int x4), .val (.ref b0), .val (.ref b1), .val (.int x7), .val (.int x8)] [(.int y0), (.int y1)])) := by
    obtain ⟨hx, hZ, hw, hby, hml, hown, hret, hlk, hnm, hsx⟩ := C
    intro T locs hA x0 x1 x2 x3 x4 x7 x8 y0 y1 b0 l0 b1 u1_position b2 u2_modCount b3 u3_modCount b4 u4_maxDepth b5 l5 b6 l6 o hr X0 e0 N0 O0 K0 A0 E1 F1_types F1_classes F1_open F1_payload F1_position E2 F2_modCount E3 F3_modCount E4 F4_starts F4_remainings F4_maxDepth A5 A6 g0 z0 g1 z1 g2 z2 g3 z3 g4 z4 g5 z5 g6 z6 ne0_1 ne0_2 ne0_3 ne0_4 ne0_5 ne0_6 ne1_2 ne1_3 ne1_4 ne1_5 ne1_6 ne2_3 ne2_4 ne2_5 ne2_6 ne3_4 ne3_5 ne3_6 ne4_5 ne4_6 ne5_6
    rw [f0_83] at hr
    by_cases hc83 : y1 = y0
    · rw [if_pos hc83] at hr
      refine OwnOut.go (fun t k => XS.icmpNo X0.here hx rfl (hb hby at_83) rfl (XT.ii_ne_f hc83) k) ?_
      show OwnOut p e s below 24 192 _ (T.setTop (mkF m 86 #[.val (.int x0), .val (.int x1), .val (.int x2), .val (.int x3), .val (.int x4), .val (.ref b0), .val (.ref b1), .val (.int x7), .val (.int x8)] []))
      refine OwnOut.go (fun t k => XS.iload X0.here hx rfl (hb hby at_86) rfl k) ?_
      show OwnOut p e s below 24 192 _ (T.setTop (mkF m 88 #[.val (.int x0), .val (.int x1), .val (.int x2), .val (.int x3), .val (.int x4), .val (.ref b0), .val (.ref b1), .val (.int x7), .val (.int x8)] [(.int x8)]))
      refine OwnOut.go (fun t k => XS.iload X0.here hx rfl (hb hby at_88) rfl k) ?_
      show OwnOut p e s below 24 192 _ (T.setTop (mkF m 90 #[.val (.int x0), .val (.int x1), .val (.int x2), .val (.int x3), .val (.int x4), .val (.ref b0), .val (.ref b1), .val (.int x7), .val (.int x8)] [(.int x7), (.int x8)]))
      by_cases hc90 : x8 = x7
      · rw [if_pos hc90] at hr
        refine OwnOut.go (fun t k => XS.icmpNo X0.here hx rfl (hb hby at_90) rfl (XT.ii_ne_f hc90) k) ?_
        show OwnOut p e s below 24 192 _ (T.setTop (mkF m 93 #[.val (.int x0), .val (.int x1), .val (.int x2), .val (.int x3), .val (.int x4), .val (.ref b0), .val (.ref b1), .val (.int x7), .val (.int x8)] []))
        refine OwnOut.go (fun t k => XT.iconstV X0.here hx rfl (1 : Int32) (hb hby at_93) rfl k) ?_
        show OwnOut p e s below 24 192 _ (T.setTop (mkF m 94 #[.val (.int x0), .val (.int x1), .val (.int x2), .val (.int x3), .val (.int x4), .val (.ref b0), .val (.ref b1), .val (.int x7), .val (.int x8)] [(.int (1 : Int32))]))
        refine OwnOut.go (fun t k => XS.goto X0.here hx rfl (pc0 := 94) (pc' := 98) rfl (hb hby at_94) (by decide) (by decide) k) ?_
        show OwnOut p e s below 24 192 _ (T.setTop (mkF m 98 #[.val (.int x0), .val (.int x1), .val (.int x2), .val (.int x3), .val (.int x4), .val (.ref b0), .val (.ref b1), .val (.int x7), .val (.int x8)] [(.int (1 : Int32))]))
        cases hr
        exact outZ X0 hx hret (hb hby at_98) hlk (by decide) (by decide) ⟨rfl, N0⟩
      · rw [if_neg hc90] at hr
        refine OwnOut.go (fun t k => XS.icmpYes X0.here hx rfl (pc0 := 90) (pc' := 97) rfl (hb hby at_90) rfl (XT.ii_ne_t hc90) (by decide) (by decide) k) ?_
        show OwnOut p e s below 24 192 _ (T.setTop (mkF m 97 #[.val (.int x0), .val (.int x1), .val (.int x2), .val (.int x3), .val (.int x4), .val (.ref b0), .val (.ref b1), .val (.int x7), .val (.int x8)] []))
        refine OwnOut.go (fun t k => XT.iconstV X0.here hx rfl (0 : Int32) (hb hby at_97) rfl k) ?_
        show OwnOut p e s below 24 192 _ (T.setTop (mkF m 98 #[.val (.int x0), .val (.int x1), .val (.int x2), .val (.int x3), .val (.int x4), .val (.ref b0), .val (.ref b1), .val (.int x7), .val (.int x8)] [(.int (0 : Int32))]))
        cases hr
        exact outZ X0 hx hret (hb hby at_98) hlk (by decide) (by decide) ⟨rfl, N0⟩
    · rw [if_neg hc83] at hr
      refine OwnOut.go (fun t k => XS.icmpYes X0.here hx rfl (pc0 := 83) (pc' := 97) rfl (hb hby at_83) rfl (XT.ii_ne_t hc83) (by decide) (by decide) k) ?_
      show OwnOut p e s below 24 192 _ (T.setTop (mkF m 97 #[.val (.int x0), .val (.int x1), .val (.int x2), .val (.int x3), .val (.int x4), .val (.ref b0), .val (.ref b1), .val (.int x7), .val (.int x8)] []))
      refine OwnOut.go (fun t k => XT.iconstV X0.here hx rfl (0 : Int32) (hb hby at_97) rfl k) ?_
      show OwnOut p e s below 24 192 _ (T.setTop (mkF m 98 #[.val (.int x0), .val (.int x1), .val (.int x2), .val (.int x3), .val (.int x4), .val (.ref b0), .val (.ref b1), .val (.int x7), .val (.int x8)] [(.int (0 : Int32))]))
      cases hr
      exact outZ X0 hx hret (hb hby at_98) hlk (by decide) (by decide) ⟨rfl, N0⟩
def f0_38 (x1 : Int32) (x4 : Int32) (l0 : List Int32) : Option (Int32) := ((f1 (((x1 &&& (2147483647 : Int32)) % (5 : Int32)) + (1 : Int32)) (0 : Int32) l0).bind fun o5 => ((f7 (0 : Int32) o5.1 o5.2.1 o5.2.2.1 o5.2.2.2.1 o5.2.2.2.2 l0).bind fun o6 => ((f7 (0 : Int32) o5.1 o5.2.1 o5.2.2.1 o5.2.2.2.1 o5.2.2.2.2 l0).bind fun o7 => (if (0 : Int32) < x4 then (f0_83 o6 o7 (1 : Int32) o6) else (f0_83 o6 o7 (0 : Int32) o6)))))
set_option maxRecDepth 65536 in
set_option maxHeartbeats 40000000 in
theorem w0_38 {p : Program} {l : Launch} {e : Env} {s : State} {m : MethodId} {args : Array Value} {below : List Frame} {meth : Method} {c : Code} {Z : State} {a0 : Array Value} {h0 : Heap} {n0 : Nat} (C : Cx0 Z a0 p s m meth c) :
    ∀ (T : State) (locs : List Loc) (hA : Heap) (x0 : Int32) (x1 : Int32) (x2 : Int32) (x3 : Int32) (x4 : Int32) (b0 : Addr) (l0 : List Int32) (o : Int32), f0_38 x1 x4 l0 = some o → Stand p l e room_1 s m args below meth c T locs 1 16 → T.heap = hA → Fr n0 locs → Old Z n0 hA → Keep h0 hA [] → (Ari Z hA b0 .byte l0) → (n0 ≤ b0) → (h0.size ≤ b0) →  OwnOut p e s below 24 192 (Q0 Z default default default default h0 n0 o) (T.setTop (mkF m 38 #[.val (.int x0), .val (.int x1), .val (.int x2), .val (.int x3), .val (.int x4), .val (.ref b0), .unset, .unset, .unset] [])) := by
    obtain ⟨hx, hZ, hw, hby, hml, hown, hret, hlk, hnm, hsx⟩ := C
    intro T locs hA x0 x1 x2 x3 x4 b0 l0 o hr X0 e0 N0 O0 K0 A0 g0 z0
    rw [f0_38] at hr
    obtain ⟨T4, h4, X4, e4, Ex4, E_4, Df4, -, st4⟩ := newO X0 hx hZ hown (hw _ (List.mem_of_getElem? (i := 1) rfl)) (hw _ (List.mem_of_getElem? (i := 2) rfl)) (hw _ (List.mem_of_getElem? (i := 3) rfl)) e0 (g := (mkF m 38 #[.val (.int x0), .val (.int x1), .val (.int x2), .val (.int x3), .val (.int x4), .val (.ref b0), .unset, .unset, .unset] [])) rfl (hb hby at_38) (by decide) (by decide)
    obtain ⟨c4, gc4⟩ : ∃ z, z = hA.size := ⟨_, rfl⟩
    rw [← gc4] at E_4 st4
    have F_types_4 : Fld Z h4 c4 "com/example/tagwire/tagwire/hessian2/Hessian2Reader" "types" "Ljava/util/List;" .null := by rw [gc4]; exact Df4 (Or.inr (hw _ (List.mem_of_getElem? (i := 36) rfl))) (ty := (.object "java/util/List")) (by decide)
    have F_classes_4 : Fld Z h4 c4 "com/example/tagwire/tagwire/hessian2/Hessian2Reader" "classes" "Ljava/util/List;" .null := by rw [gc4]; exact Df4 (Or.inr (hw _ (List.mem_of_getElem? (i := 38) rfl))) (ty := (.object "java/util/List")) (by decide)
    have F_open_4 : Fld Z h4 c4 "com/example/tagwire/tagwire/hessian2/Hessian2Reader" "open" "Lcom/example/tagwire/tagwire/codec/OpenContainers;" .null := by rw [gc4]; exact Df4 (Or.inr (hw _ (List.mem_of_getElem? (i := 54) rfl))) (ty := (.object "com/example/tagwire/tagwire/codec/OpenContainers")) (by decide)
    have F_payload_4 : Fld Z h4 c4 "com/example/tagwire/tagwire/hessian2/Hessian2Reader" "payload" "[B" .null := by rw [gc4]; exact Df4 (Or.inr (hw _ (List.mem_of_getElem? (i := 56) rfl))) (ty := (.array .byte)) (by decide)
    have F_position_4 : Fld Z h4 c4 "com/example/tagwire/tagwire/hessian2/Hessian2Reader" "position" "I" (.int (0 : Int32)) := by rw [gc4]; exact Df4 (Or.inl (hw _ (List.mem_of_getElem? (i := 63) rfl))) (ty := .int) (by decide)
    refine OwnOut.go (fun t k => st4 _ k) ?_
    have ne0_1_4 : b0 ≠ c4 := Nat.ne_of_lt (gc4 ▸ A0.lt)
    have A0_4 := A0.ext Ex4
    have g_4 : n0 ≤ c4 := gc4 ▸ (O0.1 ▸ O0.2.1)
    have z_4 : h0.size ≤ c4 := gc4 ▸ K0.1
    have O_4 := O0.ext Ex4
    have K_4 := K0.ext Ex4
    show OwnOut p e s below 24 192 _ (T4.setTop (mkF m 41 #[.val (.int x0), .val (.int x1), .val (.int x2), .val (.int x3), .val (.int x4), .val (.ref b0), .unset, .unset, .unset] [(.ref c4)]))
    refine OwnOut.go (fun t k => XS.dup X4.here hx rfl (hb hby at_41) rfl rfl k) ?_
    show OwnOut p e s below 24 192 _ (T4.setTop (mkF m 42 #[.val (.int x0), .val (.int x1), .val (.int x2), .val (.int x3), .val (.int x4), .val (.ref b0), .unset, .unset, .unset] [(.ref c4), (.ref c4)]))
    refine OwnOut.go (fun t k => XS.aload X4.here hx rfl (hb hby at_42) rfl rfl k) ?_
    show OwnOut p e s below 24 192 _ (T4.setTop (mkF m 44 #[.val (.int x0), .val (.int x1), .val (.int x2), .val (.int x3), .val (.int x4), .val (.ref b0), .unset, .unset, .unset] [(.ref b0), (.ref c4), (.ref c4)]))
    refine OwnOut.go (fun t k => XS.iloadN X4.here hx rfl (hb hby at_44) rfl k) ?_
    show OwnOut p e s below 24 192 _ (T4.setTop (mkF m 45 #[.val (.int x0), .val (.int x1), .val (.int x2), .val (.int x3), .val (.int x4), .val (.ref b0), .unset, .unset, .unset] [(.int x1), (.ref b0), (.ref c4), (.ref c4)]))
    refine OwnOut.go (fun t k => X4.ldcInt hx hown (mvT hZ (hw _ (List.mem_of_getElem? (i := 4) rfl))) (g := (mkF m 45 #[.val (.int x0), .val (.int x1), .val (.int x2), .val (.int x3), .val (.int x4), .val (.ref b0), .unset, .unset, .unset] [(.int x1), (.ref b0), (.ref c4), (.ref c4)])) rfl (hb hby at_45) _ k) ?_
    show OwnOut p e s below 24 192 _ (T4.setTop (mkF m 47 #[.val (.int x0), .val (.int x1), .val (.int x2), .val (.int x3), .val (.int x4), .val (.ref b0), .unset, .unset, .unset] [(.int (2147483647 : Int32)), (.int x1), (.ref b0), (.ref c4), (.ref c4)]))
    refine OwnOut.go (fun t k => XS.iand X4.here hx rfl (hb hby at_47) rfl k) ?_
    show OwnOut p e s below 24 192 _ (T4.setTop (mkF m 48 #[.val (.int x0), .val (.int x1), .val (.int x2), .val (.int x3), .val (.int x4), .val (.ref b0), .unset, .unset, .unset] [(.int (x1 &&& (2147483647 : Int32))), (.ref b0), (.ref c4), (.ref c4)]))
    refine OwnOut.go (fun t k => XT.iconstV X4.here hx rfl (5 : Int32) (hb hby at_48) rfl k) ?_
    show OwnOut p e s below 24 192 _ (T4.setTop (mkF m 49 #[.val (.int x0), .val (.int x1), .val (.int x2), .val (.int x3), .val (.int x4), .val (.ref b0), .unset, .unset, .unset] [(.int (5 : Int32)), (.int (x1 &&& (2147483647 : Int32))), (.ref b0), (.ref c4), (.ref c4)]))
    refine OwnOut.go (fun t k => iremM X4 hx rfl (hb hby at_49) rfl (by decide) k) ?_
    show OwnOut p e s below 24 192 _ (T4.setTop (mkF m 50 #[.val (.int x0), .val (.int x1), .val (.int x2), .val (.int x3), .val (.int x4), .val (.ref b0), .unset, .unset, .unset] [(.int ((x1 &&& (2147483647 : Int32)) % (5 : Int32))), (.ref b0), (.ref c4), (.ref c4)]))
    refine OwnOut.go (fun t k => XT.iconstV X4.here hx rfl (1 : Int32) (hb hby at_50) rfl k) ?_
    show OwnOut p e s below 24 192 _ (T4.setTop (mkF m 51 #[.val (.int x0), .val (.int x1), .val (.int x2), .val (.int x3), .val (.int x4), .val (.ref b0), .unset, .unset, .unset] [(.int (1 : Int32)), (.int ((x1 &&& (2147483647 : Int32)) % (5 : Int32))), (.ref b0), (.ref c4), (.ref c4)]))
    refine OwnOut.go (fun t k => XS.iadd X4.here hx rfl (hb hby at_51) rfl k) ?_
    show OwnOut p e s below 24 192 _ (T4.setTop (mkF m 52 #[.val (.int x0), .val (.int x1), .val (.int x2), .val (.int x3), .val (.int x4), .val (.ref b0), .unset, .unset, .unset] [(.int (((x1 &&& (2147483647 : Int32)) % (5 : Int32)) + (1 : Int32))), (.ref b0), (.ref c4), (.ref c4)]))
    obtain ⟨o5, ho5, hr⟩ := Option.bind_eq_some_iff.mp hr
    obtain ⟨r5, T5, L5, X5', hQ5, st5⟩ := callN (W := 1) (rm := rx1) X4 hx hZ rfl (y := (⟨"com/example/tagwire/tagwire/hessian2/Hessian2Reader", "<init>", "([BI)V"⟩ : MethodName)) rfl hown (hw _ (List.mem_of_getElem? (i := 5) rfl)) (hw _ (List.mem_of_getElem? (i := 6) rfl)) (hw _ (List.mem_of_getElem? (i := 3) rfl)) (hw _ (List.mem_of_getElem? (i := 7) rfl)) (by decide) (rm1 l Z a0 hw hsx [] (((x1 &&& (2147483647 : Int32)) % (5 : Int32)) + (1 : Int32)) c4 (0 : Int32) b0 l0 h4 n0 o5 ho5 O_4 E_4 F_types_4 F_classes_4 F_open_4 F_payload_4 F_position_4 A0_4 g_4 g0 (Ne.symm ne0_1_4)) (by decide) (by decide) (by decide) (by decide) e4 (g := (mkF m 52 #[.val (.int x0), .val (.int x1), .val (.int x2), .val (.int x3), .val (.int x4), .val (.ref b0), .unset, .unset, .unset] [(.int (((x1 &&& (2147483647 : Int32)) % (5 : Int32)) + (1 : Int32))), (.ref b0), (.ref c4), (.ref c4)])) rfl (by rw [hml]; rfl) (argsL := [(.ref b0), (.int (((x1 &&& (2147483647 : Int32)) % (5 : Int32)) + (1 : Int32)))]) (rest := [(.ref c4)]) (lenOf pd1 rfl) rfl (by show 2 * 0 + _ ≤ _; exact Nat.le_of_eq rfl) (hb hby at_52)
    obtain ⟨c5_0, c5_1, c5_2, c5_3, c5_4, rfl, Nq5, Kq5, F1_types_5, F1_classes_5, F1_open_5, F1_payload_5, F1_position_5, zq5_0, gq5_0, Eq5_0, Fq5_0_modCount, zq5_1, gq5_1, Eq5_1, Fq5_1_modCount, zq5_2, gq5_2, Eq5_2, Fq5_2_starts, Fq5_2_remainings, Fq5_2_maxDepth, zq5_3, gq5_3, Aq5_3, zq5_4, gq5_4, Aq5_4, neq5_0_1, neq5_0_2, neq5_1_2, neq5_0_3, neq5_1_3, neq5_2_3, neq5_0_4, neq5_1_4, neq5_2_4, neq5_3_4⟩ := hQ5
    have X5 : Stand p l e room_1 s m args below meth c T5 _ 7 67 := X5'
    have ne0_2_5 : b0 ≠ c5_0 := Nat.ne_of_lt (Nat.lt_of_lt_of_le A0_4.lt zq5_0)
    have ne1_2_5 : c4 ≠ c5_0 := Nat.ne_of_lt (Nat.lt_of_lt_of_le E_4.lt zq5_0)
    have z_5_0 : h0.size ≤ c5_0 := Nat.le_trans K_4.1 zq5_0
    have ne0_3_5 : b0 ≠ c5_1 := Nat.ne_of_lt (Nat.lt_of_lt_of_le A0_4.lt zq5_1)
    have ne1_3_5 : c4 ≠ c5_1 := Nat.ne_of_lt (Nat.lt_of_lt_of_le E_4.lt zq5_1)
    have z_5_1 : h0.size ≤ c5_1 := Nat.le_trans K_4.1 zq5_1
    have ne0_4_5 : b0 ≠ c5_2 := Nat.ne_of_lt (Nat.lt_of_lt_of_le A0_4.lt zq5_2)
    have ne1_4_5 : c4 ≠ c5_2 := Nat.ne_of_lt (Nat.lt_of_lt_of_le E_4.lt zq5_2)
    have z_5_2 : h0.size ≤ c5_2 := Nat.le_trans K_4.1 zq5_2
    have ne0_5_5 : b0 ≠ c5_3 := Nat.ne_of_lt (Nat.lt_of_lt_of_le A0_4.lt zq5_3)
    have ne1_5_5 : c4 ≠ c5_3 := Nat.ne_of_lt (Nat.lt_of_lt_of_le E_4.lt zq5_3)
    have z_5_3 : h0.size ≤ c5_3 := Nat.le_trans K_4.1 zq5_3
    have ne0_6_5 : b0 ≠ c5_4 := Nat.ne_of_lt (Nat.lt_of_lt_of_le A0_4.lt zq5_4)
    have ne1_6_5 : c4 ≠ c5_4 := Nat.ne_of_lt (Nat.lt_of_lt_of_le E_4.lt zq5_4)
    have z_5_4 : h0.size ≤ c5_4 := Nat.le_trans K_4.1 zq5_4
    have A0_5 := A0_4.keep Kq5 (ninS ne0_1_4 nin0)
    have E1_5 := E_4.keep Kq5
    have N_5 := Fr.app N0 Nq5
    have O_5 := O_4.keep Kq5 (allS g_4 all0)
    have K_5 := K_4.trans Kq5 (allS (Or.inr z_4) all0)
    refine OwnOut.go (fun t k => st5 _ k) ?_
    show OwnOut p e s below 24 192 _ (T5.setTop (mkF m 55 #[.val (.int x0), .val (.int x1), .val (.int x2), .val (.int x3), .val (.int x4), .val (.ref b0), .unset, .unset, .unset] [(.ref c4)]))
    refine OwnOut.go (fun t k => XS.astore X5.here hx rfl (hb hby at_55) rfl rfl (l' := #[.val (.int x0), .val (.int x1), .val (.int x2), .val (.int x3), .val (.int x4), .val (.ref b0), .val (.ref c4), .unset, .unset]) rfl k) ?_
    show OwnOut p e s below 24 192 _ (T5.setTop (mkF m 57 #[.val (.int x0), .val (.int x1), .val (.int x2), .val (.int x3), .val (.int x4), .val (.ref b0), .val (.ref c4), .unset, .unset] []))
    refine OwnOut.go (fun t k => XS.aload X5.here hx rfl (hb hby at_57) rfl rfl k) ?_
    show OwnOut p e s below 24 192 _ (T5.setTop (mkF m 59 #[.val (.int x0), .val (.int x1), .val (.int x2), .val (.int x3), .val (.int x4), .val (.ref b0), .val (.ref c4), .unset, .unset] [(.ref c4)]))
    obtain ⟨o6, ho6, hr⟩ := Option.bind_eq_some_iff.mp hr
    obtain ⟨r6, T6, L6, X6', hQ6, st6⟩ := callV (W := 0) (rm := rx7) X5 hx hZ (y := (⟨"com/example/tagwire/tagwire/hessian2/Hessian2Reader", "hasNext", "()Z"⟩ : MethodName)) hown (hw _ (List.mem_of_getElem? (i := 57) rfl)) (hw _ (List.mem_of_getElem? (i := 58) rfl)) (hw _ (List.mem_of_getElem? (i := 60) rfl)) (hw _ (List.mem_of_getElem? (i := 59) rfl)) (hw _ (List.mem_of_getElem? (i := 3) rfl)) (hw _ (List.mem_of_getElem? (i := 61) rfl)) (by decide) (rm7 l Z a0 hw hsx [] c4 (0 : Int32) c5_0 o5.1 c5_1 o5.2.1 c5_2 o5.2.2.1 c5_3 o5.2.2.2.1 c5_4 o5.2.2.2.2 b0 l0 T5.heap o6 ho6 E1_5 F1_types_5 F1_classes_5 F1_open_5 F1_payload_5 F1_position_5 Eq5_0 Fq5_0_modCount Eq5_1 Fq5_1_modCount Eq5_2 Fq5_2_starts Fq5_2_remainings Fq5_2_maxDepth Aq5_3 Aq5_4 A0_5) (by decide) (by decide) (by decide) (by decide) rfl E1_5 (g := (mkF m 59 #[.val (.int x0), .val (.int x1), .val (.int x2), .val (.int x3), .val (.int x4), .val (.ref b0), .val (.ref c4), .unset, .unset] [(.ref c4)])) rfl (by rw [hml]; rfl) (argsL := []) (rest := []) (lenOf pd7 rfl) rfl (by show 2 * 0 + _ ≤ _; exact Nat.le_of_eq rfl) (hb hby at_59)
    obtain ⟨rfl, e6, rfl⟩ := hQ6
    rw [List.append_nil] at X6'
    have X6 : Stand p l e room_1 s m args below meth c T6 _ 7 67 := X6'
    refine OwnOut.go (fun t k => st6 _ k) ?_
    show OwnOut p e s below 24 192 _ (T6.setTop (mkF m 62 #[.val (.int x0), .val (.int x1), .val (.int x2), .val (.int x3), .val (.int x4), .val (.ref b0), .val (.ref c4), .unset, .unset] [(.int o6)]))
    refine OwnOut.go (fun t k => XS.istore X6.here hx rfl (hb hby at_62) rfl (l' := #[.val (.int x0), .val (.int x1), .val (.int x2), .val (.int x3), .val (.int x4), .val (.ref b0), .val (.ref c4), .val (.int o6), .unset]) rfl k) ?_
    show OwnOut p e s below 24 192 _ (T6.setTop (mkF m 64 #[.val (.int x0), .val (.int x1), .val (.int x2), .val (.int x3), .val (.int x4), .val (.ref b0), .val (.ref c4), .val (.int o6), .unset] []))
    refine OwnOut.go (fun t k => XS.aload X6.here hx rfl (hb hby at_64) rfl rfl k) ?_
    show OwnOut p e s below 24 192 _ (T6.setTop (mkF m 66 #[.val (.int x0), .val (.int x1), .val (.int x2), .val (.int x3), .val (.int x4), .val (.ref b0), .val (.ref c4), .val (.int o6), .unset] [(.ref c4)]))
    obtain ⟨o7, ho7, hr⟩ := Option.bind_eq_some_iff.mp hr
    obtain ⟨r7, T7, L7, X7', hQ7, st7⟩ := callV (W := 0) (rm := rx7) X6 hx hZ (y := (⟨"com/example/tagwire/tagwire/hessian2/Hessian2Reader", "hasNext", "()Z"⟩ : MethodName)) hown (hw _ (List.mem_of_getElem? (i := 57) rfl)) (hw _ (List.mem_of_getElem? (i := 58) rfl)) (hw _ (List.mem_of_getElem? (i := 60) rfl)) (hw _ (List.mem_of_getElem? (i := 59) rfl)) (hw _ (List.mem_of_getElem? (i := 3) rfl)) (hw _ (List.mem_of_getElem? (i := 61) rfl)) (by decide) (rm7 l Z a0 hw hsx [] c4 (0 : Int32) c5_0 o5.1 c5_1 o5.2.1 c5_2 o5.2.2.1 c5_3 o5.2.2.2.1 c5_4 o5.2.2.2.2 b0 l0 T5.heap o7 ho7 E1_5 F1_types_5 F1_classes_5 F1_open_5 F1_payload_5 F1_position_5 Eq5_0 Fq5_0_modCount Eq5_1 Fq5_1_modCount Eq5_2 Fq5_2_starts Fq5_2_remainings Fq5_2_maxDepth Aq5_3 Aq5_4 A0_5) (by decide) (by decide) (by decide) (by decide) e6 E1_5 (g := (mkF m 66 #[.val (.int x0), .val (.int x1), .val (.int x2), .val (.int x3), .val (.int x4), .val (.ref b0), .val (.ref c4), .val (.int o6), .unset] [(.ref c4)])) rfl (by rw [hml]; rfl) (argsL := []) (rest := []) (lenOf pd7 rfl) rfl (by show 2 * 0 + _ ≤ _; exact Nat.le_of_eq rfl) (hb hby at_66)
    obtain ⟨rfl, e7, rfl⟩ := hQ7
    rw [List.append_nil] at X7'
    have X7 : Stand p l e room_1 s m args below meth c T7 _ 7 67 := X7'
    refine OwnOut.go (fun t k => st7 _ k) ?_
    show OwnOut p e s below 24 192 _ (T7.setTop (mkF m 69 #[.val (.int x0), .val (.int x1), .val (.int x2), .val (.int x3), .val (.int x4), .val (.ref b0), .val (.ref c4), .val (.int o6), .unset] [(.int o7)]))
    refine OwnOut.go (fun t k => XS.istore X7.here hx rfl (hb hby at_69) rfl (l' := #[.val (.int x0), .val (.int x1), .val (.int x2), .val (.int x3), .val (.int x4), .val (.ref b0), .val (.ref c4), .val (.int o6), .val (.int o7)]) rfl k) ?_
    show OwnOut p e s below 24 192 _ (T7.setTop (mkF m 71 #[.val (.int x0), .val (.int x1), .val (.int x2), .val (.int x3), .val (.int x4), .val (.ref b0), .val (.ref c4), .val (.int o6), .val (.int o7)] []))
    refine OwnOut.go (fun t k => XS.iload X7.here hx rfl (hb hby at_71) rfl k) ?_
    show OwnOut p e s below 24 192 _ (T7.setTop (mkF m 73 #[.val (.int x0), .val (.int x1), .val (.int x2), .val (.int x3), .val (.int x4), .val (.ref b0), .val (.ref c4), .val (.int o6), .val (.int o7)] [(.int o6)]))
    refine OwnOut.go (fun t k => XS.iload X7.here hx rfl (hb hby at_73) rfl k) ?_
    show OwnOut p e s below 24 192 _ (T7.setTop (mkF m 75 #[.val (.int x0), .val (.int x1), .val (.int x2), .val (.int x3), .val (.int x4), .val (.ref b0), .val (.ref c4), .val (.int o6), .val (.int o7)] [(.int x4), (.int o6)]))
    by_cases hc75 : (0 : Int32) < x4
    · rw [if_pos hc75] at hr
      refine OwnOut.go (fun t k => XS.ifNo X7.here hx rfl (hb hby at_75) rfl (XT.i0_le_f hc75) k) ?_
      show OwnOut p e s below 24 192 _ (T7.setTop (mkF m 78 #[.val (.int x0), .val (.int x1), .val (.int x2), .val (.int x3), .val (.int x4), .val (.ref b0), .val (.ref c4), .val (.int o6), .val (.int o7)] [(.int o6)]))
      refine OwnOut.go (fun t k => XT.iconstV X7.here hx rfl (1 : Int32) (hb hby at_78) rfl k) ?_
      show OwnOut p e s below 24 192 _ (T7.setTop (mkF m 79 #[.val (.int x0), .val (.int x1), .val (.int x2), .val (.int x3), .val (.int x4), .val (.ref b0), .val (.ref c4), .val (.int o6), .val (.int o7)] [(.int (1 : Int32)), (.int o6)]))
      refine OwnOut.go (fun t k => XS.goto X7.here hx rfl (pc0 := 79) (pc' := 83) rfl (hb hby at_79) (by decide) (by decide) k) ?_
      show OwnOut p e s below 24 192 _ (T7.setTop (mkF m 83 #[.val (.int x0), .val (.int x1), .val (.int x2), .val (.int x3), .val (.int x4), .val (.ref b0), .val (.ref c4), .val (.int o6), .val (.int o7)] [(.int (1 : Int32)), (.int o6)]))
      exact w0_83 ⟨hx, hZ, hw, hby, hml, hown, hret, hlk, hnm, hsx⟩  _ _ _ x0 x1 x2 x3 x4 o6 o7 (1 : Int32) o6 b0 l0 c4 (0 : Int32) c5_0 o5.1 c5_1 o5.2.1 c5_2 o5.2.2.1 c5_3 o5.2.2.2.1 c5_4 o5.2.2.2.2 _ hr X7 e7 N_5 O_5 K_5 A0_5 E1_5 F1_types_5 F1_classes_5 F1_open_5 F1_payload_5 F1_position_5 Eq5_0 Fq5_0_modCount Eq5_1 Fq5_1_modCount Eq5_2 Fq5_2_starts Fq5_2_remainings Fq5_2_maxDepth Aq5_3 Aq5_4 g0 z0 g_4 z_4 gq5_0 z_5_0 gq5_1 z_5_1 gq5_2 z_5_2 gq5_3 z_5_3 gq5_4 z_5_4 ne0_1_4 ne0_2_5 ne0_3_5 ne0_4_5 ne0_5_5 ne0_6_5 ne1_2_5 ne1_3_5 ne1_4_5 ne1_5_5 ne1_6_5 neq5_0_1 neq5_0_2 neq5_0_3 neq5_0_4 neq5_1_2 neq5_1_3 neq5_1_4 neq5_2_3 neq5_2_4 neq5_3_4
    · rw [if_neg hc75] at hr
      refine OwnOut.go (fun t k => XS.ifYes X7.here hx rfl (pc0 := 75) (pc' := 82) rfl (hb hby at_75) rfl (XT.i0_le_t hc75) (by decide) (by decide) k) ?_
      show OwnOut p e s below 24 192 _ (T7.setTop (mkF m 82 #[.val (.int x0), .val (.int x1), .val (.int x2), .val (.int x3), .val (.int x4), .val (.ref b0), .val (.ref c4), .val (.int o6), .val (.int o7)] [(.int o6)]))
      refine OwnOut.go (fun t k => XT.iconstV X7.here hx rfl (0 : Int32) (hb hby at_82) rfl k) ?_
      show OwnOut p e s below 24 192 _ (T7.setTop (mkF m 83 #[.val (.int x0), .val (.int x1), .val (.int x2), .val (.int x3), .val (.int x4), .val (.ref b0), .val (.ref c4), .val (.int o6), .val (.int o7)] [(.int (0 : Int32)), (.int o6)]))
      exact w0_83 ⟨hx, hZ, hw, hby, hml, hown, hret, hlk, hnm, hsx⟩  _ _ _ x0 x1 x2 x3 x4 o6 o7 (0 : Int32) o6 b0 l0 c4 (0 : Int32) c5_0 o5.1 c5_1 o5.2.1 c5_2 o5.2.2.1 c5_3 o5.2.2.2.1 c5_4 o5.2.2.2.2 _ hr X7 e7 N_5 O_5 K_5 A0_5 E1_5 F1_types_5 F1_classes_5 F1_open_5 F1_payload_5 F1_position_5 Eq5_0 Fq5_0_modCount Eq5_1 Fq5_1_modCount Eq5_2 Fq5_2_starts Fq5_2_remainings Fq5_2_maxDepth Aq5_3 Aq5_4 g0 z0 g_4 z_4 gq5_0 z_5_0 gq5_1 z_5_1 gq5_2 z_5_2 gq5_3 z_5_3 gq5_4 z_5_4 ne0_1_4 ne0_2_5 ne0_3_5 ne0_4_5 ne0_5_5 ne0_6_5 ne1_2_5 ne1_3_5 ne1_4_5 ne1_5_5 ne1_6_5 neq5_0_1 neq5_0_2 neq5_0_3 neq5_0_4 neq5_1_2 neq5_1_3 neq5_1_4 neq5_2_3 neq5_2_4 neq5_3_4
def f0_23 (x1 : Int32) (x3 : Int32) (x4 : Int32) (l0 : List Int32) : Option (Int32) := (if (1 : Int32) < x4 then ((stx l0 (x4 - (1 : Int32)) (x3.toInt8.toInt32).toInt8.toInt32).bind fun l_3 => (f0_38 x1 x4 l_3)) else (f0_38 x1 x4 l0))
set_option maxRecDepth 65536 in
set_option maxHeartbeats 40000000 in
theorem w0_23 {p : Program} {l : Launch} {e : Env} {s : State} {m : MethodId} {args : Array Value} {below : List Frame} {meth : Method} {c : Code} {Z : State} {a0 : Array Value} {h0 : Heap} {n0 : Nat} (C : Cx0 Z a0 p s m meth c) :
    ∀ (T : State) (locs : List Loc) (hA : Heap) (x0 : Int32) (x1 : Int32) (x2 : Int32) (x3 : Int32) (x4 : Int32) (b0 : Addr) (l0 : List Int32) (o : Int32), f0_23 x1 x3 x4 l0 = some o → Stand p l e room_1 s m args below meth c T locs 1 16 → T.heap = hA → Fr n0 locs → Old Z n0 hA → Keep h0 hA [] → (Ari Z hA b0 .byte l0) → (n0 ≤ b0) → (h0.size ≤ b0) →  OwnOut p e s below 24 192 (Q0 Z default default default default h0 n0 o) (T.setTop (mkF m 23 #[.val (.int x0), .val (.int x1), .val (.int x2), .val (.int x3), .val (.int x4), .val (.ref b0), .unset, .unset, .unset] [])) := by
    obtain ⟨hx, hZ, hw, hby, hml, hown, hret, hlk, hnm, hsx⟩ := C
    intro T locs hA x0 x1 x2 x3 x4 b0 l0 o hr X0 e0 N0 O0 K0 A0 g0 z0
    rw [f0_23] at hr
    refine OwnOut.go (fun t k => XS.iload X0.here hx rfl (hb hby at_23) rfl k) ?_
    show OwnOut p e s below 24 192 _ (T.setTop (mkF m 25 #[.val (.int x0), .val (.int x1), .val (.int x2), .val (.int x3), .val (.int x4), .val (.ref b0), .unset, .unset, .unset] [(.int x4)]))
    refine OwnOut.go (fun t k => XT.iconstV X0.here hx rfl (1 : Int32) (hb hby at_25) rfl k) ?_
    show OwnOut p e s below 24 192 _ (T.setTop (mkF m 26 #[.val (.int x0), .val (.int x1), .val (.int x2), .val (.int x3), .val (.int x4), .val (.ref b0), .unset, .unset, .unset] [(.int (1 : Int32)), (.int x4)]))
    by_cases hc26 : (1 : Int32) < x4
    · rw [if_pos hc26] at hr
      refine OwnOut.go (fun t k => XS.icmpNo X0.here hx rfl (hb hby at_26) rfl (XT.ii_le_f hc26) k) ?_
      show OwnOut p e s below 24 192 _ (T.setTop (mkF m 29 #[.val (.int x0), .val (.int x1), .val (.int x2), .val (.int x3), .val (.int x4), .val (.ref b0), .unset, .unset, .unset] []))
      refine OwnOut.go (fun t k => XS.aload X0.here hx rfl (hb hby at_29) rfl rfl k) ?_
      show OwnOut p e s below 24 192 _ (T.setTop (mkF m 31 #[.val (.int x0), .val (.int x1), .val (.int x2), .val (.int x3), .val (.int x4), .val (.ref b0), .unset, .unset, .unset] [(.ref b0)]))
      refine OwnOut.go (fun t k => XS.iload X0.here hx rfl (hb hby at_31) rfl k) ?_
      show OwnOut p e s below 24 192 _ (T.setTop (mkF m 33 #[.val (.int x0), .val (.int x1), .val (.int x2), .val (.int x3), .val (.int x4), .val (.ref b0), .unset, .unset, .unset] [(.int x4), (.ref b0)]))
      refine OwnOut.go (fun t k => XT.iconstV X0.here hx rfl (1 : Int32) (hb hby at_33) rfl k) ?_
      show OwnOut p e s below 24 192 _ (T.setTop (mkF m 34 #[.val (.int x0), .val (.int x1), .val (.int x2), .val (.int x3), .val (.int x4), .val (.ref b0), .unset, .unset, .unset] [(.int (1 : Int32)), (.int x4), (.ref b0)]))
      refine OwnOut.go (fun t k => XS.isub X0.here hx rfl (hb hby at_34) rfl k) ?_
      show OwnOut p e s below 24 192 _ (T.setTop (mkF m 35 #[.val (.int x0), .val (.int x1), .val (.int x2), .val (.int x3), .val (.int x4), .val (.ref b0), .unset, .unset, .unset] [(.int (x4 - (1 : Int32))), (.ref b0)]))
      refine OwnOut.go (fun t k => XS.iloadN X0.here hx rfl (hb hby at_35) rfl k) ?_
      show OwnOut p e s below 24 192 _ (T.setTop (mkF m 36 #[.val (.int x0), .val (.int x1), .val (.int x2), .val (.int x3), .val (.int x4), .val (.ref b0), .unset, .unset, .unset] [(.int x3), (.int (x4 - (1 : Int32))), (.ref b0)]))
      refine OwnOut.go (fun t k => XS.i2b X0.here hx rfl (hb hby at_36) rfl k) ?_
      show OwnOut p e s below 24 192 _ (T.setTop (mkF m 37 #[.val (.int x0), .val (.int x1), .val (.int x2), .val (.int x3), .val (.int x4), .val (.ref b0), .unset, .unset, .unset] [(.int (x3.toInt8.toInt32)), (.int (x4 - (1 : Int32))), (.ref b0)]))
      obtain ⟨l_3, hl3, hr⟩ := Option.bind_eq_some_iff.mp hr
      obtain ⟨T3, h3, X3, e3, W3, A_3, st3⟩ := saB X0 hx hZ e0 A0 hl3 (g := (mkF m 37 #[.val (.int x0), .val (.int x1), .val (.int x2), .val (.int x3), .val (.int x4), .val (.ref b0), .unset, .unset, .unset] [(.int (x3.toInt8.toInt32)), (.int (x4 - (1 : Int32))), (.ref b0)])) rfl rfl (hb hby at_37)
      refine OwnOut.go (fun t k => st3 _ k) ?_
      have N_3 := Fr.snoc X3 N0 g0
      have O_3 := O0.wr W3 g0
      have K_3 := K0.wr W3 (Or.inr z0)
      show OwnOut p e s below 24 192 _ (T3.setTop (mkF m 38 #[.val (.int x0), .val (.int x1), .val (.int x2), .val (.int x3), .val (.int x4), .val (.ref b0), .unset, .unset, .unset] []))
      exact w0_38 ⟨hx, hZ, hw, hby, hml, hown, hret, hlk, hnm, hsx⟩  _ _ _ x0 x1 x2 x3 x4 b0 l_3 _ hr X3 e3 N_3 O_3 K_3 A_3 g0 z0
    · rw [if_neg hc26] at hr
      refine OwnOut.go (fun t k => XS.icmpYes X0.here hx rfl (pc0 := 26) (pc' := 38) rfl (hb hby at_26) rfl (XT.ii_le_t hc26) (by decide) (by decide) k) ?_
      show OwnOut p e s below 24 192 _ (T.setTop (mkF m 38 #[.val (.int x0), .val (.int x1), .val (.int x2), .val (.int x3), .val (.int x4), .val (.ref b0), .unset, .unset, .unset] []))
      exact w0_38 ⟨hx, hZ, hw, hby, hml, hown, hret, hlk, hnm, hsx⟩  _ _ _ x0 x1 x2 x3 x4 b0 l0 _ hr X0 e0 N0 O0 K0 A0 g0 z0
def f0 (x0 : Int32) (x1 : Int32) (x2 : Int32) (x3 : Int32) : Option (Int32) := ((nwx (0 : Int32) 16 (x0 &&& (7 : Int32))).bind fun l_1 => (if (0 : Int32) < (x0 &&& (7 : Int32)) then ((stx l_1 (0 : Int32) (x2.toInt8.toInt32).toInt8.toInt32).bind fun l_2 => (f0_23 x1 x3 (x0 &&& (7 : Int32)) l_2)) else (f0_23 x1 x3 (x0 &&& (7 : Int32)) l_1)))
set_option maxRecDepth 65536 in
set_option maxHeartbeats 40000000 in
theorem w0_0 {p : Program} {l : Launch} {e : Env} {s : State} {m : MethodId} {args : Array Value} {below : List Frame} {meth : Method} {c : Code} {Z : State} {a0 : Array Value} {h0 : Heap} {n0 : Nat} (C : Cx0 Z a0 p s m meth c) :
    ∀ (T : State) (locs : List Loc) (hA : Heap) (x0 : Int32) (x1 : Int32) (x2 : Int32) (x3 : Int32) (o : Int32), f0 x0 x1 x2 x3 = some o → Stand p l e room_1 s m args below meth c T locs 0 0 → T.heap = hA → Fr n0 locs → Old Z n0 hA → Keep h0 hA [] →  OwnOut p e s below 24 192 (Q0 Z default default default default h0 n0 o) (T.setTop (mkF m 0 #[.val (.int x0), .val (.int x1), .val (.int x2), .val (.int x3), .unset, .unset, .unset, .unset, .unset] [])) := by
    obtain ⟨hx, hZ, hw, hby, hml, hown, hret, hlk, hnm, hsx⟩ := C
    intro T locs hA x0 x1 x2 x3 o hr X0 e0 N0 O0 K0
    rw [f0] at hr
    refine OwnOut.go (fun t k => XS.iloadN X0.here hx rfl (hb hby at_0) rfl k) ?_
    show OwnOut p e s below 24 192 _ (T.setTop (mkF m 1 #[.val (.int x0), .val (.int x1), .val (.int x2), .val (.int x3), .unset, .unset, .unset, .unset, .unset] [(.int x0)]))
    refine OwnOut.go (fun t k => XT.bipushV X0.here hx rfl (7 : Int32) (hb hby at_1) rfl k) ?_
    show OwnOut p e s below 24 192 _ (T.setTop (mkF m 3 #[.val (.int x0), .val (.int x1), .val (.int x2), .val (.int x3), .unset, .unset, .unset, .unset, .unset] [(.int (7 : Int32)), (.int x0)]))
    refine OwnOut.go (fun t k => XS.iand X0.here hx rfl (hb hby at_3) rfl k) ?_
    show OwnOut p e s below 24 192 _ (T.setTop (mkF m 4 #[.val (.int x0), .val (.int x1), .val (.int x2), .val (.int x3), .unset, .unset, .unset, .unset, .unset] [(.int (x0 &&& (7 : Int32)))]))
    refine OwnOut.go (fun t k => XS.istore X0.here hx rfl (hb hby at_4) rfl (l' := #[.val (.int x0), .val (.int x1), .val (.int x2), .val (.int x3), .val (.int (x0 &&& (7 : Int32))), .unset, .unset, .unset, .unset]) rfl k) ?_
    show OwnOut p e s below 24 192 _ (T.setTop (mkF m 6 #[.val (.int x0), .val (.int x1), .val (.int x2), .val (.int x3), .val (.int (x0 &&& (7 : Int32))), .unset, .unset, .unset, .unset] []))
    refine OwnOut.go (fun t k => XS.iload X0.here hx rfl (hb hby at_6) rfl k) ?_
    show OwnOut p e s below 24 192 _ (T.setTop (mkF m 8 #[.val (.int x0), .val (.int x1), .val (.int x2), .val (.int x3), .val (.int (x0 &&& (7 : Int32))), .unset, .unset, .unset, .unset] [(.int (x0 &&& (7 : Int32)))]))
    obtain ⟨l_1, hl1, hr⟩ := Option.bind_eq_some_iff.mp hr
    obtain ⟨T1, h1, X1, e1, Ex1, A_1, st1⟩ := nwA X0 hx hZ (hw _ (List.mem_of_getElem? (i := 0) rfl)) e0 hl1 (f := Value.int) rfl (g := (mkF m 8 #[.val (.int x0), .val (.int x1), .val (.int x2), .val (.int x3), .val (.int (x0 &&& (7 : Int32))), .unset, .unset, .unset, .unset] [(.int (x0 &&& (7 : Int32)))])) rfl rfl (hb hby at_8) (by decide) (by decide) (by decide)
    obtain ⟨c1, gc1⟩ : ∃ z, z = hA.size := ⟨_, rfl⟩
    rw [← gc1] at A_1 st1
    refine OwnOut.go (fun t k => st1 _ k) ?_
    have g_1 : n0 ≤ c1 := gc1 ▸ (O0.1 ▸ O0.2.1)
    have z_1 : h0.size ≤ c1 := gc1 ▸ K0.1
    have O_1 := O0.ext Ex1
    have K_1 := K0.ext Ex1
    show OwnOut p e s below 24 192 _ (T1.setTop (mkF m 10 #[.val (.int x0), .val (.int x1), .val (.int x2), .val (.int x3), .val (.int (x0 &&& (7 : Int32))), .unset, .unset, .unset, .unset] [(.ref c1)]))
    refine OwnOut.go (fun t k => XS.astore X1.here hx rfl (hb hby at_10) rfl rfl (l' := #[.val (.int x0), .val (.int x1), .val (.int x2), .val (.int x3), .val (.int (x0 &&& (7 : Int32))), .val (.ref c1), .unset, .unset, .unset]) rfl k) ?_
    show OwnOut p e s below 24 192 _ (T1.setTop (mkF m 12 #[.val (.int x0), .val (.int x1), .val (.int x2), .val (.int x3), .val (.int (x0 &&& (7 : Int32))), .val (.ref c1), .unset, .unset, .unset] []))
    refine OwnOut.go (fun t k => XS.iload X1.here hx rfl (hb hby at_12) rfl k) ?_
    show OwnOut p e s below 24 192 _ (T1.setTop (mkF m 14 #[.val (.int x0), .val (.int x1), .val (.int x2), .val (.int x3), .val (.int (x0 &&& (7 : Int32))), .val (.ref c1), .unset, .unset, .unset] [(.int (x0 &&& (7 : Int32)))]))
    by_cases hc14 : (0 : Int32) < (x0 &&& (7 : Int32))
    · rw [if_pos hc14] at hr
      refine OwnOut.go (fun t k => XS.ifNo X1.here hx rfl (hb hby at_14) rfl (XT.i0_le_f hc14) k) ?_
      show OwnOut p e s below 24 192 _ (T1.setTop (mkF m 17 #[.val (.int x0), .val (.int x1), .val (.int x2), .val (.int x3), .val (.int (x0 &&& (7 : Int32))), .val (.ref c1), .unset, .unset, .unset] []))
      refine OwnOut.go (fun t k => XS.aload X1.here hx rfl (hb hby at_17) rfl rfl k) ?_
      show OwnOut p e s below 24 192 _ (T1.setTop (mkF m 19 #[.val (.int x0), .val (.int x1), .val (.int x2), .val (.int x3), .val (.int (x0 &&& (7 : Int32))), .val (.ref c1), .unset, .unset, .unset] [(.ref c1)]))
      refine OwnOut.go (fun t k => XT.iconstV X1.here hx rfl (0 : Int32) (hb hby at_19) rfl k) ?_
      show OwnOut p e s below 24 192 _ (T1.setTop (mkF m 20 #[.val (.int x0), .val (.int x1), .val (.int x2), .val (.int x3), .val (.int (x0 &&& (7 : Int32))), .val (.ref c1), .unset, .unset, .unset] [(.int (0 : Int32)), (.ref c1)]))
      refine OwnOut.go (fun t k => XS.iloadN X1.here hx rfl (hb hby at_20) rfl k) ?_
      show OwnOut p e s below 24 192 _ (T1.setTop (mkF m 21 #[.val (.int x0), .val (.int x1), .val (.int x2), .val (.int x3), .val (.int (x0 &&& (7 : Int32))), .val (.ref c1), .unset, .unset, .unset] [(.int x2), (.int (0 : Int32)), (.ref c1)]))
      refine OwnOut.go (fun t k => XS.i2b X1.here hx rfl (hb hby at_21) rfl k) ?_
      show OwnOut p e s below 24 192 _ (T1.setTop (mkF m 22 #[.val (.int x0), .val (.int x1), .val (.int x2), .val (.int x3), .val (.int (x0 &&& (7 : Int32))), .val (.ref c1), .unset, .unset, .unset] [(.int (x2.toInt8.toInt32)), (.int (0 : Int32)), (.ref c1)]))
      obtain ⟨l_2, hl2, hr⟩ := Option.bind_eq_some_iff.mp hr
      obtain ⟨T2, h2, X2, e2, W2, A_2, st2⟩ := saB X1 hx hZ e1 A_1 hl2 (g := (mkF m 22 #[.val (.int x0), .val (.int x1), .val (.int x2), .val (.int x3), .val (.int (x0 &&& (7 : Int32))), .val (.ref c1), .unset, .unset, .unset] [(.int (x2.toInt8.toInt32)), (.int (0 : Int32)), (.ref c1)])) rfl rfl (hb hby at_22)
      refine OwnOut.go (fun t k => st2 _ k) ?_
      have N_2 := Fr.snoc X2 N0 g_1
      have O_2 := O_1.wr W2 g_1
      have K_2 := K_1.wr W2 (Or.inr z_1)
      show OwnOut p e s below 24 192 _ (T2.setTop (mkF m 23 #[.val (.int x0), .val (.int x1), .val (.int x2), .val (.int x3), .val (.int (x0 &&& (7 : Int32))), .val (.ref c1), .unset, .unset, .unset] []))
      exact w0_23 ⟨hx, hZ, hw, hby, hml, hown, hret, hlk, hnm, hsx⟩  _ _ _ x0 x1 x2 x3 (x0 &&& (7 : Int32)) c1 l_2 _ hr X2 e2 N_2 O_2 K_2 A_2 g_1 z_1
    · rw [if_neg hc14] at hr
      refine OwnOut.go (fun t k => XS.ifYes X1.here hx rfl (pc0 := 14) (pc' := 23) rfl (hb hby at_14) rfl (XT.i0_le_t hc14) (by decide) (by decide) k) ?_
      show OwnOut p e s below 24 192 _ (T1.setTop (mkF m 23 #[.val (.int x0), .val (.int x1), .val (.int x2), .val (.int x3), .val (.int (x0 &&& (7 : Int32))), .val (.ref c1), .unset, .unset, .unset] []))
      exact w0_23 ⟨hx, hZ, hw, hby, hml, hown, hret, hlk, hnm, hsx⟩  _ _ _ x0 x1 x2 x3 (x0 &&& (7 : Int32)) c1 l_1 _ hr X1 e1 N0 O_1 K_1 A_1 g_1 z_1
set_option maxRecDepth 65536 in
set_option maxHeartbeats 40000000 in
theorem rm0 (l : Launch) (Z : State) (a0 : Array Value) (hw : ∀ d ∈ tables_1, d.before a0 Z = true) (hsx : SX Z) (ws : List Jvm.Cond) (x0 : Int32) (x1 : Int32) (x2 : Int32) (x3 : Int32) (h0 : Heap) (n0 : Nat) (o : Int32) (hr : f0 x0 x1 x2 x3 = some o) (O0 : Old Z n0 h0) :
    MetFree l x (head1 (Jvm.Cond.code x code maxLocals ret :: ws) room_1) (fun a U => a = #[(.int x0), (.int x1), (.int x2), (.int x3)] ∧ Z.Warmed39 U.vm ∧ U.heap = h0) (fun _ _ _ _ _ => True) (fun _ U o' U' => ∃ v L, o' = .returned v ∧ Q0 Z x0 x1 x2 x3 h0 n0 o v U'.heap L ∧ FrameEnd U o' U' L 24 192) := by
  refine MetFree.of_bodySF (plainFor_of_name pn0) hisR ?_
  intro p e s m args below meth c s₁ Bd hml0 hP hK
  obtain ⟨rfl, hZ, hh⟩ := hP
  have X0 : Stand p l e room_1 s m #[(.int x0), (.int x1), (.int x2), (.int x3)] below meth c s₁ [] 0 0 := Stand.of_body Bd
  have e0 : s₁.heap = h0 := by rw [← hh, Bd.state]; rfl
  exact OwnOut.at (ef0 m x0 x1 x2 x3) (w0_0 ⟨Bd.exec, hZ, hw, Bd.bytes, hml0, findClass_of_methodNamed Bd.named, Bd.returns, Bd.notSynchronized, (name_of_methodNamed Bd.named Bd.method).1, hsx⟩ _ _ _ x0 x1 x2 x3 o hr X0 e0 (Fr.nil n0) O0 (Keep.refl _ _) )
theorem own_len {xs : List Int32} {n : Int32} (h : xs.length = n.toNatClampNeg) (hn : ¬ n < 0) : lenx xs = n := by
  unfold lenx; rw [h]; exact (back32 hn).1
theorem own_st {xs : List Int32} {j v : Int32} {n : Int32} (h : xs.length = n.toNatClampNeg) (hn : ¬ n < 0) (h0 : ¬ j < 0) (h1 : j < n) : ∃ ys, stx xs j v = some ys ∧ ys.length = n.toNatClampNeg := by
  refine ⟨xs.set j.toNatClampNeg v, ?_, by rw [List.length_set]; exact h⟩
  unfold stx
  rw [if_neg h0, if_neg]
  rw [Int32.lt_iff_toInt_lt] at h0 hn h1
  have : (0 : Int32).toInt = 0 := by decide
  rw [h]
  show ¬ n.toInt.toNat ≤ j.toInt.toNat
  omega
theorem own_dep (a : Int32) : ¬ (a &&& 2147483647) % 5 + 1 < 1 := by
  have e1 : (a &&& 2147483647).toInt = a.toInt % (2 ^ 31 : Nat) := c_mask a 2147483647 31 (by decide) (by decide)
  have e2 := (c_irem (a &&& 2147483647) 5 5 (by decide)).1 (by omega)
  have e3 : ((a &&& 2147483647) % 5 + 1).toInt = ((a &&& 2147483647) % 5).toInt + 1 := XT.add32 ⟨by show _ ≤ _ + (1 : Int); omega, by show _ + (1 : Int) < _; omega⟩
  rw [Int32.lt_iff_toInt_lt, e3]
  have : (1 : Int32).toInt = 1 := by decide
  omega
theorem own_38 (a n : Int32) (xs : List Int32) (h : xs.length = n.toNatClampNeg) (hn : ¬ n < 0) : f0_38 a n xs = some 1 := by
  simp only [f0_38, f1, f3, f4, f5, f6, f7, Option.bind_some, if_neg (own_dep a), own_len h hn]
  by_cases hp : 0 < n
  · simp [hp, f0_83]
  · simp [hp, f0_83]
theorem law_ok (a b c d : Int32) : f0 a b c d = some 1 := by
  have e1 : (a &&& 7).toInt = a.toInt % (2 ^ 3 : Nat) := c_mask a 7 3 (by decide) (by decide)
  unfold f0
  generalize a &&& 7 = n at *
  have z : (0 : Int32).toInt = 0 := by decide
  have o : (1 : Int32).toInt = 1 := by decide
  have hn : ¬ n < 0 := by rw [Int32.lt_iff_toInt_lt]; omega
  have hw : nwx (0 : Int32) 16 n = some (List.replicate n.toNatClampNeg 0) := by
    unfold nwx
    rw [if_neg hn, if_neg (by show ¬ 16 < n.toInt.toNat; omega)]
  rw [hw]
  have key : ∀ xs : List Int32, xs.length = n.toNatClampNeg → f0_23 b d n xs = some 1 := by
    intro xs hl
    unfold f0_23
    by_cases h1 : 1 < n
    · rw [if_pos h1]
      have h1' := h1
      rw [Int32.lt_iff_toInt_lt] at h1'
      have e2 : (n - 1).toInt = n.toInt - 1 := XT.sub32 ⟨by show _ ≤ _ - (1 : Int); omega, by show _ - (1 : Int) < _; omega⟩
      obtain ⟨ys, q1, q2⟩ := own_st (v := d.toInt8.toInt32.toInt8.toInt32) (j := n - 1) hl hn (by rw [Int32.lt_iff_toInt_lt]; omega) (by rw [Int32.lt_iff_toInt_lt]; omega)
      rw [q1]
      exact own_38 _ _ _ q2 hn
    · rw [if_neg h1]; exact own_38 _ _ _ hl hn
  show (if 0 < n then _ else _) = _
  by_cases h0 : 0 < n
  · rw [if_pos h0]
    obtain ⟨ys, q1, q2⟩ := own_st (v := c.toInt8.toInt32.toInt8.toInt32) (j := 0) (xs := List.replicate n.toNatClampNeg 0) (by simp) hn (by decide) h0
    rw [q1]
    exact key _ q2
  · rw [if_neg h0]; exact key _ (by simp)
set_option maxRecDepth 65536 in
set_option maxHeartbeats 40000000 in
theorem comes_1 {Post : Tables → Env → Array Value → State → Outcome → State → Prop} (hpost : ∀ tb e args s v u, (limb_1_1.after args s (.returned v) u = true ∧ limb_1_2.after args s (.returned v) u = true ∧ True) → FrameEnd s (.returned v) u (Jvm.fieldLocs frame_1_writes args s ++ Jvm.arrayLocs frame_1_arrays args s ++ Jvm.staticLocs frame_1_statics s) 24 192 → Post tb e args s (.returned v) u) :
    ArmFor flags0 classFile x code maxLocals ret World_1 tables_1 room_1 Calls_1 rest_1 Pre_1 Post := by
  intro l hfl _ _ p e ha hc hk s m args below hf hA hF happ hP
  obtain ⟨hcalls, hrest, hpre⟩ := hP
  obtain ⟨-, -, -, hnamed, -, -, -, hat⟩ := (Spec.applies_iff hf).mp happ
  obtain ⟨hg, hn⟩ := and_e (Cond.before_iff.mp (show (Jvm.Cond.and given_1 narrow_1).before args s = true from hpre))
  obtain ⟨g1, g2⟩ := and_e hg
  obtain ⟨g3, g4⟩ := and_e g2
  obtain ⟨g5, g6⟩ := and_e g4
  obtain ⟨g7, g8⟩ := and_e g6
  obtain ⟨w0, w1, w2, w3, rfl⟩ : ∃ w0 w1 w2 w3 : Value, args = #[w0, w1, w2, w3] := by
    have hs : args.size = 4 := by simpa [Cond.value, given_1] using g1
    obtain ⟨L⟩ := args
    match L, hs with
    | [w0, w1, w2, w3], _ => exact ⟨w0, w1, w2, w3, rfl⟩
  have hw := fun d (hd : d ∈ tables_1) => atoms_spec (ws := Jvm.Cond.code x code maxLocals ret :: tables_1) hat d (List.mem_cons_of_mem _ hd)
  obtain ⟨i0, ei0⟩ := is_v g3
  obtain rfl : w0 = (.int i0) := Option.some.inj ei0
  obtain ⟨i1, ei1⟩ := is_v g5
  obtain rfl : w1 = (.int i1) := Option.some.inj ei1
  obtain ⟨i2, ei2⟩ := is_v g7
  obtain rfl : w2 = (.int i2) := Option.some.inj ei2
  obtain ⟨i3, ei3⟩ := is_v g8
  obtain rfl : w3 = (.int i3) := Option.some.inj ei3
  have hsx : SX s := own_sx hw (atoms_of _ (rest_1_c_eq ▸ (show rest_1_c.before _ s = true from hrest))).1
  obtain ⟨n, o, h1, h2, h3, _, L, rfl, ⟨rfl, N⟩, hq⟩ := rm0 l s _ hw hsx tables_1 i0 i1 i2 i3 s.heap s.heap.size 1 (law_ok i0 i1 i2 i3) (Old.start s) p e ha hc hk s m _ below hf ((Spec.applies_iff_loose hf).mp happ).1 ⟨rfl, State.Warmed39.refl s, rfl⟩ trivial
  have hv : (1 : Int32) = 1 := rfl
  refine ⟨n, _, h1, h2, h3, hpost _ _ _ _ _ _ ⟨Cond.after_iff.mpr rfl, Cond.after_iff.mpr (eq_i res_at (Term.int_eval (1)) (congrArg Value.int hv)), trivial⟩ ⟨hq.1, hq.2.1, (hq.2.2.sift fun y hy => Or.inr (N y hy)).mono (by decide) (by decide)⟩⟩
theorem main_1_1 : Claimed_1_1 := comes_1 fun _ _ _ _ _ _ h hF => ⟨h.1, hF⟩
theorem main_1_2 : Claimed_1_2 := comes_1 fun _ _ _ _ _ _ h hF => ⟨h.2.1, hF⟩
end Jvm.Pilot.@@N@@
namespace Jvm.Pilot.@@N@@
open Jvm Jvm.ClassFile Sem Op Lib Jvm.Free Jvm.Stand Jvm.Pilot.@@N@@.Jvm.D
/-! MADE BY PROGRAM (witnessworld.py) out of the Statement's table words and the real class files: 20 classes; the members and pool entries that the words name. The judged class is class 1, her method 1. -/
namespace start1
open Jvm.ClassFile
def u (s : String) : CpInfo := .utf8 (stringToUtf16 s)
/-- a pool by its gaps: so many unusable entries, then the entry; so many at the end -/
def gap : Nat → List CpInfo → List CpInfo
  | 0, r => r
  | n + 1, r => .unusable :: gap n r
def poolList (es : List (Nat × CpInfo)) (last : Nat) : List CpInfo := es.foldr (fun e r => gap e.1 (e.2 :: r)) (gap last [])
def pool (es : List (Nat × CpInfo)) (last : Nat) : Array CpInfo := ⟨poolList es last⟩
def fileOf (pool : Array CpInfo) (this : Nat) (attrs : Array Attribute := #[]) (ms : Array MethodInfo := #[]) (fl : Nat := 33) (sup : Nat := 0) (ifs : Array Nat := #[]) (fds : Array FieldInfo := #[]) : ClassFile where
  minorVersion := 0
  majorVersion := 65
  constantPool := pool
  accessFlags := fl
  thisClass := this
  superClass := sup
  interfaces := ifs
  fields := fds
  methods := ms
  attributes := attrs
def plain (name : String) (sup : Option ClassId) : Class where
  name := name
  kind := .ordinary
  loader := none
  accessFlags := 33
  super := sup
  interfaces := #[]
  cf := none
  fields := #[]
  methods := #[]
  instanceTypes := #[]
  staticTypes := #[]
  resolved := #[]
  callSites := []
  init := .initialized
  statics := none
  mirror := none

def pool0 : Array CpInfo := pool [(5, u "<init>"), (0, u "()V"), (1, .class_ 10), (1, u "java/lang/Object")] 113

def k0c0 : Code := { maxStack := 0, maxLocals := 1, code := object_method_1_code, exceptionTable := #[], attributes := #[] }
def k0m0 : Method := { name := "<init>", desc := "()V", sig := { parameters := [], returnType := none }, accessFlags := 1, code := some k0c0 }
/-- java/lang/Object -/
def k0 : Class := { plain "java/lang/Object" none with
  accessFlags := 33
  interfaces := #[]
  cf := some (fileOf pool0 8 #[] #[{ accessFlags := 1, nameIndex := 5, descriptorIndex := 6, attributes := #[] }] 33 0 #[] #[])
  fields := #[]
  methods := #[k0m0]
  instanceTypes := #[]
  staticTypes := #[]
  resolved := Array.replicate 124 none
  statics := none }

def pool1 : Array CpInfo := pool [(2, .class_ 4), (1, u "java/lang/Object"), (0, u "<init>"), (0, u "()V"), (0, .class_ 8), (0, u "com/example/tagwire/tagwire/hessian2/Hessian2Reader"), (0, .integer 2147483647), (0, .methodref 7 11), (0, .nameAndType 5 12), (0, u "([BI)V"), (0, .methodref 7 14), (0, .nameAndType 15 16), (0, u "hasNext"), (0, u "()Z"), (0, .class_ 18), (0, u "com/example/tagwire/tagwire/hessian2/Hessian2ReaderHasNextPinLaw"), (2, u "law"), (0, u "(IIII)Z")] 5

def k1m0 : Method := { name := "<init>", desc := "()V", sig := { parameters := [], returnType := none }, accessFlags := 1, code := none }
def k1c1 : Code := { maxStack := 5, maxLocals := 9, code := code, exceptionTable := #[], attributes := #[] }
def k1m1 : Method := { name := "law", desc := "(IIII)Z", sig := { parameters := [.int, .int, .int, .int], returnType := some .boolean }, accessFlags := 9, code := some k1c1 }
/-- com/example/tagwire/tagwire/hessian2/Hessian2ReaderHasNextPinLaw -/
def k1 : Class := { plain "com/example/tagwire/tagwire/hessian2/Hessian2ReaderHasNextPinLaw" (some 0) with
  accessFlags := 49
  interfaces := #[]
  cf := some (fileOf pool1 17 #[] #[{ accessFlags := 1, nameIndex := 5, descriptorIndex := 6, attributes := #[] }, { accessFlags := 9, nameIndex := 21, descriptorIndex := 22, attributes := #[] }] 49 2 #[] #[])
  fields := #[]
  methods := #[k1m0, k1m1]
  instanceTypes := #[]
  staticTypes := #[]
  resolved := Array.replicate 28 none
  statics := none }

def pool2 : Array CpInfo := pool [(1, .class_ 2), (0, u "com/example/tagwire/tagwire/codec/Decoder"), (0, .class_ 4), (0, u "java/lang/Object")] 9

/-- com/example/tagwire/tagwire/codec/Decoder -/
def k2 : Class := { plain "com/example/tagwire/tagwire/codec/Decoder" (some 0) with
  accessFlags := 1537
  interfaces := #[]
  cf := some (fileOf pool2 1 #[] #[] 1537 3 #[] #[])
  fields := #[]
  methods := #[]
  instanceTypes := #[]
  staticTypes := #[]
  resolved := Array.replicate 14 none
  statics := none }

def pool3 : Array CpInfo := pool [(3, .methodref 4 5), (0, .class_ 6), (0, .nameAndType 7 8), (0, u "java/lang/Object"), (0, u "<init>"), (0, u "()V"), (0, .class_ 10), (0, u "java/util/ArrayList"), (0, .methodref 9 5), (0, .fieldref 13 14), (0, .class_ 15), (0, .nameAndType 16 17), (0, u "com/example/tagwire/tagwire/hessian2/Hessian2Reader"), (0, u "types"), (0, u "Ljava/util/List;"), (0, .fieldref 13 19), (0, .nameAndType 20 17), (0, u "classes"), (0, .class_ 22), (0, u "com/example/tagwire/tagwire/codec/OpenContainers"), (0, .methodref 21 24), (0, .nameAndType 7 25), (0, u "(I)V"), (0, .fieldref 13 27), (0, .nameAndType 28 29), (0, u "open"), (0, u "Lcom/example/tagwire/tagwire/codec/OpenContainers;"), (0, .fieldref 13 31), (0, .nameAndType 32 33), (0, u "payload"), (0, u "[B"), (0, .fieldref 13 35), (0, .nameAndType 36 37), (0, u "position"), (0, u "I"), (2, u "hasNext"), (0, u "()Z"), (25, u "valueStart"), (38, u "TAGS"), (142, u "BIG_ENDIAN_LONGS"), (0, u "Ljava/lang/invoke/VarHandle;"), (13, u "shortStringKeys"), (0, u "[J"), (2, u "shortStrings"), (0, u "[Ljava/lang/String;"), (61, u "containers"), (171, .class_ 504), (0, u "com/example/tagwire/tagwire/codec/Decoder"), (0, u "UNTIL_Z"), (2, u "NONE_OPEN"), (0, u "NONE"), (0, u "B"), (1, u "INT"), (1, u "LONG"), (1, u "DOUBLE"), (1, u "STRING"), (1, u "BYTES"), (1, u "DATE"), (1, u "BOOLEAN"), (1, u "NULL"), (1, u "REFERENCE"), (1, u "LIST"), (1, u "MAP"), (1, u "OBJECT"), (1, u "SHORT_STRING"), (0, u "SHORT_STRING_SLOTS_LOG2"), (3, u "([BI)V")] 44

def k3c0 : Code := { maxStack := 4, maxLocals := 3, code := prog_31_method_1_code, exceptionTable := #[], attributes := #[] }
def k3m0 : Method := { name := "<init>", desc := "([BI)V", sig := { parameters := [(.array .byte), .int], returnType := none }, accessFlags := 0, code := some k3c0 }
def k3c1 : Code := { maxStack := 2, maxLocals := 1, code := prog_31_method_2_code, exceptionTable := #[], attributes := #[] }
def k3m1 : Method := { name := "hasNext", desc := "()Z", sig := { parameters := [], returnType := some .boolean }, accessFlags := 1, code := some k3c1 }
/-- com/example/tagwire/tagwire/hessian2/Hessian2Reader -/
def k3 : Class := { plain "com/example/tagwire/tagwire/hessian2/Hessian2Reader" (some 0) with
  accessFlags := 48
  interfaces := #[2]
  cf := some (fileOf pool3 13 #[] #[{ accessFlags := 0, nameIndex := 7, descriptorIndex := 541, attributes := #[] }, { accessFlags := 1, nameIndex := 40, descriptorIndex := 41, attributes := #[] }] 48 4 #[503] #[{ accessFlags := 26, nameIndex := 505, descriptorIndex := 37, attributes := #[] }, { accessFlags := 26, nameIndex := 508, descriptorIndex := 37, attributes := #[] }, { accessFlags := 26, nameIndex := 509, descriptorIndex := 510, attributes := #[] }, { accessFlags := 26, nameIndex := 512, descriptorIndex := 510, attributes := #[] }, { accessFlags := 26, nameIndex := 514, descriptorIndex := 510, attributes := #[] }, { accessFlags := 26, nameIndex := 516, descriptorIndex := 510, attributes := #[] }, { accessFlags := 26, nameIndex := 518, descriptorIndex := 510, attributes := #[] }, { accessFlags := 26, nameIndex := 520, descriptorIndex := 510, attributes := #[] }, { accessFlags := 26, nameIndex := 522, descriptorIndex := 510, attributes := #[] }, { accessFlags := 26, nameIndex := 524, descriptorIndex := 510, attributes := #[] }, { accessFlags := 26, nameIndex := 526, descriptorIndex := 510, attributes := #[] }, { accessFlags := 26, nameIndex := 528, descriptorIndex := 510, attributes := #[] }, { accessFlags := 26, nameIndex := 530, descriptorIndex := 510, attributes := #[] }, { accessFlags := 26, nameIndex := 532, descriptorIndex := 510, attributes := #[] }, { accessFlags := 26, nameIndex := 534, descriptorIndex := 510, attributes := #[] }, { accessFlags := 26, nameIndex := 106, descriptorIndex := 33, attributes := #[] }, { accessFlags := 26, nameIndex := 536, descriptorIndex := 37, attributes := #[] }, { accessFlags := 26, nameIndex := 537, descriptorIndex := 37, attributes := #[] }, { accessFlags := 26, nameIndex := 249, descriptorIndex := 250, attributes := #[] }, { accessFlags := 18, nameIndex := 32, descriptorIndex := 33, attributes := #[] }, { accessFlags := 2, nameIndex := 36, descriptorIndex := 37, attributes := #[] }, { accessFlags := 2, nameIndex := 67, descriptorIndex := 37, attributes := #[] }, { accessFlags := 2, nameIndex := 331, descriptorIndex := 37, attributes := #[] }, { accessFlags := 18, nameIndex := 16, descriptorIndex := 17, attributes := #[] }, { accessFlags := 18, nameIndex := 20, descriptorIndex := 17, attributes := #[] }, { accessFlags := 18, nameIndex := 28, descriptorIndex := 29, attributes := #[] }, { accessFlags := 2, nameIndex := 264, descriptorIndex := 265, attributes := #[] }, { accessFlags := 2, nameIndex := 268, descriptorIndex := 269, attributes := #[] }])
  fields := #[{ name := "UNTIL_Z", type := .int, accessFlags := 26, slot := 0, constantValue := 0 }, { name := "NONE_OPEN", type := .int, accessFlags := 26, slot := 1, constantValue := 0 }, { name := "NONE", type := .byte, accessFlags := 26, slot := 2, constantValue := 0 }, { name := "INT", type := .byte, accessFlags := 26, slot := 3, constantValue := 0 }, { name := "LONG", type := .byte, accessFlags := 26, slot := 4, constantValue := 0 }, { name := "DOUBLE", type := .byte, accessFlags := 26, slot := 5, constantValue := 0 }, { name := "STRING", type := .byte, accessFlags := 26, slot := 6, constantValue := 0 }, { name := "BYTES", type := .byte, accessFlags := 26, slot := 7, constantValue := 0 }, { name := "DATE", type := .byte, accessFlags := 26, slot := 8, constantValue := 0 }, { name := "BOOLEAN", type := .byte, accessFlags := 26, slot := 9, constantValue := 0 }, { name := "NULL", type := .byte, accessFlags := 26, slot := 10, constantValue := 0 }, { name := "REFERENCE", type := .byte, accessFlags := 26, slot := 11, constantValue := 0 }, { name := "LIST", type := .byte, accessFlags := 26, slot := 12, constantValue := 0 }, { name := "MAP", type := .byte, accessFlags := 26, slot := 13, constantValue := 0 }, { name := "OBJECT", type := .byte, accessFlags := 26, slot := 14, constantValue := 0 }, { name := "TAGS", type := (.array .byte), accessFlags := 26, slot := 15, constantValue := 0 }, { name := "SHORT_STRING", type := .int, accessFlags := 26, slot := 16, constantValue := 0 }, { name := "SHORT_STRING_SLOTS_LOG2", type := .int, accessFlags := 26, slot := 17, constantValue := 0 }, { name := "BIG_ENDIAN_LONGS", type := (.object "java/lang/invoke/VarHandle"), accessFlags := 26, slot := 18, constantValue := 0 }, { name := "payload", type := (.array .byte), accessFlags := 18, slot := 0, constantValue := 0 }, { name := "position", type := .int, accessFlags := 2, slot := 1, constantValue := 0 }, { name := "valueStart", type := .int, accessFlags := 2, slot := 2, constantValue := 0 }, { name := "containers", type := .int, accessFlags := 2, slot := 3, constantValue := 0 }, { name := "types", type := (.object "java/util/List"), accessFlags := 18, slot := 4, constantValue := 0 }, { name := "classes", type := (.object "java/util/List"), accessFlags := 18, slot := 5, constantValue := 0 }, { name := "open", type := (.object "com/example/tagwire/tagwire/codec/OpenContainers"), accessFlags := 18, slot := 6, constantValue := 0 }, { name := "shortStringKeys", type := (.array .long), accessFlags := 2, slot := 7, constantValue := 0 }, { name := "shortStrings", type := (.array (.object "java/lang/String")), accessFlags := 2, slot := 8, constantValue := 0 }]
  methods := #[k3m0, k3m1]
  instanceTypes := #[(.array .byte), .int, .int, .int, (.object "java/util/List"), (.object "java/util/List"), (.object "com/example/tagwire/tagwire/codec/OpenContainers"), (.array .long), (.array (.object "java/lang/String"))]
  staticTypes := #[.int, .int, .byte, .byte, .byte, .byte, .byte, .byte, .byte, .byte, .byte, .byte, .byte, .byte, .byte, (.array .byte), .int, .int, (.object "java/lang/invoke/VarHandle")]
  resolved := Array.replicate 586 none
  statics := none }

def pool4 : Array CpInfo := pool [(8, .class_ 10), (1, u "java/lang/Iterable"), (24, .class_ 36), (0, u "java/lang/Object")] 25

/-- java/lang/Iterable -/
def k4 : Class := { plain "java/lang/Iterable" (some 0) with
  accessFlags := 1537
  interfaces := #[]
  cf := some (fileOf pool4 8 #[] #[] 1537 35 #[] #[])
  fields := #[]
  methods := #[]
  instanceTypes := #[]
  staticTypes := #[]
  resolved := Array.replicate 62 none
  statics := none }

def pool5 : Array CpInfo := pool [(10, .class_ 12), (1, u "java/util/Collection"), (47, .class_ 61), (0, u "java/lang/Object"), (0, .class_ 63), (0, u "java/lang/Iterable")] 51

/-- java/util/Collection -/
def k5 : Class := { plain "java/util/Collection" (some 0) with
  accessFlags := 1537
  interfaces := #[4]
  cf := some (fileOf pool5 10 #[] #[] 1537 60 #[62] #[])
  fields := #[]
  methods := #[]
  instanceTypes := #[]
  staticTypes := #[]
  resolved := Array.replicate 115 none
  statics := none }

def pool6 : Array CpInfo := pool [(1, .methodref 2 3), (0, .class_ 4), (0, .nameAndType 5 6), (0, u "java/lang/Object"), (0, u "<init>"), (0, u "()V"), (1, .class_ 10), (1, u "java/util/AbstractCollection"), (66, .class_ 78), (0, u "java/util/Collection")] 81

def k6c0 : Code := { maxStack := 1, maxLocals := 1, code := jdk_22_method_1_code, exceptionTable := #[], attributes := #[] }
def k6m0 : Method := { name := "<init>", desc := "()V", sig := { parameters := [], returnType := none }, accessFlags := 4, code := some k6c0 }
/-- java/util/AbstractCollection -/
def k6 : Class := { plain "java/util/AbstractCollection" (some 0) with
  accessFlags := 1057
  interfaces := #[5]
  cf := some (fileOf pool6 8 #[] #[{ accessFlags := 4, nameIndex := 5, descriptorIndex := 6, attributes := #[] }] 1057 2 #[77] #[])
  fields := #[]
  methods := #[k6m0]
  instanceTypes := #[]
  staticTypes := #[]
  resolved := Array.replicate 160 none
  statics := none }

def pool7 : Array CpInfo := pool [(8, .class_ 10), (1, u "java/util/SequencedCollection"), (15, .class_ 27), (0, u "java/lang/Object"), (0, .class_ 29), (0, u "java/util/Collection")] 27

/-- java/util/SequencedCollection -/
def k7 : Class := { plain "java/util/SequencedCollection" (some 0) with
  accessFlags := 1537
  interfaces := #[5]
  cf := some (fileOf pool7 8 #[] #[] 1537 26 #[28] #[])
  fields := #[]
  methods := #[]
  instanceTypes := #[]
  staticTypes := #[]
  resolved := Array.replicate 57 none
  statics := none }

def pool8 : Array CpInfo := pool [(8, .class_ 10), (1, u "java/util/List"), (92, .class_ 104), (0, u "java/lang/Object"), (15, .class_ 121), (0, u "java/util/SequencedCollection")] 129

/-- java/util/List -/
def k8 : Class := { plain "java/util/List" (some 0) with
  accessFlags := 1537
  interfaces := #[7]
  cf := some (fileOf pool8 8 #[] #[] 1537 103 #[120] #[])
  fields := #[]
  methods := #[]
  instanceTypes := #[]
  staticTypes := #[]
  resolved := Array.replicate 251 none
  statics := none }

def pool9 : Array CpInfo := pool [(1, .methodref 2 3), (0, .class_ 4), (0, .nameAndType 5 6), (0, u "java/util/AbstractCollection"), (0, u "<init>"), (0, u "()V"), (0, .fieldref 8 9), (0, .class_ 10), (0, .nameAndType 11 12), (0, u "java/util/AbstractList"), (0, u "modCount"), (0, u "I"), (64, .class_ 78), (0, u "java/util/AbstractList$Itr"), (3, .class_ 83), (0, u "java/util/AbstractList$ListItr"), (9, .class_ 94), (0, u "java/util/AbstractList$RandomAccessSubList"), (3, .class_ 99), (0, u "java/util/AbstractList$SubList"), (33, .class_ 134), (0, u "java/util/List"), (73, .class_ 209), (0, u "java/util/AbstractList$SubList$1"), (0, .class_ 211), (0, u "java/util/AbstractList$RandomAccessSpliterator")] 6

def k9c0 : Code := { maxStack := 2, maxLocals := 1, code := jdk_39_method_1_code, exceptionTable := #[], attributes := #[] }
def k9m0 : Method := { name := "<init>", desc := "()V", sig := { parameters := [], returnType := none }, accessFlags := 4, code := some k9c0 }
/-- java/util/AbstractList -/
def k9 : Class := { plain "java/util/AbstractList" (some 6) with
  accessFlags := 1057
  interfaces := #[8]
  cf := some (fileOf pool9 8 #[.nestMembers #[93, 98, 208, 210, 82, 77]] #[{ accessFlags := 4, nameIndex := 5, descriptorIndex := 6, attributes := #[] }] 1057 2 #[133] #[{ accessFlags := 132, nameIndex := 11, descriptorIndex := 12, attributes := #[] }])
  fields := #[{ name := "modCount", type := .int, accessFlags := 132, slot := 0, constantValue := 0 }]
  methods := #[k9m0]
  instanceTypes := #[.int]
  staticTypes := #[]
  resolved := Array.replicate 218 none
  statics := none }

def pool10 : Array CpInfo := pool [(1, .class_ 2), (0, u "java/util/RandomAccess"), (0, .class_ 4), (0, u "java/lang/Object")] 2

/-- java/util/RandomAccess -/
def k10 : Class := { plain "java/util/RandomAccess" (some 0) with
  accessFlags := 1537
  interfaces := #[]
  cf := some (fileOf pool10 1 #[] #[] 1537 3 #[] #[])
  fields := #[]
  methods := #[]
  instanceTypes := #[]
  staticTypes := #[]
  resolved := Array.replicate 7 none
  statics := none }

def pool11 : Array CpInfo := pool [(1, .class_ 2), (0, u "java/lang/Cloneable"), (0, .class_ 4), (0, u "java/lang/Object")] 2

/-- java/lang/Cloneable -/
def k11 : Class := { plain "java/lang/Cloneable" (some 0) with
  accessFlags := 1537
  interfaces := #[]
  cf := some (fileOf pool11 1 #[] #[] 1537 3 #[] #[])
  fields := #[]
  methods := #[]
  instanceTypes := #[]
  staticTypes := #[]
  resolved := Array.replicate 7 none
  statics := none }

def pool12 : Array CpInfo := pool [(1, .class_ 2), (0, u "java/io/Serializable"), (0, .class_ 4), (0, u "java/lang/Object")] 2

/-- java/io/Serializable -/
def k12 : Class := { plain "java/io/Serializable" (some 0) with
  accessFlags := 1537
  interfaces := #[]
  cf := some (fileOf pool12 1 #[] #[] 1537 3 #[] #[])
  fields := #[]
  methods := #[]
  instanceTypes := #[]
  staticTypes := #[]
  resolved := Array.replicate 7 none
  statics := none }

def pool13 : Array CpInfo := pool [(1, .methodref 2 3), (0, .class_ 4), (0, .nameAndType 5 6), (0, u "java/util/AbstractList"), (0, u "<init>"), (0, u "()V"), (2, .fieldref 10 11), (0, .class_ 12), (0, .nameAndType 13 14), (0, u "java/util/ArrayList"), (0, u "elementData"), (0, u "[Ljava/lang/Object;"), (2, u "EMPTY_ELEMENTDATA"), (21, .fieldref 10 40), (0, .nameAndType 41 14), (0, u "DEFAULTCAPACITY_EMPTY_ELEMENTDATA"), (8, u "size"), (0, u "I"), (96, .class_ 149), (0, u "java/util/List"), (112, .class_ 263), (0, u "java/util/ArrayList$ListItr"), (3, .class_ 268), (0, u "java/util/ArrayList$Itr"), (7, .class_ 277), (0, u "java/util/ArrayList$SubList"), (12, .class_ 291), (0, u "java/util/ArrayList$ArrayListSpliterator"), (37, .class_ 330), (0, u "java/util/RandomAccess"), (0, .class_ 332), (0, u "java/lang/Cloneable"), (0, .class_ 334), (0, u "java/io/Serializable"), (0, u "serialVersionUID"), (0, u "J"), (3, u "DEFAULT_CAPACITY"), (159, .class_ 501), (0, u "java/util/ArrayList$SubList$2"), (0, .class_ 503), (0, u "java/util/ArrayList$SubList$1")] 5

def k13c0 : Code := { maxStack := 2, maxLocals := 1, code := jdk_38_method_2_code, exceptionTable := #[], attributes := #[] }
def k13m0 : Method := { name := "<init>", desc := "()V", sig := { parameters := [], returnType := none }, accessFlags := 1, code := some k13c0 }
/-- java/util/ArrayList -/
def k13 : Class := { plain "java/util/ArrayList" (some 9) with
  accessFlags := 33
  interfaces := #[8, 10, 11, 12]
  cf := some (fileOf pool13 10 #[.nestMembers #[290, 276, 500, 502, 262, 267]] #[{ accessFlags := 1, nameIndex := 5, descriptorIndex := 6, attributes := #[] }] 33 2 #[148, 329, 331, 333] #[{ accessFlags := 26, nameIndex := 335, descriptorIndex := 336, attributes := #[] }, { accessFlags := 26, nameIndex := 340, descriptorIndex := 51, attributes := #[] }, { accessFlags := 26, nameIndex := 17, descriptorIndex := 14, attributes := #[] }, { accessFlags := 26, nameIndex := 41, descriptorIndex := 14, attributes := #[] }, { accessFlags := 128, nameIndex := 13, descriptorIndex := 14, attributes := #[] }, { accessFlags := 2, nameIndex := 50, descriptorIndex := 51, attributes := #[] }])
  fields := #[{ name := "serialVersionUID", type := .long, accessFlags := 26, slot := 0, constantValue := 0 }, { name := "DEFAULT_CAPACITY", type := .int, accessFlags := 26, slot := 1, constantValue := 0 }, { name := "EMPTY_ELEMENTDATA", type := (.array (.object "java/lang/Object")), accessFlags := 26, slot := 2, constantValue := 0 }, { name := "DEFAULTCAPACITY_EMPTY_ELEMENTDATA", type := (.array (.object "java/lang/Object")), accessFlags := 26, slot := 3, constantValue := 0 }, { name := "elementData", type := (.array (.object "java/lang/Object")), accessFlags := 128, slot := 1, constantValue := 0 }, { name := "size", type := .int, accessFlags := 2, slot := 2, constantValue := 0 }]
  methods := #[k13m0]
  instanceTypes := #[.int, (.array (.object "java/lang/Object")), .int]
  staticTypes := #[.long, .int, (.array (.object "java/lang/Object")), (.array (.object "java/lang/Object"))]
  resolved := Array.replicate 509 none
  statics := some 0 }

def pool14 : Array CpInfo := pool [(1, .methodref 2 3), (0, .class_ 4), (0, .nameAndType 5 6), (0, u "java/lang/Object"), (0, u "<init>"), (0, u "()V"), (0, .fieldref 8 9), (0, .class_ 10), (0, .nameAndType 11 12), (0, u "com/example/tagwire/tagwire/codec/OpenContainers"), (0, u "starts"), (0, u "[I"), (0, .fieldref 8 14), (0, .nameAndType 15 12), (0, u "remainings"), (9, .fieldref 8 26), (0, .nameAndType 27 28), (0, u "maxDepth"), (0, u "I"), (3, u "(I)V"), (2, u "depth"), (24, u "MARKED"), (2, u "MARKED_PAIR_BEGINS"), (1, u "MARKED_PAIR_ENDS")] 35

def k14c0 : Code := { maxStack := 3, maxLocals := 2, code := prog_25_method_1_code, exceptionTable := #[], attributes := #[] }
def k14m0 : Method := { name := "<init>", desc := "(I)V", sig := { parameters := [.int], returnType := none }, accessFlags := 1, code := some k14c0 }
/-- com/example/tagwire/tagwire/codec/OpenContainers -/
def k14 : Class := { plain "com/example/tagwire/tagwire/codec/OpenContainers" (some 0) with
  accessFlags := 49
  interfaces := #[]
  cf := some (fileOf pool14 8 #[] #[{ accessFlags := 1, nameIndex := 5, descriptorIndex := 32, attributes := #[] }] 49 2 #[] #[{ accessFlags := 26, nameIndex := 60, descriptorIndex := 28, attributes := #[] }, { accessFlags := 26, nameIndex := 63, descriptorIndex := 28, attributes := #[] }, { accessFlags := 26, nameIndex := 65, descriptorIndex := 28, attributes := #[] }, { accessFlags := 18, nameIndex := 27, descriptorIndex := 28, attributes := #[] }, { accessFlags := 2, nameIndex := 11, descriptorIndex := 12, attributes := #[] }, { accessFlags := 2, nameIndex := 15, descriptorIndex := 12, attributes := #[] }, { accessFlags := 2, nameIndex := 35, descriptorIndex := 28, attributes := #[] }])
  fields := #[{ name := "MARKED", type := .int, accessFlags := 26, slot := 0, constantValue := 0 }, { name := "MARKED_PAIR_BEGINS", type := .int, accessFlags := 26, slot := 1, constantValue := 0 }, { name := "MARKED_PAIR_ENDS", type := .int, accessFlags := 26, slot := 2, constantValue := 0 }, { name := "maxDepth", type := .int, accessFlags := 18, slot := 0, constantValue := 0 }, { name := "starts", type := (.array .int), accessFlags := 2, slot := 1, constantValue := 0 }, { name := "remainings", type := (.array .int), accessFlags := 2, slot := 2, constantValue := 0 }, { name := "depth", type := .int, accessFlags := 2, slot := 3, constantValue := 0 }]
  methods := #[k14m0]
  instanceTypes := #[.int, (.array .int), (.array .int), .int]
  staticTypes := #[.int, .int, .int]
  resolved := Array.replicate 101 none
  statics := none }

/-- the primitive byte -/
def k15 : Class := { plain "byte" none with kind := .primitive 'B', accessFlags := 0x411 }
/-- [B -/
def k16 : Class := { plain "[B" (some 0) with kind := .array 15 .byte, interfaces := #[11, 12], accessFlags := 1041 }

/-- the primitive int -/
def k17 : Class := { plain "int" none with kind := .primitive 'I', accessFlags := 0x411 }
/-- [I -/
def k18 : Class := { plain "[I" (some 0) with kind := .array 17 .int, interfaces := #[11, 12], accessFlags := 1041 }

/-- [Ljava/lang/Object; -/
def k19 : Class := { plain "[Ljava/lang/Object;" (some 0) with kind := .array 0 (.object "java/lang/Object"), interfaces := #[11, 12], accessFlags := 1041 }

def heap : Heap := #[{ cls := 13, slots := #[.long 0, .int 0, .ref 1, .ref 2], vm := .statics 13 },
  { cls := 19, slots := #[], vm := .none },
  { cls := 19, slots := #[], vm := .none }]
def classes : Array Class := #[k0, k1, k2, k3, k4, k5, k6, k7, k8, k9, k10, k11, k12, k13, k14, k15, k16, k17, k18, k19]
def interned : List (Array UInt16 × Addr) := []
def slotsUsed : Nat := 4
def theMethod : MethodId := ⟨1, 1⟩
def args0 : Array Value := #[.int 5, .int 7, .int 3, .int 9]
def aboutOver (below : List Frame) : State where
  vm := { classes := classes, interned := interned.toArray }
  heap := heap
  slotsUsed := slotsUsed
  threads := #[{ frames := .invoking theMethod args0 :: below }]
def below0 : List Frame := [.native { method := ⟨0, 0⟩, args := #[] }]
def about1 : State := aboutOver below0
def p0 : Program := .bare "" "" ""
def e0 : Env := launch0.env 0 0 0
theorem w_frames : about1.frames = Frame.invoking theMethod args0 :: below0 := rfl
set_option maxRecDepth 65536 in
theorem w_args : argsFit about1.vm theMethod args0 = true := by decide +kernel
set_option maxRecDepth 65536 in
theorem w_heap : heapFits about1 = true := by decide +kernel
set_option maxRecDepth 65536 in
theorem w_runnable : about1.curStatus? = some .runnable := by decide +kernel
set_option maxRecDepth 65536 in
theorem w_alone : about1.alone = true := by decide +kernel
set_option maxRecDepth 65536 in
theorem w_named : about1.methodNamed? x = some theMethod := by decide +kernel
set_option maxRecDepth 65536 in
theorem w_hears : about1.hears theMethod below0 = true := by decide +kernel
set_option maxRecDepth 65536 in
theorem w_ripe : about1.ripe theMethod args0 below0 = true := by decide +kernel
theorem w_running : about1.status = .running := rfl
set_option maxRecDepth 65536 in
theorem w_room : about1.hasRoom e0.platform room_1 = true :=
  launch0.hasRoom_least _ room_1 (by decide +kernel) (by decide +kernel) (by decide +kernel) (by decide +kernel) (by decide +kernel) (by decide +kernel)
theorem allAtoms_all (ts : List Jvm.Cond) (a : Array Jvm.Value) (st : Jvm.State) : (allAtoms ts).before a st = ts.all (fun c => c.before a st) := by
  induction ts with
  | nil => rfl
  | cons c t ih =>
    show (Jvm.Cond.and c (allAtoms t)).before a st = _
    rw [Jvm.Cond.before_and, ih, List.all_cons]
def words1 : List Jvm.Cond := Jvm.Cond.code x code maxLocals ret :: tables_1
/-- a 'code' word, met by the world's own term for the bytes: nothing is compared byte by byte -/
theorem code_word {y : MethodName} {bytes : ByteArray} {mx : Nat} {rt : Option FieldType} {a : Array Value} {s : State} {m : MethodId} {meth : Method} {c : Code} (h1 : s.methodNamed? y = some m) (h2 : s.vm.method? m = some meth) (h3 : meth.code = some c) (h4 : c.code = bytes)
    (h5 : (c.maxLocals == mx && c.exceptionTable.isEmpty && decide (c.maxStack ≤ mostOperands) && decide (meth.sig.returnType = rt) && !meth.locks && decide (parseMethodDescriptor y.desc = some meth.sig)) = true) : (Jvm.Cond.code y bytes mx rt).before a s = true := by
  simp only [Bool.and_eq_true, beq_iff_eq, Bool.not_eq_true', decide_eq_true_eq] at h5
  obtain ⟨⟨⟨⟨⟨g1, g2⟩, g3⟩, g4⟩, g5⟩, g6⟩ := h5
  simp [Cond.before, Cond.holds, Cond.value, h1, h2, h3, h4, g1, g2, g3, g4, g5, g6]
def isCode : Jvm.Cond → Bool
  | .code _ _ _ _ => true
  | _ => false
theorem all_split {L : List Jvm.Cond} {P : Jvm.Cond → Bool} (h1 : L.all (fun c => isCode c || P c) = true) (h2 : ∀ c ∈ L.filter isCode, P c = true) : L.all P = true := by
  refine List.all_eq_true.mpr fun c hc => ?_
  have h := List.all_eq_true.mp h1 c hc
  rcases Bool.eq_false_or_eq_true (isCode c) with hi | hi
  · exact h2 c (List.mem_filter.mpr ⟨hc, hi⟩)
  · simpa [hi] using h
set_option maxRecDepth 65536 in
theorem w_c0 : (Jvm.Cond.code x code maxLocals ret).before args0 about1 = true := code_word (m := ⟨1, 1⟩) (meth := k1m1) (c := k1c1) (by decide +kernel) rfl rfl rfl (by decide +kernel)
set_option maxRecDepth 65536 in
theorem w_c1 : (Jvm.Cond.code ({ cls := "com/example/tagwire/tagwire/hessian2/Hessian2Reader", name := "<init>", desc := "([BI)V" } : Jvm.MethodName) prog_31_method_1_code (3 : Nat) (Option.none : Option Jvm.ClassFile.FieldType)).before args0 about1 = true := code_word (m := ⟨3, 0⟩) (meth := k3m0) (c := k3c0) (by decide +kernel) rfl rfl rfl (by decide +kernel)
set_option maxRecDepth 65536 in
theorem w_c2 : (Jvm.Cond.code ({ cls := "java/lang/Object", name := "<init>", desc := "()V" } : Jvm.MethodName) object_method_1_code (1 : Nat) (Option.none : Option Jvm.ClassFile.FieldType)).before args0 about1 = true := code_word (m := ⟨0, 0⟩) (meth := k0m0) (c := k0c0) (by decide +kernel) rfl rfl rfl (by decide +kernel)
set_option maxRecDepth 65536 in
theorem w_c3 : (Jvm.Cond.code ({ cls := "java/util/ArrayList", name := "<init>", desc := "()V" } : Jvm.MethodName) jdk_38_method_2_code (1 : Nat) (Option.none : Option Jvm.ClassFile.FieldType)).before args0 about1 = true := code_word (m := ⟨13, 0⟩) (meth := k13m0) (c := k13c0) (by decide +kernel) rfl rfl rfl (by decide +kernel)
set_option maxRecDepth 65536 in
theorem w_c4 : (Jvm.Cond.code ({ cls := "java/util/AbstractList", name := "<init>", desc := "()V" } : Jvm.MethodName) jdk_39_method_1_code (1 : Nat) (Option.none : Option Jvm.ClassFile.FieldType)).before args0 about1 = true := code_word (m := ⟨9, 0⟩) (meth := k9m0) (c := k9c0) (by decide +kernel) rfl rfl rfl (by decide +kernel)
set_option maxRecDepth 65536 in
theorem w_c5 : (Jvm.Cond.code ({ cls := "java/util/AbstractCollection", name := "<init>", desc := "()V" } : Jvm.MethodName) jdk_22_method_1_code (1 : Nat) (Option.none : Option Jvm.ClassFile.FieldType)).before args0 about1 = true := code_word (m := ⟨6, 0⟩) (meth := k6m0) (c := k6c0) (by decide +kernel) rfl rfl rfl (by decide +kernel)
set_option maxRecDepth 65536 in
theorem w_c6 : (Jvm.Cond.code ({ cls := "com/example/tagwire/tagwire/codec/OpenContainers", name := "<init>", desc := "(I)V" } : Jvm.MethodName) prog_25_method_1_code (2 : Nat) (Option.none : Option Jvm.ClassFile.FieldType)).before args0 about1 = true := code_word (m := ⟨14, 0⟩) (meth := k14m0) (c := k14c0) (by decide +kernel) rfl rfl rfl (by decide +kernel)
set_option maxRecDepth 65536 in
theorem w_c7 : (Jvm.Cond.code ({ cls := "com/example/tagwire/tagwire/hessian2/Hessian2Reader", name := "hasNext", desc := "()Z" } : Jvm.MethodName) prog_31_method_2_code (1 : Nat) (Option.some Jvm.ClassFile.FieldType.boolean)).before args0 about1 = true := code_word (m := ⟨3, 1⟩) (meth := k3m1) (c := k3c1) (by decide +kernel) rfl rfl rfl (by decide +kernel)
def codes1 : List Jvm.Cond := [Jvm.Cond.code x code maxLocals ret, Jvm.Cond.code ({ cls := "com/example/tagwire/tagwire/hessian2/Hessian2Reader", name := "<init>", desc := "([BI)V" } : Jvm.MethodName) prog_31_method_1_code (3 : Nat) (Option.none : Option Jvm.ClassFile.FieldType), Jvm.Cond.code ({ cls := "java/lang/Object", name := "<init>", desc := "()V" } : Jvm.MethodName) object_method_1_code (1 : Nat) (Option.none : Option Jvm.ClassFile.FieldType), Jvm.Cond.code ({ cls := "java/util/ArrayList", name := "<init>", desc := "()V" } : Jvm.MethodName) jdk_38_method_2_code (1 : Nat) (Option.none : Option Jvm.ClassFile.FieldType), Jvm.Cond.code ({ cls := "java/util/AbstractList", name := "<init>", desc := "()V" } : Jvm.MethodName) jdk_39_method_1_code (1 : Nat) (Option.none : Option Jvm.ClassFile.FieldType), Jvm.Cond.code ({ cls := "java/util/AbstractCollection", name := "<init>", desc := "()V" } : Jvm.MethodName) jdk_22_method_1_code (1 : Nat) (Option.none : Option Jvm.ClassFile.FieldType), Jvm.Cond.code ({ cls := "com/example/tagwire/tagwire/codec/OpenContainers", name := "<init>", desc := "(I)V" } : Jvm.MethodName) prog_25_method_1_code (2 : Nat) (Option.none : Option Jvm.ClassFile.FieldType), Jvm.Cond.code ({ cls := "com/example/tagwire/tagwire/hessian2/Hessian2Reader", name := "hasNext", desc := "()Z" } : Jvm.MethodName) prog_31_method_2_code (1 : Nat) (Option.some Jvm.ClassFile.FieldType.boolean)]
set_option maxRecDepth 65536 in
theorem codes_eq : words1.filter isCode = codes1 := rfl
theorem w_codes : ∀ c ∈ words1.filter isCode, c.before args0 about1 = true := by
  rw [codes_eq]
  intro c hc
  simp only [codes1, List.mem_cons, List.not_mem_nil, or_false] at hc
  rcases hc with rfl | rfl | rfl | rfl | rfl | rfl | rfl | rfl
  · exact w_c0
  · exact w_c1
  · exact w_c2
  · exact w_c3
  · exact w_c4
  · exact w_c5
  · exact w_c6
  · exact w_c7
set_option maxRecDepth 65536 in
theorem w_t1 : (words1.take 24).all (fun c => isCode c || c.before args0 about1) = true := by decide +kernel
set_option maxRecDepth 65536 in
theorem w_t2 : ((words1.drop 24).take 24).all (fun c => isCode c || c.before args0 about1) = true := by decide +kernel
set_option maxRecDepth 65536 in
theorem w_t3 : ((words1.drop 24).drop 24).all (fun c => isCode c || c.before args0 about1) = true := by decide +kernel
theorem w_tables : (allAtoms (Jvm.Cond.code x code maxLocals ret :: tables_1)).before args0 about1 = true := by
  rw [allAtoms_all]
  show words1.all (fun c => c.before args0 about1) = true
  refine all_split ?_ w_codes
  rw [← List.take_append_drop 24 words1, List.all_append, w_t1, ← List.take_append_drop 24 (words1.drop 24), List.all_append, w_t2, w_t3]
  rfl
set_option maxRecDepth 65536 in
theorem w_rest : rest_1_c.before args0 about1 = true := by decide +kernel
set_option maxRecDepth 65536 in
theorem w_case : (Jvm.Cond.and given_1 narrow_1).before args0 about1 = true := by decide +kernel
theorem w_applies : (headSpec (Jvm.Cond.code x code maxLocals ret :: tables_1) room_1).applies x e0.platform about1 = true :=
  (Spec.applies_iff w_frames).mpr ⟨w_running, w_runnable, w_alone, w_named, w_hears, w_ripe, w_room, w_tables⟩
theorem atStart : AtStart classFile x code maxLocals ret World_1 tables_1 room_1 Calls_1 rest_1 Pre_1 launch0 p0 e0 about1 theMethod args0 below0 :=
  ⟨lists_1, trivial, launch0.admits_env _ _ _, launch0.least_env, fairChoices_fair.cas, fairChoices_fair.clock, w_frames, w_args, w_heap, w_applies, trivial, w_rest, w_case⟩
end start1
theorem witness_1 : WitnessClaimed_1 := ⟨start1.p0, start1.e0, start1.about1, start1.theMethod, start1.args0, start1.below0, start1.atStart⟩
end Jvm.Pilot.@@N@@
