import JvmDerived
import JvmDerived.Pilot.@@N@@Statement
import JvmDerived.Pilot.@@N@@Code
set_option linter.unusedVariables false
set_option linter.unusedSimpArgs false
namespace Jvm.RoadKit
open Sem ClassFile Op Lib Jvm.Stand Jvm.Free Jvm.LawKit
section Own
variable {p : Program} {l : Launch} {e : Env} {R : Room} {s : State} {m : MethodId} {args : Array Value} {below : List Frame} {meth : Method} {c : Code} {T : State} {locs : List Loc} {cells slots : Nat} {k n : Nat} {Q : Option Value → Heap → List Loc → Prop} {W W' : State} {Z : State} {a0 : Array Value} {h : Heap}
/-- the run from W comes back, with what Q says -/
def OwnOut (p : Program) (e : Env) (s : State) (below : List Frame) (k n : Nat) (Q : Option Value → Heap → List Loc → Prop) (W : State) : Prop :=
  ∃ s₂ o, Steps p.tables e below W s₂ ∧ s₂.status = .running ∧ Ended s₂ below o ∧ ∃ v L, o = .returned v ∧ Q v s₂.heap L ∧ FrameEnd s o s₂ L k n
theorem OwnOut.go (h : ∀ t, Steps p.tables e below W' t → Steps p.tables e below W t) (H : OwnOut p e s below k n Q W') : OwnOut p e s below k n Q W := by
  obtain ⟨s₂, o, h1, h2⟩ := H
  exact ⟨s₂, o, h _ h1, h2⟩
theorem OwnOut.at {g g' : JFrame} (q : g = g') (H : OwnOut p e s below k n Q (T.setTop g')) : OwnOut p e s below k n Q (T.setTop g) := q ▸ H
theorem OwnOut.imp {Q' : Option Value → Heap → List Loc → Prop} (q : ∀ v h L, Q' v h L → Q v h L) (H : OwnOut p e s below k n Q' W) : OwnOut p e s below k n Q W := by
  obtain ⟨s₂, o, h1, h2, h3, v, L, h4, h5, h6⟩ := H
  exact ⟨s₂, o, h1, h2, h3, v, L, h4, q _ _ _ h5, h6⟩
theorem outI (X : Stand p l e R s m args below meth c T locs cells slots) (hx : p.tables.exec = Jvm.exec) {pc : Nat} {Ls : Array Slot} {z : Int32} (hret : meth.sig.returnType = some .int) (hd : decode c.code pc = .ok (.ireturn, 1)) (hlk : meth.locks = false) (hk : cells ≤ k) (hn : slots ≤ n) (q : Q (some (.int z)) T.heap locs) :
    OwnOut p e s below k n Q (T.setTop (mkF m pc Ls [.int z])) := by
  obtain ⟨fs, hr, hrun, hended, hW, hsame⟩ := X.leave (v := some (.int z)) (fun h => by rw [hret] at h; cases h) hlk
  exact ⟨_, _, X.ireturnOut hx hret rfl (Or.inl rfl) hd hr, hrun, hended, _, _, rfl, q, ⟨_, rfl⟩, hW, hsame.mono hk hn⟩
theorem outZ (X : Stand p l e R s m args below meth c T locs cells slots) (hx : p.tables.exec = Jvm.exec) {pc : Nat} {Ls : Array Slot} {z : Int32} (hret : meth.sig.returnType = some .boolean) (hd : decode c.code pc = .ok (.ireturn, 1)) (hlk : meth.locks = false) (hk : cells ≤ k) (hn : slots ≤ n) (q : Q (some (.int (z &&& 1))) T.heap locs) :
    OwnOut p e s below k n Q (T.setTop (mkF m pc Ls [.int z])) := by
  obtain ⟨fs, hr, hrun, hended, hW, hsame⟩ := X.leave (v := some (.int (z &&& 1))) (fun h => by rw [hret] at h; cases h) hlk
  exact ⟨_, _, retN X hx (t := .boolean) hret (by simp) hd hr, hrun, hended, _, _, rfl, q, ⟨_, rfl⟩, hW, hsame.mono hk hn⟩
theorem outJ (X : Stand p l e R s m args below meth c T locs cells slots) (hx : p.tables.exec = Jvm.exec) {pc : Nat} {Ls : Array Slot} {z : Int64} (hret : meth.sig.returnType = some .long) (hd : decode c.code pc = .ok (.lreturn, 1)) (hlk : meth.locks = false) (hk : cells ≤ k) (hn : slots ≤ n) (q : Q (some (.long z)) T.heap locs) :
    OwnOut p e s below k n Q (T.setTop (mkF m pc Ls [.long z])) := by
  obtain ⟨fs, hr, hrun, hended, hW, hsame⟩ := X.leave (v := some (.long z)) (fun h => by rw [hret] at h; cases h) hlk
  exact ⟨_, _, X.lreturnOut hx hret hd hr, hrun, hended, _, _, rfl, q, ⟨_, rfl⟩, hW, hsame.mono hk hn⟩
theorem outA (X : Stand p l e R s m args below meth c T locs cells slots) (hx : p.tables.exec = Jvm.exec) {pc : Nat} {Ls : Array Slot} {w : Value} {t : FieldType} (hw : w.isRef = true) (hret : meth.sig.returnType = some t) (ht : t.isReference = true) (hd : decode c.code pc = .ok (.areturn, 1)) (hlk : meth.locks = false) (hk : cells ≤ k) (hn : slots ≤ n) (q : Q (some w) T.heap locs) :
    OwnOut p e s below k n Q (T.setTop (mkF m pc Ls [w])) := by
  obtain ⟨fs, hr, hrun, hended, hW, hsame⟩ := X.leave (v := some w) (fun h => by rw [hret] at h; cases h) hlk
  exact ⟨_, _, X.areturnOut hx hw hret ht hd hr, hrun, hended, _, _, rfl, q, ⟨_, rfl⟩, hW, hsame.mono hk hn⟩
theorem outV (X : Stand p l e R s m args below meth c T locs cells slots) (hx : p.tables.exec = Jvm.exec) {pc : Nat} {Ls : Array Slot} (hret : meth.sig.returnType = none) (hd : decode c.code pc = .ok (.return_, 1)) (hlk : meth.locks = false) (hk : cells ≤ k) (hn : slots ≤ n) (q : Q none T.heap locs) :
    OwnOut p e s below k n Q (T.setTop (mkF m pc Ls [])) := by
  obtain ⟨fs, hr, hrun, hended, hW, hsame⟩ := X.leave (v := none) (fun _ => rfl) hlk
  exact ⟨_, _, X.returnOut hx hret hd hr, hrun, hended, _, _, rfl, q, ⟨_, rfl⟩, hW, hsame.mono hk hn⟩
theorem lremM {g : JFrame} {target : State} (X : Stand p l e R s m args below meth c T locs cells slots) (hx : p.tables.exec = Jvm.exec) (hg : g.method = m) {x y : Int64} {rest : List Value} (hd : decode c.code g.pc = .ok (.lrem, 1)) (hs : g.stack = .long y :: .long x :: rest) (hy : y ≠ 0)
    (hr : Steps p.tables e below (T.setTop { g with pc := g.pc + 1, stack := .long (x % y) :: rest }) target) : Steps p.tables e below (T.setTop g) target :=
  XS.lrem X.here hx hg hd hs hy (by rw [lrem_mod]; exact hr)
/-- a body that touches nothing: what it returns, the heap as it was, nothing written -/
def QP (h0 : Heap) (w : Option Value) (v : Option Value) (h : Heap) (L : List Loc) : Prop := v = w ∧ h = h0 ∧ L = []
/-- a static call of such a body -/
theorem callP (X : Stand p l e R s m args below meth c T locs cells slots) (hx : p.tables.exec = Jvm.exec) (hZ : Z.Warmed39 s.vm) {own : String} {index : Nat} {y : MethodName} {bytes : ByteArray} {maxL : Nat} {ret : Option FieldType} {rm : Room} {as' : Array Value} {w : Option Value}
    (hown : s.vm.findClass own = some m.cls) (w1 : (Cond.methodLink own index y).before a0 Z = true) (w2 : (Cond.static y).before a0 Z = true) (w3 : (Cond.initialized y.cls).before a0 Z = true) (w4 : (Cond.code y bytes maxL ret).before a0 Z = true) (hy : y.cls ≠ "java/lang/invoke/MethodHandle" ∧ y.cls ≠ "java/lang/invoke/VarHandle")
    (hM : MetFree l y (head1 [Cond.code y bytes maxL ret] rm) (fun a U => a = as' ∧ Z.Warmed39 U.vm ∧ U.heap = h) (fun _ _ _ _ _ => True) (fun _ U o U' => ∃ v L, o = .returned v ∧ QP h w v U'.heap L ∧ FrameEnd U o U' L rm.cells rm.slots))
    {W : Nat} (hf : rm.frames + 1 ≤ R.frames) (hl : W + (maxL + 11) + rm.locals ≤ R.locals) (z1 : rm.cells = 0) (z2 : rm.slots = 0) (hc : cells ≤ R.cells) (hs' : slots ≤ R.slots) (eT : T.heap = h)
    {g : JFrame} (hg : g.method = m) (hsize : g.locals.size = c.maxLocals) {argsL rest : List Value} (hlen : ∀ sig, parseMethodDescriptor y.desc = some sig → argsL.length = sig.parameters.length)
    (hstack : g.stack = argsL.reverse ++ rest) (hW : 2 * g.monitorRoom + (rest.map fun v => v.category).sum ≤ W) (hdg : decode c.code g.pc = .ok (.invokestatic index, 3)) (has : argsL.toArray = as' := by rfl) :
    ∃ T', Stand p l e R s m args below meth c T' locs cells slots ∧ T'.heap = h ∧ ∀ target, Steps p.tables e below (T'.setTop { g with pc := g.pc + 3, stack := w.toList ++ rest }) target → Steps p.tables e below (T.setTop g) target := by
  obtain ⟨v, vm₁, ⟨T', L', k', n'⟩, -, X', ⟨Lc, ⟨rfl, q2, rfl⟩, l1, y1, z3⟩, st⟩ := Jvm.LawKit.callS X hx (y := y) hown (mvT hZ w1) (mvT hZ w2) (mvT hZ w3) (mvT hZ w4) hy (backOf (W := W) hM hZ w4 w3 hf hl) hg hsize hlen hstack hW hdg (fun _ _ => ⟨has, eT, by rw [z1]; exact hc, by rw [z2]; exact hs'⟩)
  dsimp only [Pt.U, Pt.locs, Pt.cells, Pt.slots] at X' l1 y1 z3 st q2
  rw [z1] at y1; rw [z2] at z3
  rw [List.append_nil] at l1
  subst l1 y1 z3
  exact ⟨T', X', q2, st⟩
end Own
end Jvm.RoadKit
namespace Jvm.RoadKit
open Sem ClassFile Op Lib Jvm.Stand Jvm.Free Jvm.LawKit
section Own2
variable {p : Program} {l : Launch} {e : Env} {R : Room} {s : State} {m : MethodId} {args : Array Value} {below : List Frame} {meth : Method} {c : Code} {T : State} {locs : List Loc} {cells slots : Nat} {Z : State} {a0 : Array Value} {h h' : Heap} {a b : Addr} {ty : FieldType} {vs : List Value} {sl : Nat} {v : Value} {ws : List Addr}
/-- an array, by the list of what it holds -/
def Ar (Z : State) (h : Heap) (a : Addr) (ty : FieldType) (vs : List Value) : Prop := ∃ c : Cell, Arr Z h a c ty ∧ c.slots.toList = vs ∧ vs.length < 2 ^ 31
theorem Ar.lt (A : Ar Z h a ty vs) : a < h.size := by obtain ⟨c, q, -⟩ := A; exact q.lt
theorem Ar.ext (A : Ar Z h a ty vs) (E : Ext h h') : Ar Z h' a ty vs := by obtain ⟨c, q, r⟩ := A; exact ⟨c, q.ext E, r⟩
theorem Ar.other (A : Ar Z h b ty vs) (W : Wr h h' a sl v) (q : b ≠ a) : Ar Z h' b ty vs := by obtain ⟨c, r, t⟩ := A; exact ⟨c, r.other W q, t⟩
theorem Ar.keep (A : Ar Z h a ty vs) (K : Keep h h' ws) (q : a ∉ ws) : Ar Z h' a ty vs := by obtain ⟨c, r, t⟩ := A; exact ⟨c, ⟨K.2.1 a c r.1 q, r.2⟩, t⟩
theorem Ar.same (A : Ar Z h a ty vs) (W : Wr h h' a sl v) : Ar Z h' a ty (vs.set sl v) := by
  obtain ⟨c, r, t, u⟩ := A
  refine ⟨_, r.same W, ?_, by rw [List.length_set]; exact u⟩
  show (c.slots.setIfInBounds sl v).toList = _
  rw [Array.toList_setIfInBounds, t]
abbrev Ari (Z : State) (h : Heap) (a : Addr) (ty : FieldType) (xs : List Int32) : Prop := Ar Z h a ty (xs.map Value.int)
abbrev Arj (Z : State) (h : Heap) (a : Addr) (xs : List Int64) : Prop := Ar Z h a .long (xs.map Value.long)
/-- what an array's place holds -/
def ldx {α : Type} (xs : List α) (j : Int32) : Option α := if j < 0 then none else xs[j.toNatClampNeg]?
def stx {α : Type} (xs : List α) (j : Int32) (v : α) : Option (List α) := if j < 0 then none else if xs.length ≤ j.toNatClampNeg then none else some (xs.set j.toNatClampNeg v)
def nwx {α : Type} (d : α) (cap : Nat) (n : Int32) : Option (List α) := if n < 0 then none else if cap < n.toNatClampNeg then none else some (List.replicate n.toNatClampNeg d)
def lenx {α : Type} (xs : List α) : Int32 := xs.length.toInt32
theorem ldx_at {α : Type} {f : α → Value} {xs : List α} {j : Int32} {x : α} {cl : Cell} (hv : ldx xs j = some x) (q : cl.slots.toList = xs.map f) : ¬ (j < 0 ∨ cl.slots.size ≤ j.toNatClampNeg) ∧ cl.slots[j.toNatClampNeg]? = some (f x) := by
  unfold ldx at hv
  by_cases hj : j < 0
  · rw [if_pos hj] at hv; cases hv
  rw [if_neg hj] at hv
  have h1 : cl.slots[j.toNatClampNeg]? = some (f x) := by rw [← Array.getElem?_toList, q, List.getElem?_map, hv]; rfl
  refine ⟨fun z => z.elim hj fun z => ?_, h1⟩
  rw [Array.getElem?_eq_none z] at h1; cases h1
theorem stx_at {α : Type} {f : α → Value} {xs ys : List α} {j : Int32} {x : α} {cl : Cell} (hv : stx xs j x = some ys) (q : cl.slots.toList = xs.map f) : ¬ (j < 0 ∨ cl.slots.size ≤ j.toNatClampNeg) ∧ ys = xs.set j.toNatClampNeg x := by
  unfold stx at hv
  by_cases hj : j < 0
  · rw [if_pos hj] at hv; cases hv
  rw [if_neg hj] at hv
  by_cases hl : xs.length ≤ j.toNatClampNeg
  · rw [if_pos hl] at hv; cases hv
  rw [if_neg hl] at hv
  refine ⟨fun z => z.elim hj fun z => hl ?_, (Option.some.inj hv).symm⟩
  have : cl.slots.size = xs.length := by rw [← Array.length_toList, q, List.length_map]
  omega
theorem ldI (X : Stand p l e R s m args below meth c T locs cells slots) (hx : p.tables.exec = Jvm.exec) (hZ : Z.Warmed39 s.vm) (eT : T.heap = h) {xs : List Int32} (A : Ari Z h a .int xs) {j v : Int32} (hv : ldx xs j = some v) {g : JFrame} (hg : g.method = m) {rest : List Value} (hs : g.stack = .int j :: .ref a :: rest) (hd : decode c.code g.pc = .ok (.iaload, 1)) (target : State)
    (hr : Steps p.tables e below (T.setTop { g with pc := g.pc + 1, stack := .int v :: rest }) target) : Steps p.tables e below (T.setTop g) target := by
  obtain ⟨cl, A1, A2, -⟩ := A
  obtain ⟨hj, hat⟩ := ldx_at hv A2
  exact X.iaload hx (by rw [eT]; exact A1.1) (State.isArrayOf_alike hZ.alike A1.2.1) A1.2.2 hj hat hg hs hd target hr
theorem ldB (X : Stand p l e R s m args below meth c T locs cells slots) (hx : p.tables.exec = Jvm.exec) (hZ : Z.Warmed39 s.vm) (eT : T.heap = h) {xs : List Int32} (A : Ari Z h a .byte xs) {j v : Int32} (hv : ldx xs j = some v) {g : JFrame} (hg : g.method = m) {rest : List Value} (hs : g.stack = .int j :: .ref a :: rest) (hd : decode c.code g.pc = .ok (.baload, 1)) (target : State)
    (hr : Steps p.tables e below (T.setTop { g with pc := g.pc + 1, stack := .int v :: rest }) target) : Steps p.tables e below (T.setTop g) target := by
  obtain ⟨cl, A1, A2, -⟩ := A
  obtain ⟨hj, hat⟩ := ldx_at hv A2
  exact X.baloadBytes hx (by rw [eT]; exact A1.1) (State.isArrayOf_alike hZ.alike A1.2.1) A1.2.2 hj hat hg hs hd target hr
theorem ldZ (X : Stand p l e R s m args below meth c T locs cells slots) (hx : p.tables.exec = Jvm.exec) (hZ : Z.Warmed39 s.vm) (eT : T.heap = h) {xs : List Int32} (A : Ari Z h a .boolean xs) {j v : Int32} (hv : ldx xs j = some v) {g : JFrame} (hg : g.method = m) {rest : List Value} (hs : g.stack = .int j :: .ref a :: rest) (hd : decode c.code g.pc = .ok (.baload, 1)) (target : State)
    (hr : Steps p.tables e below (T.setTop { g with pc := g.pc + 1, stack := .int v :: rest }) target) : Steps p.tables e below (T.setTop g) target := by
  obtain ⟨cl, A1, A2, -⟩ := A
  obtain ⟨hj, hat⟩ := ldx_at hv A2
  exact X.baloadBooleans hx (by rw [eT]; exact A1.1) (State.isArrayOf_alike hZ.alike A1.2.1) A1.2.2 hj hat hg hs hd target hr
theorem ldJ (X : Stand p l e R s m args below meth c T locs cells slots) (hx : p.tables.exec = Jvm.exec) (hZ : Z.Warmed39 s.vm) (eT : T.heap = h) {xs : List Int64} (A : Arj Z h a xs) {j : Int32} {v : Int64} (hv : ldx xs j = some v) {g : JFrame} (hg : g.method = m) {rest : List Value} (hs : g.stack = .int j :: .ref a :: rest) (hd : decode c.code g.pc = .ok (.laload, 1)) (target : State)
    (hr : Steps p.tables e below (T.setTop { g with pc := g.pc + 1, stack := .long v :: rest }) target) : Steps p.tables e below (T.setTop g) target := by
  obtain ⟨cl, A1, A2, -⟩ := A
  obtain ⟨hj, hat⟩ := ldx_at hv A2
  exact X.laload hx (by rw [eT]; exact A1.1) (State.isArrayOf_alike hZ.alike A1.2.1) A1.2.2 hj hat hg hs hd target hr
theorem lenA (X : Stand p l e R s m args below meth c T locs cells slots) (hx : p.tables.exec = Jvm.exec) (hZ : Z.Warmed39 s.vm) (eT : T.heap = h) {α : Type} {f : α → Value} {xs : List α} (A : Ar Z h a ty (xs.map f)) {g : JFrame} (hg : g.method = m) {rest : List Value} (hs : g.stack = .ref a :: rest) (hd : decode c.code g.pc = .ok (.arraylength, 1)) (target : State)
    (hr : Steps p.tables e below (T.setTop { g with pc := g.pc + 1, stack := .int (lenx xs) :: rest }) target) : Steps p.tables e below (T.setTop g) target := by
  obtain ⟨cl, A1, A2, -⟩ := A
  have : cl.slots.size = xs.length := by rw [← Array.length_toList, A2, List.length_map]
  refine X.arraylength hx (by rw [eT]; exact A1.1) (State.isArrayOf_alike hZ.alike A1.2.1) hg hs hd target ?_
  rw [this]; exact hr
theorem saI (X : Stand p l e R s m args below meth c T locs cells slots) (hx : p.tables.exec = Jvm.exec) (hZ : Z.Warmed39 s.vm) (eT : T.heap = h) {xs ys : List Int32} (A : Ari Z h a .int xs) {j v : Int32} (hv : stx xs j v = some ys) {g : JFrame} (hg : g.method = m) {rest : List Value} (hs : g.stack = .int v :: .int j :: .ref a :: rest) (hd : decode c.code g.pc = .ok (.iastore, 1)) :
    ∃ T' h', Stand p l e R s m args below meth c T' (locs ++ [⟨a, j.toNatClampNeg⟩]) cells slots ∧ T'.heap = h' ∧ Wr h h' a j.toNatClampNeg (.int v) ∧ Ari Z h' a .int ys ∧ ∀ target, Steps p.tables e below (T'.setTop { g with pc := g.pc + 1, stack := rest }) target → Steps p.tables e below (T.setTop g) target := by
  have A' := A
  obtain ⟨cl, A1, A2, -⟩ := A
  obtain ⟨hj, rfl⟩ := stx_at hv A2
  obtain ⟨T', h', X', e', W', st⟩ := stI X hx hZ eT A1 hj hg hs hd
  exact ⟨T', h', X', e', W', by have q := A'.same W'; rw [← List.map_set] at q; exact q, st⟩
theorem saB (X : Stand p l e R s m args below meth c T locs cells slots) (hx : p.tables.exec = Jvm.exec) (hZ : Z.Warmed39 s.vm) (eT : T.heap = h) {xs ys : List Int32} (A : Ari Z h a .byte xs) {j v : Int32} (hv : stx xs j v.toInt8.toInt32 = some ys) {g : JFrame} (hg : g.method = m) {rest : List Value} (hs : g.stack = .int v :: .int j :: .ref a :: rest) (hd : decode c.code g.pc = .ok (.bastore, 1)) :
    ∃ T' h', Stand p l e R s m args below meth c T' (locs ++ [⟨a, j.toNatClampNeg⟩]) cells slots ∧ T'.heap = h' ∧ Wr h h' a j.toNatClampNeg (.int v.toInt8.toInt32) ∧ Ari Z h' a .byte ys ∧ ∀ target, Steps p.tables e below (T'.setTop { g with pc := g.pc + 1, stack := rest }) target → Steps p.tables e below (T.setTop g) target := by
  have A' := A
  obtain ⟨cl, A1, A2, -⟩ := A
  obtain ⟨hj, rfl⟩ := stx_at hv A2
  obtain ⟨T', h', X', e', W', st⟩ := stB X hx hZ eT A1 hj hg hs hd
  exact ⟨T', h', X', e', W', by have q := A'.same W'; rw [show Value.int (nar .byte v) = Value.int v.toInt8.toInt32 from rfl, ← List.map_set] at q; exact q, st⟩
theorem saZ (X : Stand p l e R s m args below meth c T locs cells slots) (hx : p.tables.exec = Jvm.exec) (hZ : Z.Warmed39 s.vm) (eT : T.heap = h) {xs ys : List Int32} (A : Ari Z h a .boolean xs) {j v : Int32} (hv : stx xs j (v &&& 1) = some ys) {g : JFrame} (hg : g.method = m) {rest : List Value} (hs : g.stack = .int v :: .int j :: .ref a :: rest) (hd : decode c.code g.pc = .ok (.bastore, 1)) :
    ∃ T' h', Stand p l e R s m args below meth c T' (locs ++ [⟨a, j.toNatClampNeg⟩]) cells slots ∧ T'.heap = h' ∧ Wr h h' a j.toNatClampNeg (.int (v &&& 1)) ∧ Ari Z h' a .boolean ys ∧ ∀ target, Steps p.tables e below (T'.setTop { g with pc := g.pc + 1, stack := rest }) target → Steps p.tables e below (T.setTop g) target := by
  have A' := A
  obtain ⟨cl, A1, A2, -⟩ := A
  obtain ⟨hj, rfl⟩ := stx_at hv A2
  obtain ⟨T', h', X', e', W', st⟩ := stZ X hx hZ eT A1 hj hg hs hd
  exact ⟨T', h', X', e', W', by have q := A'.same W'; rw [show Value.int (nar .boolean v) = Value.int (v &&& 1) from rfl, ← List.map_set] at q; exact q, st⟩
theorem saJ (X : Stand p l e R s m args below meth c T locs cells slots) (hx : p.tables.exec = Jvm.exec) (hZ : Z.Warmed39 s.vm) (eT : T.heap = h) {xs ys : List Int64} (A : Arj Z h a xs) {j : Int32} {v : Int64} (hv : stx xs j v = some ys) {g : JFrame} (hg : g.method = m) {rest : List Value} (hs : g.stack = .long v :: .int j :: .ref a :: rest) (hd : decode c.code g.pc = .ok (.lastore, 1)) :
    ∃ T' h', Stand p l e R s m args below meth c T' (locs ++ [⟨a, j.toNatClampNeg⟩]) cells slots ∧ T'.heap = h' ∧ Wr h h' a j.toNatClampNeg (.long v) ∧ Arj Z h' a ys ∧ ∀ target, Steps p.tables e below (T'.setTop { g with pc := g.pc + 1, stack := rest }) target → Steps p.tables e below (T.setTop g) target := by
  have A' := A
  obtain ⟨cl, A1, A2, -⟩ := A
  obtain ⟨hj, rfl⟩ := stx_at hv A2
  obtain ⟨T', h', X', e', W', st⟩ := stJ X hx hZ eT A1 hj hg hs hd
  exact ⟨T', h', X', e', W', by have q := A'.same W'; rw [← List.map_set] at q; exact q, st⟩
theorem nwx_at {α : Type} {d : α} {cap : Nat} {n : Int32} {xs : List α} (hv : nwx d cap n = some xs) : ¬ n < 0 ∧ n.toNatClampNeg ≤ cap ∧ xs = List.replicate n.toNatClampNeg d := by
  unfold nwx at hv
  by_cases hj : n < 0
  · rw [if_pos hj] at hv; cases hv
  rw [if_neg hj] at hv
  by_cases hl : cap < n.toNatClampNeg
  · rw [if_pos hl] at hv; cases hv
  rw [if_neg hl] at hv
  exact ⟨hj, Nat.le_of_not_lt hl, (Option.some.inj hv).symm⟩
theorem Ar.new {α : Type} {f : α → Value} {d : α} {n : Int32} {cA : ClassId} (A : Arr Z h a (newA cA ty n) ty) (q : ¬ n < 0) (hd : defaultValue ty = f d) : Ar Z h a ty ((List.replicate n.toNatClampNeg d).map f) := by
  refine ⟨_, A, ?_, ?_⟩
  · show (Array.replicate n.toNatClampNeg (defaultValue ty)).toList = _
    rw [Array.toList_replicate, List.map_replicate, hd]
  · rw [List.length_map, List.length_replicate]; exact (back32 q).2
/-- a new array of ints, bytes, booleans .. -/
theorem nwA (X : Stand p l e R s m args below meth c T locs cells slots) (hx : p.tables.exec = Jvm.exec) (hZ : Z.Warmed39 s.vm) {aty : ArrayType} (w : (Cond.arrayClass (newarray.typeOf aty)).before a0 Z = true) (eT : T.heap = h) {α : Type} {f : α → Value} {d : α} {cap : Nat} {n : Int32} {xs : List α} (hv : nwx d cap n = some xs) (hdf : defaultValue (newarray.typeOf aty) = f d)
    {g : JFrame} (hg : g.method = m) {rest : List Value} (hs : g.stack = .int n :: rest) (hd : decode c.code g.pc = .ok (.newarray aty, 2)) (hb : cap * 8 ≤ 536870912) (hc : cells + 1 ≤ R.cells) (hl : slots + cap ≤ R.slots) :
    ∃ T' h', Stand p l e R s m args below meth c T' locs (cells + 1) (slots + cap) ∧ T'.heap = h' ∧ Ext h h' ∧ Ar Z h' h.size (newarray.typeOf aty) (xs.map f) ∧ ∀ target, Steps p.tables e below (T'.setTop { g with pc := g.pc + 2, stack := .ref h.size :: rest }) target → Steps p.tables e below (T.setTop g) target := by
  obtain ⟨q1, q2, rfl⟩ := nwx_at hv
  obtain ⟨T', h', cA, X', e', E', A', st⟩ := newP X hx hZ w eT hg hd hs q1 (cap := cap) q2 hb hc hl
  exact ⟨T', h', X', e', E', Ar.new A' q1 hdf, st⟩
variable {y : MethodName} {bytes : ByteArray} {maxL : Nat} {ret : Option FieldType} {rm : Room} {as' : Array Value} {Q : Option Value → Heap → List Loc → Prop} {own : String} {index : Nat}
/-- a static call by the callee's contract -/
theorem callQ (X : Stand p l e R s m args below meth c T locs cells slots) (hx : p.tables.exec = Jvm.exec) (hZ : Z.Warmed39 s.vm)
    (hown : s.vm.findClass own = some m.cls) (w1 : (Cond.methodLink own index y).before a0 Z = true) (w2 : (Cond.static y).before a0 Z = true) (w3 : (Cond.initialized y.cls).before a0 Z = true) (w4 : (Cond.code y bytes maxL ret).before a0 Z = true) (hy : y.cls ≠ "java/lang/invoke/MethodHandle" ∧ y.cls ≠ "java/lang/invoke/VarHandle")
    (hM : MetFree l y (head1 [Cond.code y bytes maxL ret] rm) (fun a U => a = as' ∧ Z.Warmed39 U.vm ∧ U.heap = h) (fun _ _ _ _ _ => True) (fun _ U o U' => ∃ v L, o = .returned v ∧ Q v U'.heap L ∧ FrameEnd U o U' L rm.cells rm.slots))
    {W : Nat} (hf : rm.frames + 1 ≤ R.frames) (hl : W + (maxL + 11) + rm.locals ≤ R.locals) (hc : cells + rm.cells ≤ R.cells) (hs' : slots + rm.slots ≤ R.slots) (eT : T.heap = h)
    {g : JFrame} (hg : g.method = m) (hsize : g.locals.size = c.maxLocals) {argsL rest : List Value} (hlen : ∀ sig, parseMethodDescriptor y.desc = some sig → argsL.length = sig.parameters.length)
    (hstack : g.stack = argsL.reverse ++ rest) (hW : 2 * g.monitorRoom + (rest.map fun v => v.category).sum ≤ W) (hdg : decode c.code g.pc = .ok (.invokestatic index, 3)) (has : argsL.toArray = as' := by rfl) :
    ∃ v T' L', Stand p l e R s m args below meth c T' (locs ++ L') (cells + rm.cells) (slots + rm.slots) ∧ Q v T'.heap L' ∧ ∀ target, Steps p.tables e below (T'.setTop { g with pc := g.pc + 3, stack := v.toList ++ rest }) target → Steps p.tables e below (T.setTop g) target := by
  obtain ⟨v, vm₁, ⟨T', L', k', n'⟩, -, X', ⟨Lc, q2, l1, y1, z3⟩, st⟩ := Jvm.LawKit.callS X hx (y := y) hown (mvT hZ w1) (mvT hZ w2) (mvT hZ w3) (mvT hZ w4) hy (backOf (W := W) hM hZ w4 w3 hf hl) hg hsize hlen hstack hW hdg (fun _ _ => ⟨has, eT, hc, hs'⟩)
  dsimp only [Pt.U, Pt.locs, Pt.cells, Pt.slots] at X' l1 y1 z3 st q2
  subst l1 y1 z3
  exact ⟨v, T', Lc, X', q2, st⟩
/-- a constructor by its contract -/
theorem callN {ret : Option FieldType} (X : Stand p l e R s m args below meth c T locs cells slots) (hx : p.tables.exec = Jvm.exec) (hZ : Z.Warmed39 s.vm) (hret : ret = none) (hnm : y.name = "<init>")
    (hown : s.vm.findClass own = some m.cls) (w1 : (Cond.methodLink own index y).before a0 Z = true) (w2 : (Cond.instanceMethod y).before a0 Z = true) (w3 : (Cond.initialized y.cls).before a0 Z = true) (w4 : (Cond.code y bytes maxL ret).before a0 Z = true) (hy : y.cls ≠ "java/lang/invoke/MethodHandle" ∧ y.cls ≠ "java/lang/invoke/VarHandle")
    (hM : MetFree l y (head1 [Cond.code y bytes maxL ret] rm) (fun a U => a = as' ∧ Z.Warmed39 U.vm ∧ U.heap = h) (fun _ _ _ _ _ => True) (fun _ U o U' => ∃ v L, o = .returned v ∧ Q v U'.heap L ∧ FrameEnd U o U' L rm.cells rm.slots))
    {W : Nat} (hf : rm.frames + 1 ≤ R.frames) (hl : W + (maxL + 11) + rm.locals ≤ R.locals) (hc : cells + rm.cells ≤ R.cells) (hs' : slots + rm.slots ≤ R.slots) (eT : T.heap = h)
    {g : JFrame} (hg : g.method = m) (hsize : g.locals.size = c.maxLocals) {a : Addr} {argsL rest : List Value} (hlen : ∀ sig, parseMethodDescriptor y.desc = some sig → argsL.length = sig.parameters.length)
    (hstack : g.stack = argsL.reverse ++ .ref a :: rest) (hW : 2 * g.monitorRoom + (rest.map fun v => v.category).sum ≤ W) (hdg : decode c.code g.pc = .ok (.invokespecial index, 3)) (has : (Value.ref a :: argsL).toArray = as' := by rfl) :
    ∃ v T' L', Stand p l e R s m args below meth c T' (locs ++ L') (cells + rm.cells) (slots + rm.slots) ∧ Q v T'.heap L' ∧ ∀ target, Steps p.tables e below (T'.setTop { g with pc := g.pc + 3, stack := v.toList ++ rest }) target → Steps p.tables e below (T.setTop g) target := by
  subst hret
  obtain ⟨v, vm₁, ⟨T', L', k', n'⟩, -, X', ⟨Lc, q2, l1, y1, z3⟩, st⟩ := X.specialBack hx (y := y) hnm hown (mvT hZ w1) (mvT hZ w2) (mvT hZ w4) hy (backOf (W := W) hM hZ w4 w3 hf hl) hg hsize (Steps.refl _) hlen hstack hW hdg (fun _ _ => ⟨has, eT, hc, hs'⟩)
  dsimp only [Pt.U, Pt.locs, Pt.cells, Pt.slots] at X' l1 y1 z3 st q2
  subst l1 y1 z3
  exact ⟨v, T', Lc, X', q2, fun t k => st.trans k⟩
/-- an instance method by its contract -/
theorem callV (X : Stand p l e R s m args below meth c T locs cells slots) (hx : p.tables.exec = Jvm.exec) (hZ : Z.Warmed39 s.vm)
    (hown : s.vm.findClass own = some m.cls) (w1 : (Cond.methodLink own index y).before a0 Z = true) (w2 : (Cond.declares y).before a0 Z = true) (w3 : (Cond.selects y.cls y y).before a0 Z = true) (w5 : (Cond.instanceMethod y).before a0 Z = true) (w6 : (Cond.initialized y.cls).before a0 Z = true) (w4 : (Cond.code y bytes maxL ret).before a0 Z = true) (hy : y.cls ≠ "java/lang/invoke/MethodHandle" ∧ y.cls ≠ "java/lang/invoke/VarHandle")
    (hM : MetFree l y (head1 [Cond.code y bytes maxL ret] rm) (fun a U => a = as' ∧ Z.Warmed39 U.vm ∧ U.heap = h) (fun _ _ _ _ _ => True) (fun _ U o U' => ∃ v L, o = .returned v ∧ Q v U'.heap L ∧ FrameEnd U o U' L rm.cells rm.slots))
    {W : Nat} (hf : rm.frames + 1 ≤ R.frames) (hl : W + (maxL + 11) + rm.locals ≤ R.locals) (hc : cells + rm.cells ≤ R.cells) (hs' : slots + rm.slots ≤ R.slots) (eT : T.heap = h) {a : Addr} (E : Exa Z h a y.cls)
    {g : JFrame} (hg : g.method = m) (hsize : g.locals.size = c.maxLocals) {argsL rest : List Value} (hlen : ∀ sig, parseMethodDescriptor y.desc = some sig → argsL.length = sig.parameters.length)
    (hstack : g.stack = argsL.reverse ++ .ref a :: rest) (hW : 2 * g.monitorRoom + (rest.map fun v => v.category).sum ≤ W) (hdg : decode c.code g.pc = .ok (.invokevirtual index, 3)) (has : (Value.ref a :: argsL).toArray = as' := by rfl) :
    ∃ v T' L', Stand p l e R s m args below meth c T' (locs ++ L') (cells + rm.cells) (slots + rm.slots) ∧ Q v T'.heap L' ∧ ∀ target, Steps p.tables e below (T'.setTop { g with pc := g.pc + 3, stack := v.toList ++ rest }) target → Steps p.tables e below (T.setTop g) target := by
  obtain ⟨cq, kq, qa, qb, qc⟩ := isOf hZ eT E
  obtain ⟨v, vm₁, ⟨T', L', k', n'⟩, -, X', ⟨Lc, q2, l1, y1, z3⟩, st⟩ := X.virtualBack hx (y := y) (z := y) hown (mvT hZ w1) (mvT hZ w2) (notFace_of_selects (args := #[]) (mvT hZ w3)) (mvT hZ w3) (mvT hZ w5) hy (backOf (W := W) hM hZ w4 w6 hf hl) qa qc hg hsize (Steps.refl _) hlen hstack hW hdg (fun _ _ => ⟨has, eT, hc, hs'⟩)
  dsimp only [Pt.U, Pt.locs, Pt.cells, Pt.slots] at X' l1 y1 z3 st q2
  subst l1 y1 z3
  exact ⟨v, T', Lc, X', q2, fun t k => st.trans k⟩
/-- a private method by its contract -/
theorem callR (X : Stand p l e R s m args below meth c T locs cells slots) (hx : p.tables.exec = Jvm.exec) (hZ : Z.Warmed39 s.vm)
    (hown : s.vm.findClass own = some m.cls) (w1 : (Cond.methodLink own index y).before a0 Z = true) (w2 : (Cond.privateMethod y).before a0 Z = true) {kk : Nat} (w3 : (Cond.instantiable y.cls kk).before a0 Z = true) (w5 : (Cond.instanceMethod y).before a0 Z = true) (w6 : (Cond.initialized y.cls).before a0 Z = true) (w4 : (Cond.code y bytes maxL ret).before a0 Z = true) (hy : y.cls ≠ "java/lang/invoke/MethodHandle" ∧ y.cls ≠ "java/lang/invoke/VarHandle")
    (hM : MetFree l y (head1 [Cond.code y bytes maxL ret] rm) (fun a U => a = as' ∧ Z.Warmed39 U.vm ∧ U.heap = h) (fun _ _ _ _ _ => True) (fun _ U o U' => ∃ v L, o = .returned v ∧ Q v U'.heap L ∧ FrameEnd U o U' L rm.cells rm.slots))
    {W : Nat} (hf : rm.frames + 1 ≤ R.frames) (hl : W + (maxL + 11) + rm.locals ≤ R.locals) (hc : cells + rm.cells ≤ R.cells) (hs' : slots + rm.slots ≤ R.slots) (eT : T.heap = h) {a : Addr} (E : Exa Z h a y.cls)
    {g : JFrame} (hg : g.method = m) (hsize : g.locals.size = c.maxLocals) {argsL rest : List Value} (hlen : ∀ sig, parseMethodDescriptor y.desc = some sig → argsL.length = sig.parameters.length)
    (hstack : g.stack = argsL.reverse ++ .ref a :: rest) (hW : 2 * g.monitorRoom + (rest.map fun v => v.category).sum ≤ W) (hdg : decode c.code g.pc = .ok (.invokevirtual index, 3)) (has : (Value.ref a :: argsL).toArray = as' := by rfl) :
    ∃ v T' L', Stand p l e R s m args below meth c T' (locs ++ L') (cells + rm.cells) (slots + rm.slots) ∧ Q v T'.heap L' ∧ ∀ target, Steps p.tables e below (T'.setTop { g with pc := g.pc + 3, stack := v.toList ++ rest }) target → Steps p.tables e below (T.setTop g) target := by
  obtain ⟨cq, q, q'⟩ := E.cell
  have hpr := Cond.privateMethod_at (mvP hZ w2 (args := args))
  obtain ⟨c4, k2, i1, i2, -, i4, -⟩ := Cond.instantiable_spec (mvT hZ w3 : (Cond.instantiable y.cls kk).before args s = true)
  have hsel := selects_self_of_private (args := args) i1 i2 (by simp only [Bool.or_eq_false_iff] at i4; exact i4.1) hpr (mvT hZ w5) hy
  obtain ⟨v, vm₁, ⟨T', L', k', n'⟩, -, X', ⟨Lc, q2, l1, y1, z3⟩, st⟩ := X.privateBack hx (y := y) hown (mvT hZ w1) (mvT hZ w5) hsel hpr (mvT hZ w4) hy (backOf (W := W) hM hZ w4 w6 hf hl) hg hsize (Steps.refl _) (by rw [eT]; exact q) q' hlen hstack hW hdg (fun _ _ => ⟨has, eT, hc, hs'⟩)
  dsimp only [Pt.U, Pt.locs, Pt.cells, Pt.slots] at X' l1 y1 z3 st q2
  subst l1 y1 z3
  exact ⟨v, T', Lc, X', q2, fun t k => st.trans k⟩
end Own2
end Jvm.RoadKit
namespace Jvm.Pilot.@@N@@
open Jvm Jvm.ClassFile Sem Op Lib Jvm.Free Jvm.Stand Jvm.LawKit Jvm.RoadKit Bundle Jvm.Pilot.@@N@@.Jvm.D
theorem d1_0 : decode prog_69_method_7_code 0 = .ok (.iload_n 0, 1) := by decide +kernel
theorem d1_1 : decode prog_69_method_7_code 1 = .ok (.i2l, 1) := by decide +kernel
theorem d1_2 : decode prog_69_method_7_code 2 = .ok (.ldc2_w 110, 3) := by decide +kernel
theorem d1_5 : decode prog_69_method_7_code 5 = .ok (.lmul, 1) := by decide +kernel
theorem d1_6 : decode prog_69_method_7_code 6 = .ok (.ldc2_w 112, 3) := by decide +kernel
theorem d1_9 : decode prog_69_method_7_code 9 = .ok (.lsub, 1) := by decide +kernel
theorem d1_10 : decode prog_69_method_7_code 10 = .ok (.bipush 41, 2) := by decide +kernel
theorem d1_12 : decode prog_69_method_7_code 12 = .ok (.lshr, 1) := by decide +kernel
theorem d1_13 : decode prog_69_method_7_code 13 = .ok (.l2i, 1) := by decide +kernel
theorem d1_14 : decode prog_69_method_7_code 14 = .ok (.ireturn, 1) := by decide +kernel
theorem pn1 : plainName (site_14.cls) = true := by first | (simp [plainName, overriddenIn]; done) | decide +kernel
theorem pd1 : parseMethodDescriptor "(I)I" = some ⟨[.int], some .int⟩ := by decide +kernel
theorem ef1 (m : MethodId) (x0 : Int32) : entryFrame m #[(.int x0)] 1 = mkF m 0 #[.val (.int x0)] [] := by first | (simp [entryFrame, mkF, argsToLocals, Value.category]; done) | rfl
abbrev rx1 : Room := { frames := 0, cells := 0, slots := 0, locals := 0 }
abbrev Cx1 (Z : State) (a0 : Array Value) (p : Program) (s : State) (m : MethodId) (meth : Method) (c : Code) : Prop := p.tables.exec = Jvm.exec ∧ Z.Warmed39 s.vm ∧ (∀ d ∈ tables_1, d.before a0 Z = true) ∧ c.code = prog_69_method_7_code ∧ c.maxLocals = 1 ∧ s.vm.findClass (site_14.cls) = some m.cls ∧ meth.sig.returnType = (some .int) ∧ meth.locks = false ∧ meth.name = "floorLog10ThreeQuartersPow2"
def Q1 (Z : State) (x0 : Int32) (h0 : Heap) (o : Int32) (v : Option Value) (h : Heap) (L : List Loc) : Prop := v = some (.int o) ∧ h = h0 ∧ L = []
def f1 (x0 : Int32) : Option (Int32) := some ((((((x0.toInt64) * (661971961083 : Int64)) - (274743187321 : Int64)) >>> ((41 : Int32) &&& 0x3f).toInt64).toInt32))
set_option maxRecDepth 65536 in
set_option maxHeartbeats 40000000 in
theorem w1_0 {p : Program} {l : Launch} {e : Env} {s : State} {m : MethodId} {args : Array Value} {below : List Frame} {meth : Method} {c : Code} {Z : State} {a0 : Array Value} {h0 : Heap} (C : Cx1 Z a0 p s m meth c) :
    ∀ (T : State) (x0 : Int32) (o : Int32), f1 x0 = some o → Stand p l e rx1 s m args below meth c T [] 0 0 → T.heap = h0 →  OwnOut p e s below 0 0 (Q1 Z default h0 o) (T.setTop (mkF m 0 #[.val (.int x0)] [])) := by
    obtain ⟨hx, hZ, hw, hby, hml, hown, hret, hlk, hnm⟩ := C
    intro T x0 o hr X0 e0
    rw [f1] at hr
    refine OwnOut.go (fun t k => XS.iloadN X0.here hx rfl (hb hby d1_0) rfl k) ?_
    show OwnOut p e s below 0 0 _ (T.setTop (mkF m 1 #[.val (.int x0)] [(.int x0)]))
    refine OwnOut.go (fun t k => XS.i2l X0.here hx rfl (hb hby d1_1) rfl k) ?_
    show OwnOut p e s below 0 0 _ (T.setTop (mkF m 2 #[.val (.int x0)] [(.long (x0.toInt64))]))
    refine OwnOut.go (fun t k => X0.ldc2Long hx hown (mvT hZ (hw _ (List.mem_of_getElem? (i := 5) rfl))) (g := (mkF m 2 #[.val (.int x0)] [(.long (x0.toInt64))])) rfl (hb hby d1_2) _ k) ?_
    show OwnOut p e s below 0 0 _ (T.setTop (mkF m 5 #[.val (.int x0)] [(.long (661971961083 : Int64)), (.long (x0.toInt64))]))
    refine OwnOut.go (fun t k => XS.lmul X0.here hx rfl (hb hby d1_5) rfl k) ?_
    show OwnOut p e s below 0 0 _ (T.setTop (mkF m 6 #[.val (.int x0)] [(.long ((x0.toInt64) * (661971961083 : Int64)))]))
    refine OwnOut.go (fun t k => X0.ldc2Long hx hown (mvT hZ (hw _ (List.mem_of_getElem? (i := 6) rfl))) (g := (mkF m 6 #[.val (.int x0)] [(.long ((x0.toInt64) * (661971961083 : Int64)))])) rfl (hb hby d1_6) _ k) ?_
    show OwnOut p e s below 0 0 _ (T.setTop (mkF m 9 #[.val (.int x0)] [(.long (274743187321 : Int64)), (.long ((x0.toInt64) * (661971961083 : Int64)))]))
    refine OwnOut.go (fun t k => XS.lsub X0.here hx rfl (hb hby d1_9) rfl k) ?_
    show OwnOut p e s below 0 0 _ (T.setTop (mkF m 10 #[.val (.int x0)] [(.long (((x0.toInt64) * (661971961083 : Int64)) - (274743187321 : Int64)))]))
    refine OwnOut.go (fun t k => XT.bipushV X0.here hx rfl (41 : Int32) (hb hby d1_10) rfl k) ?_
    show OwnOut p e s below 0 0 _ (T.setTop (mkF m 12 #[.val (.int x0)] [(.int (41 : Int32)), (.long (((x0.toInt64) * (661971961083 : Int64)) - (274743187321 : Int64)))]))
    refine OwnOut.go (fun t k => XS.lshr X0.here hx rfl (hb hby d1_12) rfl k) ?_
    show OwnOut p e s below 0 0 _ (T.setTop (mkF m 13 #[.val (.int x0)] [(.long ((((x0.toInt64) * (661971961083 : Int64)) - (274743187321 : Int64)) >>> ((41 : Int32) &&& 0x3f).toInt64))]))
    refine OwnOut.go (fun t k => XS.l2i X0.here hx rfl (hb hby d1_13) rfl k) ?_
    show OwnOut p e s below 0 0 _ (T.setTop (mkF m 14 #[.val (.int x0)] [(.int (((((x0.toInt64) * (661971961083 : Int64)) - (274743187321 : Int64)) >>> ((41 : Int32) &&& 0x3f).toInt64).toInt32))]))
    cases hr
    exact outI X0 hx hret (hb hby d1_14) hlk (by decide) (by decide) ⟨rfl, e0, rfl⟩
set_option maxRecDepth 65536 in
set_option maxHeartbeats 40000000 in
theorem rm1 (l : Launch) (Z : State) (a0 : Array Value) (hw : ∀ d ∈ tables_1, d.before a0 Z = true) (ws : List Jvm.Cond) (x0 : Int32) (h0 : Heap) (o : Int32) (hr : f1 x0 = some o) :
    MetFree l (⟨(site_14.cls), "floorLog10ThreeQuartersPow2", "(I)I"⟩ : MethodName) (head1 (Jvm.Cond.code (⟨(site_14.cls), "floorLog10ThreeQuartersPow2", "(I)I"⟩ : MethodName) prog_69_method_7_code 1 (some .int) :: ws) rx1) (fun a U => a = #[(.int x0)] ∧ Z.Warmed39 U.vm ∧ U.heap = h0) (fun _ _ _ _ _ => True) (fun _ U o' U' => ∃ v L, o' = .returned v ∧ Q1 Z x0 h0 o v U'.heap L ∧ FrameEnd U o' U' L rx1.cells rx1.slots) := by
  refine MetFree.of_bodySF (plainFor_of_name pn1) hisR ?_
  intro p e s m args below meth c s₁ Bd hml0 hP hK
  obtain ⟨rfl, hZ, hh⟩ := hP
  have X0 : Stand p l e rx1 s m #[(.int x0)] below meth c s₁ [] 0 0 := Stand.of_body Bd
  have e0 : s₁.heap = h0 := by rw [← hh, Bd.state]; rfl
  have hfc := findClass_of_methodNamed Bd.named
  exact OwnOut.at (ef1 m x0) (w1_0 ⟨Bd.exec, hZ, hw, Bd.bytes, hml0, hfc, Bd.returns, Bd.notSynchronized, (name_of_methodNamed Bd.named Bd.method).1⟩ _ x0 o hr X0 e0  )
theorem d2_0 : decode jdk_29_method_70_code 0 = .ok (.lload_n 0, 1) := by decide +kernel
theorem d2_1 : decode jdk_29_method_70_code 1 = .ok (.lload_n 2, 1) := by decide +kernel
theorem d2_2 : decode jdk_29_method_70_code 2 = .ok (.lcmp, 1) := by decide +kernel
theorem d2_3 : decode jdk_29_method_70_code 3 = .ok (.ifCond .gt 7, 3) := by decide +kernel
theorem d2_6 : decode jdk_29_method_70_code 6 = .ok (.lload_n 0, 1) := by decide +kernel
theorem d2_7 : decode jdk_29_method_70_code 7 = .ok (.goto 4, 3) := by decide +kernel
theorem d2_10 : decode jdk_29_method_70_code 10 = .ok (.lload_n 2, 1) := by decide +kernel
theorem d2_11 : decode jdk_29_method_70_code 11 = .ok (.lreturn, 1) := by decide +kernel
theorem pd2 : parseMethodDescriptor "(JJ)J" = some ⟨[.long, .long], some .long⟩ := by decide +kernel
theorem ef2 (m : MethodId) (x0 : Int64) (x2 : Int64) : entryFrame m #[(.long x0), (.long x2)] 4 = mkF m 0 #[.val (.long x0), .second, .val (.long x2), .second] [] := by first | (simp [entryFrame, mkF, argsToLocals, Value.category]; done) | rfl
abbrev rx2 : Room := { frames := 0, cells := 0, slots := 0, locals := 0 }
abbrev Cx2 (Z : State) (a0 : Array Value) (p : Program) (s : State) (m : MethodId) (meth : Method) (c : Code) : Prop := p.tables.exec = Jvm.exec ∧ Z.Warmed39 s.vm ∧ (∀ d ∈ tables_1, d.before a0 Z = true) ∧ c.code = jdk_29_method_70_code ∧ c.maxLocals = 4 ∧ s.vm.findClass "java/lang/Math" = some m.cls ∧ meth.sig.returnType = (some .long) ∧ meth.locks = false ∧ meth.name = "min"
def Q2 (Z : State) (x0 : Int64) (x2 : Int64) (h0 : Heap) (o : Int64) (v : Option Value) (h : Heap) (L : List Loc) : Prop := v = some (.long o) ∧ h = h0 ∧ L = []
def f2 (x0 : Int64) (x2 : Int64) : Option (Int64) := (if x2 < x0 then some (x2) else some (x0))
set_option maxRecDepth 65536 in
set_option maxHeartbeats 40000000 in
theorem w2_0 {p : Program} {l : Launch} {e : Env} {s : State} {m : MethodId} {args : Array Value} {below : List Frame} {meth : Method} {c : Code} {Z : State} {a0 : Array Value} {h0 : Heap} (C : Cx2 Z a0 p s m meth c) :
    ∀ (T : State) (x0 : Int64) (x2 : Int64) (o : Int64), f2 x0 x2 = some o → Stand p l e rx2 s m args below meth c T [] 0 0 → T.heap = h0 →  OwnOut p e s below 0 0 (Q2 Z default default h0 o) (T.setTop (mkF m 0 #[.val (.long x0), .second, .val (.long x2), .second] [])) := by
    obtain ⟨hx, hZ, hw, hby, hml, hown, hret, hlk, hnm⟩ := C
    intro T x0 x2 o hr X0 e0
    rw [f2] at hr
    refine OwnOut.go (fun t k => XS.lloadN X0.here hx rfl (hb hby d2_0) rfl k) ?_
    show OwnOut p e s below 0 0 _ (T.setTop (mkF m 1 #[.val (.long x0), .second, .val (.long x2), .second] [(.long x0)]))
    refine OwnOut.go (fun t k => XS.lloadN X0.here hx rfl (hb hby d2_1) rfl k) ?_
    show OwnOut p e s below 0 0 _ (T.setTop (mkF m 2 #[.val (.long x0), .second, .val (.long x2), .second] [(.long x2), (.long x0)]))
    refine OwnOut.go (fun t k => XS.lcmp X0.here hx rfl (hb hby d2_2) rfl k) ?_
    show OwnOut p e s below 0 0 _ (T.setTop (mkF m 3 #[.val (.long x0), .second, .val (.long x2), .second] [(.int (XT.cmpL x0 x2))]))
    by_cases hc3 : x2 < x0
    · rw [if_pos hc3] at hr
      refine OwnOut.go (fun t k => XS.ifYes X0.here hx rfl (pc0 := 3) (pc' := 10) rfl (hb hby d2_3) rfl (XT.ll_gt_t hc3) (by decide) (by decide) k) ?_
      show OwnOut p e s below 0 0 _ (T.setTop (mkF m 10 #[.val (.long x0), .second, .val (.long x2), .second] []))
      refine OwnOut.go (fun t k => XS.lloadN X0.here hx rfl (hb hby d2_10) rfl k) ?_
      show OwnOut p e s below 0 0 _ (T.setTop (mkF m 11 #[.val (.long x0), .second, .val (.long x2), .second] [(.long x2)]))
      cases hr
      exact outJ X0 hx hret (hb hby d2_11) hlk (by decide) (by decide) ⟨rfl, e0, rfl⟩
    · rw [if_neg hc3] at hr
      refine OwnOut.go (fun t k => XS.ifNo X0.here hx rfl (hb hby d2_3) rfl (XT.ll_gt_f hc3) k) ?_
      show OwnOut p e s below 0 0 _ (T.setTop (mkF m 6 #[.val (.long x0), .second, .val (.long x2), .second] []))
      refine OwnOut.go (fun t k => XS.lloadN X0.here hx rfl (hb hby d2_6) rfl k) ?_
      show OwnOut p e s below 0 0 _ (T.setTop (mkF m 7 #[.val (.long x0), .second, .val (.long x2), .second] [(.long x0)]))
      refine OwnOut.go (fun t k => XS.goto X0.here hx rfl (pc0 := 7) (pc' := 11) rfl (hb hby d2_7) (by decide) (by decide) k) ?_
      show OwnOut p e s below 0 0 _ (T.setTop (mkF m 11 #[.val (.long x0), .second, .val (.long x2), .second] [(.long x0)]))
      cases hr
      exact outJ X0 hx hret (hb hby d2_11) hlk (by decide) (by decide) ⟨rfl, e0, rfl⟩
set_option maxRecDepth 65536 in
set_option maxHeartbeats 40000000 in
theorem rm2 (l : Launch) (Z : State) (a0 : Array Value) (hw : ∀ d ∈ tables_1, d.before a0 Z = true) (ws : List Jvm.Cond) (x0 : Int64) (x2 : Int64) (h0 : Heap) (o : Int64) (hr : f2 x0 x2 = some o) :
    MetFree l (⟨"java/lang/Math", "min", "(JJ)J"⟩ : MethodName) (head1 (Jvm.Cond.code (⟨"java/lang/Math", "min", "(JJ)J"⟩ : MethodName) jdk_29_method_70_code 4 (some .long) :: ws) rx2) (fun a U => a = #[(.long x0), (.long x2)] ∧ Z.Warmed39 U.vm ∧ U.heap = h0) (fun _ _ _ _ _ => True) (fun _ U o' U' => ∃ v L, o' = .returned v ∧ Q2 Z x0 x2 h0 o v U'.heap L ∧ FrameEnd U o' U' L rx2.cells rx2.slots) := by
  refine MetFree.of_bodySF (Jvm.Free.JP.mathPlain rfl (by decide +kernel)) hisR ?_
  intro p e s m args below meth c s₁ Bd hml0 hP hK
  obtain ⟨rfl, hZ, hh⟩ := hP
  have X0 : Stand p l e rx2 s m #[(.long x0), (.long x2)] below meth c s₁ [] 0 0 := Stand.of_body Bd
  have e0 : s₁.heap = h0 := by rw [← hh, Bd.state]; rfl
  have hfc := findClass_of_methodNamed Bd.named
  exact OwnOut.at (ef2 m x0 x2) (w2_0 ⟨Bd.exec, hZ, hw, Bd.bytes, hml0, hfc, Bd.returns, Bd.notSynchronized, (name_of_methodNamed Bd.named Bd.method).1⟩ _ x0 x2 o hr X0 e0  )
theorem d3_0 : decode jdk_29_method_66_code 0 = .ok (.lload_n 0, 1) := by decide +kernel
theorem d3_1 : decode jdk_29_method_66_code 1 = .ok (.lload_n 2, 1) := by decide +kernel
theorem d3_2 : decode jdk_29_method_66_code 2 = .ok (.lcmp, 1) := by decide +kernel
theorem d3_3 : decode jdk_29_method_66_code 3 = .ok (.ifCond .lt 7, 3) := by decide +kernel
theorem d3_6 : decode jdk_29_method_66_code 6 = .ok (.lload_n 0, 1) := by decide +kernel
theorem d3_7 : decode jdk_29_method_66_code 7 = .ok (.goto 4, 3) := by decide +kernel
theorem d3_10 : decode jdk_29_method_66_code 10 = .ok (.lload_n 2, 1) := by decide +kernel
theorem d3_11 : decode jdk_29_method_66_code 11 = .ok (.lreturn, 1) := by decide +kernel
theorem pd3 : parseMethodDescriptor "(JJ)J" = some ⟨[.long, .long], some .long⟩ := by decide +kernel
theorem ef3 (m : MethodId) (x0 : Int64) (x2 : Int64) : entryFrame m #[(.long x0), (.long x2)] 4 = mkF m 0 #[.val (.long x0), .second, .val (.long x2), .second] [] := by first | (simp [entryFrame, mkF, argsToLocals, Value.category]; done) | rfl
abbrev rx3 : Room := { frames := 0, cells := 0, slots := 0, locals := 0 }
abbrev Cx3 (Z : State) (a0 : Array Value) (p : Program) (s : State) (m : MethodId) (meth : Method) (c : Code) : Prop := p.tables.exec = Jvm.exec ∧ Z.Warmed39 s.vm ∧ (∀ d ∈ tables_1, d.before a0 Z = true) ∧ c.code = jdk_29_method_66_code ∧ c.maxLocals = 4 ∧ s.vm.findClass "java/lang/Math" = some m.cls ∧ meth.sig.returnType = (some .long) ∧ meth.locks = false ∧ meth.name = "max"
def Q3 (Z : State) (x0 : Int64) (x2 : Int64) (h0 : Heap) (o : Int64) (v : Option Value) (h : Heap) (L : List Loc) : Prop := v = some (.long o) ∧ h = h0 ∧ L = []
def f3 (x0 : Int64) (x2 : Int64) : Option (Int64) := (if x0 < x2 then some (x2) else some (x0))
set_option maxRecDepth 65536 in
set_option maxHeartbeats 40000000 in
theorem w3_0 {p : Program} {l : Launch} {e : Env} {s : State} {m : MethodId} {args : Array Value} {below : List Frame} {meth : Method} {c : Code} {Z : State} {a0 : Array Value} {h0 : Heap} (C : Cx3 Z a0 p s m meth c) :
    ∀ (T : State) (x0 : Int64) (x2 : Int64) (o : Int64), f3 x0 x2 = some o → Stand p l e rx3 s m args below meth c T [] 0 0 → T.heap = h0 →  OwnOut p e s below 0 0 (Q3 Z default default h0 o) (T.setTop (mkF m 0 #[.val (.long x0), .second, .val (.long x2), .second] [])) := by
    obtain ⟨hx, hZ, hw, hby, hml, hown, hret, hlk, hnm⟩ := C
    intro T x0 x2 o hr X0 e0
    rw [f3] at hr
    refine OwnOut.go (fun t k => XS.lloadN X0.here hx rfl (hb hby d3_0) rfl k) ?_
    show OwnOut p e s below 0 0 _ (T.setTop (mkF m 1 #[.val (.long x0), .second, .val (.long x2), .second] [(.long x0)]))
    refine OwnOut.go (fun t k => XS.lloadN X0.here hx rfl (hb hby d3_1) rfl k) ?_
    show OwnOut p e s below 0 0 _ (T.setTop (mkF m 2 #[.val (.long x0), .second, .val (.long x2), .second] [(.long x2), (.long x0)]))
    refine OwnOut.go (fun t k => XS.lcmp X0.here hx rfl (hb hby d3_2) rfl k) ?_
    show OwnOut p e s below 0 0 _ (T.setTop (mkF m 3 #[.val (.long x0), .second, .val (.long x2), .second] [(.int (XT.cmpL x0 x2))]))
    by_cases hc3 : x0 < x2
    · rw [if_pos hc3] at hr
      refine OwnOut.go (fun t k => XS.ifYes X0.here hx rfl (pc0 := 3) (pc' := 10) rfl (hb hby d3_3) rfl (XT.ll_lt_t hc3) (by decide) (by decide) k) ?_
      show OwnOut p e s below 0 0 _ (T.setTop (mkF m 10 #[.val (.long x0), .second, .val (.long x2), .second] []))
      refine OwnOut.go (fun t k => XS.lloadN X0.here hx rfl (hb hby d3_10) rfl k) ?_
      show OwnOut p e s below 0 0 _ (T.setTop (mkF m 11 #[.val (.long x0), .second, .val (.long x2), .second] [(.long x2)]))
      cases hr
      exact outJ X0 hx hret (hb hby d3_11) hlk (by decide) (by decide) ⟨rfl, e0, rfl⟩
    · rw [if_neg hc3] at hr
      refine OwnOut.go (fun t k => XS.ifNo X0.here hx rfl (hb hby d3_3) rfl (XT.ll_lt_f hc3) k) ?_
      show OwnOut p e s below 0 0 _ (T.setTop (mkF m 6 #[.val (.long x0), .second, .val (.long x2), .second] []))
      refine OwnOut.go (fun t k => XS.lloadN X0.here hx rfl (hb hby d3_6) rfl k) ?_
      show OwnOut p e s below 0 0 _ (T.setTop (mkF m 7 #[.val (.long x0), .second, .val (.long x2), .second] [(.long x0)]))
      refine OwnOut.go (fun t k => XS.goto X0.here hx rfl (pc0 := 7) (pc' := 11) rfl (hb hby d3_7) (by decide) (by decide) k) ?_
      show OwnOut p e s below 0 0 _ (T.setTop (mkF m 11 #[.val (.long x0), .second, .val (.long x2), .second] [(.long x0)]))
      cases hr
      exact outJ X0 hx hret (hb hby d3_11) hlk (by decide) (by decide) ⟨rfl, e0, rfl⟩
set_option maxRecDepth 65536 in
set_option maxHeartbeats 40000000 in
theorem rm3 (l : Launch) (Z : State) (a0 : Array Value) (hw : ∀ d ∈ tables_1, d.before a0 Z = true) (ws : List Jvm.Cond) (x0 : Int64) (x2 : Int64) (h0 : Heap) (o : Int64) (hr : f3 x0 x2 = some o) :
    MetFree l (⟨"java/lang/Math", "max", "(JJ)J"⟩ : MethodName) (head1 (Jvm.Cond.code (⟨"java/lang/Math", "max", "(JJ)J"⟩ : MethodName) jdk_29_method_66_code 4 (some .long) :: ws) rx3) (fun a U => a = #[(.long x0), (.long x2)] ∧ Z.Warmed39 U.vm ∧ U.heap = h0) (fun _ _ _ _ _ => True) (fun _ U o' U' => ∃ v L, o' = .returned v ∧ Q3 Z x0 x2 h0 o v U'.heap L ∧ FrameEnd U o' U' L rx3.cells rx3.slots) := by
  refine MetFree.of_bodySF (Jvm.Free.JP.mathPlain rfl (by decide +kernel)) hisR ?_
  intro p e s m args below meth c s₁ Bd hml0 hP hK
  obtain ⟨rfl, hZ, hh⟩ := hP
  have X0 : Stand p l e rx3 s m #[(.long x0), (.long x2)] below meth c s₁ [] 0 0 := Stand.of_body Bd
  have e0 : s₁.heap = h0 := by rw [← hh, Bd.state]; rfl
  have hfc := findClass_of_methodNamed Bd.named
  exact OwnOut.at (ef3 m x0 x2) (w3_0 ⟨Bd.exec, hZ, hw, Bd.bytes, hml0, hfc, Bd.returns, Bd.notSynchronized, (name_of_methodNamed Bd.named Bd.method).1⟩ _ x0 x2 o hr X0 e0  )
theorem d4_0 : decode method_3_code 0 = .ok (.lload_n 0, 1) := by decide +kernel
theorem d4_1 : decode method_3_code 1 = .ok (.lconst 0, 1) := by decide +kernel
theorem d4_2 : decode method_3_code 2 = .ok (.lcmp, 1) := by decide +kernel
theorem d4_3 : decode method_3_code 3 = .ok (.ifCond .lt 7, 3) := by decide +kernel
theorem d4_6 : decode method_3_code 6 = .ok (.lload_n 0, 1) := by decide +kernel
theorem d4_7 : decode method_3_code 7 = .ok (.lload_n 2, 1) := by decide +kernel
theorem d4_8 : decode method_3_code 8 = .ok (.ldiv, 1) := by decide +kernel
theorem d4_9 : decode method_3_code 9 = .ok (.lreturn, 1) := by decide +kernel
theorem d4_10 : decode method_3_code 10 = .ok (.lload_n 0, 1) := by decide +kernel
theorem d4_11 : decode method_3_code 11 = .ok (.lneg, 1) := by decide +kernel
theorem d4_12 : decode method_3_code 12 = .ok (.lload_n 2, 1) := by decide +kernel
theorem d4_13 : decode method_3_code 13 = .ok (.ladd, 1) := by decide +kernel
theorem d4_14 : decode method_3_code 14 = .ok (.lconst 1, 1) := by decide +kernel
theorem d4_15 : decode method_3_code 15 = .ok (.lsub, 1) := by decide +kernel
theorem d4_16 : decode method_3_code 16 = .ok (.lload_n 2, 1) := by decide +kernel
theorem d4_17 : decode method_3_code 17 = .ok (.ldiv, 1) := by decide +kernel
theorem d4_18 : decode method_3_code 18 = .ok (.lneg, 1) := by decide +kernel
theorem d4_19 : decode method_3_code 19 = .ok (.lreturn, 1) := by decide +kernel
theorem pn4 : plainName (x.cls) = true := by first | (simp [plainName, overriddenIn]; done) | decide +kernel
theorem pd4 : parseMethodDescriptor "(JJ)J" = some ⟨[.long, .long], some .long⟩ := by decide +kernel
theorem ef4 (m : MethodId) (x0 : Int64) (x2 : Int64) : entryFrame m #[(.long x0), (.long x2)] 4 = mkF m 0 #[.val (.long x0), .second, .val (.long x2), .second] [] := by first | (simp [entryFrame, mkF, argsToLocals, Value.category]; done) | rfl
abbrev rx4 : Room := { frames := 0, cells := 0, slots := 0, locals := 0 }
abbrev Cx4 (Z : State) (a0 : Array Value) (p : Program) (s : State) (m : MethodId) (meth : Method) (c : Code) : Prop := p.tables.exec = Jvm.exec ∧ Z.Warmed39 s.vm ∧ (∀ d ∈ tables_1, d.before a0 Z = true) ∧ c.code = method_3_code ∧ c.maxLocals = 4 ∧ s.vm.findClass (x.cls) = some m.cls ∧ meth.sig.returnType = (some .long) ∧ meth.locks = false ∧ meth.name = "floorDiv"
def Q4 (Z : State) (x0 : Int64) (x2 : Int64) (h0 : Heap) (o : Int64) (v : Option Value) (h : Heap) (L : List Loc) : Prop := v = some (.long o) ∧ h = h0 ∧ L = []
def f4 (x0 : Int64) (x2 : Int64) : Option (Int64) := (if x0 < (0 : Int64) then (if x2 = (0 : Int64) then none else some ((-((((-x0) + x2) - (1 : Int64)) / x2)))) else (if x2 = (0 : Int64) then none else some ((x0 / x2))))
set_option maxRecDepth 65536 in
set_option maxHeartbeats 40000000 in
theorem w4_0 {p : Program} {l : Launch} {e : Env} {s : State} {m : MethodId} {args : Array Value} {below : List Frame} {meth : Method} {c : Code} {Z : State} {a0 : Array Value} {h0 : Heap} (C : Cx4 Z a0 p s m meth c) :
    ∀ (T : State) (x0 : Int64) (x2 : Int64) (o : Int64), f4 x0 x2 = some o → Stand p l e rx4 s m args below meth c T [] 0 0 → T.heap = h0 →  OwnOut p e s below 0 0 (Q4 Z default default h0 o) (T.setTop (mkF m 0 #[.val (.long x0), .second, .val (.long x2), .second] [])) := by
    obtain ⟨hx, hZ, hw, hby, hml, hown, hret, hlk, hnm⟩ := C
    intro T x0 x2 o hr X0 e0
    rw [f4] at hr
    refine OwnOut.go (fun t k => XS.lloadN X0.here hx rfl (hb hby d4_0) rfl k) ?_
    show OwnOut p e s below 0 0 _ (T.setTop (mkF m 1 #[.val (.long x0), .second, .val (.long x2), .second] [(.long x0)]))
    refine OwnOut.go (fun t k => XT.lconstV X0.here hx rfl (0 : Int64) (hb hby d4_1) rfl k) ?_
    show OwnOut p e s below 0 0 _ (T.setTop (mkF m 2 #[.val (.long x0), .second, .val (.long x2), .second] [(.long (0 : Int64)), (.long x0)]))
    refine OwnOut.go (fun t k => XS.lcmp X0.here hx rfl (hb hby d4_2) rfl k) ?_
    show OwnOut p e s below 0 0 _ (T.setTop (mkF m 3 #[.val (.long x0), .second, .val (.long x2), .second] [(.int (XT.cmpL x0 (0 : Int64)))]))
    by_cases hc3 : x0 < (0 : Int64)
    · rw [if_pos hc3] at hr
      refine OwnOut.go (fun t k => XS.ifYes X0.here hx rfl (pc0 := 3) (pc' := 10) rfl (hb hby d4_3) rfl (XT.ll_lt_t hc3) (by decide) (by decide) k) ?_
      show OwnOut p e s below 0 0 _ (T.setTop (mkF m 10 #[.val (.long x0), .second, .val (.long x2), .second] []))
      refine OwnOut.go (fun t k => XS.lloadN X0.here hx rfl (hb hby d4_10) rfl k) ?_
      show OwnOut p e s below 0 0 _ (T.setTop (mkF m 11 #[.val (.long x0), .second, .val (.long x2), .second] [(.long x0)]))
      refine OwnOut.go (fun t k => XS.lneg X0.here hx rfl (hb hby d4_11) rfl k) ?_
      show OwnOut p e s below 0 0 _ (T.setTop (mkF m 12 #[.val (.long x0), .second, .val (.long x2), .second] [(.long (-x0))]))
      refine OwnOut.go (fun t k => XS.lloadN X0.here hx rfl (hb hby d4_12) rfl k) ?_
      show OwnOut p e s below 0 0 _ (T.setTop (mkF m 13 #[.val (.long x0), .second, .val (.long x2), .second] [(.long x2), (.long (-x0))]))
      refine OwnOut.go (fun t k => XS.ladd X0.here hx rfl (hb hby d4_13) rfl k) ?_
      show OwnOut p e s below 0 0 _ (T.setTop (mkF m 14 #[.val (.long x0), .second, .val (.long x2), .second] [(.long ((-x0) + x2))]))
      refine OwnOut.go (fun t k => XT.lconstV X0.here hx rfl (1 : Int64) (hb hby d4_14) rfl k) ?_
      show OwnOut p e s below 0 0 _ (T.setTop (mkF m 15 #[.val (.long x0), .second, .val (.long x2), .second] [(.long (1 : Int64)), (.long ((-x0) + x2))]))
      refine OwnOut.go (fun t k => XS.lsub X0.here hx rfl (hb hby d4_15) rfl k) ?_
      show OwnOut p e s below 0 0 _ (T.setTop (mkF m 16 #[.val (.long x0), .second, .val (.long x2), .second] [(.long (((-x0) + x2) - (1 : Int64)))]))
      refine OwnOut.go (fun t k => XS.lloadN X0.here hx rfl (hb hby d4_16) rfl k) ?_
      show OwnOut p e s below 0 0 _ (T.setTop (mkF m 17 #[.val (.long x0), .second, .val (.long x2), .second] [(.long x2), (.long (((-x0) + x2) - (1 : Int64)))]))
      by_cases hz17 : x2 = (0 : Int64)
      · rw [if_pos hz17] at hr; cases hr
      rw [if_neg hz17] at hr
      refine OwnOut.go (fun t k => XS.ldiv X0.here hx rfl (hb hby d4_17) rfl hz17 k) ?_
      show OwnOut p e s below 0 0 _ (T.setTop (mkF m 18 #[.val (.long x0), .second, .val (.long x2), .second] [(.long ((((-x0) + x2) - (1 : Int64)) / x2))]))
      refine OwnOut.go (fun t k => XS.lneg X0.here hx rfl (hb hby d4_18) rfl k) ?_
      show OwnOut p e s below 0 0 _ (T.setTop (mkF m 19 #[.val (.long x0), .second, .val (.long x2), .second] [(.long (-((((-x0) + x2) - (1 : Int64)) / x2)))]))
      cases hr
      exact outJ X0 hx hret (hb hby d4_19) hlk (by decide) (by decide) ⟨rfl, e0, rfl⟩
    · rw [if_neg hc3] at hr
      refine OwnOut.go (fun t k => XS.ifNo X0.here hx rfl (hb hby d4_3) rfl (XT.ll_lt_f hc3) k) ?_
      show OwnOut p e s below 0 0 _ (T.setTop (mkF m 6 #[.val (.long x0), .second, .val (.long x2), .second] []))
      refine OwnOut.go (fun t k => XS.lloadN X0.here hx rfl (hb hby d4_6) rfl k) ?_
      show OwnOut p e s below 0 0 _ (T.setTop (mkF m 7 #[.val (.long x0), .second, .val (.long x2), .second] [(.long x0)]))
      refine OwnOut.go (fun t k => XS.lloadN X0.here hx rfl (hb hby d4_7) rfl k) ?_
      show OwnOut p e s below 0 0 _ (T.setTop (mkF m 8 #[.val (.long x0), .second, .val (.long x2), .second] [(.long x2), (.long x0)]))
      by_cases hz8 : x2 = (0 : Int64)
      · rw [if_pos hz8] at hr; cases hr
      rw [if_neg hz8] at hr
      refine OwnOut.go (fun t k => XS.ldiv X0.here hx rfl (hb hby d4_8) rfl hz8 k) ?_
      show OwnOut p e s below 0 0 _ (T.setTop (mkF m 9 #[.val (.long x0), .second, .val (.long x2), .second] [(.long (x0 / x2))]))
      cases hr
      exact outJ X0 hx hret (hb hby d4_9) hlk (by decide) (by decide) ⟨rfl, e0, rfl⟩
set_option maxRecDepth 65536 in
set_option maxHeartbeats 40000000 in
theorem rm4 (l : Launch) (Z : State) (a0 : Array Value) (hw : ∀ d ∈ tables_1, d.before a0 Z = true) (ws : List Jvm.Cond) (x0 : Int64) (x2 : Int64) (h0 : Heap) (o : Int64) (hr : f4 x0 x2 = some o) :
    MetFree l (⟨(x.cls), "floorDiv", "(JJ)J"⟩ : MethodName) (head1 (Jvm.Cond.code (⟨(x.cls), "floorDiv", "(JJ)J"⟩ : MethodName) method_3_code 4 (some .long) :: ws) rx4) (fun a U => a = #[(.long x0), (.long x2)] ∧ Z.Warmed39 U.vm ∧ U.heap = h0) (fun _ _ _ _ _ => True) (fun _ U o' U' => ∃ v L, o' = .returned v ∧ Q4 Z x0 x2 h0 o v U'.heap L ∧ FrameEnd U o' U' L rx4.cells rx4.slots) := by
  refine MetFree.of_bodySF (plainFor_of_name pn4) hisR ?_
  intro p e s m args below meth c s₁ Bd hml0 hP hK
  obtain ⟨rfl, hZ, hh⟩ := hP
  have X0 : Stand p l e rx4 s m #[(.long x0), (.long x2)] below meth c s₁ [] 0 0 := Stand.of_body Bd
  have e0 : s₁.heap = h0 := by rw [← hh, Bd.state]; rfl
  have hfc := findClass_of_methodNamed Bd.named
  exact OwnOut.at (ef4 m x0 x2) (w4_0 ⟨Bd.exec, hZ, hw, Bd.bytes, hml0, hfc, Bd.returns, Bd.notSynchronized, (name_of_methodNamed Bd.named Bd.method).1⟩ _ x0 x2 o hr X0 e0  )
theorem d5_0 : decode method_4_code 0 = .ok (.bipush 19, 2) := by decide +kernel
theorem d5_2 : decode method_4_code 2 = .ok (.newarray .long, 2) := by decide +kernel
theorem d5_4 : decode method_4_code 4 = .ok (.dup, 1) := by decide +kernel
theorem d5_5 : decode method_4_code 5 = .ok (.iconst 0, 1) := by decide +kernel
theorem d5_6 : decode method_4_code 6 = .ok (.lconst 1, 1) := by decide +kernel
theorem d5_7 : decode method_4_code 7 = .ok (.lastore, 1) := by decide +kernel
theorem d5_8 : decode method_4_code 8 = .ok (.dup, 1) := by decide +kernel
theorem d5_9 : decode method_4_code 9 = .ok (.iconst 1, 1) := by decide +kernel
theorem d5_10 : decode method_4_code 10 = .ok (.ldc2_w 42, 3) := by decide +kernel
theorem d5_13 : decode method_4_code 13 = .ok (.lastore, 1) := by decide +kernel
theorem d5_14 : decode method_4_code 14 = .ok (.dup, 1) := by decide +kernel
theorem d5_15 : decode method_4_code 15 = .ok (.iconst 2, 1) := by decide +kernel
theorem d5_16 : decode method_4_code 16 = .ok (.ldc2_w 44, 3) := by decide +kernel
theorem d5_19 : decode method_4_code 19 = .ok (.lastore, 1) := by decide +kernel
theorem d5_20 : decode method_4_code 20 = .ok (.dup, 1) := by decide +kernel
theorem d5_21 : decode method_4_code 21 = .ok (.iconst 3, 1) := by decide +kernel
theorem d5_22 : decode method_4_code 22 = .ok (.ldc2_w 46, 3) := by decide +kernel
theorem d5_25 : decode method_4_code 25 = .ok (.lastore, 1) := by decide +kernel
theorem d5_26 : decode method_4_code 26 = .ok (.dup, 1) := by decide +kernel
theorem d5_27 : decode method_4_code 27 = .ok (.iconst 4, 1) := by decide +kernel
theorem d5_28 : decode method_4_code 28 = .ok (.ldc2_w 48, 3) := by decide +kernel
theorem d5_31 : decode method_4_code 31 = .ok (.lastore, 1) := by decide +kernel
theorem d5_32 : decode method_4_code 32 = .ok (.dup, 1) := by decide +kernel
theorem d5_33 : decode method_4_code 33 = .ok (.iconst 5, 1) := by decide +kernel
theorem d5_34 : decode method_4_code 34 = .ok (.ldc2_w 50, 3) := by decide +kernel
theorem d5_37 : decode method_4_code 37 = .ok (.lastore, 1) := by decide +kernel
theorem d5_38 : decode method_4_code 38 = .ok (.dup, 1) := by decide +kernel
theorem d5_39 : decode method_4_code 39 = .ok (.bipush 6, 2) := by decide +kernel
theorem d5_41 : decode method_4_code 41 = .ok (.ldc2_w 52, 3) := by decide +kernel
theorem d5_44 : decode method_4_code 44 = .ok (.lastore, 1) := by decide +kernel
theorem d5_45 : decode method_4_code 45 = .ok (.dup, 1) := by decide +kernel
theorem d5_46 : decode method_4_code 46 = .ok (.bipush 7, 2) := by decide +kernel
theorem d5_48 : decode method_4_code 48 = .ok (.ldc2_w 54, 3) := by decide +kernel
theorem d5_51 : decode method_4_code 51 = .ok (.lastore, 1) := by decide +kernel
theorem d5_52 : decode method_4_code 52 = .ok (.dup, 1) := by decide +kernel
theorem d5_53 : decode method_4_code 53 = .ok (.bipush 8, 2) := by decide +kernel
theorem d5_55 : decode method_4_code 55 = .ok (.ldc2_w 56, 3) := by decide +kernel
theorem d5_58 : decode method_4_code 58 = .ok (.lastore, 1) := by decide +kernel
theorem d5_59 : decode method_4_code 59 = .ok (.dup, 1) := by decide +kernel
theorem d5_60 : decode method_4_code 60 = .ok (.bipush 9, 2) := by decide +kernel
theorem d5_62 : decode method_4_code 62 = .ok (.ldc2_w 58, 3) := by decide +kernel
theorem d5_65 : decode method_4_code 65 = .ok (.lastore, 1) := by decide +kernel
theorem d5_66 : decode method_4_code 66 = .ok (.dup, 1) := by decide +kernel
theorem d5_67 : decode method_4_code 67 = .ok (.bipush 10, 2) := by decide +kernel
theorem d5_69 : decode method_4_code 69 = .ok (.ldc2_w 60, 3) := by decide +kernel
theorem d5_72 : decode method_4_code 72 = .ok (.lastore, 1) := by decide +kernel
theorem d5_73 : decode method_4_code 73 = .ok (.dup, 1) := by decide +kernel
theorem d5_74 : decode method_4_code 74 = .ok (.bipush 11, 2) := by decide +kernel
theorem d5_76 : decode method_4_code 76 = .ok (.ldc2_w 14, 3) := by decide +kernel
theorem d5_79 : decode method_4_code 79 = .ok (.lastore, 1) := by decide +kernel
theorem d5_80 : decode method_4_code 80 = .ok (.dup, 1) := by decide +kernel
theorem d5_81 : decode method_4_code 81 = .ok (.bipush 12, 2) := by decide +kernel
theorem d5_83 : decode method_4_code 83 = .ok (.ldc2_w 62, 3) := by decide +kernel
theorem d5_86 : decode method_4_code 86 = .ok (.lastore, 1) := by decide +kernel
theorem d5_87 : decode method_4_code 87 = .ok (.dup, 1) := by decide +kernel
theorem d5_88 : decode method_4_code 88 = .ok (.bipush 13, 2) := by decide +kernel
theorem d5_90 : decode method_4_code 90 = .ok (.ldc2_w 64, 3) := by decide +kernel
theorem d5_93 : decode method_4_code 93 = .ok (.lastore, 1) := by decide +kernel
theorem d5_94 : decode method_4_code 94 = .ok (.dup, 1) := by decide +kernel
theorem d5_95 : decode method_4_code 95 = .ok (.bipush 14, 2) := by decide +kernel
theorem d5_97 : decode method_4_code 97 = .ok (.ldc2_w 66, 3) := by decide +kernel
theorem d5_100 : decode method_4_code 100 = .ok (.lastore, 1) := by decide +kernel
theorem d5_101 : decode method_4_code 101 = .ok (.dup, 1) := by decide +kernel
theorem d5_102 : decode method_4_code 102 = .ok (.bipush 15, 2) := by decide +kernel
theorem d5_104 : decode method_4_code 104 = .ok (.ldc2_w 68, 3) := by decide +kernel
theorem d5_107 : decode method_4_code 107 = .ok (.lastore, 1) := by decide +kernel
theorem d5_108 : decode method_4_code 108 = .ok (.dup, 1) := by decide +kernel
theorem d5_109 : decode method_4_code 109 = .ok (.bipush 16, 2) := by decide +kernel
theorem d5_111 : decode method_4_code 111 = .ok (.ldc2_w 70, 3) := by decide +kernel
theorem d5_114 : decode method_4_code 114 = .ok (.lastore, 1) := by decide +kernel
theorem d5_115 : decode method_4_code 115 = .ok (.dup, 1) := by decide +kernel
theorem d5_116 : decode method_4_code 116 = .ok (.bipush 17, 2) := by decide +kernel
theorem d5_118 : decode method_4_code 118 = .ok (.ldc2_w 72, 3) := by decide +kernel
theorem d5_121 : decode method_4_code 121 = .ok (.lastore, 1) := by decide +kernel
theorem d5_122 : decode method_4_code 122 = .ok (.dup, 1) := by decide +kernel
theorem d5_123 : decode method_4_code 123 = .ok (.bipush 18, 2) := by decide +kernel
theorem d5_125 : decode method_4_code 125 = .ok (.ldc2_w 74, 3) := by decide +kernel
theorem d5_128 : decode method_4_code 128 = .ok (.lastore, 1) := by decide +kernel
theorem d5_129 : decode method_4_code 129 = .ok (.astore_n 2, 1) := by decide +kernel
theorem d5_130 : decode method_4_code 130 = .ok (.iload_n 0, 1) := by decide +kernel
theorem d5_131 : decode method_4_code 131 = .ok (.iconst 2, 1) := by decide +kernel
theorem d5_132 : decode method_4_code 132 = .ok (.if_icmp .lt 59, 3) := by decide +kernel
theorem d5_135 : decode method_4_code 135 = .ok (.iload_n 0, 1) := by decide +kernel
theorem d5_136 : decode method_4_code 136 = .ok (.bipush 63, 2) := by decide +kernel
theorem d5_138 : decode method_4_code 138 = .ok (.if_icmp .gt 53, 3) := by decide +kernel
theorem d5_141 : decode method_4_code 141 = .ok (.iload_n 1, 1) := by decide +kernel
theorem d5_142 : decode method_4_code 142 = .ok (.ifCond .lt 9, 3) := by decide +kernel
theorem d5_145 : decode method_4_code 145 = .ok (.iload_n 1, 1) := by decide +kernel
theorem d5_146 : decode method_4_code 146 = .ok (.bipush 18, 2) := by decide +kernel
theorem d5_148 : decode method_4_code 148 = .ok (.if_icmp .le 5, 3) := by decide +kernel
theorem d5_151 : decode method_4_code 151 = .ok (.iconst 0, 1) := by decide +kernel
theorem d5_152 : decode method_4_code 152 = .ok (.ireturn, 1) := by decide +kernel
theorem d5_153 : decode method_4_code 153 = .ok (.ldc2_w 76, 3) := by decide +kernel
theorem d5_156 : decode method_4_code 156 = .ok (.iload_n 0, 1) := by decide +kernel
theorem d5_157 : decode method_4_code 157 = .ok (.iconst 2, 1) := by decide +kernel
theorem d5_158 : decode method_4_code 158 = .ok (.isub, 1) := by decide +kernel
theorem d5_159 : decode method_4_code 159 = .ok (.lshl, 1) := by decide +kernel
theorem d5_160 : decode method_4_code 160 = .ok (.lstore_n 3, 1) := by decide +kernel
theorem d5_161 : decode method_4_code 161 = .ok (.aload_n 2, 1) := by decide +kernel
theorem d5_162 : decode method_4_code 162 = .ok (.iload_n 1, 1) := by decide +kernel
theorem d5_163 : decode method_4_code 163 = .ok (.laload, 1) := by decide +kernel
theorem d5_164 : decode method_4_code 164 = .ok (.lload_n 3, 1) := by decide +kernel
theorem d5_165 : decode method_4_code 165 = .ok (.lcmp, 1) := by decide +kernel
theorem d5_166 : decode method_4_code 166 = .ok (.ifCond .gt 23, 3) := by decide +kernel
theorem d5_169 : decode method_4_code 169 = .ok (.iload_n 1, 1) := by decide +kernel
theorem d5_170 : decode method_4_code 170 = .ok (.bipush 18, 2) := by decide +kernel
theorem d5_172 : decode method_4_code 172 = .ok (.if_icmp .eq 13, 3) := by decide +kernel
theorem d5_175 : decode method_4_code 175 = .ok (.lload_n 3, 1) := by decide +kernel
theorem d5_176 : decode method_4_code 176 = .ok (.aload_n 2, 1) := by decide +kernel
theorem d5_177 : decode method_4_code 177 = .ok (.iload_n 1, 1) := by decide +kernel
theorem d5_178 : decode method_4_code 178 = .ok (.iconst 1, 1) := by decide +kernel
theorem d5_179 : decode method_4_code 179 = .ok (.iadd, 1) := by decide +kernel
theorem d5_180 : decode method_4_code 180 = .ok (.laload, 1) := by decide +kernel
theorem d5_181 : decode method_4_code 181 = .ok (.lcmp, 1) := by decide +kernel
theorem d5_182 : decode method_4_code 182 = .ok (.ifCond .ge 7, 3) := by decide +kernel
theorem d5_185 : decode method_4_code 185 = .ok (.iconst 1, 1) := by decide +kernel
theorem d5_186 : decode method_4_code 186 = .ok (.goto 4, 3) := by decide +kernel
theorem d5_189 : decode method_4_code 189 = .ok (.iconst 0, 1) := by decide +kernel
theorem d5_190 : decode method_4_code 190 = .ok (.ireturn, 1) := by decide +kernel
theorem d5_191 : decode method_4_code 191 = .ok (.iload_n 0, 1) := by decide +kernel
theorem d5_192 : decode method_4_code 192 = .ok (.bipush (-59), 2) := by decide +kernel
theorem d5_194 : decode method_4_code 194 = .ok (.if_icmp .lt 78, 3) := by decide +kernel
theorem d5_197 : decode method_4_code 197 = .ok (.iload_n 0, 1) := by decide +kernel
theorem d5_198 : decode method_4_code 198 = .ok (.iconst 1, 1) := by decide +kernel
theorem d5_199 : decode method_4_code 199 = .ok (.if_icmp .gt 73, 3) := by decide +kernel
theorem d5_202 : decode method_4_code 202 = .ok (.iconst 2, 1) := by decide +kernel
theorem d5_203 : decode method_4_code 203 = .ok (.iload_n 0, 1) := by decide +kernel
theorem d5_204 : decode method_4_code 204 = .ok (.isub, 1) := by decide +kernel
theorem d5_205 : decode method_4_code 205 = .ok (.istore_n 3, 1) := by decide +kernel
theorem d5_206 : decode method_4_code 206 = .ok (.iload_n 1, 1) := by decide +kernel
theorem d5_207 : decode method_4_code 207 = .ok (.ineg, 1) := by decide +kernel
theorem d5_208 : decode method_4_code 208 = .ok (.istore 4, 2) := by decide +kernel
theorem d5_210 : decode method_4_code 210 = .ok (.iload 4, 2) := by decide +kernel
theorem d5_212 : decode method_4_code 212 = .ok (.ifCond .lt 10, 3) := by decide +kernel
theorem d5_215 : decode method_4_code 215 = .ok (.iload 4, 2) := by decide +kernel
theorem d5_217 : decode method_4_code 217 = .ok (.bipush 18, 2) := by decide +kernel
theorem d5_219 : decode method_4_code 219 = .ok (.if_icmp .le 5, 3) := by decide +kernel
theorem d5_222 : decode method_4_code 222 = .ok (.iconst 0, 1) := by decide +kernel
theorem d5_223 : decode method_4_code 223 = .ok (.ireturn, 1) := by decide +kernel
theorem d5_224 : decode method_4_code 224 = .ok (.lconst 1, 1) := by decide +kernel
theorem d5_225 : decode method_4_code 225 = .ok (.iload_n 3, 1) := by decide +kernel
theorem d5_226 : decode method_4_code 226 = .ok (.lshl, 1) := by decide +kernel
theorem d5_227 : decode method_4_code 227 = .ok (.lstore 5, 2) := by decide +kernel
theorem d5_229 : decode method_4_code 229 = .ok (.lload 5, 2) := by decide +kernel
theorem d5_231 : decode method_4_code 231 = .ok (.ldc2_w 76, 3) := by decide +kernel
theorem d5_234 : decode method_4_code 234 = .ok (.aload_n 2, 1) := by decide +kernel
theorem d5_235 : decode method_4_code 235 = .ok (.iload 4, 2) := by decide +kernel
theorem d5_237 : decode method_4_code 237 = .ok (.laload, 1) := by decide +kernel
theorem d5_238 : decode method_4_code 238 = .ok (.lmul, 1) := by decide +kernel
theorem d5_239 : decode method_4_code 239 = .ok (.lcmp, 1) := by decide +kernel
theorem d5_240 : decode method_4_code 240 = .ok (.ifCond .le 5, 3) := by decide +kernel
theorem d5_243 : decode method_4_code 243 = .ok (.iconst 0, 1) := by decide +kernel
theorem d5_244 : decode method_4_code 244 = .ok (.ireturn, 1) := by decide +kernel
theorem d5_245 : decode method_4_code 245 = .ok (.iload 4, 2) := by decide +kernel
theorem d5_247 : decode method_4_code 247 = .ok (.ifCond .eq 19, 3) := by decide +kernel
theorem d5_250 : decode method_4_code 250 = .ok (.ldc2_w 76, 3) := by decide +kernel
theorem d5_253 : decode method_4_code 253 = .ok (.aload_n 2, 1) := by decide +kernel
theorem d5_254 : decode method_4_code 254 = .ok (.iload 4, 2) := by decide +kernel
theorem d5_256 : decode method_4_code 256 = .ok (.iconst 1, 1) := by decide +kernel
theorem d5_257 : decode method_4_code 257 = .ok (.isub, 1) := by decide +kernel
theorem d5_258 : decode method_4_code 258 = .ok (.laload, 1) := by decide +kernel
theorem d5_259 : decode method_4_code 259 = .ok (.lmul, 1) := by decide +kernel
theorem d5_260 : decode method_4_code 260 = .ok (.lload 5, 2) := by decide +kernel
theorem d5_262 : decode method_4_code 262 = .ok (.lcmp, 1) := by decide +kernel
theorem d5_263 : decode method_4_code 263 = .ok (.ifCond .ge 7, 3) := by decide +kernel
theorem d5_266 : decode method_4_code 266 = .ok (.iconst 1, 1) := by decide +kernel
theorem d5_267 : decode method_4_code 267 = .ok (.goto 4, 3) := by decide +kernel
theorem d5_270 : decode method_4_code 270 = .ok (.iconst 0, 1) := by decide +kernel
theorem d5_271 : decode method_4_code 271 = .ok (.ireturn, 1) := by decide +kernel
theorem d5_272 : decode method_4_code 272 = .ok (.iconst 1, 1) := by decide +kernel
theorem d5_273 : decode method_4_code 273 = .ok (.ireturn, 1) := by decide +kernel
theorem pn5 : plainName (x.cls) = true := by first | (simp [plainName, overriddenIn]; done) | decide +kernel
theorem pd5 : parseMethodDescriptor "(II)Z" = some ⟨[.int, .int], some .boolean⟩ := by decide +kernel
theorem ef5 (m : MethodId) (x0 : Int32) (x1 : Int32) : entryFrame m #[(.int x0), (.int x1)] 7 = mkF m 0 #[.val (.int x0), .val (.int x1), .unset, .unset, .unset, .unset, .unset] [] := by first | (simp [entryFrame, mkF, argsToLocals, Value.category]; done) | rfl
abbrev rx5 : Room := { frames := 0, cells := 1, slots := 19, locals := 0 }
abbrev Cx5 (Z : State) (a0 : Array Value) (p : Program) (s : State) (m : MethodId) (meth : Method) (c : Code) : Prop := p.tables.exec = Jvm.exec ∧ Z.Warmed39 s.vm ∧ (∀ d ∈ tables_1, d.before a0 Z = true) ∧ c.code = method_4_code ∧ c.maxLocals = 7 ∧ s.vm.findClass (x.cls) = some m.cls ∧ meth.sig.returnType = (some .boolean) ∧ meth.locks = false ∧ meth.name = "exactInWindow"
def Q5 (Z : State) (x0 : Int32) (x1 : Int32) (h0 : Heap) (n0 : Nat) (o : Int32) (v : Option Value) (h : Heap) (L : List Loc) : Prop := v = some (.int o) ∧ Fr n0 L ∧ Keep h0 h []
def f5_229 (x4 : Int32) (x5 : Int64) (l0 : List Int64) : Option (Int32) := ((ldx l0 x4).bind fun v21 => (if ((3 : Int64) * v21) < x5 then some ((0 : Int32)) else (if x4 = (0 : Int32) then some ((1 : Int32)) else ((ldx l0 (x4 - (1 : Int32))).bind fun v22 => (if ((3 : Int64) * v22) < x5 then some ((1 : Int32)) else some ((0 : Int32)))))))
set_option maxRecDepth 65536 in
set_option maxHeartbeats 40000000 in
theorem w5_229 {p : Program} {l : Launch} {e : Env} {s : State} {m : MethodId} {args : Array Value} {below : List Frame} {meth : Method} {c : Code} {Z : State} {a0 : Array Value} {h0 : Heap} {n0 : Nat} (C : Cx5 Z a0 p s m meth c) :
    ∀ (T : State) (locs : List Loc) (hA : Heap) (x0 : Int32) (x1 : Int32) (x3 : Int32) (x4 : Int32) (x5 : Int64) (b0 : Addr) (l0 : List Int64) (o : Int32), f5_229 x4 x5 l0 = some o → Stand p l e rx5 s m args below meth c T locs 1 19 → T.heap = hA → Fr n0 locs → Old Z n0 hA → Keep h0 hA [] → (Arj Z hA b0 l0) → (n0 ≤ b0) → (h0.size ≤ b0) →  OwnOut p e s below 1 19 (Q5 Z default default h0 n0 o) (T.setTop (mkF m 229 #[.val (.int x0), .val (.int x1), .val (.ref b0), .val (.int x3), .val (.int x4), .val (.long x5), .second] [])) := by
    obtain ⟨hx, hZ, hw, hby, hml, hown, hret, hlk, hnm⟩ := C
    intro T locs hA x0 x1 x3 x4 x5 b0 l0 o hr X0 e0 N0 O0 K0 A0 g0 z0
    rw [f5_229] at hr
    refine OwnOut.go (fun t k => XS.lload X0.here hx rfl (hb hby d5_229) rfl k) ?_
    show OwnOut p e s below 1 19 _ (T.setTop (mkF m 231 #[.val (.int x0), .val (.int x1), .val (.ref b0), .val (.int x3), .val (.int x4), .val (.long x5), .second] [(.long x5)]))
    refine OwnOut.go (fun t k => X0.ldc2Long hx hown (mvT hZ (hw _ (List.mem_of_getElem? (i := 44) rfl))) (g := (mkF m 231 #[.val (.int x0), .val (.int x1), .val (.ref b0), .val (.int x3), .val (.int x4), .val (.long x5), .second] [(.long x5)])) rfl (hb hby d5_231) _ k) ?_
    show OwnOut p e s below 1 19 _ (T.setTop (mkF m 234 #[.val (.int x0), .val (.int x1), .val (.ref b0), .val (.int x3), .val (.int x4), .val (.long x5), .second] [(.long (3 : Int64)), (.long x5)]))
    refine OwnOut.go (fun t k => XS.aloadN X0.here hx rfl (hb hby d5_234) rfl rfl k) ?_
    show OwnOut p e s below 1 19 _ (T.setTop (mkF m 235 #[.val (.int x0), .val (.int x1), .val (.ref b0), .val (.int x3), .val (.int x4), .val (.long x5), .second] [(.ref b0), (.long (3 : Int64)), (.long x5)]))
    refine OwnOut.go (fun t k => XS.iload X0.here hx rfl (hb hby d5_235) rfl k) ?_
    show OwnOut p e s below 1 19 _ (T.setTop (mkF m 237 #[.val (.int x0), .val (.int x1), .val (.ref b0), .val (.int x3), .val (.int x4), .val (.long x5), .second] [(.int x4), (.ref b0), (.long (3 : Int64)), (.long x5)]))
    obtain ⟨v21, hv21, hr⟩ := Option.bind_eq_some_iff.mp hr
    refine OwnOut.go (fun t k => ldJ X0 hx hZ e0 A0 hv21 (g := (mkF m 237 #[.val (.int x0), .val (.int x1), .val (.ref b0), .val (.int x3), .val (.int x4), .val (.long x5), .second] [(.int x4), (.ref b0), (.long (3 : Int64)), (.long x5)])) rfl rfl (hb hby d5_237) t k) ?_
    show OwnOut p e s below 1 19 _ (T.setTop (mkF m 238 #[.val (.int x0), .val (.int x1), .val (.ref b0), .val (.int x3), .val (.int x4), .val (.long x5), .second] [(.long v21), (.long (3 : Int64)), (.long x5)]))
    refine OwnOut.go (fun t k => XS.lmul X0.here hx rfl (hb hby d5_238) rfl k) ?_
    show OwnOut p e s below 1 19 _ (T.setTop (mkF m 239 #[.val (.int x0), .val (.int x1), .val (.ref b0), .val (.int x3), .val (.int x4), .val (.long x5), .second] [(.long ((3 : Int64) * v21)), (.long x5)]))
    refine OwnOut.go (fun t k => XS.lcmp X0.here hx rfl (hb hby d5_239) rfl k) ?_
    show OwnOut p e s below 1 19 _ (T.setTop (mkF m 240 #[.val (.int x0), .val (.int x1), .val (.ref b0), .val (.int x3), .val (.int x4), .val (.long x5), .second] [(.int (XT.cmpL x5 ((3 : Int64) * v21)))]))
    by_cases hc240 : ((3 : Int64) * v21) < x5
    · rw [if_pos hc240] at hr
      refine OwnOut.go (fun t k => XS.ifNo X0.here hx rfl (hb hby d5_240) rfl (XT.ll_le_f hc240) k) ?_
      show OwnOut p e s below 1 19 _ (T.setTop (mkF m 243 #[.val (.int x0), .val (.int x1), .val (.ref b0), .val (.int x3), .val (.int x4), .val (.long x5), .second] []))
      refine OwnOut.go (fun t k => XT.iconstV X0.here hx rfl (0 : Int32) (hb hby d5_243) rfl k) ?_
      show OwnOut p e s below 1 19 _ (T.setTop (mkF m 244 #[.val (.int x0), .val (.int x1), .val (.ref b0), .val (.int x3), .val (.int x4), .val (.long x5), .second] [(.int (0 : Int32))]))
      cases hr
      exact outZ X0 hx hret (hb hby d5_244) hlk (by decide) (by decide) (by rw [e0]; exact ⟨rfl, N0, K0⟩)
    · rw [if_neg hc240] at hr
      refine OwnOut.go (fun t k => XS.ifYes X0.here hx rfl (pc0 := 240) (pc' := 245) rfl (hb hby d5_240) rfl (XT.ll_le_t hc240) (by decide) (by decide) k) ?_
      show OwnOut p e s below 1 19 _ (T.setTop (mkF m 245 #[.val (.int x0), .val (.int x1), .val (.ref b0), .val (.int x3), .val (.int x4), .val (.long x5), .second] []))
      refine OwnOut.go (fun t k => XS.iload X0.here hx rfl (hb hby d5_245) rfl k) ?_
      show OwnOut p e s below 1 19 _ (T.setTop (mkF m 247 #[.val (.int x0), .val (.int x1), .val (.ref b0), .val (.int x3), .val (.int x4), .val (.long x5), .second] [(.int x4)]))
      by_cases hc247 : x4 = (0 : Int32)
      · rw [if_pos hc247] at hr
        refine OwnOut.go (fun t k => XS.ifYes X0.here hx rfl (pc0 := 247) (pc' := 266) rfl (hb hby d5_247) rfl (XT.i0_eq_t hc247) (by decide) (by decide) k) ?_
        show OwnOut p e s below 1 19 _ (T.setTop (mkF m 266 #[.val (.int x0), .val (.int x1), .val (.ref b0), .val (.int x3), .val (.int x4), .val (.long x5), .second] []))
        refine OwnOut.go (fun t k => XT.iconstV X0.here hx rfl (1 : Int32) (hb hby d5_266) rfl k) ?_
        show OwnOut p e s below 1 19 _ (T.setTop (mkF m 267 #[.val (.int x0), .val (.int x1), .val (.ref b0), .val (.int x3), .val (.int x4), .val (.long x5), .second] [(.int (1 : Int32))]))
        refine OwnOut.go (fun t k => XS.goto X0.here hx rfl (pc0 := 267) (pc' := 271) rfl (hb hby d5_267) (by decide) (by decide) k) ?_
        show OwnOut p e s below 1 19 _ (T.setTop (mkF m 271 #[.val (.int x0), .val (.int x1), .val (.ref b0), .val (.int x3), .val (.int x4), .val (.long x5), .second] [(.int (1 : Int32))]))
        cases hr
        exact outZ X0 hx hret (hb hby d5_271) hlk (by decide) (by decide) (by rw [e0]; exact ⟨rfl, N0, K0⟩)
      · rw [if_neg hc247] at hr
        refine OwnOut.go (fun t k => XS.ifNo X0.here hx rfl (hb hby d5_247) rfl (XT.i0_eq_f hc247) k) ?_
        show OwnOut p e s below 1 19 _ (T.setTop (mkF m 250 #[.val (.int x0), .val (.int x1), .val (.ref b0), .val (.int x3), .val (.int x4), .val (.long x5), .second] []))
        refine OwnOut.go (fun t k => X0.ldc2Long hx hown (mvT hZ (hw _ (List.mem_of_getElem? (i := 44) rfl))) (g := (mkF m 250 #[.val (.int x0), .val (.int x1), .val (.ref b0), .val (.int x3), .val (.int x4), .val (.long x5), .second] [])) rfl (hb hby d5_250) _ k) ?_
        show OwnOut p e s below 1 19 _ (T.setTop (mkF m 253 #[.val (.int x0), .val (.int x1), .val (.ref b0), .val (.int x3), .val (.int x4), .val (.long x5), .second] [(.long (3 : Int64))]))
        refine OwnOut.go (fun t k => XS.aloadN X0.here hx rfl (hb hby d5_253) rfl rfl k) ?_
        show OwnOut p e s below 1 19 _ (T.setTop (mkF m 254 #[.val (.int x0), .val (.int x1), .val (.ref b0), .val (.int x3), .val (.int x4), .val (.long x5), .second] [(.ref b0), (.long (3 : Int64))]))
        refine OwnOut.go (fun t k => XS.iload X0.here hx rfl (hb hby d5_254) rfl k) ?_
        show OwnOut p e s below 1 19 _ (T.setTop (mkF m 256 #[.val (.int x0), .val (.int x1), .val (.ref b0), .val (.int x3), .val (.int x4), .val (.long x5), .second] [(.int x4), (.ref b0), (.long (3 : Int64))]))
        refine OwnOut.go (fun t k => XT.iconstV X0.here hx rfl (1 : Int32) (hb hby d5_256) rfl k) ?_
        show OwnOut p e s below 1 19 _ (T.setTop (mkF m 257 #[.val (.int x0), .val (.int x1), .val (.ref b0), .val (.int x3), .val (.int x4), .val (.long x5), .second] [(.int (1 : Int32)), (.int x4), (.ref b0), (.long (3 : Int64))]))
        refine OwnOut.go (fun t k => XS.isub X0.here hx rfl (hb hby d5_257) rfl k) ?_
        show OwnOut p e s below 1 19 _ (T.setTop (mkF m 258 #[.val (.int x0), .val (.int x1), .val (.ref b0), .val (.int x3), .val (.int x4), .val (.long x5), .second] [(.int (x4 - (1 : Int32))), (.ref b0), (.long (3 : Int64))]))
        obtain ⟨v22, hv22, hr⟩ := Option.bind_eq_some_iff.mp hr
        refine OwnOut.go (fun t k => ldJ X0 hx hZ e0 A0 hv22 (g := (mkF m 258 #[.val (.int x0), .val (.int x1), .val (.ref b0), .val (.int x3), .val (.int x4), .val (.long x5), .second] [(.int (x4 - (1 : Int32))), (.ref b0), (.long (3 : Int64))])) rfl rfl (hb hby d5_258) t k) ?_
        show OwnOut p e s below 1 19 _ (T.setTop (mkF m 259 #[.val (.int x0), .val (.int x1), .val (.ref b0), .val (.int x3), .val (.int x4), .val (.long x5), .second] [(.long v22), (.long (3 : Int64))]))
        refine OwnOut.go (fun t k => XS.lmul X0.here hx rfl (hb hby d5_259) rfl k) ?_
        show OwnOut p e s below 1 19 _ (T.setTop (mkF m 260 #[.val (.int x0), .val (.int x1), .val (.ref b0), .val (.int x3), .val (.int x4), .val (.long x5), .second] [(.long ((3 : Int64) * v22))]))
        refine OwnOut.go (fun t k => XS.lload X0.here hx rfl (hb hby d5_260) rfl k) ?_
        show OwnOut p e s below 1 19 _ (T.setTop (mkF m 262 #[.val (.int x0), .val (.int x1), .val (.ref b0), .val (.int x3), .val (.int x4), .val (.long x5), .second] [(.long x5), (.long ((3 : Int64) * v22))]))
        refine OwnOut.go (fun t k => XS.lcmp X0.here hx rfl (hb hby d5_262) rfl k) ?_
        show OwnOut p e s below 1 19 _ (T.setTop (mkF m 263 #[.val (.int x0), .val (.int x1), .val (.ref b0), .val (.int x3), .val (.int x4), .val (.long x5), .second] [(.int (XT.cmpL ((3 : Int64) * v22) x5))]))
        by_cases hc263 : ((3 : Int64) * v22) < x5
        · rw [if_pos hc263] at hr
          refine OwnOut.go (fun t k => XS.ifNo X0.here hx rfl (hb hby d5_263) rfl (XT.ll_ge_f hc263) k) ?_
          show OwnOut p e s below 1 19 _ (T.setTop (mkF m 266 #[.val (.int x0), .val (.int x1), .val (.ref b0), .val (.int x3), .val (.int x4), .val (.long x5), .second] []))
          refine OwnOut.go (fun t k => XT.iconstV X0.here hx rfl (1 : Int32) (hb hby d5_266) rfl k) ?_
          show OwnOut p e s below 1 19 _ (T.setTop (mkF m 267 #[.val (.int x0), .val (.int x1), .val (.ref b0), .val (.int x3), .val (.int x4), .val (.long x5), .second] [(.int (1 : Int32))]))
          refine OwnOut.go (fun t k => XS.goto X0.here hx rfl (pc0 := 267) (pc' := 271) rfl (hb hby d5_267) (by decide) (by decide) k) ?_
          show OwnOut p e s below 1 19 _ (T.setTop (mkF m 271 #[.val (.int x0), .val (.int x1), .val (.ref b0), .val (.int x3), .val (.int x4), .val (.long x5), .second] [(.int (1 : Int32))]))
          cases hr
          exact outZ X0 hx hret (hb hby d5_271) hlk (by decide) (by decide) (by rw [e0]; exact ⟨rfl, N0, K0⟩)
        · rw [if_neg hc263] at hr
          refine OwnOut.go (fun t k => XS.ifYes X0.here hx rfl (pc0 := 263) (pc' := 270) rfl (hb hby d5_263) rfl (XT.ll_ge_t hc263) (by decide) (by decide) k) ?_
          show OwnOut p e s below 1 19 _ (T.setTop (mkF m 270 #[.val (.int x0), .val (.int x1), .val (.ref b0), .val (.int x3), .val (.int x4), .val (.long x5), .second] []))
          refine OwnOut.go (fun t k => XT.iconstV X0.here hx rfl (0 : Int32) (hb hby d5_270) rfl k) ?_
          show OwnOut p e s below 1 19 _ (T.setTop (mkF m 271 #[.val (.int x0), .val (.int x1), .val (.ref b0), .val (.int x3), .val (.int x4), .val (.long x5), .second] [(.int (0 : Int32))]))
          cases hr
          exact outZ X0 hx hret (hb hby d5_271) hlk (by decide) (by decide) (by rw [e0]; exact ⟨rfl, N0, K0⟩)
def f5_191 (x0 : Int32) (x1 : Int32) (l0 : List Int64) : Option (Int32) := (if x0 < (-59 : Int32) then some ((1 : Int32)) else (if (1 : Int32) < x0 then some ((1 : Int32)) else (if (-x1) < (0 : Int32) then some ((0 : Int32)) else (if (18 : Int32) < (-x1) then some ((0 : Int32)) else (f5_229 (-x1) ((1 : Int64) <<< (((2 : Int32) - x0) &&& 0x3f).toInt64) l0)))))
set_option maxRecDepth 65536 in
set_option maxHeartbeats 40000000 in
theorem w5_191 {p : Program} {l : Launch} {e : Env} {s : State} {m : MethodId} {args : Array Value} {below : List Frame} {meth : Method} {c : Code} {Z : State} {a0 : Array Value} {h0 : Heap} {n0 : Nat} (C : Cx5 Z a0 p s m meth c) :
    ∀ (T : State) (locs : List Loc) (hA : Heap) (x0 : Int32) (x1 : Int32) (b0 : Addr) (l0 : List Int64) (o : Int32), f5_191 x0 x1 l0 = some o → Stand p l e rx5 s m args below meth c T locs 1 19 → T.heap = hA → Fr n0 locs → Old Z n0 hA → Keep h0 hA [] → (Arj Z hA b0 l0) → (n0 ≤ b0) → (h0.size ≤ b0) →  OwnOut p e s below 1 19 (Q5 Z default default h0 n0 o) (T.setTop (mkF m 191 #[.val (.int x0), .val (.int x1), .val (.ref b0), .unset, .unset, .unset, .unset] [])) := by
    obtain ⟨hx, hZ, hw, hby, hml, hown, hret, hlk, hnm⟩ := C
    intro T locs hA x0 x1 b0 l0 o hr X0 e0 N0 O0 K0 A0 g0 z0
    rw [f5_191] at hr
    refine OwnOut.go (fun t k => XS.iloadN X0.here hx rfl (hb hby d5_191) rfl k) ?_
    show OwnOut p e s below 1 19 _ (T.setTop (mkF m 192 #[.val (.int x0), .val (.int x1), .val (.ref b0), .unset, .unset, .unset, .unset] [(.int x0)]))
    refine OwnOut.go (fun t k => XT.bipushV X0.here hx rfl (-59 : Int32) (hb hby d5_192) rfl k) ?_
    show OwnOut p e s below 1 19 _ (T.setTop (mkF m 194 #[.val (.int x0), .val (.int x1), .val (.ref b0), .unset, .unset, .unset, .unset] [(.int (-59 : Int32)), (.int x0)]))
    by_cases hc194 : x0 < (-59 : Int32)
    · rw [if_pos hc194] at hr
      refine OwnOut.go (fun t k => XS.icmpYes X0.here hx rfl (pc0 := 194) (pc' := 272) rfl (hb hby d5_194) rfl (XT.ii_lt_t hc194) (by decide) (by decide) k) ?_
      show OwnOut p e s below 1 19 _ (T.setTop (mkF m 272 #[.val (.int x0), .val (.int x1), .val (.ref b0), .unset, .unset, .unset, .unset] []))
      refine OwnOut.go (fun t k => XT.iconstV X0.here hx rfl (1 : Int32) (hb hby d5_272) rfl k) ?_
      show OwnOut p e s below 1 19 _ (T.setTop (mkF m 273 #[.val (.int x0), .val (.int x1), .val (.ref b0), .unset, .unset, .unset, .unset] [(.int (1 : Int32))]))
      cases hr
      exact outZ X0 hx hret (hb hby d5_273) hlk (by decide) (by decide) (by rw [e0]; exact ⟨rfl, N0, K0⟩)
    · rw [if_neg hc194] at hr
      refine OwnOut.go (fun t k => XS.icmpNo X0.here hx rfl (hb hby d5_194) rfl (XT.ii_lt_f hc194) k) ?_
      show OwnOut p e s below 1 19 _ (T.setTop (mkF m 197 #[.val (.int x0), .val (.int x1), .val (.ref b0), .unset, .unset, .unset, .unset] []))
      refine OwnOut.go (fun t k => XS.iloadN X0.here hx rfl (hb hby d5_197) rfl k) ?_
      show OwnOut p e s below 1 19 _ (T.setTop (mkF m 198 #[.val (.int x0), .val (.int x1), .val (.ref b0), .unset, .unset, .unset, .unset] [(.int x0)]))
      refine OwnOut.go (fun t k => XT.iconstV X0.here hx rfl (1 : Int32) (hb hby d5_198) rfl k) ?_
      show OwnOut p e s below 1 19 _ (T.setTop (mkF m 199 #[.val (.int x0), .val (.int x1), .val (.ref b0), .unset, .unset, .unset, .unset] [(.int (1 : Int32)), (.int x0)]))
      by_cases hc199 : (1 : Int32) < x0
      · rw [if_pos hc199] at hr
        refine OwnOut.go (fun t k => XS.icmpYes X0.here hx rfl (pc0 := 199) (pc' := 272) rfl (hb hby d5_199) rfl (XT.ii_gt_t hc199) (by decide) (by decide) k) ?_
        show OwnOut p e s below 1 19 _ (T.setTop (mkF m 272 #[.val (.int x0), .val (.int x1), .val (.ref b0), .unset, .unset, .unset, .unset] []))
        refine OwnOut.go (fun t k => XT.iconstV X0.here hx rfl (1 : Int32) (hb hby d5_272) rfl k) ?_
        show OwnOut p e s below 1 19 _ (T.setTop (mkF m 273 #[.val (.int x0), .val (.int x1), .val (.ref b0), .unset, .unset, .unset, .unset] [(.int (1 : Int32))]))
        cases hr
        exact outZ X0 hx hret (hb hby d5_273) hlk (by decide) (by decide) (by rw [e0]; exact ⟨rfl, N0, K0⟩)
      · rw [if_neg hc199] at hr
        refine OwnOut.go (fun t k => XS.icmpNo X0.here hx rfl (hb hby d5_199) rfl (XT.ii_gt_f hc199) k) ?_
        show OwnOut p e s below 1 19 _ (T.setTop (mkF m 202 #[.val (.int x0), .val (.int x1), .val (.ref b0), .unset, .unset, .unset, .unset] []))
        refine OwnOut.go (fun t k => XT.iconstV X0.here hx rfl (2 : Int32) (hb hby d5_202) rfl k) ?_
        show OwnOut p e s below 1 19 _ (T.setTop (mkF m 203 #[.val (.int x0), .val (.int x1), .val (.ref b0), .unset, .unset, .unset, .unset] [(.int (2 : Int32))]))
        refine OwnOut.go (fun t k => XS.iloadN X0.here hx rfl (hb hby d5_203) rfl k) ?_
        show OwnOut p e s below 1 19 _ (T.setTop (mkF m 204 #[.val (.int x0), .val (.int x1), .val (.ref b0), .unset, .unset, .unset, .unset] [(.int x0), (.int (2 : Int32))]))
        refine OwnOut.go (fun t k => XS.isub X0.here hx rfl (hb hby d5_204) rfl k) ?_
        show OwnOut p e s below 1 19 _ (T.setTop (mkF m 205 #[.val (.int x0), .val (.int x1), .val (.ref b0), .unset, .unset, .unset, .unset] [(.int ((2 : Int32) - x0))]))
        refine OwnOut.go (fun t k => XS.istoreN X0.here hx rfl (hb hby d5_205) rfl (l' := #[.val (.int x0), .val (.int x1), .val (.ref b0), .val (.int ((2 : Int32) - x0)), .unset, .unset, .unset]) rfl k) ?_
        show OwnOut p e s below 1 19 _ (T.setTop (mkF m 206 #[.val (.int x0), .val (.int x1), .val (.ref b0), .val (.int ((2 : Int32) - x0)), .unset, .unset, .unset] []))
        refine OwnOut.go (fun t k => XS.iloadN X0.here hx rfl (hb hby d5_206) rfl k) ?_
        show OwnOut p e s below 1 19 _ (T.setTop (mkF m 207 #[.val (.int x0), .val (.int x1), .val (.ref b0), .val (.int ((2 : Int32) - x0)), .unset, .unset, .unset] [(.int x1)]))
        refine OwnOut.go (fun t k => XS.ineg X0.here hx rfl (hb hby d5_207) rfl k) ?_
        show OwnOut p e s below 1 19 _ (T.setTop (mkF m 208 #[.val (.int x0), .val (.int x1), .val (.ref b0), .val (.int ((2 : Int32) - x0)), .unset, .unset, .unset] [(.int (-x1))]))
        refine OwnOut.go (fun t k => XS.istore X0.here hx rfl (hb hby d5_208) rfl (l' := #[.val (.int x0), .val (.int x1), .val (.ref b0), .val (.int ((2 : Int32) - x0)), .val (.int (-x1)), .unset, .unset]) rfl k) ?_
        show OwnOut p e s below 1 19 _ (T.setTop (mkF m 210 #[.val (.int x0), .val (.int x1), .val (.ref b0), .val (.int ((2 : Int32) - x0)), .val (.int (-x1)), .unset, .unset] []))
        refine OwnOut.go (fun t k => XS.iload X0.here hx rfl (hb hby d5_210) rfl k) ?_
        show OwnOut p e s below 1 19 _ (T.setTop (mkF m 212 #[.val (.int x0), .val (.int x1), .val (.ref b0), .val (.int ((2 : Int32) - x0)), .val (.int (-x1)), .unset, .unset] [(.int (-x1))]))
        by_cases hc212 : (-x1) < (0 : Int32)
        · rw [if_pos hc212] at hr
          refine OwnOut.go (fun t k => XS.ifYes X0.here hx rfl (pc0 := 212) (pc' := 222) rfl (hb hby d5_212) rfl (XT.i0_lt_t hc212) (by decide) (by decide) k) ?_
          show OwnOut p e s below 1 19 _ (T.setTop (mkF m 222 #[.val (.int x0), .val (.int x1), .val (.ref b0), .val (.int ((2 : Int32) - x0)), .val (.int (-x1)), .unset, .unset] []))
          refine OwnOut.go (fun t k => XT.iconstV X0.here hx rfl (0 : Int32) (hb hby d5_222) rfl k) ?_
          show OwnOut p e s below 1 19 _ (T.setTop (mkF m 223 #[.val (.int x0), .val (.int x1), .val (.ref b0), .val (.int ((2 : Int32) - x0)), .val (.int (-x1)), .unset, .unset] [(.int (0 : Int32))]))
          cases hr
          exact outZ X0 hx hret (hb hby d5_223) hlk (by decide) (by decide) (by rw [e0]; exact ⟨rfl, N0, K0⟩)
        · rw [if_neg hc212] at hr
          refine OwnOut.go (fun t k => XS.ifNo X0.here hx rfl (hb hby d5_212) rfl (XT.i0_lt_f hc212) k) ?_
          show OwnOut p e s below 1 19 _ (T.setTop (mkF m 215 #[.val (.int x0), .val (.int x1), .val (.ref b0), .val (.int ((2 : Int32) - x0)), .val (.int (-x1)), .unset, .unset] []))
          refine OwnOut.go (fun t k => XS.iload X0.here hx rfl (hb hby d5_215) rfl k) ?_
          show OwnOut p e s below 1 19 _ (T.setTop (mkF m 217 #[.val (.int x0), .val (.int x1), .val (.ref b0), .val (.int ((2 : Int32) - x0)), .val (.int (-x1)), .unset, .unset] [(.int (-x1))]))
          refine OwnOut.go (fun t k => XT.bipushV X0.here hx rfl (18 : Int32) (hb hby d5_217) rfl k) ?_
          show OwnOut p e s below 1 19 _ (T.setTop (mkF m 219 #[.val (.int x0), .val (.int x1), .val (.ref b0), .val (.int ((2 : Int32) - x0)), .val (.int (-x1)), .unset, .unset] [(.int (18 : Int32)), (.int (-x1))]))
          by_cases hc219 : (18 : Int32) < (-x1)
          · rw [if_pos hc219] at hr
            refine OwnOut.go (fun t k => XS.icmpNo X0.here hx rfl (hb hby d5_219) rfl (XT.ii_le_f hc219) k) ?_
            show OwnOut p e s below 1 19 _ (T.setTop (mkF m 222 #[.val (.int x0), .val (.int x1), .val (.ref b0), .val (.int ((2 : Int32) - x0)), .val (.int (-x1)), .unset, .unset] []))
            refine OwnOut.go (fun t k => XT.iconstV X0.here hx rfl (0 : Int32) (hb hby d5_222) rfl k) ?_
            show OwnOut p e s below 1 19 _ (T.setTop (mkF m 223 #[.val (.int x0), .val (.int x1), .val (.ref b0), .val (.int ((2 : Int32) - x0)), .val (.int (-x1)), .unset, .unset] [(.int (0 : Int32))]))
            cases hr
            exact outZ X0 hx hret (hb hby d5_223) hlk (by decide) (by decide) (by rw [e0]; exact ⟨rfl, N0, K0⟩)
          · rw [if_neg hc219] at hr
            refine OwnOut.go (fun t k => XS.icmpYes X0.here hx rfl (pc0 := 219) (pc' := 224) rfl (hb hby d5_219) rfl (XT.ii_le_t hc219) (by decide) (by decide) k) ?_
            show OwnOut p e s below 1 19 _ (T.setTop (mkF m 224 #[.val (.int x0), .val (.int x1), .val (.ref b0), .val (.int ((2 : Int32) - x0)), .val (.int (-x1)), .unset, .unset] []))
            refine OwnOut.go (fun t k => XT.lconstV X0.here hx rfl (1 : Int64) (hb hby d5_224) rfl k) ?_
            show OwnOut p e s below 1 19 _ (T.setTop (mkF m 225 #[.val (.int x0), .val (.int x1), .val (.ref b0), .val (.int ((2 : Int32) - x0)), .val (.int (-x1)), .unset, .unset] [(.long (1 : Int64))]))
            refine OwnOut.go (fun t k => XS.iloadN X0.here hx rfl (hb hby d5_225) rfl k) ?_
            show OwnOut p e s below 1 19 _ (T.setTop (mkF m 226 #[.val (.int x0), .val (.int x1), .val (.ref b0), .val (.int ((2 : Int32) - x0)), .val (.int (-x1)), .unset, .unset] [(.int ((2 : Int32) - x0)), (.long (1 : Int64))]))
            refine OwnOut.go (fun t k => XS.lshl X0.here hx rfl (hb hby d5_226) rfl k) ?_
            show OwnOut p e s below 1 19 _ (T.setTop (mkF m 227 #[.val (.int x0), .val (.int x1), .val (.ref b0), .val (.int ((2 : Int32) - x0)), .val (.int (-x1)), .unset, .unset] [(.long ((1 : Int64) <<< (((2 : Int32) - x0) &&& 0x3f).toInt64))]))
            refine OwnOut.go (fun t k => XS.lstore X0.here hx rfl (hb hby d5_227) rfl (l' := #[.val (.int x0), .val (.int x1), .val (.ref b0), .val (.int ((2 : Int32) - x0)), .val (.int (-x1)), .val (.long ((1 : Int64) <<< (((2 : Int32) - x0) &&& 0x3f).toInt64)), .second]) rfl k) ?_
            show OwnOut p e s below 1 19 _ (T.setTop (mkF m 229 #[.val (.int x0), .val (.int x1), .val (.ref b0), .val (.int ((2 : Int32) - x0)), .val (.int (-x1)), .val (.long ((1 : Int64) <<< (((2 : Int32) - x0) &&& 0x3f).toInt64)), .second] []))
            exact w5_229 ⟨hx, hZ, hw, hby, hml, hown, hret, hlk, hnm⟩  _ _ _ x0 x1 ((2 : Int32) - x0) (-x1) ((1 : Int64) <<< (((2 : Int32) - x0) &&& 0x3f).toInt64) b0 l0 _ hr X0 e0 N0 O0 K0 A0 g0 z0
def f5_161 (x1 : Int32) (x3 : Int64) (l0 : List Int64) : Option (Int32) := ((ldx l0 x1).bind fun v23 => (if x3 < v23 then some ((0 : Int32)) else (if x1 = (18 : Int32) then some ((1 : Int32)) else ((ldx l0 (x1 + (1 : Int32))).bind fun v24 => (if x3 < v24 then some ((1 : Int32)) else some ((0 : Int32)))))))
set_option maxRecDepth 65536 in
set_option maxHeartbeats 40000000 in
theorem w5_161 {p : Program} {l : Launch} {e : Env} {s : State} {m : MethodId} {args : Array Value} {below : List Frame} {meth : Method} {c : Code} {Z : State} {a0 : Array Value} {h0 : Heap} {n0 : Nat} (C : Cx5 Z a0 p s m meth c) :
    ∀ (T : State) (locs : List Loc) (hA : Heap) (x0 : Int32) (x1 : Int32) (x3 : Int64) (b0 : Addr) (l0 : List Int64) (o : Int32), f5_161 x1 x3 l0 = some o → Stand p l e rx5 s m args below meth c T locs 1 19 → T.heap = hA → Fr n0 locs → Old Z n0 hA → Keep h0 hA [] → (Arj Z hA b0 l0) → (n0 ≤ b0) → (h0.size ≤ b0) →  OwnOut p e s below 1 19 (Q5 Z default default h0 n0 o) (T.setTop (mkF m 161 #[.val (.int x0), .val (.int x1), .val (.ref b0), .val (.long x3), .second, .unset, .unset] [])) := by
    obtain ⟨hx, hZ, hw, hby, hml, hown, hret, hlk, hnm⟩ := C
    intro T locs hA x0 x1 x3 b0 l0 o hr X0 e0 N0 O0 K0 A0 g0 z0
    rw [f5_161] at hr
    refine OwnOut.go (fun t k => XS.aloadN X0.here hx rfl (hb hby d5_161) rfl rfl k) ?_
    show OwnOut p e s below 1 19 _ (T.setTop (mkF m 162 #[.val (.int x0), .val (.int x1), .val (.ref b0), .val (.long x3), .second, .unset, .unset] [(.ref b0)]))
    refine OwnOut.go (fun t k => XS.iloadN X0.here hx rfl (hb hby d5_162) rfl k) ?_
    show OwnOut p e s below 1 19 _ (T.setTop (mkF m 163 #[.val (.int x0), .val (.int x1), .val (.ref b0), .val (.long x3), .second, .unset, .unset] [(.int x1), (.ref b0)]))
    obtain ⟨v23, hv23, hr⟩ := Option.bind_eq_some_iff.mp hr
    refine OwnOut.go (fun t k => ldJ X0 hx hZ e0 A0 hv23 (g := (mkF m 163 #[.val (.int x0), .val (.int x1), .val (.ref b0), .val (.long x3), .second, .unset, .unset] [(.int x1), (.ref b0)])) rfl rfl (hb hby d5_163) t k) ?_
    show OwnOut p e s below 1 19 _ (T.setTop (mkF m 164 #[.val (.int x0), .val (.int x1), .val (.ref b0), .val (.long x3), .second, .unset, .unset] [(.long v23)]))
    refine OwnOut.go (fun t k => XS.lloadN X0.here hx rfl (hb hby d5_164) rfl k) ?_
    show OwnOut p e s below 1 19 _ (T.setTop (mkF m 165 #[.val (.int x0), .val (.int x1), .val (.ref b0), .val (.long x3), .second, .unset, .unset] [(.long x3), (.long v23)]))
    refine OwnOut.go (fun t k => XS.lcmp X0.here hx rfl (hb hby d5_165) rfl k) ?_
    show OwnOut p e s below 1 19 _ (T.setTop (mkF m 166 #[.val (.int x0), .val (.int x1), .val (.ref b0), .val (.long x3), .second, .unset, .unset] [(.int (XT.cmpL v23 x3))]))
    by_cases hc166 : x3 < v23
    · rw [if_pos hc166] at hr
      refine OwnOut.go (fun t k => XS.ifYes X0.here hx rfl (pc0 := 166) (pc' := 189) rfl (hb hby d5_166) rfl (XT.ll_gt_t hc166) (by decide) (by decide) k) ?_
      show OwnOut p e s below 1 19 _ (T.setTop (mkF m 189 #[.val (.int x0), .val (.int x1), .val (.ref b0), .val (.long x3), .second, .unset, .unset] []))
      refine OwnOut.go (fun t k => XT.iconstV X0.here hx rfl (0 : Int32) (hb hby d5_189) rfl k) ?_
      show OwnOut p e s below 1 19 _ (T.setTop (mkF m 190 #[.val (.int x0), .val (.int x1), .val (.ref b0), .val (.long x3), .second, .unset, .unset] [(.int (0 : Int32))]))
      cases hr
      exact outZ X0 hx hret (hb hby d5_190) hlk (by decide) (by decide) (by rw [e0]; exact ⟨rfl, N0, K0⟩)
    · rw [if_neg hc166] at hr
      refine OwnOut.go (fun t k => XS.ifNo X0.here hx rfl (hb hby d5_166) rfl (XT.ll_gt_f hc166) k) ?_
      show OwnOut p e s below 1 19 _ (T.setTop (mkF m 169 #[.val (.int x0), .val (.int x1), .val (.ref b0), .val (.long x3), .second, .unset, .unset] []))
      refine OwnOut.go (fun t k => XS.iloadN X0.here hx rfl (hb hby d5_169) rfl k) ?_
      show OwnOut p e s below 1 19 _ (T.setTop (mkF m 170 #[.val (.int x0), .val (.int x1), .val (.ref b0), .val (.long x3), .second, .unset, .unset] [(.int x1)]))
      refine OwnOut.go (fun t k => XT.bipushV X0.here hx rfl (18 : Int32) (hb hby d5_170) rfl k) ?_
      show OwnOut p e s below 1 19 _ (T.setTop (mkF m 172 #[.val (.int x0), .val (.int x1), .val (.ref b0), .val (.long x3), .second, .unset, .unset] [(.int (18 : Int32)), (.int x1)]))
      by_cases hc172 : x1 = (18 : Int32)
      · rw [if_pos hc172] at hr
        refine OwnOut.go (fun t k => XS.icmpYes X0.here hx rfl (pc0 := 172) (pc' := 185) rfl (hb hby d5_172) rfl (XT.ii_eq_t hc172) (by decide) (by decide) k) ?_
        show OwnOut p e s below 1 19 _ (T.setTop (mkF m 185 #[.val (.int x0), .val (.int x1), .val (.ref b0), .val (.long x3), .second, .unset, .unset] []))
        refine OwnOut.go (fun t k => XT.iconstV X0.here hx rfl (1 : Int32) (hb hby d5_185) rfl k) ?_
        show OwnOut p e s below 1 19 _ (T.setTop (mkF m 186 #[.val (.int x0), .val (.int x1), .val (.ref b0), .val (.long x3), .second, .unset, .unset] [(.int (1 : Int32))]))
        refine OwnOut.go (fun t k => XS.goto X0.here hx rfl (pc0 := 186) (pc' := 190) rfl (hb hby d5_186) (by decide) (by decide) k) ?_
        show OwnOut p e s below 1 19 _ (T.setTop (mkF m 190 #[.val (.int x0), .val (.int x1), .val (.ref b0), .val (.long x3), .second, .unset, .unset] [(.int (1 : Int32))]))
        cases hr
        exact outZ X0 hx hret (hb hby d5_190) hlk (by decide) (by decide) (by rw [e0]; exact ⟨rfl, N0, K0⟩)
      · rw [if_neg hc172] at hr
        refine OwnOut.go (fun t k => XS.icmpNo X0.here hx rfl (hb hby d5_172) rfl (XT.ii_eq_f hc172) k) ?_
        show OwnOut p e s below 1 19 _ (T.setTop (mkF m 175 #[.val (.int x0), .val (.int x1), .val (.ref b0), .val (.long x3), .second, .unset, .unset] []))
        refine OwnOut.go (fun t k => XS.lloadN X0.here hx rfl (hb hby d5_175) rfl k) ?_
        show OwnOut p e s below 1 19 _ (T.setTop (mkF m 176 #[.val (.int x0), .val (.int x1), .val (.ref b0), .val (.long x3), .second, .unset, .unset] [(.long x3)]))
        refine OwnOut.go (fun t k => XS.aloadN X0.here hx rfl (hb hby d5_176) rfl rfl k) ?_
        show OwnOut p e s below 1 19 _ (T.setTop (mkF m 177 #[.val (.int x0), .val (.int x1), .val (.ref b0), .val (.long x3), .second, .unset, .unset] [(.ref b0), (.long x3)]))
        refine OwnOut.go (fun t k => XS.iloadN X0.here hx rfl (hb hby d5_177) rfl k) ?_
        show OwnOut p e s below 1 19 _ (T.setTop (mkF m 178 #[.val (.int x0), .val (.int x1), .val (.ref b0), .val (.long x3), .second, .unset, .unset] [(.int x1), (.ref b0), (.long x3)]))
        refine OwnOut.go (fun t k => XT.iconstV X0.here hx rfl (1 : Int32) (hb hby d5_178) rfl k) ?_
        show OwnOut p e s below 1 19 _ (T.setTop (mkF m 179 #[.val (.int x0), .val (.int x1), .val (.ref b0), .val (.long x3), .second, .unset, .unset] [(.int (1 : Int32)), (.int x1), (.ref b0), (.long x3)]))
        refine OwnOut.go (fun t k => XS.iadd X0.here hx rfl (hb hby d5_179) rfl k) ?_
        show OwnOut p e s below 1 19 _ (T.setTop (mkF m 180 #[.val (.int x0), .val (.int x1), .val (.ref b0), .val (.long x3), .second, .unset, .unset] [(.int (x1 + (1 : Int32))), (.ref b0), (.long x3)]))
        obtain ⟨v24, hv24, hr⟩ := Option.bind_eq_some_iff.mp hr
        refine OwnOut.go (fun t k => ldJ X0 hx hZ e0 A0 hv24 (g := (mkF m 180 #[.val (.int x0), .val (.int x1), .val (.ref b0), .val (.long x3), .second, .unset, .unset] [(.int (x1 + (1 : Int32))), (.ref b0), (.long x3)])) rfl rfl (hb hby d5_180) t k) ?_
        show OwnOut p e s below 1 19 _ (T.setTop (mkF m 181 #[.val (.int x0), .val (.int x1), .val (.ref b0), .val (.long x3), .second, .unset, .unset] [(.long v24), (.long x3)]))
        refine OwnOut.go (fun t k => XS.lcmp X0.here hx rfl (hb hby d5_181) rfl k) ?_
        show OwnOut p e s below 1 19 _ (T.setTop (mkF m 182 #[.val (.int x0), .val (.int x1), .val (.ref b0), .val (.long x3), .second, .unset, .unset] [(.int (XT.cmpL x3 v24))]))
        by_cases hc182 : x3 < v24
        · rw [if_pos hc182] at hr
          refine OwnOut.go (fun t k => XS.ifNo X0.here hx rfl (hb hby d5_182) rfl (XT.ll_ge_f hc182) k) ?_
          show OwnOut p e s below 1 19 _ (T.setTop (mkF m 185 #[.val (.int x0), .val (.int x1), .val (.ref b0), .val (.long x3), .second, .unset, .unset] []))
          refine OwnOut.go (fun t k => XT.iconstV X0.here hx rfl (1 : Int32) (hb hby d5_185) rfl k) ?_
          show OwnOut p e s below 1 19 _ (T.setTop (mkF m 186 #[.val (.int x0), .val (.int x1), .val (.ref b0), .val (.long x3), .second, .unset, .unset] [(.int (1 : Int32))]))
          refine OwnOut.go (fun t k => XS.goto X0.here hx rfl (pc0 := 186) (pc' := 190) rfl (hb hby d5_186) (by decide) (by decide) k) ?_
          show OwnOut p e s below 1 19 _ (T.setTop (mkF m 190 #[.val (.int x0), .val (.int x1), .val (.ref b0), .val (.long x3), .second, .unset, .unset] [(.int (1 : Int32))]))
          cases hr
          exact outZ X0 hx hret (hb hby d5_190) hlk (by decide) (by decide) (by rw [e0]; exact ⟨rfl, N0, K0⟩)
        · rw [if_neg hc182] at hr
          refine OwnOut.go (fun t k => XS.ifYes X0.here hx rfl (pc0 := 182) (pc' := 189) rfl (hb hby d5_182) rfl (XT.ll_ge_t hc182) (by decide) (by decide) k) ?_
          show OwnOut p e s below 1 19 _ (T.setTop (mkF m 189 #[.val (.int x0), .val (.int x1), .val (.ref b0), .val (.long x3), .second, .unset, .unset] []))
          refine OwnOut.go (fun t k => XT.iconstV X0.here hx rfl (0 : Int32) (hb hby d5_189) rfl k) ?_
          show OwnOut p e s below 1 19 _ (T.setTop (mkF m 190 #[.val (.int x0), .val (.int x1), .val (.ref b0), .val (.long x3), .second, .unset, .unset] [(.int (0 : Int32))]))
          cases hr
          exact outZ X0 hx hret (hb hby d5_190) hlk (by decide) (by decide) (by rw [e0]; exact ⟨rfl, N0, K0⟩)
def f5 (x0 : Int32) (x1 : Int32) : Option (Int32) := (if x0 < (2 : Int32) then (f5_191 x0 x1 [(1 : Int64), (10 : Int64), (100 : Int64), (1000 : Int64), (10000 : Int64), (100000 : Int64), (1000000 : Int64), (10000000 : Int64), (100000000 : Int64), (1000000000 : Int64), (10000000000 : Int64), (100000000000 : Int64), (1000000000000 : Int64), (10000000000000 : Int64), (100000000000000 : Int64), (1000000000000000 : Int64), (10000000000000000 : Int64), (100000000000000000 : Int64), (1000000000000000000 : Int64)]) else (if (63 : Int32) < x0 then (f5_191 x0 x1 [(1 : Int64), (10 : Int64), (100 : Int64), (1000 : Int64), (10000 : Int64), (100000 : Int64), (1000000 : Int64), (10000000 : Int64), (100000000 : Int64), (1000000000 : Int64), (10000000000 : Int64), (100000000000 : Int64), (1000000000000 : Int64), (10000000000000 : Int64), (100000000000000 : Int64), (1000000000000000 : Int64), (10000000000000000 : Int64), (100000000000000000 : Int64), (1000000000000000000 : Int64)]) else (if x1 < (0 : Int32) then some ((0 : Int32)) else (if (18 : Int32) < x1 then some ((0 : Int32)) else (f5_161 x1 ((3 : Int64) <<< ((x0 - (2 : Int32)) &&& 0x3f).toInt64) [(1 : Int64), (10 : Int64), (100 : Int64), (1000 : Int64), (10000 : Int64), (100000 : Int64), (1000000 : Int64), (10000000 : Int64), (100000000 : Int64), (1000000000 : Int64), (10000000000 : Int64), (100000000000 : Int64), (1000000000000 : Int64), (10000000000000 : Int64), (100000000000000 : Int64), (1000000000000000 : Int64), (10000000000000000 : Int64), (100000000000000000 : Int64), (1000000000000000000 : Int64)])))))
set_option maxRecDepth 65536 in
set_option maxHeartbeats 40000000 in
theorem w5_0 {p : Program} {l : Launch} {e : Env} {s : State} {m : MethodId} {args : Array Value} {below : List Frame} {meth : Method} {c : Code} {Z : State} {a0 : Array Value} {h0 : Heap} {n0 : Nat} (C : Cx5 Z a0 p s m meth c) :
    ∀ (T : State) (locs : List Loc) (hA : Heap) (x0 : Int32) (x1 : Int32) (o : Int32), f5 x0 x1 = some o → Stand p l e rx5 s m args below meth c T locs 0 0 → T.heap = hA → Fr n0 locs → Old Z n0 hA → Keep h0 hA [] →  OwnOut p e s below 1 19 (Q5 Z default default h0 n0 o) (T.setTop (mkF m 0 #[.val (.int x0), .val (.int x1), .unset, .unset, .unset, .unset, .unset] [])) := by
    obtain ⟨hx, hZ, hw, hby, hml, hown, hret, hlk, hnm⟩ := C
    intro T locs hA x0 x1 o hr X0 e0 N0 O0 K0
    rw [f5] at hr
    refine OwnOut.go (fun t k => XT.bipushV X0.here hx rfl (19 : Int32) (hb hby d5_0) rfl k) ?_
    show OwnOut p e s below 1 19 _ (T.setTop (mkF m 2 #[.val (.int x0), .val (.int x1), .unset, .unset, .unset, .unset, .unset] [(.int (19 : Int32))]))
    obtain ⟨T1, h1, X1, e1, Ex1, A_1, st1⟩ := nwA X0 hx hZ (hw _ (List.mem_of_getElem? (i := 26) rfl)) e0 (rfl : nwx (0 : Int64) 19 (19 : Int32) = some [(0 : Int64), (0 : Int64), (0 : Int64), (0 : Int64), (0 : Int64), (0 : Int64), (0 : Int64), (0 : Int64), (0 : Int64), (0 : Int64), (0 : Int64), (0 : Int64), (0 : Int64), (0 : Int64), (0 : Int64), (0 : Int64), (0 : Int64), (0 : Int64), (0 : Int64)]) (f := Value.long) rfl (g := (mkF m 2 #[.val (.int x0), .val (.int x1), .unset, .unset, .unset, .unset, .unset] [(.int (19 : Int32))])) rfl rfl (hb hby d5_2) (by decide) (by decide) (by decide)
    obtain ⟨c1, gc1⟩ : ∃ z, z = hA.size := ⟨_, rfl⟩
    rw [← gc1] at A_1 st1
    refine OwnOut.go (fun t k => st1 _ k) ?_
    have g_1 : n0 ≤ c1 := gc1 ▸ (O0.1 ▸ O0.2.1)
    have z_1 : h0.size ≤ c1 := gc1 ▸ K0.1
    have O_1 := O0.ext Ex1
    have K_1 := K0.ext Ex1
    show OwnOut p e s below 1 19 _ (T1.setTop (mkF m 4 #[.val (.int x0), .val (.int x1), .unset, .unset, .unset, .unset, .unset] [(.ref c1)]))
    refine OwnOut.go (fun t k => XS.dup X1.here hx rfl (hb hby d5_4) rfl rfl k) ?_
    show OwnOut p e s below 1 19 _ (T1.setTop (mkF m 5 #[.val (.int x0), .val (.int x1), .unset, .unset, .unset, .unset, .unset] [(.ref c1), (.ref c1)]))
    refine OwnOut.go (fun t k => XT.iconstV X1.here hx rfl (0 : Int32) (hb hby d5_5) rfl k) ?_
    show OwnOut p e s below 1 19 _ (T1.setTop (mkF m 6 #[.val (.int x0), .val (.int x1), .unset, .unset, .unset, .unset, .unset] [(.int (0 : Int32)), (.ref c1), (.ref c1)]))
    refine OwnOut.go (fun t k => XT.lconstV X1.here hx rfl (1 : Int64) (hb hby d5_6) rfl k) ?_
    show OwnOut p e s below 1 19 _ (T1.setTop (mkF m 7 #[.val (.int x0), .val (.int x1), .unset, .unset, .unset, .unset, .unset] [(.long (1 : Int64)), (.int (0 : Int32)), (.ref c1), (.ref c1)]))
    obtain ⟨T2, h2, X2, e2, W2, A_2, st2⟩ := saJ X1 hx hZ e1 A_1 (rfl : stx [(0 : Int64), (0 : Int64), (0 : Int64), (0 : Int64), (0 : Int64), (0 : Int64), (0 : Int64), (0 : Int64), (0 : Int64), (0 : Int64), (0 : Int64), (0 : Int64), (0 : Int64), (0 : Int64), (0 : Int64), (0 : Int64), (0 : Int64), (0 : Int64), (0 : Int64)] (0 : Int32) (1 : Int64) = some [(1 : Int64), (0 : Int64), (0 : Int64), (0 : Int64), (0 : Int64), (0 : Int64), (0 : Int64), (0 : Int64), (0 : Int64), (0 : Int64), (0 : Int64), (0 : Int64), (0 : Int64), (0 : Int64), (0 : Int64), (0 : Int64), (0 : Int64), (0 : Int64), (0 : Int64)]) (g := (mkF m 7 #[.val (.int x0), .val (.int x1), .unset, .unset, .unset, .unset, .unset] [(.long (1 : Int64)), (.int (0 : Int32)), (.ref c1), (.ref c1)])) rfl rfl (hb hby d5_7)
    refine OwnOut.go (fun t k => st2 _ k) ?_
    have N_2 := Fr.snoc X2 N0 g_1
    have O_2 := O_1.wr W2 g_1
    have K_2 := K_1.wr W2 (Or.inr z_1)
    show OwnOut p e s below 1 19 _ (T2.setTop (mkF m 8 #[.val (.int x0), .val (.int x1), .unset, .unset, .unset, .unset, .unset] [(.ref c1)]))
    refine OwnOut.go (fun t k => XS.dup X2.here hx rfl (hb hby d5_8) rfl rfl k) ?_
    show OwnOut p e s below 1 19 _ (T2.setTop (mkF m 9 #[.val (.int x0), .val (.int x1), .unset, .unset, .unset, .unset, .unset] [(.ref c1), (.ref c1)]))
    refine OwnOut.go (fun t k => XT.iconstV X2.here hx rfl (1 : Int32) (hb hby d5_9) rfl k) ?_
    show OwnOut p e s below 1 19 _ (T2.setTop (mkF m 10 #[.val (.int x0), .val (.int x1), .unset, .unset, .unset, .unset, .unset] [(.int (1 : Int32)), (.ref c1), (.ref c1)]))
    refine OwnOut.go (fun t k => X2.ldc2Long hx hown (mvT hZ (hw _ (List.mem_of_getElem? (i := 27) rfl))) (g := (mkF m 10 #[.val (.int x0), .val (.int x1), .unset, .unset, .unset, .unset, .unset] [(.int (1 : Int32)), (.ref c1), (.ref c1)])) rfl (hb hby d5_10) _ k) ?_
    show OwnOut p e s below 1 19 _ (T2.setTop (mkF m 13 #[.val (.int x0), .val (.int x1), .unset, .unset, .unset, .unset, .unset] [(.long (10 : Int64)), (.int (1 : Int32)), (.ref c1), (.ref c1)]))
    obtain ⟨T3, h3, X3, e3, W3, A_3, st3⟩ := saJ X2 hx hZ e2 A_2 (rfl : stx [(1 : Int64), (0 : Int64), (0 : Int64), (0 : Int64), (0 : Int64), (0 : Int64), (0 : Int64), (0 : Int64), (0 : Int64), (0 : Int64), (0 : Int64), (0 : Int64), (0 : Int64), (0 : Int64), (0 : Int64), (0 : Int64), (0 : Int64), (0 : Int64), (0 : Int64)] (1 : Int32) (10 : Int64) = some [(1 : Int64), (10 : Int64), (0 : Int64), (0 : Int64), (0 : Int64), (0 : Int64), (0 : Int64), (0 : Int64), (0 : Int64), (0 : Int64), (0 : Int64), (0 : Int64), (0 : Int64), (0 : Int64), (0 : Int64), (0 : Int64), (0 : Int64), (0 : Int64), (0 : Int64)]) (g := (mkF m 13 #[.val (.int x0), .val (.int x1), .unset, .unset, .unset, .unset, .unset] [(.long (10 : Int64)), (.int (1 : Int32)), (.ref c1), (.ref c1)])) rfl rfl (hb hby d5_13)
    refine OwnOut.go (fun t k => st3 _ k) ?_
    have N_3 := Fr.snoc X3 N_2 g_1
    have O_3 := O_2.wr W3 g_1
    have K_3 := K_2.wr W3 (Or.inr z_1)
    show OwnOut p e s below 1 19 _ (T3.setTop (mkF m 14 #[.val (.int x0), .val (.int x1), .unset, .unset, .unset, .unset, .unset] [(.ref c1)]))
    refine OwnOut.go (fun t k => XS.dup X3.here hx rfl (hb hby d5_14) rfl rfl k) ?_
    show OwnOut p e s below 1 19 _ (T3.setTop (mkF m 15 #[.val (.int x0), .val (.int x1), .unset, .unset, .unset, .unset, .unset] [(.ref c1), (.ref c1)]))
    refine OwnOut.go (fun t k => XT.iconstV X3.here hx rfl (2 : Int32) (hb hby d5_15) rfl k) ?_
    show OwnOut p e s below 1 19 _ (T3.setTop (mkF m 16 #[.val (.int x0), .val (.int x1), .unset, .unset, .unset, .unset, .unset] [(.int (2 : Int32)), (.ref c1), (.ref c1)]))
    refine OwnOut.go (fun t k => X3.ldc2Long hx hown (mvT hZ (hw _ (List.mem_of_getElem? (i := 28) rfl))) (g := (mkF m 16 #[.val (.int x0), .val (.int x1), .unset, .unset, .unset, .unset, .unset] [(.int (2 : Int32)), (.ref c1), (.ref c1)])) rfl (hb hby d5_16) _ k) ?_
    show OwnOut p e s below 1 19 _ (T3.setTop (mkF m 19 #[.val (.int x0), .val (.int x1), .unset, .unset, .unset, .unset, .unset] [(.long (100 : Int64)), (.int (2 : Int32)), (.ref c1), (.ref c1)]))
    obtain ⟨T4, h4, X4, e4, W4, A_4, st4⟩ := saJ X3 hx hZ e3 A_3 (rfl : stx [(1 : Int64), (10 : Int64), (0 : Int64), (0 : Int64), (0 : Int64), (0 : Int64), (0 : Int64), (0 : Int64), (0 : Int64), (0 : Int64), (0 : Int64), (0 : Int64), (0 : Int64), (0 : Int64), (0 : Int64), (0 : Int64), (0 : Int64), (0 : Int64), (0 : Int64)] (2 : Int32) (100 : Int64) = some [(1 : Int64), (10 : Int64), (100 : Int64), (0 : Int64), (0 : Int64), (0 : Int64), (0 : Int64), (0 : Int64), (0 : Int64), (0 : Int64), (0 : Int64), (0 : Int64), (0 : Int64), (0 : Int64), (0 : Int64), (0 : Int64), (0 : Int64), (0 : Int64), (0 : Int64)]) (g := (mkF m 19 #[.val (.int x0), .val (.int x1), .unset, .unset, .unset, .unset, .unset] [(.long (100 : Int64)), (.int (2 : Int32)), (.ref c1), (.ref c1)])) rfl rfl (hb hby d5_19)
    refine OwnOut.go (fun t k => st4 _ k) ?_
    have N_4 := Fr.snoc X4 N_3 g_1
    have O_4 := O_3.wr W4 g_1
    have K_4 := K_3.wr W4 (Or.inr z_1)
    show OwnOut p e s below 1 19 _ (T4.setTop (mkF m 20 #[.val (.int x0), .val (.int x1), .unset, .unset, .unset, .unset, .unset] [(.ref c1)]))
    refine OwnOut.go (fun t k => XS.dup X4.here hx rfl (hb hby d5_20) rfl rfl k) ?_
    show OwnOut p e s below 1 19 _ (T4.setTop (mkF m 21 #[.val (.int x0), .val (.int x1), .unset, .unset, .unset, .unset, .unset] [(.ref c1), (.ref c1)]))
    refine OwnOut.go (fun t k => XT.iconstV X4.here hx rfl (3 : Int32) (hb hby d5_21) rfl k) ?_
    show OwnOut p e s below 1 19 _ (T4.setTop (mkF m 22 #[.val (.int x0), .val (.int x1), .unset, .unset, .unset, .unset, .unset] [(.int (3 : Int32)), (.ref c1), (.ref c1)]))
    refine OwnOut.go (fun t k => X4.ldc2Long hx hown (mvT hZ (hw _ (List.mem_of_getElem? (i := 29) rfl))) (g := (mkF m 22 #[.val (.int x0), .val (.int x1), .unset, .unset, .unset, .unset, .unset] [(.int (3 : Int32)), (.ref c1), (.ref c1)])) rfl (hb hby d5_22) _ k) ?_
    show OwnOut p e s below 1 19 _ (T4.setTop (mkF m 25 #[.val (.int x0), .val (.int x1), .unset, .unset, .unset, .unset, .unset] [(.long (1000 : Int64)), (.int (3 : Int32)), (.ref c1), (.ref c1)]))
    obtain ⟨T5, h5, X5, e5, W5, A_5, st5⟩ := saJ X4 hx hZ e4 A_4 (rfl : stx [(1 : Int64), (10 : Int64), (100 : Int64), (0 : Int64), (0 : Int64), (0 : Int64), (0 : Int64), (0 : Int64), (0 : Int64), (0 : Int64), (0 : Int64), (0 : Int64), (0 : Int64), (0 : Int64), (0 : Int64), (0 : Int64), (0 : Int64), (0 : Int64), (0 : Int64)] (3 : Int32) (1000 : Int64) = some [(1 : Int64), (10 : Int64), (100 : Int64), (1000 : Int64), (0 : Int64), (0 : Int64), (0 : Int64), (0 : Int64), (0 : Int64), (0 : Int64), (0 : Int64), (0 : Int64), (0 : Int64), (0 : Int64), (0 : Int64), (0 : Int64), (0 : Int64), (0 : Int64), (0 : Int64)]) (g := (mkF m 25 #[.val (.int x0), .val (.int x1), .unset, .unset, .unset, .unset, .unset] [(.long (1000 : Int64)), (.int (3 : Int32)), (.ref c1), (.ref c1)])) rfl rfl (hb hby d5_25)
    refine OwnOut.go (fun t k => st5 _ k) ?_
    have N_5 := Fr.snoc X5 N_4 g_1
    have O_5 := O_4.wr W5 g_1
    have K_5 := K_4.wr W5 (Or.inr z_1)
    show OwnOut p e s below 1 19 _ (T5.setTop (mkF m 26 #[.val (.int x0), .val (.int x1), .unset, .unset, .unset, .unset, .unset] [(.ref c1)]))
    refine OwnOut.go (fun t k => XS.dup X5.here hx rfl (hb hby d5_26) rfl rfl k) ?_
    show OwnOut p e s below 1 19 _ (T5.setTop (mkF m 27 #[.val (.int x0), .val (.int x1), .unset, .unset, .unset, .unset, .unset] [(.ref c1), (.ref c1)]))
    refine OwnOut.go (fun t k => XT.iconstV X5.here hx rfl (4 : Int32) (hb hby d5_27) rfl k) ?_
    show OwnOut p e s below 1 19 _ (T5.setTop (mkF m 28 #[.val (.int x0), .val (.int x1), .unset, .unset, .unset, .unset, .unset] [(.int (4 : Int32)), (.ref c1), (.ref c1)]))
    refine OwnOut.go (fun t k => X5.ldc2Long hx hown (mvT hZ (hw _ (List.mem_of_getElem? (i := 30) rfl))) (g := (mkF m 28 #[.val (.int x0), .val (.int x1), .unset, .unset, .unset, .unset, .unset] [(.int (4 : Int32)), (.ref c1), (.ref c1)])) rfl (hb hby d5_28) _ k) ?_
    show OwnOut p e s below 1 19 _ (T5.setTop (mkF m 31 #[.val (.int x0), .val (.int x1), .unset, .unset, .unset, .unset, .unset] [(.long (10000 : Int64)), (.int (4 : Int32)), (.ref c1), (.ref c1)]))
    obtain ⟨T6, h6, X6, e6, W6, A_6, st6⟩ := saJ X5 hx hZ e5 A_5 (rfl : stx [(1 : Int64), (10 : Int64), (100 : Int64), (1000 : Int64), (0 : Int64), (0 : Int64), (0 : Int64), (0 : Int64), (0 : Int64), (0 : Int64), (0 : Int64), (0 : Int64), (0 : Int64), (0 : Int64), (0 : Int64), (0 : Int64), (0 : Int64), (0 : Int64), (0 : Int64)] (4 : Int32) (10000 : Int64) = some [(1 : Int64), (10 : Int64), (100 : Int64), (1000 : Int64), (10000 : Int64), (0 : Int64), (0 : Int64), (0 : Int64), (0 : Int64), (0 : Int64), (0 : Int64), (0 : Int64), (0 : Int64), (0 : Int64), (0 : Int64), (0 : Int64), (0 : Int64), (0 : Int64), (0 : Int64)]) (g := (mkF m 31 #[.val (.int x0), .val (.int x1), .unset, .unset, .unset, .unset, .unset] [(.long (10000 : Int64)), (.int (4 : Int32)), (.ref c1), (.ref c1)])) rfl rfl (hb hby d5_31)
    refine OwnOut.go (fun t k => st6 _ k) ?_
    have N_6 := Fr.snoc X6 N_5 g_1
    have O_6 := O_5.wr W6 g_1
    have K_6 := K_5.wr W6 (Or.inr z_1)
    show OwnOut p e s below 1 19 _ (T6.setTop (mkF m 32 #[.val (.int x0), .val (.int x1), .unset, .unset, .unset, .unset, .unset] [(.ref c1)]))
    refine OwnOut.go (fun t k => XS.dup X6.here hx rfl (hb hby d5_32) rfl rfl k) ?_
    show OwnOut p e s below 1 19 _ (T6.setTop (mkF m 33 #[.val (.int x0), .val (.int x1), .unset, .unset, .unset, .unset, .unset] [(.ref c1), (.ref c1)]))
    refine OwnOut.go (fun t k => XT.iconstV X6.here hx rfl (5 : Int32) (hb hby d5_33) rfl k) ?_
    show OwnOut p e s below 1 19 _ (T6.setTop (mkF m 34 #[.val (.int x0), .val (.int x1), .unset, .unset, .unset, .unset, .unset] [(.int (5 : Int32)), (.ref c1), (.ref c1)]))
    refine OwnOut.go (fun t k => X6.ldc2Long hx hown (mvT hZ (hw _ (List.mem_of_getElem? (i := 31) rfl))) (g := (mkF m 34 #[.val (.int x0), .val (.int x1), .unset, .unset, .unset, .unset, .unset] [(.int (5 : Int32)), (.ref c1), (.ref c1)])) rfl (hb hby d5_34) _ k) ?_
    show OwnOut p e s below 1 19 _ (T6.setTop (mkF m 37 #[.val (.int x0), .val (.int x1), .unset, .unset, .unset, .unset, .unset] [(.long (100000 : Int64)), (.int (5 : Int32)), (.ref c1), (.ref c1)]))
    obtain ⟨T7, h7, X7, e7, W7, A_7, st7⟩ := saJ X6 hx hZ e6 A_6 (rfl : stx [(1 : Int64), (10 : Int64), (100 : Int64), (1000 : Int64), (10000 : Int64), (0 : Int64), (0 : Int64), (0 : Int64), (0 : Int64), (0 : Int64), (0 : Int64), (0 : Int64), (0 : Int64), (0 : Int64), (0 : Int64), (0 : Int64), (0 : Int64), (0 : Int64), (0 : Int64)] (5 : Int32) (100000 : Int64) = some [(1 : Int64), (10 : Int64), (100 : Int64), (1000 : Int64), (10000 : Int64), (100000 : Int64), (0 : Int64), (0 : Int64), (0 : Int64), (0 : Int64), (0 : Int64), (0 : Int64), (0 : Int64), (0 : Int64), (0 : Int64), (0 : Int64), (0 : Int64), (0 : Int64), (0 : Int64)]) (g := (mkF m 37 #[.val (.int x0), .val (.int x1), .unset, .unset, .unset, .unset, .unset] [(.long (100000 : Int64)), (.int (5 : Int32)), (.ref c1), (.ref c1)])) rfl rfl (hb hby d5_37)
    refine OwnOut.go (fun t k => st7 _ k) ?_
    have N_7 := Fr.snoc X7 N_6 g_1
    have O_7 := O_6.wr W7 g_1
    have K_7 := K_6.wr W7 (Or.inr z_1)
    show OwnOut p e s below 1 19 _ (T7.setTop (mkF m 38 #[.val (.int x0), .val (.int x1), .unset, .unset, .unset, .unset, .unset] [(.ref c1)]))
    refine OwnOut.go (fun t k => XS.dup X7.here hx rfl (hb hby d5_38) rfl rfl k) ?_
    show OwnOut p e s below 1 19 _ (T7.setTop (mkF m 39 #[.val (.int x0), .val (.int x1), .unset, .unset, .unset, .unset, .unset] [(.ref c1), (.ref c1)]))
    refine OwnOut.go (fun t k => XT.bipushV X7.here hx rfl (6 : Int32) (hb hby d5_39) rfl k) ?_
    show OwnOut p e s below 1 19 _ (T7.setTop (mkF m 41 #[.val (.int x0), .val (.int x1), .unset, .unset, .unset, .unset, .unset] [(.int (6 : Int32)), (.ref c1), (.ref c1)]))
    refine OwnOut.go (fun t k => X7.ldc2Long hx hown (mvT hZ (hw _ (List.mem_of_getElem? (i := 32) rfl))) (g := (mkF m 41 #[.val (.int x0), .val (.int x1), .unset, .unset, .unset, .unset, .unset] [(.int (6 : Int32)), (.ref c1), (.ref c1)])) rfl (hb hby d5_41) _ k) ?_
    show OwnOut p e s below 1 19 _ (T7.setTop (mkF m 44 #[.val (.int x0), .val (.int x1), .unset, .unset, .unset, .unset, .unset] [(.long (1000000 : Int64)), (.int (6 : Int32)), (.ref c1), (.ref c1)]))
    obtain ⟨T8, h8, X8, e8, W8, A_8, st8⟩ := saJ X7 hx hZ e7 A_7 (rfl : stx [(1 : Int64), (10 : Int64), (100 : Int64), (1000 : Int64), (10000 : Int64), (100000 : Int64), (0 : Int64), (0 : Int64), (0 : Int64), (0 : Int64), (0 : Int64), (0 : Int64), (0 : Int64), (0 : Int64), (0 : Int64), (0 : Int64), (0 : Int64), (0 : Int64), (0 : Int64)] (6 : Int32) (1000000 : Int64) = some [(1 : Int64), (10 : Int64), (100 : Int64), (1000 : Int64), (10000 : Int64), (100000 : Int64), (1000000 : Int64), (0 : Int64), (0 : Int64), (0 : Int64), (0 : Int64), (0 : Int64), (0 : Int64), (0 : Int64), (0 : Int64), (0 : Int64), (0 : Int64), (0 : Int64), (0 : Int64)]) (g := (mkF m 44 #[.val (.int x0), .val (.int x1), .unset, .unset, .unset, .unset, .unset] [(.long (1000000 : Int64)), (.int (6 : Int32)), (.ref c1), (.ref c1)])) rfl rfl (hb hby d5_44)
    refine OwnOut.go (fun t k => st8 _ k) ?_
    have N_8 := Fr.snoc X8 N_7 g_1
    have O_8 := O_7.wr W8 g_1
    have K_8 := K_7.wr W8 (Or.inr z_1)
    show OwnOut p e s below 1 19 _ (T8.setTop (mkF m 45 #[.val (.int x0), .val (.int x1), .unset, .unset, .unset, .unset, .unset] [(.ref c1)]))
    refine OwnOut.go (fun t k => XS.dup X8.here hx rfl (hb hby d5_45) rfl rfl k) ?_
    show OwnOut p e s below 1 19 _ (T8.setTop (mkF m 46 #[.val (.int x0), .val (.int x1), .unset, .unset, .unset, .unset, .unset] [(.ref c1), (.ref c1)]))
    refine OwnOut.go (fun t k => XT.bipushV X8.here hx rfl (7 : Int32) (hb hby d5_46) rfl k) ?_
    show OwnOut p e s below 1 19 _ (T8.setTop (mkF m 48 #[.val (.int x0), .val (.int x1), .unset, .unset, .unset, .unset, .unset] [(.int (7 : Int32)), (.ref c1), (.ref c1)]))
    refine OwnOut.go (fun t k => X8.ldc2Long hx hown (mvT hZ (hw _ (List.mem_of_getElem? (i := 33) rfl))) (g := (mkF m 48 #[.val (.int x0), .val (.int x1), .unset, .unset, .unset, .unset, .unset] [(.int (7 : Int32)), (.ref c1), (.ref c1)])) rfl (hb hby d5_48) _ k) ?_
    show OwnOut p e s below 1 19 _ (T8.setTop (mkF m 51 #[.val (.int x0), .val (.int x1), .unset, .unset, .unset, .unset, .unset] [(.long (10000000 : Int64)), (.int (7 : Int32)), (.ref c1), (.ref c1)]))
    obtain ⟨T9, h9, X9, e9, W9, A_9, st9⟩ := saJ X8 hx hZ e8 A_8 (rfl : stx [(1 : Int64), (10 : Int64), (100 : Int64), (1000 : Int64), (10000 : Int64), (100000 : Int64), (1000000 : Int64), (0 : Int64), (0 : Int64), (0 : Int64), (0 : Int64), (0 : Int64), (0 : Int64), (0 : Int64), (0 : Int64), (0 : Int64), (0 : Int64), (0 : Int64), (0 : Int64)] (7 : Int32) (10000000 : Int64) = some [(1 : Int64), (10 : Int64), (100 : Int64), (1000 : Int64), (10000 : Int64), (100000 : Int64), (1000000 : Int64), (10000000 : Int64), (0 : Int64), (0 : Int64), (0 : Int64), (0 : Int64), (0 : Int64), (0 : Int64), (0 : Int64), (0 : Int64), (0 : Int64), (0 : Int64), (0 : Int64)]) (g := (mkF m 51 #[.val (.int x0), .val (.int x1), .unset, .unset, .unset, .unset, .unset] [(.long (10000000 : Int64)), (.int (7 : Int32)), (.ref c1), (.ref c1)])) rfl rfl (hb hby d5_51)
    refine OwnOut.go (fun t k => st9 _ k) ?_
    have N_9 := Fr.snoc X9 N_8 g_1
    have O_9 := O_8.wr W9 g_1
    have K_9 := K_8.wr W9 (Or.inr z_1)
    show OwnOut p e s below 1 19 _ (T9.setTop (mkF m 52 #[.val (.int x0), .val (.int x1), .unset, .unset, .unset, .unset, .unset] [(.ref c1)]))
    refine OwnOut.go (fun t k => XS.dup X9.here hx rfl (hb hby d5_52) rfl rfl k) ?_
    show OwnOut p e s below 1 19 _ (T9.setTop (mkF m 53 #[.val (.int x0), .val (.int x1), .unset, .unset, .unset, .unset, .unset] [(.ref c1), (.ref c1)]))
    refine OwnOut.go (fun t k => XT.bipushV X9.here hx rfl (8 : Int32) (hb hby d5_53) rfl k) ?_
    show OwnOut p e s below 1 19 _ (T9.setTop (mkF m 55 #[.val (.int x0), .val (.int x1), .unset, .unset, .unset, .unset, .unset] [(.int (8 : Int32)), (.ref c1), (.ref c1)]))
    refine OwnOut.go (fun t k => X9.ldc2Long hx hown (mvT hZ (hw _ (List.mem_of_getElem? (i := 34) rfl))) (g := (mkF m 55 #[.val (.int x0), .val (.int x1), .unset, .unset, .unset, .unset, .unset] [(.int (8 : Int32)), (.ref c1), (.ref c1)])) rfl (hb hby d5_55) _ k) ?_
    show OwnOut p e s below 1 19 _ (T9.setTop (mkF m 58 #[.val (.int x0), .val (.int x1), .unset, .unset, .unset, .unset, .unset] [(.long (100000000 : Int64)), (.int (8 : Int32)), (.ref c1), (.ref c1)]))
    obtain ⟨T10, h10, X10, e10, W10, A_10, st10⟩ := saJ X9 hx hZ e9 A_9 (rfl : stx [(1 : Int64), (10 : Int64), (100 : Int64), (1000 : Int64), (10000 : Int64), (100000 : Int64), (1000000 : Int64), (10000000 : Int64), (0 : Int64), (0 : Int64), (0 : Int64), (0 : Int64), (0 : Int64), (0 : Int64), (0 : Int64), (0 : Int64), (0 : Int64), (0 : Int64), (0 : Int64)] (8 : Int32) (100000000 : Int64) = some [(1 : Int64), (10 : Int64), (100 : Int64), (1000 : Int64), (10000 : Int64), (100000 : Int64), (1000000 : Int64), (10000000 : Int64), (100000000 : Int64), (0 : Int64), (0 : Int64), (0 : Int64), (0 : Int64), (0 : Int64), (0 : Int64), (0 : Int64), (0 : Int64), (0 : Int64), (0 : Int64)]) (g := (mkF m 58 #[.val (.int x0), .val (.int x1), .unset, .unset, .unset, .unset, .unset] [(.long (100000000 : Int64)), (.int (8 : Int32)), (.ref c1), (.ref c1)])) rfl rfl (hb hby d5_58)
    refine OwnOut.go (fun t k => st10 _ k) ?_
    have N_10 := Fr.snoc X10 N_9 g_1
    have O_10 := O_9.wr W10 g_1
    have K_10 := K_9.wr W10 (Or.inr z_1)
    show OwnOut p e s below 1 19 _ (T10.setTop (mkF m 59 #[.val (.int x0), .val (.int x1), .unset, .unset, .unset, .unset, .unset] [(.ref c1)]))
    refine OwnOut.go (fun t k => XS.dup X10.here hx rfl (hb hby d5_59) rfl rfl k) ?_
    show OwnOut p e s below 1 19 _ (T10.setTop (mkF m 60 #[.val (.int x0), .val (.int x1), .unset, .unset, .unset, .unset, .unset] [(.ref c1), (.ref c1)]))
    refine OwnOut.go (fun t k => XT.bipushV X10.here hx rfl (9 : Int32) (hb hby d5_60) rfl k) ?_
    show OwnOut p e s below 1 19 _ (T10.setTop (mkF m 62 #[.val (.int x0), .val (.int x1), .unset, .unset, .unset, .unset, .unset] [(.int (9 : Int32)), (.ref c1), (.ref c1)]))
    refine OwnOut.go (fun t k => X10.ldc2Long hx hown (mvT hZ (hw _ (List.mem_of_getElem? (i := 35) rfl))) (g := (mkF m 62 #[.val (.int x0), .val (.int x1), .unset, .unset, .unset, .unset, .unset] [(.int (9 : Int32)), (.ref c1), (.ref c1)])) rfl (hb hby d5_62) _ k) ?_
    show OwnOut p e s below 1 19 _ (T10.setTop (mkF m 65 #[.val (.int x0), .val (.int x1), .unset, .unset, .unset, .unset, .unset] [(.long (1000000000 : Int64)), (.int (9 : Int32)), (.ref c1), (.ref c1)]))
    obtain ⟨T11, h11, X11, e11, W11, A_11, st11⟩ := saJ X10 hx hZ e10 A_10 (rfl : stx [(1 : Int64), (10 : Int64), (100 : Int64), (1000 : Int64), (10000 : Int64), (100000 : Int64), (1000000 : Int64), (10000000 : Int64), (100000000 : Int64), (0 : Int64), (0 : Int64), (0 : Int64), (0 : Int64), (0 : Int64), (0 : Int64), (0 : Int64), (0 : Int64), (0 : Int64), (0 : Int64)] (9 : Int32) (1000000000 : Int64) = some [(1 : Int64), (10 : Int64), (100 : Int64), (1000 : Int64), (10000 : Int64), (100000 : Int64), (1000000 : Int64), (10000000 : Int64), (100000000 : Int64), (1000000000 : Int64), (0 : Int64), (0 : Int64), (0 : Int64), (0 : Int64), (0 : Int64), (0 : Int64), (0 : Int64), (0 : Int64), (0 : Int64)]) (g := (mkF m 65 #[.val (.int x0), .val (.int x1), .unset, .unset, .unset, .unset, .unset] [(.long (1000000000 : Int64)), (.int (9 : Int32)), (.ref c1), (.ref c1)])) rfl rfl (hb hby d5_65)
    refine OwnOut.go (fun t k => st11 _ k) ?_
    have N_11 := Fr.snoc X11 N_10 g_1
    have O_11 := O_10.wr W11 g_1
    have K_11 := K_10.wr W11 (Or.inr z_1)
    show OwnOut p e s below 1 19 _ (T11.setTop (mkF m 66 #[.val (.int x0), .val (.int x1), .unset, .unset, .unset, .unset, .unset] [(.ref c1)]))
    refine OwnOut.go (fun t k => XS.dup X11.here hx rfl (hb hby d5_66) rfl rfl k) ?_
    show OwnOut p e s below 1 19 _ (T11.setTop (mkF m 67 #[.val (.int x0), .val (.int x1), .unset, .unset, .unset, .unset, .unset] [(.ref c1), (.ref c1)]))
    refine OwnOut.go (fun t k => XT.bipushV X11.here hx rfl (10 : Int32) (hb hby d5_67) rfl k) ?_
    show OwnOut p e s below 1 19 _ (T11.setTop (mkF m 69 #[.val (.int x0), .val (.int x1), .unset, .unset, .unset, .unset, .unset] [(.int (10 : Int32)), (.ref c1), (.ref c1)]))
    refine OwnOut.go (fun t k => X11.ldc2Long hx hown (mvT hZ (hw _ (List.mem_of_getElem? (i := 36) rfl))) (g := (mkF m 69 #[.val (.int x0), .val (.int x1), .unset, .unset, .unset, .unset, .unset] [(.int (10 : Int32)), (.ref c1), (.ref c1)])) rfl (hb hby d5_69) _ k) ?_
    show OwnOut p e s below 1 19 _ (T11.setTop (mkF m 72 #[.val (.int x0), .val (.int x1), .unset, .unset, .unset, .unset, .unset] [(.long (10000000000 : Int64)), (.int (10 : Int32)), (.ref c1), (.ref c1)]))
    obtain ⟨T12, h12, X12, e12, W12, A_12, st12⟩ := saJ X11 hx hZ e11 A_11 (rfl : stx [(1 : Int64), (10 : Int64), (100 : Int64), (1000 : Int64), (10000 : Int64), (100000 : Int64), (1000000 : Int64), (10000000 : Int64), (100000000 : Int64), (1000000000 : Int64), (0 : Int64), (0 : Int64), (0 : Int64), (0 : Int64), (0 : Int64), (0 : Int64), (0 : Int64), (0 : Int64), (0 : Int64)] (10 : Int32) (10000000000 : Int64) = some [(1 : Int64), (10 : Int64), (100 : Int64), (1000 : Int64), (10000 : Int64), (100000 : Int64), (1000000 : Int64), (10000000 : Int64), (100000000 : Int64), (1000000000 : Int64), (10000000000 : Int64), (0 : Int64), (0 : Int64), (0 : Int64), (0 : Int64), (0 : Int64), (0 : Int64), (0 : Int64), (0 : Int64)]) (g := (mkF m 72 #[.val (.int x0), .val (.int x1), .unset, .unset, .unset, .unset, .unset] [(.long (10000000000 : Int64)), (.int (10 : Int32)), (.ref c1), (.ref c1)])) rfl rfl (hb hby d5_72)
    refine OwnOut.go (fun t k => st12 _ k) ?_
    have N_12 := Fr.snoc X12 N_11 g_1
    have O_12 := O_11.wr W12 g_1
    have K_12 := K_11.wr W12 (Or.inr z_1)
    show OwnOut p e s below 1 19 _ (T12.setTop (mkF m 73 #[.val (.int x0), .val (.int x1), .unset, .unset, .unset, .unset, .unset] [(.ref c1)]))
    refine OwnOut.go (fun t k => XS.dup X12.here hx rfl (hb hby d5_73) rfl rfl k) ?_
    show OwnOut p e s below 1 19 _ (T12.setTop (mkF m 74 #[.val (.int x0), .val (.int x1), .unset, .unset, .unset, .unset, .unset] [(.ref c1), (.ref c1)]))
    refine OwnOut.go (fun t k => XT.bipushV X12.here hx rfl (11 : Int32) (hb hby d5_74) rfl k) ?_
    show OwnOut p e s below 1 19 _ (T12.setTop (mkF m 76 #[.val (.int x0), .val (.int x1), .unset, .unset, .unset, .unset, .unset] [(.int (11 : Int32)), (.ref c1), (.ref c1)]))
    refine OwnOut.go (fun t k => X12.ldc2Long hx hown (mvT hZ (hw _ (List.mem_of_getElem? (i := 7) rfl))) (g := (mkF m 76 #[.val (.int x0), .val (.int x1), .unset, .unset, .unset, .unset, .unset] [(.int (11 : Int32)), (.ref c1), (.ref c1)])) rfl (hb hby d5_76) _ k) ?_
    show OwnOut p e s below 1 19 _ (T12.setTop (mkF m 79 #[.val (.int x0), .val (.int x1), .unset, .unset, .unset, .unset, .unset] [(.long (100000000000 : Int64)), (.int (11 : Int32)), (.ref c1), (.ref c1)]))
    obtain ⟨T13, h13, X13, e13, W13, A_13, st13⟩ := saJ X12 hx hZ e12 A_12 (rfl : stx [(1 : Int64), (10 : Int64), (100 : Int64), (1000 : Int64), (10000 : Int64), (100000 : Int64), (1000000 : Int64), (10000000 : Int64), (100000000 : Int64), (1000000000 : Int64), (10000000000 : Int64), (0 : Int64), (0 : Int64), (0 : Int64), (0 : Int64), (0 : Int64), (0 : Int64), (0 : Int64), (0 : Int64)] (11 : Int32) (100000000000 : Int64) = some [(1 : Int64), (10 : Int64), (100 : Int64), (1000 : Int64), (10000 : Int64), (100000 : Int64), (1000000 : Int64), (10000000 : Int64), (100000000 : Int64), (1000000000 : Int64), (10000000000 : Int64), (100000000000 : Int64), (0 : Int64), (0 : Int64), (0 : Int64), (0 : Int64), (0 : Int64), (0 : Int64), (0 : Int64)]) (g := (mkF m 79 #[.val (.int x0), .val (.int x1), .unset, .unset, .unset, .unset, .unset] [(.long (100000000000 : Int64)), (.int (11 : Int32)), (.ref c1), (.ref c1)])) rfl rfl (hb hby d5_79)
    refine OwnOut.go (fun t k => st13 _ k) ?_
    have N_13 := Fr.snoc X13 N_12 g_1
    have O_13 := O_12.wr W13 g_1
    have K_13 := K_12.wr W13 (Or.inr z_1)
    show OwnOut p e s below 1 19 _ (T13.setTop (mkF m 80 #[.val (.int x0), .val (.int x1), .unset, .unset, .unset, .unset, .unset] [(.ref c1)]))
    refine OwnOut.go (fun t k => XS.dup X13.here hx rfl (hb hby d5_80) rfl rfl k) ?_
    show OwnOut p e s below 1 19 _ (T13.setTop (mkF m 81 #[.val (.int x0), .val (.int x1), .unset, .unset, .unset, .unset, .unset] [(.ref c1), (.ref c1)]))
    refine OwnOut.go (fun t k => XT.bipushV X13.here hx rfl (12 : Int32) (hb hby d5_81) rfl k) ?_
    show OwnOut p e s below 1 19 _ (T13.setTop (mkF m 83 #[.val (.int x0), .val (.int x1), .unset, .unset, .unset, .unset, .unset] [(.int (12 : Int32)), (.ref c1), (.ref c1)]))
    refine OwnOut.go (fun t k => X13.ldc2Long hx hown (mvT hZ (hw _ (List.mem_of_getElem? (i := 37) rfl))) (g := (mkF m 83 #[.val (.int x0), .val (.int x1), .unset, .unset, .unset, .unset, .unset] [(.int (12 : Int32)), (.ref c1), (.ref c1)])) rfl (hb hby d5_83) _ k) ?_
    show OwnOut p e s below 1 19 _ (T13.setTop (mkF m 86 #[.val (.int x0), .val (.int x1), .unset, .unset, .unset, .unset, .unset] [(.long (1000000000000 : Int64)), (.int (12 : Int32)), (.ref c1), (.ref c1)]))
    obtain ⟨T14, h14, X14, e14, W14, A_14, st14⟩ := saJ X13 hx hZ e13 A_13 (rfl : stx [(1 : Int64), (10 : Int64), (100 : Int64), (1000 : Int64), (10000 : Int64), (100000 : Int64), (1000000 : Int64), (10000000 : Int64), (100000000 : Int64), (1000000000 : Int64), (10000000000 : Int64), (100000000000 : Int64), (0 : Int64), (0 : Int64), (0 : Int64), (0 : Int64), (0 : Int64), (0 : Int64), (0 : Int64)] (12 : Int32) (1000000000000 : Int64) = some [(1 : Int64), (10 : Int64), (100 : Int64), (1000 : Int64), (10000 : Int64), (100000 : Int64), (1000000 : Int64), (10000000 : Int64), (100000000 : Int64), (1000000000 : Int64), (10000000000 : Int64), (100000000000 : Int64), (1000000000000 : Int64), (0 : Int64), (0 : Int64), (0 : Int64), (0 : Int64), (0 : Int64), (0 : Int64)]) (g := (mkF m 86 #[.val (.int x0), .val (.int x1), .unset, .unset, .unset, .unset, .unset] [(.long (1000000000000 : Int64)), (.int (12 : Int32)), (.ref c1), (.ref c1)])) rfl rfl (hb hby d5_86)
    refine OwnOut.go (fun t k => st14 _ k) ?_
    have N_14 := Fr.snoc X14 N_13 g_1
    have O_14 := O_13.wr W14 g_1
    have K_14 := K_13.wr W14 (Or.inr z_1)
    show OwnOut p e s below 1 19 _ (T14.setTop (mkF m 87 #[.val (.int x0), .val (.int x1), .unset, .unset, .unset, .unset, .unset] [(.ref c1)]))
    refine OwnOut.go (fun t k => XS.dup X14.here hx rfl (hb hby d5_87) rfl rfl k) ?_
    show OwnOut p e s below 1 19 _ (T14.setTop (mkF m 88 #[.val (.int x0), .val (.int x1), .unset, .unset, .unset, .unset, .unset] [(.ref c1), (.ref c1)]))
    refine OwnOut.go (fun t k => XT.bipushV X14.here hx rfl (13 : Int32) (hb hby d5_88) rfl k) ?_
    show OwnOut p e s below 1 19 _ (T14.setTop (mkF m 90 #[.val (.int x0), .val (.int x1), .unset, .unset, .unset, .unset, .unset] [(.int (13 : Int32)), (.ref c1), (.ref c1)]))
    refine OwnOut.go (fun t k => X14.ldc2Long hx hown (mvT hZ (hw _ (List.mem_of_getElem? (i := 38) rfl))) (g := (mkF m 90 #[.val (.int x0), .val (.int x1), .unset, .unset, .unset, .unset, .unset] [(.int (13 : Int32)), (.ref c1), (.ref c1)])) rfl (hb hby d5_90) _ k) ?_
    show OwnOut p e s below 1 19 _ (T14.setTop (mkF m 93 #[.val (.int x0), .val (.int x1), .unset, .unset, .unset, .unset, .unset] [(.long (10000000000000 : Int64)), (.int (13 : Int32)), (.ref c1), (.ref c1)]))
    obtain ⟨T15, h15, X15, e15, W15, A_15, st15⟩ := saJ X14 hx hZ e14 A_14 (rfl : stx [(1 : Int64), (10 : Int64), (100 : Int64), (1000 : Int64), (10000 : Int64), (100000 : Int64), (1000000 : Int64), (10000000 : Int64), (100000000 : Int64), (1000000000 : Int64), (10000000000 : Int64), (100000000000 : Int64), (1000000000000 : Int64), (0 : Int64), (0 : Int64), (0 : Int64), (0 : Int64), (0 : Int64), (0 : Int64)] (13 : Int32) (10000000000000 : Int64) = some [(1 : Int64), (10 : Int64), (100 : Int64), (1000 : Int64), (10000 : Int64), (100000 : Int64), (1000000 : Int64), (10000000 : Int64), (100000000 : Int64), (1000000000 : Int64), (10000000000 : Int64), (100000000000 : Int64), (1000000000000 : Int64), (10000000000000 : Int64), (0 : Int64), (0 : Int64), (0 : Int64), (0 : Int64), (0 : Int64)]) (g := (mkF m 93 #[.val (.int x0), .val (.int x1), .unset, .unset, .unset, .unset, .unset] [(.long (10000000000000 : Int64)), (.int (13 : Int32)), (.ref c1), (.ref c1)])) rfl rfl (hb hby d5_93)
    refine OwnOut.go (fun t k => st15 _ k) ?_
    have N_15 := Fr.snoc X15 N_14 g_1
    have O_15 := O_14.wr W15 g_1
    have K_15 := K_14.wr W15 (Or.inr z_1)
    show OwnOut p e s below 1 19 _ (T15.setTop (mkF m 94 #[.val (.int x0), .val (.int x1), .unset, .unset, .unset, .unset, .unset] [(.ref c1)]))
    refine OwnOut.go (fun t k => XS.dup X15.here hx rfl (hb hby d5_94) rfl rfl k) ?_
    show OwnOut p e s below 1 19 _ (T15.setTop (mkF m 95 #[.val (.int x0), .val (.int x1), .unset, .unset, .unset, .unset, .unset] [(.ref c1), (.ref c1)]))
    refine OwnOut.go (fun t k => XT.bipushV X15.here hx rfl (14 : Int32) (hb hby d5_95) rfl k) ?_
    show OwnOut p e s below 1 19 _ (T15.setTop (mkF m 97 #[.val (.int x0), .val (.int x1), .unset, .unset, .unset, .unset, .unset] [(.int (14 : Int32)), (.ref c1), (.ref c1)]))
    refine OwnOut.go (fun t k => X15.ldc2Long hx hown (mvT hZ (hw _ (List.mem_of_getElem? (i := 39) rfl))) (g := (mkF m 97 #[.val (.int x0), .val (.int x1), .unset, .unset, .unset, .unset, .unset] [(.int (14 : Int32)), (.ref c1), (.ref c1)])) rfl (hb hby d5_97) _ k) ?_
    show OwnOut p e s below 1 19 _ (T15.setTop (mkF m 100 #[.val (.int x0), .val (.int x1), .unset, .unset, .unset, .unset, .unset] [(.long (100000000000000 : Int64)), (.int (14 : Int32)), (.ref c1), (.ref c1)]))
    obtain ⟨T16, h16, X16, e16, W16, A_16, st16⟩ := saJ X15 hx hZ e15 A_15 (rfl : stx [(1 : Int64), (10 : Int64), (100 : Int64), (1000 : Int64), (10000 : Int64), (100000 : Int64), (1000000 : Int64), (10000000 : Int64), (100000000 : Int64), (1000000000 : Int64), (10000000000 : Int64), (100000000000 : Int64), (1000000000000 : Int64), (10000000000000 : Int64), (0 : Int64), (0 : Int64), (0 : Int64), (0 : Int64), (0 : Int64)] (14 : Int32) (100000000000000 : Int64) = some [(1 : Int64), (10 : Int64), (100 : Int64), (1000 : Int64), (10000 : Int64), (100000 : Int64), (1000000 : Int64), (10000000 : Int64), (100000000 : Int64), (1000000000 : Int64), (10000000000 : Int64), (100000000000 : Int64), (1000000000000 : Int64), (10000000000000 : Int64), (100000000000000 : Int64), (0 : Int64), (0 : Int64), (0 : Int64), (0 : Int64)]) (g := (mkF m 100 #[.val (.int x0), .val (.int x1), .unset, .unset, .unset, .unset, .unset] [(.long (100000000000000 : Int64)), (.int (14 : Int32)), (.ref c1), (.ref c1)])) rfl rfl (hb hby d5_100)
    refine OwnOut.go (fun t k => st16 _ k) ?_
    have N_16 := Fr.snoc X16 N_15 g_1
    have O_16 := O_15.wr W16 g_1
    have K_16 := K_15.wr W16 (Or.inr z_1)
    show OwnOut p e s below 1 19 _ (T16.setTop (mkF m 101 #[.val (.int x0), .val (.int x1), .unset, .unset, .unset, .unset, .unset] [(.ref c1)]))
    refine OwnOut.go (fun t k => XS.dup X16.here hx rfl (hb hby d5_101) rfl rfl k) ?_
    show OwnOut p e s below 1 19 _ (T16.setTop (mkF m 102 #[.val (.int x0), .val (.int x1), .unset, .unset, .unset, .unset, .unset] [(.ref c1), (.ref c1)]))
    refine OwnOut.go (fun t k => XT.bipushV X16.here hx rfl (15 : Int32) (hb hby d5_102) rfl k) ?_
    show OwnOut p e s below 1 19 _ (T16.setTop (mkF m 104 #[.val (.int x0), .val (.int x1), .unset, .unset, .unset, .unset, .unset] [(.int (15 : Int32)), (.ref c1), (.ref c1)]))
    refine OwnOut.go (fun t k => X16.ldc2Long hx hown (mvT hZ (hw _ (List.mem_of_getElem? (i := 40) rfl))) (g := (mkF m 104 #[.val (.int x0), .val (.int x1), .unset, .unset, .unset, .unset, .unset] [(.int (15 : Int32)), (.ref c1), (.ref c1)])) rfl (hb hby d5_104) _ k) ?_
    show OwnOut p e s below 1 19 _ (T16.setTop (mkF m 107 #[.val (.int x0), .val (.int x1), .unset, .unset, .unset, .unset, .unset] [(.long (1000000000000000 : Int64)), (.int (15 : Int32)), (.ref c1), (.ref c1)]))
    obtain ⟨T17, h17, X17, e17, W17, A_17, st17⟩ := saJ X16 hx hZ e16 A_16 (rfl : stx [(1 : Int64), (10 : Int64), (100 : Int64), (1000 : Int64), (10000 : Int64), (100000 : Int64), (1000000 : Int64), (10000000 : Int64), (100000000 : Int64), (1000000000 : Int64), (10000000000 : Int64), (100000000000 : Int64), (1000000000000 : Int64), (10000000000000 : Int64), (100000000000000 : Int64), (0 : Int64), (0 : Int64), (0 : Int64), (0 : Int64)] (15 : Int32) (1000000000000000 : Int64) = some [(1 : Int64), (10 : Int64), (100 : Int64), (1000 : Int64), (10000 : Int64), (100000 : Int64), (1000000 : Int64), (10000000 : Int64), (100000000 : Int64), (1000000000 : Int64), (10000000000 : Int64), (100000000000 : Int64), (1000000000000 : Int64), (10000000000000 : Int64), (100000000000000 : Int64), (1000000000000000 : Int64), (0 : Int64), (0 : Int64), (0 : Int64)]) (g := (mkF m 107 #[.val (.int x0), .val (.int x1), .unset, .unset, .unset, .unset, .unset] [(.long (1000000000000000 : Int64)), (.int (15 : Int32)), (.ref c1), (.ref c1)])) rfl rfl (hb hby d5_107)
    refine OwnOut.go (fun t k => st17 _ k) ?_
    have N_17 := Fr.snoc X17 N_16 g_1
    have O_17 := O_16.wr W17 g_1
    have K_17 := K_16.wr W17 (Or.inr z_1)
    show OwnOut p e s below 1 19 _ (T17.setTop (mkF m 108 #[.val (.int x0), .val (.int x1), .unset, .unset, .unset, .unset, .unset] [(.ref c1)]))
    refine OwnOut.go (fun t k => XS.dup X17.here hx rfl (hb hby d5_108) rfl rfl k) ?_
    show OwnOut p e s below 1 19 _ (T17.setTop (mkF m 109 #[.val (.int x0), .val (.int x1), .unset, .unset, .unset, .unset, .unset] [(.ref c1), (.ref c1)]))
    refine OwnOut.go (fun t k => XT.bipushV X17.here hx rfl (16 : Int32) (hb hby d5_109) rfl k) ?_
    show OwnOut p e s below 1 19 _ (T17.setTop (mkF m 111 #[.val (.int x0), .val (.int x1), .unset, .unset, .unset, .unset, .unset] [(.int (16 : Int32)), (.ref c1), (.ref c1)]))
    refine OwnOut.go (fun t k => X17.ldc2Long hx hown (mvT hZ (hw _ (List.mem_of_getElem? (i := 41) rfl))) (g := (mkF m 111 #[.val (.int x0), .val (.int x1), .unset, .unset, .unset, .unset, .unset] [(.int (16 : Int32)), (.ref c1), (.ref c1)])) rfl (hb hby d5_111) _ k) ?_
    show OwnOut p e s below 1 19 _ (T17.setTop (mkF m 114 #[.val (.int x0), .val (.int x1), .unset, .unset, .unset, .unset, .unset] [(.long (10000000000000000 : Int64)), (.int (16 : Int32)), (.ref c1), (.ref c1)]))
    obtain ⟨T18, h18, X18, e18, W18, A_18, st18⟩ := saJ X17 hx hZ e17 A_17 (rfl : stx [(1 : Int64), (10 : Int64), (100 : Int64), (1000 : Int64), (10000 : Int64), (100000 : Int64), (1000000 : Int64), (10000000 : Int64), (100000000 : Int64), (1000000000 : Int64), (10000000000 : Int64), (100000000000 : Int64), (1000000000000 : Int64), (10000000000000 : Int64), (100000000000000 : Int64), (1000000000000000 : Int64), (0 : Int64), (0 : Int64), (0 : Int64)] (16 : Int32) (10000000000000000 : Int64) = some [(1 : Int64), (10 : Int64), (100 : Int64), (1000 : Int64), (10000 : Int64), (100000 : Int64), (1000000 : Int64), (10000000 : Int64), (100000000 : Int64), (1000000000 : Int64), (10000000000 : Int64), (100000000000 : Int64), (1000000000000 : Int64), (10000000000000 : Int64), (100000000000000 : Int64), (1000000000000000 : Int64), (10000000000000000 : Int64), (0 : Int64), (0 : Int64)]) (g := (mkF m 114 #[.val (.int x0), .val (.int x1), .unset, .unset, .unset, .unset, .unset] [(.long (10000000000000000 : Int64)), (.int (16 : Int32)), (.ref c1), (.ref c1)])) rfl rfl (hb hby d5_114)
    refine OwnOut.go (fun t k => st18 _ k) ?_
    have N_18 := Fr.snoc X18 N_17 g_1
    have O_18 := O_17.wr W18 g_1
    have K_18 := K_17.wr W18 (Or.inr z_1)
    show OwnOut p e s below 1 19 _ (T18.setTop (mkF m 115 #[.val (.int x0), .val (.int x1), .unset, .unset, .unset, .unset, .unset] [(.ref c1)]))
    refine OwnOut.go (fun t k => XS.dup X18.here hx rfl (hb hby d5_115) rfl rfl k) ?_
    show OwnOut p e s below 1 19 _ (T18.setTop (mkF m 116 #[.val (.int x0), .val (.int x1), .unset, .unset, .unset, .unset, .unset] [(.ref c1), (.ref c1)]))
    refine OwnOut.go (fun t k => XT.bipushV X18.here hx rfl (17 : Int32) (hb hby d5_116) rfl k) ?_
    show OwnOut p e s below 1 19 _ (T18.setTop (mkF m 118 #[.val (.int x0), .val (.int x1), .unset, .unset, .unset, .unset, .unset] [(.int (17 : Int32)), (.ref c1), (.ref c1)]))
    refine OwnOut.go (fun t k => X18.ldc2Long hx hown (mvT hZ (hw _ (List.mem_of_getElem? (i := 42) rfl))) (g := (mkF m 118 #[.val (.int x0), .val (.int x1), .unset, .unset, .unset, .unset, .unset] [(.int (17 : Int32)), (.ref c1), (.ref c1)])) rfl (hb hby d5_118) _ k) ?_
    show OwnOut p e s below 1 19 _ (T18.setTop (mkF m 121 #[.val (.int x0), .val (.int x1), .unset, .unset, .unset, .unset, .unset] [(.long (100000000000000000 : Int64)), (.int (17 : Int32)), (.ref c1), (.ref c1)]))
    obtain ⟨T19, h19, X19, e19, W19, A_19, st19⟩ := saJ X18 hx hZ e18 A_18 (rfl : stx [(1 : Int64), (10 : Int64), (100 : Int64), (1000 : Int64), (10000 : Int64), (100000 : Int64), (1000000 : Int64), (10000000 : Int64), (100000000 : Int64), (1000000000 : Int64), (10000000000 : Int64), (100000000000 : Int64), (1000000000000 : Int64), (10000000000000 : Int64), (100000000000000 : Int64), (1000000000000000 : Int64), (10000000000000000 : Int64), (0 : Int64), (0 : Int64)] (17 : Int32) (100000000000000000 : Int64) = some [(1 : Int64), (10 : Int64), (100 : Int64), (1000 : Int64), (10000 : Int64), (100000 : Int64), (1000000 : Int64), (10000000 : Int64), (100000000 : Int64), (1000000000 : Int64), (10000000000 : Int64), (100000000000 : Int64), (1000000000000 : Int64), (10000000000000 : Int64), (100000000000000 : Int64), (1000000000000000 : Int64), (10000000000000000 : Int64), (100000000000000000 : Int64), (0 : Int64)]) (g := (mkF m 121 #[.val (.int x0), .val (.int x1), .unset, .unset, .unset, .unset, .unset] [(.long (100000000000000000 : Int64)), (.int (17 : Int32)), (.ref c1), (.ref c1)])) rfl rfl (hb hby d5_121)
    refine OwnOut.go (fun t k => st19 _ k) ?_
    have N_19 := Fr.snoc X19 N_18 g_1
    have O_19 := O_18.wr W19 g_1
    have K_19 := K_18.wr W19 (Or.inr z_1)
    show OwnOut p e s below 1 19 _ (T19.setTop (mkF m 122 #[.val (.int x0), .val (.int x1), .unset, .unset, .unset, .unset, .unset] [(.ref c1)]))
    refine OwnOut.go (fun t k => XS.dup X19.here hx rfl (hb hby d5_122) rfl rfl k) ?_
    show OwnOut p e s below 1 19 _ (T19.setTop (mkF m 123 #[.val (.int x0), .val (.int x1), .unset, .unset, .unset, .unset, .unset] [(.ref c1), (.ref c1)]))
    refine OwnOut.go (fun t k => XT.bipushV X19.here hx rfl (18 : Int32) (hb hby d5_123) rfl k) ?_
    show OwnOut p e s below 1 19 _ (T19.setTop (mkF m 125 #[.val (.int x0), .val (.int x1), .unset, .unset, .unset, .unset, .unset] [(.int (18 : Int32)), (.ref c1), (.ref c1)]))
    refine OwnOut.go (fun t k => X19.ldc2Long hx hown (mvT hZ (hw _ (List.mem_of_getElem? (i := 43) rfl))) (g := (mkF m 125 #[.val (.int x0), .val (.int x1), .unset, .unset, .unset, .unset, .unset] [(.int (18 : Int32)), (.ref c1), (.ref c1)])) rfl (hb hby d5_125) _ k) ?_
    show OwnOut p e s below 1 19 _ (T19.setTop (mkF m 128 #[.val (.int x0), .val (.int x1), .unset, .unset, .unset, .unset, .unset] [(.long (1000000000000000000 : Int64)), (.int (18 : Int32)), (.ref c1), (.ref c1)]))
    obtain ⟨T20, h20, X20, e20, W20, A_20, st20⟩ := saJ X19 hx hZ e19 A_19 (rfl : stx [(1 : Int64), (10 : Int64), (100 : Int64), (1000 : Int64), (10000 : Int64), (100000 : Int64), (1000000 : Int64), (10000000 : Int64), (100000000 : Int64), (1000000000 : Int64), (10000000000 : Int64), (100000000000 : Int64), (1000000000000 : Int64), (10000000000000 : Int64), (100000000000000 : Int64), (1000000000000000 : Int64), (10000000000000000 : Int64), (100000000000000000 : Int64), (0 : Int64)] (18 : Int32) (1000000000000000000 : Int64) = some [(1 : Int64), (10 : Int64), (100 : Int64), (1000 : Int64), (10000 : Int64), (100000 : Int64), (1000000 : Int64), (10000000 : Int64), (100000000 : Int64), (1000000000 : Int64), (10000000000 : Int64), (100000000000 : Int64), (1000000000000 : Int64), (10000000000000 : Int64), (100000000000000 : Int64), (1000000000000000 : Int64), (10000000000000000 : Int64), (100000000000000000 : Int64), (1000000000000000000 : Int64)]) (g := (mkF m 128 #[.val (.int x0), .val (.int x1), .unset, .unset, .unset, .unset, .unset] [(.long (1000000000000000000 : Int64)), (.int (18 : Int32)), (.ref c1), (.ref c1)])) rfl rfl (hb hby d5_128)
    refine OwnOut.go (fun t k => st20 _ k) ?_
    have N_20 := Fr.snoc X20 N_19 g_1
    have O_20 := O_19.wr W20 g_1
    have K_20 := K_19.wr W20 (Or.inr z_1)
    show OwnOut p e s below 1 19 _ (T20.setTop (mkF m 129 #[.val (.int x0), .val (.int x1), .unset, .unset, .unset, .unset, .unset] [(.ref c1)]))
    refine OwnOut.go (fun t k => XS.astoreN X20.here hx rfl (hb hby d5_129) rfl rfl (l' := #[.val (.int x0), .val (.int x1), .val (.ref c1), .unset, .unset, .unset, .unset]) rfl k) ?_
    show OwnOut p e s below 1 19 _ (T20.setTop (mkF m 130 #[.val (.int x0), .val (.int x1), .val (.ref c1), .unset, .unset, .unset, .unset] []))
    refine OwnOut.go (fun t k => XS.iloadN X20.here hx rfl (hb hby d5_130) rfl k) ?_
    show OwnOut p e s below 1 19 _ (T20.setTop (mkF m 131 #[.val (.int x0), .val (.int x1), .val (.ref c1), .unset, .unset, .unset, .unset] [(.int x0)]))
    refine OwnOut.go (fun t k => XT.iconstV X20.here hx rfl (2 : Int32) (hb hby d5_131) rfl k) ?_
    show OwnOut p e s below 1 19 _ (T20.setTop (mkF m 132 #[.val (.int x0), .val (.int x1), .val (.ref c1), .unset, .unset, .unset, .unset] [(.int (2 : Int32)), (.int x0)]))
    by_cases hc132 : x0 < (2 : Int32)
    · rw [if_pos hc132] at hr
      refine OwnOut.go (fun t k => XS.icmpYes X20.here hx rfl (pc0 := 132) (pc' := 191) rfl (hb hby d5_132) rfl (XT.ii_lt_t hc132) (by decide) (by decide) k) ?_
      show OwnOut p e s below 1 19 _ (T20.setTop (mkF m 191 #[.val (.int x0), .val (.int x1), .val (.ref c1), .unset, .unset, .unset, .unset] []))
      exact w5_191 ⟨hx, hZ, hw, hby, hml, hown, hret, hlk, hnm⟩  _ _ _ x0 x1 c1 [(1 : Int64), (10 : Int64), (100 : Int64), (1000 : Int64), (10000 : Int64), (100000 : Int64), (1000000 : Int64), (10000000 : Int64), (100000000 : Int64), (1000000000 : Int64), (10000000000 : Int64), (100000000000 : Int64), (1000000000000 : Int64), (10000000000000 : Int64), (100000000000000 : Int64), (1000000000000000 : Int64), (10000000000000000 : Int64), (100000000000000000 : Int64), (1000000000000000000 : Int64)] _ hr X20 e20 N_20 O_20 K_20 A_20 g_1 z_1
    · rw [if_neg hc132] at hr
      refine OwnOut.go (fun t k => XS.icmpNo X20.here hx rfl (hb hby d5_132) rfl (XT.ii_lt_f hc132) k) ?_
      show OwnOut p e s below 1 19 _ (T20.setTop (mkF m 135 #[.val (.int x0), .val (.int x1), .val (.ref c1), .unset, .unset, .unset, .unset] []))
      refine OwnOut.go (fun t k => XS.iloadN X20.here hx rfl (hb hby d5_135) rfl k) ?_
      show OwnOut p e s below 1 19 _ (T20.setTop (mkF m 136 #[.val (.int x0), .val (.int x1), .val (.ref c1), .unset, .unset, .unset, .unset] [(.int x0)]))
      refine OwnOut.go (fun t k => XT.bipushV X20.here hx rfl (63 : Int32) (hb hby d5_136) rfl k) ?_
      show OwnOut p e s below 1 19 _ (T20.setTop (mkF m 138 #[.val (.int x0), .val (.int x1), .val (.ref c1), .unset, .unset, .unset, .unset] [(.int (63 : Int32)), (.int x0)]))
      by_cases hc138 : (63 : Int32) < x0
      · rw [if_pos hc138] at hr
        refine OwnOut.go (fun t k => XS.icmpYes X20.here hx rfl (pc0 := 138) (pc' := 191) rfl (hb hby d5_138) rfl (XT.ii_gt_t hc138) (by decide) (by decide) k) ?_
        show OwnOut p e s below 1 19 _ (T20.setTop (mkF m 191 #[.val (.int x0), .val (.int x1), .val (.ref c1), .unset, .unset, .unset, .unset] []))
        exact w5_191 ⟨hx, hZ, hw, hby, hml, hown, hret, hlk, hnm⟩  _ _ _ x0 x1 c1 [(1 : Int64), (10 : Int64), (100 : Int64), (1000 : Int64), (10000 : Int64), (100000 : Int64), (1000000 : Int64), (10000000 : Int64), (100000000 : Int64), (1000000000 : Int64), (10000000000 : Int64), (100000000000 : Int64), (1000000000000 : Int64), (10000000000000 : Int64), (100000000000000 : Int64), (1000000000000000 : Int64), (10000000000000000 : Int64), (100000000000000000 : Int64), (1000000000000000000 : Int64)] _ hr X20 e20 N_20 O_20 K_20 A_20 g_1 z_1
      · rw [if_neg hc138] at hr
        refine OwnOut.go (fun t k => XS.icmpNo X20.here hx rfl (hb hby d5_138) rfl (XT.ii_gt_f hc138) k) ?_
        show OwnOut p e s below 1 19 _ (T20.setTop (mkF m 141 #[.val (.int x0), .val (.int x1), .val (.ref c1), .unset, .unset, .unset, .unset] []))
        refine OwnOut.go (fun t k => XS.iloadN X20.here hx rfl (hb hby d5_141) rfl k) ?_
        show OwnOut p e s below 1 19 _ (T20.setTop (mkF m 142 #[.val (.int x0), .val (.int x1), .val (.ref c1), .unset, .unset, .unset, .unset] [(.int x1)]))
        by_cases hc142 : x1 < (0 : Int32)
        · rw [if_pos hc142] at hr
          refine OwnOut.go (fun t k => XS.ifYes X20.here hx rfl (pc0 := 142) (pc' := 151) rfl (hb hby d5_142) rfl (XT.i0_lt_t hc142) (by decide) (by decide) k) ?_
          show OwnOut p e s below 1 19 _ (T20.setTop (mkF m 151 #[.val (.int x0), .val (.int x1), .val (.ref c1), .unset, .unset, .unset, .unset] []))
          refine OwnOut.go (fun t k => XT.iconstV X20.here hx rfl (0 : Int32) (hb hby d5_151) rfl k) ?_
          show OwnOut p e s below 1 19 _ (T20.setTop (mkF m 152 #[.val (.int x0), .val (.int x1), .val (.ref c1), .unset, .unset, .unset, .unset] [(.int (0 : Int32))]))
          cases hr
          exact outZ X20 hx hret (hb hby d5_152) hlk (by decide) (by decide) (by rw [e20]; exact ⟨rfl, N_20, K_20⟩)
        · rw [if_neg hc142] at hr
          refine OwnOut.go (fun t k => XS.ifNo X20.here hx rfl (hb hby d5_142) rfl (XT.i0_lt_f hc142) k) ?_
          show OwnOut p e s below 1 19 _ (T20.setTop (mkF m 145 #[.val (.int x0), .val (.int x1), .val (.ref c1), .unset, .unset, .unset, .unset] []))
          refine OwnOut.go (fun t k => XS.iloadN X20.here hx rfl (hb hby d5_145) rfl k) ?_
          show OwnOut p e s below 1 19 _ (T20.setTop (mkF m 146 #[.val (.int x0), .val (.int x1), .val (.ref c1), .unset, .unset, .unset, .unset] [(.int x1)]))
          refine OwnOut.go (fun t k => XT.bipushV X20.here hx rfl (18 : Int32) (hb hby d5_146) rfl k) ?_
          show OwnOut p e s below 1 19 _ (T20.setTop (mkF m 148 #[.val (.int x0), .val (.int x1), .val (.ref c1), .unset, .unset, .unset, .unset] [(.int (18 : Int32)), (.int x1)]))
          by_cases hc148 : (18 : Int32) < x1
          · rw [if_pos hc148] at hr
            refine OwnOut.go (fun t k => XS.icmpNo X20.here hx rfl (hb hby d5_148) rfl (XT.ii_le_f hc148) k) ?_
            show OwnOut p e s below 1 19 _ (T20.setTop (mkF m 151 #[.val (.int x0), .val (.int x1), .val (.ref c1), .unset, .unset, .unset, .unset] []))
            refine OwnOut.go (fun t k => XT.iconstV X20.here hx rfl (0 : Int32) (hb hby d5_151) rfl k) ?_
            show OwnOut p e s below 1 19 _ (T20.setTop (mkF m 152 #[.val (.int x0), .val (.int x1), .val (.ref c1), .unset, .unset, .unset, .unset] [(.int (0 : Int32))]))
            cases hr
            exact outZ X20 hx hret (hb hby d5_152) hlk (by decide) (by decide) (by rw [e20]; exact ⟨rfl, N_20, K_20⟩)
          · rw [if_neg hc148] at hr
            refine OwnOut.go (fun t k => XS.icmpYes X20.here hx rfl (pc0 := 148) (pc' := 153) rfl (hb hby d5_148) rfl (XT.ii_le_t hc148) (by decide) (by decide) k) ?_
            show OwnOut p e s below 1 19 _ (T20.setTop (mkF m 153 #[.val (.int x0), .val (.int x1), .val (.ref c1), .unset, .unset, .unset, .unset] []))
            refine OwnOut.go (fun t k => X20.ldc2Long hx hown (mvT hZ (hw _ (List.mem_of_getElem? (i := 44) rfl))) (g := (mkF m 153 #[.val (.int x0), .val (.int x1), .val (.ref c1), .unset, .unset, .unset, .unset] [])) rfl (hb hby d5_153) _ k) ?_
            show OwnOut p e s below 1 19 _ (T20.setTop (mkF m 156 #[.val (.int x0), .val (.int x1), .val (.ref c1), .unset, .unset, .unset, .unset] [(.long (3 : Int64))]))
            refine OwnOut.go (fun t k => XS.iloadN X20.here hx rfl (hb hby d5_156) rfl k) ?_
            show OwnOut p e s below 1 19 _ (T20.setTop (mkF m 157 #[.val (.int x0), .val (.int x1), .val (.ref c1), .unset, .unset, .unset, .unset] [(.int x0), (.long (3 : Int64))]))
            refine OwnOut.go (fun t k => XT.iconstV X20.here hx rfl (2 : Int32) (hb hby d5_157) rfl k) ?_
            show OwnOut p e s below 1 19 _ (T20.setTop (mkF m 158 #[.val (.int x0), .val (.int x1), .val (.ref c1), .unset, .unset, .unset, .unset] [(.int (2 : Int32)), (.int x0), (.long (3 : Int64))]))
            refine OwnOut.go (fun t k => XS.isub X20.here hx rfl (hb hby d5_158) rfl k) ?_
            show OwnOut p e s below 1 19 _ (T20.setTop (mkF m 159 #[.val (.int x0), .val (.int x1), .val (.ref c1), .unset, .unset, .unset, .unset] [(.int (x0 - (2 : Int32))), (.long (3 : Int64))]))
            refine OwnOut.go (fun t k => XS.lshl X20.here hx rfl (hb hby d5_159) rfl k) ?_
            show OwnOut p e s below 1 19 _ (T20.setTop (mkF m 160 #[.val (.int x0), .val (.int x1), .val (.ref c1), .unset, .unset, .unset, .unset] [(.long ((3 : Int64) <<< ((x0 - (2 : Int32)) &&& 0x3f).toInt64))]))
            refine OwnOut.go (fun t k => XS.lstoreN X20.here hx rfl (hb hby d5_160) rfl (l' := #[.val (.int x0), .val (.int x1), .val (.ref c1), .val (.long ((3 : Int64) <<< ((x0 - (2 : Int32)) &&& 0x3f).toInt64)), .second, .unset, .unset]) rfl k) ?_
            show OwnOut p e s below 1 19 _ (T20.setTop (mkF m 161 #[.val (.int x0), .val (.int x1), .val (.ref c1), .val (.long ((3 : Int64) <<< ((x0 - (2 : Int32)) &&& 0x3f).toInt64)), .second, .unset, .unset] []))
            exact w5_161 ⟨hx, hZ, hw, hby, hml, hown, hret, hlk, hnm⟩  _ _ _ x0 x1 ((3 : Int64) <<< ((x0 - (2 : Int32)) &&& 0x3f).toInt64) c1 [(1 : Int64), (10 : Int64), (100 : Int64), (1000 : Int64), (10000 : Int64), (100000 : Int64), (1000000 : Int64), (10000000 : Int64), (100000000 : Int64), (1000000000 : Int64), (10000000000 : Int64), (100000000000 : Int64), (1000000000000 : Int64), (10000000000000 : Int64), (100000000000000 : Int64), (1000000000000000 : Int64), (10000000000000000 : Int64), (100000000000000000 : Int64), (1000000000000000000 : Int64)] _ hr X20 e20 N_20 O_20 K_20 A_20 g_1 z_1
set_option maxRecDepth 65536 in
set_option maxHeartbeats 40000000 in
theorem rm5 (l : Launch) (Z : State) (a0 : Array Value) (hw : ∀ d ∈ tables_1, d.before a0 Z = true) (ws : List Jvm.Cond) (x0 : Int32) (x1 : Int32) (h0 : Heap) (n0 : Nat) (o : Int32) (hr : f5 x0 x1 = some o) (O0 : Old Z n0 h0) :
    MetFree l (⟨(x.cls), "exactInWindow", "(II)Z"⟩ : MethodName) (head1 (Jvm.Cond.code (⟨(x.cls), "exactInWindow", "(II)Z"⟩ : MethodName) method_4_code 7 (some .boolean) :: ws) rx5) (fun a U => a = #[(.int x0), (.int x1)] ∧ Z.Warmed39 U.vm ∧ U.heap = h0) (fun _ _ _ _ _ => True) (fun _ U o' U' => ∃ v L, o' = .returned v ∧ Q5 Z x0 x1 h0 n0 o v U'.heap L ∧ FrameEnd U o' U' L rx5.cells rx5.slots) := by
  refine MetFree.of_bodySF (plainFor_of_name pn5) hisR ?_
  intro p e s m args below meth c s₁ Bd hml0 hP hK
  obtain ⟨rfl, hZ, hh⟩ := hP
  have X0 : Stand p l e rx5 s m #[(.int x0), (.int x1)] below meth c s₁ [] 0 0 := Stand.of_body Bd
  have e0 : s₁.heap = h0 := by rw [← hh, Bd.state]; rfl
  have hfc := findClass_of_methodNamed Bd.named
  exact OwnOut.at (ef5 m x0 x1) (w5_0 ⟨Bd.exec, hZ, hw, Bd.bytes, hml0, hfc, Bd.returns, Bd.notSynchronized, (name_of_methodNamed Bd.named Bd.method).1⟩ _ _ _ x0 x1 o hr X0 e0 (Fr.nil n0) O0 (Keep.refl _ _) )
theorem pn0 : plainName (x.cls) = true := by first | (simp [plainName, overriddenIn]; done) | decide +kernel
theorem pd0 : parseMethodDescriptor "(I)Z" = some ⟨[.int], some .boolean⟩ := by decide +kernel
theorem ef0 (m : MethodId) (x0 : Int32) : entryFrame m #[(.int x0)] maxLocals = mkF m 0 #[.val (.int x0), .unset, .unset, .unset, .unset, .unset, .unset, .unset, .unset, .unset, .unset, .unset, .unset] [] := by first | (simp [entryFrame, mkF, argsToLocals, Value.category, maxLocals]; done) | rfl
abbrev Cx0 (Z : State) (a0 : Array Value) (p : Program) (s : State) (m : MethodId) (meth : Method) (c : Code) : Prop := p.tables.exec = Jvm.exec ∧ Z.Warmed39 s.vm ∧ (∀ d ∈ tables_1, d.before a0 Z = true) ∧ c.code = code ∧ c.maxLocals = 13 ∧ s.vm.findClass (x.cls) = some m.cls ∧ meth.sig.returnType = (some .boolean) ∧ meth.locks = false ∧ meth.name = "law"
def Q0 (Z : State) (x0 : Int32) (h0 : Heap) (n0 : Nat) (o : Int32) (v : Option Value) (h : Heap) (L : List Loc) : Prop := v = some (.int o) ∧ Fr n0 L
def f0_38 (x1 : Int32) (x2 : Int32) (x3 : Int64) (x5 : Int64) (x7 : Int64) : Option (Int32) := ((f2 x5 x7).bind fun o2 => ((f3 x5 x7).bind fun o3 => ((f4 (o2 - (12493873661 : Int64)) x3).bind fun o4 => (if (x2.toInt64) < o4 then some ((0 : Int32)) else ((f4 (o3 - (12493873660 : Int64)) x3).bind fun o5 => (if o5 < (x2.toInt64) then some ((0 : Int32)) else ((f5 x1 x2).bind fun o6 => some ((o6 &&& 1)))))))))
set_option maxRecDepth 65536 in
set_option maxHeartbeats 40000000 in
theorem w0_38 {p : Program} {l : Launch} {e : Env} {s : State} {m : MethodId} {args : Array Value} {below : List Frame} {meth : Method} {c : Code} {Z : State} {a0 : Array Value} {h0 : Heap} {n0 : Nat} (C : Cx0 Z a0 p s m meth c) :
    ∀ (T : State) (locs : List Loc) (hA : Heap) (x0 : Int32) (x1 : Int32) (x2 : Int32) (x3 : Int64) (x5 : Int64) (x7 : Int64) (o : Int32), f0_38 x1 x2 x3 x5 x7 = some o → Stand p l e room_1 s m args below meth c T locs 0 0 → T.heap = hA → Fr n0 locs → Old Z n0 hA → Keep h0 hA [] →  OwnOut p e s below 16 128 (Q0 Z default h0 n0 o) (T.setTop (mkF m 38 #[.val (.int x0), .val (.int x1), .val (.int x2), .val (.long x3), .second, .val (.long x5), .second, .val (.long x7), .second, .unset, .unset, .unset, .unset] [])) := by
    obtain ⟨hx, hZ, hw, hby, hml, hown, hret, hlk, hnm⟩ := C
    intro T locs hA x0 x1 x2 x3 x5 x7 o hr X0 e0 N0 O0 K0
    rw [f0_38] at hr
    refine OwnOut.go (fun t k => XS.lload X0.here hx rfl (hb hby at_38) rfl k) ?_
    show OwnOut p e s below 16 128 _ (T.setTop (mkF m 40 #[.val (.int x0), .val (.int x1), .val (.int x2), .val (.long x3), .second, .val (.long x5), .second, .val (.long x7), .second, .unset, .unset, .unset, .unset] [(.long x5)]))
    refine OwnOut.go (fun t k => XS.lload X0.here hx rfl (hb hby at_40) rfl k) ?_
    show OwnOut p e s below 16 128 _ (T.setTop (mkF m 42 #[.val (.int x0), .val (.int x1), .val (.int x2), .val (.long x3), .second, .val (.long x5), .second, .val (.long x7), .second, .unset, .unset, .unset, .unset] [(.long x7), (.long x5)]))
    obtain ⟨o2, ho2, hr⟩ := Option.bind_eq_some_iff.mp hr
    obtain ⟨r2, T2, L2, X2', hQ2, st2⟩ := callQ (W := 0) (rm := rx2) X0 hx hZ (y := (⟨"java/lang/Math", "min", "(JJ)J"⟩ : MethodName)) hown (hw _ (List.mem_of_getElem? (i := 10) rfl)) (hw _ (List.mem_of_getElem? (i := 11) rfl)) (hw _ (List.mem_of_getElem? (i := 12) rfl)) (hw _ (List.mem_of_getElem? (i := 13) rfl)) (by decide) (rm2 l Z a0 hw [] x5 x7 hA o2 ho2 ) (by decide) (by decide) (by decide) (by decide) e0 (g := (mkF m 42 #[.val (.int x0), .val (.int x1), .val (.int x2), .val (.long x3), .second, .val (.long x5), .second, .val (.long x7), .second, .unset, .unset, .unset, .unset] [(.long x7), (.long x5)])) rfl (by rw [hml]; rfl) (argsL := [(.long x5), (.long x7)]) (rest := []) (lenOf pd2 rfl) rfl (by show 2 * 0 + _ ≤ _; exact Nat.le_of_eq rfl) (hb hby at_42)
    obtain ⟨rfl, e2, rfl⟩ := hQ2
    rw [List.append_nil] at X2'
    have X2 : Stand p l e room_1 s m args below meth c T2 _ 0 0 := X2'
    refine OwnOut.go (fun t k => st2 _ k) ?_
    show OwnOut p e s below 16 128 _ (T2.setTop (mkF m 45 #[.val (.int x0), .val (.int x1), .val (.int x2), .val (.long x3), .second, .val (.long x5), .second, .val (.long x7), .second, .unset, .unset, .unset, .unset] [(.long o2)]))
    refine OwnOut.go (fun t k => X2.ldc2Long hx hown (mvT hZ (hw _ (List.mem_of_getElem? (i := 14) rfl))) (g := (mkF m 45 #[.val (.int x0), .val (.int x1), .val (.int x2), .val (.long x3), .second, .val (.long x5), .second, .val (.long x7), .second, .unset, .unset, .unset, .unset] [(.long o2)])) rfl (hb hby at_45) _ k) ?_
    show OwnOut p e s below 16 128 _ (T2.setTop (mkF m 48 #[.val (.int x0), .val (.int x1), .val (.int x2), .val (.long x3), .second, .val (.long x5), .second, .val (.long x7), .second, .unset, .unset, .unset, .unset] [(.long (12493873661 : Int64)), (.long o2)]))
    refine OwnOut.go (fun t k => XS.lsub X2.here hx rfl (hb hby at_48) rfl k) ?_
    show OwnOut p e s below 16 128 _ (T2.setTop (mkF m 49 #[.val (.int x0), .val (.int x1), .val (.int x2), .val (.long x3), .second, .val (.long x5), .second, .val (.long x7), .second, .unset, .unset, .unset, .unset] [(.long (o2 - (12493873661 : Int64)))]))
    refine OwnOut.go (fun t k => XS.lstore X2.here hx rfl (hb hby at_49) rfl (l' := #[.val (.int x0), .val (.int x1), .val (.int x2), .val (.long x3), .second, .val (.long x5), .second, .val (.long x7), .second, .val (.long (o2 - (12493873661 : Int64))), .second, .unset, .unset]) rfl k) ?_
    show OwnOut p e s below 16 128 _ (T2.setTop (mkF m 51 #[.val (.int x0), .val (.int x1), .val (.int x2), .val (.long x3), .second, .val (.long x5), .second, .val (.long x7), .second, .val (.long (o2 - (12493873661 : Int64))), .second, .unset, .unset] []))
    refine OwnOut.go (fun t k => XS.lload X2.here hx rfl (hb hby at_51) rfl k) ?_
    show OwnOut p e s below 16 128 _ (T2.setTop (mkF m 53 #[.val (.int x0), .val (.int x1), .val (.int x2), .val (.long x3), .second, .val (.long x5), .second, .val (.long x7), .second, .val (.long (o2 - (12493873661 : Int64))), .second, .unset, .unset] [(.long x5)]))
    refine OwnOut.go (fun t k => XS.lload X2.here hx rfl (hb hby at_53) rfl k) ?_
    show OwnOut p e s below 16 128 _ (T2.setTop (mkF m 55 #[.val (.int x0), .val (.int x1), .val (.int x2), .val (.long x3), .second, .val (.long x5), .second, .val (.long x7), .second, .val (.long (o2 - (12493873661 : Int64))), .second, .unset, .unset] [(.long x7), (.long x5)]))
    obtain ⟨o3, ho3, hr⟩ := Option.bind_eq_some_iff.mp hr
    obtain ⟨r3, T3, L3, X3', hQ3, st3⟩ := callQ (W := 0) (rm := rx3) X2 hx hZ (y := (⟨"java/lang/Math", "max", "(JJ)J"⟩ : MethodName)) hown (hw _ (List.mem_of_getElem? (i := 15) rfl)) (hw _ (List.mem_of_getElem? (i := 16) rfl)) (hw _ (List.mem_of_getElem? (i := 12) rfl)) (hw _ (List.mem_of_getElem? (i := 17) rfl)) (by decide) (rm3 l Z a0 hw [] x5 x7 hA o3 ho3 ) (by decide) (by decide) (by decide) (by decide) e2 (g := (mkF m 55 #[.val (.int x0), .val (.int x1), .val (.int x2), .val (.long x3), .second, .val (.long x5), .second, .val (.long x7), .second, .val (.long (o2 - (12493873661 : Int64))), .second, .unset, .unset] [(.long x7), (.long x5)])) rfl (by rw [hml]; rfl) (argsL := [(.long x5), (.long x7)]) (rest := []) (lenOf pd3 rfl) rfl (by show 2 * 0 + _ ≤ _; exact Nat.le_of_eq rfl) (hb hby at_55)
    obtain ⟨rfl, e3, rfl⟩ := hQ3
    rw [List.append_nil] at X3'
    have X3 : Stand p l e room_1 s m args below meth c T3 _ 0 0 := X3'
    refine OwnOut.go (fun t k => st3 _ k) ?_
    show OwnOut p e s below 16 128 _ (T3.setTop (mkF m 58 #[.val (.int x0), .val (.int x1), .val (.int x2), .val (.long x3), .second, .val (.long x5), .second, .val (.long x7), .second, .val (.long (o2 - (12493873661 : Int64))), .second, .unset, .unset] [(.long o3)]))
    refine OwnOut.go (fun t k => X3.ldc2Long hx hown (mvT hZ (hw _ (List.mem_of_getElem? (i := 18) rfl))) (g := (mkF m 58 #[.val (.int x0), .val (.int x1), .val (.int x2), .val (.long x3), .second, .val (.long x5), .second, .val (.long x7), .second, .val (.long (o2 - (12493873661 : Int64))), .second, .unset, .unset] [(.long o3)])) rfl (hb hby at_58) _ k) ?_
    show OwnOut p e s below 16 128 _ (T3.setTop (mkF m 61 #[.val (.int x0), .val (.int x1), .val (.int x2), .val (.long x3), .second, .val (.long x5), .second, .val (.long x7), .second, .val (.long (o2 - (12493873661 : Int64))), .second, .unset, .unset] [(.long (12493873660 : Int64)), (.long o3)]))
    refine OwnOut.go (fun t k => XS.lsub X3.here hx rfl (hb hby at_61) rfl k) ?_
    show OwnOut p e s below 16 128 _ (T3.setTop (mkF m 62 #[.val (.int x0), .val (.int x1), .val (.int x2), .val (.long x3), .second, .val (.long x5), .second, .val (.long x7), .second, .val (.long (o2 - (12493873661 : Int64))), .second, .unset, .unset] [(.long (o3 - (12493873660 : Int64)))]))
    refine OwnOut.go (fun t k => XS.lstore X3.here hx rfl (hb hby at_62) rfl (l' := #[.val (.int x0), .val (.int x1), .val (.int x2), .val (.long x3), .second, .val (.long x5), .second, .val (.long x7), .second, .val (.long (o2 - (12493873661 : Int64))), .second, .val (.long (o3 - (12493873660 : Int64))), .second]) rfl k) ?_
    show OwnOut p e s below 16 128 _ (T3.setTop (mkF m 64 #[.val (.int x0), .val (.int x1), .val (.int x2), .val (.long x3), .second, .val (.long x5), .second, .val (.long x7), .second, .val (.long (o2 - (12493873661 : Int64))), .second, .val (.long (o3 - (12493873660 : Int64))), .second] []))
    refine OwnOut.go (fun t k => XS.iloadN X3.here hx rfl (hb hby at_64) rfl k) ?_
    show OwnOut p e s below 16 128 _ (T3.setTop (mkF m 65 #[.val (.int x0), .val (.int x1), .val (.int x2), .val (.long x3), .second, .val (.long x5), .second, .val (.long x7), .second, .val (.long (o2 - (12493873661 : Int64))), .second, .val (.long (o3 - (12493873660 : Int64))), .second] [(.int x2)]))
    refine OwnOut.go (fun t k => XS.i2l X3.here hx rfl (hb hby at_65) rfl k) ?_
    show OwnOut p e s below 16 128 _ (T3.setTop (mkF m 66 #[.val (.int x0), .val (.int x1), .val (.int x2), .val (.long x3), .second, .val (.long x5), .second, .val (.long x7), .second, .val (.long (o2 - (12493873661 : Int64))), .second, .val (.long (o3 - (12493873660 : Int64))), .second] [(.long (x2.toInt64))]))
    refine OwnOut.go (fun t k => XS.lload X3.here hx rfl (hb hby at_66) rfl k) ?_
    show OwnOut p e s below 16 128 _ (T3.setTop (mkF m 68 #[.val (.int x0), .val (.int x1), .val (.int x2), .val (.long x3), .second, .val (.long x5), .second, .val (.long x7), .second, .val (.long (o2 - (12493873661 : Int64))), .second, .val (.long (o3 - (12493873660 : Int64))), .second] [(.long (o2 - (12493873661 : Int64))), (.long (x2.toInt64))]))
    refine OwnOut.go (fun t k => XS.lloadN X3.here hx rfl (hb hby at_68) rfl k) ?_
    show OwnOut p e s below 16 128 _ (T3.setTop (mkF m 69 #[.val (.int x0), .val (.int x1), .val (.int x2), .val (.long x3), .second, .val (.long x5), .second, .val (.long x7), .second, .val (.long (o2 - (12493873661 : Int64))), .second, .val (.long (o3 - (12493873660 : Int64))), .second] [(.long x3), (.long (o2 - (12493873661 : Int64))), (.long (x2.toInt64))]))
    obtain ⟨o4, ho4, hr⟩ := Option.bind_eq_some_iff.mp hr
    obtain ⟨r4, T4, L4, X4', hQ4, st4⟩ := callQ (W := 2) (rm := rx4) X3 hx hZ (y := (⟨(x.cls), "floorDiv", "(JJ)J"⟩ : MethodName)) hown (hw _ (List.mem_of_getElem? (i := 19) rfl)) (hw _ (List.mem_of_getElem? (i := 20) rfl)) (hw _ (List.mem_of_getElem? (i := 21) rfl)) (hw _ (List.mem_of_getElem? (i := 22) rfl)) (by decide) (rm4 l Z a0 hw [] (o2 - (12493873661 : Int64)) x3 hA o4 ho4 ) (by decide) (by decide) (by decide) (by decide) e3 (g := (mkF m 69 #[.val (.int x0), .val (.int x1), .val (.int x2), .val (.long x3), .second, .val (.long x5), .second, .val (.long x7), .second, .val (.long (o2 - (12493873661 : Int64))), .second, .val (.long (o3 - (12493873660 : Int64))), .second] [(.long x3), (.long (o2 - (12493873661 : Int64))), (.long (x2.toInt64))])) rfl (by rw [hml]; rfl) (argsL := [(.long (o2 - (12493873661 : Int64))), (.long x3)]) (rest := [(.long (x2.toInt64))]) (lenOf pd4 rfl) rfl (by show 2 * 0 + _ ≤ _; exact Nat.le_of_eq rfl) (hb hby at_69)
    obtain ⟨rfl, e4, rfl⟩ := hQ4
    rw [List.append_nil] at X4'
    have X4 : Stand p l e room_1 s m args below meth c T4 _ 0 0 := X4'
    refine OwnOut.go (fun t k => st4 _ k) ?_
    show OwnOut p e s below 16 128 _ (T4.setTop (mkF m 72 #[.val (.int x0), .val (.int x1), .val (.int x2), .val (.long x3), .second, .val (.long x5), .second, .val (.long x7), .second, .val (.long (o2 - (12493873661 : Int64))), .second, .val (.long (o3 - (12493873660 : Int64))), .second] [(.long o4), (.long (x2.toInt64))]))
    refine OwnOut.go (fun t k => XS.lcmp X4.here hx rfl (hb hby at_72) rfl k) ?_
    show OwnOut p e s below 16 128 _ (T4.setTop (mkF m 73 #[.val (.int x0), .val (.int x1), .val (.int x2), .val (.long x3), .second, .val (.long x5), .second, .val (.long x7), .second, .val (.long (o2 - (12493873661 : Int64))), .second, .val (.long (o3 - (12493873660 : Int64))), .second] [(.int (XT.cmpL (x2.toInt64) o4))]))
    by_cases hc73 : (x2.toInt64) < o4
    · rw [if_pos hc73] at hr
      refine OwnOut.go (fun t k => XS.ifYes X4.here hx rfl (pc0 := 73) (pc' := 88) rfl (hb hby at_73) rfl (XT.ll_lt_t hc73) (by decide) (by decide) k) ?_
      show OwnOut p e s below 16 128 _ (T4.setTop (mkF m 88 #[.val (.int x0), .val (.int x1), .val (.int x2), .val (.long x3), .second, .val (.long x5), .second, .val (.long x7), .second, .val (.long (o2 - (12493873661 : Int64))), .second, .val (.long (o3 - (12493873660 : Int64))), .second] []))
      refine OwnOut.go (fun t k => XT.iconstV X4.here hx rfl (0 : Int32) (hb hby at_88) rfl k) ?_
      show OwnOut p e s below 16 128 _ (T4.setTop (mkF m 89 #[.val (.int x0), .val (.int x1), .val (.int x2), .val (.long x3), .second, .val (.long x5), .second, .val (.long x7), .second, .val (.long (o2 - (12493873661 : Int64))), .second, .val (.long (o3 - (12493873660 : Int64))), .second] [(.int (0 : Int32))]))
      cases hr
      exact outZ X4 hx hret (hb hby at_89) hlk (by decide) (by decide) ⟨rfl, N0⟩
    · rw [if_neg hc73] at hr
      refine OwnOut.go (fun t k => XS.ifNo X4.here hx rfl (hb hby at_73) rfl (XT.ll_lt_f hc73) k) ?_
      show OwnOut p e s below 16 128 _ (T4.setTop (mkF m 76 #[.val (.int x0), .val (.int x1), .val (.int x2), .val (.long x3), .second, .val (.long x5), .second, .val (.long x7), .second, .val (.long (o2 - (12493873661 : Int64))), .second, .val (.long (o3 - (12493873660 : Int64))), .second] []))
      refine OwnOut.go (fun t k => XS.iloadN X4.here hx rfl (hb hby at_76) rfl k) ?_
      show OwnOut p e s below 16 128 _ (T4.setTop (mkF m 77 #[.val (.int x0), .val (.int x1), .val (.int x2), .val (.long x3), .second, .val (.long x5), .second, .val (.long x7), .second, .val (.long (o2 - (12493873661 : Int64))), .second, .val (.long (o3 - (12493873660 : Int64))), .second] [(.int x2)]))
      refine OwnOut.go (fun t k => XS.i2l X4.here hx rfl (hb hby at_77) rfl k) ?_
      show OwnOut p e s below 16 128 _ (T4.setTop (mkF m 78 #[.val (.int x0), .val (.int x1), .val (.int x2), .val (.long x3), .second, .val (.long x5), .second, .val (.long x7), .second, .val (.long (o2 - (12493873661 : Int64))), .second, .val (.long (o3 - (12493873660 : Int64))), .second] [(.long (x2.toInt64))]))
      refine OwnOut.go (fun t k => XS.lload X4.here hx rfl (hb hby at_78) rfl k) ?_
      show OwnOut p e s below 16 128 _ (T4.setTop (mkF m 80 #[.val (.int x0), .val (.int x1), .val (.int x2), .val (.long x3), .second, .val (.long x5), .second, .val (.long x7), .second, .val (.long (o2 - (12493873661 : Int64))), .second, .val (.long (o3 - (12493873660 : Int64))), .second] [(.long (o3 - (12493873660 : Int64))), (.long (x2.toInt64))]))
      refine OwnOut.go (fun t k => XS.lloadN X4.here hx rfl (hb hby at_80) rfl k) ?_
      show OwnOut p e s below 16 128 _ (T4.setTop (mkF m 81 #[.val (.int x0), .val (.int x1), .val (.int x2), .val (.long x3), .second, .val (.long x5), .second, .val (.long x7), .second, .val (.long (o2 - (12493873661 : Int64))), .second, .val (.long (o3 - (12493873660 : Int64))), .second] [(.long x3), (.long (o3 - (12493873660 : Int64))), (.long (x2.toInt64))]))
      obtain ⟨o5, ho5, hr⟩ := Option.bind_eq_some_iff.mp hr
      obtain ⟨r5, T5, L5, X5', hQ5, st5⟩ := callQ (W := 2) (rm := rx4) X4 hx hZ (y := (⟨(x.cls), "floorDiv", "(JJ)J"⟩ : MethodName)) hown (hw _ (List.mem_of_getElem? (i := 19) rfl)) (hw _ (List.mem_of_getElem? (i := 20) rfl)) (hw _ (List.mem_of_getElem? (i := 21) rfl)) (hw _ (List.mem_of_getElem? (i := 22) rfl)) (by decide) (rm4 l Z a0 hw [] (o3 - (12493873660 : Int64)) x3 hA o5 ho5 ) (by decide) (by decide) (by decide) (by decide) e4 (g := (mkF m 81 #[.val (.int x0), .val (.int x1), .val (.int x2), .val (.long x3), .second, .val (.long x5), .second, .val (.long x7), .second, .val (.long (o2 - (12493873661 : Int64))), .second, .val (.long (o3 - (12493873660 : Int64))), .second] [(.long x3), (.long (o3 - (12493873660 : Int64))), (.long (x2.toInt64))])) rfl (by rw [hml]; rfl) (argsL := [(.long (o3 - (12493873660 : Int64))), (.long x3)]) (rest := [(.long (x2.toInt64))]) (lenOf pd4 rfl) rfl (by show 2 * 0 + _ ≤ _; exact Nat.le_of_eq rfl) (hb hby at_81)
      obtain ⟨rfl, e5, rfl⟩ := hQ5
      rw [List.append_nil] at X5'
      have X5 : Stand p l e room_1 s m args below meth c T5 _ 0 0 := X5'
      refine OwnOut.go (fun t k => st5 _ k) ?_
      show OwnOut p e s below 16 128 _ (T5.setTop (mkF m 84 #[.val (.int x0), .val (.int x1), .val (.int x2), .val (.long x3), .second, .val (.long x5), .second, .val (.long x7), .second, .val (.long (o2 - (12493873661 : Int64))), .second, .val (.long (o3 - (12493873660 : Int64))), .second] [(.long o5), (.long (x2.toInt64))]))
      refine OwnOut.go (fun t k => XS.lcmp X5.here hx rfl (hb hby at_84) rfl k) ?_
      show OwnOut p e s below 16 128 _ (T5.setTop (mkF m 85 #[.val (.int x0), .val (.int x1), .val (.int x2), .val (.long x3), .second, .val (.long x5), .second, .val (.long x7), .second, .val (.long (o2 - (12493873661 : Int64))), .second, .val (.long (o3 - (12493873660 : Int64))), .second] [(.int (XT.cmpL (x2.toInt64) o5))]))
      by_cases hc85 : o5 < (x2.toInt64)
      · rw [if_pos hc85] at hr
        refine OwnOut.go (fun t k => XS.ifNo X5.here hx rfl (hb hby at_85) rfl (XT.ll_le_f hc85) k) ?_
        show OwnOut p e s below 16 128 _ (T5.setTop (mkF m 88 #[.val (.int x0), .val (.int x1), .val (.int x2), .val (.long x3), .second, .val (.long x5), .second, .val (.long x7), .second, .val (.long (o2 - (12493873661 : Int64))), .second, .val (.long (o3 - (12493873660 : Int64))), .second] []))
        refine OwnOut.go (fun t k => XT.iconstV X5.here hx rfl (0 : Int32) (hb hby at_88) rfl k) ?_
        show OwnOut p e s below 16 128 _ (T5.setTop (mkF m 89 #[.val (.int x0), .val (.int x1), .val (.int x2), .val (.long x3), .second, .val (.long x5), .second, .val (.long x7), .second, .val (.long (o2 - (12493873661 : Int64))), .second, .val (.long (o3 - (12493873660 : Int64))), .second] [(.int (0 : Int32))]))
        cases hr
        exact outZ X5 hx hret (hb hby at_89) hlk (by decide) (by decide) ⟨rfl, N0⟩
      · rw [if_neg hc85] at hr
        refine OwnOut.go (fun t k => XS.ifYes X5.here hx rfl (pc0 := 85) (pc' := 90) rfl (hb hby at_85) rfl (XT.ll_le_t hc85) (by decide) (by decide) k) ?_
        show OwnOut p e s below 16 128 _ (T5.setTop (mkF m 90 #[.val (.int x0), .val (.int x1), .val (.int x2), .val (.long x3), .second, .val (.long x5), .second, .val (.long x7), .second, .val (.long (o2 - (12493873661 : Int64))), .second, .val (.long (o3 - (12493873660 : Int64))), .second] []))
        refine OwnOut.go (fun t k => XS.iloadN X5.here hx rfl (hb hby at_90) rfl k) ?_
        show OwnOut p e s below 16 128 _ (T5.setTop (mkF m 91 #[.val (.int x0), .val (.int x1), .val (.int x2), .val (.long x3), .second, .val (.long x5), .second, .val (.long x7), .second, .val (.long (o2 - (12493873661 : Int64))), .second, .val (.long (o3 - (12493873660 : Int64))), .second] [(.int x1)]))
        refine OwnOut.go (fun t k => XS.iloadN X5.here hx rfl (hb hby at_91) rfl k) ?_
        show OwnOut p e s below 16 128 _ (T5.setTop (mkF m 92 #[.val (.int x0), .val (.int x1), .val (.int x2), .val (.long x3), .second, .val (.long x5), .second, .val (.long x7), .second, .val (.long (o2 - (12493873661 : Int64))), .second, .val (.long (o3 - (12493873660 : Int64))), .second] [(.int x2), (.int x1)]))
        obtain ⟨o6, ho6, hr⟩ := Option.bind_eq_some_iff.mp hr
        obtain ⟨r6, T6, L6, X6', hQ6, st6⟩ := callQ (W := 0) (rm := rx5) X5 hx hZ (y := (⟨(x.cls), "exactInWindow", "(II)Z"⟩ : MethodName)) hown (hw _ (List.mem_of_getElem? (i := 23) rfl)) (hw _ (List.mem_of_getElem? (i := 24) rfl)) (hw _ (List.mem_of_getElem? (i := 21) rfl)) (hw _ (List.mem_of_getElem? (i := 25) rfl)) (by decide) (rm5 l Z a0 hw [] x1 x2 hA n0 o6 ho6 O0) (by decide) (by decide) (by decide) (by decide) e5 (g := (mkF m 92 #[.val (.int x0), .val (.int x1), .val (.int x2), .val (.long x3), .second, .val (.long x5), .second, .val (.long x7), .second, .val (.long (o2 - (12493873661 : Int64))), .second, .val (.long (o3 - (12493873660 : Int64))), .second] [(.int x2), (.int x1)])) rfl (by rw [hml]; rfl) (argsL := [(.int x1), (.int x2)]) (rest := []) (lenOf pd5 rfl) rfl (by show 2 * 0 + _ ≤ _; exact Nat.le_of_eq rfl) (hb hby at_92)
        obtain ⟨rfl, Nq6, Kq6⟩ := hQ6
        have X6 : Stand p l e room_1 s m args below meth c T6 _ 1 19 := X6'
        have N_6 := Fr.app N0 Nq6
        have O_6 := O0.keep Kq6 all0
        have K_6 := K0.trans Kq6 all0
        refine OwnOut.go (fun t k => st6 _ k) ?_
        show OwnOut p e s below 16 128 _ (T6.setTop (mkF m 95 #[.val (.int x0), .val (.int x1), .val (.int x2), .val (.long x3), .second, .val (.long x5), .second, .val (.long x7), .second, .val (.long (o2 - (12493873661 : Int64))), .second, .val (.long (o3 - (12493873660 : Int64))), .second] [(.int o6)]))
        cases hr
        exact outZ X6 hx hret (hb hby at_95) hlk (by decide) (by decide) ⟨rfl, N_6⟩
def f0_30 (x1 : Int32) (x2 : Int32) (x3 : Int64) (x5 : Int64) : Option (Int32) := (f0_38 x1 x2 x3 x5 ((x1.toInt64) * (30102999567 : Int64)))
set_option maxRecDepth 65536 in
set_option maxHeartbeats 40000000 in
theorem w0_30 {p : Program} {l : Launch} {e : Env} {s : State} {m : MethodId} {args : Array Value} {below : List Frame} {meth : Method} {c : Code} {Z : State} {a0 : Array Value} {h0 : Heap} {n0 : Nat} (C : Cx0 Z a0 p s m meth c) :
    ∀ (T : State) (locs : List Loc) (hA : Heap) (x0 : Int32) (x1 : Int32) (x2 : Int32) (x3 : Int64) (x5 : Int64) (o : Int32), f0_30 x1 x2 x3 x5 = some o → Stand p l e room_1 s m args below meth c T locs 0 0 → T.heap = hA → Fr n0 locs → Old Z n0 hA → Keep h0 hA [] →  OwnOut p e s below 16 128 (Q0 Z default h0 n0 o) (T.setTop (mkF m 30 #[.val (.int x0), .val (.int x1), .val (.int x2), .val (.long x3), .second, .val (.long x5), .second, .unset, .unset, .unset, .unset, .unset, .unset] [])) := by
    obtain ⟨hx, hZ, hw, hby, hml, hown, hret, hlk, hnm⟩ := C
    intro T locs hA x0 x1 x2 x3 x5 o hr X0 e0 N0 O0 K0
    rw [f0_30] at hr
    refine OwnOut.go (fun t k => XS.iloadN X0.here hx rfl (hb hby at_30) rfl k) ?_
    show OwnOut p e s below 16 128 _ (T.setTop (mkF m 31 #[.val (.int x0), .val (.int x1), .val (.int x2), .val (.long x3), .second, .val (.long x5), .second, .unset, .unset, .unset, .unset, .unset, .unset] [(.int x1)]))
    refine OwnOut.go (fun t k => XS.i2l X0.here hx rfl (hb hby at_31) rfl k) ?_
    show OwnOut p e s below 16 128 _ (T.setTop (mkF m 32 #[.val (.int x0), .val (.int x1), .val (.int x2), .val (.long x3), .second, .val (.long x5), .second, .unset, .unset, .unset, .unset, .unset, .unset] [(.long (x1.toInt64))]))
    refine OwnOut.go (fun t k => X0.ldc2Long hx hown (mvT hZ (hw _ (List.mem_of_getElem? (i := 9) rfl))) (g := (mkF m 32 #[.val (.int x0), .val (.int x1), .val (.int x2), .val (.long x3), .second, .val (.long x5), .second, .unset, .unset, .unset, .unset, .unset, .unset] [(.long (x1.toInt64))])) rfl (hb hby at_32) _ k) ?_
    show OwnOut p e s below 16 128 _ (T.setTop (mkF m 35 #[.val (.int x0), .val (.int x1), .val (.int x2), .val (.long x3), .second, .val (.long x5), .second, .unset, .unset, .unset, .unset, .unset, .unset] [(.long (30102999567 : Int64)), (.long (x1.toInt64))]))
    refine OwnOut.go (fun t k => XS.lmul X0.here hx rfl (hb hby at_35) rfl k) ?_
    show OwnOut p e s below 16 128 _ (T.setTop (mkF m 36 #[.val (.int x0), .val (.int x1), .val (.int x2), .val (.long x3), .second, .val (.long x5), .second, .unset, .unset, .unset, .unset, .unset, .unset] [(.long ((x1.toInt64) * (30102999567 : Int64)))]))
    refine OwnOut.go (fun t k => XS.lstore X0.here hx rfl (hb hby at_36) rfl (l' := #[.val (.int x0), .val (.int x1), .val (.int x2), .val (.long x3), .second, .val (.long x5), .second, .val (.long ((x1.toInt64) * (30102999567 : Int64))), .second, .unset, .unset, .unset, .unset]) rfl k) ?_
    show OwnOut p e s below 16 128 _ (T.setTop (mkF m 38 #[.val (.int x0), .val (.int x1), .val (.int x2), .val (.long x3), .second, .val (.long x5), .second, .val (.long ((x1.toInt64) * (30102999567 : Int64))), .second, .unset, .unset, .unset, .unset] []))
    exact w0_38 ⟨hx, hZ, hw, hby, hml, hown, hret, hlk, hnm⟩  _ _ _ x0 x1 x2 x3 x5 ((x1.toInt64) * (30102999567 : Int64)) _ hr X0 e0 N0 O0 K0
def f0_13 (x1 : Int32) : Option (Int32) := ((f1 x1).bind fun o1 => (f0_30 x1 o1 (100000000000 : Int64) ((x1.toInt64) * (30102999566 : Int64))))
set_option maxRecDepth 65536 in
set_option maxHeartbeats 40000000 in
theorem w0_13 {p : Program} {l : Launch} {e : Env} {s : State} {m : MethodId} {args : Array Value} {below : List Frame} {meth : Method} {c : Code} {Z : State} {a0 : Array Value} {h0 : Heap} {n0 : Nat} (C : Cx0 Z a0 p s m meth c) :
    ∀ (T : State) (locs : List Loc) (hA : Heap) (x0 : Int32) (x1 : Int32) (o : Int32), f0_13 x1 = some o → Stand p l e room_1 s m args below meth c T locs 0 0 → T.heap = hA → Fr n0 locs → Old Z n0 hA → Keep h0 hA [] →  OwnOut p e s below 16 128 (Q0 Z default h0 n0 o) (T.setTop (mkF m 13 #[.val (.int x0), .val (.int x1), .unset, .unset, .unset, .unset, .unset, .unset, .unset, .unset, .unset, .unset, .unset] [])) := by
    obtain ⟨hx, hZ, hw, hby, hml, hown, hret, hlk, hnm⟩ := C
    intro T locs hA x0 x1 o hr X0 e0 N0 O0 K0
    rw [f0_13] at hr
    refine OwnOut.go (fun t k => XS.iloadN X0.here hx rfl (hb hby at_13) rfl k) ?_
    show OwnOut p e s below 16 128 _ (T.setTop (mkF m 14 #[.val (.int x0), .val (.int x1), .unset, .unset, .unset, .unset, .unset, .unset, .unset, .unset, .unset, .unset, .unset] [(.int x1)]))
    obtain ⟨o1, ho1, hr⟩ := Option.bind_eq_some_iff.mp hr
    obtain ⟨r1, T1, L1, X1', hQ1, st1⟩ := callQ (W := 0) (rm := rx1) X0 hx hZ (y := (⟨(site_14.cls), "floorLog10ThreeQuartersPow2", "(I)I"⟩ : MethodName)) hown (hw _ (List.mem_of_getElem? (i := 1) rfl)) (hw _ (List.mem_of_getElem? (i := 2) rfl)) (hw _ (List.mem_of_getElem? (i := 3) rfl)) (hw _ (List.mem_of_getElem? (i := 4) rfl)) (by decide) (rm1 l Z a0 hw [] x1 hA o1 ho1 ) (by decide) (by decide) (by decide) (by decide) e0 (g := (mkF m 14 #[.val (.int x0), .val (.int x1), .unset, .unset, .unset, .unset, .unset, .unset, .unset, .unset, .unset, .unset, .unset] [(.int x1)])) rfl (by rw [hml]; rfl) (argsL := [(.int x1)]) (rest := []) (lenOf pd1 rfl) rfl (by show 2 * 0 + _ ≤ _; exact Nat.le_of_eq rfl) (hb hby at_14)
    obtain ⟨rfl, e1, rfl⟩ := hQ1
    rw [List.append_nil] at X1'
    have X1 : Stand p l e room_1 s m args below meth c T1 _ 0 0 := X1'
    refine OwnOut.go (fun t k => st1 _ k) ?_
    show OwnOut p e s below 16 128 _ (T1.setTop (mkF m 17 #[.val (.int x0), .val (.int x1), .unset, .unset, .unset, .unset, .unset, .unset, .unset, .unset, .unset, .unset, .unset] [(.int o1)]))
    refine OwnOut.go (fun t k => XS.istoreN X1.here hx rfl (hb hby at_17) rfl (l' := #[.val (.int x0), .val (.int x1), .val (.int o1), .unset, .unset, .unset, .unset, .unset, .unset, .unset, .unset, .unset, .unset]) rfl k) ?_
    show OwnOut p e s below 16 128 _ (T1.setTop (mkF m 18 #[.val (.int x0), .val (.int x1), .val (.int o1), .unset, .unset, .unset, .unset, .unset, .unset, .unset, .unset, .unset, .unset] []))
    refine OwnOut.go (fun t k => X1.ldc2Long hx hown (mvT hZ (hw _ (List.mem_of_getElem? (i := 7) rfl))) (g := (mkF m 18 #[.val (.int x0), .val (.int x1), .val (.int o1), .unset, .unset, .unset, .unset, .unset, .unset, .unset, .unset, .unset, .unset] [])) rfl (hb hby at_18) _ k) ?_
    show OwnOut p e s below 16 128 _ (T1.setTop (mkF m 21 #[.val (.int x0), .val (.int x1), .val (.int o1), .unset, .unset, .unset, .unset, .unset, .unset, .unset, .unset, .unset, .unset] [(.long (100000000000 : Int64))]))
    refine OwnOut.go (fun t k => XS.lstoreN X1.here hx rfl (hb hby at_21) rfl (l' := #[.val (.int x0), .val (.int x1), .val (.int o1), .val (.long (100000000000 : Int64)), .second, .unset, .unset, .unset, .unset, .unset, .unset, .unset, .unset]) rfl k) ?_
    show OwnOut p e s below 16 128 _ (T1.setTop (mkF m 22 #[.val (.int x0), .val (.int x1), .val (.int o1), .val (.long (100000000000 : Int64)), .second, .unset, .unset, .unset, .unset, .unset, .unset, .unset, .unset] []))
    refine OwnOut.go (fun t k => XS.iloadN X1.here hx rfl (hb hby at_22) rfl k) ?_
    show OwnOut p e s below 16 128 _ (T1.setTop (mkF m 23 #[.val (.int x0), .val (.int x1), .val (.int o1), .val (.long (100000000000 : Int64)), .second, .unset, .unset, .unset, .unset, .unset, .unset, .unset, .unset] [(.int x1)]))
    refine OwnOut.go (fun t k => XS.i2l X1.here hx rfl (hb hby at_23) rfl k) ?_
    show OwnOut p e s below 16 128 _ (T1.setTop (mkF m 24 #[.val (.int x0), .val (.int x1), .val (.int o1), .val (.long (100000000000 : Int64)), .second, .unset, .unset, .unset, .unset, .unset, .unset, .unset, .unset] [(.long (x1.toInt64))]))
    refine OwnOut.go (fun t k => X1.ldc2Long hx hown (mvT hZ (hw _ (List.mem_of_getElem? (i := 8) rfl))) (g := (mkF m 24 #[.val (.int x0), .val (.int x1), .val (.int o1), .val (.long (100000000000 : Int64)), .second, .unset, .unset, .unset, .unset, .unset, .unset, .unset, .unset] [(.long (x1.toInt64))])) rfl (hb hby at_24) _ k) ?_
    show OwnOut p e s below 16 128 _ (T1.setTop (mkF m 27 #[.val (.int x0), .val (.int x1), .val (.int o1), .val (.long (100000000000 : Int64)), .second, .unset, .unset, .unset, .unset, .unset, .unset, .unset, .unset] [(.long (30102999566 : Int64)), (.long (x1.toInt64))]))
    refine OwnOut.go (fun t k => XS.lmul X1.here hx rfl (hb hby at_27) rfl k) ?_
    show OwnOut p e s below 16 128 _ (T1.setTop (mkF m 28 #[.val (.int x0), .val (.int x1), .val (.int o1), .val (.long (100000000000 : Int64)), .second, .unset, .unset, .unset, .unset, .unset, .unset, .unset, .unset] [(.long ((x1.toInt64) * (30102999566 : Int64)))]))
    refine OwnOut.go (fun t k => XS.lstore X1.here hx rfl (hb hby at_28) rfl (l' := #[.val (.int x0), .val (.int x1), .val (.int o1), .val (.long (100000000000 : Int64)), .second, .val (.long ((x1.toInt64) * (30102999566 : Int64))), .second, .unset, .unset, .unset, .unset, .unset, .unset]) rfl k) ?_
    show OwnOut p e s below 16 128 _ (T1.setTop (mkF m 30 #[.val (.int x0), .val (.int x1), .val (.int o1), .val (.long (100000000000 : Int64)), .second, .val (.long ((x1.toInt64) * (30102999566 : Int64))), .second, .unset, .unset, .unset, .unset, .unset, .unset] []))
    exact w0_30 ⟨hx, hZ, hw, hby, hml, hown, hret, hlk, hnm⟩  _ _ _ x0 x1 o1 (100000000000 : Int64) ((x1.toInt64) * (30102999566 : Int64)) _ hr X1 e1 N0 O0 K0
def f0 (x0 : Int32) : Option (Int32) := (f0_13 (((x0 &&& (2147483647 : Int32)) % (2401 : Int32)) - (1200 : Int32)))
set_option maxRecDepth 65536 in
set_option maxHeartbeats 40000000 in
theorem w0_0 {p : Program} {l : Launch} {e : Env} {s : State} {m : MethodId} {args : Array Value} {below : List Frame} {meth : Method} {c : Code} {Z : State} {a0 : Array Value} {h0 : Heap} {n0 : Nat} (C : Cx0 Z a0 p s m meth c) :
    ∀ (T : State) (locs : List Loc) (hA : Heap) (x0 : Int32) (o : Int32), f0 x0 = some o → Stand p l e room_1 s m args below meth c T locs 0 0 → T.heap = hA → Fr n0 locs → Old Z n0 hA → Keep h0 hA [] →  OwnOut p e s below 16 128 (Q0 Z default h0 n0 o) (T.setTop (mkF m 0 #[.val (.int x0), .unset, .unset, .unset, .unset, .unset, .unset, .unset, .unset, .unset, .unset, .unset, .unset] [])) := by
    obtain ⟨hx, hZ, hw, hby, hml, hown, hret, hlk, hnm⟩ := C
    intro T locs hA x0 o hr X0 e0 N0 O0 K0
    rw [f0] at hr
    refine OwnOut.go (fun t k => XS.iloadN X0.here hx rfl (hb hby at_0) rfl k) ?_
    show OwnOut p e s below 16 128 _ (T.setTop (mkF m 1 #[.val (.int x0), .unset, .unset, .unset, .unset, .unset, .unset, .unset, .unset, .unset, .unset, .unset, .unset] [(.int x0)]))
    refine OwnOut.go (fun t k => X0.ldcInt hx hown (mvT hZ (hw _ (List.mem_of_getElem? (i := 0) rfl))) (g := (mkF m 1 #[.val (.int x0), .unset, .unset, .unset, .unset, .unset, .unset, .unset, .unset, .unset, .unset, .unset, .unset] [(.int x0)])) rfl (hb hby at_1) _ k) ?_
    show OwnOut p e s below 16 128 _ (T.setTop (mkF m 3 #[.val (.int x0), .unset, .unset, .unset, .unset, .unset, .unset, .unset, .unset, .unset, .unset, .unset, .unset] [(.int (2147483647 : Int32)), (.int x0)]))
    refine OwnOut.go (fun t k => XS.iand X0.here hx rfl (hb hby at_3) rfl k) ?_
    show OwnOut p e s below 16 128 _ (T.setTop (mkF m 4 #[.val (.int x0), .unset, .unset, .unset, .unset, .unset, .unset, .unset, .unset, .unset, .unset, .unset, .unset] [(.int (x0 &&& (2147483647 : Int32)))]))
    refine OwnOut.go (fun t k => XT.sipushV X0.here hx rfl (2401 : Int32) (hb hby at_4) rfl k) ?_
    show OwnOut p e s below 16 128 _ (T.setTop (mkF m 7 #[.val (.int x0), .unset, .unset, .unset, .unset, .unset, .unset, .unset, .unset, .unset, .unset, .unset, .unset] [(.int (2401 : Int32)), (.int (x0 &&& (2147483647 : Int32)))]))
    refine OwnOut.go (fun t k => iremM X0 hx rfl (hb hby at_7) rfl (by decide) k) ?_
    show OwnOut p e s below 16 128 _ (T.setTop (mkF m 8 #[.val (.int x0), .unset, .unset, .unset, .unset, .unset, .unset, .unset, .unset, .unset, .unset, .unset, .unset] [(.int ((x0 &&& (2147483647 : Int32)) % (2401 : Int32)))]))
    refine OwnOut.go (fun t k => XT.sipushV X0.here hx rfl (1200 : Int32) (hb hby at_8) rfl k) ?_
    show OwnOut p e s below 16 128 _ (T.setTop (mkF m 11 #[.val (.int x0), .unset, .unset, .unset, .unset, .unset, .unset, .unset, .unset, .unset, .unset, .unset, .unset] [(.int (1200 : Int32)), (.int ((x0 &&& (2147483647 : Int32)) % (2401 : Int32)))]))
    refine OwnOut.go (fun t k => XS.isub X0.here hx rfl (hb hby at_11) rfl k) ?_
    show OwnOut p e s below 16 128 _ (T.setTop (mkF m 12 #[.val (.int x0), .unset, .unset, .unset, .unset, .unset, .unset, .unset, .unset, .unset, .unset, .unset, .unset] [(.int (((x0 &&& (2147483647 : Int32)) % (2401 : Int32)) - (1200 : Int32)))]))
    refine OwnOut.go (fun t k => XS.istoreN X0.here hx rfl (hb hby at_12) rfl (l' := #[.val (.int x0), .val (.int (((x0 &&& (2147483647 : Int32)) % (2401 : Int32)) - (1200 : Int32))), .unset, .unset, .unset, .unset, .unset, .unset, .unset, .unset, .unset, .unset, .unset]) rfl k) ?_
    show OwnOut p e s below 16 128 _ (T.setTop (mkF m 13 #[.val (.int x0), .val (.int (((x0 &&& (2147483647 : Int32)) % (2401 : Int32)) - (1200 : Int32))), .unset, .unset, .unset, .unset, .unset, .unset, .unset, .unset, .unset, .unset, .unset] []))
    exact w0_13 ⟨hx, hZ, hw, hby, hml, hown, hret, hlk, hnm⟩  _ _ _ x0 (((x0 &&& (2147483647 : Int32)) % (2401 : Int32)) - (1200 : Int32)) _ hr X0 e0 N0 O0 K0
set_option maxRecDepth 65536 in
set_option maxHeartbeats 40000000 in
theorem rm0 (l : Launch) (Z : State) (a0 : Array Value) (hw : ∀ d ∈ tables_1, d.before a0 Z = true) (ws : List Jvm.Cond) (x0 : Int32) (h0 : Heap) (n0 : Nat) (o : Int32) (hr : f0 x0 = some o) (O0 : Old Z n0 h0) :
    MetFree l x (head1 (Jvm.Cond.code x code maxLocals ret :: ws) room_1) (fun a U => a = #[(.int x0)] ∧ Z.Warmed39 U.vm ∧ U.heap = h0) (fun _ _ _ _ _ => True) (fun _ U o' U' => ∃ v L, o' = .returned v ∧ Q0 Z x0 h0 n0 o v U'.heap L ∧ FrameEnd U o' U' L 16 128) := by
  refine MetFree.of_bodySF (plainFor_of_name pn0) hisR ?_
  intro p e s m args below meth c s₁ Bd hml0 hP hK
  obtain ⟨rfl, hZ, hh⟩ := hP
  have X0 : Stand p l e room_1 s m #[(.int x0)] below meth c s₁ [] 0 0 := Stand.of_body Bd
  have e0 : s₁.heap = h0 := by rw [← hh, Bd.state]; rfl
  have hfc := findClass_of_methodNamed Bd.named
  exact OwnOut.at (ef0 m x0) (w0_0 ⟨Bd.exec, hZ, hw, Bd.bytes, hml0, hfc, Bd.returns, Bd.notSynchronized, (name_of_methodNamed Bd.named Bd.method).1⟩ _ _ _ x0 o hr X0 e0 (Fr.nil n0) O0 (Keep.refl _ _) )
theorem own_all : ∀ k : Fin 2401, f0_13 (Int32.ofNat k.val - 1200) = some 1 := by decide +kernel
theorem law_ok (a : Int32) : f0 a = some 1 := by
  have e1 : (a &&& 2147483647).toInt = a.toInt % (2 ^ 31 : Nat) := c_mask a 2147483647 31 (by decide) (by decide)
  have e2 := (c_irem (a &&& 2147483647) 2401 2401 (by decide)).1 (by omega)
  obtain ⟨k, hk⟩ : ∃ k : Fin 2401, (a &&& 2147483647) % 2401 = Int32.ofNat k.val := by
    refine ⟨⟨((a &&& 2147483647) % 2401).toInt.toNat, by omega⟩, Int32.toInt_inj.mp ?_⟩
    show _ = (Int32.ofNat _).toInt
    rw [Int32.toInt_ofNat_of_lt (by show _ < 2 ^ 31; omega)]
    exact (Int.toNat_of_nonneg (by omega)).symm
  unfold f0
  rw [hk]
  exact own_all k
set_option maxRecDepth 65536 in
set_option maxHeartbeats 40000000 in
theorem comes_1 {Post : Tables → Env → Array Value → State → Outcome → State → Prop} (hpost : ∀ tb e args s v u, (limb_1_1.after args s (.returned v) u = true ∧ limb_1_2.after args s (.returned v) u = true ∧ True) → FrameEnd s (.returned v) u (Jvm.fieldLocs frame_1_writes args s ++ Jvm.arrayLocs frame_1_arrays args s ++ Jvm.staticLocs frame_1_statics s) 16 128 → Post tb e args s (.returned v) u) :
    ArmFor flags0 classFile x code maxLocals ret World_1 tables_1 room_1 Calls_1 rest_1 Pre_1 Post := by
  intro l hfl _ _ p e ha hc hk s m args below hf hA hF happ hP
  obtain ⟨hcalls, hrest, hpre⟩ := hP
  obtain ⟨-, -, -, hnamed, -, -, -, hat⟩ := (Spec.applies_iff hf).mp happ
  obtain ⟨hg, hn⟩ := and_e (Cond.before_iff.mp (show (Jvm.Cond.and given_1 narrow_1).before args s = true from hpre))
  obtain ⟨g1, g2⟩ := and_e hg
  obtain ⟨w0, rfl⟩ : ∃ w0 : Value, args = #[w0] := by
    have hs : args.size = 1 := by simpa [Cond.value, given_1] using g1
    obtain ⟨L⟩ := args
    match L, hs with
    | [w0], _ => exact ⟨w0, rfl⟩
  have hw := fun d (hd : d ∈ tables_1) => atoms_spec (ws := Jvm.Cond.code x code maxLocals ret :: tables_1) hat d (List.mem_cons_of_mem _ hd)
  obtain ⟨i0, ei0⟩ := is_v g2
  obtain rfl : w0 = (.int i0) := Option.some.inj ei0
  obtain ⟨n, o, h1, h2, h3, _, L, rfl, ⟨rfl, N⟩, hq⟩ := rm0 l s _ hw tables_1 i0 s.heap s.heap.size 1 (law_ok i0) (Old.start s) p e ha hc hk s m _ below hf ((Spec.applies_iff_loose hf).mp happ).1 ⟨rfl, State.Warmed39.refl s, rfl⟩ trivial
  have hv : (1 : Int32) = 1 := rfl
  refine ⟨n, _, h1, h2, h3, hpost _ _ _ _ _ _ ⟨Cond.after_iff.mpr rfl, Cond.after_iff.mpr (eq_i res_at (Term.int_eval (1)) (congrArg Value.int hv)), trivial⟩ ⟨hq.1, hq.2.1, (hq.2.2.sift fun y hy => Or.inr (N y hy)).mono (by decide) (by decide)⟩⟩
theorem main_1_1 : Claimed_1_1 := comes_1 fun _ _ _ _ _ _ h hF => ⟨h.1, hF⟩
theorem main_1_2 : Claimed_1_2 := comes_1 fun _ _ _ _ _ _ h hF => ⟨h.2.1, hF⟩
end Jvm.Pilot.@@N@@
namespace Jvm.Pilot.@@N@@
open Jvm Jvm.ClassFile Sem Op Lib Jvm.Free Jvm.Stand Jvm.Pilot.@@N@@.Jvm.D
/-! MADE BY PROGRAM (witnessworld.py) out of the Statement's table words and the real class files: 12 classes; the members and pool entries that the words name. The judged class is class 1, her method 1. -/
namespace start1
open Jvm.ClassFile
def u (s : String) : CpInfo := .utf8 (stringToUtf16 s)
/-- a pool by its gaps: so many unusable entries, then the entry; so many at the end -/
def gap : Nat → List CpInfo → List CpInfo
  | 0, r => r
  | n + 1, r => .unusable :: gap n r
def poolList (es : List (Nat × CpInfo)) (last : Nat) : List CpInfo := es.foldr (fun e r => gap e.1 (e.2 :: r)) (gap last [])
def pool (es : List (Nat × CpInfo)) (last : Nat) : Array CpInfo := ⟨poolList es last⟩
def fileOf (pool : Array CpInfo) (this : Nat) (attrs : Array Attribute := #[]) (ms : Array MethodInfo := #[]) (fl : Nat := 33) (sup : Nat := 0) (ifs : Array Nat := #[]) (fds : Array FieldInfo := #[]) : ClassFile where
  minorVersion := 0
  majorVersion := 65
  constantPool := pool
  accessFlags := fl
  thisClass := this
  superClass := sup
  interfaces := ifs
  fields := fds
  methods := ms
  attributes := attrs
def plain (name : String) (sup : Option ClassId) : Class where
  name := name
  kind := .ordinary
  loader := none
  accessFlags := 33
  super := sup
  interfaces := #[]
  cf := none
  fields := #[]
  methods := #[]
  instanceTypes := #[]
  staticTypes := #[]
  resolved := #[]
  callSites := []
  init := .initialized
  statics := none
  mirror := none

def pool0 : Array CpInfo := pool [(5, u "<init>"), (0, u "()V"), (1, .class_ 10), (1, u "java/lang/Object")] 113

def k0m0 : Method := { name := "<init>", desc := "()V", sig := { parameters := [], returnType := none }, accessFlags := 1, code := none }
/-- java/lang/Object -/
def k0 : Class := { plain "java/lang/Object" none with
  accessFlags := 33
  interfaces := #[]
  cf := some (fileOf pool0 8 #[] #[{ accessFlags := 1, nameIndex := 5, descriptorIndex := 6, attributes := #[] }] 33 0 #[] #[])
  fields := #[]
  methods := #[k0m0]
  instanceTypes := #[]
  staticTypes := #[]
  resolved := Array.replicate 124 none
  statics := none }

def pool1 : Array CpInfo := pool [(2, .class_ 4), (1, u "java/lang/Object"), (0, u "<init>"), (0, u "()V"), (0, .integer 2147483647), (0, .methodref 9 10), (0, .class_ 11), (0, .nameAndType 12 13), (0, u (site_14.cls)), (0, u "floorLog10ThreeQuartersPow2"), (0, u "(I)I"), (0, .long 100000000000), (1, .long 30102999566), (1, .long 30102999567), (1, .methodref 21 22), (0, .class_ 23), (0, .nameAndType 24 25), (0, u "java/lang/Math"), (0, u "min"), (0, u "(JJ)J"), (0, .long 12493873661), (1, .methodref 21 29), (0, .nameAndType 30 25), (0, u "max"), (0, .long 12493873660), (1, .methodref 34 35), (0, .class_ 36), (0, .nameAndType 37 25), (0, u (x.cls)), (0, u "floorDiv"), (0, .methodref 34 39), (0, .nameAndType 40 41), (0, u "exactInWindow"), (0, u "(II)Z"), (0, .long 10), (1, .long 100), (1, .long 1000), (1, .long 10000), (1, .long 100000), (1, .long 1000000), (1, .long 10000000), (1, .long 100000000), (1, .long 1000000000), (1, .long 10000000000), (1, .long 1000000000000), (1, .long 10000000000000), (1, .long 100000000000000), (1, .long 1000000000000000), (1, .long 10000000000000000), (1, .long 100000000000000000), (1, .long 1000000000000000000), (1, .long 3), (3, u "law"), (0, u "(I)Z")] 5

def k1m0 : Method := { name := "<init>", desc := "()V", sig := { parameters := [], returnType := none }, accessFlags := 2, code := none }
def k1c1 : Code := { maxStack := 6, maxLocals := 13, code := code, exceptionTable := #[], attributes := #[] }
def k1m1 : Method := { name := "law", desc := "(I)Z", sig := { parameters := [.int], returnType := some .boolean }, accessFlags := 9, code := some k1c1 }
def k1c2 : Code := { maxStack := 4, maxLocals := 4, code := method_3_code, exceptionTable := #[], attributes := #[] }
def k1m2 : Method := { name := "floorDiv", desc := "(JJ)J", sig := { parameters := [.long, .long], returnType := some .long }, accessFlags := 10, code := some k1c2 }
def k1c3 : Code := { maxStack := 6, maxLocals := 7, code := method_4_code, exceptionTable := #[], attributes := #[] }
def k1m3 : Method := { name := "exactInWindow", desc := "(II)Z", sig := { parameters := [.int, .int], returnType := some .boolean }, accessFlags := 10, code := some k1c3 }
def k1 : Class := { plain (x.cls) (some 0) with
  accessFlags := 49
  interfaces := #[]
  cf := some (fileOf pool1 34 #[] #[{ accessFlags := 2, nameIndex := 5, descriptorIndex := 6, attributes := #[] }, { accessFlags := 9, nameIndex := 80, descriptorIndex := 81, attributes := #[] }, { accessFlags := 10, nameIndex := 37, descriptorIndex := 25, attributes := #[] }, { accessFlags := 10, nameIndex := 40, descriptorIndex := 41, attributes := #[] }] 49 2 #[] #[])
  fields := #[]
  methods := #[k1m0, k1m1, k1m2, k1m3]
  instanceTypes := #[]
  staticTypes := #[]
  resolved := Array.replicate 87 none
  statics := none }

def pool2 : Array CpInfo := pool [(2, .class_ 4), (1, u "java/lang/Object"), (0, u "<init>"), (0, u "()V"), (31, .class_ 40), (1, u (site_14.cls)), (17, u "floorLog10ThreeQuartersPow2"), (0, u "(I)I"), (21, u "POWERS"), (0, u ("[Ljava/lang/Object;")), (1, .class_ 86), (1, u ("java/lang/Object")), (23, .long 661971961083), (1, .long 274743187321), (35, u "MIN_DECIMAL_EXPONENT"), (0, u "I"), (2, u "MAX_DECIMAL_EXPONENT"), (1, u "MAX_LENGTH")] 15

def k2m0 : Method := { name := "<init>", desc := "()V", sig := { parameters := [], returnType := none }, accessFlags := 2, code := none }
def k2c1 : Code := { maxStack := 4, maxLocals := 1, code := prog_69_method_7_code, exceptionTable := #[], attributes := #[] }
def k2m1 : Method := { name := "floorLog10ThreeQuartersPow2", desc := "(I)I", sig := { parameters := [.int], returnType := some .int }, accessFlags := 8, code := some k2c1 }
def k2 : Class := { plain (site_14.cls) (some 0) with
  accessFlags := 49
  interfaces := #[]
  cf := some (fileOf pool2 38 #[] #[{ accessFlags := 2, nameIndex := 5, descriptorIndex := 6, attributes := #[] }, { accessFlags := 8, nameIndex := 58, descriptorIndex := 59, attributes := #[] }] 49 2 #[] #[{ accessFlags := 26, nameIndex := 148, descriptorIndex := 149, attributes := #[] }, { accessFlags := 26, nameIndex := 152, descriptorIndex := 149, attributes := #[] }, { accessFlags := 26, nameIndex := 81, descriptorIndex := 82, attributes := #[] }, { accessFlags := 26, nameIndex := 154, descriptorIndex := 149, attributes := #[] }])
  fields := #[{ name := "MIN_DECIMAL_EXPONENT", type := .int, accessFlags := 26, slot := 0, constantValue := 0 }, { name := "MAX_DECIMAL_EXPONENT", type := .int, accessFlags := 26, slot := 1, constantValue := 0 }, { name := "POWERS", type := (.array (.object ("java/lang/Object"))), accessFlags := 26, slot := 2, constantValue := 0 }, { name := "MAX_LENGTH", type := .int, accessFlags := 26, slot := 3, constantValue := 0 }]
  methods := #[k2m0, k2m1]
  instanceTypes := #[]
  staticTypes := #[.int, .int, (.array (.object ("java/lang/Object"))), .int]
  resolved := Array.replicate 170 none
  statics := none }

def pool3 : Array CpInfo := pool [(1, .class_ 2), (0, u "java/lang/Math"), (1, .class_ 6), (1, u "java/lang/Object"), (0, u "<init>"), (0, u "()V"), (89, .class_ 100), (1, u "java/lang/Math$RandomNumberGeneratorHolder"), (20, u "(JJ)J"), (50, u "negativeZeroFloatBits"), (0, u "J"), (2, u "negativeZeroDoubleBits"), (21, u "max"), (2, u "min"), (43, u "$assertionsDisabled"), (0, u "Z"), (91, u "twoToTheDoubleScaleDown"), (0, u "D"), (4, u "twoToTheDoubleScaleUp"), (9, u "E"), (3, u "PI"), (2, u "TAU"), (2, u "DEGREES_TO_RADIANS"), (0, u "RADIANS_TO_DEGREES")] 94

def k3m0 : Method := { name := "<init>", desc := "()V", sig := { parameters := [], returnType := none }, accessFlags := 2, code := none }
def k3c1 : Code := { maxStack := 4, maxLocals := 4, code := jdk_29_method_66_code, exceptionTable := #[], attributes := #[] }
def k3m1 : Method := { name := "max", desc := "(JJ)J", sig := { parameters := [.long, .long], returnType := some .long }, accessFlags := 9, code := some k3c1 }
def k3c2 : Code := { maxStack := 4, maxLocals := 4, code := jdk_29_method_70_code, exceptionTable := #[], attributes := #[] }
def k3m2 : Method := { name := "min", desc := "(JJ)J", sig := { parameters := [.long, .long], returnType := some .long }, accessFlags := 9, code := some k3c2 }
/-- java/lang/Math -/
def k3 : Class := { plain "java/lang/Math" (some 0) with
  accessFlags := 49
  interfaces := #[]
  cf := some (fileOf pool3 1 #[.nestMembers #[98]] #[{ accessFlags := 2, nameIndex := 7, descriptorIndex := 8, attributes := #[] }, { accessFlags := 9, nameIndex := 198, descriptorIndex := 121, attributes := #[] }, { accessFlags := 9, nameIndex := 201, descriptorIndex := 121, attributes := #[] }] 49 4 #[] #[{ accessFlags := 25, nameIndex := 354, descriptorIndex := 339, attributes := #[] }, { accessFlags := 25, nameIndex := 358, descriptorIndex := 339, attributes := #[] }, { accessFlags := 25, nameIndex := 361, descriptorIndex := 339, attributes := #[] }, { accessFlags := 26, nameIndex := 364, descriptorIndex := 339, attributes := #[] }, { accessFlags := 26, nameIndex := 365, descriptorIndex := 339, attributes := #[] }, { accessFlags := 26, nameIndex := 172, descriptorIndex := 173, attributes := #[] }, { accessFlags := 26, nameIndex := 176, descriptorIndex := 173, attributes := #[] }, { accessFlags := 8, nameIndex := 344, descriptorIndex := 339, attributes := #[] }, { accessFlags := 8, nameIndex := 338, descriptorIndex := 339, attributes := #[] }, { accessFlags := 4120, nameIndex := 245, descriptorIndex := 246, attributes := #[] }])
  fields := #[{ name := "E", type := .double, accessFlags := 25, slot := 0, constantValue := 0 }, { name := "PI", type := .double, accessFlags := 25, slot := 1, constantValue := 0 }, { name := "TAU", type := .double, accessFlags := 25, slot := 2, constantValue := 0 }, { name := "DEGREES_TO_RADIANS", type := .double, accessFlags := 26, slot := 3, constantValue := 0 }, { name := "RADIANS_TO_DEGREES", type := .double, accessFlags := 26, slot := 4, constantValue := 0 }, { name := "negativeZeroFloatBits", type := .long, accessFlags := 26, slot := 5, constantValue := 0 }, { name := "negativeZeroDoubleBits", type := .long, accessFlags := 26, slot := 6, constantValue := 0 }, { name := "twoToTheDoubleScaleUp", type := .double, accessFlags := 8, slot := 7, constantValue := 0 }, { name := "twoToTheDoubleScaleDown", type := .double, accessFlags := 8, slot := 8, constantValue := 0 }, { name := "$assertionsDisabled", type := .boolean, accessFlags := 4120, slot := 9, constantValue := 0 }]
  methods := #[k3m0, k3m1, k3m2]
  instanceTypes := #[]
  staticTypes := #[.double, .double, .double, .double, .double, .long, .long, .double, .double, .boolean]
  resolved := Array.replicate 460 none
  statics := none }

def pool4 : Array CpInfo := pool [(1, u "java/lang/Cloneable"), (0, .class_ 1), (0, u "java/lang/Object"), (0, .class_ 3)] 3

/-- java/lang/Cloneable -/
def k4 : Class := { plain "java/lang/Cloneable" (some 0) with
  accessFlags := 1537
  interfaces := #[]
  cf := some (fileOf pool4 2 #[] #[] 1537 4 #[] #[])
  fields := #[]
  methods := #[]
  instanceTypes := #[]
  staticTypes := #[]
  resolved := Array.replicate 8 none
  statics := none }

def pool5 : Array CpInfo := pool [(1, u "java/io/Serializable"), (0, .class_ 1), (0, u "java/lang/Object"), (0, .class_ 3)] 3

/-- java/io/Serializable -/
def k5 : Class := { plain "java/io/Serializable" (some 0) with
  accessFlags := 1537
  interfaces := #[]
  cf := some (fileOf pool5 2 #[] #[] 1537 4 #[] #[])
  fields := #[]
  methods := #[]
  instanceTypes := #[]
  staticTypes := #[]
  resolved := Array.replicate 8 none
  statics := none }

/-- the primitive byte -/
def k6 : Class := { plain "byte" none with kind := .primitive 'B', accessFlags := 0x411 }
/-- [B -/
def k7 : Class := { plain "[B" (some 0) with kind := .array 6 .byte, interfaces := #[4, 5], accessFlags := 1041 }

/-- the primitive int -/
def k8 : Class := { plain "int" none with kind := .primitive 'I', accessFlags := 0x411 }
/-- [I -/
def k9 : Class := { plain "[I" (some 0) with kind := .array 8 .int, interfaces := #[4, 5], accessFlags := 1041 }

/-- the primitive long -/
def k10 : Class := { plain "long" none with kind := .primitive 'J', accessFlags := 0x411 }
/-- [J -/
def k11 : Class := { plain "[J" (some 0) with kind := .array 10 .long, interfaces := #[4, 5], accessFlags := 1041 }

def heap : Heap := #[]
def classes : Array Class := #[k0, k1, k2, k3, k4, k5, k6, k7, k8, k9, k10, k11]
def interned : List (Array UInt16 × Addr) := []
def slotsUsed : Nat := 0
def theMethod : MethodId := ⟨1, 1⟩
def args0 : Array Value := #[.int 5]
def aboutOver (below : List Frame) : State where
  vm := { classes := classes, interned := interned.toArray }
  heap := heap
  slotsUsed := slotsUsed
  threads := #[{ frames := .invoking theMethod args0 :: below }]
def below0 : List Frame := [.native { method := ⟨0, 0⟩, args := #[] }]
def about1 : State := aboutOver below0
def p0 : Program := .bare "" "" ""
def e0 : Env := launch0.env 0 0 0
theorem w_frames : about1.frames = Frame.invoking theMethod args0 :: below0 := rfl
set_option maxRecDepth 65536 in
theorem w_args : argsFit about1.vm theMethod args0 = true := by decide +kernel
set_option maxRecDepth 65536 in
theorem w_heap : heapFits about1 = true := by decide +kernel
set_option maxRecDepth 65536 in
theorem w_runnable : about1.curStatus? = some .runnable := by decide +kernel
set_option maxRecDepth 65536 in
theorem w_alone : about1.alone = true := by decide +kernel
set_option maxRecDepth 65536 in
theorem w_named : about1.methodNamed? x = some theMethod := by decide +kernel
set_option maxRecDepth 65536 in
theorem w_hears : about1.hears theMethod below0 = true := by decide +kernel
set_option maxRecDepth 65536 in
theorem w_ripe : about1.ripe theMethod args0 below0 = true := by decide +kernel
theorem w_running : about1.status = .running := rfl
set_option maxRecDepth 65536 in
theorem w_room : about1.hasRoom e0.platform room_1 = true :=
  launch0.hasRoom_least _ room_1 (by decide +kernel) (by decide +kernel) (by decide +kernel) (by decide +kernel) (by decide +kernel) (by decide +kernel)
theorem allAtoms_all (ts : List Jvm.Cond) (a : Array Jvm.Value) (st : Jvm.State) : (allAtoms ts).before a st = ts.all (fun c => c.before a st) := by
  induction ts with
  | nil => rfl
  | cons c t ih =>
    show (Jvm.Cond.and c (allAtoms t)).before a st = _
    rw [Jvm.Cond.before_and, ih, List.all_cons]
def words1 : List Jvm.Cond := Jvm.Cond.code x code maxLocals ret :: tables_1
/-- a 'code' word, met by the world's own term for the bytes: nothing is compared byte by byte -/
theorem code_word {y : MethodName} {bytes : ByteArray} {mx : Nat} {rt : Option FieldType} {a : Array Value} {s : State} {m : MethodId} {meth : Method} {c : Code} (h1 : s.methodNamed? y = some m) (h2 : s.vm.method? m = some meth) (h3 : meth.code = some c) (h4 : c.code = bytes)
    (h5 : (c.maxLocals == mx && c.exceptionTable.isEmpty && decide (c.maxStack ≤ mostOperands) && decide (meth.sig.returnType = rt) && !meth.locks && decide (parseMethodDescriptor y.desc = some meth.sig)) = true) : (Jvm.Cond.code y bytes mx rt).before a s = true := by
  simp only [Bool.and_eq_true, beq_iff_eq, Bool.not_eq_true', decide_eq_true_eq] at h5
  obtain ⟨⟨⟨⟨⟨g1, g2⟩, g3⟩, g4⟩, g5⟩, g6⟩ := h5
  simp [Cond.before, Cond.holds, Cond.value, h1, h2, h3, h4, g1, g2, g3, g4, g5, g6]
def isCode : Jvm.Cond → Bool
  | .code _ _ _ _ => true
  | _ => false
theorem all_split {L : List Jvm.Cond} {P : Jvm.Cond → Bool} (h1 : L.all (fun c => isCode c || P c) = true) (h2 : ∀ c ∈ L.filter isCode, P c = true) : L.all P = true := by
  refine List.all_eq_true.mpr fun c hc => ?_
  have h := List.all_eq_true.mp h1 c hc
  rcases Bool.eq_false_or_eq_true (isCode c) with hi | hi
  · exact h2 c (List.mem_filter.mpr ⟨hc, hi⟩)
  · simpa [hi] using h
set_option maxRecDepth 65536 in
theorem w_c0 : (Jvm.Cond.code x code maxLocals ret).before args0 about1 = true := code_word (m := ⟨1, 1⟩) (meth := k1m1) (c := k1c1) (by decide +kernel) rfl rfl rfl (by decide +kernel)
set_option maxRecDepth 65536 in
theorem w_c1 : (Jvm.Cond.code ({ cls := (site_14.cls), name := "floorLog10ThreeQuartersPow2", desc := "(I)I" } : Jvm.MethodName) prog_69_method_7_code (1 : Nat) (Option.some Jvm.ClassFile.FieldType.int)).before args0 about1 = true := code_word (m := ⟨2, 1⟩) (meth := k2m1) (c := k2c1) (by decide +kernel) rfl rfl rfl (by decide +kernel)
set_option maxRecDepth 65536 in
theorem w_c2 : (Jvm.Cond.code ({ cls := "java/lang/Math", name := "min", desc := "(JJ)J" } : Jvm.MethodName) jdk_29_method_70_code (4 : Nat) (Option.some Jvm.ClassFile.FieldType.long)).before args0 about1 = true := code_word (m := ⟨3, 2⟩) (meth := k3m2) (c := k3c2) (by decide +kernel) rfl rfl rfl (by decide +kernel)
set_option maxRecDepth 65536 in
theorem w_c3 : (Jvm.Cond.code ({ cls := "java/lang/Math", name := "max", desc := "(JJ)J" } : Jvm.MethodName) jdk_29_method_66_code (4 : Nat) (Option.some Jvm.ClassFile.FieldType.long)).before args0 about1 = true := code_word (m := ⟨3, 1⟩) (meth := k3m1) (c := k3c1) (by decide +kernel) rfl rfl rfl (by decide +kernel)
set_option maxRecDepth 65536 in
theorem w_c4 : (Jvm.Cond.code ({ cls := (x.cls), name := "floorDiv", desc := "(JJ)J" } : Jvm.MethodName) method_3_code (4 : Nat) (Option.some Jvm.ClassFile.FieldType.long)).before args0 about1 = true := code_word (m := ⟨1, 2⟩) (meth := k1m2) (c := k1c2) (by decide +kernel) rfl rfl rfl (by decide +kernel)
set_option maxRecDepth 65536 in
theorem w_c5 : (Jvm.Cond.code ({ cls := (x.cls), name := "exactInWindow", desc := "(II)Z" } : Jvm.MethodName) method_4_code (7 : Nat) (Option.some Jvm.ClassFile.FieldType.boolean)).before args0 about1 = true := code_word (m := ⟨1, 3⟩) (meth := k1m3) (c := k1c3) (by decide +kernel) rfl rfl rfl (by decide +kernel)
def codes1 : List Jvm.Cond := [Jvm.Cond.code x code maxLocals ret, Jvm.Cond.code ({ cls := (site_14.cls), name := "floorLog10ThreeQuartersPow2", desc := "(I)I" } : Jvm.MethodName) prog_69_method_7_code (1 : Nat) (Option.some Jvm.ClassFile.FieldType.int), Jvm.Cond.code ({ cls := "java/lang/Math", name := "min", desc := "(JJ)J" } : Jvm.MethodName) jdk_29_method_70_code (4 : Nat) (Option.some Jvm.ClassFile.FieldType.long), Jvm.Cond.code ({ cls := "java/lang/Math", name := "max", desc := "(JJ)J" } : Jvm.MethodName) jdk_29_method_66_code (4 : Nat) (Option.some Jvm.ClassFile.FieldType.long), Jvm.Cond.code ({ cls := (x.cls), name := "floorDiv", desc := "(JJ)J" } : Jvm.MethodName) method_3_code (4 : Nat) (Option.some Jvm.ClassFile.FieldType.long), Jvm.Cond.code ({ cls := (x.cls), name := "exactInWindow", desc := "(II)Z" } : Jvm.MethodName) method_4_code (7 : Nat) (Option.some Jvm.ClassFile.FieldType.boolean)]
set_option maxRecDepth 65536 in
theorem codes_eq : words1.filter isCode = codes1 := rfl
theorem w_codes : ∀ c ∈ words1.filter isCode, c.before args0 about1 = true := by
  rw [codes_eq]
  intro c hc
  simp only [codes1, List.mem_cons, List.not_mem_nil, or_false] at hc
  rcases hc with rfl | rfl | rfl | rfl | rfl | rfl
  · exact w_c0
  · exact w_c1
  · exact w_c2
  · exact w_c3
  · exact w_c4
  · exact w_c5
set_option maxRecDepth 65536 in
theorem w_t1 : (words1.take 24).all (fun c => isCode c || c.before args0 about1) = true := by decide +kernel
set_option maxRecDepth 65536 in
theorem w_t2 : (words1.drop 24).all (fun c => isCode c || c.before args0 about1) = true := by decide +kernel
theorem w_tables : (allAtoms (Jvm.Cond.code x code maxLocals ret :: tables_1)).before args0 about1 = true := by
  rw [allAtoms_all]
  show words1.all (fun c => c.before args0 about1) = true
  refine all_split ?_ w_codes
  rw [← List.take_append_drop 24 words1, List.all_append, w_t1, w_t2]
  rfl
set_option maxRecDepth 65536 in
theorem w_case : (Jvm.Cond.and given_1 narrow_1).before args0 about1 = true := by decide +kernel
theorem w_applies : (headSpec (Jvm.Cond.code x code maxLocals ret :: tables_1) room_1).applies x e0.platform about1 = true :=
  (Spec.applies_iff w_frames).mpr ⟨w_running, w_runnable, w_alone, w_named, w_hears, w_ripe, w_room, w_tables⟩
theorem atStart : AtStart classFile x code maxLocals ret World_1 tables_1 room_1 Calls_1 rest_1 Pre_1 launch0 p0 e0 about1 theMethod args0 below0 :=
  ⟨lists_1, trivial, launch0.admits_env _ _ _, launch0.least_env, fairChoices_fair.cas, fairChoices_fair.clock, w_frames, w_args, w_heap, w_applies, trivial, trivial, w_case⟩
end start1
theorem witness_1 : WitnessClaimed_1 := ⟨start1.p0, start1.e0, start1.about1, start1.theMethod, start1.args0, start1.below0, start1.atStart⟩
end Jvm.Pilot.@@N@@
