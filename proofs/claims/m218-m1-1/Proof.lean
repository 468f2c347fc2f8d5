import JvmDerived
import JvmDerived.Pilot.@@N@@Statement
import JvmDerived.Pilot.@@N@@Code
set_option linter.unusedVariables false
set_option linter.unusedSimpArgs false
namespace Jvm.RoadKit
open Sem ClassFile Op Lib Jvm.Stand Jvm.Free Jvm.LawKit
section Own
variable {p : Program} {l : Launch} {e : Env} {R : Room} {s : State} {m : MethodId} {args : Array Value} {below : List Frame} {meth : Method} {c : Code} {T : State} {locs : List Loc} {cells slots : Nat} {k n : Nat} {Q : Option Value → Heap → List Loc → Prop} {W W' : State} {Z : State} {a0 : Array Value} {h : Heap}
/-- the run from W comes back, with what Q says -/
def OwnOut (p : Program) (e : Env) (s : State) (below : List Frame) (k n : Nat) (Q : Option Value → Heap → List Loc → Prop) (W : State) : Prop :=
  ∃ s₂ o, Steps p.tables e below W s₂ ∧ s₂.status = .running ∧ Ended s₂ below o ∧ ∃ v L, o = .returned v ∧ Q v s₂.heap L ∧ FrameEnd s o s₂ L k n
theorem OwnOut.go (h : ∀ t, Steps p.tables e below W' t → Steps p.tables e below W t) (H : OwnOut p e s below k n Q W') : OwnOut p e s below k n Q W := by
  obtain ⟨s₂, o, h1, h2⟩ := H
  exact ⟨s₂, o, h _ h1, h2⟩
theorem OwnOut.at {g g' : JFrame} (q : g = g') (H : OwnOut p e s below k n Q (T.setTop g')) : OwnOut p e s below k n Q (T.setTop g) := q ▸ H
theorem OwnOut.imp {Q' : Option Value → Heap → List Loc → Prop} (q : ∀ v h L, Q' v h L → Q v h L) (H : OwnOut p e s below k n Q' W) : OwnOut p e s below k n Q W := by
  obtain ⟨s₂, o, h1, h2, h3, v, L, h4, h5, h6⟩ := H
  exact ⟨s₂, o, h1, h2, h3, v, L, h4, q _ _ _ h5, h6⟩
theorem outI (X : Stand p l e R s m args below meth c T locs cells slots) (hx : p.tables.exec = Jvm.exec) {pc : Nat} {Ls : Array Slot} {z : Int32} (hret : meth.sig.returnType = some .int) (hd : decode c.code pc = .ok (.ireturn, 1)) (hlk : meth.locks = false) (hk : cells ≤ k) (hn : slots ≤ n) (q : Q (some (.int z)) T.heap locs) :
    OwnOut p e s below k n Q (T.setTop (mkF m pc Ls [.int z])) := by
  obtain ⟨fs, hr, hrun, hended, hW, hsame⟩ := X.leave (v := some (.int z)) (fun h => by rw [hret] at h; cases h) hlk
  exact ⟨_, _, X.ireturnOut hx hret rfl (Or.inl rfl) hd hr, hrun, hended, _, _, rfl, q, ⟨_, rfl⟩, hW, hsame.mono hk hn⟩
theorem outZ (X : Stand p l e R s m args below meth c T locs cells slots) (hx : p.tables.exec = Jvm.exec) {pc : Nat} {Ls : Array Slot} {z : Int32} (hret : meth.sig.returnType = some .boolean) (hd : decode c.code pc = .ok (.ireturn, 1)) (hlk : meth.locks = false) (hk : cells ≤ k) (hn : slots ≤ n) (q : Q (some (.int (z &&& 1))) T.heap locs) :
    OwnOut p e s below k n Q (T.setTop (mkF m pc Ls [.int z])) := by
  obtain ⟨fs, hr, hrun, hended, hW, hsame⟩ := X.leave (v := some (.int (z &&& 1))) (fun h => by rw [hret] at h; cases h) hlk
  exact ⟨_, _, retN X hx (t := .boolean) hret (by simp) hd hr, hrun, hended, _, _, rfl, q, ⟨_, rfl⟩, hW, hsame.mono hk hn⟩
theorem outJ (X : Stand p l e R s m args below meth c T locs cells slots) (hx : p.tables.exec = Jvm.exec) {pc : Nat} {Ls : Array Slot} {z : Int64} (hret : meth.sig.returnType = some .long) (hd : decode c.code pc = .ok (.lreturn, 1)) (hlk : meth.locks = false) (hk : cells ≤ k) (hn : slots ≤ n) (q : Q (some (.long z)) T.heap locs) :
    OwnOut p e s below k n Q (T.setTop (mkF m pc Ls [.long z])) := by
  obtain ⟨fs, hr, hrun, hended, hW, hsame⟩ := X.leave (v := some (.long z)) (fun h => by rw [hret] at h; cases h) hlk
  exact ⟨_, _, X.lreturnOut hx hret hd hr, hrun, hended, _, _, rfl, q, ⟨_, rfl⟩, hW, hsame.mono hk hn⟩
theorem outA (X : Stand p l e R s m args below meth c T locs cells slots) (hx : p.tables.exec = Jvm.exec) {pc : Nat} {Ls : Array Slot} {w : Value} {t : FieldType} (hw : w.isRef = true) (hret : meth.sig.returnType = some t) (ht : t.isReference = true) (hd : decode c.code pc = .ok (.areturn, 1)) (hlk : meth.locks = false) (hk : cells ≤ k) (hn : slots ≤ n) (q : Q (some w) T.heap locs) :
    OwnOut p e s below k n Q (T.setTop (mkF m pc Ls [w])) := by
  obtain ⟨fs, hr, hrun, hended, hW, hsame⟩ := X.leave (v := some w) (fun h => by rw [hret] at h; cases h) hlk
  exact ⟨_, _, X.areturnOut hx hw hret ht hd hr, hrun, hended, _, _, rfl, q, ⟨_, rfl⟩, hW, hsame.mono hk hn⟩
theorem outV (X : Stand p l e R s m args below meth c T locs cells slots) (hx : p.tables.exec = Jvm.exec) {pc : Nat} {Ls : Array Slot} (hret : meth.sig.returnType = none) (hd : decode c.code pc = .ok (.return_, 1)) (hlk : meth.locks = false) (hk : cells ≤ k) (hn : slots ≤ n) (q : Q none T.heap locs) :
    OwnOut p e s below k n Q (T.setTop (mkF m pc Ls [])) := by
  obtain ⟨fs, hr, hrun, hended, hW, hsame⟩ := X.leave (v := none) (fun _ => rfl) hlk
  exact ⟨_, _, X.returnOut hx hret hd hr, hrun, hended, _, _, rfl, q, ⟨_, rfl⟩, hW, hsame.mono hk hn⟩
theorem lremM {g : JFrame} {target : State} (X : Stand p l e R s m args below meth c T locs cells slots) (hx : p.tables.exec = Jvm.exec) (hg : g.method = m) {x y : Int64} {rest : List Value} (hd : decode c.code g.pc = .ok (.lrem, 1)) (hs : g.stack = .long y :: .long x :: rest) (hy : y ≠ 0)
    (hr : Steps p.tables e below (T.setTop { g with pc := g.pc + 1, stack := .long (x % y) :: rest }) target) : Steps p.tables e below (T.setTop g) target :=
  XS.lrem X.here hx hg hd hs hy (by rw [lrem_mod]; exact hr)
/-- a body that touches nothing: what it returns, the heap as it was, nothing written -/
def QP (h0 : Heap) (w : Option Value) (v : Option Value) (h : Heap) (L : List Loc) : Prop := v = w ∧ h = h0 ∧ L = []
/-- a static call of such a body -/
theorem callP (X : Stand p l e R s m args below meth c T locs cells slots) (hx : p.tables.exec = Jvm.exec) (hZ : Z.Warmed39 s.vm) {own : String} {index : Nat} {y : MethodName} {bytes : ByteArray} {maxL : Nat} {ret : Option FieldType} {rm : Room} {as' : Array Value} {w : Option Value}
    (hown : s.vm.findClass own = some m.cls) (w1 : (Cond.methodLink own index y).before a0 Z = true) (w2 : (Cond.static y).before a0 Z = true) (w3 : (Cond.initialized y.cls).before a0 Z = true) (w4 : (Cond.code y bytes maxL ret).before a0 Z = true) (hy : y.cls ≠ "java/lang/invoke/MethodHandle" ∧ y.cls ≠ "java/lang/invoke/VarHandle")
    (hM : MetFree l y (head1 [Cond.code y bytes maxL ret] rm) (fun a U => a = as' ∧ Z.Warmed39 U.vm ∧ U.heap = h) (fun _ _ _ _ _ => True) (fun _ U o U' => ∃ v L, o = .returned v ∧ QP h w v U'.heap L ∧ FrameEnd U o U' L rm.cells rm.slots))
    {W : Nat} (hf : rm.frames + 1 ≤ R.frames) (hl : W + (maxL + 11) + rm.locals ≤ R.locals) (z1 : rm.cells = 0) (z2 : rm.slots = 0) (hc : cells ≤ R.cells) (hs' : slots ≤ R.slots) (eT : T.heap = h)
    {g : JFrame} (hg : g.method = m) (hsize : g.locals.size = c.maxLocals) {argsL rest : List Value} (hlen : ∀ sig, parseMethodDescriptor y.desc = some sig → argsL.length = sig.parameters.length)
    (hstack : g.stack = argsL.reverse ++ rest) (hW : 2 * g.monitorRoom + (rest.map fun v => v.category).sum ≤ W) (hdg : decode c.code g.pc = .ok (.invokestatic index, 3)) (has : argsL.toArray = as' := by rfl) :
    ∃ T', Stand p l e R s m args below meth c T' locs cells slots ∧ T'.heap = h ∧ ∀ target, Steps p.tables e below (T'.setTop { g with pc := g.pc + 3, stack := w.toList ++ rest }) target → Steps p.tables e below (T.setTop g) target := by
  obtain ⟨v, vm₁, ⟨T', L', k', n'⟩, -, X', ⟨Lc, ⟨rfl, q2, rfl⟩, l1, y1, z3⟩, st⟩ := Jvm.LawKit.callS X hx (y := y) hown (mvT hZ w1) (mvT hZ w2) (mvT hZ w3) (mvT hZ w4) hy (backOf (W := W) hM hZ w4 w3 hf hl) hg hsize hlen hstack hW hdg (fun _ _ => ⟨has, eT, by rw [z1]; exact hc, by rw [z2]; exact hs'⟩)
  dsimp only [Pt.U, Pt.locs, Pt.cells, Pt.slots] at X' l1 y1 z3 st q2
  rw [z1] at y1; rw [z2] at z3
  rw [List.append_nil] at l1
  subst l1 y1 z3
  exact ⟨T', X', q2, st⟩
end Own
end Jvm.RoadKit
namespace Jvm.RoadKit
open Sem ClassFile Op Lib Jvm.Stand Jvm.Free Jvm.LawKit
section Own2
variable {p : Program} {l : Launch} {e : Env} {R : Room} {s : State} {m : MethodId} {args : Array Value} {below : List Frame} {meth : Method} {c : Code} {T : State} {locs : List Loc} {cells slots : Nat} {Z : State} {a0 : Array Value} {h h' : Heap} {a b : Addr} {ty : FieldType} {vs : List Value} {sl : Nat} {v : Value} {ws : List Addr}
/-- an array, by the list of what it holds -/
def Ar (Z : State) (h : Heap) (a : Addr) (ty : FieldType) (vs : List Value) : Prop := ∃ c : Cell, Arr Z h a c ty ∧ c.slots.toList = vs ∧ vs.length < 2 ^ 31
theorem Ar.lt (A : Ar Z h a ty vs) : a < h.size := by obtain ⟨c, q, -⟩ := A; exact q.lt
theorem Ar.ext (A : Ar Z h a ty vs) (E : Ext h h') : Ar Z h' a ty vs := by obtain ⟨c, q, r⟩ := A; exact ⟨c, q.ext E, r⟩
theorem Ar.other (A : Ar Z h b ty vs) (W : Wr h h' a sl v) (q : b ≠ a) : Ar Z h' b ty vs := by obtain ⟨c, r, t⟩ := A; exact ⟨c, r.other W q, t⟩
theorem Ar.keep (A : Ar Z h a ty vs) (K : Keep h h' ws) (q : a ∉ ws) : Ar Z h' a ty vs := by obtain ⟨c, r, t⟩ := A; exact ⟨c, ⟨K.2.1 a c r.1 q, r.2⟩, t⟩
theorem Ar.same (A : Ar Z h a ty vs) (W : Wr h h' a sl v) : Ar Z h' a ty (vs.set sl v) := by
  obtain ⟨c, r, t, u⟩ := A
  refine ⟨_, r.same W, ?_, by rw [List.length_set]; exact u⟩
  show (c.slots.setIfInBounds sl v).toList = _
  rw [Array.toList_setIfInBounds, t]
abbrev Ari (Z : State) (h : Heap) (a : Addr) (ty : FieldType) (xs : List Int32) : Prop := Ar Z h a ty (xs.map Value.int)
abbrev Arj (Z : State) (h : Heap) (a : Addr) (xs : List Int64) : Prop := Ar Z h a .long (xs.map Value.long)
/-- what an array's place holds -/
def ldx {α : Type} (xs : List α) (j : Int32) : Option α := if j < 0 then none else xs[j.toNatClampNeg]?
def stx {α : Type} (xs : List α) (j : Int32) (v : α) : Option (List α) := if j < 0 then none else if xs.length ≤ j.toNatClampNeg then none else some (xs.set j.toNatClampNeg v)
def nwx {α : Type} (d : α) (cap : Nat) (n : Int32) : Option (List α) := if n < 0 then none else if cap < n.toNatClampNeg then none else some (List.replicate n.toNatClampNeg d)
def lenx {α : Type} (xs : List α) : Int32 := xs.length.toInt32
theorem ldx_at {α : Type} {f : α → Value} {xs : List α} {j : Int32} {x : α} {cl : Cell} (hv : ldx xs j = some x) (q : cl.slots.toList = xs.map f) : ¬ (j < 0 ∨ cl.slots.size ≤ j.toNatClampNeg) ∧ cl.slots[j.toNatClampNeg]? = some (f x) := by
  unfold ldx at hv
  by_cases hj : j < 0
  · rw [if_pos hj] at hv; cases hv
  rw [if_neg hj] at hv
  have h1 : cl.slots[j.toNatClampNeg]? = some (f x) := by rw [← Array.getElem?_toList, q, List.getElem?_map, hv]; rfl
  refine ⟨fun z => z.elim hj fun z => ?_, h1⟩
  rw [Array.getElem?_eq_none z] at h1; cases h1
theorem stx_at {α : Type} {f : α → Value} {xs ys : List α} {j : Int32} {x : α} {cl : Cell} (hv : stx xs j x = some ys) (q : cl.slots.toList = xs.map f) : ¬ (j < 0 ∨ cl.slots.size ≤ j.toNatClampNeg) ∧ ys = xs.set j.toNatClampNeg x := by
  unfold stx at hv
  by_cases hj : j < 0
  · rw [if_pos hj] at hv; cases hv
  rw [if_neg hj] at hv
  by_cases hl : xs.length ≤ j.toNatClampNeg
  · rw [if_pos hl] at hv; cases hv
  rw [if_neg hl] at hv
  refine ⟨fun z => z.elim hj fun z => hl ?_, (Option.some.inj hv).symm⟩
  have : cl.slots.size = xs.length := by rw [← Array.length_toList, q, List.length_map]
  omega
theorem ldI (X : Stand p l e R s m args below meth c T locs cells slots) (hx : p.tables.exec = Jvm.exec) (hZ : Z.Warmed39 s.vm) (eT : T.heap = h) {xs : List Int32} (A : Ari Z h a .int xs) {j v : Int32} (hv : ldx xs j = some v) {g : JFrame} (hg : g.method = m) {rest : List Value} (hs : g.stack = .int j :: .ref a :: rest) (hd : decode c.code g.pc = .ok (.iaload, 1)) (target : State)
    (hr : Steps p.tables e below (T.setTop { g with pc := g.pc + 1, stack := .int v :: rest }) target) : Steps p.tables e below (T.setTop g) target := by
  obtain ⟨cl, A1, A2, -⟩ := A
  obtain ⟨hj, hat⟩ := ldx_at hv A2
  exact X.iaload hx (by rw [eT]; exact A1.1) (State.isArrayOf_alike hZ.alike A1.2.1) A1.2.2 hj hat hg hs hd target hr
theorem ldB (X : Stand p l e R s m args below meth c T locs cells slots) (hx : p.tables.exec = Jvm.exec) (hZ : Z.Warmed39 s.vm) (eT : T.heap = h) {xs : List Int32} (A : Ari Z h a .byte xs) {j v : Int32} (hv : ldx xs j = some v) {g : JFrame} (hg : g.method = m) {rest : List Value} (hs : g.stack = .int j :: .ref a :: rest) (hd : decode c.code g.pc = .ok (.baload, 1)) (target : State)
    (hr : Steps p.tables e below (T.setTop { g with pc := g.pc + 1, stack := .int v :: rest }) target) : Steps p.tables e below (T.setTop g) target := by
  obtain ⟨cl, A1, A2, -⟩ := A
  obtain ⟨hj, hat⟩ := ldx_at hv A2
  exact X.baloadBytes hx (by rw [eT]; exact A1.1) (State.isArrayOf_alike hZ.alike A1.2.1) A1.2.2 hj hat hg hs hd target hr
theorem ldZ (X : Stand p l e R s m args below meth c T locs cells slots) (hx : p.tables.exec = Jvm.exec) (hZ : Z.Warmed39 s.vm) (eT : T.heap = h) {xs : List Int32} (A : Ari Z h a .boolean xs) {j v : Int32} (hv : ldx xs j = some v) {g : JFrame} (hg : g.method = m) {rest : List Value} (hs : g.stack = .int j :: .ref a :: rest) (hd : decode c.code g.pc = .ok (.baload, 1)) (target : State)
    (hr : Steps p.tables e below (T.setTop { g with pc := g.pc + 1, stack := .int v :: rest }) target) : Steps p.tables e below (T.setTop g) target := by
  obtain ⟨cl, A1, A2, -⟩ := A
  obtain ⟨hj, hat⟩ := ldx_at hv A2
  exact X.baloadBooleans hx (by rw [eT]; exact A1.1) (State.isArrayOf_alike hZ.alike A1.2.1) A1.2.2 hj hat hg hs hd target hr
theorem ldJ (X : Stand p l e R s m args below meth c T locs cells slots) (hx : p.tables.exec = Jvm.exec) (hZ : Z.Warmed39 s.vm) (eT : T.heap = h) {xs : List Int64} (A : Arj Z h a xs) {j : Int32} {v : Int64} (hv : ldx xs j = some v) {g : JFrame} (hg : g.method = m) {rest : List Value} (hs : g.stack = .int j :: .ref a :: rest) (hd : decode c.code g.pc = .ok (.laload, 1)) (target : State)
    (hr : Steps p.tables e below (T.setTop { g with pc := g.pc + 1, stack := .long v :: rest }) target) : Steps p.tables e below (T.setTop g) target := by
  obtain ⟨cl, A1, A2, -⟩ := A
  obtain ⟨hj, hat⟩ := ldx_at hv A2
  exact X.laload hx (by rw [eT]; exact A1.1) (State.isArrayOf_alike hZ.alike A1.2.1) A1.2.2 hj hat hg hs hd target hr
theorem lenA (X : Stand p l e R s m args below meth c T locs cells slots) (hx : p.tables.exec = Jvm.exec) (hZ : Z.Warmed39 s.vm) (eT : T.heap = h) {α : Type} {f : α → Value} {xs : List α} (A : Ar Z h a ty (xs.map f)) {g : JFrame} (hg : g.method = m) {rest : List Value} (hs : g.stack = .ref a :: rest) (hd : decode c.code g.pc = .ok (.arraylength, 1)) (target : State)
    (hr : Steps p.tables e below (T.setTop { g with pc := g.pc + 1, stack := .int (lenx xs) :: rest }) target) : Steps p.tables e below (T.setTop g) target := by
  obtain ⟨cl, A1, A2, -⟩ := A
  have : cl.slots.size = xs.length := by rw [← Array.length_toList, A2, List.length_map]
  refine X.arraylength hx (by rw [eT]; exact A1.1) (State.isArrayOf_alike hZ.alike A1.2.1) hg hs hd target ?_
  rw [this]; exact hr
theorem saI (X : Stand p l e R s m args below meth c T locs cells slots) (hx : p.tables.exec = Jvm.exec) (hZ : Z.Warmed39 s.vm) (eT : T.heap = h) {xs ys : List Int32} (A : Ari Z h a .int xs) {j v : Int32} (hv : stx xs j v = some ys) {g : JFrame} (hg : g.method = m) {rest : List Value} (hs : g.stack = .int v :: .int j :: .ref a :: rest) (hd : decode c.code g.pc = .ok (.iastore, 1)) :
    ∃ T' h', Stand p l e R s m args below meth c T' (locs ++ [⟨a, j.toNatClampNeg⟩]) cells slots ∧ T'.heap = h' ∧ Wr h h' a j.toNatClampNeg (.int v) ∧ Ari Z h' a .int ys ∧ ∀ target, Steps p.tables e below (T'.setTop { g with pc := g.pc + 1, stack := rest }) target → Steps p.tables e below (T.setTop g) target := by
  have A' := A
  obtain ⟨cl, A1, A2, -⟩ := A
  obtain ⟨hj, rfl⟩ := stx_at hv A2
  obtain ⟨T', h', X', e', W', st⟩ := stI X hx hZ eT A1 hj hg hs hd
  exact ⟨T', h', X', e', W', by have q := A'.same W'; rw [← List.map_set] at q; exact q, st⟩
theorem saB (X : Stand p l e R s m args below meth c T locs cells slots) (hx : p.tables.exec = Jvm.exec) (hZ : Z.Warmed39 s.vm) (eT : T.heap = h) {xs ys : List Int32} (A : Ari Z h a .byte xs) {j v : Int32} (hv : stx xs j v.toInt8.toInt32 = some ys) {g : JFrame} (hg : g.method = m) {rest : List Value} (hs : g.stack = .int v :: .int j :: .ref a :: rest) (hd : decode c.code g.pc = .ok (.bastore, 1)) :
    ∃ T' h', Stand p l e R s m args below meth c T' (locs ++ [⟨a, j.toNatClampNeg⟩]) cells slots ∧ T'.heap = h' ∧ Wr h h' a j.toNatClampNeg (.int v.toInt8.toInt32) ∧ Ari Z h' a .byte ys ∧ ∀ target, Steps p.tables e below (T'.setTop { g with pc := g.pc + 1, stack := rest }) target → Steps p.tables e below (T.setTop g) target := by
  have A' := A
  obtain ⟨cl, A1, A2, -⟩ := A
  obtain ⟨hj, rfl⟩ := stx_at hv A2
  obtain ⟨T', h', X', e', W', st⟩ := stB X hx hZ eT A1 hj hg hs hd
  exact ⟨T', h', X', e', W', by have q := A'.same W'; rw [show Value.int (nar .byte v) = Value.int v.toInt8.toInt32 from rfl, ← List.map_set] at q; exact q, st⟩
theorem saZ (X : Stand p l e R s m args below meth c T locs cells slots) (hx : p.tables.exec = Jvm.exec) (hZ : Z.Warmed39 s.vm) (eT : T.heap = h) {xs ys : List Int32} (A : Ari Z h a .boolean xs) {j v : Int32} (hv : stx xs j (v &&& 1) = some ys) {g : JFrame} (hg : g.method = m) {rest : List Value} (hs : g.stack = .int v :: .int j :: .ref a :: rest) (hd : decode c.code g.pc = .ok (.bastore, 1)) :
    ∃ T' h', Stand p l e R s m args below meth c T' (locs ++ [⟨a, j.toNatClampNeg⟩]) cells slots ∧ T'.heap = h' ∧ Wr h h' a j.toNatClampNeg (.int (v &&& 1)) ∧ Ari Z h' a .boolean ys ∧ ∀ target, Steps p.tables e below (T'.setTop { g with pc := g.pc + 1, stack := rest }) target → Steps p.tables e below (T.setTop g) target := by
  have A' := A
  obtain ⟨cl, A1, A2, -⟩ := A
  obtain ⟨hj, rfl⟩ := stx_at hv A2
  obtain ⟨T', h', X', e', W', st⟩ := stZ X hx hZ eT A1 hj hg hs hd
  exact ⟨T', h', X', e', W', by have q := A'.same W'; rw [show Value.int (nar .boolean v) = Value.int (v &&& 1) from rfl, ← List.map_set] at q; exact q, st⟩
theorem saJ (X : Stand p l e R s m args below meth c T locs cells slots) (hx : p.tables.exec = Jvm.exec) (hZ : Z.Warmed39 s.vm) (eT : T.heap = h) {xs ys : List Int64} (A : Arj Z h a xs) {j : Int32} {v : Int64} (hv : stx xs j v = some ys) {g : JFrame} (hg : g.method = m) {rest : List Value} (hs : g.stack = .long v :: .int j :: .ref a :: rest) (hd : decode c.code g.pc = .ok (.lastore, 1)) :
    ∃ T' h', Stand p l e R s m args below meth c T' (locs ++ [⟨a, j.toNatClampNeg⟩]) cells slots ∧ T'.heap = h' ∧ Wr h h' a j.toNatClampNeg (.long v) ∧ Arj Z h' a ys ∧ ∀ target, Steps p.tables e below (T'.setTop { g with pc := g.pc + 1, stack := rest }) target → Steps p.tables e below (T.setTop g) target := by
  have A' := A
  obtain ⟨cl, A1, A2, -⟩ := A
  obtain ⟨hj, rfl⟩ := stx_at hv A2
  obtain ⟨T', h', X', e', W', st⟩ := stJ X hx hZ eT A1 hj hg hs hd
  exact ⟨T', h', X', e', W', by have q := A'.same W'; rw [← List.map_set] at q; exact q, st⟩
theorem nwx_at {α : Type} {d : α} {cap : Nat} {n : Int32} {xs : List α} (hv : nwx d cap n = some xs) : ¬ n < 0 ∧ n.toNatClampNeg ≤ cap ∧ xs = List.replicate n.toNatClampNeg d := by
  unfold nwx at hv
  by_cases hj : n < 0
  · rw [if_pos hj] at hv; cases hv
  rw [if_neg hj] at hv
  by_cases hl : cap < n.toNatClampNeg
  · rw [if_pos hl] at hv; cases hv
  rw [if_neg hl] at hv
  exact ⟨hj, Nat.le_of_not_lt hl, (Option.some.inj hv).symm⟩
theorem Ar.new {α : Type} {f : α → Value} {d : α} {n : Int32} {cA : ClassId} (A : Arr Z h a (newA cA ty n) ty) (q : ¬ n < 0) (hd : defaultValue ty = f d) : Ar Z h a ty ((List.replicate n.toNatClampNeg d).map f) := by
  refine ⟨_, A, ?_, ?_⟩
  · show (Array.replicate n.toNatClampNeg (defaultValue ty)).toList = _
    rw [Array.toList_replicate, List.map_replicate, hd]
  · rw [List.length_map, List.length_replicate]; exact (back32 q).2
/-- a new array of ints, bytes, booleans .. -/
theorem nwA (X : Stand p l e R s m args below meth c T locs cells slots) (hx : p.tables.exec = Jvm.exec) (hZ : Z.Warmed39 s.vm) {aty : ArrayType} (w : (Cond.arrayClass (newarray.typeOf aty)).before a0 Z = true) (eT : T.heap = h) {α : Type} {f : α → Value} {d : α} {cap : Nat} {n : Int32} {xs : List α} (hv : nwx d cap n = some xs) (hdf : defaultValue (newarray.typeOf aty) = f d)
    {g : JFrame} (hg : g.method = m) {rest : List Value} (hs : g.stack = .int n :: rest) (hd : decode c.code g.pc = .ok (.newarray aty, 2)) (hb : cap * 8 ≤ 536870912) (hc : cells + 1 ≤ R.cells) (hl : slots + cap ≤ R.slots) :
    ∃ T' h', Stand p l e R s m args below meth c T' locs (cells + 1) (slots + cap) ∧ T'.heap = h' ∧ Ext h h' ∧ Ar Z h' h.size (newarray.typeOf aty) (xs.map f) ∧ ∀ target, Steps p.tables e below (T'.setTop { g with pc := g.pc + 2, stack := .ref h.size :: rest }) target → Steps p.tables e below (T.setTop g) target := by
  obtain ⟨q1, q2, rfl⟩ := nwx_at hv
  obtain ⟨T', h', cA, X', e', E', A', st⟩ := newP X hx hZ w eT hg hd hs q1 (cap := cap) q2 hb hc hl
  exact ⟨T', h', X', e', E', Ar.new A' q1 hdf, st⟩
variable {y : MethodName} {bytes : ByteArray} {maxL : Nat} {ret : Option FieldType} {rm : Room} {as' : Array Value} {Q : Option Value → Heap → List Loc → Prop} {own : String} {index : Nat}
/-- a static call by the callee's contract -/
theorem callQ (X : Stand p l e R s m args below meth c T locs cells slots) (hx : p.tables.exec = Jvm.exec) (hZ : Z.Warmed39 s.vm)
    (hown : s.vm.findClass own = some m.cls) (w1 : (Cond.methodLink own index y).before a0 Z = true) (w2 : (Cond.static y).before a0 Z = true) (w3 : (Cond.initialized y.cls).before a0 Z = true) (w4 : (Cond.code y bytes maxL ret).before a0 Z = true) (hy : y.cls ≠ "java/lang/invoke/MethodHandle" ∧ y.cls ≠ "java/lang/invoke/VarHandle")
    (hM : MetFree l y (head1 [Cond.code y bytes maxL ret] rm) (fun a U => a = as' ∧ Z.Warmed39 U.vm ∧ U.heap = h) (fun _ _ _ _ _ => True) (fun _ U o U' => ∃ v L, o = .returned v ∧ Q v U'.heap L ∧ FrameEnd U o U' L rm.cells rm.slots))
    {W : Nat} (hf : rm.frames + 1 ≤ R.frames) (hl : W + (maxL + 11) + rm.locals ≤ R.locals) (hc : cells + rm.cells ≤ R.cells) (hs' : slots + rm.slots ≤ R.slots) (eT : T.heap = h)
    {g : JFrame} (hg : g.method = m) (hsize : g.locals.size = c.maxLocals) {argsL rest : List Value} (hlen : ∀ sig, parseMethodDescriptor y.desc = some sig → argsL.length = sig.parameters.length)
    (hstack : g.stack = argsL.reverse ++ rest) (hW : 2 * g.monitorRoom + (rest.map fun v => v.category).sum ≤ W) (hdg : decode c.code g.pc = .ok (.invokestatic index, 3)) (has : argsL.toArray = as' := by rfl) :
    ∃ v T' L', Stand p l e R s m args below meth c T' (locs ++ L') (cells + rm.cells) (slots + rm.slots) ∧ Q v T'.heap L' ∧ ∀ target, Steps p.tables e below (T'.setTop { g with pc := g.pc + 3, stack := v.toList ++ rest }) target → Steps p.tables e below (T.setTop g) target := by
  obtain ⟨v, vm₁, ⟨T', L', k', n'⟩, -, X', ⟨Lc, q2, l1, y1, z3⟩, st⟩ := Jvm.LawKit.callS X hx (y := y) hown (mvT hZ w1) (mvT hZ w2) (mvT hZ w3) (mvT hZ w4) hy (backOf (W := W) hM hZ w4 w3 hf hl) hg hsize hlen hstack hW hdg (fun _ _ => ⟨has, eT, hc, hs'⟩)
  dsimp only [Pt.U, Pt.locs, Pt.cells, Pt.slots] at X' l1 y1 z3 st q2
  subst l1 y1 z3
  exact ⟨v, T', Lc, X', q2, st⟩
/-- a constructor by its contract -/
theorem callN {ret : Option FieldType} (X : Stand p l e R s m args below meth c T locs cells slots) (hx : p.tables.exec = Jvm.exec) (hZ : Z.Warmed39 s.vm) (hret : ret = none) (hnm : y.name = "<init>")
    (hown : s.vm.findClass own = some m.cls) (w1 : (Cond.methodLink own index y).before a0 Z = true) (w2 : (Cond.instanceMethod y).before a0 Z = true) (w3 : (Cond.initialized y.cls).before a0 Z = true) (w4 : (Cond.code y bytes maxL ret).before a0 Z = true) (hy : y.cls ≠ "java/lang/invoke/MethodHandle" ∧ y.cls ≠ "java/lang/invoke/VarHandle")
    (hM : MetFree l y (head1 [Cond.code y bytes maxL ret] rm) (fun a U => a = as' ∧ Z.Warmed39 U.vm ∧ U.heap = h) (fun _ _ _ _ _ => True) (fun _ U o U' => ∃ v L, o = .returned v ∧ Q v U'.heap L ∧ FrameEnd U o U' L rm.cells rm.slots))
    {W : Nat} (hf : rm.frames + 1 ≤ R.frames) (hl : W + (maxL + 11) + rm.locals ≤ R.locals) (hc : cells + rm.cells ≤ R.cells) (hs' : slots + rm.slots ≤ R.slots) (eT : T.heap = h)
    {g : JFrame} (hg : g.method = m) (hsize : g.locals.size = c.maxLocals) {a : Addr} {argsL rest : List Value} (hlen : ∀ sig, parseMethodDescriptor y.desc = some sig → argsL.length = sig.parameters.length)
    (hstack : g.stack = argsL.reverse ++ .ref a :: rest) (hW : 2 * g.monitorRoom + (rest.map fun v => v.category).sum ≤ W) (hdg : decode c.code g.pc = .ok (.invokespecial index, 3)) (has : (Value.ref a :: argsL).toArray = as' := by rfl) :
    ∃ v T' L', Stand p l e R s m args below meth c T' (locs ++ L') (cells + rm.cells) (slots + rm.slots) ∧ Q v T'.heap L' ∧ ∀ target, Steps p.tables e below (T'.setTop { g with pc := g.pc + 3, stack := v.toList ++ rest }) target → Steps p.tables e below (T.setTop g) target := by
  subst hret
  obtain ⟨v, vm₁, ⟨T', L', k', n'⟩, -, X', ⟨Lc, q2, l1, y1, z3⟩, st⟩ := X.specialBack hx (y := y) hnm hown (mvT hZ w1) (mvT hZ w2) (mvT hZ w4) hy (backOf (W := W) hM hZ w4 w3 hf hl) hg hsize (Steps.refl _) hlen hstack hW hdg (fun _ _ => ⟨has, eT, hc, hs'⟩)
  dsimp only [Pt.U, Pt.locs, Pt.cells, Pt.slots] at X' l1 y1 z3 st q2
  subst l1 y1 z3
  exact ⟨v, T', Lc, X', q2, fun t k => st.trans k⟩
/-- an instance method by its contract -/
theorem callV (X : Stand p l e R s m args below meth c T locs cells slots) (hx : p.tables.exec = Jvm.exec) (hZ : Z.Warmed39 s.vm)
    (hown : s.vm.findClass own = some m.cls) (w1 : (Cond.methodLink own index y).before a0 Z = true) (w2 : (Cond.declares y).before a0 Z = true) (w3 : (Cond.selects y.cls y y).before a0 Z = true) (w5 : (Cond.instanceMethod y).before a0 Z = true) (w6 : (Cond.initialized y.cls).before a0 Z = true) (w4 : (Cond.code y bytes maxL ret).before a0 Z = true) (hy : y.cls ≠ "java/lang/invoke/MethodHandle" ∧ y.cls ≠ "java/lang/invoke/VarHandle")
    (hM : MetFree l y (head1 [Cond.code y bytes maxL ret] rm) (fun a U => a = as' ∧ Z.Warmed39 U.vm ∧ U.heap = h) (fun _ _ _ _ _ => True) (fun _ U o U' => ∃ v L, o = .returned v ∧ Q v U'.heap L ∧ FrameEnd U o U' L rm.cells rm.slots))
    {W : Nat} (hf : rm.frames + 1 ≤ R.frames) (hl : W + (maxL + 11) + rm.locals ≤ R.locals) (hc : cells + rm.cells ≤ R.cells) (hs' : slots + rm.slots ≤ R.slots) (eT : T.heap = h) {a : Addr} (E : Exa Z h a y.cls)
    {g : JFrame} (hg : g.method = m) (hsize : g.locals.size = c.maxLocals) {argsL rest : List Value} (hlen : ∀ sig, parseMethodDescriptor y.desc = some sig → argsL.length = sig.parameters.length)
    (hstack : g.stack = argsL.reverse ++ .ref a :: rest) (hW : 2 * g.monitorRoom + (rest.map fun v => v.category).sum ≤ W) (hdg : decode c.code g.pc = .ok (.invokevirtual index, 3)) (has : (Value.ref a :: argsL).toArray = as' := by rfl) :
    ∃ v T' L', Stand p l e R s m args below meth c T' (locs ++ L') (cells + rm.cells) (slots + rm.slots) ∧ Q v T'.heap L' ∧ ∀ target, Steps p.tables e below (T'.setTop { g with pc := g.pc + 3, stack := v.toList ++ rest }) target → Steps p.tables e below (T.setTop g) target := by
  obtain ⟨cq, kq, qa, qb, qc⟩ := isOf hZ eT E
  obtain ⟨v, vm₁, ⟨T', L', k', n'⟩, -, X', ⟨Lc, q2, l1, y1, z3⟩, st⟩ := X.virtualBack hx (y := y) (z := y) hown (mvT hZ w1) (mvT hZ w2) (notFace_of_selects (args := #[]) (mvT hZ w3)) (mvT hZ w3) (mvT hZ w5) hy (backOf (W := W) hM hZ w4 w6 hf hl) qa qc hg hsize (Steps.refl _) hlen hstack hW hdg (fun _ _ => ⟨has, eT, hc, hs'⟩)
  dsimp only [Pt.U, Pt.locs, Pt.cells, Pt.slots] at X' l1 y1 z3 st q2
  subst l1 y1 z3
  exact ⟨v, T', Lc, X', q2, fun t k => st.trans k⟩
/-- a private method by its contract -/
theorem callR (X : Stand p l e R s m args below meth c T locs cells slots) (hx : p.tables.exec = Jvm.exec) (hZ : Z.Warmed39 s.vm)
    (hown : s.vm.findClass own = some m.cls) (w1 : (Cond.methodLink own index y).before a0 Z = true) (w2 : (Cond.privateMethod y).before a0 Z = true) {kk : Nat} (w3 : (Cond.instantiable y.cls kk).before a0 Z = true) (w5 : (Cond.instanceMethod y).before a0 Z = true) (w6 : (Cond.initialized y.cls).before a0 Z = true) (w4 : (Cond.code y bytes maxL ret).before a0 Z = true) (hy : y.cls ≠ "java/lang/invoke/MethodHandle" ∧ y.cls ≠ "java/lang/invoke/VarHandle")
    (hM : MetFree l y (head1 [Cond.code y bytes maxL ret] rm) (fun a U => a = as' ∧ Z.Warmed39 U.vm ∧ U.heap = h) (fun _ _ _ _ _ => True) (fun _ U o U' => ∃ v L, o = .returned v ∧ Q v U'.heap L ∧ FrameEnd U o U' L rm.cells rm.slots))
    {W : Nat} (hf : rm.frames + 1 ≤ R.frames) (hl : W + (maxL + 11) + rm.locals ≤ R.locals) (hc : cells + rm.cells ≤ R.cells) (hs' : slots + rm.slots ≤ R.slots) (eT : T.heap = h) {a : Addr} (E : Exa Z h a y.cls)
    {g : JFrame} (hg : g.method = m) (hsize : g.locals.size = c.maxLocals) {argsL rest : List Value} (hlen : ∀ sig, parseMethodDescriptor y.desc = some sig → argsL.length = sig.parameters.length)
    (hstack : g.stack = argsL.reverse ++ .ref a :: rest) (hW : 2 * g.monitorRoom + (rest.map fun v => v.category).sum ≤ W) (hdg : decode c.code g.pc = .ok (.invokevirtual index, 3)) (has : (Value.ref a :: argsL).toArray = as' := by rfl) :
    ∃ v T' L', Stand p l e R s m args below meth c T' (locs ++ L') (cells + rm.cells) (slots + rm.slots) ∧ Q v T'.heap L' ∧ ∀ target, Steps p.tables e below (T'.setTop { g with pc := g.pc + 3, stack := v.toList ++ rest }) target → Steps p.tables e below (T.setTop g) target := by
  obtain ⟨cq, q, q'⟩ := E.cell
  have hpr := Cond.privateMethod_at (mvP hZ w2 (args := args))
  obtain ⟨c4, k2, i1, i2, -, i4, -⟩ := Cond.instantiable_spec (mvT hZ w3 : (Cond.instantiable y.cls kk).before args s = true)
  have hsel := selects_self_of_private (args := args) i1 i2 (by simp only [Bool.or_eq_false_iff] at i4; exact i4.1) hpr (mvT hZ w5) hy
  obtain ⟨v, vm₁, ⟨T', L', k', n'⟩, -, X', ⟨Lc, q2, l1, y1, z3⟩, st⟩ := X.privateBack hx (y := y) hown (mvT hZ w1) (mvT hZ w5) hsel hpr (mvT hZ w4) hy (backOf (W := W) hM hZ w4 w6 hf hl) hg hsize (Steps.refl _) (by rw [eT]; exact q) q' hlen hstack hW hdg (fun _ _ => ⟨has, eT, hc, hs'⟩)
  dsimp only [Pt.U, Pt.locs, Pt.cells, Pt.slots] at X' l1 y1 z3 st q2
  subst l1 y1 z3
  exact ⟨v, T', Lc, X', q2, fun t k => st.trans k⟩
end Own2
end Jvm.RoadKit
namespace Jvm.Pilot.@@N@@
open Jvm Jvm.ClassFile Sem Op Lib Jvm.Free Jvm.Stand Jvm.LawKit Jvm.RoadKit Bundle Jvm.Pilot.@@N@@.Jvm.D
-- body 1 as 1: com/example/ninewire/ninewire/Utf8.firstMalformed:([BII)I (touches nothing)
theorem d1_0 : decode prog_86_method_7_code 0 = .ok (.iload_n 1, 1) := by decide +kernel
theorem d1_1 : decode prog_86_method_7_code 1 = .ok (.istore_n 3, 1) := by decide +kernel
theorem d1_2 : decode prog_86_method_7_code 2 = .ok (.iload_n 3, 1) := by decide +kernel
theorem d1_3 : decode prog_86_method_7_code 3 = .ok (.iload_n 2, 1) := by decide +kernel
theorem d1_4 : decode prog_86_method_7_code 4 = .ok (.if_icmp .ge 243, 3) := by decide +kernel
theorem d1_7 : decode prog_86_method_7_code 7 = .ok (.aload_n 0, 1) := by decide +kernel
theorem d1_8 : decode prog_86_method_7_code 8 = .ok (.iload_n 3, 1) := by decide +kernel
theorem d1_9 : decode prog_86_method_7_code 9 = .ok (.baload, 1) := by decide +kernel
theorem d1_10 : decode prog_86_method_7_code 10 = .ok (.sipush 255, 3) := by decide +kernel
theorem d1_13 : decode prog_86_method_7_code 13 = .ok (.iand, 1) := by decide +kernel
theorem d1_14 : decode prog_86_method_7_code 14 = .ok (.istore 4, 2) := by decide +kernel
theorem d1_16 : decode prog_86_method_7_code 16 = .ok (.iload 4, 2) := by decide +kernel
theorem d1_18 : decode prog_86_method_7_code 18 = .ok (.sipush 128, 3) := by decide +kernel
theorem d1_21 : decode prog_86_method_7_code 21 = .ok (.if_icmp .ge 9, 3) := by decide +kernel
theorem d1_24 : decode prog_86_method_7_code 24 = .ok (.iinc 3 1, 3) := by decide +kernel
theorem d1_27 : decode prog_86_method_7_code 27 = .ok (.goto (-25), 3) := by decide +kernel
theorem d1_30 : decode prog_86_method_7_code 30 = .ok (.sipush 128, 3) := by decide +kernel
theorem d1_33 : decode prog_86_method_7_code 33 = .ok (.istore 6, 2) := by decide +kernel
theorem d1_35 : decode prog_86_method_7_code 35 = .ok (.sipush 191, 3) := by decide +kernel
theorem d1_38 : decode prog_86_method_7_code 38 = .ok (.istore 7, 2) := by decide +kernel
theorem d1_40 : decode prog_86_method_7_code 40 = .ok (.iload 4, 2) := by decide +kernel
theorem d1_42 : decode prog_86_method_7_code 42 = .ok (.sipush 194, 3) := by decide +kernel
theorem d1_45 : decode prog_86_method_7_code 45 = .ok (.if_icmp .lt 17, 3) := by decide +kernel
theorem d1_48 : decode prog_86_method_7_code 48 = .ok (.iload 4, 2) := by decide +kernel
theorem d1_50 : decode prog_86_method_7_code 50 = .ok (.sipush 223, 3) := by decide +kernel
theorem d1_53 : decode prog_86_method_7_code 53 = .ok (.if_icmp .gt 9, 3) := by decide +kernel
theorem d1_56 : decode prog_86_method_7_code 56 = .ok (.iconst 1, 1) := by decide +kernel
theorem d1_57 : decode prog_86_method_7_code 57 = .ok (.istore 5, 2) := by decide +kernel
theorem d1_59 : decode prog_86_method_7_code 59 = .ok (.goto 107, 3) := by decide +kernel
theorem d1_62 : decode prog_86_method_7_code 62 = .ok (.iload 4, 2) := by decide +kernel
theorem d1_64 : decode prog_86_method_7_code 64 = .ok (.sipush 224, 3) := by decide +kernel
theorem d1_67 : decode prog_86_method_7_code 67 = .ok (.if_icmp .lt 46, 3) := by decide +kernel
theorem d1_70 : decode prog_86_method_7_code 70 = .ok (.iload 4, 2) := by decide +kernel
theorem d1_72 : decode prog_86_method_7_code 72 = .ok (.sipush 239, 3) := by decide +kernel
theorem d1_75 : decode prog_86_method_7_code 75 = .ok (.if_icmp .gt 38, 3) := by decide +kernel
theorem d1_78 : decode prog_86_method_7_code 78 = .ok (.iconst 2, 1) := by decide +kernel
theorem d1_79 : decode prog_86_method_7_code 79 = .ok (.istore 5, 2) := by decide +kernel
theorem d1_81 : decode prog_86_method_7_code 81 = .ok (.iload 4, 2) := by decide +kernel
theorem d1_83 : decode prog_86_method_7_code 83 = .ok (.sipush 224, 3) := by decide +kernel
theorem d1_86 : decode prog_86_method_7_code 86 = .ok (.if_icmp .ne 11, 3) := by decide +kernel
theorem d1_89 : decode prog_86_method_7_code 89 = .ok (.sipush 160, 3) := by decide +kernel
theorem d1_92 : decode prog_86_method_7_code 92 = .ok (.istore 6, 2) := by decide +kernel
theorem d1_94 : decode prog_86_method_7_code 94 = .ok (.goto 72, 3) := by decide +kernel
theorem d1_97 : decode prog_86_method_7_code 97 = .ok (.iload 4, 2) := by decide +kernel
theorem d1_99 : decode prog_86_method_7_code 99 = .ok (.sipush 237, 3) := by decide +kernel
theorem d1_102 : decode prog_86_method_7_code 102 = .ok (.if_icmp .ne 64, 3) := by decide +kernel
theorem d1_105 : decode prog_86_method_7_code 105 = .ok (.sipush 159, 3) := by decide +kernel
theorem d1_108 : decode prog_86_method_7_code 108 = .ok (.istore 7, 2) := by decide +kernel
theorem d1_110 : decode prog_86_method_7_code 110 = .ok (.goto 56, 3) := by decide +kernel
theorem d1_113 : decode prog_86_method_7_code 113 = .ok (.iload 4, 2) := by decide +kernel
theorem d1_115 : decode prog_86_method_7_code 115 = .ok (.sipush 240, 3) := by decide +kernel
theorem d1_118 : decode prog_86_method_7_code 118 = .ok (.if_icmp .lt 46, 3) := by decide +kernel
theorem d1_121 : decode prog_86_method_7_code 121 = .ok (.iload 4, 2) := by decide +kernel
theorem d1_123 : decode prog_86_method_7_code 123 = .ok (.sipush 244, 3) := by decide +kernel
theorem d1_126 : decode prog_86_method_7_code 126 = .ok (.if_icmp .gt 38, 3) := by decide +kernel
theorem d1_129 : decode prog_86_method_7_code 129 = .ok (.iconst 3, 1) := by decide +kernel
theorem d1_130 : decode prog_86_method_7_code 130 = .ok (.istore 5, 2) := by decide +kernel
theorem d1_132 : decode prog_86_method_7_code 132 = .ok (.iload 4, 2) := by decide +kernel
theorem d1_134 : decode prog_86_method_7_code 134 = .ok (.sipush 240, 3) := by decide +kernel
theorem d1_137 : decode prog_86_method_7_code 137 = .ok (.if_icmp .ne 11, 3) := by decide +kernel
theorem d1_140 : decode prog_86_method_7_code 140 = .ok (.sipush 144, 3) := by decide +kernel
theorem d1_143 : decode prog_86_method_7_code 143 = .ok (.istore 6, 2) := by decide +kernel
theorem d1_145 : decode prog_86_method_7_code 145 = .ok (.goto 21, 3) := by decide +kernel
theorem d1_148 : decode prog_86_method_7_code 148 = .ok (.iload 4, 2) := by decide +kernel
theorem d1_150 : decode prog_86_method_7_code 150 = .ok (.sipush 244, 3) := by decide +kernel
theorem d1_153 : decode prog_86_method_7_code 153 = .ok (.if_icmp .ne 13, 3) := by decide +kernel
theorem d1_156 : decode prog_86_method_7_code 156 = .ok (.sipush 143, 3) := by decide +kernel
theorem d1_159 : decode prog_86_method_7_code 159 = .ok (.istore 7, 2) := by decide +kernel
theorem d1_161 : decode prog_86_method_7_code 161 = .ok (.goto 5, 3) := by decide +kernel
theorem d1_164 : decode prog_86_method_7_code 164 = .ok (.iload_n 3, 1) := by decide +kernel
theorem d1_165 : decode prog_86_method_7_code 165 = .ok (.ireturn, 1) := by decide +kernel
theorem d1_166 : decode prog_86_method_7_code 166 = .ok (.iload_n 2, 1) := by decide +kernel
theorem d1_167 : decode prog_86_method_7_code 167 = .ok (.iload_n 3, 1) := by decide +kernel
theorem d1_168 : decode prog_86_method_7_code 168 = .ok (.isub, 1) := by decide +kernel
theorem d1_169 : decode prog_86_method_7_code 169 = .ok (.iload 5, 2) := by decide +kernel
theorem d1_171 : decode prog_86_method_7_code 171 = .ok (.if_icmp .gt 5, 3) := by decide +kernel
theorem d1_174 : decode prog_86_method_7_code 174 = .ok (.iload_n 3, 1) := by decide +kernel
theorem d1_175 : decode prog_86_method_7_code 175 = .ok (.ireturn, 1) := by decide +kernel
theorem d1_176 : decode prog_86_method_7_code 176 = .ok (.aload_n 0, 1) := by decide +kernel
theorem d1_177 : decode prog_86_method_7_code 177 = .ok (.iload_n 3, 1) := by decide +kernel
theorem d1_178 : decode prog_86_method_7_code 178 = .ok (.iconst 1, 1) := by decide +kernel
theorem d1_179 : decode prog_86_method_7_code 179 = .ok (.iadd, 1) := by decide +kernel
theorem d1_180 : decode prog_86_method_7_code 180 = .ok (.baload, 1) := by decide +kernel
theorem d1_181 : decode prog_86_method_7_code 181 = .ok (.sipush 255, 3) := by decide +kernel
theorem d1_184 : decode prog_86_method_7_code 184 = .ok (.iand, 1) := by decide +kernel
theorem d1_185 : decode prog_86_method_7_code 185 = .ok (.istore 8, 2) := by decide +kernel
theorem d1_187 : decode prog_86_method_7_code 187 = .ok (.iload 8, 2) := by decide +kernel
theorem d1_189 : decode prog_86_method_7_code 189 = .ok (.iload 6, 2) := by decide +kernel
theorem d1_191 : decode prog_86_method_7_code 191 = .ok (.if_icmp .lt 10, 3) := by decide +kernel
theorem d1_194 : decode prog_86_method_7_code 194 = .ok (.iload 8, 2) := by decide +kernel
theorem d1_196 : decode prog_86_method_7_code 196 = .ok (.iload 7, 2) := by decide +kernel
theorem d1_198 : decode prog_86_method_7_code 198 = .ok (.if_icmp .le 5, 3) := by decide +kernel
theorem d1_201 : decode prog_86_method_7_code 201 = .ok (.iload_n 3, 1) := by decide +kernel
theorem d1_202 : decode prog_86_method_7_code 202 = .ok (.ireturn, 1) := by decide +kernel
theorem d1_203 : decode prog_86_method_7_code 203 = .ok (.iconst 2, 1) := by decide +kernel
theorem d1_204 : decode prog_86_method_7_code 204 = .ok (.istore 9, 2) := by decide +kernel
theorem d1_206 : decode prog_86_method_7_code 206 = .ok (.iload 9, 2) := by decide +kernel
theorem d1_208 : decode prog_86_method_7_code 208 = .ok (.iload 5, 2) := by decide +kernel
theorem d1_210 : decode prog_86_method_7_code 210 = .ok (.if_icmp .gt 27, 3) := by decide +kernel
theorem d1_213 : decode prog_86_method_7_code 213 = .ok (.aload_n 0, 1) := by decide +kernel
theorem d1_214 : decode prog_86_method_7_code 214 = .ok (.iload_n 3, 1) := by decide +kernel
theorem d1_215 : decode prog_86_method_7_code 215 = .ok (.iload 9, 2) := by decide +kernel
theorem d1_217 : decode prog_86_method_7_code 217 = .ok (.iadd, 1) := by decide +kernel
theorem d1_218 : decode prog_86_method_7_code 218 = .ok (.baload, 1) := by decide +kernel
theorem d1_219 : decode prog_86_method_7_code 219 = .ok (.sipush 192, 3) := by decide +kernel
theorem d1_222 : decode prog_86_method_7_code 222 = .ok (.iand, 1) := by decide +kernel
theorem d1_223 : decode prog_86_method_7_code 223 = .ok (.sipush 128, 3) := by decide +kernel
theorem d1_226 : decode prog_86_method_7_code 226 = .ok (.if_icmp .eq 5, 3) := by decide +kernel
theorem d1_229 : decode prog_86_method_7_code 229 = .ok (.iload_n 3, 1) := by decide +kernel
theorem d1_230 : decode prog_86_method_7_code 230 = .ok (.ireturn, 1) := by decide +kernel
theorem d1_231 : decode prog_86_method_7_code 231 = .ok (.iinc 9 1, 3) := by decide +kernel
theorem d1_234 : decode prog_86_method_7_code 234 = .ok (.goto (-28), 3) := by decide +kernel
theorem d1_237 : decode prog_86_method_7_code 237 = .ok (.iload_n 3, 1) := by decide +kernel
theorem d1_238 : decode prog_86_method_7_code 238 = .ok (.iload 5, 2) := by decide +kernel
theorem d1_240 : decode prog_86_method_7_code 240 = .ok (.iconst 1, 1) := by decide +kernel
theorem d1_241 : decode prog_86_method_7_code 241 = .ok (.iadd, 1) := by decide +kernel
theorem d1_242 : decode prog_86_method_7_code 242 = .ok (.iadd, 1) := by decide +kernel
theorem d1_243 : decode prog_86_method_7_code 243 = .ok (.istore_n 3, 1) := by decide +kernel
theorem d1_244 : decode prog_86_method_7_code 244 = .ok (.goto (-242), 3) := by decide +kernel
theorem d1_247 : decode prog_86_method_7_code 247 = .ok (.iconst (-1), 1) := by decide +kernel
theorem d1_248 : decode prog_86_method_7_code 248 = .ok (.ireturn, 1) := by decide +kernel
theorem pn1 : plainName "com/example/ninewire/ninewire/Utf8" = true := by first | (simp [plainName, overriddenIn]; done) | decide +kernel
theorem pd1 : parseMethodDescriptor "([BII)I" = some ⟨[(.array .byte), .int, .int], some .int⟩ := by decide +kernel
theorem ef1 (m : MethodId) (b0 : Addr) (x1 : Int32) (x2 : Int32) : entryFrame m #[(.ref b0), (.int x1), (.int x2)] 10 = mkF m 0 #[.val (.ref b0), .val (.int x1), .val (.int x2), .unset, .unset, .unset, .unset, .unset, .unset, .unset] [] := by first | (simp [entryFrame, mkF, argsToLocals, Value.category]; done) | rfl
abbrev rx1 : Room := { frames := 0, cells := 0, slots := 0, locals := 0 }
abbrev Cx1 (Z : State) (a0 : Array Value) (p : Program) (s : State) (m : MethodId) (meth : Method) (c : Code) : Prop := p.tables.exec = Jvm.exec ∧ Z.Warmed39 s.vm ∧ (∀ d ∈ tables_1, d.before a0 Z = true) ∧ c.code = prog_86_method_7_code ∧ c.maxLocals = 10 ∧ s.vm.findClass "com/example/ninewire/ninewire/Utf8" = some m.cls ∧ meth.sig.returnType = (some .int) ∧ meth.locks = false ∧ meth.name = "firstMalformed"
def Q1 (Z : State) (x1 : Int32) (x2 : Int32) (b0 : Addr) (l0 : List Int32) (h0 : Heap) (o : Int32) (v : Option Value) (h : Heap) (L : List Loc) : Prop := v = some (.int o) ∧ h = h0 ∧ L = []
def f1_206 (k2 : Int32 → Int32 → (List Int32) → Option (Int32)) : Nat → Int32 → Int32 → Int32 → Int32 → (List Int32) → Option (Int32)
  | 0, _, _, _, _, _ => none
  | n + 1, x2, x3, x5, x9, l0 => (if x5 < x9 then (k2 x2 (x3 + (x5 + (1 : Int32))) l0) else ((ldx l0 (x3 + x9)).bind fun v3 => (if (v3 &&& (192 : Int32)) = (128 : Int32) then (f1_206 k2 n x2 x3 x5 (x9 + (1 : Int32)) l0) else some (x3))))
set_option maxRecDepth 65536 in
set_option maxHeartbeats 40000000 in
theorem w1_206 {p : Program} {l : Launch} {e : Env} {s : State} {m : MethodId} {args : Array Value} {below : List Frame} {meth : Method} {c : Code} {Z : State} {a0 : Array Value} {h0 : Heap} (C : Cx1 Z a0 p s m meth c) (k2 : Int32 → Int32 → (List Int32) → Option (Int32)) (hk2 : ∀ (T : State) (s1 : Slot) (x2 : Int32) (x3 : Int32) (s4 : Slot) (s5 : Slot) (s6 : Slot) (s7 : Slot) (s8 : Slot) (s9 : Slot) (b0 : Addr) (l0 : List Int32) (o : Int32), k2 x2 x3 l0 = some o → Stand p l e rx1 s m args below meth c T [] 0 0 → T.heap = h0 → (Ari Z h0 b0 .byte l0) → (One s1) → (One s4) → (One s5) → (One s6) → (One s7) → (One s8) → (One s9) →  OwnOut p e s below 0 0 (Q1 Z default default b0 l0 h0 o) (T.setTop (mkF m 2 #[.val (.ref b0), s1, .val (.int x2), .val (.int x3), s4, s5, s6, s7, s8, s9] []))) (n : Nat) :
    ∀ (T : State) (s1 : Slot) (x2 : Int32) (x3 : Int32) (s4 : Slot) (x5 : Int32) (s6 : Slot) (s7 : Slot) (s8 : Slot) (x9 : Int32) (b0 : Addr) (l0 : List Int32) (o : Int32), f1_206 k2 n x2 x3 x5 x9 l0 = some o → Stand p l e rx1 s m args below meth c T [] 0 0 → T.heap = h0 → (Ari Z h0 b0 .byte l0) → (One s1) → (One s4) → (One s6) → (One s7) → (One s8) →  OwnOut p e s below 0 0 (Q1 Z default default b0 l0 h0 o) (T.setTop (mkF m 206 #[.val (.ref b0), s1, .val (.int x2), .val (.int x3), s4, .val (.int x5), s6, s7, s8, .val (.int x9)] [])) := by
  obtain ⟨hx, hZ, hw, hby, hml, hown, hret, hlk, hnm⟩ := C
  induction n with
  | zero => intro T s1 x2 x3 s4 x5 s6 s7 s8 x9 b0 l0 o hr X0 e0 A0 hs1 hs4 hs6 hs7 hs8; rw [f1_206] at hr; cases hr
  | succ n ih =>
    intro T s1 x2 x3 s4 x5 s6 s7 s8 x9 b0 l0 o hr X0 e0 A0 hs1 hs4 hs6 hs7 hs8
    rw [f1_206] at hr
    refine OwnOut.go (fun t k => XS.iload X0.here hx rfl (hb hby d1_206) rfl k) ?_
    show OwnOut p e s below 0 0 _ (T.setTop (mkF m 208 #[.val (.ref b0), s1, .val (.int x2), .val (.int x3), s4, .val (.int x5), s6, s7, s8, .val (.int x9)] [(.int x9)]))
    refine OwnOut.go (fun t k => XS.iload X0.here hx rfl (hb hby d1_208) rfl k) ?_
    show OwnOut p e s below 0 0 _ (T.setTop (mkF m 210 #[.val (.ref b0), s1, .val (.int x2), .val (.int x3), s4, .val (.int x5), s6, s7, s8, .val (.int x9)] [(.int x5), (.int x9)]))
    by_cases hc210 : x5 < x9
    · rw [if_pos hc210] at hr
      refine OwnOut.go (fun t k => XS.icmpYes X0.here hx rfl (pc0 := 210) (pc' := 237) rfl (hb hby d1_210) rfl (XT.ii_gt_t hc210) (by decide) (by decide) k) ?_
      show OwnOut p e s below 0 0 _ (T.setTop (mkF m 237 #[.val (.ref b0), s1, .val (.int x2), .val (.int x3), s4, .val (.int x5), s6, s7, s8, .val (.int x9)] []))
      refine OwnOut.go (fun t k => XS.iloadN X0.here hx rfl (hb hby d1_237) rfl k) ?_
      show OwnOut p e s below 0 0 _ (T.setTop (mkF m 238 #[.val (.ref b0), s1, .val (.int x2), .val (.int x3), s4, .val (.int x5), s6, s7, s8, .val (.int x9)] [(.int x3)]))
      refine OwnOut.go (fun t k => XS.iload X0.here hx rfl (hb hby d1_238) rfl k) ?_
      show OwnOut p e s below 0 0 _ (T.setTop (mkF m 240 #[.val (.ref b0), s1, .val (.int x2), .val (.int x3), s4, .val (.int x5), s6, s7, s8, .val (.int x9)] [(.int x5), (.int x3)]))
      refine OwnOut.go (fun t k => XT.iconstV X0.here hx rfl (1 : Int32) (hb hby d1_240) rfl k) ?_
      show OwnOut p e s below 0 0 _ (T.setTop (mkF m 241 #[.val (.ref b0), s1, .val (.int x2), .val (.int x3), s4, .val (.int x5), s6, s7, s8, .val (.int x9)] [(.int (1 : Int32)), (.int x5), (.int x3)]))
      refine OwnOut.go (fun t k => XS.iadd X0.here hx rfl (hb hby d1_241) rfl k) ?_
      show OwnOut p e s below 0 0 _ (T.setTop (mkF m 242 #[.val (.ref b0), s1, .val (.int x2), .val (.int x3), s4, .val (.int x5), s6, s7, s8, .val (.int x9)] [(.int (x5 + (1 : Int32))), (.int x3)]))
      refine OwnOut.go (fun t k => XS.iadd X0.here hx rfl (hb hby d1_242) rfl k) ?_
      show OwnOut p e s below 0 0 _ (T.setTop (mkF m 243 #[.val (.ref b0), s1, .val (.int x2), .val (.int x3), s4, .val (.int x5), s6, s7, s8, .val (.int x9)] [(.int (x3 + (x5 + (1 : Int32))))]))
      refine OwnOut.go (fun t k => XS.istoreN X0.here hx rfl (hb hby d1_243) rfl (l' := #[.val (.ref b0), s1, .val (.int x2), .val (.int (x3 + (x5 + (1 : Int32)))), s4, .val (.int x5), s6, s7, s8, .val (.int x9)]) rfl k) ?_
      show OwnOut p e s below 0 0 _ (T.setTop (mkF m 244 #[.val (.ref b0), s1, .val (.int x2), .val (.int (x3 + (x5 + (1 : Int32)))), s4, .val (.int x5), s6, s7, s8, .val (.int x9)] []))
      refine OwnOut.go (fun t k => XS.goto X0.here hx rfl (pc0 := 244) (pc' := 2) rfl (hb hby d1_244) (by decide) (by decide) k) ?_
      show OwnOut p e s below 0 0 _ (T.setTop (mkF m 2 #[.val (.ref b0), s1, .val (.int x2), .val (.int (x3 + (x5 + (1 : Int32)))), s4, .val (.int x5), s6, s7, s8, .val (.int x9)] []))
      exact hk2 _ (s1) x2 (x3 + (x5 + (1 : Int32))) (s4) (.val (.int x5)) (s6) (s7) (s8) (.val (.int x9)) b0 l0 _ hr X0 e0 A0 hs1 hs4 (One.val rfl) hs6 hs7 hs8 (One.val rfl)
    · rw [if_neg hc210] at hr
      refine OwnOut.go (fun t k => XS.icmpNo X0.here hx rfl (hb hby d1_210) rfl (XT.ii_gt_f hc210) k) ?_
      show OwnOut p e s below 0 0 _ (T.setTop (mkF m 213 #[.val (.ref b0), s1, .val (.int x2), .val (.int x3), s4, .val (.int x5), s6, s7, s8, .val (.int x9)] []))
      refine OwnOut.go (fun t k => XS.aloadN X0.here hx rfl (hb hby d1_213) rfl rfl k) ?_
      show OwnOut p e s below 0 0 _ (T.setTop (mkF m 214 #[.val (.ref b0), s1, .val (.int x2), .val (.int x3), s4, .val (.int x5), s6, s7, s8, .val (.int x9)] [(.ref b0)]))
      refine OwnOut.go (fun t k => XS.iloadN X0.here hx rfl (hb hby d1_214) rfl k) ?_
      show OwnOut p e s below 0 0 _ (T.setTop (mkF m 215 #[.val (.ref b0), s1, .val (.int x2), .val (.int x3), s4, .val (.int x5), s6, s7, s8, .val (.int x9)] [(.int x3), (.ref b0)]))
      refine OwnOut.go (fun t k => XS.iload X0.here hx rfl (hb hby d1_215) rfl k) ?_
      show OwnOut p e s below 0 0 _ (T.setTop (mkF m 217 #[.val (.ref b0), s1, .val (.int x2), .val (.int x3), s4, .val (.int x5), s6, s7, s8, .val (.int x9)] [(.int x9), (.int x3), (.ref b0)]))
      refine OwnOut.go (fun t k => XS.iadd X0.here hx rfl (hb hby d1_217) rfl k) ?_
      show OwnOut p e s below 0 0 _ (T.setTop (mkF m 218 #[.val (.ref b0), s1, .val (.int x2), .val (.int x3), s4, .val (.int x5), s6, s7, s8, .val (.int x9)] [(.int (x3 + x9)), (.ref b0)]))
      obtain ⟨v3, hv3, hr⟩ := Option.bind_eq_some_iff.mp hr
      refine OwnOut.go (fun t k => ldB X0 hx hZ e0 A0 hv3 (g := (mkF m 218 #[.val (.ref b0), s1, .val (.int x2), .val (.int x3), s4, .val (.int x5), s6, s7, s8, .val (.int x9)] [(.int (x3 + x9)), (.ref b0)])) rfl rfl (hb hby d1_218) t k) ?_
      show OwnOut p e s below 0 0 _ (T.setTop (mkF m 219 #[.val (.ref b0), s1, .val (.int x2), .val (.int x3), s4, .val (.int x5), s6, s7, s8, .val (.int x9)] [(.int v3)]))
      refine OwnOut.go (fun t k => XT.sipushV X0.here hx rfl (192 : Int32) (hb hby d1_219) rfl k) ?_
      show OwnOut p e s below 0 0 _ (T.setTop (mkF m 222 #[.val (.ref b0), s1, .val (.int x2), .val (.int x3), s4, .val (.int x5), s6, s7, s8, .val (.int x9)] [(.int (192 : Int32)), (.int v3)]))
      refine OwnOut.go (fun t k => XS.iand X0.here hx rfl (hb hby d1_222) rfl k) ?_
      show OwnOut p e s below 0 0 _ (T.setTop (mkF m 223 #[.val (.ref b0), s1, .val (.int x2), .val (.int x3), s4, .val (.int x5), s6, s7, s8, .val (.int x9)] [(.int (v3 &&& (192 : Int32)))]))
      refine OwnOut.go (fun t k => XT.sipushV X0.here hx rfl (128 : Int32) (hb hby d1_223) rfl k) ?_
      show OwnOut p e s below 0 0 _ (T.setTop (mkF m 226 #[.val (.ref b0), s1, .val (.int x2), .val (.int x3), s4, .val (.int x5), s6, s7, s8, .val (.int x9)] [(.int (128 : Int32)), (.int (v3 &&& (192 : Int32)))]))
      by_cases hc226 : (v3 &&& (192 : Int32)) = (128 : Int32)
      · rw [if_pos hc226] at hr
        refine OwnOut.go (fun t k => XS.icmpYes X0.here hx rfl (pc0 := 226) (pc' := 231) rfl (hb hby d1_226) rfl (XT.ii_eq_t hc226) (by decide) (by decide) k) ?_
        show OwnOut p e s below 0 0 _ (T.setTop (mkF m 231 #[.val (.ref b0), s1, .val (.int x2), .val (.int x3), s4, .val (.int x5), s6, s7, s8, .val (.int x9)] []))
        refine OwnOut.go (fun t k => XT.iincV X0.here hx rfl (1 : Int32) (hb hby d1_231) rfl rfl (l' := #[.val (.ref b0), s1, .val (.int x2), .val (.int x3), s4, .val (.int x5), s6, s7, s8, .val (.int (x9 + (1 : Int32)))]) rfl k) ?_
        show OwnOut p e s below 0 0 _ (T.setTop (mkF m 234 #[.val (.ref b0), s1, .val (.int x2), .val (.int x3), s4, .val (.int x5), s6, s7, s8, .val (.int (x9 + (1 : Int32)))] []))
        refine OwnOut.go (fun t k => XS.goto X0.here hx rfl (pc0 := 234) (pc' := 206) rfl (hb hby d1_234) (by decide) (by decide) k) ?_
        show OwnOut p e s below 0 0 _ (T.setTop (mkF m 206 #[.val (.ref b0), s1, .val (.int x2), .val (.int x3), s4, .val (.int x5), s6, s7, s8, .val (.int (x9 + (1 : Int32)))] []))
        exact ih _ (s1) x2 x3 (s4) x5 (s6) (s7) (s8) (x9 + (1 : Int32)) b0 l0 _ hr X0 e0 A0 hs1 hs4 hs6 hs7 hs8
      · rw [if_neg hc226] at hr
        refine OwnOut.go (fun t k => XS.icmpNo X0.here hx rfl (hb hby d1_226) rfl (XT.ii_eq_f hc226) k) ?_
        show OwnOut p e s below 0 0 _ (T.setTop (mkF m 229 #[.val (.ref b0), s1, .val (.int x2), .val (.int x3), s4, .val (.int x5), s6, s7, s8, .val (.int x9)] []))
        refine OwnOut.go (fun t k => XS.iloadN X0.here hx rfl (hb hby d1_229) rfl k) ?_
        show OwnOut p e s below 0 0 _ (T.setTop (mkF m 230 #[.val (.ref b0), s1, .val (.int x2), .val (.int x3), s4, .val (.int x5), s6, s7, s8, .val (.int x9)] [(.int x3)]))
        cases hr
        exact outI X0 hx hret (hb hby d1_230) hlk (by decide) (by decide) ⟨rfl, e0, rfl⟩
def f1_166 (k2 : Int32 → Int32 → (List Int32) → Option (Int32)) (x2 : Int32) (x3 : Int32) (x5 : Int32) (x6 : Int32) (x7 : Int32) (l0 : List Int32) : Option (Int32) := (if x5 < (x2 - x3) then ((ldx l0 (x3 + (1 : Int32))).bind fun v2 => (if (v2 &&& (255 : Int32)) < x6 then some (x3) else (if x7 < (v2 &&& (255 : Int32)) then some (x3) else (f1_206 k2 4 x2 x3 x5 (2 : Int32) l0)))) else some (x3))
set_option maxRecDepth 65536 in
set_option maxHeartbeats 40000000 in
theorem w1_166 {p : Program} {l : Launch} {e : Env} {s : State} {m : MethodId} {args : Array Value} {below : List Frame} {meth : Method} {c : Code} {Z : State} {a0 : Array Value} {h0 : Heap} (C : Cx1 Z a0 p s m meth c) (k2 : Int32 → Int32 → (List Int32) → Option (Int32)) (hk2 : ∀ (T : State) (s1 : Slot) (x2 : Int32) (x3 : Int32) (s4 : Slot) (s5 : Slot) (s6 : Slot) (s7 : Slot) (s8 : Slot) (s9 : Slot) (b0 : Addr) (l0 : List Int32) (o : Int32), k2 x2 x3 l0 = some o → Stand p l e rx1 s m args below meth c T [] 0 0 → T.heap = h0 → (Ari Z h0 b0 .byte l0) → (One s1) → (One s4) → (One s5) → (One s6) → (One s7) → (One s8) → (One s9) →  OwnOut p e s below 0 0 (Q1 Z default default b0 l0 h0 o) (T.setTop (mkF m 2 #[.val (.ref b0), s1, .val (.int x2), .val (.int x3), s4, s5, s6, s7, s8, s9] []))) :
    ∀ (T : State) (s1 : Slot) (x2 : Int32) (x3 : Int32) (s4 : Slot) (x5 : Int32) (x6 : Int32) (x7 : Int32) (s8 : Slot) (s9 : Slot) (b0 : Addr) (l0 : List Int32) (o : Int32), f1_166 k2 x2 x3 x5 x6 x7 l0 = some o → Stand p l e rx1 s m args below meth c T [] 0 0 → T.heap = h0 → (Ari Z h0 b0 .byte l0) → (One s1) → (One s4) → (One s8) → (One s9) →  OwnOut p e s below 0 0 (Q1 Z default default b0 l0 h0 o) (T.setTop (mkF m 166 #[.val (.ref b0), s1, .val (.int x2), .val (.int x3), s4, .val (.int x5), .val (.int x6), .val (.int x7), s8, s9] [])) := by
    obtain ⟨hx, hZ, hw, hby, hml, hown, hret, hlk, hnm⟩ := C
    intro T s1 x2 x3 s4 x5 x6 x7 s8 s9 b0 l0 o hr X0 e0 A0 hs1 hs4 hs8 hs9
    rw [f1_166] at hr
    refine OwnOut.go (fun t k => XS.iloadN X0.here hx rfl (hb hby d1_166) rfl k) ?_
    show OwnOut p e s below 0 0 _ (T.setTop (mkF m 167 #[.val (.ref b0), s1, .val (.int x2), .val (.int x3), s4, .val (.int x5), .val (.int x6), .val (.int x7), s8, s9] [(.int x2)]))
    refine OwnOut.go (fun t k => XS.iloadN X0.here hx rfl (hb hby d1_167) rfl k) ?_
    show OwnOut p e s below 0 0 _ (T.setTop (mkF m 168 #[.val (.ref b0), s1, .val (.int x2), .val (.int x3), s4, .val (.int x5), .val (.int x6), .val (.int x7), s8, s9] [(.int x3), (.int x2)]))
    refine OwnOut.go (fun t k => XS.isub X0.here hx rfl (hb hby d1_168) rfl k) ?_
    show OwnOut p e s below 0 0 _ (T.setTop (mkF m 169 #[.val (.ref b0), s1, .val (.int x2), .val (.int x3), s4, .val (.int x5), .val (.int x6), .val (.int x7), s8, s9] [(.int (x2 - x3))]))
    refine OwnOut.go (fun t k => XS.iload X0.here hx rfl (hb hby d1_169) rfl k) ?_
    show OwnOut p e s below 0 0 _ (T.setTop (mkF m 171 #[.val (.ref b0), s1, .val (.int x2), .val (.int x3), s4, .val (.int x5), .val (.int x6), .val (.int x7), s8, s9] [(.int x5), (.int (x2 - x3))]))
    by_cases hc171 : x5 < (x2 - x3)
    · rw [if_pos hc171] at hr
      refine OwnOut.go (fun t k => XS.icmpYes X0.here hx rfl (pc0 := 171) (pc' := 176) rfl (hb hby d1_171) rfl (XT.ii_gt_t hc171) (by decide) (by decide) k) ?_
      show OwnOut p e s below 0 0 _ (T.setTop (mkF m 176 #[.val (.ref b0), s1, .val (.int x2), .val (.int x3), s4, .val (.int x5), .val (.int x6), .val (.int x7), s8, s9] []))
      refine OwnOut.go (fun t k => XS.aloadN X0.here hx rfl (hb hby d1_176) rfl rfl k) ?_
      show OwnOut p e s below 0 0 _ (T.setTop (mkF m 177 #[.val (.ref b0), s1, .val (.int x2), .val (.int x3), s4, .val (.int x5), .val (.int x6), .val (.int x7), s8, s9] [(.ref b0)]))
      refine OwnOut.go (fun t k => XS.iloadN X0.here hx rfl (hb hby d1_177) rfl k) ?_
      show OwnOut p e s below 0 0 _ (T.setTop (mkF m 178 #[.val (.ref b0), s1, .val (.int x2), .val (.int x3), s4, .val (.int x5), .val (.int x6), .val (.int x7), s8, s9] [(.int x3), (.ref b0)]))
      refine OwnOut.go (fun t k => XT.iconstV X0.here hx rfl (1 : Int32) (hb hby d1_178) rfl k) ?_
      show OwnOut p e s below 0 0 _ (T.setTop (mkF m 179 #[.val (.ref b0), s1, .val (.int x2), .val (.int x3), s4, .val (.int x5), .val (.int x6), .val (.int x7), s8, s9] [(.int (1 : Int32)), (.int x3), (.ref b0)]))
      refine OwnOut.go (fun t k => XS.iadd X0.here hx rfl (hb hby d1_179) rfl k) ?_
      show OwnOut p e s below 0 0 _ (T.setTop (mkF m 180 #[.val (.ref b0), s1, .val (.int x2), .val (.int x3), s4, .val (.int x5), .val (.int x6), .val (.int x7), s8, s9] [(.int (x3 + (1 : Int32))), (.ref b0)]))
      obtain ⟨v2, hv2, hr⟩ := Option.bind_eq_some_iff.mp hr
      refine OwnOut.go (fun t k => ldB X0 hx hZ e0 A0 hv2 (g := (mkF m 180 #[.val (.ref b0), s1, .val (.int x2), .val (.int x3), s4, .val (.int x5), .val (.int x6), .val (.int x7), s8, s9] [(.int (x3 + (1 : Int32))), (.ref b0)])) rfl rfl (hb hby d1_180) t k) ?_
      show OwnOut p e s below 0 0 _ (T.setTop (mkF m 181 #[.val (.ref b0), s1, .val (.int x2), .val (.int x3), s4, .val (.int x5), .val (.int x6), .val (.int x7), s8, s9] [(.int v2)]))
      refine OwnOut.go (fun t k => XT.sipushV X0.here hx rfl (255 : Int32) (hb hby d1_181) rfl k) ?_
      show OwnOut p e s below 0 0 _ (T.setTop (mkF m 184 #[.val (.ref b0), s1, .val (.int x2), .val (.int x3), s4, .val (.int x5), .val (.int x6), .val (.int x7), s8, s9] [(.int (255 : Int32)), (.int v2)]))
      refine OwnOut.go (fun t k => XS.iand X0.here hx rfl (hb hby d1_184) rfl k) ?_
      show OwnOut p e s below 0 0 _ (T.setTop (mkF m 185 #[.val (.ref b0), s1, .val (.int x2), .val (.int x3), s4, .val (.int x5), .val (.int x6), .val (.int x7), s8, s9] [(.int (v2 &&& (255 : Int32)))]))
      refine OwnOut.go (fun t k => XS.istoreS X0.here hx rfl (hb hby d1_185) rfl rfl hs8 k) ?_
      show OwnOut p e s below 0 0 _ (T.setTop (mkF m 187 #[.val (.ref b0), s1, .val (.int x2), .val (.int x3), s4, .val (.int x5), .val (.int x6), .val (.int x7), .val (.int (v2 &&& (255 : Int32))), s9] []))
      refine OwnOut.go (fun t k => XS.iload X0.here hx rfl (hb hby d1_187) rfl k) ?_
      show OwnOut p e s below 0 0 _ (T.setTop (mkF m 189 #[.val (.ref b0), s1, .val (.int x2), .val (.int x3), s4, .val (.int x5), .val (.int x6), .val (.int x7), .val (.int (v2 &&& (255 : Int32))), s9] [(.int (v2 &&& (255 : Int32)))]))
      refine OwnOut.go (fun t k => XS.iload X0.here hx rfl (hb hby d1_189) rfl k) ?_
      show OwnOut p e s below 0 0 _ (T.setTop (mkF m 191 #[.val (.ref b0), s1, .val (.int x2), .val (.int x3), s4, .val (.int x5), .val (.int x6), .val (.int x7), .val (.int (v2 &&& (255 : Int32))), s9] [(.int x6), (.int (v2 &&& (255 : Int32)))]))
      by_cases hc191 : (v2 &&& (255 : Int32)) < x6
      · rw [if_pos hc191] at hr
        refine OwnOut.go (fun t k => XS.icmpYes X0.here hx rfl (pc0 := 191) (pc' := 201) rfl (hb hby d1_191) rfl (XT.ii_lt_t hc191) (by decide) (by decide) k) ?_
        show OwnOut p e s below 0 0 _ (T.setTop (mkF m 201 #[.val (.ref b0), s1, .val (.int x2), .val (.int x3), s4, .val (.int x5), .val (.int x6), .val (.int x7), .val (.int (v2 &&& (255 : Int32))), s9] []))
        refine OwnOut.go (fun t k => XS.iloadN X0.here hx rfl (hb hby d1_201) rfl k) ?_
        show OwnOut p e s below 0 0 _ (T.setTop (mkF m 202 #[.val (.ref b0), s1, .val (.int x2), .val (.int x3), s4, .val (.int x5), .val (.int x6), .val (.int x7), .val (.int (v2 &&& (255 : Int32))), s9] [(.int x3)]))
        cases hr
        exact outI X0 hx hret (hb hby d1_202) hlk (by decide) (by decide) ⟨rfl, e0, rfl⟩
      · rw [if_neg hc191] at hr
        refine OwnOut.go (fun t k => XS.icmpNo X0.here hx rfl (hb hby d1_191) rfl (XT.ii_lt_f hc191) k) ?_
        show OwnOut p e s below 0 0 _ (T.setTop (mkF m 194 #[.val (.ref b0), s1, .val (.int x2), .val (.int x3), s4, .val (.int x5), .val (.int x6), .val (.int x7), .val (.int (v2 &&& (255 : Int32))), s9] []))
        refine OwnOut.go (fun t k => XS.iload X0.here hx rfl (hb hby d1_194) rfl k) ?_
        show OwnOut p e s below 0 0 _ (T.setTop (mkF m 196 #[.val (.ref b0), s1, .val (.int x2), .val (.int x3), s4, .val (.int x5), .val (.int x6), .val (.int x7), .val (.int (v2 &&& (255 : Int32))), s9] [(.int (v2 &&& (255 : Int32)))]))
        refine OwnOut.go (fun t k => XS.iload X0.here hx rfl (hb hby d1_196) rfl k) ?_
        show OwnOut p e s below 0 0 _ (T.setTop (mkF m 198 #[.val (.ref b0), s1, .val (.int x2), .val (.int x3), s4, .val (.int x5), .val (.int x6), .val (.int x7), .val (.int (v2 &&& (255 : Int32))), s9] [(.int x7), (.int (v2 &&& (255 : Int32)))]))
        by_cases hc198 : x7 < (v2 &&& (255 : Int32))
        · rw [if_pos hc198] at hr
          refine OwnOut.go (fun t k => XS.icmpNo X0.here hx rfl (hb hby d1_198) rfl (XT.ii_le_f hc198) k) ?_
          show OwnOut p e s below 0 0 _ (T.setTop (mkF m 201 #[.val (.ref b0), s1, .val (.int x2), .val (.int x3), s4, .val (.int x5), .val (.int x6), .val (.int x7), .val (.int (v2 &&& (255 : Int32))), s9] []))
          refine OwnOut.go (fun t k => XS.iloadN X0.here hx rfl (hb hby d1_201) rfl k) ?_
          show OwnOut p e s below 0 0 _ (T.setTop (mkF m 202 #[.val (.ref b0), s1, .val (.int x2), .val (.int x3), s4, .val (.int x5), .val (.int x6), .val (.int x7), .val (.int (v2 &&& (255 : Int32))), s9] [(.int x3)]))
          cases hr
          exact outI X0 hx hret (hb hby d1_202) hlk (by decide) (by decide) ⟨rfl, e0, rfl⟩
        · rw [if_neg hc198] at hr
          refine OwnOut.go (fun t k => XS.icmpYes X0.here hx rfl (pc0 := 198) (pc' := 203) rfl (hb hby d1_198) rfl (XT.ii_le_t hc198) (by decide) (by decide) k) ?_
          show OwnOut p e s below 0 0 _ (T.setTop (mkF m 203 #[.val (.ref b0), s1, .val (.int x2), .val (.int x3), s4, .val (.int x5), .val (.int x6), .val (.int x7), .val (.int (v2 &&& (255 : Int32))), s9] []))
          refine OwnOut.go (fun t k => XT.iconstV X0.here hx rfl (2 : Int32) (hb hby d1_203) rfl k) ?_
          show OwnOut p e s below 0 0 _ (T.setTop (mkF m 204 #[.val (.ref b0), s1, .val (.int x2), .val (.int x3), s4, .val (.int x5), .val (.int x6), .val (.int x7), .val (.int (v2 &&& (255 : Int32))), s9] [(.int (2 : Int32))]))
          refine OwnOut.go (fun t k => XS.istoreS X0.here hx rfl (hb hby d1_204) rfl rfl hs9 k) ?_
          show OwnOut p e s below 0 0 _ (T.setTop (mkF m 206 #[.val (.ref b0), s1, .val (.int x2), .val (.int x3), s4, .val (.int x5), .val (.int x6), .val (.int x7), .val (.int (v2 &&& (255 : Int32))), .val (.int (2 : Int32))] []))
          exact w1_206 ⟨hx, hZ, hw, hby, hml, hown, hret, hlk, hnm⟩ k2 hk2 4  _ (s1) x2 x3 (s4) x5 (.val (.int x6)) (.val (.int x7)) (.val (.int (v2 &&& (255 : Int32)))) (2 : Int32) b0 l0 _ hr X0 e0 A0 hs1 hs4 (One.val rfl) (One.val rfl) (One.val rfl)
    · rw [if_neg hc171] at hr
      refine OwnOut.go (fun t k => XS.icmpNo X0.here hx rfl (hb hby d1_171) rfl (XT.ii_gt_f hc171) k) ?_
      show OwnOut p e s below 0 0 _ (T.setTop (mkF m 174 #[.val (.ref b0), s1, .val (.int x2), .val (.int x3), s4, .val (.int x5), .val (.int x6), .val (.int x7), s8, s9] []))
      refine OwnOut.go (fun t k => XS.iloadN X0.here hx rfl (hb hby d1_174) rfl k) ?_
      show OwnOut p e s below 0 0 _ (T.setTop (mkF m 175 #[.val (.ref b0), s1, .val (.int x2), .val (.int x3), s4, .val (.int x5), .val (.int x6), .val (.int x7), s8, s9] [(.int x3)]))
      cases hr
      exact outI X0 hx hret (hb hby d1_175) hlk (by decide) (by decide) ⟨rfl, e0, rfl⟩
def f1_113 (k2 : Int32 → Int32 → (List Int32) → Option (Int32)) (x2 : Int32) (x3 : Int32) (x4 : Int32) (x6 : Int32) (x7 : Int32) (l0 : List Int32) : Option (Int32) := (if x4 < (240 : Int32) then some (x3) else (if (244 : Int32) < x4 then some (x3) else (if x4 = (240 : Int32) then (f1_166 k2 x2 x3 (3 : Int32) (144 : Int32) x7 l0) else (if x4 = (244 : Int32) then (f1_166 k2 x2 x3 (3 : Int32) x6 (143 : Int32) l0) else (f1_166 k2 x2 x3 (3 : Int32) x6 x7 l0)))))
set_option maxRecDepth 65536 in
set_option maxHeartbeats 40000000 in
theorem w1_113 {p : Program} {l : Launch} {e : Env} {s : State} {m : MethodId} {args : Array Value} {below : List Frame} {meth : Method} {c : Code} {Z : State} {a0 : Array Value} {h0 : Heap} (C : Cx1 Z a0 p s m meth c) (k2 : Int32 → Int32 → (List Int32) → Option (Int32)) (hk2 : ∀ (T : State) (s1 : Slot) (x2 : Int32) (x3 : Int32) (s4 : Slot) (s5 : Slot) (s6 : Slot) (s7 : Slot) (s8 : Slot) (s9 : Slot) (b0 : Addr) (l0 : List Int32) (o : Int32), k2 x2 x3 l0 = some o → Stand p l e rx1 s m args below meth c T [] 0 0 → T.heap = h0 → (Ari Z h0 b0 .byte l0) → (One s1) → (One s4) → (One s5) → (One s6) → (One s7) → (One s8) → (One s9) →  OwnOut p e s below 0 0 (Q1 Z default default b0 l0 h0 o) (T.setTop (mkF m 2 #[.val (.ref b0), s1, .val (.int x2), .val (.int x3), s4, s5, s6, s7, s8, s9] []))) :
    ∀ (T : State) (s1 : Slot) (x2 : Int32) (x3 : Int32) (x4 : Int32) (s5 : Slot) (x6 : Int32) (x7 : Int32) (s8 : Slot) (s9 : Slot) (b0 : Addr) (l0 : List Int32) (o : Int32), f1_113 k2 x2 x3 x4 x6 x7 l0 = some o → Stand p l e rx1 s m args below meth c T [] 0 0 → T.heap = h0 → (Ari Z h0 b0 .byte l0) → (One s1) → (One s5) → (One s8) → (One s9) →  OwnOut p e s below 0 0 (Q1 Z default default b0 l0 h0 o) (T.setTop (mkF m 113 #[.val (.ref b0), s1, .val (.int x2), .val (.int x3), .val (.int x4), s5, .val (.int x6), .val (.int x7), s8, s9] [])) := by
    obtain ⟨hx, hZ, hw, hby, hml, hown, hret, hlk, hnm⟩ := C
    intro T s1 x2 x3 x4 s5 x6 x7 s8 s9 b0 l0 o hr X0 e0 A0 hs1 hs5 hs8 hs9
    rw [f1_113] at hr
    refine OwnOut.go (fun t k => XS.iload X0.here hx rfl (hb hby d1_113) rfl k) ?_
    show OwnOut p e s below 0 0 _ (T.setTop (mkF m 115 #[.val (.ref b0), s1, .val (.int x2), .val (.int x3), .val (.int x4), s5, .val (.int x6), .val (.int x7), s8, s9] [(.int x4)]))
    refine OwnOut.go (fun t k => XT.sipushV X0.here hx rfl (240 : Int32) (hb hby d1_115) rfl k) ?_
    show OwnOut p e s below 0 0 _ (T.setTop (mkF m 118 #[.val (.ref b0), s1, .val (.int x2), .val (.int x3), .val (.int x4), s5, .val (.int x6), .val (.int x7), s8, s9] [(.int (240 : Int32)), (.int x4)]))
    by_cases hc118 : x4 < (240 : Int32)
    · rw [if_pos hc118] at hr
      refine OwnOut.go (fun t k => XS.icmpYes X0.here hx rfl (pc0 := 118) (pc' := 164) rfl (hb hby d1_118) rfl (XT.ii_lt_t hc118) (by decide) (by decide) k) ?_
      show OwnOut p e s below 0 0 _ (T.setTop (mkF m 164 #[.val (.ref b0), s1, .val (.int x2), .val (.int x3), .val (.int x4), s5, .val (.int x6), .val (.int x7), s8, s9] []))
      refine OwnOut.go (fun t k => XS.iloadN X0.here hx rfl (hb hby d1_164) rfl k) ?_
      show OwnOut p e s below 0 0 _ (T.setTop (mkF m 165 #[.val (.ref b0), s1, .val (.int x2), .val (.int x3), .val (.int x4), s5, .val (.int x6), .val (.int x7), s8, s9] [(.int x3)]))
      cases hr
      exact outI X0 hx hret (hb hby d1_165) hlk (by decide) (by decide) ⟨rfl, e0, rfl⟩
    · rw [if_neg hc118] at hr
      refine OwnOut.go (fun t k => XS.icmpNo X0.here hx rfl (hb hby d1_118) rfl (XT.ii_lt_f hc118) k) ?_
      show OwnOut p e s below 0 0 _ (T.setTop (mkF m 121 #[.val (.ref b0), s1, .val (.int x2), .val (.int x3), .val (.int x4), s5, .val (.int x6), .val (.int x7), s8, s9] []))
      refine OwnOut.go (fun t k => XS.iload X0.here hx rfl (hb hby d1_121) rfl k) ?_
      show OwnOut p e s below 0 0 _ (T.setTop (mkF m 123 #[.val (.ref b0), s1, .val (.int x2), .val (.int x3), .val (.int x4), s5, .val (.int x6), .val (.int x7), s8, s9] [(.int x4)]))
      refine OwnOut.go (fun t k => XT.sipushV X0.here hx rfl (244 : Int32) (hb hby d1_123) rfl k) ?_
      show OwnOut p e s below 0 0 _ (T.setTop (mkF m 126 #[.val (.ref b0), s1, .val (.int x2), .val (.int x3), .val (.int x4), s5, .val (.int x6), .val (.int x7), s8, s9] [(.int (244 : Int32)), (.int x4)]))
      by_cases hc126 : (244 : Int32) < x4
      · rw [if_pos hc126] at hr
        refine OwnOut.go (fun t k => XS.icmpYes X0.here hx rfl (pc0 := 126) (pc' := 164) rfl (hb hby d1_126) rfl (XT.ii_gt_t hc126) (by decide) (by decide) k) ?_
        show OwnOut p e s below 0 0 _ (T.setTop (mkF m 164 #[.val (.ref b0), s1, .val (.int x2), .val (.int x3), .val (.int x4), s5, .val (.int x6), .val (.int x7), s8, s9] []))
        refine OwnOut.go (fun t k => XS.iloadN X0.here hx rfl (hb hby d1_164) rfl k) ?_
        show OwnOut p e s below 0 0 _ (T.setTop (mkF m 165 #[.val (.ref b0), s1, .val (.int x2), .val (.int x3), .val (.int x4), s5, .val (.int x6), .val (.int x7), s8, s9] [(.int x3)]))
        cases hr
        exact outI X0 hx hret (hb hby d1_165) hlk (by decide) (by decide) ⟨rfl, e0, rfl⟩
      · rw [if_neg hc126] at hr
        refine OwnOut.go (fun t k => XS.icmpNo X0.here hx rfl (hb hby d1_126) rfl (XT.ii_gt_f hc126) k) ?_
        show OwnOut p e s below 0 0 _ (T.setTop (mkF m 129 #[.val (.ref b0), s1, .val (.int x2), .val (.int x3), .val (.int x4), s5, .val (.int x6), .val (.int x7), s8, s9] []))
        refine OwnOut.go (fun t k => XT.iconstV X0.here hx rfl (3 : Int32) (hb hby d1_129) rfl k) ?_
        show OwnOut p e s below 0 0 _ (T.setTop (mkF m 130 #[.val (.ref b0), s1, .val (.int x2), .val (.int x3), .val (.int x4), s5, .val (.int x6), .val (.int x7), s8, s9] [(.int (3 : Int32))]))
        refine OwnOut.go (fun t k => XS.istoreS X0.here hx rfl (hb hby d1_130) rfl rfl hs5 k) ?_
        show OwnOut p e s below 0 0 _ (T.setTop (mkF m 132 #[.val (.ref b0), s1, .val (.int x2), .val (.int x3), .val (.int x4), .val (.int (3 : Int32)), .val (.int x6), .val (.int x7), s8, s9] []))
        refine OwnOut.go (fun t k => XS.iload X0.here hx rfl (hb hby d1_132) rfl k) ?_
        show OwnOut p e s below 0 0 _ (T.setTop (mkF m 134 #[.val (.ref b0), s1, .val (.int x2), .val (.int x3), .val (.int x4), .val (.int (3 : Int32)), .val (.int x6), .val (.int x7), s8, s9] [(.int x4)]))
        refine OwnOut.go (fun t k => XT.sipushV X0.here hx rfl (240 : Int32) (hb hby d1_134) rfl k) ?_
        show OwnOut p e s below 0 0 _ (T.setTop (mkF m 137 #[.val (.ref b0), s1, .val (.int x2), .val (.int x3), .val (.int x4), .val (.int (3 : Int32)), .val (.int x6), .val (.int x7), s8, s9] [(.int (240 : Int32)), (.int x4)]))
        by_cases hc137 : x4 = (240 : Int32)
        · rw [if_pos hc137] at hr
          refine OwnOut.go (fun t k => XS.icmpNo X0.here hx rfl (hb hby d1_137) rfl (XT.ii_ne_f hc137) k) ?_
          show OwnOut p e s below 0 0 _ (T.setTop (mkF m 140 #[.val (.ref b0), s1, .val (.int x2), .val (.int x3), .val (.int x4), .val (.int (3 : Int32)), .val (.int x6), .val (.int x7), s8, s9] []))
          refine OwnOut.go (fun t k => XT.sipushV X0.here hx rfl (144 : Int32) (hb hby d1_140) rfl k) ?_
          show OwnOut p e s below 0 0 _ (T.setTop (mkF m 143 #[.val (.ref b0), s1, .val (.int x2), .val (.int x3), .val (.int x4), .val (.int (3 : Int32)), .val (.int x6), .val (.int x7), s8, s9] [(.int (144 : Int32))]))
          refine OwnOut.go (fun t k => XS.istore X0.here hx rfl (hb hby d1_143) rfl (l' := #[.val (.ref b0), s1, .val (.int x2), .val (.int x3), .val (.int x4), .val (.int (3 : Int32)), .val (.int (144 : Int32)), .val (.int x7), s8, s9]) rfl k) ?_
          show OwnOut p e s below 0 0 _ (T.setTop (mkF m 145 #[.val (.ref b0), s1, .val (.int x2), .val (.int x3), .val (.int x4), .val (.int (3 : Int32)), .val (.int (144 : Int32)), .val (.int x7), s8, s9] []))
          refine OwnOut.go (fun t k => XS.goto X0.here hx rfl (pc0 := 145) (pc' := 166) rfl (hb hby d1_145) (by decide) (by decide) k) ?_
          show OwnOut p e s below 0 0 _ (T.setTop (mkF m 166 #[.val (.ref b0), s1, .val (.int x2), .val (.int x3), .val (.int x4), .val (.int (3 : Int32)), .val (.int (144 : Int32)), .val (.int x7), s8, s9] []))
          exact w1_166 ⟨hx, hZ, hw, hby, hml, hown, hret, hlk, hnm⟩ k2 hk2  _ (s1) x2 x3 (.val (.int x4)) (3 : Int32) (144 : Int32) x7 (s8) (s9) b0 l0 _ hr X0 e0 A0 hs1 (One.val rfl) hs8 hs9
        · rw [if_neg hc137] at hr
          refine OwnOut.go (fun t k => XS.icmpYes X0.here hx rfl (pc0 := 137) (pc' := 148) rfl (hb hby d1_137) rfl (XT.ii_ne_t hc137) (by decide) (by decide) k) ?_
          show OwnOut p e s below 0 0 _ (T.setTop (mkF m 148 #[.val (.ref b0), s1, .val (.int x2), .val (.int x3), .val (.int x4), .val (.int (3 : Int32)), .val (.int x6), .val (.int x7), s8, s9] []))
          refine OwnOut.go (fun t k => XS.iload X0.here hx rfl (hb hby d1_148) rfl k) ?_
          show OwnOut p e s below 0 0 _ (T.setTop (mkF m 150 #[.val (.ref b0), s1, .val (.int x2), .val (.int x3), .val (.int x4), .val (.int (3 : Int32)), .val (.int x6), .val (.int x7), s8, s9] [(.int x4)]))
          refine OwnOut.go (fun t k => XT.sipushV X0.here hx rfl (244 : Int32) (hb hby d1_150) rfl k) ?_
          show OwnOut p e s below 0 0 _ (T.setTop (mkF m 153 #[.val (.ref b0), s1, .val (.int x2), .val (.int x3), .val (.int x4), .val (.int (3 : Int32)), .val (.int x6), .val (.int x7), s8, s9] [(.int (244 : Int32)), (.int x4)]))
          by_cases hc153 : x4 = (244 : Int32)
          · rw [if_pos hc153] at hr
            refine OwnOut.go (fun t k => XS.icmpNo X0.here hx rfl (hb hby d1_153) rfl (XT.ii_ne_f hc153) k) ?_
            show OwnOut p e s below 0 0 _ (T.setTop (mkF m 156 #[.val (.ref b0), s1, .val (.int x2), .val (.int x3), .val (.int x4), .val (.int (3 : Int32)), .val (.int x6), .val (.int x7), s8, s9] []))
            refine OwnOut.go (fun t k => XT.sipushV X0.here hx rfl (143 : Int32) (hb hby d1_156) rfl k) ?_
            show OwnOut p e s below 0 0 _ (T.setTop (mkF m 159 #[.val (.ref b0), s1, .val (.int x2), .val (.int x3), .val (.int x4), .val (.int (3 : Int32)), .val (.int x6), .val (.int x7), s8, s9] [(.int (143 : Int32))]))
            refine OwnOut.go (fun t k => XS.istore X0.here hx rfl (hb hby d1_159) rfl (l' := #[.val (.ref b0), s1, .val (.int x2), .val (.int x3), .val (.int x4), .val (.int (3 : Int32)), .val (.int x6), .val (.int (143 : Int32)), s8, s9]) rfl k) ?_
            show OwnOut p e s below 0 0 _ (T.setTop (mkF m 161 #[.val (.ref b0), s1, .val (.int x2), .val (.int x3), .val (.int x4), .val (.int (3 : Int32)), .val (.int x6), .val (.int (143 : Int32)), s8, s9] []))
            refine OwnOut.go (fun t k => XS.goto X0.here hx rfl (pc0 := 161) (pc' := 166) rfl (hb hby d1_161) (by decide) (by decide) k) ?_
            show OwnOut p e s below 0 0 _ (T.setTop (mkF m 166 #[.val (.ref b0), s1, .val (.int x2), .val (.int x3), .val (.int x4), .val (.int (3 : Int32)), .val (.int x6), .val (.int (143 : Int32)), s8, s9] []))
            exact w1_166 ⟨hx, hZ, hw, hby, hml, hown, hret, hlk, hnm⟩ k2 hk2  _ (s1) x2 x3 (.val (.int x4)) (3 : Int32) x6 (143 : Int32) (s8) (s9) b0 l0 _ hr X0 e0 A0 hs1 (One.val rfl) hs8 hs9
          · rw [if_neg hc153] at hr
            refine OwnOut.go (fun t k => XS.icmpYes X0.here hx rfl (pc0 := 153) (pc' := 166) rfl (hb hby d1_153) rfl (XT.ii_ne_t hc153) (by decide) (by decide) k) ?_
            show OwnOut p e s below 0 0 _ (T.setTop (mkF m 166 #[.val (.ref b0), s1, .val (.int x2), .val (.int x3), .val (.int x4), .val (.int (3 : Int32)), .val (.int x6), .val (.int x7), s8, s9] []))
            exact w1_166 ⟨hx, hZ, hw, hby, hml, hown, hret, hlk, hnm⟩ k2 hk2  _ (s1) x2 x3 (.val (.int x4)) (3 : Int32) x6 x7 (s8) (s9) b0 l0 _ hr X0 e0 A0 hs1 (One.val rfl) hs8 hs9
def f1_62 (k2 : Int32 → Int32 → (List Int32) → Option (Int32)) (x2 : Int32) (x3 : Int32) (x4 : Int32) (x6 : Int32) (x7 : Int32) (l0 : List Int32) : Option (Int32) := (if x4 < (224 : Int32) then (f1_113 k2 x2 x3 x4 x6 x7 l0) else (if (239 : Int32) < x4 then (f1_113 k2 x2 x3 x4 x6 x7 l0) else (if x4 = (224 : Int32) then (f1_166 k2 x2 x3 (2 : Int32) (160 : Int32) x7 l0) else (if x4 = (237 : Int32) then (f1_166 k2 x2 x3 (2 : Int32) x6 (159 : Int32) l0) else (f1_166 k2 x2 x3 (2 : Int32) x6 x7 l0)))))
set_option maxRecDepth 65536 in
set_option maxHeartbeats 40000000 in
theorem w1_62 {p : Program} {l : Launch} {e : Env} {s : State} {m : MethodId} {args : Array Value} {below : List Frame} {meth : Method} {c : Code} {Z : State} {a0 : Array Value} {h0 : Heap} (C : Cx1 Z a0 p s m meth c) (k2 : Int32 → Int32 → (List Int32) → Option (Int32)) (hk2 : ∀ (T : State) (s1 : Slot) (x2 : Int32) (x3 : Int32) (s4 : Slot) (s5 : Slot) (s6 : Slot) (s7 : Slot) (s8 : Slot) (s9 : Slot) (b0 : Addr) (l0 : List Int32) (o : Int32), k2 x2 x3 l0 = some o → Stand p l e rx1 s m args below meth c T [] 0 0 → T.heap = h0 → (Ari Z h0 b0 .byte l0) → (One s1) → (One s4) → (One s5) → (One s6) → (One s7) → (One s8) → (One s9) →  OwnOut p e s below 0 0 (Q1 Z default default b0 l0 h0 o) (T.setTop (mkF m 2 #[.val (.ref b0), s1, .val (.int x2), .val (.int x3), s4, s5, s6, s7, s8, s9] []))) :
    ∀ (T : State) (s1 : Slot) (x2 : Int32) (x3 : Int32) (x4 : Int32) (s5 : Slot) (x6 : Int32) (x7 : Int32) (s8 : Slot) (s9 : Slot) (b0 : Addr) (l0 : List Int32) (o : Int32), f1_62 k2 x2 x3 x4 x6 x7 l0 = some o → Stand p l e rx1 s m args below meth c T [] 0 0 → T.heap = h0 → (Ari Z h0 b0 .byte l0) → (One s1) → (One s5) → (One s8) → (One s9) →  OwnOut p e s below 0 0 (Q1 Z default default b0 l0 h0 o) (T.setTop (mkF m 62 #[.val (.ref b0), s1, .val (.int x2), .val (.int x3), .val (.int x4), s5, .val (.int x6), .val (.int x7), s8, s9] [])) := by
    obtain ⟨hx, hZ, hw, hby, hml, hown, hret, hlk, hnm⟩ := C
    intro T s1 x2 x3 x4 s5 x6 x7 s8 s9 b0 l0 o hr X0 e0 A0 hs1 hs5 hs8 hs9
    rw [f1_62] at hr
    refine OwnOut.go (fun t k => XS.iload X0.here hx rfl (hb hby d1_62) rfl k) ?_
    show OwnOut p e s below 0 0 _ (T.setTop (mkF m 64 #[.val (.ref b0), s1, .val (.int x2), .val (.int x3), .val (.int x4), s5, .val (.int x6), .val (.int x7), s8, s9] [(.int x4)]))
    refine OwnOut.go (fun t k => XT.sipushV X0.here hx rfl (224 : Int32) (hb hby d1_64) rfl k) ?_
    show OwnOut p e s below 0 0 _ (T.setTop (mkF m 67 #[.val (.ref b0), s1, .val (.int x2), .val (.int x3), .val (.int x4), s5, .val (.int x6), .val (.int x7), s8, s9] [(.int (224 : Int32)), (.int x4)]))
    by_cases hc67 : x4 < (224 : Int32)
    · rw [if_pos hc67] at hr
      refine OwnOut.go (fun t k => XS.icmpYes X0.here hx rfl (pc0 := 67) (pc' := 113) rfl (hb hby d1_67) rfl (XT.ii_lt_t hc67) (by decide) (by decide) k) ?_
      show OwnOut p e s below 0 0 _ (T.setTop (mkF m 113 #[.val (.ref b0), s1, .val (.int x2), .val (.int x3), .val (.int x4), s5, .val (.int x6), .val (.int x7), s8, s9] []))
      exact w1_113 ⟨hx, hZ, hw, hby, hml, hown, hret, hlk, hnm⟩ k2 hk2  _ (s1) x2 x3 x4 (s5) x6 x7 (s8) (s9) b0 l0 _ hr X0 e0 A0 hs1 hs5 hs8 hs9
    · rw [if_neg hc67] at hr
      refine OwnOut.go (fun t k => XS.icmpNo X0.here hx rfl (hb hby d1_67) rfl (XT.ii_lt_f hc67) k) ?_
      show OwnOut p e s below 0 0 _ (T.setTop (mkF m 70 #[.val (.ref b0), s1, .val (.int x2), .val (.int x3), .val (.int x4), s5, .val (.int x6), .val (.int x7), s8, s9] []))
      refine OwnOut.go (fun t k => XS.iload X0.here hx rfl (hb hby d1_70) rfl k) ?_
      show OwnOut p e s below 0 0 _ (T.setTop (mkF m 72 #[.val (.ref b0), s1, .val (.int x2), .val (.int x3), .val (.int x4), s5, .val (.int x6), .val (.int x7), s8, s9] [(.int x4)]))
      refine OwnOut.go (fun t k => XT.sipushV X0.here hx rfl (239 : Int32) (hb hby d1_72) rfl k) ?_
      show OwnOut p e s below 0 0 _ (T.setTop (mkF m 75 #[.val (.ref b0), s1, .val (.int x2), .val (.int x3), .val (.int x4), s5, .val (.int x6), .val (.int x7), s8, s9] [(.int (239 : Int32)), (.int x4)]))
      by_cases hc75 : (239 : Int32) < x4
      · rw [if_pos hc75] at hr
        refine OwnOut.go (fun t k => XS.icmpYes X0.here hx rfl (pc0 := 75) (pc' := 113) rfl (hb hby d1_75) rfl (XT.ii_gt_t hc75) (by decide) (by decide) k) ?_
        show OwnOut p e s below 0 0 _ (T.setTop (mkF m 113 #[.val (.ref b0), s1, .val (.int x2), .val (.int x3), .val (.int x4), s5, .val (.int x6), .val (.int x7), s8, s9] []))
        exact w1_113 ⟨hx, hZ, hw, hby, hml, hown, hret, hlk, hnm⟩ k2 hk2  _ (s1) x2 x3 x4 (s5) x6 x7 (s8) (s9) b0 l0 _ hr X0 e0 A0 hs1 hs5 hs8 hs9
      · rw [if_neg hc75] at hr
        refine OwnOut.go (fun t k => XS.icmpNo X0.here hx rfl (hb hby d1_75) rfl (XT.ii_gt_f hc75) k) ?_
        show OwnOut p e s below 0 0 _ (T.setTop (mkF m 78 #[.val (.ref b0), s1, .val (.int x2), .val (.int x3), .val (.int x4), s5, .val (.int x6), .val (.int x7), s8, s9] []))
        refine OwnOut.go (fun t k => XT.iconstV X0.here hx rfl (2 : Int32) (hb hby d1_78) rfl k) ?_
        show OwnOut p e s below 0 0 _ (T.setTop (mkF m 79 #[.val (.ref b0), s1, .val (.int x2), .val (.int x3), .val (.int x4), s5, .val (.int x6), .val (.int x7), s8, s9] [(.int (2 : Int32))]))
        refine OwnOut.go (fun t k => XS.istoreS X0.here hx rfl (hb hby d1_79) rfl rfl hs5 k) ?_
        show OwnOut p e s below 0 0 _ (T.setTop (mkF m 81 #[.val (.ref b0), s1, .val (.int x2), .val (.int x3), .val (.int x4), .val (.int (2 : Int32)), .val (.int x6), .val (.int x7), s8, s9] []))
        refine OwnOut.go (fun t k => XS.iload X0.here hx rfl (hb hby d1_81) rfl k) ?_
        show OwnOut p e s below 0 0 _ (T.setTop (mkF m 83 #[.val (.ref b0), s1, .val (.int x2), .val (.int x3), .val (.int x4), .val (.int (2 : Int32)), .val (.int x6), .val (.int x7), s8, s9] [(.int x4)]))
        refine OwnOut.go (fun t k => XT.sipushV X0.here hx rfl (224 : Int32) (hb hby d1_83) rfl k) ?_
        show OwnOut p e s below 0 0 _ (T.setTop (mkF m 86 #[.val (.ref b0), s1, .val (.int x2), .val (.int x3), .val (.int x4), .val (.int (2 : Int32)), .val (.int x6), .val (.int x7), s8, s9] [(.int (224 : Int32)), (.int x4)]))
        by_cases hc86 : x4 = (224 : Int32)
        · rw [if_pos hc86] at hr
          refine OwnOut.go (fun t k => XS.icmpNo X0.here hx rfl (hb hby d1_86) rfl (XT.ii_ne_f hc86) k) ?_
          show OwnOut p e s below 0 0 _ (T.setTop (mkF m 89 #[.val (.ref b0), s1, .val (.int x2), .val (.int x3), .val (.int x4), .val (.int (2 : Int32)), .val (.int x6), .val (.int x7), s8, s9] []))
          refine OwnOut.go (fun t k => XT.sipushV X0.here hx rfl (160 : Int32) (hb hby d1_89) rfl k) ?_
          show OwnOut p e s below 0 0 _ (T.setTop (mkF m 92 #[.val (.ref b0), s1, .val (.int x2), .val (.int x3), .val (.int x4), .val (.int (2 : Int32)), .val (.int x6), .val (.int x7), s8, s9] [(.int (160 : Int32))]))
          refine OwnOut.go (fun t k => XS.istore X0.here hx rfl (hb hby d1_92) rfl (l' := #[.val (.ref b0), s1, .val (.int x2), .val (.int x3), .val (.int x4), .val (.int (2 : Int32)), .val (.int (160 : Int32)), .val (.int x7), s8, s9]) rfl k) ?_
          show OwnOut p e s below 0 0 _ (T.setTop (mkF m 94 #[.val (.ref b0), s1, .val (.int x2), .val (.int x3), .val (.int x4), .val (.int (2 : Int32)), .val (.int (160 : Int32)), .val (.int x7), s8, s9] []))
          refine OwnOut.go (fun t k => XS.goto X0.here hx rfl (pc0 := 94) (pc' := 166) rfl (hb hby d1_94) (by decide) (by decide) k) ?_
          show OwnOut p e s below 0 0 _ (T.setTop (mkF m 166 #[.val (.ref b0), s1, .val (.int x2), .val (.int x3), .val (.int x4), .val (.int (2 : Int32)), .val (.int (160 : Int32)), .val (.int x7), s8, s9] []))
          exact w1_166 ⟨hx, hZ, hw, hby, hml, hown, hret, hlk, hnm⟩ k2 hk2  _ (s1) x2 x3 (.val (.int x4)) (2 : Int32) (160 : Int32) x7 (s8) (s9) b0 l0 _ hr X0 e0 A0 hs1 (One.val rfl) hs8 hs9
        · rw [if_neg hc86] at hr
          refine OwnOut.go (fun t k => XS.icmpYes X0.here hx rfl (pc0 := 86) (pc' := 97) rfl (hb hby d1_86) rfl (XT.ii_ne_t hc86) (by decide) (by decide) k) ?_
          show OwnOut p e s below 0 0 _ (T.setTop (mkF m 97 #[.val (.ref b0), s1, .val (.int x2), .val (.int x3), .val (.int x4), .val (.int (2 : Int32)), .val (.int x6), .val (.int x7), s8, s9] []))
          refine OwnOut.go (fun t k => XS.iload X0.here hx rfl (hb hby d1_97) rfl k) ?_
          show OwnOut p e s below 0 0 _ (T.setTop (mkF m 99 #[.val (.ref b0), s1, .val (.int x2), .val (.int x3), .val (.int x4), .val (.int (2 : Int32)), .val (.int x6), .val (.int x7), s8, s9] [(.int x4)]))
          refine OwnOut.go (fun t k => XT.sipushV X0.here hx rfl (237 : Int32) (hb hby d1_99) rfl k) ?_
          show OwnOut p e s below 0 0 _ (T.setTop (mkF m 102 #[.val (.ref b0), s1, .val (.int x2), .val (.int x3), .val (.int x4), .val (.int (2 : Int32)), .val (.int x6), .val (.int x7), s8, s9] [(.int (237 : Int32)), (.int x4)]))
          by_cases hc102 : x4 = (237 : Int32)
          · rw [if_pos hc102] at hr
            refine OwnOut.go (fun t k => XS.icmpNo X0.here hx rfl (hb hby d1_102) rfl (XT.ii_ne_f hc102) k) ?_
            show OwnOut p e s below 0 0 _ (T.setTop (mkF m 105 #[.val (.ref b0), s1, .val (.int x2), .val (.int x3), .val (.int x4), .val (.int (2 : Int32)), .val (.int x6), .val (.int x7), s8, s9] []))
            refine OwnOut.go (fun t k => XT.sipushV X0.here hx rfl (159 : Int32) (hb hby d1_105) rfl k) ?_
            show OwnOut p e s below 0 0 _ (T.setTop (mkF m 108 #[.val (.ref b0), s1, .val (.int x2), .val (.int x3), .val (.int x4), .val (.int (2 : Int32)), .val (.int x6), .val (.int x7), s8, s9] [(.int (159 : Int32))]))
            refine OwnOut.go (fun t k => XS.istore X0.here hx rfl (hb hby d1_108) rfl (l' := #[.val (.ref b0), s1, .val (.int x2), .val (.int x3), .val (.int x4), .val (.int (2 : Int32)), .val (.int x6), .val (.int (159 : Int32)), s8, s9]) rfl k) ?_
            show OwnOut p e s below 0 0 _ (T.setTop (mkF m 110 #[.val (.ref b0), s1, .val (.int x2), .val (.int x3), .val (.int x4), .val (.int (2 : Int32)), .val (.int x6), .val (.int (159 : Int32)), s8, s9] []))
            refine OwnOut.go (fun t k => XS.goto X0.here hx rfl (pc0 := 110) (pc' := 166) rfl (hb hby d1_110) (by decide) (by decide) k) ?_
            show OwnOut p e s below 0 0 _ (T.setTop (mkF m 166 #[.val (.ref b0), s1, .val (.int x2), .val (.int x3), .val (.int x4), .val (.int (2 : Int32)), .val (.int x6), .val (.int (159 : Int32)), s8, s9] []))
            exact w1_166 ⟨hx, hZ, hw, hby, hml, hown, hret, hlk, hnm⟩ k2 hk2  _ (s1) x2 x3 (.val (.int x4)) (2 : Int32) x6 (159 : Int32) (s8) (s9) b0 l0 _ hr X0 e0 A0 hs1 (One.val rfl) hs8 hs9
          · rw [if_neg hc102] at hr
            refine OwnOut.go (fun t k => XS.icmpYes X0.here hx rfl (pc0 := 102) (pc' := 166) rfl (hb hby d1_102) rfl (XT.ii_ne_t hc102) (by decide) (by decide) k) ?_
            show OwnOut p e s below 0 0 _ (T.setTop (mkF m 166 #[.val (.ref b0), s1, .val (.int x2), .val (.int x3), .val (.int x4), .val (.int (2 : Int32)), .val (.int x6), .val (.int x7), s8, s9] []))
            exact w1_166 ⟨hx, hZ, hw, hby, hml, hown, hret, hlk, hnm⟩ k2 hk2  _ (s1) x2 x3 (.val (.int x4)) (2 : Int32) x6 x7 (s8) (s9) b0 l0 _ hr X0 e0 A0 hs1 (One.val rfl) hs8 hs9
def f1_2 : Nat → Int32 → Int32 → (List Int32) → Option (Int32)
  | 0, _, _, _ => none
  | n + 1, x2, x3, l0 => (if x3 < x2 then ((ldx l0 x3).bind fun v1 => (if (v1 &&& (255 : Int32)) < (128 : Int32) then (f1_2 n x2 (x3 + (1 : Int32)) l0) else (if (v1 &&& (255 : Int32)) < (194 : Int32) then (f1_62 (f1_2 n) x2 x3 (v1 &&& (255 : Int32)) (128 : Int32) (191 : Int32) l0) else (if (223 : Int32) < (v1 &&& (255 : Int32)) then (f1_62 (f1_2 n) x2 x3 (v1 &&& (255 : Int32)) (128 : Int32) (191 : Int32) l0) else (f1_166 (f1_2 n) x2 x3 (1 : Int32) (128 : Int32) (191 : Int32) l0))))) else some ((-1 : Int32)))
set_option maxRecDepth 65536 in
set_option maxHeartbeats 40000000 in
theorem w1_2 {p : Program} {l : Launch} {e : Env} {s : State} {m : MethodId} {args : Array Value} {below : List Frame} {meth : Method} {c : Code} {Z : State} {a0 : Array Value} {h0 : Heap} (C : Cx1 Z a0 p s m meth c) (n : Nat) :
    ∀ (T : State) (s1 : Slot) (x2 : Int32) (x3 : Int32) (s4 : Slot) (s5 : Slot) (s6 : Slot) (s7 : Slot) (s8 : Slot) (s9 : Slot) (b0 : Addr) (l0 : List Int32) (o : Int32), f1_2 n x2 x3 l0 = some o → Stand p l e rx1 s m args below meth c T [] 0 0 → T.heap = h0 → (Ari Z h0 b0 .byte l0) → (One s1) → (One s4) → (One s5) → (One s6) → (One s7) → (One s8) → (One s9) →  OwnOut p e s below 0 0 (Q1 Z default default b0 l0 h0 o) (T.setTop (mkF m 2 #[.val (.ref b0), s1, .val (.int x2), .val (.int x3), s4, s5, s6, s7, s8, s9] [])) := by
  obtain ⟨hx, hZ, hw, hby, hml, hown, hret, hlk, hnm⟩ := C
  induction n with
  | zero => intro T s1 x2 x3 s4 s5 s6 s7 s8 s9 b0 l0 o hr X0 e0 A0 hs1 hs4 hs5 hs6 hs7 hs8 hs9; rw [f1_2] at hr; cases hr
  | succ n ih =>
    intro T s1 x2 x3 s4 s5 s6 s7 s8 s9 b0 l0 o hr X0 e0 A0 hs1 hs4 hs5 hs6 hs7 hs8 hs9
    rw [f1_2] at hr
    refine OwnOut.go (fun t k => XS.iloadN X0.here hx rfl (hb hby d1_2) rfl k) ?_
    show OwnOut p e s below 0 0 _ (T.setTop (mkF m 3 #[.val (.ref b0), s1, .val (.int x2), .val (.int x3), s4, s5, s6, s7, s8, s9] [(.int x3)]))
    refine OwnOut.go (fun t k => XS.iloadN X0.here hx rfl (hb hby d1_3) rfl k) ?_
    show OwnOut p e s below 0 0 _ (T.setTop (mkF m 4 #[.val (.ref b0), s1, .val (.int x2), .val (.int x3), s4, s5, s6, s7, s8, s9] [(.int x2), (.int x3)]))
    by_cases hc4 : x3 < x2
    · rw [if_pos hc4] at hr
      refine OwnOut.go (fun t k => XS.icmpNo X0.here hx rfl (hb hby d1_4) rfl (XT.ii_ge_f hc4) k) ?_
      show OwnOut p e s below 0 0 _ (T.setTop (mkF m 7 #[.val (.ref b0), s1, .val (.int x2), .val (.int x3), s4, s5, s6, s7, s8, s9] []))
      refine OwnOut.go (fun t k => XS.aloadN X0.here hx rfl (hb hby d1_7) rfl rfl k) ?_
      show OwnOut p e s below 0 0 _ (T.setTop (mkF m 8 #[.val (.ref b0), s1, .val (.int x2), .val (.int x3), s4, s5, s6, s7, s8, s9] [(.ref b0)]))
      refine OwnOut.go (fun t k => XS.iloadN X0.here hx rfl (hb hby d1_8) rfl k) ?_
      show OwnOut p e s below 0 0 _ (T.setTop (mkF m 9 #[.val (.ref b0), s1, .val (.int x2), .val (.int x3), s4, s5, s6, s7, s8, s9] [(.int x3), (.ref b0)]))
      obtain ⟨v1, hv1, hr⟩ := Option.bind_eq_some_iff.mp hr
      refine OwnOut.go (fun t k => ldB X0 hx hZ e0 A0 hv1 (g := (mkF m 9 #[.val (.ref b0), s1, .val (.int x2), .val (.int x3), s4, s5, s6, s7, s8, s9] [(.int x3), (.ref b0)])) rfl rfl (hb hby d1_9) t k) ?_
      show OwnOut p e s below 0 0 _ (T.setTop (mkF m 10 #[.val (.ref b0), s1, .val (.int x2), .val (.int x3), s4, s5, s6, s7, s8, s9] [(.int v1)]))
      refine OwnOut.go (fun t k => XT.sipushV X0.here hx rfl (255 : Int32) (hb hby d1_10) rfl k) ?_
      show OwnOut p e s below 0 0 _ (T.setTop (mkF m 13 #[.val (.ref b0), s1, .val (.int x2), .val (.int x3), s4, s5, s6, s7, s8, s9] [(.int (255 : Int32)), (.int v1)]))
      refine OwnOut.go (fun t k => XS.iand X0.here hx rfl (hb hby d1_13) rfl k) ?_
      show OwnOut p e s below 0 0 _ (T.setTop (mkF m 14 #[.val (.ref b0), s1, .val (.int x2), .val (.int x3), s4, s5, s6, s7, s8, s9] [(.int (v1 &&& (255 : Int32)))]))
      refine OwnOut.go (fun t k => XS.istoreS X0.here hx rfl (hb hby d1_14) rfl rfl hs4 k) ?_
      show OwnOut p e s below 0 0 _ (T.setTop (mkF m 16 #[.val (.ref b0), s1, .val (.int x2), .val (.int x3), .val (.int (v1 &&& (255 : Int32))), s5, s6, s7, s8, s9] []))
      refine OwnOut.go (fun t k => XS.iload X0.here hx rfl (hb hby d1_16) rfl k) ?_
      show OwnOut p e s below 0 0 _ (T.setTop (mkF m 18 #[.val (.ref b0), s1, .val (.int x2), .val (.int x3), .val (.int (v1 &&& (255 : Int32))), s5, s6, s7, s8, s9] [(.int (v1 &&& (255 : Int32)))]))
      refine OwnOut.go (fun t k => XT.sipushV X0.here hx rfl (128 : Int32) (hb hby d1_18) rfl k) ?_
      show OwnOut p e s below 0 0 _ (T.setTop (mkF m 21 #[.val (.ref b0), s1, .val (.int x2), .val (.int x3), .val (.int (v1 &&& (255 : Int32))), s5, s6, s7, s8, s9] [(.int (128 : Int32)), (.int (v1 &&& (255 : Int32)))]))
      by_cases hc21 : (v1 &&& (255 : Int32)) < (128 : Int32)
      · rw [if_pos hc21] at hr
        refine OwnOut.go (fun t k => XS.icmpNo X0.here hx rfl (hb hby d1_21) rfl (XT.ii_ge_f hc21) k) ?_
        show OwnOut p e s below 0 0 _ (T.setTop (mkF m 24 #[.val (.ref b0), s1, .val (.int x2), .val (.int x3), .val (.int (v1 &&& (255 : Int32))), s5, s6, s7, s8, s9] []))
        refine OwnOut.go (fun t k => XT.iincV X0.here hx rfl (1 : Int32) (hb hby d1_24) rfl rfl (l' := #[.val (.ref b0), s1, .val (.int x2), .val (.int (x3 + (1 : Int32))), .val (.int (v1 &&& (255 : Int32))), s5, s6, s7, s8, s9]) rfl k) ?_
        show OwnOut p e s below 0 0 _ (T.setTop (mkF m 27 #[.val (.ref b0), s1, .val (.int x2), .val (.int (x3 + (1 : Int32))), .val (.int (v1 &&& (255 : Int32))), s5, s6, s7, s8, s9] []))
        refine OwnOut.go (fun t k => XS.goto X0.here hx rfl (pc0 := 27) (pc' := 2) rfl (hb hby d1_27) (by decide) (by decide) k) ?_
        show OwnOut p e s below 0 0 _ (T.setTop (mkF m 2 #[.val (.ref b0), s1, .val (.int x2), .val (.int (x3 + (1 : Int32))), .val (.int (v1 &&& (255 : Int32))), s5, s6, s7, s8, s9] []))
        exact ih _ (s1) x2 (x3 + (1 : Int32)) (.val (.int (v1 &&& (255 : Int32)))) (s5) (s6) (s7) (s8) (s9) b0 l0 _ hr X0 e0 A0 hs1 (One.val rfl) hs5 hs6 hs7 hs8 hs9
      · rw [if_neg hc21] at hr
        refine OwnOut.go (fun t k => XS.icmpYes X0.here hx rfl (pc0 := 21) (pc' := 30) rfl (hb hby d1_21) rfl (XT.ii_ge_t hc21) (by decide) (by decide) k) ?_
        show OwnOut p e s below 0 0 _ (T.setTop (mkF m 30 #[.val (.ref b0), s1, .val (.int x2), .val (.int x3), .val (.int (v1 &&& (255 : Int32))), s5, s6, s7, s8, s9] []))
        refine OwnOut.go (fun t k => XT.sipushV X0.here hx rfl (128 : Int32) (hb hby d1_30) rfl k) ?_
        show OwnOut p e s below 0 0 _ (T.setTop (mkF m 33 #[.val (.ref b0), s1, .val (.int x2), .val (.int x3), .val (.int (v1 &&& (255 : Int32))), s5, s6, s7, s8, s9] [(.int (128 : Int32))]))
        refine OwnOut.go (fun t k => XS.istoreS X0.here hx rfl (hb hby d1_33) rfl rfl hs6 k) ?_
        show OwnOut p e s below 0 0 _ (T.setTop (mkF m 35 #[.val (.ref b0), s1, .val (.int x2), .val (.int x3), .val (.int (v1 &&& (255 : Int32))), s5, .val (.int (128 : Int32)), s7, s8, s9] []))
        refine OwnOut.go (fun t k => XT.sipushV X0.here hx rfl (191 : Int32) (hb hby d1_35) rfl k) ?_
        show OwnOut p e s below 0 0 _ (T.setTop (mkF m 38 #[.val (.ref b0), s1, .val (.int x2), .val (.int x3), .val (.int (v1 &&& (255 : Int32))), s5, .val (.int (128 : Int32)), s7, s8, s9] [(.int (191 : Int32))]))
        refine OwnOut.go (fun t k => XS.istoreS X0.here hx rfl (hb hby d1_38) rfl rfl hs7 k) ?_
        show OwnOut p e s below 0 0 _ (T.setTop (mkF m 40 #[.val (.ref b0), s1, .val (.int x2), .val (.int x3), .val (.int (v1 &&& (255 : Int32))), s5, .val (.int (128 : Int32)), .val (.int (191 : Int32)), s8, s9] []))
        refine OwnOut.go (fun t k => XS.iload X0.here hx rfl (hb hby d1_40) rfl k) ?_
        show OwnOut p e s below 0 0 _ (T.setTop (mkF m 42 #[.val (.ref b0), s1, .val (.int x2), .val (.int x3), .val (.int (v1 &&& (255 : Int32))), s5, .val (.int (128 : Int32)), .val (.int (191 : Int32)), s8, s9] [(.int (v1 &&& (255 : Int32)))]))
        refine OwnOut.go (fun t k => XT.sipushV X0.here hx rfl (194 : Int32) (hb hby d1_42) rfl k) ?_
        show OwnOut p e s below 0 0 _ (T.setTop (mkF m 45 #[.val (.ref b0), s1, .val (.int x2), .val (.int x3), .val (.int (v1 &&& (255 : Int32))), s5, .val (.int (128 : Int32)), .val (.int (191 : Int32)), s8, s9] [(.int (194 : Int32)), (.int (v1 &&& (255 : Int32)))]))
        by_cases hc45 : (v1 &&& (255 : Int32)) < (194 : Int32)
        · rw [if_pos hc45] at hr
          refine OwnOut.go (fun t k => XS.icmpYes X0.here hx rfl (pc0 := 45) (pc' := 62) rfl (hb hby d1_45) rfl (XT.ii_lt_t hc45) (by decide) (by decide) k) ?_
          show OwnOut p e s below 0 0 _ (T.setTop (mkF m 62 #[.val (.ref b0), s1, .val (.int x2), .val (.int x3), .val (.int (v1 &&& (255 : Int32))), s5, .val (.int (128 : Int32)), .val (.int (191 : Int32)), s8, s9] []))
          exact w1_62 ⟨hx, hZ, hw, hby, hml, hown, hret, hlk, hnm⟩ (f1_2 n) ih  _ (s1) x2 x3 (v1 &&& (255 : Int32)) (s5) (128 : Int32) (191 : Int32) (s8) (s9) b0 l0 _ hr X0 e0 A0 hs1 hs5 hs8 hs9
        · rw [if_neg hc45] at hr
          refine OwnOut.go (fun t k => XS.icmpNo X0.here hx rfl (hb hby d1_45) rfl (XT.ii_lt_f hc45) k) ?_
          show OwnOut p e s below 0 0 _ (T.setTop (mkF m 48 #[.val (.ref b0), s1, .val (.int x2), .val (.int x3), .val (.int (v1 &&& (255 : Int32))), s5, .val (.int (128 : Int32)), .val (.int (191 : Int32)), s8, s9] []))
          refine OwnOut.go (fun t k => XS.iload X0.here hx rfl (hb hby d1_48) rfl k) ?_
          show OwnOut p e s below 0 0 _ (T.setTop (mkF m 50 #[.val (.ref b0), s1, .val (.int x2), .val (.int x3), .val (.int (v1 &&& (255 : Int32))), s5, .val (.int (128 : Int32)), .val (.int (191 : Int32)), s8, s9] [(.int (v1 &&& (255 : Int32)))]))
          refine OwnOut.go (fun t k => XT.sipushV X0.here hx rfl (223 : Int32) (hb hby d1_50) rfl k) ?_
          show OwnOut p e s below 0 0 _ (T.setTop (mkF m 53 #[.val (.ref b0), s1, .val (.int x2), .val (.int x3), .val (.int (v1 &&& (255 : Int32))), s5, .val (.int (128 : Int32)), .val (.int (191 : Int32)), s8, s9] [(.int (223 : Int32)), (.int (v1 &&& (255 : Int32)))]))
          by_cases hc53 : (223 : Int32) < (v1 &&& (255 : Int32))
          · rw [if_pos hc53] at hr
            refine OwnOut.go (fun t k => XS.icmpYes X0.here hx rfl (pc0 := 53) (pc' := 62) rfl (hb hby d1_53) rfl (XT.ii_gt_t hc53) (by decide) (by decide) k) ?_
            show OwnOut p e s below 0 0 _ (T.setTop (mkF m 62 #[.val (.ref b0), s1, .val (.int x2), .val (.int x3), .val (.int (v1 &&& (255 : Int32))), s5, .val (.int (128 : Int32)), .val (.int (191 : Int32)), s8, s9] []))
            exact w1_62 ⟨hx, hZ, hw, hby, hml, hown, hret, hlk, hnm⟩ (f1_2 n) ih  _ (s1) x2 x3 (v1 &&& (255 : Int32)) (s5) (128 : Int32) (191 : Int32) (s8) (s9) b0 l0 _ hr X0 e0 A0 hs1 hs5 hs8 hs9
          · rw [if_neg hc53] at hr
            refine OwnOut.go (fun t k => XS.icmpNo X0.here hx rfl (hb hby d1_53) rfl (XT.ii_gt_f hc53) k) ?_
            show OwnOut p e s below 0 0 _ (T.setTop (mkF m 56 #[.val (.ref b0), s1, .val (.int x2), .val (.int x3), .val (.int (v1 &&& (255 : Int32))), s5, .val (.int (128 : Int32)), .val (.int (191 : Int32)), s8, s9] []))
            refine OwnOut.go (fun t k => XT.iconstV X0.here hx rfl (1 : Int32) (hb hby d1_56) rfl k) ?_
            show OwnOut p e s below 0 0 _ (T.setTop (mkF m 57 #[.val (.ref b0), s1, .val (.int x2), .val (.int x3), .val (.int (v1 &&& (255 : Int32))), s5, .val (.int (128 : Int32)), .val (.int (191 : Int32)), s8, s9] [(.int (1 : Int32))]))
            refine OwnOut.go (fun t k => XS.istoreS X0.here hx rfl (hb hby d1_57) rfl rfl hs5 k) ?_
            show OwnOut p e s below 0 0 _ (T.setTop (mkF m 59 #[.val (.ref b0), s1, .val (.int x2), .val (.int x3), .val (.int (v1 &&& (255 : Int32))), .val (.int (1 : Int32)), .val (.int (128 : Int32)), .val (.int (191 : Int32)), s8, s9] []))
            refine OwnOut.go (fun t k => XS.goto X0.here hx rfl (pc0 := 59) (pc' := 166) rfl (hb hby d1_59) (by decide) (by decide) k) ?_
            show OwnOut p e s below 0 0 _ (T.setTop (mkF m 166 #[.val (.ref b0), s1, .val (.int x2), .val (.int x3), .val (.int (v1 &&& (255 : Int32))), .val (.int (1 : Int32)), .val (.int (128 : Int32)), .val (.int (191 : Int32)), s8, s9] []))
            exact w1_166 ⟨hx, hZ, hw, hby, hml, hown, hret, hlk, hnm⟩ (f1_2 n) ih  _ (s1) x2 x3 (.val (.int (v1 &&& (255 : Int32)))) (1 : Int32) (128 : Int32) (191 : Int32) (s8) (s9) b0 l0 _ hr X0 e0 A0 hs1 (One.val rfl) hs8 hs9
    · rw [if_neg hc4] at hr
      refine OwnOut.go (fun t k => XS.icmpYes X0.here hx rfl (pc0 := 4) (pc' := 247) rfl (hb hby d1_4) rfl (XT.ii_ge_t hc4) (by decide) (by decide) k) ?_
      show OwnOut p e s below 0 0 _ (T.setTop (mkF m 247 #[.val (.ref b0), s1, .val (.int x2), .val (.int x3), s4, s5, s6, s7, s8, s9] []))
      refine OwnOut.go (fun t k => XT.iconstV X0.here hx rfl (-1 : Int32) (hb hby d1_247) rfl k) ?_
      show OwnOut p e s below 0 0 _ (T.setTop (mkF m 248 #[.val (.ref b0), s1, .val (.int x2), .val (.int x3), s4, s5, s6, s7, s8, s9] [(.int (-1 : Int32))]))
      cases hr
      exact outI X0 hx hret (hb hby d1_248) hlk (by decide) (by decide) ⟨rfl, e0, rfl⟩
def f1 (x1 : Int32) (x2 : Int32) (l0 : List Int32) : Option (Int32) := (f1_2 8 x2 x1 l0)
set_option maxRecDepth 65536 in
set_option maxHeartbeats 40000000 in
theorem w1_0 {p : Program} {l : Launch} {e : Env} {s : State} {m : MethodId} {args : Array Value} {below : List Frame} {meth : Method} {c : Code} {Z : State} {a0 : Array Value} {h0 : Heap} (C : Cx1 Z a0 p s m meth c) :
    ∀ (T : State) (x1 : Int32) (x2 : Int32) (b0 : Addr) (l0 : List Int32) (o : Int32), f1 x1 x2 l0 = some o → Stand p l e rx1 s m args below meth c T [] 0 0 → T.heap = h0 → (Ari Z h0 b0 .byte l0) →  OwnOut p e s below 0 0 (Q1 Z default default b0 l0 h0 o) (T.setTop (mkF m 0 #[.val (.ref b0), .val (.int x1), .val (.int x2), .unset, .unset, .unset, .unset, .unset, .unset, .unset] [])) := by
    obtain ⟨hx, hZ, hw, hby, hml, hown, hret, hlk, hnm⟩ := C
    intro T x1 x2 b0 l0 o hr X0 e0 A0
    rw [f1] at hr
    refine OwnOut.go (fun t k => XS.iloadN X0.here hx rfl (hb hby d1_0) rfl k) ?_
    show OwnOut p e s below 0 0 _ (T.setTop (mkF m 1 #[.val (.ref b0), .val (.int x1), .val (.int x2), .unset, .unset, .unset, .unset, .unset, .unset, .unset] [(.int x1)]))
    refine OwnOut.go (fun t k => XS.istoreN X0.here hx rfl (hb hby d1_1) rfl (l' := #[.val (.ref b0), .val (.int x1), .val (.int x2), .val (.int x1), .unset, .unset, .unset, .unset, .unset, .unset]) rfl k) ?_
    show OwnOut p e s below 0 0 _ (T.setTop (mkF m 2 #[.val (.ref b0), .val (.int x1), .val (.int x2), .val (.int x1), .unset, .unset, .unset, .unset, .unset, .unset] []))
    exact w1_2 ⟨hx, hZ, hw, hby, hml, hown, hret, hlk, hnm⟩ 8  _ (.val (.int x1)) x2 x1 (.unset) (.unset) (.unset) (.unset) (.unset) (.unset) b0 l0 _ hr X0 e0 A0 (One.val rfl) One.u One.u One.u One.u One.u One.u
set_option maxRecDepth 65536 in
set_option maxHeartbeats 40000000 in
theorem rm1 (l : Launch) (Z : State) (a0 : Array Value) (hw : ∀ d ∈ tables_1, d.before a0 Z = true) (ws : List Jvm.Cond) (x1 : Int32) (x2 : Int32) (b0 : Addr) (l0 : List Int32) (h0 : Heap) (o : Int32) (hr : f1 x1 x2 l0 = some o) (A0 : Ari Z h0 b0 .byte l0) :
    MetFree l (⟨"com/example/ninewire/ninewire/Utf8", "firstMalformed", "([BII)I"⟩ : MethodName) (head1 (Jvm.Cond.code (⟨"com/example/ninewire/ninewire/Utf8", "firstMalformed", "([BII)I"⟩ : MethodName) prog_86_method_7_code 10 (some .int) :: ws) rx1) (fun a U => a = #[(.ref b0), (.int x1), (.int x2)] ∧ Z.Warmed39 U.vm ∧ U.heap = h0) (fun _ _ _ _ _ => True) (fun _ U o' U' => ∃ v L, o' = .returned v ∧ Q1 Z x1 x2 b0 l0 h0 o v U'.heap L ∧ FrameEnd U o' U' L rx1.cells rx1.slots) := by
  refine MetFree.of_bodySF (plainFor_of_name pn1) hisR ?_
  intro p e s m args below meth c s₁ Bd hml0 hP hK
  obtain ⟨rfl, hZ, hh⟩ := hP
  have X0 : Stand p l e rx1 s m #[(.ref b0), (.int x1), (.int x2)] below meth c s₁ [] 0 0 := Stand.of_body Bd
  have e0 : s₁.heap = h0 := by rw [← hh, Bd.state]; rfl
  exact OwnOut.at (ef1 m b0 x1 x2) (w1_0 ⟨Bd.exec, hZ, hw, Bd.bytes, hml0, findClass_of_methodNamed Bd.named, Bd.returns, Bd.notSynchronized, (name_of_methodNamed Bd.named Bd.method).1⟩ _ x1 x2 b0 l0 o hr X0 e0  A0)
-- body 3 as 3: com/example/ninewire/ninewire/Utf8FirstMalformedPinLaw.wellLen:([BII)I (touches nothing)
theorem d3_0 : decode method_4_code 0 = .ok (.aload_n 0, 1) := by decide +kernel
theorem d3_1 : decode method_4_code 1 = .ok (.iload_n 1, 1) := by decide +kernel
theorem d3_2 : decode method_4_code 2 = .ok (.baload, 1) := by decide +kernel
theorem d3_3 : decode method_4_code 3 = .ok (.sipush 255, 3) := by decide +kernel
theorem d3_6 : decode method_4_code 6 = .ok (.iand, 1) := by decide +kernel
theorem d3_7 : decode method_4_code 7 = .ok (.istore_n 3, 1) := by decide +kernel
theorem d3_8 : decode method_4_code 8 = .ok (.iload_n 3, 1) := by decide +kernel
theorem d3_9 : decode method_4_code 9 = .ok (.sipush 128, 3) := by decide +kernel
theorem d3_12 : decode method_4_code 12 = .ok (.if_icmp .ge 5, 3) := by decide +kernel
theorem d3_15 : decode method_4_code 15 = .ok (.iconst 1, 1) := by decide +kernel
theorem d3_16 : decode method_4_code 16 = .ok (.ireturn, 1) := by decide +kernel
theorem d3_17 : decode method_4_code 17 = .ok (.iload_n 3, 1) := by decide +kernel
theorem d3_18 : decode method_4_code 18 = .ok (.sipush 192, 3) := by decide +kernel
theorem d3_21 : decode method_4_code 21 = .ok (.if_icmp .ge 5, 3) := by decide +kernel
theorem d3_24 : decode method_4_code 24 = .ok (.iconst 0, 1) := by decide +kernel
theorem d3_25 : decode method_4_code 25 = .ok (.ireturn, 1) := by decide +kernel
theorem d3_26 : decode method_4_code 26 = .ok (.iload_n 3, 1) := by decide +kernel
theorem d3_27 : decode method_4_code 27 = .ok (.sipush 224, 3) := by decide +kernel
theorem d3_30 : decode method_4_code 30 = .ok (.if_icmp .ge 9, 3) := by decide +kernel
theorem d3_33 : decode method_4_code 33 = .ok (.iconst 2, 1) := by decide +kernel
theorem d3_34 : decode method_4_code 34 = .ok (.istore 4, 2) := by decide +kernel
theorem d3_36 : decode method_4_code 36 = .ok (.goto 31, 3) := by decide +kernel
theorem d3_39 : decode method_4_code 39 = .ok (.iload_n 3, 1) := by decide +kernel
theorem d3_40 : decode method_4_code 40 = .ok (.sipush 240, 3) := by decide +kernel
theorem d3_43 : decode method_4_code 43 = .ok (.if_icmp .ge 9, 3) := by decide +kernel
theorem d3_46 : decode method_4_code 46 = .ok (.iconst 3, 1) := by decide +kernel
theorem d3_47 : decode method_4_code 47 = .ok (.istore 4, 2) := by decide +kernel
theorem d3_49 : decode method_4_code 49 = .ok (.goto 18, 3) := by decide +kernel
theorem d3_52 : decode method_4_code 52 = .ok (.iload_n 3, 1) := by decide +kernel
theorem d3_53 : decode method_4_code 53 = .ok (.sipush 248, 3) := by decide +kernel
theorem d3_56 : decode method_4_code 56 = .ok (.if_icmp .ge 9, 3) := by decide +kernel
theorem d3_59 : decode method_4_code 59 = .ok (.iconst 4, 1) := by decide +kernel
theorem d3_60 : decode method_4_code 60 = .ok (.istore 4, 2) := by decide +kernel
theorem d3_62 : decode method_4_code 62 = .ok (.goto 5, 3) := by decide +kernel
theorem d3_65 : decode method_4_code 65 = .ok (.iconst 0, 1) := by decide +kernel
theorem d3_66 : decode method_4_code 66 = .ok (.ireturn, 1) := by decide +kernel
theorem d3_67 : decode method_4_code 67 = .ok (.iload_n 1, 1) := by decide +kernel
theorem d3_68 : decode method_4_code 68 = .ok (.iload 4, 2) := by decide +kernel
theorem d3_70 : decode method_4_code 70 = .ok (.iadd, 1) := by decide +kernel
theorem d3_71 : decode method_4_code 71 = .ok (.iload_n 2, 1) := by decide +kernel
theorem d3_72 : decode method_4_code 72 = .ok (.if_icmp .le 5, 3) := by decide +kernel
theorem d3_75 : decode method_4_code 75 = .ok (.iconst 0, 1) := by decide +kernel
theorem d3_76 : decode method_4_code 76 = .ok (.ireturn, 1) := by decide +kernel
theorem d3_77 : decode method_4_code 77 = .ok (.aload_n 0, 1) := by decide +kernel
theorem d3_78 : decode method_4_code 78 = .ok (.iload_n 1, 1) := by decide +kernel
theorem d3_79 : decode method_4_code 79 = .ok (.iconst 1, 1) := by decide +kernel
theorem d3_80 : decode method_4_code 80 = .ok (.iadd, 1) := by decide +kernel
theorem d3_81 : decode method_4_code 81 = .ok (.baload, 1) := by decide +kernel
theorem d3_82 : decode method_4_code 82 = .ok (.sipush 255, 3) := by decide +kernel
theorem d3_85 : decode method_4_code 85 = .ok (.iand, 1) := by decide +kernel
theorem d3_86 : decode method_4_code 86 = .ok (.istore 5, 2) := by decide +kernel
theorem d3_88 : decode method_4_code 88 = .ok (.iload 5, 2) := by decide +kernel
theorem d3_90 : decode method_4_code 90 = .ok (.sipush 192, 3) := by decide +kernel
theorem d3_93 : decode method_4_code 93 = .ok (.iand, 1) := by decide +kernel
theorem d3_94 : decode method_4_code 94 = .ok (.sipush 128, 3) := by decide +kernel
theorem d3_97 : decode method_4_code 97 = .ok (.if_icmp .eq 5, 3) := by decide +kernel
theorem d3_100 : decode method_4_code 100 = .ok (.iconst 0, 1) := by decide +kernel
theorem d3_101 : decode method_4_code 101 = .ok (.ireturn, 1) := by decide +kernel
theorem d3_102 : decode method_4_code 102 = .ok (.iconst 0, 1) := by decide +kernel
theorem d3_103 : decode method_4_code 103 = .ok (.istore 6, 2) := by decide +kernel
theorem d3_105 : decode method_4_code 105 = .ok (.iconst 0, 1) := by decide +kernel
theorem d3_106 : decode method_4_code 106 = .ok (.istore 7, 2) := by decide +kernel
theorem d3_108 : decode method_4_code 108 = .ok (.iload 4, 2) := by decide +kernel
theorem d3_110 : decode method_4_code 110 = .ok (.iconst 3, 1) := by decide +kernel
theorem d3_111 : decode method_4_code 111 = .ok (.if_icmp .lt 28, 3) := by decide +kernel
theorem d3_114 : decode method_4_code 114 = .ok (.aload_n 0, 1) := by decide +kernel
theorem d3_115 : decode method_4_code 115 = .ok (.iload_n 1, 1) := by decide +kernel
theorem d3_116 : decode method_4_code 116 = .ok (.iconst 2, 1) := by decide +kernel
theorem d3_117 : decode method_4_code 117 = .ok (.iadd, 1) := by decide +kernel
theorem d3_118 : decode method_4_code 118 = .ok (.baload, 1) := by decide +kernel
theorem d3_119 : decode method_4_code 119 = .ok (.sipush 255, 3) := by decide +kernel
theorem d3_122 : decode method_4_code 122 = .ok (.iand, 1) := by decide +kernel
theorem d3_123 : decode method_4_code 123 = .ok (.istore 6, 2) := by decide +kernel
theorem d3_125 : decode method_4_code 125 = .ok (.iload 6, 2) := by decide +kernel
theorem d3_127 : decode method_4_code 127 = .ok (.sipush 192, 3) := by decide +kernel
theorem d3_130 : decode method_4_code 130 = .ok (.iand, 1) := by decide +kernel
theorem d3_131 : decode method_4_code 131 = .ok (.sipush 128, 3) := by decide +kernel
theorem d3_134 : decode method_4_code 134 = .ok (.if_icmp .eq 5, 3) := by decide +kernel
theorem d3_137 : decode method_4_code 137 = .ok (.iconst 0, 1) := by decide +kernel
theorem d3_138 : decode method_4_code 138 = .ok (.ireturn, 1) := by decide +kernel
theorem d3_139 : decode method_4_code 139 = .ok (.iload 4, 2) := by decide +kernel
theorem d3_141 : decode method_4_code 141 = .ok (.iconst 4, 1) := by decide +kernel
theorem d3_142 : decode method_4_code 142 = .ok (.if_icmp .lt 28, 3) := by decide +kernel
theorem d3_145 : decode method_4_code 145 = .ok (.aload_n 0, 1) := by decide +kernel
theorem d3_146 : decode method_4_code 146 = .ok (.iload_n 1, 1) := by decide +kernel
theorem d3_147 : decode method_4_code 147 = .ok (.iconst 3, 1) := by decide +kernel
theorem d3_148 : decode method_4_code 148 = .ok (.iadd, 1) := by decide +kernel
theorem d3_149 : decode method_4_code 149 = .ok (.baload, 1) := by decide +kernel
theorem d3_150 : decode method_4_code 150 = .ok (.sipush 255, 3) := by decide +kernel
theorem d3_153 : decode method_4_code 153 = .ok (.iand, 1) := by decide +kernel
theorem d3_154 : decode method_4_code 154 = .ok (.istore 7, 2) := by decide +kernel
theorem d3_156 : decode method_4_code 156 = .ok (.iload 7, 2) := by decide +kernel
theorem d3_158 : decode method_4_code 158 = .ok (.sipush 192, 3) := by decide +kernel
theorem d3_161 : decode method_4_code 161 = .ok (.iand, 1) := by decide +kernel
theorem d3_162 : decode method_4_code 162 = .ok (.sipush 128, 3) := by decide +kernel
theorem d3_165 : decode method_4_code 165 = .ok (.if_icmp .eq 5, 3) := by decide +kernel
theorem d3_168 : decode method_4_code 168 = .ok (.iconst 0, 1) := by decide +kernel
theorem d3_169 : decode method_4_code 169 = .ok (.ireturn, 1) := by decide +kernel
theorem d3_170 : decode method_4_code 170 = .ok (.iload 4, 2) := by decide +kernel
theorem d3_172 : decode method_4_code 172 = .ok (.iconst 2, 1) := by decide +kernel
theorem d3_173 : decode method_4_code 173 = .ok (.if_icmp .ne 26, 3) := by decide +kernel
theorem d3_176 : decode method_4_code 176 = .ok (.iload_n 3, 1) := by decide +kernel
theorem d3_177 : decode method_4_code 177 = .ok (.bipush 31, 2) := by decide +kernel
theorem d3_179 : decode method_4_code 179 = .ok (.iand, 1) := by decide +kernel
theorem d3_180 : decode method_4_code 180 = .ok (.bipush 6, 2) := by decide +kernel
theorem d3_182 : decode method_4_code 182 = .ok (.ishl, 1) := by decide +kernel
theorem d3_183 : decode method_4_code 183 = .ok (.iload 5, 2) := by decide +kernel
theorem d3_185 : decode method_4_code 185 = .ok (.bipush 63, 2) := by decide +kernel
theorem d3_187 : decode method_4_code 187 = .ok (.iand, 1) := by decide +kernel
theorem d3_188 : decode method_4_code 188 = .ok (.ior, 1) := by decide +kernel
theorem d3_189 : decode method_4_code 189 = .ok (.istore 8, 2) := by decide +kernel
theorem d3_191 : decode method_4_code 191 = .ok (.sipush 128, 3) := by decide +kernel
theorem d3_194 : decode method_4_code 194 = .ok (.istore 9, 2) := by decide +kernel
theorem d3_196 : decode method_4_code 196 = .ok (.goto 78, 3) := by decide +kernel
theorem d3_199 : decode method_4_code 199 = .ok (.iload 4, 2) := by decide +kernel
theorem d3_201 : decode method_4_code 201 = .ok (.iconst 3, 1) := by decide +kernel
theorem d3_202 : decode method_4_code 202 = .ok (.if_icmp .ne 35, 3) := by decide +kernel
theorem d3_205 : decode method_4_code 205 = .ok (.iload_n 3, 1) := by decide +kernel
theorem d3_206 : decode method_4_code 206 = .ok (.bipush 15, 2) := by decide +kernel
theorem d3_208 : decode method_4_code 208 = .ok (.iand, 1) := by decide +kernel
theorem d3_209 : decode method_4_code 209 = .ok (.bipush 12, 2) := by decide +kernel
theorem d3_211 : decode method_4_code 211 = .ok (.ishl, 1) := by decide +kernel
theorem d3_212 : decode method_4_code 212 = .ok (.iload 5, 2) := by decide +kernel
theorem d3_214 : decode method_4_code 214 = .ok (.bipush 63, 2) := by decide +kernel
theorem d3_216 : decode method_4_code 216 = .ok (.iand, 1) := by decide +kernel
theorem d3_217 : decode method_4_code 217 = .ok (.bipush 6, 2) := by decide +kernel
theorem d3_219 : decode method_4_code 219 = .ok (.ishl, 1) := by decide +kernel
theorem d3_220 : decode method_4_code 220 = .ok (.ior, 1) := by decide +kernel
theorem d3_221 : decode method_4_code 221 = .ok (.iload 6, 2) := by decide +kernel
theorem d3_223 : decode method_4_code 223 = .ok (.bipush 63, 2) := by decide +kernel
theorem d3_225 : decode method_4_code 225 = .ok (.iand, 1) := by decide +kernel
theorem d3_226 : decode method_4_code 226 = .ok (.ior, 1) := by decide +kernel
theorem d3_227 : decode method_4_code 227 = .ok (.istore 8, 2) := by decide +kernel
theorem d3_229 : decode method_4_code 229 = .ok (.sipush 2048, 3) := by decide +kernel
theorem d3_232 : decode method_4_code 232 = .ok (.istore 9, 2) := by decide +kernel
theorem d3_234 : decode method_4_code 234 = .ok (.goto 40, 3) := by decide +kernel
theorem d3_237 : decode method_4_code 237 = .ok (.iload_n 3, 1) := by decide +kernel
theorem d3_238 : decode method_4_code 238 = .ok (.bipush 7, 2) := by decide +kernel
theorem d3_240 : decode method_4_code 240 = .ok (.iand, 1) := by decide +kernel
theorem d3_241 : decode method_4_code 241 = .ok (.bipush 18, 2) := by decide +kernel
theorem d3_243 : decode method_4_code 243 = .ok (.ishl, 1) := by decide +kernel
theorem d3_244 : decode method_4_code 244 = .ok (.iload 5, 2) := by decide +kernel
theorem d3_246 : decode method_4_code 246 = .ok (.bipush 63, 2) := by decide +kernel
theorem d3_248 : decode method_4_code 248 = .ok (.iand, 1) := by decide +kernel
theorem d3_249 : decode method_4_code 249 = .ok (.bipush 12, 2) := by decide +kernel
theorem d3_251 : decode method_4_code 251 = .ok (.ishl, 1) := by decide +kernel
theorem d3_252 : decode method_4_code 252 = .ok (.ior, 1) := by decide +kernel
theorem d3_253 : decode method_4_code 253 = .ok (.iload 6, 2) := by decide +kernel
theorem d3_255 : decode method_4_code 255 = .ok (.bipush 63, 2) := by decide +kernel
theorem d3_257 : decode method_4_code 257 = .ok (.iand, 1) := by decide +kernel
theorem d3_258 : decode method_4_code 258 = .ok (.bipush 6, 2) := by decide +kernel
theorem d3_260 : decode method_4_code 260 = .ok (.ishl, 1) := by decide +kernel
theorem d3_261 : decode method_4_code 261 = .ok (.ior, 1) := by decide +kernel
theorem d3_262 : decode method_4_code 262 = .ok (.iload 7, 2) := by decide +kernel
theorem d3_264 : decode method_4_code 264 = .ok (.bipush 63, 2) := by decide +kernel
theorem d3_266 : decode method_4_code 266 = .ok (.iand, 1) := by decide +kernel
theorem d3_267 : decode method_4_code 267 = .ok (.ior, 1) := by decide +kernel
theorem d3_268 : decode method_4_code 268 = .ok (.istore 8, 2) := by decide +kernel
theorem d3_270 : decode method_4_code 270 = .ok (.ldc 21, 2) := by decide +kernel
theorem d3_272 : decode method_4_code 272 = .ok (.istore 9, 2) := by decide +kernel
theorem d3_274 : decode method_4_code 274 = .ok (.iload 8, 2) := by decide +kernel
theorem d3_276 : decode method_4_code 276 = .ok (.iload 9, 2) := by decide +kernel
theorem d3_278 : decode method_4_code 278 = .ok (.if_icmp .ge 5, 3) := by decide +kernel
theorem d3_281 : decode method_4_code 281 = .ok (.iconst 0, 1) := by decide +kernel
theorem d3_282 : decode method_4_code 282 = .ok (.ireturn, 1) := by decide +kernel
theorem d3_283 : decode method_4_code 283 = .ok (.iload 8, 2) := by decide +kernel
theorem d3_285 : decode method_4_code 285 = .ok (.ldc 22, 2) := by decide +kernel
theorem d3_287 : decode method_4_code 287 = .ok (.if_icmp .le 5, 3) := by decide +kernel
theorem d3_290 : decode method_4_code 290 = .ok (.iconst 0, 1) := by decide +kernel
theorem d3_291 : decode method_4_code 291 = .ok (.ireturn, 1) := by decide +kernel
theorem d3_292 : decode method_4_code 292 = .ok (.iload 8, 2) := by decide +kernel
theorem d3_294 : decode method_4_code 294 = .ok (.ldc 23, 2) := by decide +kernel
theorem d3_296 : decode method_4_code 296 = .ok (.if_icmp .lt 12, 3) := by decide +kernel
theorem d3_299 : decode method_4_code 299 = .ok (.iload 8, 2) := by decide +kernel
theorem d3_301 : decode method_4_code 301 = .ok (.ldc 24, 2) := by decide +kernel
theorem d3_303 : decode method_4_code 303 = .ok (.if_icmp .gt 5, 3) := by decide +kernel
theorem d3_306 : decode method_4_code 306 = .ok (.iconst 0, 1) := by decide +kernel
theorem d3_307 : decode method_4_code 307 = .ok (.ireturn, 1) := by decide +kernel
theorem d3_308 : decode method_4_code 308 = .ok (.iload 4, 2) := by decide +kernel
theorem d3_310 : decode method_4_code 310 = .ok (.ireturn, 1) := by decide +kernel
theorem pn3 : plainName "com/example/ninewire/ninewire/Utf8FirstMalformedPinLaw" = true := by first | (simp [plainName, overriddenIn]; done) | decide +kernel
theorem pd3 : parseMethodDescriptor "([BII)I" = some ⟨[(.array .byte), .int, .int], some .int⟩ := by decide +kernel
theorem ef3 (m : MethodId) (b0 : Addr) (x1 : Int32) (x2 : Int32) : entryFrame m #[(.ref b0), (.int x1), (.int x2)] 10 = mkF m 0 #[.val (.ref b0), .val (.int x1), .val (.int x2), .unset, .unset, .unset, .unset, .unset, .unset, .unset] [] := by first | (simp [entryFrame, mkF, argsToLocals, Value.category]; done) | rfl
abbrev rx3 : Room := { frames := 0, cells := 0, slots := 0, locals := 0 }
abbrev Cx3 (Z : State) (a0 : Array Value) (p : Program) (s : State) (m : MethodId) (meth : Method) (c : Code) : Prop := p.tables.exec = Jvm.exec ∧ Z.Warmed39 s.vm ∧ (∀ d ∈ tables_1, d.before a0 Z = true) ∧ c.code = method_4_code ∧ c.maxLocals = 10 ∧ s.vm.findClass "com/example/ninewire/ninewire/Utf8FirstMalformedPinLaw" = some m.cls ∧ meth.sig.returnType = (some .int) ∧ meth.locks = false ∧ meth.name = "wellLen"
def Q3 (Z : State) (x1 : Int32) (x2 : Int32) (b0 : Addr) (l0 : List Int32) (h0 : Heap) (o : Int32) (v : Option Value) (h : Heap) (L : List Loc) : Prop := v = some (.int o) ∧ h = h0 ∧ L = []
def f3_274 (x4 : Int32) (x8 : Int32) (x9 : Int32) (l0 : List Int32) : Option (Int32) := (if x8 < x9 then some ((0 : Int32)) else (if (1114111 : Int32) < x8 then some ((0 : Int32)) else (if x8 < (55296 : Int32) then some (x4) else (if (57343 : Int32) < x8 then some (x4) else some ((0 : Int32))))))
set_option maxRecDepth 65536 in
set_option maxHeartbeats 40000000 in
theorem w3_274 {p : Program} {l : Launch} {e : Env} {s : State} {m : MethodId} {args : Array Value} {below : List Frame} {meth : Method} {c : Code} {Z : State} {a0 : Array Value} {h0 : Heap} (C : Cx3 Z a0 p s m meth c) :
    ∀ (T : State) (s0 : Slot) (s1 : Slot) (s2 : Slot) (s3 : Slot) (x4 : Int32) (s5 : Slot) (s6 : Slot) (s7 : Slot) (x8 : Int32) (x9 : Int32) (b0 : Addr) (l0 : List Int32) (o : Int32), f3_274 x4 x8 x9 l0 = some o → Stand p l e rx3 s m args below meth c T [] 0 0 → T.heap = h0 → (Ari Z h0 b0 .byte l0) → (One s0) → (One s1) → (One s2) → (One s3) → (One s5) → (One s6) → (One s7) →  OwnOut p e s below 0 0 (Q3 Z default default b0 l0 h0 o) (T.setTop (mkF m 274 #[s0, s1, s2, s3, .val (.int x4), s5, s6, s7, .val (.int x8), .val (.int x9)] [])) := by
    obtain ⟨hx, hZ, hw, hby, hml, hown, hret, hlk, hnm⟩ := C
    intro T s0 s1 s2 s3 x4 s5 s6 s7 x8 x9 b0 l0 o hr X0 e0 A0 hs0 hs1 hs2 hs3 hs5 hs6 hs7
    rw [f3_274] at hr
    refine OwnOut.go (fun t k => XS.iload X0.here hx rfl (hb hby d3_274) rfl k) ?_
    show OwnOut p e s below 0 0 _ (T.setTop (mkF m 276 #[s0, s1, s2, s3, .val (.int x4), s5, s6, s7, .val (.int x8), .val (.int x9)] [(.int x8)]))
    refine OwnOut.go (fun t k => XS.iload X0.here hx rfl (hb hby d3_276) rfl k) ?_
    show OwnOut p e s below 0 0 _ (T.setTop (mkF m 278 #[s0, s1, s2, s3, .val (.int x4), s5, s6, s7, .val (.int x8), .val (.int x9)] [(.int x9), (.int x8)]))
    by_cases hc278 : x8 < x9
    · rw [if_pos hc278] at hr
      refine OwnOut.go (fun t k => XS.icmpNo X0.here hx rfl (hb hby d3_278) rfl (XT.ii_ge_f hc278) k) ?_
      show OwnOut p e s below 0 0 _ (T.setTop (mkF m 281 #[s0, s1, s2, s3, .val (.int x4), s5, s6, s7, .val (.int x8), .val (.int x9)] []))
      refine OwnOut.go (fun t k => XT.iconstV X0.here hx rfl (0 : Int32) (hb hby d3_281) rfl k) ?_
      show OwnOut p e s below 0 0 _ (T.setTop (mkF m 282 #[s0, s1, s2, s3, .val (.int x4), s5, s6, s7, .val (.int x8), .val (.int x9)] [(.int (0 : Int32))]))
      cases hr
      exact outI X0 hx hret (hb hby d3_282) hlk (by decide) (by decide) ⟨rfl, e0, rfl⟩
    · rw [if_neg hc278] at hr
      refine OwnOut.go (fun t k => XS.icmpYes X0.here hx rfl (pc0 := 278) (pc' := 283) rfl (hb hby d3_278) rfl (XT.ii_ge_t hc278) (by decide) (by decide) k) ?_
      show OwnOut p e s below 0 0 _ (T.setTop (mkF m 283 #[s0, s1, s2, s3, .val (.int x4), s5, s6, s7, .val (.int x8), .val (.int x9)] []))
      refine OwnOut.go (fun t k => XS.iload X0.here hx rfl (hb hby d3_283) rfl k) ?_
      show OwnOut p e s below 0 0 _ (T.setTop (mkF m 285 #[s0, s1, s2, s3, .val (.int x4), s5, s6, s7, .val (.int x8), .val (.int x9)] [(.int x8)]))
      refine OwnOut.go (fun t k => X0.ldcInt hx hown (mvT hZ (hw _ (List.mem_of_getElem? (i := 12) rfl))) (g := (mkF m 285 #[s0, s1, s2, s3, .val (.int x4), s5, s6, s7, .val (.int x8), .val (.int x9)] [(.int x8)])) rfl (hb hby d3_285) _ k) ?_
      show OwnOut p e s below 0 0 _ (T.setTop (mkF m 287 #[s0, s1, s2, s3, .val (.int x4), s5, s6, s7, .val (.int x8), .val (.int x9)] [(.int (1114111 : Int32)), (.int x8)]))
      by_cases hc287 : (1114111 : Int32) < x8
      · rw [if_pos hc287] at hr
        refine OwnOut.go (fun t k => XS.icmpNo X0.here hx rfl (hb hby d3_287) rfl (XT.ii_le_f hc287) k) ?_
        show OwnOut p e s below 0 0 _ (T.setTop (mkF m 290 #[s0, s1, s2, s3, .val (.int x4), s5, s6, s7, .val (.int x8), .val (.int x9)] []))
        refine OwnOut.go (fun t k => XT.iconstV X0.here hx rfl (0 : Int32) (hb hby d3_290) rfl k) ?_
        show OwnOut p e s below 0 0 _ (T.setTop (mkF m 291 #[s0, s1, s2, s3, .val (.int x4), s5, s6, s7, .val (.int x8), .val (.int x9)] [(.int (0 : Int32))]))
        cases hr
        exact outI X0 hx hret (hb hby d3_291) hlk (by decide) (by decide) ⟨rfl, e0, rfl⟩
      · rw [if_neg hc287] at hr
        refine OwnOut.go (fun t k => XS.icmpYes X0.here hx rfl (pc0 := 287) (pc' := 292) rfl (hb hby d3_287) rfl (XT.ii_le_t hc287) (by decide) (by decide) k) ?_
        show OwnOut p e s below 0 0 _ (T.setTop (mkF m 292 #[s0, s1, s2, s3, .val (.int x4), s5, s6, s7, .val (.int x8), .val (.int x9)] []))
        refine OwnOut.go (fun t k => XS.iload X0.here hx rfl (hb hby d3_292) rfl k) ?_
        show OwnOut p e s below 0 0 _ (T.setTop (mkF m 294 #[s0, s1, s2, s3, .val (.int x4), s5, s6, s7, .val (.int x8), .val (.int x9)] [(.int x8)]))
        refine OwnOut.go (fun t k => X0.ldcInt hx hown (mvT hZ (hw _ (List.mem_of_getElem? (i := 13) rfl))) (g := (mkF m 294 #[s0, s1, s2, s3, .val (.int x4), s5, s6, s7, .val (.int x8), .val (.int x9)] [(.int x8)])) rfl (hb hby d3_294) _ k) ?_
        show OwnOut p e s below 0 0 _ (T.setTop (mkF m 296 #[s0, s1, s2, s3, .val (.int x4), s5, s6, s7, .val (.int x8), .val (.int x9)] [(.int (55296 : Int32)), (.int x8)]))
        by_cases hc296 : x8 < (55296 : Int32)
        · rw [if_pos hc296] at hr
          refine OwnOut.go (fun t k => XS.icmpYes X0.here hx rfl (pc0 := 296) (pc' := 308) rfl (hb hby d3_296) rfl (XT.ii_lt_t hc296) (by decide) (by decide) k) ?_
          show OwnOut p e s below 0 0 _ (T.setTop (mkF m 308 #[s0, s1, s2, s3, .val (.int x4), s5, s6, s7, .val (.int x8), .val (.int x9)] []))
          refine OwnOut.go (fun t k => XS.iload X0.here hx rfl (hb hby d3_308) rfl k) ?_
          show OwnOut p e s below 0 0 _ (T.setTop (mkF m 310 #[s0, s1, s2, s3, .val (.int x4), s5, s6, s7, .val (.int x8), .val (.int x9)] [(.int x4)]))
          cases hr
          exact outI X0 hx hret (hb hby d3_310) hlk (by decide) (by decide) ⟨rfl, e0, rfl⟩
        · rw [if_neg hc296] at hr
          refine OwnOut.go (fun t k => XS.icmpNo X0.here hx rfl (hb hby d3_296) rfl (XT.ii_lt_f hc296) k) ?_
          show OwnOut p e s below 0 0 _ (T.setTop (mkF m 299 #[s0, s1, s2, s3, .val (.int x4), s5, s6, s7, .val (.int x8), .val (.int x9)] []))
          refine OwnOut.go (fun t k => XS.iload X0.here hx rfl (hb hby d3_299) rfl k) ?_
          show OwnOut p e s below 0 0 _ (T.setTop (mkF m 301 #[s0, s1, s2, s3, .val (.int x4), s5, s6, s7, .val (.int x8), .val (.int x9)] [(.int x8)]))
          refine OwnOut.go (fun t k => X0.ldcInt hx hown (mvT hZ (hw _ (List.mem_of_getElem? (i := 15) rfl))) (g := (mkF m 301 #[s0, s1, s2, s3, .val (.int x4), s5, s6, s7, .val (.int x8), .val (.int x9)] [(.int x8)])) rfl (hb hby d3_301) _ k) ?_
          show OwnOut p e s below 0 0 _ (T.setTop (mkF m 303 #[s0, s1, s2, s3, .val (.int x4), s5, s6, s7, .val (.int x8), .val (.int x9)] [(.int (57343 : Int32)), (.int x8)]))
          by_cases hc303 : (57343 : Int32) < x8
          · rw [if_pos hc303] at hr
            refine OwnOut.go (fun t k => XS.icmpYes X0.here hx rfl (pc0 := 303) (pc' := 308) rfl (hb hby d3_303) rfl (XT.ii_gt_t hc303) (by decide) (by decide) k) ?_
            show OwnOut p e s below 0 0 _ (T.setTop (mkF m 308 #[s0, s1, s2, s3, .val (.int x4), s5, s6, s7, .val (.int x8), .val (.int x9)] []))
            refine OwnOut.go (fun t k => XS.iload X0.here hx rfl (hb hby d3_308) rfl k) ?_
            show OwnOut p e s below 0 0 _ (T.setTop (mkF m 310 #[s0, s1, s2, s3, .val (.int x4), s5, s6, s7, .val (.int x8), .val (.int x9)] [(.int x4)]))
            cases hr
            exact outI X0 hx hret (hb hby d3_310) hlk (by decide) (by decide) ⟨rfl, e0, rfl⟩
          · rw [if_neg hc303] at hr
            refine OwnOut.go (fun t k => XS.icmpNo X0.here hx rfl (hb hby d3_303) rfl (XT.ii_gt_f hc303) k) ?_
            show OwnOut p e s below 0 0 _ (T.setTop (mkF m 306 #[s0, s1, s2, s3, .val (.int x4), s5, s6, s7, .val (.int x8), .val (.int x9)] []))
            refine OwnOut.go (fun t k => XT.iconstV X0.here hx rfl (0 : Int32) (hb hby d3_306) rfl k) ?_
            show OwnOut p e s below 0 0 _ (T.setTop (mkF m 307 #[s0, s1, s2, s3, .val (.int x4), s5, s6, s7, .val (.int x8), .val (.int x9)] [(.int (0 : Int32))]))
            cases hr
            exact outI X0 hx hret (hb hby d3_307) hlk (by decide) (by decide) ⟨rfl, e0, rfl⟩
def f3_191 (x4 : Int32) (x8 : Int32) (l0 : List Int32) : Option (Int32) := (f3_274 x4 x8 (128 : Int32) l0)
set_option maxRecDepth 65536 in
set_option maxHeartbeats 40000000 in
theorem w3_191 {p : Program} {l : Launch} {e : Env} {s : State} {m : MethodId} {args : Array Value} {below : List Frame} {meth : Method} {c : Code} {Z : State} {a0 : Array Value} {h0 : Heap} (C : Cx3 Z a0 p s m meth c) :
    ∀ (T : State) (s0 : Slot) (s1 : Slot) (s2 : Slot) (s3 : Slot) (x4 : Int32) (s5 : Slot) (s6 : Slot) (s7 : Slot) (x8 : Int32) (s9 : Slot) (b0 : Addr) (l0 : List Int32) (o : Int32), f3_191 x4 x8 l0 = some o → Stand p l e rx3 s m args below meth c T [] 0 0 → T.heap = h0 → (Ari Z h0 b0 .byte l0) → (One s0) → (One s1) → (One s2) → (One s3) → (One s5) → (One s6) → (One s7) → (One s9) →  OwnOut p e s below 0 0 (Q3 Z default default b0 l0 h0 o) (T.setTop (mkF m 191 #[s0, s1, s2, s3, .val (.int x4), s5, s6, s7, .val (.int x8), s9] [])) := by
    obtain ⟨hx, hZ, hw, hby, hml, hown, hret, hlk, hnm⟩ := C
    intro T s0 s1 s2 s3 x4 s5 s6 s7 x8 s9 b0 l0 o hr X0 e0 A0 hs0 hs1 hs2 hs3 hs5 hs6 hs7 hs9
    rw [f3_191] at hr
    refine OwnOut.go (fun t k => XT.sipushV X0.here hx rfl (128 : Int32) (hb hby d3_191) rfl k) ?_
    show OwnOut p e s below 0 0 _ (T.setTop (mkF m 194 #[s0, s1, s2, s3, .val (.int x4), s5, s6, s7, .val (.int x8), s9] [(.int (128 : Int32))]))
    refine OwnOut.go (fun t k => XS.istoreS X0.here hx rfl (hb hby d3_194) rfl rfl hs9 k) ?_
    show OwnOut p e s below 0 0 _ (T.setTop (mkF m 196 #[s0, s1, s2, s3, .val (.int x4), s5, s6, s7, .val (.int x8), .val (.int (128 : Int32))] []))
    refine OwnOut.go (fun t k => XS.goto X0.here hx rfl (pc0 := 196) (pc' := 274) rfl (hb hby d3_196) (by decide) (by decide) k) ?_
    show OwnOut p e s below 0 0 _ (T.setTop (mkF m 274 #[s0, s1, s2, s3, .val (.int x4), s5, s6, s7, .val (.int x8), .val (.int (128 : Int32))] []))
    exact w3_274 ⟨hx, hZ, hw, hby, hml, hown, hret, hlk, hnm⟩  _ (s0) (s1) (s2) (s3) x4 (s5) (s6) (s7) x8 (128 : Int32) b0 l0 _ hr X0 e0 A0 hs0 hs1 hs2 hs3 hs5 hs6 hs7
def f3_229 (x4 : Int32) (x8 : Int32) (l0 : List Int32) : Option (Int32) := (f3_274 x4 x8 (2048 : Int32) l0)
set_option maxRecDepth 65536 in
set_option maxHeartbeats 40000000 in
theorem w3_229 {p : Program} {l : Launch} {e : Env} {s : State} {m : MethodId} {args : Array Value} {below : List Frame} {meth : Method} {c : Code} {Z : State} {a0 : Array Value} {h0 : Heap} (C : Cx3 Z a0 p s m meth c) :
    ∀ (T : State) (s0 : Slot) (s1 : Slot) (s2 : Slot) (s3 : Slot) (x4 : Int32) (s5 : Slot) (s6 : Slot) (s7 : Slot) (x8 : Int32) (s9 : Slot) (b0 : Addr) (l0 : List Int32) (o : Int32), f3_229 x4 x8 l0 = some o → Stand p l e rx3 s m args below meth c T [] 0 0 → T.heap = h0 → (Ari Z h0 b0 .byte l0) → (One s0) → (One s1) → (One s2) → (One s3) → (One s5) → (One s6) → (One s7) → (One s9) →  OwnOut p e s below 0 0 (Q3 Z default default b0 l0 h0 o) (T.setTop (mkF m 229 #[s0, s1, s2, s3, .val (.int x4), s5, s6, s7, .val (.int x8), s9] [])) := by
    obtain ⟨hx, hZ, hw, hby, hml, hown, hret, hlk, hnm⟩ := C
    intro T s0 s1 s2 s3 x4 s5 s6 s7 x8 s9 b0 l0 o hr X0 e0 A0 hs0 hs1 hs2 hs3 hs5 hs6 hs7 hs9
    rw [f3_229] at hr
    refine OwnOut.go (fun t k => XT.sipushV X0.here hx rfl (2048 : Int32) (hb hby d3_229) rfl k) ?_
    show OwnOut p e s below 0 0 _ (T.setTop (mkF m 232 #[s0, s1, s2, s3, .val (.int x4), s5, s6, s7, .val (.int x8), s9] [(.int (2048 : Int32))]))
    refine OwnOut.go (fun t k => XS.istoreS X0.here hx rfl (hb hby d3_232) rfl rfl hs9 k) ?_
    show OwnOut p e s below 0 0 _ (T.setTop (mkF m 234 #[s0, s1, s2, s3, .val (.int x4), s5, s6, s7, .val (.int x8), .val (.int (2048 : Int32))] []))
    refine OwnOut.go (fun t k => XS.goto X0.here hx rfl (pc0 := 234) (pc' := 274) rfl (hb hby d3_234) (by decide) (by decide) k) ?_
    show OwnOut p e s below 0 0 _ (T.setTop (mkF m 274 #[s0, s1, s2, s3, .val (.int x4), s5, s6, s7, .val (.int x8), .val (.int (2048 : Int32))] []))
    exact w3_274 ⟨hx, hZ, hw, hby, hml, hown, hret, hlk, hnm⟩  _ (s0) (s1) (s2) (s3) x4 (s5) (s6) (s7) x8 (2048 : Int32) b0 l0 _ hr X0 e0 A0 hs0 hs1 hs2 hs3 hs5 hs6 hs7
def f3_270 (x4 : Int32) (x8 : Int32) (l0 : List Int32) : Option (Int32) := (f3_274 x4 x8 (65536 : Int32) l0)
set_option maxRecDepth 65536 in
set_option maxHeartbeats 40000000 in
theorem w3_270 {p : Program} {l : Launch} {e : Env} {s : State} {m : MethodId} {args : Array Value} {below : List Frame} {meth : Method} {c : Code} {Z : State} {a0 : Array Value} {h0 : Heap} (C : Cx3 Z a0 p s m meth c) :
    ∀ (T : State) (s0 : Slot) (s1 : Slot) (s2 : Slot) (s3 : Slot) (x4 : Int32) (s5 : Slot) (s6 : Slot) (s7 : Slot) (x8 : Int32) (s9 : Slot) (b0 : Addr) (l0 : List Int32) (o : Int32), f3_270 x4 x8 l0 = some o → Stand p l e rx3 s m args below meth c T [] 0 0 → T.heap = h0 → (Ari Z h0 b0 .byte l0) → (One s0) → (One s1) → (One s2) → (One s3) → (One s5) → (One s6) → (One s7) → (One s9) →  OwnOut p e s below 0 0 (Q3 Z default default b0 l0 h0 o) (T.setTop (mkF m 270 #[s0, s1, s2, s3, .val (.int x4), s5, s6, s7, .val (.int x8), s9] [])) := by
    obtain ⟨hx, hZ, hw, hby, hml, hown, hret, hlk, hnm⟩ := C
    intro T s0 s1 s2 s3 x4 s5 s6 s7 x8 s9 b0 l0 o hr X0 e0 A0 hs0 hs1 hs2 hs3 hs5 hs6 hs7 hs9
    rw [f3_270] at hr
    refine OwnOut.go (fun t k => X0.ldcInt hx hown (mvT hZ (hw _ (List.mem_of_getElem? (i := 14) rfl))) (g := (mkF m 270 #[s0, s1, s2, s3, .val (.int x4), s5, s6, s7, .val (.int x8), s9] [])) rfl (hb hby d3_270) _ k) ?_
    show OwnOut p e s below 0 0 _ (T.setTop (mkF m 272 #[s0, s1, s2, s3, .val (.int x4), s5, s6, s7, .val (.int x8), s9] [(.int (65536 : Int32))]))
    refine OwnOut.go (fun t k => XS.istoreS X0.here hx rfl (hb hby d3_272) rfl rfl hs9 k) ?_
    show OwnOut p e s below 0 0 _ (T.setTop (mkF m 274 #[s0, s1, s2, s3, .val (.int x4), s5, s6, s7, .val (.int x8), .val (.int (65536 : Int32))] []))
    exact w3_274 ⟨hx, hZ, hw, hby, hml, hown, hret, hlk, hnm⟩  _ (s0) (s1) (s2) (s3) x4 (s5) (s6) (s7) x8 (65536 : Int32) b0 l0 _ hr X0 e0 A0 hs0 hs1 hs2 hs3 hs5 hs6 hs7
def f3_170 (x3 : Int32) (x4 : Int32) (x5 : Int32) (x6 : Int32) (x7 : Int32) (l0 : List Int32) : Option (Int32) := (if x4 = (2 : Int32) then (f3_191 x4 (((x3 &&& (31 : Int32)) <<< ((6 : Int32) &&& 31)) ||| (x5 &&& (63 : Int32))) l0) else (if x4 = (3 : Int32) then (f3_229 x4 ((((x3 &&& (15 : Int32)) <<< ((12 : Int32) &&& 31)) ||| ((x5 &&& (63 : Int32)) <<< ((6 : Int32) &&& 31))) ||| (x6 &&& (63 : Int32))) l0) else (f3_270 x4 (((((x3 &&& (7 : Int32)) <<< ((18 : Int32) &&& 31)) ||| ((x5 &&& (63 : Int32)) <<< ((12 : Int32) &&& 31))) ||| ((x6 &&& (63 : Int32)) <<< ((6 : Int32) &&& 31))) ||| (x7 &&& (63 : Int32))) l0)))
set_option maxRecDepth 65536 in
set_option maxHeartbeats 40000000 in
theorem w3_170 {p : Program} {l : Launch} {e : Env} {s : State} {m : MethodId} {args : Array Value} {below : List Frame} {meth : Method} {c : Code} {Z : State} {a0 : Array Value} {h0 : Heap} (C : Cx3 Z a0 p s m meth c) :
    ∀ (T : State) (s0 : Slot) (s1 : Slot) (s2 : Slot) (x3 : Int32) (x4 : Int32) (x5 : Int32) (x6 : Int32) (x7 : Int32) (s8 : Slot) (s9 : Slot) (b0 : Addr) (l0 : List Int32) (o : Int32), f3_170 x3 x4 x5 x6 x7 l0 = some o → Stand p l e rx3 s m args below meth c T [] 0 0 → T.heap = h0 → (Ari Z h0 b0 .byte l0) → (One s0) → (One s1) → (One s2) → (One s8) → (One s9) →  OwnOut p e s below 0 0 (Q3 Z default default b0 l0 h0 o) (T.setTop (mkF m 170 #[s0, s1, s2, .val (.int x3), .val (.int x4), .val (.int x5), .val (.int x6), .val (.int x7), s8, s9] [])) := by
    obtain ⟨hx, hZ, hw, hby, hml, hown, hret, hlk, hnm⟩ := C
    intro T s0 s1 s2 x3 x4 x5 x6 x7 s8 s9 b0 l0 o hr X0 e0 A0 hs0 hs1 hs2 hs8 hs9
    rw [f3_170] at hr
    refine OwnOut.go (fun t k => XS.iload X0.here hx rfl (hb hby d3_170) rfl k) ?_
    show OwnOut p e s below 0 0 _ (T.setTop (mkF m 172 #[s0, s1, s2, .val (.int x3), .val (.int x4), .val (.int x5), .val (.int x6), .val (.int x7), s8, s9] [(.int x4)]))
    refine OwnOut.go (fun t k => XT.iconstV X0.here hx rfl (2 : Int32) (hb hby d3_172) rfl k) ?_
    show OwnOut p e s below 0 0 _ (T.setTop (mkF m 173 #[s0, s1, s2, .val (.int x3), .val (.int x4), .val (.int x5), .val (.int x6), .val (.int x7), s8, s9] [(.int (2 : Int32)), (.int x4)]))
    by_cases hc173 : x4 = (2 : Int32)
    · rw [if_pos hc173] at hr
      refine OwnOut.go (fun t k => XS.icmpNo X0.here hx rfl (hb hby d3_173) rfl (XT.ii_ne_f hc173) k) ?_
      show OwnOut p e s below 0 0 _ (T.setTop (mkF m 176 #[s0, s1, s2, .val (.int x3), .val (.int x4), .val (.int x5), .val (.int x6), .val (.int x7), s8, s9] []))
      refine OwnOut.go (fun t k => XS.iloadN X0.here hx rfl (hb hby d3_176) rfl k) ?_
      show OwnOut p e s below 0 0 _ (T.setTop (mkF m 177 #[s0, s1, s2, .val (.int x3), .val (.int x4), .val (.int x5), .val (.int x6), .val (.int x7), s8, s9] [(.int x3)]))
      refine OwnOut.go (fun t k => XT.bipushV X0.here hx rfl (31 : Int32) (hb hby d3_177) rfl k) ?_
      show OwnOut p e s below 0 0 _ (T.setTop (mkF m 179 #[s0, s1, s2, .val (.int x3), .val (.int x4), .val (.int x5), .val (.int x6), .val (.int x7), s8, s9] [(.int (31 : Int32)), (.int x3)]))
      refine OwnOut.go (fun t k => XS.iand X0.here hx rfl (hb hby d3_179) rfl k) ?_
      show OwnOut p e s below 0 0 _ (T.setTop (mkF m 180 #[s0, s1, s2, .val (.int x3), .val (.int x4), .val (.int x5), .val (.int x6), .val (.int x7), s8, s9] [(.int (x3 &&& (31 : Int32)))]))
      refine OwnOut.go (fun t k => XT.bipushV X0.here hx rfl (6 : Int32) (hb hby d3_180) rfl k) ?_
      show OwnOut p e s below 0 0 _ (T.setTop (mkF m 182 #[s0, s1, s2, .val (.int x3), .val (.int x4), .val (.int x5), .val (.int x6), .val (.int x7), s8, s9] [(.int (6 : Int32)), (.int (x3 &&& (31 : Int32)))]))
      refine OwnOut.go (fun t k => XS.ishl X0.here hx rfl (hb hby d3_182) rfl k) ?_
      show OwnOut p e s below 0 0 _ (T.setTop (mkF m 183 #[s0, s1, s2, .val (.int x3), .val (.int x4), .val (.int x5), .val (.int x6), .val (.int x7), s8, s9] [(.int ((x3 &&& (31 : Int32)) <<< ((6 : Int32) &&& 31)))]))
      refine OwnOut.go (fun t k => XS.iload X0.here hx rfl (hb hby d3_183) rfl k) ?_
      show OwnOut p e s below 0 0 _ (T.setTop (mkF m 185 #[s0, s1, s2, .val (.int x3), .val (.int x4), .val (.int x5), .val (.int x6), .val (.int x7), s8, s9] [(.int x5), (.int ((x3 &&& (31 : Int32)) <<< ((6 : Int32) &&& 31)))]))
      refine OwnOut.go (fun t k => XT.bipushV X0.here hx rfl (63 : Int32) (hb hby d3_185) rfl k) ?_
      show OwnOut p e s below 0 0 _ (T.setTop (mkF m 187 #[s0, s1, s2, .val (.int x3), .val (.int x4), .val (.int x5), .val (.int x6), .val (.int x7), s8, s9] [(.int (63 : Int32)), (.int x5), (.int ((x3 &&& (31 : Int32)) <<< ((6 : Int32) &&& 31)))]))
      refine OwnOut.go (fun t k => XS.iand X0.here hx rfl (hb hby d3_187) rfl k) ?_
      show OwnOut p e s below 0 0 _ (T.setTop (mkF m 188 #[s0, s1, s2, .val (.int x3), .val (.int x4), .val (.int x5), .val (.int x6), .val (.int x7), s8, s9] [(.int (x5 &&& (63 : Int32))), (.int ((x3 &&& (31 : Int32)) <<< ((6 : Int32) &&& 31)))]))
      refine OwnOut.go (fun t k => XS.ior X0.here hx rfl (hb hby d3_188) rfl k) ?_
      show OwnOut p e s below 0 0 _ (T.setTop (mkF m 189 #[s0, s1, s2, .val (.int x3), .val (.int x4), .val (.int x5), .val (.int x6), .val (.int x7), s8, s9] [(.int (((x3 &&& (31 : Int32)) <<< ((6 : Int32) &&& 31)) ||| (x5 &&& (63 : Int32))))]))
      refine OwnOut.go (fun t k => XS.istoreS X0.here hx rfl (hb hby d3_189) rfl rfl hs8 k) ?_
      show OwnOut p e s below 0 0 _ (T.setTop (mkF m 191 #[s0, s1, s2, .val (.int x3), .val (.int x4), .val (.int x5), .val (.int x6), .val (.int x7), .val (.int (((x3 &&& (31 : Int32)) <<< ((6 : Int32) &&& 31)) ||| (x5 &&& (63 : Int32)))), s9] []))
      exact w3_191 ⟨hx, hZ, hw, hby, hml, hown, hret, hlk, hnm⟩  _ (s0) (s1) (s2) (.val (.int x3)) x4 (.val (.int x5)) (.val (.int x6)) (.val (.int x7)) (((x3 &&& (31 : Int32)) <<< ((6 : Int32) &&& 31)) ||| (x5 &&& (63 : Int32))) (s9) b0 l0 _ hr X0 e0 A0 hs0 hs1 hs2 (One.val rfl) (One.val rfl) (One.val rfl) (One.val rfl) hs9
    · rw [if_neg hc173] at hr
      refine OwnOut.go (fun t k => XS.icmpYes X0.here hx rfl (pc0 := 173) (pc' := 199) rfl (hb hby d3_173) rfl (XT.ii_ne_t hc173) (by decide) (by decide) k) ?_
      show OwnOut p e s below 0 0 _ (T.setTop (mkF m 199 #[s0, s1, s2, .val (.int x3), .val (.int x4), .val (.int x5), .val (.int x6), .val (.int x7), s8, s9] []))
      refine OwnOut.go (fun t k => XS.iload X0.here hx rfl (hb hby d3_199) rfl k) ?_
      show OwnOut p e s below 0 0 _ (T.setTop (mkF m 201 #[s0, s1, s2, .val (.int x3), .val (.int x4), .val (.int x5), .val (.int x6), .val (.int x7), s8, s9] [(.int x4)]))
      refine OwnOut.go (fun t k => XT.iconstV X0.here hx rfl (3 : Int32) (hb hby d3_201) rfl k) ?_
      show OwnOut p e s below 0 0 _ (T.setTop (mkF m 202 #[s0, s1, s2, .val (.int x3), .val (.int x4), .val (.int x5), .val (.int x6), .val (.int x7), s8, s9] [(.int (3 : Int32)), (.int x4)]))
      by_cases hc202 : x4 = (3 : Int32)
      · rw [if_pos hc202] at hr
        refine OwnOut.go (fun t k => XS.icmpNo X0.here hx rfl (hb hby d3_202) rfl (XT.ii_ne_f hc202) k) ?_
        show OwnOut p e s below 0 0 _ (T.setTop (mkF m 205 #[s0, s1, s2, .val (.int x3), .val (.int x4), .val (.int x5), .val (.int x6), .val (.int x7), s8, s9] []))
        refine OwnOut.go (fun t k => XS.iloadN X0.here hx rfl (hb hby d3_205) rfl k) ?_
        show OwnOut p e s below 0 0 _ (T.setTop (mkF m 206 #[s0, s1, s2, .val (.int x3), .val (.int x4), .val (.int x5), .val (.int x6), .val (.int x7), s8, s9] [(.int x3)]))
        refine OwnOut.go (fun t k => XT.bipushV X0.here hx rfl (15 : Int32) (hb hby d3_206) rfl k) ?_
        show OwnOut p e s below 0 0 _ (T.setTop (mkF m 208 #[s0, s1, s2, .val (.int x3), .val (.int x4), .val (.int x5), .val (.int x6), .val (.int x7), s8, s9] [(.int (15 : Int32)), (.int x3)]))
        refine OwnOut.go (fun t k => XS.iand X0.here hx rfl (hb hby d3_208) rfl k) ?_
        show OwnOut p e s below 0 0 _ (T.setTop (mkF m 209 #[s0, s1, s2, .val (.int x3), .val (.int x4), .val (.int x5), .val (.int x6), .val (.int x7), s8, s9] [(.int (x3 &&& (15 : Int32)))]))
        refine OwnOut.go (fun t k => XT.bipushV X0.here hx rfl (12 : Int32) (hb hby d3_209) rfl k) ?_
        show OwnOut p e s below 0 0 _ (T.setTop (mkF m 211 #[s0, s1, s2, .val (.int x3), .val (.int x4), .val (.int x5), .val (.int x6), .val (.int x7), s8, s9] [(.int (12 : Int32)), (.int (x3 &&& (15 : Int32)))]))
        refine OwnOut.go (fun t k => XS.ishl X0.here hx rfl (hb hby d3_211) rfl k) ?_
        show OwnOut p e s below 0 0 _ (T.setTop (mkF m 212 #[s0, s1, s2, .val (.int x3), .val (.int x4), .val (.int x5), .val (.int x6), .val (.int x7), s8, s9] [(.int ((x3 &&& (15 : Int32)) <<< ((12 : Int32) &&& 31)))]))
        refine OwnOut.go (fun t k => XS.iload X0.here hx rfl (hb hby d3_212) rfl k) ?_
        show OwnOut p e s below 0 0 _ (T.setTop (mkF m 214 #[s0, s1, s2, .val (.int x3), .val (.int x4), .val (.int x5), .val (.int x6), .val (.int x7), s8, s9] [(.int x5), (.int ((x3 &&& (15 : Int32)) <<< ((12 : Int32) &&& 31)))]))
        refine OwnOut.go (fun t k => XT.bipushV X0.here hx rfl (63 : Int32) (hb hby d3_214) rfl k) ?_
        show OwnOut p e s below 0 0 _ (T.setTop (mkF m 216 #[s0, s1, s2, .val (.int x3), .val (.int x4), .val (.int x5), .val (.int x6), .val (.int x7), s8, s9] [(.int (63 : Int32)), (.int x5), (.int ((x3 &&& (15 : Int32)) <<< ((12 : Int32) &&& 31)))]))
        refine OwnOut.go (fun t k => XS.iand X0.here hx rfl (hb hby d3_216) rfl k) ?_
        show OwnOut p e s below 0 0 _ (T.setTop (mkF m 217 #[s0, s1, s2, .val (.int x3), .val (.int x4), .val (.int x5), .val (.int x6), .val (.int x7), s8, s9] [(.int (x5 &&& (63 : Int32))), (.int ((x3 &&& (15 : Int32)) <<< ((12 : Int32) &&& 31)))]))
        refine OwnOut.go (fun t k => XT.bipushV X0.here hx rfl (6 : Int32) (hb hby d3_217) rfl k) ?_
        show OwnOut p e s below 0 0 _ (T.setTop (mkF m 219 #[s0, s1, s2, .val (.int x3), .val (.int x4), .val (.int x5), .val (.int x6), .val (.int x7), s8, s9] [(.int (6 : Int32)), (.int (x5 &&& (63 : Int32))), (.int ((x3 &&& (15 : Int32)) <<< ((12 : Int32) &&& 31)))]))
        refine OwnOut.go (fun t k => XS.ishl X0.here hx rfl (hb hby d3_219) rfl k) ?_
        show OwnOut p e s below 0 0 _ (T.setTop (mkF m 220 #[s0, s1, s2, .val (.int x3), .val (.int x4), .val (.int x5), .val (.int x6), .val (.int x7), s8, s9] [(.int ((x5 &&& (63 : Int32)) <<< ((6 : Int32) &&& 31))), (.int ((x3 &&& (15 : Int32)) <<< ((12 : Int32) &&& 31)))]))
        refine OwnOut.go (fun t k => XS.ior X0.here hx rfl (hb hby d3_220) rfl k) ?_
        show OwnOut p e s below 0 0 _ (T.setTop (mkF m 221 #[s0, s1, s2, .val (.int x3), .val (.int x4), .val (.int x5), .val (.int x6), .val (.int x7), s8, s9] [(.int (((x3 &&& (15 : Int32)) <<< ((12 : Int32) &&& 31)) ||| ((x5 &&& (63 : Int32)) <<< ((6 : Int32) &&& 31))))]))
        refine OwnOut.go (fun t k => XS.iload X0.here hx rfl (hb hby d3_221) rfl k) ?_
        show OwnOut p e s below 0 0 _ (T.setTop (mkF m 223 #[s0, s1, s2, .val (.int x3), .val (.int x4), .val (.int x5), .val (.int x6), .val (.int x7), s8, s9] [(.int x6), (.int (((x3 &&& (15 : Int32)) <<< ((12 : Int32) &&& 31)) ||| ((x5 &&& (63 : Int32)) <<< ((6 : Int32) &&& 31))))]))
        refine OwnOut.go (fun t k => XT.bipushV X0.here hx rfl (63 : Int32) (hb hby d3_223) rfl k) ?_
        show OwnOut p e s below 0 0 _ (T.setTop (mkF m 225 #[s0, s1, s2, .val (.int x3), .val (.int x4), .val (.int x5), .val (.int x6), .val (.int x7), s8, s9] [(.int (63 : Int32)), (.int x6), (.int (((x3 &&& (15 : Int32)) <<< ((12 : Int32) &&& 31)) ||| ((x5 &&& (63 : Int32)) <<< ((6 : Int32) &&& 31))))]))
        refine OwnOut.go (fun t k => XS.iand X0.here hx rfl (hb hby d3_225) rfl k) ?_
        show OwnOut p e s below 0 0 _ (T.setTop (mkF m 226 #[s0, s1, s2, .val (.int x3), .val (.int x4), .val (.int x5), .val (.int x6), .val (.int x7), s8, s9] [(.int (x6 &&& (63 : Int32))), (.int (((x3 &&& (15 : Int32)) <<< ((12 : Int32) &&& 31)) ||| ((x5 &&& (63 : Int32)) <<< ((6 : Int32) &&& 31))))]))
        refine OwnOut.go (fun t k => XS.ior X0.here hx rfl (hb hby d3_226) rfl k) ?_
        show OwnOut p e s below 0 0 _ (T.setTop (mkF m 227 #[s0, s1, s2, .val (.int x3), .val (.int x4), .val (.int x5), .val (.int x6), .val (.int x7), s8, s9] [(.int ((((x3 &&& (15 : Int32)) <<< ((12 : Int32) &&& 31)) ||| ((x5 &&& (63 : Int32)) <<< ((6 : Int32) &&& 31))) ||| (x6 &&& (63 : Int32))))]))
        refine OwnOut.go (fun t k => XS.istoreS X0.here hx rfl (hb hby d3_227) rfl rfl hs8 k) ?_
        show OwnOut p e s below 0 0 _ (T.setTop (mkF m 229 #[s0, s1, s2, .val (.int x3), .val (.int x4), .val (.int x5), .val (.int x6), .val (.int x7), .val (.int ((((x3 &&& (15 : Int32)) <<< ((12 : Int32) &&& 31)) ||| ((x5 &&& (63 : Int32)) <<< ((6 : Int32) &&& 31))) ||| (x6 &&& (63 : Int32)))), s9] []))
        exact w3_229 ⟨hx, hZ, hw, hby, hml, hown, hret, hlk, hnm⟩  _ (s0) (s1) (s2) (.val (.int x3)) x4 (.val (.int x5)) (.val (.int x6)) (.val (.int x7)) ((((x3 &&& (15 : Int32)) <<< ((12 : Int32) &&& 31)) ||| ((x5 &&& (63 : Int32)) <<< ((6 : Int32) &&& 31))) ||| (x6 &&& (63 : Int32))) (s9) b0 l0 _ hr X0 e0 A0 hs0 hs1 hs2 (One.val rfl) (One.val rfl) (One.val rfl) (One.val rfl) hs9
      · rw [if_neg hc202] at hr
        refine OwnOut.go (fun t k => XS.icmpYes X0.here hx rfl (pc0 := 202) (pc' := 237) rfl (hb hby d3_202) rfl (XT.ii_ne_t hc202) (by decide) (by decide) k) ?_
        show OwnOut p e s below 0 0 _ (T.setTop (mkF m 237 #[s0, s1, s2, .val (.int x3), .val (.int x4), .val (.int x5), .val (.int x6), .val (.int x7), s8, s9] []))
        refine OwnOut.go (fun t k => XS.iloadN X0.here hx rfl (hb hby d3_237) rfl k) ?_
        show OwnOut p e s below 0 0 _ (T.setTop (mkF m 238 #[s0, s1, s2, .val (.int x3), .val (.int x4), .val (.int x5), .val (.int x6), .val (.int x7), s8, s9] [(.int x3)]))
        refine OwnOut.go (fun t k => XT.bipushV X0.here hx rfl (7 : Int32) (hb hby d3_238) rfl k) ?_
        show OwnOut p e s below 0 0 _ (T.setTop (mkF m 240 #[s0, s1, s2, .val (.int x3), .val (.int x4), .val (.int x5), .val (.int x6), .val (.int x7), s8, s9] [(.int (7 : Int32)), (.int x3)]))
        refine OwnOut.go (fun t k => XS.iand X0.here hx rfl (hb hby d3_240) rfl k) ?_
        show OwnOut p e s below 0 0 _ (T.setTop (mkF m 241 #[s0, s1, s2, .val (.int x3), .val (.int x4), .val (.int x5), .val (.int x6), .val (.int x7), s8, s9] [(.int (x3 &&& (7 : Int32)))]))
        refine OwnOut.go (fun t k => XT.bipushV X0.here hx rfl (18 : Int32) (hb hby d3_241) rfl k) ?_
        show OwnOut p e s below 0 0 _ (T.setTop (mkF m 243 #[s0, s1, s2, .val (.int x3), .val (.int x4), .val (.int x5), .val (.int x6), .val (.int x7), s8, s9] [(.int (18 : Int32)), (.int (x3 &&& (7 : Int32)))]))
        refine OwnOut.go (fun t k => XS.ishl X0.here hx rfl (hb hby d3_243) rfl k) ?_
        show OwnOut p e s below 0 0 _ (T.setTop (mkF m 244 #[s0, s1, s2, .val (.int x3), .val (.int x4), .val (.int x5), .val (.int x6), .val (.int x7), s8, s9] [(.int ((x3 &&& (7 : Int32)) <<< ((18 : Int32) &&& 31)))]))
        refine OwnOut.go (fun t k => XS.iload X0.here hx rfl (hb hby d3_244) rfl k) ?_
        show OwnOut p e s below 0 0 _ (T.setTop (mkF m 246 #[s0, s1, s2, .val (.int x3), .val (.int x4), .val (.int x5), .val (.int x6), .val (.int x7), s8, s9] [(.int x5), (.int ((x3 &&& (7 : Int32)) <<< ((18 : Int32) &&& 31)))]))
        refine OwnOut.go (fun t k => XT.bipushV X0.here hx rfl (63 : Int32) (hb hby d3_246) rfl k) ?_
        show OwnOut p e s below 0 0 _ (T.setTop (mkF m 248 #[s0, s1, s2, .val (.int x3), .val (.int x4), .val (.int x5), .val (.int x6), .val (.int x7), s8, s9] [(.int (63 : Int32)), (.int x5), (.int ((x3 &&& (7 : Int32)) <<< ((18 : Int32) &&& 31)))]))
        refine OwnOut.go (fun t k => XS.iand X0.here hx rfl (hb hby d3_248) rfl k) ?_
        show OwnOut p e s below 0 0 _ (T.setTop (mkF m 249 #[s0, s1, s2, .val (.int x3), .val (.int x4), .val (.int x5), .val (.int x6), .val (.int x7), s8, s9] [(.int (x5 &&& (63 : Int32))), (.int ((x3 &&& (7 : Int32)) <<< ((18 : Int32) &&& 31)))]))
        refine OwnOut.go (fun t k => XT.bipushV X0.here hx rfl (12 : Int32) (hb hby d3_249) rfl k) ?_
        show OwnOut p e s below 0 0 _ (T.setTop (mkF m 251 #[s0, s1, s2, .val (.int x3), .val (.int x4), .val (.int x5), .val (.int x6), .val (.int x7), s8, s9] [(.int (12 : Int32)), (.int (x5 &&& (63 : Int32))), (.int ((x3 &&& (7 : Int32)) <<< ((18 : Int32) &&& 31)))]))
        refine OwnOut.go (fun t k => XS.ishl X0.here hx rfl (hb hby d3_251) rfl k) ?_
        show OwnOut p e s below 0 0 _ (T.setTop (mkF m 252 #[s0, s1, s2, .val (.int x3), .val (.int x4), .val (.int x5), .val (.int x6), .val (.int x7), s8, s9] [(.int ((x5 &&& (63 : Int32)) <<< ((12 : Int32) &&& 31))), (.int ((x3 &&& (7 : Int32)) <<< ((18 : Int32) &&& 31)))]))
        refine OwnOut.go (fun t k => XS.ior X0.here hx rfl (hb hby d3_252) rfl k) ?_
        show OwnOut p e s below 0 0 _ (T.setTop (mkF m 253 #[s0, s1, s2, .val (.int x3), .val (.int x4), .val (.int x5), .val (.int x6), .val (.int x7), s8, s9] [(.int (((x3 &&& (7 : Int32)) <<< ((18 : Int32) &&& 31)) ||| ((x5 &&& (63 : Int32)) <<< ((12 : Int32) &&& 31))))]))
        refine OwnOut.go (fun t k => XS.iload X0.here hx rfl (hb hby d3_253) rfl k) ?_
        show OwnOut p e s below 0 0 _ (T.setTop (mkF m 255 #[s0, s1, s2, .val (.int x3), .val (.int x4), .val (.int x5), .val (.int x6), .val (.int x7), s8, s9] [(.int x6), (.int (((x3 &&& (7 : Int32)) <<< ((18 : Int32) &&& 31)) ||| ((x5 &&& (63 : Int32)) <<< ((12 : Int32) &&& 31))))]))
        refine OwnOut.go (fun t k => XT.bipushV X0.here hx rfl (63 : Int32) (hb hby d3_255) rfl k) ?_
        show OwnOut p e s below 0 0 _ (T.setTop (mkF m 257 #[s0, s1, s2, .val (.int x3), .val (.int x4), .val (.int x5), .val (.int x6), .val (.int x7), s8, s9] [(.int (63 : Int32)), (.int x6), (.int (((x3 &&& (7 : Int32)) <<< ((18 : Int32) &&& 31)) ||| ((x5 &&& (63 : Int32)) <<< ((12 : Int32) &&& 31))))]))
        refine OwnOut.go (fun t k => XS.iand X0.here hx rfl (hb hby d3_257) rfl k) ?_
        show OwnOut p e s below 0 0 _ (T.setTop (mkF m 258 #[s0, s1, s2, .val (.int x3), .val (.int x4), .val (.int x5), .val (.int x6), .val (.int x7), s8, s9] [(.int (x6 &&& (63 : Int32))), (.int (((x3 &&& (7 : Int32)) <<< ((18 : Int32) &&& 31)) ||| ((x5 &&& (63 : Int32)) <<< ((12 : Int32) &&& 31))))]))
        refine OwnOut.go (fun t k => XT.bipushV X0.here hx rfl (6 : Int32) (hb hby d3_258) rfl k) ?_
        show OwnOut p e s below 0 0 _ (T.setTop (mkF m 260 #[s0, s1, s2, .val (.int x3), .val (.int x4), .val (.int x5), .val (.int x6), .val (.int x7), s8, s9] [(.int (6 : Int32)), (.int (x6 &&& (63 : Int32))), (.int (((x3 &&& (7 : Int32)) <<< ((18 : Int32) &&& 31)) ||| ((x5 &&& (63 : Int32)) <<< ((12 : Int32) &&& 31))))]))
        refine OwnOut.go (fun t k => XS.ishl X0.here hx rfl (hb hby d3_260) rfl k) ?_
        show OwnOut p e s below 0 0 _ (T.setTop (mkF m 261 #[s0, s1, s2, .val (.int x3), .val (.int x4), .val (.int x5), .val (.int x6), .val (.int x7), s8, s9] [(.int ((x6 &&& (63 : Int32)) <<< ((6 : Int32) &&& 31))), (.int (((x3 &&& (7 : Int32)) <<< ((18 : Int32) &&& 31)) ||| ((x5 &&& (63 : Int32)) <<< ((12 : Int32) &&& 31))))]))
        refine OwnOut.go (fun t k => XS.ior X0.here hx rfl (hb hby d3_261) rfl k) ?_
        show OwnOut p e s below 0 0 _ (T.setTop (mkF m 262 #[s0, s1, s2, .val (.int x3), .val (.int x4), .val (.int x5), .val (.int x6), .val (.int x7), s8, s9] [(.int ((((x3 &&& (7 : Int32)) <<< ((18 : Int32) &&& 31)) ||| ((x5 &&& (63 : Int32)) <<< ((12 : Int32) &&& 31))) ||| ((x6 &&& (63 : Int32)) <<< ((6 : Int32) &&& 31))))]))
        refine OwnOut.go (fun t k => XS.iload X0.here hx rfl (hb hby d3_262) rfl k) ?_
        show OwnOut p e s below 0 0 _ (T.setTop (mkF m 264 #[s0, s1, s2, .val (.int x3), .val (.int x4), .val (.int x5), .val (.int x6), .val (.int x7), s8, s9] [(.int x7), (.int ((((x3 &&& (7 : Int32)) <<< ((18 : Int32) &&& 31)) ||| ((x5 &&& (63 : Int32)) <<< ((12 : Int32) &&& 31))) ||| ((x6 &&& (63 : Int32)) <<< ((6 : Int32) &&& 31))))]))
        refine OwnOut.go (fun t k => XT.bipushV X0.here hx rfl (63 : Int32) (hb hby d3_264) rfl k) ?_
        show OwnOut p e s below 0 0 _ (T.setTop (mkF m 266 #[s0, s1, s2, .val (.int x3), .val (.int x4), .val (.int x5), .val (.int x6), .val (.int x7), s8, s9] [(.int (63 : Int32)), (.int x7), (.int ((((x3 &&& (7 : Int32)) <<< ((18 : Int32) &&& 31)) ||| ((x5 &&& (63 : Int32)) <<< ((12 : Int32) &&& 31))) ||| ((x6 &&& (63 : Int32)) <<< ((6 : Int32) &&& 31))))]))
        refine OwnOut.go (fun t k => XS.iand X0.here hx rfl (hb hby d3_266) rfl k) ?_
        show OwnOut p e s below 0 0 _ (T.setTop (mkF m 267 #[s0, s1, s2, .val (.int x3), .val (.int x4), .val (.int x5), .val (.int x6), .val (.int x7), s8, s9] [(.int (x7 &&& (63 : Int32))), (.int ((((x3 &&& (7 : Int32)) <<< ((18 : Int32) &&& 31)) ||| ((x5 &&& (63 : Int32)) <<< ((12 : Int32) &&& 31))) ||| ((x6 &&& (63 : Int32)) <<< ((6 : Int32) &&& 31))))]))
        refine OwnOut.go (fun t k => XS.ior X0.here hx rfl (hb hby d3_267) rfl k) ?_
        show OwnOut p e s below 0 0 _ (T.setTop (mkF m 268 #[s0, s1, s2, .val (.int x3), .val (.int x4), .val (.int x5), .val (.int x6), .val (.int x7), s8, s9] [(.int (((((x3 &&& (7 : Int32)) <<< ((18 : Int32) &&& 31)) ||| ((x5 &&& (63 : Int32)) <<< ((12 : Int32) &&& 31))) ||| ((x6 &&& (63 : Int32)) <<< ((6 : Int32) &&& 31))) ||| (x7 &&& (63 : Int32))))]))
        refine OwnOut.go (fun t k => XS.istoreS X0.here hx rfl (hb hby d3_268) rfl rfl hs8 k) ?_
        show OwnOut p e s below 0 0 _ (T.setTop (mkF m 270 #[s0, s1, s2, .val (.int x3), .val (.int x4), .val (.int x5), .val (.int x6), .val (.int x7), .val (.int (((((x3 &&& (7 : Int32)) <<< ((18 : Int32) &&& 31)) ||| ((x5 &&& (63 : Int32)) <<< ((12 : Int32) &&& 31))) ||| ((x6 &&& (63 : Int32)) <<< ((6 : Int32) &&& 31))) ||| (x7 &&& (63 : Int32)))), s9] []))
        exact w3_270 ⟨hx, hZ, hw, hby, hml, hown, hret, hlk, hnm⟩  _ (s0) (s1) (s2) (.val (.int x3)) x4 (.val (.int x5)) (.val (.int x6)) (.val (.int x7)) (((((x3 &&& (7 : Int32)) <<< ((18 : Int32) &&& 31)) ||| ((x5 &&& (63 : Int32)) <<< ((12 : Int32) &&& 31))) ||| ((x6 &&& (63 : Int32)) <<< ((6 : Int32) &&& 31))) ||| (x7 &&& (63 : Int32))) (s9) b0 l0 _ hr X0 e0 A0 hs0 hs1 hs2 (One.val rfl) (One.val rfl) (One.val rfl) (One.val rfl) hs9
def f3_139 (x1 : Int32) (x3 : Int32) (x4 : Int32) (x5 : Int32) (x6 : Int32) (x7 : Int32) (l0 : List Int32) : Option (Int32) := (if x4 < (4 : Int32) then (f3_170 x3 x4 x5 x6 x7 l0) else ((ldx l0 (x1 + (3 : Int32))).bind fun v3 => (if ((v3 &&& (255 : Int32)) &&& (192 : Int32)) = (128 : Int32) then (f3_170 x3 x4 x5 x6 (v3 &&& (255 : Int32)) l0) else some ((0 : Int32)))))
set_option maxRecDepth 65536 in
set_option maxHeartbeats 40000000 in
theorem w3_139 {p : Program} {l : Launch} {e : Env} {s : State} {m : MethodId} {args : Array Value} {below : List Frame} {meth : Method} {c : Code} {Z : State} {a0 : Array Value} {h0 : Heap} (C : Cx3 Z a0 p s m meth c) :
    ∀ (T : State) (x1 : Int32) (s2 : Slot) (x3 : Int32) (x4 : Int32) (x5 : Int32) (x6 : Int32) (x7 : Int32) (s8 : Slot) (s9 : Slot) (b0 : Addr) (l0 : List Int32) (o : Int32), f3_139 x1 x3 x4 x5 x6 x7 l0 = some o → Stand p l e rx3 s m args below meth c T [] 0 0 → T.heap = h0 → (Ari Z h0 b0 .byte l0) → (One s2) → (One s8) → (One s9) →  OwnOut p e s below 0 0 (Q3 Z default default b0 l0 h0 o) (T.setTop (mkF m 139 #[.val (.ref b0), .val (.int x1), s2, .val (.int x3), .val (.int x4), .val (.int x5), .val (.int x6), .val (.int x7), s8, s9] [])) := by
    obtain ⟨hx, hZ, hw, hby, hml, hown, hret, hlk, hnm⟩ := C
    intro T x1 s2 x3 x4 x5 x6 x7 s8 s9 b0 l0 o hr X0 e0 A0 hs2 hs8 hs9
    rw [f3_139] at hr
    refine OwnOut.go (fun t k => XS.iload X0.here hx rfl (hb hby d3_139) rfl k) ?_
    show OwnOut p e s below 0 0 _ (T.setTop (mkF m 141 #[.val (.ref b0), .val (.int x1), s2, .val (.int x3), .val (.int x4), .val (.int x5), .val (.int x6), .val (.int x7), s8, s9] [(.int x4)]))
    refine OwnOut.go (fun t k => XT.iconstV X0.here hx rfl (4 : Int32) (hb hby d3_141) rfl k) ?_
    show OwnOut p e s below 0 0 _ (T.setTop (mkF m 142 #[.val (.ref b0), .val (.int x1), s2, .val (.int x3), .val (.int x4), .val (.int x5), .val (.int x6), .val (.int x7), s8, s9] [(.int (4 : Int32)), (.int x4)]))
    by_cases hc142 : x4 < (4 : Int32)
    · rw [if_pos hc142] at hr
      refine OwnOut.go (fun t k => XS.icmpYes X0.here hx rfl (pc0 := 142) (pc' := 170) rfl (hb hby d3_142) rfl (XT.ii_lt_t hc142) (by decide) (by decide) k) ?_
      show OwnOut p e s below 0 0 _ (T.setTop (mkF m 170 #[.val (.ref b0), .val (.int x1), s2, .val (.int x3), .val (.int x4), .val (.int x5), .val (.int x6), .val (.int x7), s8, s9] []))
      exact w3_170 ⟨hx, hZ, hw, hby, hml, hown, hret, hlk, hnm⟩  _ (.val (.ref b0)) (.val (.int x1)) (s2) x3 x4 x5 x6 x7 (s8) (s9) b0 l0 _ hr X0 e0 A0 (One.val rfl) (One.val rfl) hs2 hs8 hs9
    · rw [if_neg hc142] at hr
      refine OwnOut.go (fun t k => XS.icmpNo X0.here hx rfl (hb hby d3_142) rfl (XT.ii_lt_f hc142) k) ?_
      show OwnOut p e s below 0 0 _ (T.setTop (mkF m 145 #[.val (.ref b0), .val (.int x1), s2, .val (.int x3), .val (.int x4), .val (.int x5), .val (.int x6), .val (.int x7), s8, s9] []))
      refine OwnOut.go (fun t k => XS.aloadN X0.here hx rfl (hb hby d3_145) rfl rfl k) ?_
      show OwnOut p e s below 0 0 _ (T.setTop (mkF m 146 #[.val (.ref b0), .val (.int x1), s2, .val (.int x3), .val (.int x4), .val (.int x5), .val (.int x6), .val (.int x7), s8, s9] [(.ref b0)]))
      refine OwnOut.go (fun t k => XS.iloadN X0.here hx rfl (hb hby d3_146) rfl k) ?_
      show OwnOut p e s below 0 0 _ (T.setTop (mkF m 147 #[.val (.ref b0), .val (.int x1), s2, .val (.int x3), .val (.int x4), .val (.int x5), .val (.int x6), .val (.int x7), s8, s9] [(.int x1), (.ref b0)]))
      refine OwnOut.go (fun t k => XT.iconstV X0.here hx rfl (3 : Int32) (hb hby d3_147) rfl k) ?_
      show OwnOut p e s below 0 0 _ (T.setTop (mkF m 148 #[.val (.ref b0), .val (.int x1), s2, .val (.int x3), .val (.int x4), .val (.int x5), .val (.int x6), .val (.int x7), s8, s9] [(.int (3 : Int32)), (.int x1), (.ref b0)]))
      refine OwnOut.go (fun t k => XS.iadd X0.here hx rfl (hb hby d3_148) rfl k) ?_
      show OwnOut p e s below 0 0 _ (T.setTop (mkF m 149 #[.val (.ref b0), .val (.int x1), s2, .val (.int x3), .val (.int x4), .val (.int x5), .val (.int x6), .val (.int x7), s8, s9] [(.int (x1 + (3 : Int32))), (.ref b0)]))
      obtain ⟨v3, hv3, hr⟩ := Option.bind_eq_some_iff.mp hr
      refine OwnOut.go (fun t k => ldB X0 hx hZ e0 A0 hv3 (g := (mkF m 149 #[.val (.ref b0), .val (.int x1), s2, .val (.int x3), .val (.int x4), .val (.int x5), .val (.int x6), .val (.int x7), s8, s9] [(.int (x1 + (3 : Int32))), (.ref b0)])) rfl rfl (hb hby d3_149) t k) ?_
      show OwnOut p e s below 0 0 _ (T.setTop (mkF m 150 #[.val (.ref b0), .val (.int x1), s2, .val (.int x3), .val (.int x4), .val (.int x5), .val (.int x6), .val (.int x7), s8, s9] [(.int v3)]))
      refine OwnOut.go (fun t k => XT.sipushV X0.here hx rfl (255 : Int32) (hb hby d3_150) rfl k) ?_
      show OwnOut p e s below 0 0 _ (T.setTop (mkF m 153 #[.val (.ref b0), .val (.int x1), s2, .val (.int x3), .val (.int x4), .val (.int x5), .val (.int x6), .val (.int x7), s8, s9] [(.int (255 : Int32)), (.int v3)]))
      refine OwnOut.go (fun t k => XS.iand X0.here hx rfl (hb hby d3_153) rfl k) ?_
      show OwnOut p e s below 0 0 _ (T.setTop (mkF m 154 #[.val (.ref b0), .val (.int x1), s2, .val (.int x3), .val (.int x4), .val (.int x5), .val (.int x6), .val (.int x7), s8, s9] [(.int (v3 &&& (255 : Int32)))]))
      refine OwnOut.go (fun t k => XS.istore X0.here hx rfl (hb hby d3_154) rfl (l' := #[.val (.ref b0), .val (.int x1), s2, .val (.int x3), .val (.int x4), .val (.int x5), .val (.int x6), .val (.int (v3 &&& (255 : Int32))), s8, s9]) rfl k) ?_
      show OwnOut p e s below 0 0 _ (T.setTop (mkF m 156 #[.val (.ref b0), .val (.int x1), s2, .val (.int x3), .val (.int x4), .val (.int x5), .val (.int x6), .val (.int (v3 &&& (255 : Int32))), s8, s9] []))
      refine OwnOut.go (fun t k => XS.iload X0.here hx rfl (hb hby d3_156) rfl k) ?_
      show OwnOut p e s below 0 0 _ (T.setTop (mkF m 158 #[.val (.ref b0), .val (.int x1), s2, .val (.int x3), .val (.int x4), .val (.int x5), .val (.int x6), .val (.int (v3 &&& (255 : Int32))), s8, s9] [(.int (v3 &&& (255 : Int32)))]))
      refine OwnOut.go (fun t k => XT.sipushV X0.here hx rfl (192 : Int32) (hb hby d3_158) rfl k) ?_
      show OwnOut p e s below 0 0 _ (T.setTop (mkF m 161 #[.val (.ref b0), .val (.int x1), s2, .val (.int x3), .val (.int x4), .val (.int x5), .val (.int x6), .val (.int (v3 &&& (255 : Int32))), s8, s9] [(.int (192 : Int32)), (.int (v3 &&& (255 : Int32)))]))
      refine OwnOut.go (fun t k => XS.iand X0.here hx rfl (hb hby d3_161) rfl k) ?_
      show OwnOut p e s below 0 0 _ (T.setTop (mkF m 162 #[.val (.ref b0), .val (.int x1), s2, .val (.int x3), .val (.int x4), .val (.int x5), .val (.int x6), .val (.int (v3 &&& (255 : Int32))), s8, s9] [(.int ((v3 &&& (255 : Int32)) &&& (192 : Int32)))]))
      refine OwnOut.go (fun t k => XT.sipushV X0.here hx rfl (128 : Int32) (hb hby d3_162) rfl k) ?_
      show OwnOut p e s below 0 0 _ (T.setTop (mkF m 165 #[.val (.ref b0), .val (.int x1), s2, .val (.int x3), .val (.int x4), .val (.int x5), .val (.int x6), .val (.int (v3 &&& (255 : Int32))), s8, s9] [(.int (128 : Int32)), (.int ((v3 &&& (255 : Int32)) &&& (192 : Int32)))]))
      by_cases hc165 : ((v3 &&& (255 : Int32)) &&& (192 : Int32)) = (128 : Int32)
      · rw [if_pos hc165] at hr
        refine OwnOut.go (fun t k => XS.icmpYes X0.here hx rfl (pc0 := 165) (pc' := 170) rfl (hb hby d3_165) rfl (XT.ii_eq_t hc165) (by decide) (by decide) k) ?_
        show OwnOut p e s below 0 0 _ (T.setTop (mkF m 170 #[.val (.ref b0), .val (.int x1), s2, .val (.int x3), .val (.int x4), .val (.int x5), .val (.int x6), .val (.int (v3 &&& (255 : Int32))), s8, s9] []))
        exact w3_170 ⟨hx, hZ, hw, hby, hml, hown, hret, hlk, hnm⟩  _ (.val (.ref b0)) (.val (.int x1)) (s2) x3 x4 x5 x6 (v3 &&& (255 : Int32)) (s8) (s9) b0 l0 _ hr X0 e0 A0 (One.val rfl) (One.val rfl) hs2 hs8 hs9
      · rw [if_neg hc165] at hr
        refine OwnOut.go (fun t k => XS.icmpNo X0.here hx rfl (hb hby d3_165) rfl (XT.ii_eq_f hc165) k) ?_
        show OwnOut p e s below 0 0 _ (T.setTop (mkF m 168 #[.val (.ref b0), .val (.int x1), s2, .val (.int x3), .val (.int x4), .val (.int x5), .val (.int x6), .val (.int (v3 &&& (255 : Int32))), s8, s9] []))
        refine OwnOut.go (fun t k => XT.iconstV X0.here hx rfl (0 : Int32) (hb hby d3_168) rfl k) ?_
        show OwnOut p e s below 0 0 _ (T.setTop (mkF m 169 #[.val (.ref b0), .val (.int x1), s2, .val (.int x3), .val (.int x4), .val (.int x5), .val (.int x6), .val (.int (v3 &&& (255 : Int32))), s8, s9] [(.int (0 : Int32))]))
        cases hr
        exact outI X0 hx hret (hb hby d3_169) hlk (by decide) (by decide) ⟨rfl, e0, rfl⟩
def f3_67 (x1 : Int32) (x2 : Int32) (x3 : Int32) (x4 : Int32) (l0 : List Int32) : Option (Int32) := (if x2 < (x1 + x4) then some ((0 : Int32)) else ((ldx l0 (x1 + (1 : Int32))).bind fun v2 => (if ((v2 &&& (255 : Int32)) &&& (192 : Int32)) = (128 : Int32) then (if x4 < (3 : Int32) then (f3_139 x1 x3 x4 (v2 &&& (255 : Int32)) (0 : Int32) (0 : Int32) l0) else ((ldx l0 (x1 + (2 : Int32))).bind fun v4 => (if ((v4 &&& (255 : Int32)) &&& (192 : Int32)) = (128 : Int32) then (f3_139 x1 x3 x4 (v2 &&& (255 : Int32)) (v4 &&& (255 : Int32)) (0 : Int32) l0) else some ((0 : Int32))))) else some ((0 : Int32)))))
set_option maxRecDepth 65536 in
set_option maxHeartbeats 40000000 in
theorem w3_67 {p : Program} {l : Launch} {e : Env} {s : State} {m : MethodId} {args : Array Value} {below : List Frame} {meth : Method} {c : Code} {Z : State} {a0 : Array Value} {h0 : Heap} (C : Cx3 Z a0 p s m meth c) :
    ∀ (T : State) (x1 : Int32) (x2 : Int32) (x3 : Int32) (x4 : Int32) (s5 : Slot) (s6 : Slot) (s7 : Slot) (s8 : Slot) (s9 : Slot) (b0 : Addr) (l0 : List Int32) (o : Int32), f3_67 x1 x2 x3 x4 l0 = some o → Stand p l e rx3 s m args below meth c T [] 0 0 → T.heap = h0 → (Ari Z h0 b0 .byte l0) → (One s5) → (One s6) → (One s7) → (One s8) → (One s9) →  OwnOut p e s below 0 0 (Q3 Z default default b0 l0 h0 o) (T.setTop (mkF m 67 #[.val (.ref b0), .val (.int x1), .val (.int x2), .val (.int x3), .val (.int x4), s5, s6, s7, s8, s9] [])) := by
    obtain ⟨hx, hZ, hw, hby, hml, hown, hret, hlk, hnm⟩ := C
    intro T x1 x2 x3 x4 s5 s6 s7 s8 s9 b0 l0 o hr X0 e0 A0 hs5 hs6 hs7 hs8 hs9
    rw [f3_67] at hr
    refine OwnOut.go (fun t k => XS.iloadN X0.here hx rfl (hb hby d3_67) rfl k) ?_
    show OwnOut p e s below 0 0 _ (T.setTop (mkF m 68 #[.val (.ref b0), .val (.int x1), .val (.int x2), .val (.int x3), .val (.int x4), s5, s6, s7, s8, s9] [(.int x1)]))
    refine OwnOut.go (fun t k => XS.iload X0.here hx rfl (hb hby d3_68) rfl k) ?_
    show OwnOut p e s below 0 0 _ (T.setTop (mkF m 70 #[.val (.ref b0), .val (.int x1), .val (.int x2), .val (.int x3), .val (.int x4), s5, s6, s7, s8, s9] [(.int x4), (.int x1)]))
    refine OwnOut.go (fun t k => XS.iadd X0.here hx rfl (hb hby d3_70) rfl k) ?_
    show OwnOut p e s below 0 0 _ (T.setTop (mkF m 71 #[.val (.ref b0), .val (.int x1), .val (.int x2), .val (.int x3), .val (.int x4), s5, s6, s7, s8, s9] [(.int (x1 + x4))]))
    refine OwnOut.go (fun t k => XS.iloadN X0.here hx rfl (hb hby d3_71) rfl k) ?_
    show OwnOut p e s below 0 0 _ (T.setTop (mkF m 72 #[.val (.ref b0), .val (.int x1), .val (.int x2), .val (.int x3), .val (.int x4), s5, s6, s7, s8, s9] [(.int x2), (.int (x1 + x4))]))
    by_cases hc72 : x2 < (x1 + x4)
    · rw [if_pos hc72] at hr
      refine OwnOut.go (fun t k => XS.icmpNo X0.here hx rfl (hb hby d3_72) rfl (XT.ii_le_f hc72) k) ?_
      show OwnOut p e s below 0 0 _ (T.setTop (mkF m 75 #[.val (.ref b0), .val (.int x1), .val (.int x2), .val (.int x3), .val (.int x4), s5, s6, s7, s8, s9] []))
      refine OwnOut.go (fun t k => XT.iconstV X0.here hx rfl (0 : Int32) (hb hby d3_75) rfl k) ?_
      show OwnOut p e s below 0 0 _ (T.setTop (mkF m 76 #[.val (.ref b0), .val (.int x1), .val (.int x2), .val (.int x3), .val (.int x4), s5, s6, s7, s8, s9] [(.int (0 : Int32))]))
      cases hr
      exact outI X0 hx hret (hb hby d3_76) hlk (by decide) (by decide) ⟨rfl, e0, rfl⟩
    · rw [if_neg hc72] at hr
      refine OwnOut.go (fun t k => XS.icmpYes X0.here hx rfl (pc0 := 72) (pc' := 77) rfl (hb hby d3_72) rfl (XT.ii_le_t hc72) (by decide) (by decide) k) ?_
      show OwnOut p e s below 0 0 _ (T.setTop (mkF m 77 #[.val (.ref b0), .val (.int x1), .val (.int x2), .val (.int x3), .val (.int x4), s5, s6, s7, s8, s9] []))
      refine OwnOut.go (fun t k => XS.aloadN X0.here hx rfl (hb hby d3_77) rfl rfl k) ?_
      show OwnOut p e s below 0 0 _ (T.setTop (mkF m 78 #[.val (.ref b0), .val (.int x1), .val (.int x2), .val (.int x3), .val (.int x4), s5, s6, s7, s8, s9] [(.ref b0)]))
      refine OwnOut.go (fun t k => XS.iloadN X0.here hx rfl (hb hby d3_78) rfl k) ?_
      show OwnOut p e s below 0 0 _ (T.setTop (mkF m 79 #[.val (.ref b0), .val (.int x1), .val (.int x2), .val (.int x3), .val (.int x4), s5, s6, s7, s8, s9] [(.int x1), (.ref b0)]))
      refine OwnOut.go (fun t k => XT.iconstV X0.here hx rfl (1 : Int32) (hb hby d3_79) rfl k) ?_
      show OwnOut p e s below 0 0 _ (T.setTop (mkF m 80 #[.val (.ref b0), .val (.int x1), .val (.int x2), .val (.int x3), .val (.int x4), s5, s6, s7, s8, s9] [(.int (1 : Int32)), (.int x1), (.ref b0)]))
      refine OwnOut.go (fun t k => XS.iadd X0.here hx rfl (hb hby d3_80) rfl k) ?_
      show OwnOut p e s below 0 0 _ (T.setTop (mkF m 81 #[.val (.ref b0), .val (.int x1), .val (.int x2), .val (.int x3), .val (.int x4), s5, s6, s7, s8, s9] [(.int (x1 + (1 : Int32))), (.ref b0)]))
      obtain ⟨v2, hv2, hr⟩ := Option.bind_eq_some_iff.mp hr
      refine OwnOut.go (fun t k => ldB X0 hx hZ e0 A0 hv2 (g := (mkF m 81 #[.val (.ref b0), .val (.int x1), .val (.int x2), .val (.int x3), .val (.int x4), s5, s6, s7, s8, s9] [(.int (x1 + (1 : Int32))), (.ref b0)])) rfl rfl (hb hby d3_81) t k) ?_
      show OwnOut p e s below 0 0 _ (T.setTop (mkF m 82 #[.val (.ref b0), .val (.int x1), .val (.int x2), .val (.int x3), .val (.int x4), s5, s6, s7, s8, s9] [(.int v2)]))
      refine OwnOut.go (fun t k => XT.sipushV X0.here hx rfl (255 : Int32) (hb hby d3_82) rfl k) ?_
      show OwnOut p e s below 0 0 _ (T.setTop (mkF m 85 #[.val (.ref b0), .val (.int x1), .val (.int x2), .val (.int x3), .val (.int x4), s5, s6, s7, s8, s9] [(.int (255 : Int32)), (.int v2)]))
      refine OwnOut.go (fun t k => XS.iand X0.here hx rfl (hb hby d3_85) rfl k) ?_
      show OwnOut p e s below 0 0 _ (T.setTop (mkF m 86 #[.val (.ref b0), .val (.int x1), .val (.int x2), .val (.int x3), .val (.int x4), s5, s6, s7, s8, s9] [(.int (v2 &&& (255 : Int32)))]))
      refine OwnOut.go (fun t k => XS.istoreS X0.here hx rfl (hb hby d3_86) rfl rfl hs5 k) ?_
      show OwnOut p e s below 0 0 _ (T.setTop (mkF m 88 #[.val (.ref b0), .val (.int x1), .val (.int x2), .val (.int x3), .val (.int x4), .val (.int (v2 &&& (255 : Int32))), s6, s7, s8, s9] []))
      refine OwnOut.go (fun t k => XS.iload X0.here hx rfl (hb hby d3_88) rfl k) ?_
      show OwnOut p e s below 0 0 _ (T.setTop (mkF m 90 #[.val (.ref b0), .val (.int x1), .val (.int x2), .val (.int x3), .val (.int x4), .val (.int (v2 &&& (255 : Int32))), s6, s7, s8, s9] [(.int (v2 &&& (255 : Int32)))]))
      refine OwnOut.go (fun t k => XT.sipushV X0.here hx rfl (192 : Int32) (hb hby d3_90) rfl k) ?_
      show OwnOut p e s below 0 0 _ (T.setTop (mkF m 93 #[.val (.ref b0), .val (.int x1), .val (.int x2), .val (.int x3), .val (.int x4), .val (.int (v2 &&& (255 : Int32))), s6, s7, s8, s9] [(.int (192 : Int32)), (.int (v2 &&& (255 : Int32)))]))
      refine OwnOut.go (fun t k => XS.iand X0.here hx rfl (hb hby d3_93) rfl k) ?_
      show OwnOut p e s below 0 0 _ (T.setTop (mkF m 94 #[.val (.ref b0), .val (.int x1), .val (.int x2), .val (.int x3), .val (.int x4), .val (.int (v2 &&& (255 : Int32))), s6, s7, s8, s9] [(.int ((v2 &&& (255 : Int32)) &&& (192 : Int32)))]))
      refine OwnOut.go (fun t k => XT.sipushV X0.here hx rfl (128 : Int32) (hb hby d3_94) rfl k) ?_
      show OwnOut p e s below 0 0 _ (T.setTop (mkF m 97 #[.val (.ref b0), .val (.int x1), .val (.int x2), .val (.int x3), .val (.int x4), .val (.int (v2 &&& (255 : Int32))), s6, s7, s8, s9] [(.int (128 : Int32)), (.int ((v2 &&& (255 : Int32)) &&& (192 : Int32)))]))
      by_cases hc97 : ((v2 &&& (255 : Int32)) &&& (192 : Int32)) = (128 : Int32)
      · rw [if_pos hc97] at hr
        refine OwnOut.go (fun t k => XS.icmpYes X0.here hx rfl (pc0 := 97) (pc' := 102) rfl (hb hby d3_97) rfl (XT.ii_eq_t hc97) (by decide) (by decide) k) ?_
        show OwnOut p e s below 0 0 _ (T.setTop (mkF m 102 #[.val (.ref b0), .val (.int x1), .val (.int x2), .val (.int x3), .val (.int x4), .val (.int (v2 &&& (255 : Int32))), s6, s7, s8, s9] []))
        refine OwnOut.go (fun t k => XT.iconstV X0.here hx rfl (0 : Int32) (hb hby d3_102) rfl k) ?_
        show OwnOut p e s below 0 0 _ (T.setTop (mkF m 103 #[.val (.ref b0), .val (.int x1), .val (.int x2), .val (.int x3), .val (.int x4), .val (.int (v2 &&& (255 : Int32))), s6, s7, s8, s9] [(.int (0 : Int32))]))
        refine OwnOut.go (fun t k => XS.istoreS X0.here hx rfl (hb hby d3_103) rfl rfl hs6 k) ?_
        show OwnOut p e s below 0 0 _ (T.setTop (mkF m 105 #[.val (.ref b0), .val (.int x1), .val (.int x2), .val (.int x3), .val (.int x4), .val (.int (v2 &&& (255 : Int32))), .val (.int (0 : Int32)), s7, s8, s9] []))
        refine OwnOut.go (fun t k => XT.iconstV X0.here hx rfl (0 : Int32) (hb hby d3_105) rfl k) ?_
        show OwnOut p e s below 0 0 _ (T.setTop (mkF m 106 #[.val (.ref b0), .val (.int x1), .val (.int x2), .val (.int x3), .val (.int x4), .val (.int (v2 &&& (255 : Int32))), .val (.int (0 : Int32)), s7, s8, s9] [(.int (0 : Int32))]))
        refine OwnOut.go (fun t k => XS.istoreS X0.here hx rfl (hb hby d3_106) rfl rfl hs7 k) ?_
        show OwnOut p e s below 0 0 _ (T.setTop (mkF m 108 #[.val (.ref b0), .val (.int x1), .val (.int x2), .val (.int x3), .val (.int x4), .val (.int (v2 &&& (255 : Int32))), .val (.int (0 : Int32)), .val (.int (0 : Int32)), s8, s9] []))
        refine OwnOut.go (fun t k => XS.iload X0.here hx rfl (hb hby d3_108) rfl k) ?_
        show OwnOut p e s below 0 0 _ (T.setTop (mkF m 110 #[.val (.ref b0), .val (.int x1), .val (.int x2), .val (.int x3), .val (.int x4), .val (.int (v2 &&& (255 : Int32))), .val (.int (0 : Int32)), .val (.int (0 : Int32)), s8, s9] [(.int x4)]))
        refine OwnOut.go (fun t k => XT.iconstV X0.here hx rfl (3 : Int32) (hb hby d3_110) rfl k) ?_
        show OwnOut p e s below 0 0 _ (T.setTop (mkF m 111 #[.val (.ref b0), .val (.int x1), .val (.int x2), .val (.int x3), .val (.int x4), .val (.int (v2 &&& (255 : Int32))), .val (.int (0 : Int32)), .val (.int (0 : Int32)), s8, s9] [(.int (3 : Int32)), (.int x4)]))
        by_cases hc111 : x4 < (3 : Int32)
        · rw [if_pos hc111] at hr
          refine OwnOut.go (fun t k => XS.icmpYes X0.here hx rfl (pc0 := 111) (pc' := 139) rfl (hb hby d3_111) rfl (XT.ii_lt_t hc111) (by decide) (by decide) k) ?_
          show OwnOut p e s below 0 0 _ (T.setTop (mkF m 139 #[.val (.ref b0), .val (.int x1), .val (.int x2), .val (.int x3), .val (.int x4), .val (.int (v2 &&& (255 : Int32))), .val (.int (0 : Int32)), .val (.int (0 : Int32)), s8, s9] []))
          exact w3_139 ⟨hx, hZ, hw, hby, hml, hown, hret, hlk, hnm⟩  _ x1 (.val (.int x2)) x3 x4 (v2 &&& (255 : Int32)) (0 : Int32) (0 : Int32) (s8) (s9) b0 l0 _ hr X0 e0 A0 (One.val rfl) hs8 hs9
        · rw [if_neg hc111] at hr
          refine OwnOut.go (fun t k => XS.icmpNo X0.here hx rfl (hb hby d3_111) rfl (XT.ii_lt_f hc111) k) ?_
          show OwnOut p e s below 0 0 _ (T.setTop (mkF m 114 #[.val (.ref b0), .val (.int x1), .val (.int x2), .val (.int x3), .val (.int x4), .val (.int (v2 &&& (255 : Int32))), .val (.int (0 : Int32)), .val (.int (0 : Int32)), s8, s9] []))
          refine OwnOut.go (fun t k => XS.aloadN X0.here hx rfl (hb hby d3_114) rfl rfl k) ?_
          show OwnOut p e s below 0 0 _ (T.setTop (mkF m 115 #[.val (.ref b0), .val (.int x1), .val (.int x2), .val (.int x3), .val (.int x4), .val (.int (v2 &&& (255 : Int32))), .val (.int (0 : Int32)), .val (.int (0 : Int32)), s8, s9] [(.ref b0)]))
          refine OwnOut.go (fun t k => XS.iloadN X0.here hx rfl (hb hby d3_115) rfl k) ?_
          show OwnOut p e s below 0 0 _ (T.setTop (mkF m 116 #[.val (.ref b0), .val (.int x1), .val (.int x2), .val (.int x3), .val (.int x4), .val (.int (v2 &&& (255 : Int32))), .val (.int (0 : Int32)), .val (.int (0 : Int32)), s8, s9] [(.int x1), (.ref b0)]))
          refine OwnOut.go (fun t k => XT.iconstV X0.here hx rfl (2 : Int32) (hb hby d3_116) rfl k) ?_
          show OwnOut p e s below 0 0 _ (T.setTop (mkF m 117 #[.val (.ref b0), .val (.int x1), .val (.int x2), .val (.int x3), .val (.int x4), .val (.int (v2 &&& (255 : Int32))), .val (.int (0 : Int32)), .val (.int (0 : Int32)), s8, s9] [(.int (2 : Int32)), (.int x1), (.ref b0)]))
          refine OwnOut.go (fun t k => XS.iadd X0.here hx rfl (hb hby d3_117) rfl k) ?_
          show OwnOut p e s below 0 0 _ (T.setTop (mkF m 118 #[.val (.ref b0), .val (.int x1), .val (.int x2), .val (.int x3), .val (.int x4), .val (.int (v2 &&& (255 : Int32))), .val (.int (0 : Int32)), .val (.int (0 : Int32)), s8, s9] [(.int (x1 + (2 : Int32))), (.ref b0)]))
          obtain ⟨v4, hv4, hr⟩ := Option.bind_eq_some_iff.mp hr
          refine OwnOut.go (fun t k => ldB X0 hx hZ e0 A0 hv4 (g := (mkF m 118 #[.val (.ref b0), .val (.int x1), .val (.int x2), .val (.int x3), .val (.int x4), .val (.int (v2 &&& (255 : Int32))), .val (.int (0 : Int32)), .val (.int (0 : Int32)), s8, s9] [(.int (x1 + (2 : Int32))), (.ref b0)])) rfl rfl (hb hby d3_118) t k) ?_
          show OwnOut p e s below 0 0 _ (T.setTop (mkF m 119 #[.val (.ref b0), .val (.int x1), .val (.int x2), .val (.int x3), .val (.int x4), .val (.int (v2 &&& (255 : Int32))), .val (.int (0 : Int32)), .val (.int (0 : Int32)), s8, s9] [(.int v4)]))
          refine OwnOut.go (fun t k => XT.sipushV X0.here hx rfl (255 : Int32) (hb hby d3_119) rfl k) ?_
          show OwnOut p e s below 0 0 _ (T.setTop (mkF m 122 #[.val (.ref b0), .val (.int x1), .val (.int x2), .val (.int x3), .val (.int x4), .val (.int (v2 &&& (255 : Int32))), .val (.int (0 : Int32)), .val (.int (0 : Int32)), s8, s9] [(.int (255 : Int32)), (.int v4)]))
          refine OwnOut.go (fun t k => XS.iand X0.here hx rfl (hb hby d3_122) rfl k) ?_
          show OwnOut p e s below 0 0 _ (T.setTop (mkF m 123 #[.val (.ref b0), .val (.int x1), .val (.int x2), .val (.int x3), .val (.int x4), .val (.int (v2 &&& (255 : Int32))), .val (.int (0 : Int32)), .val (.int (0 : Int32)), s8, s9] [(.int (v4 &&& (255 : Int32)))]))
          refine OwnOut.go (fun t k => XS.istore X0.here hx rfl (hb hby d3_123) rfl (l' := #[.val (.ref b0), .val (.int x1), .val (.int x2), .val (.int x3), .val (.int x4), .val (.int (v2 &&& (255 : Int32))), .val (.int (v4 &&& (255 : Int32))), .val (.int (0 : Int32)), s8, s9]) rfl k) ?_
          show OwnOut p e s below 0 0 _ (T.setTop (mkF m 125 #[.val (.ref b0), .val (.int x1), .val (.int x2), .val (.int x3), .val (.int x4), .val (.int (v2 &&& (255 : Int32))), .val (.int (v4 &&& (255 : Int32))), .val (.int (0 : Int32)), s8, s9] []))
          refine OwnOut.go (fun t k => XS.iload X0.here hx rfl (hb hby d3_125) rfl k) ?_
          show OwnOut p e s below 0 0 _ (T.setTop (mkF m 127 #[.val (.ref b0), .val (.int x1), .val (.int x2), .val (.int x3), .val (.int x4), .val (.int (v2 &&& (255 : Int32))), .val (.int (v4 &&& (255 : Int32))), .val (.int (0 : Int32)), s8, s9] [(.int (v4 &&& (255 : Int32)))]))
          refine OwnOut.go (fun t k => XT.sipushV X0.here hx rfl (192 : Int32) (hb hby d3_127) rfl k) ?_
          show OwnOut p e s below 0 0 _ (T.setTop (mkF m 130 #[.val (.ref b0), .val (.int x1), .val (.int x2), .val (.int x3), .val (.int x4), .val (.int (v2 &&& (255 : Int32))), .val (.int (v4 &&& (255 : Int32))), .val (.int (0 : Int32)), s8, s9] [(.int (192 : Int32)), (.int (v4 &&& (255 : Int32)))]))
          refine OwnOut.go (fun t k => XS.iand X0.here hx rfl (hb hby d3_130) rfl k) ?_
          show OwnOut p e s below 0 0 _ (T.setTop (mkF m 131 #[.val (.ref b0), .val (.int x1), .val (.int x2), .val (.int x3), .val (.int x4), .val (.int (v2 &&& (255 : Int32))), .val (.int (v4 &&& (255 : Int32))), .val (.int (0 : Int32)), s8, s9] [(.int ((v4 &&& (255 : Int32)) &&& (192 : Int32)))]))
          refine OwnOut.go (fun t k => XT.sipushV X0.here hx rfl (128 : Int32) (hb hby d3_131) rfl k) ?_
          show OwnOut p e s below 0 0 _ (T.setTop (mkF m 134 #[.val (.ref b0), .val (.int x1), .val (.int x2), .val (.int x3), .val (.int x4), .val (.int (v2 &&& (255 : Int32))), .val (.int (v4 &&& (255 : Int32))), .val (.int (0 : Int32)), s8, s9] [(.int (128 : Int32)), (.int ((v4 &&& (255 : Int32)) &&& (192 : Int32)))]))
          by_cases hc134 : ((v4 &&& (255 : Int32)) &&& (192 : Int32)) = (128 : Int32)
          · rw [if_pos hc134] at hr
            refine OwnOut.go (fun t k => XS.icmpYes X0.here hx rfl (pc0 := 134) (pc' := 139) rfl (hb hby d3_134) rfl (XT.ii_eq_t hc134) (by decide) (by decide) k) ?_
            show OwnOut p e s below 0 0 _ (T.setTop (mkF m 139 #[.val (.ref b0), .val (.int x1), .val (.int x2), .val (.int x3), .val (.int x4), .val (.int (v2 &&& (255 : Int32))), .val (.int (v4 &&& (255 : Int32))), .val (.int (0 : Int32)), s8, s9] []))
            exact w3_139 ⟨hx, hZ, hw, hby, hml, hown, hret, hlk, hnm⟩  _ x1 (.val (.int x2)) x3 x4 (v2 &&& (255 : Int32)) (v4 &&& (255 : Int32)) (0 : Int32) (s8) (s9) b0 l0 _ hr X0 e0 A0 (One.val rfl) hs8 hs9
          · rw [if_neg hc134] at hr
            refine OwnOut.go (fun t k => XS.icmpNo X0.here hx rfl (hb hby d3_134) rfl (XT.ii_eq_f hc134) k) ?_
            show OwnOut p e s below 0 0 _ (T.setTop (mkF m 137 #[.val (.ref b0), .val (.int x1), .val (.int x2), .val (.int x3), .val (.int x4), .val (.int (v2 &&& (255 : Int32))), .val (.int (v4 &&& (255 : Int32))), .val (.int (0 : Int32)), s8, s9] []))
            refine OwnOut.go (fun t k => XT.iconstV X0.here hx rfl (0 : Int32) (hb hby d3_137) rfl k) ?_
            show OwnOut p e s below 0 0 _ (T.setTop (mkF m 138 #[.val (.ref b0), .val (.int x1), .val (.int x2), .val (.int x3), .val (.int x4), .val (.int (v2 &&& (255 : Int32))), .val (.int (v4 &&& (255 : Int32))), .val (.int (0 : Int32)), s8, s9] [(.int (0 : Int32))]))
            cases hr
            exact outI X0 hx hret (hb hby d3_138) hlk (by decide) (by decide) ⟨rfl, e0, rfl⟩
      · rw [if_neg hc97] at hr
        refine OwnOut.go (fun t k => XS.icmpNo X0.here hx rfl (hb hby d3_97) rfl (XT.ii_eq_f hc97) k) ?_
        show OwnOut p e s below 0 0 _ (T.setTop (mkF m 100 #[.val (.ref b0), .val (.int x1), .val (.int x2), .val (.int x3), .val (.int x4), .val (.int (v2 &&& (255 : Int32))), s6, s7, s8, s9] []))
        refine OwnOut.go (fun t k => XT.iconstV X0.here hx rfl (0 : Int32) (hb hby d3_100) rfl k) ?_
        show OwnOut p e s below 0 0 _ (T.setTop (mkF m 101 #[.val (.ref b0), .val (.int x1), .val (.int x2), .val (.int x3), .val (.int x4), .val (.int (v2 &&& (255 : Int32))), s6, s7, s8, s9] [(.int (0 : Int32))]))
        cases hr
        exact outI X0 hx hret (hb hby d3_101) hlk (by decide) (by decide) ⟨rfl, e0, rfl⟩
def f3 (x1 : Int32) (x2 : Int32) (l0 : List Int32) : Option (Int32) := ((ldx l0 x1).bind fun v1 => (if (v1 &&& (255 : Int32)) < (128 : Int32) then some ((1 : Int32)) else (if (v1 &&& (255 : Int32)) < (192 : Int32) then some ((0 : Int32)) else (if (v1 &&& (255 : Int32)) < (224 : Int32) then (f3_67 x1 x2 (v1 &&& (255 : Int32)) (2 : Int32) l0) else (if (v1 &&& (255 : Int32)) < (240 : Int32) then (f3_67 x1 x2 (v1 &&& (255 : Int32)) (3 : Int32) l0) else (if (v1 &&& (255 : Int32)) < (248 : Int32) then (f3_67 x1 x2 (v1 &&& (255 : Int32)) (4 : Int32) l0) else some ((0 : Int32))))))))
set_option maxRecDepth 65536 in
set_option maxHeartbeats 40000000 in
theorem w3_0 {p : Program} {l : Launch} {e : Env} {s : State} {m : MethodId} {args : Array Value} {below : List Frame} {meth : Method} {c : Code} {Z : State} {a0 : Array Value} {h0 : Heap} (C : Cx3 Z a0 p s m meth c) :
    ∀ (T : State) (x1 : Int32) (x2 : Int32) (b0 : Addr) (l0 : List Int32) (o : Int32), f3 x1 x2 l0 = some o → Stand p l e rx3 s m args below meth c T [] 0 0 → T.heap = h0 → (Ari Z h0 b0 .byte l0) →  OwnOut p e s below 0 0 (Q3 Z default default b0 l0 h0 o) (T.setTop (mkF m 0 #[.val (.ref b0), .val (.int x1), .val (.int x2), .unset, .unset, .unset, .unset, .unset, .unset, .unset] [])) := by
    obtain ⟨hx, hZ, hw, hby, hml, hown, hret, hlk, hnm⟩ := C
    intro T x1 x2 b0 l0 o hr X0 e0 A0
    rw [f3] at hr
    refine OwnOut.go (fun t k => XS.aloadN X0.here hx rfl (hb hby d3_0) rfl rfl k) ?_
    show OwnOut p e s below 0 0 _ (T.setTop (mkF m 1 #[.val (.ref b0), .val (.int x1), .val (.int x2), .unset, .unset, .unset, .unset, .unset, .unset, .unset] [(.ref b0)]))
    refine OwnOut.go (fun t k => XS.iloadN X0.here hx rfl (hb hby d3_1) rfl k) ?_
    show OwnOut p e s below 0 0 _ (T.setTop (mkF m 2 #[.val (.ref b0), .val (.int x1), .val (.int x2), .unset, .unset, .unset, .unset, .unset, .unset, .unset] [(.int x1), (.ref b0)]))
    obtain ⟨v1, hv1, hr⟩ := Option.bind_eq_some_iff.mp hr
    refine OwnOut.go (fun t k => ldB X0 hx hZ e0 A0 hv1 (g := (mkF m 2 #[.val (.ref b0), .val (.int x1), .val (.int x2), .unset, .unset, .unset, .unset, .unset, .unset, .unset] [(.int x1), (.ref b0)])) rfl rfl (hb hby d3_2) t k) ?_
    show OwnOut p e s below 0 0 _ (T.setTop (mkF m 3 #[.val (.ref b0), .val (.int x1), .val (.int x2), .unset, .unset, .unset, .unset, .unset, .unset, .unset] [(.int v1)]))
    refine OwnOut.go (fun t k => XT.sipushV X0.here hx rfl (255 : Int32) (hb hby d3_3) rfl k) ?_
    show OwnOut p e s below 0 0 _ (T.setTop (mkF m 6 #[.val (.ref b0), .val (.int x1), .val (.int x2), .unset, .unset, .unset, .unset, .unset, .unset, .unset] [(.int (255 : Int32)), (.int v1)]))
    refine OwnOut.go (fun t k => XS.iand X0.here hx rfl (hb hby d3_6) rfl k) ?_
    show OwnOut p e s below 0 0 _ (T.setTop (mkF m 7 #[.val (.ref b0), .val (.int x1), .val (.int x2), .unset, .unset, .unset, .unset, .unset, .unset, .unset] [(.int (v1 &&& (255 : Int32)))]))
    refine OwnOut.go (fun t k => XS.istoreN X0.here hx rfl (hb hby d3_7) rfl (l' := #[.val (.ref b0), .val (.int x1), .val (.int x2), .val (.int (v1 &&& (255 : Int32))), .unset, .unset, .unset, .unset, .unset, .unset]) rfl k) ?_
    show OwnOut p e s below 0 0 _ (T.setTop (mkF m 8 #[.val (.ref b0), .val (.int x1), .val (.int x2), .val (.int (v1 &&& (255 : Int32))), .unset, .unset, .unset, .unset, .unset, .unset] []))
    refine OwnOut.go (fun t k => XS.iloadN X0.here hx rfl (hb hby d3_8) rfl k) ?_
    show OwnOut p e s below 0 0 _ (T.setTop (mkF m 9 #[.val (.ref b0), .val (.int x1), .val (.int x2), .val (.int (v1 &&& (255 : Int32))), .unset, .unset, .unset, .unset, .unset, .unset] [(.int (v1 &&& (255 : Int32)))]))
    refine OwnOut.go (fun t k => XT.sipushV X0.here hx rfl (128 : Int32) (hb hby d3_9) rfl k) ?_
    show OwnOut p e s below 0 0 _ (T.setTop (mkF m 12 #[.val (.ref b0), .val (.int x1), .val (.int x2), .val (.int (v1 &&& (255 : Int32))), .unset, .unset, .unset, .unset, .unset, .unset] [(.int (128 : Int32)), (.int (v1 &&& (255 : Int32)))]))
    by_cases hc12 : (v1 &&& (255 : Int32)) < (128 : Int32)
    · rw [if_pos hc12] at hr
      refine OwnOut.go (fun t k => XS.icmpNo X0.here hx rfl (hb hby d3_12) rfl (XT.ii_ge_f hc12) k) ?_
      show OwnOut p e s below 0 0 _ (T.setTop (mkF m 15 #[.val (.ref b0), .val (.int x1), .val (.int x2), .val (.int (v1 &&& (255 : Int32))), .unset, .unset, .unset, .unset, .unset, .unset] []))
      refine OwnOut.go (fun t k => XT.iconstV X0.here hx rfl (1 : Int32) (hb hby d3_15) rfl k) ?_
      show OwnOut p e s below 0 0 _ (T.setTop (mkF m 16 #[.val (.ref b0), .val (.int x1), .val (.int x2), .val (.int (v1 &&& (255 : Int32))), .unset, .unset, .unset, .unset, .unset, .unset] [(.int (1 : Int32))]))
      cases hr
      exact outI X0 hx hret (hb hby d3_16) hlk (by decide) (by decide) ⟨rfl, e0, rfl⟩
    · rw [if_neg hc12] at hr
      refine OwnOut.go (fun t k => XS.icmpYes X0.here hx rfl (pc0 := 12) (pc' := 17) rfl (hb hby d3_12) rfl (XT.ii_ge_t hc12) (by decide) (by decide) k) ?_
      show OwnOut p e s below 0 0 _ (T.setTop (mkF m 17 #[.val (.ref b0), .val (.int x1), .val (.int x2), .val (.int (v1 &&& (255 : Int32))), .unset, .unset, .unset, .unset, .unset, .unset] []))
      refine OwnOut.go (fun t k => XS.iloadN X0.here hx rfl (hb hby d3_17) rfl k) ?_
      show OwnOut p e s below 0 0 _ (T.setTop (mkF m 18 #[.val (.ref b0), .val (.int x1), .val (.int x2), .val (.int (v1 &&& (255 : Int32))), .unset, .unset, .unset, .unset, .unset, .unset] [(.int (v1 &&& (255 : Int32)))]))
      refine OwnOut.go (fun t k => XT.sipushV X0.here hx rfl (192 : Int32) (hb hby d3_18) rfl k) ?_
      show OwnOut p e s below 0 0 _ (T.setTop (mkF m 21 #[.val (.ref b0), .val (.int x1), .val (.int x2), .val (.int (v1 &&& (255 : Int32))), .unset, .unset, .unset, .unset, .unset, .unset] [(.int (192 : Int32)), (.int (v1 &&& (255 : Int32)))]))
      by_cases hc21 : (v1 &&& (255 : Int32)) < (192 : Int32)
      · rw [if_pos hc21] at hr
        refine OwnOut.go (fun t k => XS.icmpNo X0.here hx rfl (hb hby d3_21) rfl (XT.ii_ge_f hc21) k) ?_
        show OwnOut p e s below 0 0 _ (T.setTop (mkF m 24 #[.val (.ref b0), .val (.int x1), .val (.int x2), .val (.int (v1 &&& (255 : Int32))), .unset, .unset, .unset, .unset, .unset, .unset] []))
        refine OwnOut.go (fun t k => XT.iconstV X0.here hx rfl (0 : Int32) (hb hby d3_24) rfl k) ?_
        show OwnOut p e s below 0 0 _ (T.setTop (mkF m 25 #[.val (.ref b0), .val (.int x1), .val (.int x2), .val (.int (v1 &&& (255 : Int32))), .unset, .unset, .unset, .unset, .unset, .unset] [(.int (0 : Int32))]))
        cases hr
        exact outI X0 hx hret (hb hby d3_25) hlk (by decide) (by decide) ⟨rfl, e0, rfl⟩
      · rw [if_neg hc21] at hr
        refine OwnOut.go (fun t k => XS.icmpYes X0.here hx rfl (pc0 := 21) (pc' := 26) rfl (hb hby d3_21) rfl (XT.ii_ge_t hc21) (by decide) (by decide) k) ?_
        show OwnOut p e s below 0 0 _ (T.setTop (mkF m 26 #[.val (.ref b0), .val (.int x1), .val (.int x2), .val (.int (v1 &&& (255 : Int32))), .unset, .unset, .unset, .unset, .unset, .unset] []))
        refine OwnOut.go (fun t k => XS.iloadN X0.here hx rfl (hb hby d3_26) rfl k) ?_
        show OwnOut p e s below 0 0 _ (T.setTop (mkF m 27 #[.val (.ref b0), .val (.int x1), .val (.int x2), .val (.int (v1 &&& (255 : Int32))), .unset, .unset, .unset, .unset, .unset, .unset] [(.int (v1 &&& (255 : Int32)))]))
        refine OwnOut.go (fun t k => XT.sipushV X0.here hx rfl (224 : Int32) (hb hby d3_27) rfl k) ?_
        show OwnOut p e s below 0 0 _ (T.setTop (mkF m 30 #[.val (.ref b0), .val (.int x1), .val (.int x2), .val (.int (v1 &&& (255 : Int32))), .unset, .unset, .unset, .unset, .unset, .unset] [(.int (224 : Int32)), (.int (v1 &&& (255 : Int32)))]))
        by_cases hc30 : (v1 &&& (255 : Int32)) < (224 : Int32)
        · rw [if_pos hc30] at hr
          refine OwnOut.go (fun t k => XS.icmpNo X0.here hx rfl (hb hby d3_30) rfl (XT.ii_ge_f hc30) k) ?_
          show OwnOut p e s below 0 0 _ (T.setTop (mkF m 33 #[.val (.ref b0), .val (.int x1), .val (.int x2), .val (.int (v1 &&& (255 : Int32))), .unset, .unset, .unset, .unset, .unset, .unset] []))
          refine OwnOut.go (fun t k => XT.iconstV X0.here hx rfl (2 : Int32) (hb hby d3_33) rfl k) ?_
          show OwnOut p e s below 0 0 _ (T.setTop (mkF m 34 #[.val (.ref b0), .val (.int x1), .val (.int x2), .val (.int (v1 &&& (255 : Int32))), .unset, .unset, .unset, .unset, .unset, .unset] [(.int (2 : Int32))]))
          refine OwnOut.go (fun t k => XS.istore X0.here hx rfl (hb hby d3_34) rfl (l' := #[.val (.ref b0), .val (.int x1), .val (.int x2), .val (.int (v1 &&& (255 : Int32))), .val (.int (2 : Int32)), .unset, .unset, .unset, .unset, .unset]) rfl k) ?_
          show OwnOut p e s below 0 0 _ (T.setTop (mkF m 36 #[.val (.ref b0), .val (.int x1), .val (.int x2), .val (.int (v1 &&& (255 : Int32))), .val (.int (2 : Int32)), .unset, .unset, .unset, .unset, .unset] []))
          refine OwnOut.go (fun t k => XS.goto X0.here hx rfl (pc0 := 36) (pc' := 67) rfl (hb hby d3_36) (by decide) (by decide) k) ?_
          show OwnOut p e s below 0 0 _ (T.setTop (mkF m 67 #[.val (.ref b0), .val (.int x1), .val (.int x2), .val (.int (v1 &&& (255 : Int32))), .val (.int (2 : Int32)), .unset, .unset, .unset, .unset, .unset] []))
          exact w3_67 ⟨hx, hZ, hw, hby, hml, hown, hret, hlk, hnm⟩  _ x1 x2 (v1 &&& (255 : Int32)) (2 : Int32) (.unset) (.unset) (.unset) (.unset) (.unset) b0 l0 _ hr X0 e0 A0 One.u One.u One.u One.u One.u
        · rw [if_neg hc30] at hr
          refine OwnOut.go (fun t k => XS.icmpYes X0.here hx rfl (pc0 := 30) (pc' := 39) rfl (hb hby d3_30) rfl (XT.ii_ge_t hc30) (by decide) (by decide) k) ?_
          show OwnOut p e s below 0 0 _ (T.setTop (mkF m 39 #[.val (.ref b0), .val (.int x1), .val (.int x2), .val (.int (v1 &&& (255 : Int32))), .unset, .unset, .unset, .unset, .unset, .unset] []))
          refine OwnOut.go (fun t k => XS.iloadN X0.here hx rfl (hb hby d3_39) rfl k) ?_
          show OwnOut p e s below 0 0 _ (T.setTop (mkF m 40 #[.val (.ref b0), .val (.int x1), .val (.int x2), .val (.int (v1 &&& (255 : Int32))), .unset, .unset, .unset, .unset, .unset, .unset] [(.int (v1 &&& (255 : Int32)))]))
          refine OwnOut.go (fun t k => XT.sipushV X0.here hx rfl (240 : Int32) (hb hby d3_40) rfl k) ?_
          show OwnOut p e s below 0 0 _ (T.setTop (mkF m 43 #[.val (.ref b0), .val (.int x1), .val (.int x2), .val (.int (v1 &&& (255 : Int32))), .unset, .unset, .unset, .unset, .unset, .unset] [(.int (240 : Int32)), (.int (v1 &&& (255 : Int32)))]))
          by_cases hc43 : (v1 &&& (255 : Int32)) < (240 : Int32)
          · rw [if_pos hc43] at hr
            refine OwnOut.go (fun t k => XS.icmpNo X0.here hx rfl (hb hby d3_43) rfl (XT.ii_ge_f hc43) k) ?_
            show OwnOut p e s below 0 0 _ (T.setTop (mkF m 46 #[.val (.ref b0), .val (.int x1), .val (.int x2), .val (.int (v1 &&& (255 : Int32))), .unset, .unset, .unset, .unset, .unset, .unset] []))
            refine OwnOut.go (fun t k => XT.iconstV X0.here hx rfl (3 : Int32) (hb hby d3_46) rfl k) ?_
            show OwnOut p e s below 0 0 _ (T.setTop (mkF m 47 #[.val (.ref b0), .val (.int x1), .val (.int x2), .val (.int (v1 &&& (255 : Int32))), .unset, .unset, .unset, .unset, .unset, .unset] [(.int (3 : Int32))]))
            refine OwnOut.go (fun t k => XS.istore X0.here hx rfl (hb hby d3_47) rfl (l' := #[.val (.ref b0), .val (.int x1), .val (.int x2), .val (.int (v1 &&& (255 : Int32))), .val (.int (3 : Int32)), .unset, .unset, .unset, .unset, .unset]) rfl k) ?_
            show OwnOut p e s below 0 0 _ (T.setTop (mkF m 49 #[.val (.ref b0), .val (.int x1), .val (.int x2), .val (.int (v1 &&& (255 : Int32))), .val (.int (3 : Int32)), .unset, .unset, .unset, .unset, .unset] []))
            refine OwnOut.go (fun t k => XS.goto X0.here hx rfl (pc0 := 49) (pc' := 67) rfl (hb hby d3_49) (by decide) (by decide) k) ?_
            show OwnOut p e s below 0 0 _ (T.setTop (mkF m 67 #[.val (.ref b0), .val (.int x1), .val (.int x2), .val (.int (v1 &&& (255 : Int32))), .val (.int (3 : Int32)), .unset, .unset, .unset, .unset, .unset] []))
            exact w3_67 ⟨hx, hZ, hw, hby, hml, hown, hret, hlk, hnm⟩  _ x1 x2 (v1 &&& (255 : Int32)) (3 : Int32) (.unset) (.unset) (.unset) (.unset) (.unset) b0 l0 _ hr X0 e0 A0 One.u One.u One.u One.u One.u
          · rw [if_neg hc43] at hr
            refine OwnOut.go (fun t k => XS.icmpYes X0.here hx rfl (pc0 := 43) (pc' := 52) rfl (hb hby d3_43) rfl (XT.ii_ge_t hc43) (by decide) (by decide) k) ?_
            show OwnOut p e s below 0 0 _ (T.setTop (mkF m 52 #[.val (.ref b0), .val (.int x1), .val (.int x2), .val (.int (v1 &&& (255 : Int32))), .unset, .unset, .unset, .unset, .unset, .unset] []))
            refine OwnOut.go (fun t k => XS.iloadN X0.here hx rfl (hb hby d3_52) rfl k) ?_
            show OwnOut p e s below 0 0 _ (T.setTop (mkF m 53 #[.val (.ref b0), .val (.int x1), .val (.int x2), .val (.int (v1 &&& (255 : Int32))), .unset, .unset, .unset, .unset, .unset, .unset] [(.int (v1 &&& (255 : Int32)))]))
            refine OwnOut.go (fun t k => XT.sipushV X0.here hx rfl (248 : Int32) (hb hby d3_53) rfl k) ?_
            show OwnOut p e s below 0 0 _ (T.setTop (mkF m 56 #[.val (.ref b0), .val (.int x1), .val (.int x2), .val (.int (v1 &&& (255 : Int32))), .unset, .unset, .unset, .unset, .unset, .unset] [(.int (248 : Int32)), (.int (v1 &&& (255 : Int32)))]))
            by_cases hc56 : (v1 &&& (255 : Int32)) < (248 : Int32)
            · rw [if_pos hc56] at hr
              refine OwnOut.go (fun t k => XS.icmpNo X0.here hx rfl (hb hby d3_56) rfl (XT.ii_ge_f hc56) k) ?_
              show OwnOut p e s below 0 0 _ (T.setTop (mkF m 59 #[.val (.ref b0), .val (.int x1), .val (.int x2), .val (.int (v1 &&& (255 : Int32))), .unset, .unset, .unset, .unset, .unset, .unset] []))
              refine OwnOut.go (fun t k => XT.iconstV X0.here hx rfl (4 : Int32) (hb hby d3_59) rfl k) ?_
              show OwnOut p e s below 0 0 _ (T.setTop (mkF m 60 #[.val (.ref b0), .val (.int x1), .val (.int x2), .val (.int (v1 &&& (255 : Int32))), .unset, .unset, .unset, .unset, .unset, .unset] [(.int (4 : Int32))]))
              refine OwnOut.go (fun t k => XS.istore X0.here hx rfl (hb hby d3_60) rfl (l' := #[.val (.ref b0), .val (.int x1), .val (.int x2), .val (.int (v1 &&& (255 : Int32))), .val (.int (4 : Int32)), .unset, .unset, .unset, .unset, .unset]) rfl k) ?_
              show OwnOut p e s below 0 0 _ (T.setTop (mkF m 62 #[.val (.ref b0), .val (.int x1), .val (.int x2), .val (.int (v1 &&& (255 : Int32))), .val (.int (4 : Int32)), .unset, .unset, .unset, .unset, .unset] []))
              refine OwnOut.go (fun t k => XS.goto X0.here hx rfl (pc0 := 62) (pc' := 67) rfl (hb hby d3_62) (by decide) (by decide) k) ?_
              show OwnOut p e s below 0 0 _ (T.setTop (mkF m 67 #[.val (.ref b0), .val (.int x1), .val (.int x2), .val (.int (v1 &&& (255 : Int32))), .val (.int (4 : Int32)), .unset, .unset, .unset, .unset, .unset] []))
              exact w3_67 ⟨hx, hZ, hw, hby, hml, hown, hret, hlk, hnm⟩  _ x1 x2 (v1 &&& (255 : Int32)) (4 : Int32) (.unset) (.unset) (.unset) (.unset) (.unset) b0 l0 _ hr X0 e0 A0 One.u One.u One.u One.u One.u
            · rw [if_neg hc56] at hr
              refine OwnOut.go (fun t k => XS.icmpYes X0.here hx rfl (pc0 := 56) (pc' := 65) rfl (hb hby d3_56) rfl (XT.ii_ge_t hc56) (by decide) (by decide) k) ?_
              show OwnOut p e s below 0 0 _ (T.setTop (mkF m 65 #[.val (.ref b0), .val (.int x1), .val (.int x2), .val (.int (v1 &&& (255 : Int32))), .unset, .unset, .unset, .unset, .unset, .unset] []))
              refine OwnOut.go (fun t k => XT.iconstV X0.here hx rfl (0 : Int32) (hb hby d3_65) rfl k) ?_
              show OwnOut p e s below 0 0 _ (T.setTop (mkF m 66 #[.val (.ref b0), .val (.int x1), .val (.int x2), .val (.int (v1 &&& (255 : Int32))), .unset, .unset, .unset, .unset, .unset, .unset] [(.int (0 : Int32))]))
              cases hr
              exact outI X0 hx hret (hb hby d3_66) hlk (by decide) (by decide) ⟨rfl, e0, rfl⟩
set_option maxRecDepth 65536 in
set_option maxHeartbeats 40000000 in
theorem rm3 (l : Launch) (Z : State) (a0 : Array Value) (hw : ∀ d ∈ tables_1, d.before a0 Z = true) (ws : List Jvm.Cond) (x1 : Int32) (x2 : Int32) (b0 : Addr) (l0 : List Int32) (h0 : Heap) (o : Int32) (hr : f3 x1 x2 l0 = some o) (A0 : Ari Z h0 b0 .byte l0) :
    MetFree l (⟨"com/example/ninewire/ninewire/Utf8FirstMalformedPinLaw", "wellLen", "([BII)I"⟩ : MethodName) (head1 (Jvm.Cond.code (⟨"com/example/ninewire/ninewire/Utf8FirstMalformedPinLaw", "wellLen", "([BII)I"⟩ : MethodName) method_4_code 10 (some .int) :: ws) rx3) (fun a U => a = #[(.ref b0), (.int x1), (.int x2)] ∧ Z.Warmed39 U.vm ∧ U.heap = h0) (fun _ _ _ _ _ => True) (fun _ U o' U' => ∃ v L, o' = .returned v ∧ Q3 Z x1 x2 b0 l0 h0 o v U'.heap L ∧ FrameEnd U o' U' L rx3.cells rx3.slots) := by
  refine MetFree.of_bodySF (plainFor_of_name pn3) hisR ?_
  intro p e s m args below meth c s₁ Bd hml0 hP hK
  obtain ⟨rfl, hZ, hh⟩ := hP
  have X0 : Stand p l e rx3 s m #[(.ref b0), (.int x1), (.int x2)] below meth c s₁ [] 0 0 := Stand.of_body Bd
  have e0 : s₁.heap = h0 := by rw [← hh, Bd.state]; rfl
  exact OwnOut.at (ef3 m b0 x1 x2) (w3_0 ⟨Bd.exec, hZ, hw, Bd.bytes, hml0, findClass_of_methodNamed Bd.named, Bd.returns, Bd.notSynchronized, (name_of_methodNamed Bd.named Bd.method).1⟩ _ x1 x2 b0 l0 o hr X0 e0  A0)
-- body 2 as 2: com/example/ninewire/ninewire/Utf8FirstMalformedPinLaw.reference:([BII)I (touches nothing)
theorem d2_0 : decode method_3_code 0 = .ok (.iload_n 1, 1) := by decide +kernel
theorem d2_1 : decode method_3_code 1 = .ok (.istore_n 3, 1) := by decide +kernel
theorem d2_2 : decode method_3_code 2 = .ok (.iload_n 3, 1) := by decide +kernel
theorem d2_3 : decode method_3_code 3 = .ok (.iload_n 2, 1) := by decide +kernel
theorem d2_4 : decode method_3_code 4 = .ok (.if_icmp .lt 5, 3) := by decide +kernel
theorem d2_7 : decode method_3_code 7 = .ok (.iconst (-1), 1) := by decide +kernel
theorem d2_8 : decode method_3_code 8 = .ok (.ireturn, 1) := by decide +kernel
theorem d2_9 : decode method_3_code 9 = .ok (.aload_n 0, 1) := by decide +kernel
theorem d2_10 : decode method_3_code 10 = .ok (.iload_n 3, 1) := by decide +kernel
theorem d2_11 : decode method_3_code 11 = .ok (.iload_n 2, 1) := by decide +kernel
theorem d2_12 : decode method_3_code 12 = .ok (.invokestatic 18, 3) := by decide +kernel
theorem d2_15 : decode method_3_code 15 = .ok (.istore 4, 2) := by decide +kernel
theorem d2_17 : decode method_3_code 17 = .ok (.iload 4, 2) := by decide +kernel
theorem d2_19 : decode method_3_code 19 = .ok (.ifCond .ne 5, 3) := by decide +kernel
theorem d2_22 : decode method_3_code 22 = .ok (.iload_n 3, 1) := by decide +kernel
theorem d2_23 : decode method_3_code 23 = .ok (.ireturn, 1) := by decide +kernel
theorem d2_24 : decode method_3_code 24 = .ok (.iload_n 3, 1) := by decide +kernel
theorem d2_25 : decode method_3_code 25 = .ok (.iload 4, 2) := by decide +kernel
theorem d2_27 : decode method_3_code 27 = .ok (.iadd, 1) := by decide +kernel
theorem d2_28 : decode method_3_code 28 = .ok (.istore_n 3, 1) := by decide +kernel
theorem d2_29 : decode method_3_code 29 = .ok (.iload_n 3, 1) := by decide +kernel
theorem d2_30 : decode method_3_code 30 = .ok (.iload_n 2, 1) := by decide +kernel
theorem d2_31 : decode method_3_code 31 = .ok (.if_icmp .lt 5, 3) := by decide +kernel
theorem d2_34 : decode method_3_code 34 = .ok (.iconst (-1), 1) := by decide +kernel
theorem d2_35 : decode method_3_code 35 = .ok (.ireturn, 1) := by decide +kernel
theorem d2_36 : decode method_3_code 36 = .ok (.aload_n 0, 1) := by decide +kernel
theorem d2_37 : decode method_3_code 37 = .ok (.iload_n 3, 1) := by decide +kernel
theorem d2_38 : decode method_3_code 38 = .ok (.iload_n 2, 1) := by decide +kernel
theorem d2_39 : decode method_3_code 39 = .ok (.invokestatic 18, 3) := by decide +kernel
theorem d2_42 : decode method_3_code 42 = .ok (.istore 4, 2) := by decide +kernel
theorem d2_44 : decode method_3_code 44 = .ok (.iload 4, 2) := by decide +kernel
theorem d2_46 : decode method_3_code 46 = .ok (.ifCond .ne 5, 3) := by decide +kernel
theorem d2_49 : decode method_3_code 49 = .ok (.iload_n 3, 1) := by decide +kernel
theorem d2_50 : decode method_3_code 50 = .ok (.ireturn, 1) := by decide +kernel
theorem d2_51 : decode method_3_code 51 = .ok (.iload_n 3, 1) := by decide +kernel
theorem d2_52 : decode method_3_code 52 = .ok (.iload 4, 2) := by decide +kernel
theorem d2_54 : decode method_3_code 54 = .ok (.iadd, 1) := by decide +kernel
theorem d2_55 : decode method_3_code 55 = .ok (.istore_n 3, 1) := by decide +kernel
theorem d2_56 : decode method_3_code 56 = .ok (.iload_n 3, 1) := by decide +kernel
theorem d2_57 : decode method_3_code 57 = .ok (.iload_n 2, 1) := by decide +kernel
theorem d2_58 : decode method_3_code 58 = .ok (.if_icmp .lt 5, 3) := by decide +kernel
theorem d2_61 : decode method_3_code 61 = .ok (.iconst (-1), 1) := by decide +kernel
theorem d2_62 : decode method_3_code 62 = .ok (.ireturn, 1) := by decide +kernel
theorem d2_63 : decode method_3_code 63 = .ok (.aload_n 0, 1) := by decide +kernel
theorem d2_64 : decode method_3_code 64 = .ok (.iload_n 3, 1) := by decide +kernel
theorem d2_65 : decode method_3_code 65 = .ok (.iload_n 2, 1) := by decide +kernel
theorem d2_66 : decode method_3_code 66 = .ok (.invokestatic 18, 3) := by decide +kernel
theorem d2_69 : decode method_3_code 69 = .ok (.istore 4, 2) := by decide +kernel
theorem d2_71 : decode method_3_code 71 = .ok (.iload 4, 2) := by decide +kernel
theorem d2_73 : decode method_3_code 73 = .ok (.ifCond .ne 5, 3) := by decide +kernel
theorem d2_76 : decode method_3_code 76 = .ok (.iload_n 3, 1) := by decide +kernel
theorem d2_77 : decode method_3_code 77 = .ok (.ireturn, 1) := by decide +kernel
theorem d2_78 : decode method_3_code 78 = .ok (.iload_n 3, 1) := by decide +kernel
theorem d2_79 : decode method_3_code 79 = .ok (.iload 4, 2) := by decide +kernel
theorem d2_81 : decode method_3_code 81 = .ok (.iadd, 1) := by decide +kernel
theorem d2_82 : decode method_3_code 82 = .ok (.istore_n 3, 1) := by decide +kernel
theorem d2_83 : decode method_3_code 83 = .ok (.iload_n 3, 1) := by decide +kernel
theorem d2_84 : decode method_3_code 84 = .ok (.iload_n 2, 1) := by decide +kernel
theorem d2_85 : decode method_3_code 85 = .ok (.if_icmp .lt 5, 3) := by decide +kernel
theorem d2_88 : decode method_3_code 88 = .ok (.iconst (-1), 1) := by decide +kernel
theorem d2_89 : decode method_3_code 89 = .ok (.ireturn, 1) := by decide +kernel
theorem d2_90 : decode method_3_code 90 = .ok (.aload_n 0, 1) := by decide +kernel
theorem d2_91 : decode method_3_code 91 = .ok (.iload_n 3, 1) := by decide +kernel
theorem d2_92 : decode method_3_code 92 = .ok (.iload_n 2, 1) := by decide +kernel
theorem d2_93 : decode method_3_code 93 = .ok (.invokestatic 18, 3) := by decide +kernel
theorem d2_96 : decode method_3_code 96 = .ok (.istore 4, 2) := by decide +kernel
theorem d2_98 : decode method_3_code 98 = .ok (.iload 4, 2) := by decide +kernel
theorem d2_100 : decode method_3_code 100 = .ok (.ifCond .ne 5, 3) := by decide +kernel
theorem d2_103 : decode method_3_code 103 = .ok (.iload_n 3, 1) := by decide +kernel
theorem d2_104 : decode method_3_code 104 = .ok (.ireturn, 1) := by decide +kernel
theorem d2_105 : decode method_3_code 105 = .ok (.iload_n 3, 1) := by decide +kernel
theorem d2_106 : decode method_3_code 106 = .ok (.iload 4, 2) := by decide +kernel
theorem d2_108 : decode method_3_code 108 = .ok (.iadd, 1) := by decide +kernel
theorem d2_109 : decode method_3_code 109 = .ok (.istore_n 3, 1) := by decide +kernel
theorem d2_110 : decode method_3_code 110 = .ok (.iload_n 3, 1) := by decide +kernel
theorem d2_111 : decode method_3_code 111 = .ok (.iload_n 2, 1) := by decide +kernel
theorem d2_112 : decode method_3_code 112 = .ok (.if_icmp .lt 5, 3) := by decide +kernel
theorem d2_115 : decode method_3_code 115 = .ok (.iconst (-1), 1) := by decide +kernel
theorem d2_116 : decode method_3_code 116 = .ok (.ireturn, 1) := by decide +kernel
theorem d2_117 : decode method_3_code 117 = .ok (.aload_n 0, 1) := by decide +kernel
theorem d2_118 : decode method_3_code 118 = .ok (.iload_n 3, 1) := by decide +kernel
theorem d2_119 : decode method_3_code 119 = .ok (.iload_n 2, 1) := by decide +kernel
theorem d2_120 : decode method_3_code 120 = .ok (.invokestatic 18, 3) := by decide +kernel
theorem d2_123 : decode method_3_code 123 = .ok (.istore 4, 2) := by decide +kernel
theorem d2_125 : decode method_3_code 125 = .ok (.iload 4, 2) := by decide +kernel
theorem d2_127 : decode method_3_code 127 = .ok (.ifCond .ne 5, 3) := by decide +kernel
theorem d2_130 : decode method_3_code 130 = .ok (.iload_n 3, 1) := by decide +kernel
theorem d2_131 : decode method_3_code 131 = .ok (.ireturn, 1) := by decide +kernel
theorem d2_132 : decode method_3_code 132 = .ok (.iconst (-1), 1) := by decide +kernel
theorem d2_133 : decode method_3_code 133 = .ok (.ireturn, 1) := by decide +kernel
theorem pn2 : plainName "com/example/ninewire/ninewire/Utf8FirstMalformedPinLaw" = true := by first | (simp [plainName, overriddenIn]; done) | decide +kernel
theorem pd2 : parseMethodDescriptor "([BII)I" = some ⟨[(.array .byte), .int, .int], some .int⟩ := by decide +kernel
theorem ef2 (m : MethodId) (b0 : Addr) (x1 : Int32) (x2 : Int32) : entryFrame m #[(.ref b0), (.int x1), (.int x2)] 5 = mkF m 0 #[.val (.ref b0), .val (.int x1), .val (.int x2), .unset, .unset] [] := by first | (simp [entryFrame, mkF, argsToLocals, Value.category]; done) | rfl
abbrev rx2 : Room := { frames := 1, cells := 0, slots := 0, locals := 21 }
abbrev Cx2 (Z : State) (a0 : Array Value) (p : Program) (s : State) (m : MethodId) (meth : Method) (c : Code) : Prop := p.tables.exec = Jvm.exec ∧ Z.Warmed39 s.vm ∧ (∀ d ∈ tables_1, d.before a0 Z = true) ∧ c.code = method_3_code ∧ c.maxLocals = 5 ∧ s.vm.findClass "com/example/ninewire/ninewire/Utf8FirstMalformedPinLaw" = some m.cls ∧ meth.sig.returnType = (some .int) ∧ meth.locks = false ∧ meth.name = "reference"
def Q2 (Z : State) (x1 : Int32) (x2 : Int32) (b0 : Addr) (l0 : List Int32) (h0 : Heap) (o : Int32) (v : Option Value) (h : Heap) (L : List Loc) : Prop := v = some (.int o) ∧ h = h0 ∧ L = []
def f2 (x1 : Int32) (x2 : Int32) (l0 : List Int32) : Option (Int32) := (if x1 < x2 then ((f3 x1 x2 l0).bind fun o1 => (if o1 = (0 : Int32) then some (x1) else (if (x1 + o1) < x2 then ((f3 (x1 + o1) x2 l0).bind fun o2 => (if o2 = (0 : Int32) then some ((x1 + o1)) else (if ((x1 + o1) + o2) < x2 then ((f3 ((x1 + o1) + o2) x2 l0).bind fun o3 => (if o3 = (0 : Int32) then some (((x1 + o1) + o2)) else (if (((x1 + o1) + o2) + o3) < x2 then ((f3 (((x1 + o1) + o2) + o3) x2 l0).bind fun o4 => (if o4 = (0 : Int32) then some ((((x1 + o1) + o2) + o3)) else (if ((((x1 + o1) + o2) + o3) + o4) < x2 then ((f3 ((((x1 + o1) + o2) + o3) + o4) x2 l0).bind fun o5 => (if o5 = (0 : Int32) then some (((((x1 + o1) + o2) + o3) + o4)) else some ((-1 : Int32)))) else some ((-1 : Int32))))) else some ((-1 : Int32))))) else some ((-1 : Int32))))) else some ((-1 : Int32))))) else some ((-1 : Int32)))
set_option maxRecDepth 65536 in
set_option maxHeartbeats 40000000 in
theorem w2_0 {p : Program} {l : Launch} {e : Env} {s : State} {m : MethodId} {args : Array Value} {below : List Frame} {meth : Method} {c : Code} {Z : State} {a0 : Array Value} {h0 : Heap} (C : Cx2 Z a0 p s m meth c) :
    ∀ (T : State) (x1 : Int32) (x2 : Int32) (b0 : Addr) (l0 : List Int32) (o : Int32), f2 x1 x2 l0 = some o → Stand p l e rx2 s m args below meth c T [] 0 0 → T.heap = h0 → (Ari Z h0 b0 .byte l0) →  OwnOut p e s below 0 0 (Q2 Z default default b0 l0 h0 o) (T.setTop (mkF m 0 #[.val (.ref b0), .val (.int x1), .val (.int x2), .unset, .unset] [])) := by
    obtain ⟨hx, hZ, hw, hby, hml, hown, hret, hlk, hnm⟩ := C
    intro T x1 x2 b0 l0 o hr X0 e0 A0
    rw [f2] at hr
    refine OwnOut.go (fun t k => XS.iloadN X0.here hx rfl (hb hby d2_0) rfl k) ?_
    show OwnOut p e s below 0 0 _ (T.setTop (mkF m 1 #[.val (.ref b0), .val (.int x1), .val (.int x2), .unset, .unset] [(.int x1)]))
    refine OwnOut.go (fun t k => XS.istoreN X0.here hx rfl (hb hby d2_1) rfl (l' := #[.val (.ref b0), .val (.int x1), .val (.int x2), .val (.int x1), .unset]) rfl k) ?_
    show OwnOut p e s below 0 0 _ (T.setTop (mkF m 2 #[.val (.ref b0), .val (.int x1), .val (.int x2), .val (.int x1), .unset] []))
    refine OwnOut.go (fun t k => XS.iloadN X0.here hx rfl (hb hby d2_2) rfl k) ?_
    show OwnOut p e s below 0 0 _ (T.setTop (mkF m 3 #[.val (.ref b0), .val (.int x1), .val (.int x2), .val (.int x1), .unset] [(.int x1)]))
    refine OwnOut.go (fun t k => XS.iloadN X0.here hx rfl (hb hby d2_3) rfl k) ?_
    show OwnOut p e s below 0 0 _ (T.setTop (mkF m 4 #[.val (.ref b0), .val (.int x1), .val (.int x2), .val (.int x1), .unset] [(.int x2), (.int x1)]))
    by_cases hc4 : x1 < x2
    · rw [if_pos hc4] at hr
      refine OwnOut.go (fun t k => XS.icmpYes X0.here hx rfl (pc0 := 4) (pc' := 9) rfl (hb hby d2_4) rfl (XT.ii_lt_t hc4) (by decide) (by decide) k) ?_
      show OwnOut p e s below 0 0 _ (T.setTop (mkF m 9 #[.val (.ref b0), .val (.int x1), .val (.int x2), .val (.int x1), .unset] []))
      refine OwnOut.go (fun t k => XS.aloadN X0.here hx rfl (hb hby d2_9) rfl rfl k) ?_
      show OwnOut p e s below 0 0 _ (T.setTop (mkF m 10 #[.val (.ref b0), .val (.int x1), .val (.int x2), .val (.int x1), .unset] [(.ref b0)]))
      refine OwnOut.go (fun t k => XS.iloadN X0.here hx rfl (hb hby d2_10) rfl k) ?_
      show OwnOut p e s below 0 0 _ (T.setTop (mkF m 11 #[.val (.ref b0), .val (.int x1), .val (.int x2), .val (.int x1), .unset] [(.int x1), (.ref b0)]))
      refine OwnOut.go (fun t k => XS.iloadN X0.here hx rfl (hb hby d2_11) rfl k) ?_
      show OwnOut p e s below 0 0 _ (T.setTop (mkF m 12 #[.val (.ref b0), .val (.int x1), .val (.int x2), .val (.int x1), .unset] [(.int x2), (.int x1), (.ref b0)]))
      obtain ⟨o1, ho1, hr⟩ := Option.bind_eq_some_iff.mp hr
      obtain ⟨r1, T1, L1, X1', hQ1, st1⟩ := callQ (W := 0) (rm := rx3) X0 hx hZ (y := (⟨"com/example/ninewire/ninewire/Utf8FirstMalformedPinLaw", "wellLen", "([BII)I"⟩ : MethodName)) hown (hw _ (List.mem_of_getElem? (i := 9) rfl)) (hw _ (List.mem_of_getElem? (i := 10) rfl)) (hw _ (List.mem_of_getElem? (i := 7) rfl)) (hw _ (List.mem_of_getElem? (i := 11) rfl)) (by decide) (rm3 l Z a0 hw [] x1 x2 b0 l0 h0 o1 ho1 A0) (by decide) (by decide) (by decide) (by decide) e0 (g := (mkF m 12 #[.val (.ref b0), .val (.int x1), .val (.int x2), .val (.int x1), .unset] [(.int x2), (.int x1), (.ref b0)])) rfl (by rw [hml]; rfl) (argsL := [(.ref b0), (.int x1), (.int x2)]) (rest := []) (lenOf pd3 rfl) rfl (by show 2 * 0 + _ ≤ _; exact Nat.le_of_eq rfl) (hb hby d2_12)
      obtain ⟨rfl, e1, rfl⟩ := hQ1
      rw [List.append_nil] at X1'
      have X1 : Stand p l e rx2 s m args below meth c T1 _ 0 0 := X1'
      refine OwnOut.go (fun t k => st1 _ k) ?_
      show OwnOut p e s below 0 0 _ (T1.setTop (mkF m 15 #[.val (.ref b0), .val (.int x1), .val (.int x2), .val (.int x1), .unset] [(.int o1)]))
      refine OwnOut.go (fun t k => XS.istore X1.here hx rfl (hb hby d2_15) rfl (l' := #[.val (.ref b0), .val (.int x1), .val (.int x2), .val (.int x1), .val (.int o1)]) rfl k) ?_
      show OwnOut p e s below 0 0 _ (T1.setTop (mkF m 17 #[.val (.ref b0), .val (.int x1), .val (.int x2), .val (.int x1), .val (.int o1)] []))
      refine OwnOut.go (fun t k => XS.iload X1.here hx rfl (hb hby d2_17) rfl k) ?_
      show OwnOut p e s below 0 0 _ (T1.setTop (mkF m 19 #[.val (.ref b0), .val (.int x1), .val (.int x2), .val (.int x1), .val (.int o1)] [(.int o1)]))
      by_cases hc19 : o1 = (0 : Int32)
      · rw [if_pos hc19] at hr
        refine OwnOut.go (fun t k => XS.ifNo X1.here hx rfl (hb hby d2_19) rfl (XT.i0_ne_f hc19) k) ?_
        show OwnOut p e s below 0 0 _ (T1.setTop (mkF m 22 #[.val (.ref b0), .val (.int x1), .val (.int x2), .val (.int x1), .val (.int o1)] []))
        refine OwnOut.go (fun t k => XS.iloadN X1.here hx rfl (hb hby d2_22) rfl k) ?_
        show OwnOut p e s below 0 0 _ (T1.setTop (mkF m 23 #[.val (.ref b0), .val (.int x1), .val (.int x2), .val (.int x1), .val (.int o1)] [(.int x1)]))
        cases hr
        exact outI X1 hx hret (hb hby d2_23) hlk (by decide) (by decide) ⟨rfl, e1, rfl⟩
      · rw [if_neg hc19] at hr
        refine OwnOut.go (fun t k => XS.ifYes X1.here hx rfl (pc0 := 19) (pc' := 24) rfl (hb hby d2_19) rfl (XT.i0_ne_t hc19) (by decide) (by decide) k) ?_
        show OwnOut p e s below 0 0 _ (T1.setTop (mkF m 24 #[.val (.ref b0), .val (.int x1), .val (.int x2), .val (.int x1), .val (.int o1)] []))
        refine OwnOut.go (fun t k => XS.iloadN X1.here hx rfl (hb hby d2_24) rfl k) ?_
        show OwnOut p e s below 0 0 _ (T1.setTop (mkF m 25 #[.val (.ref b0), .val (.int x1), .val (.int x2), .val (.int x1), .val (.int o1)] [(.int x1)]))
        refine OwnOut.go (fun t k => XS.iload X1.here hx rfl (hb hby d2_25) rfl k) ?_
        show OwnOut p e s below 0 0 _ (T1.setTop (mkF m 27 #[.val (.ref b0), .val (.int x1), .val (.int x2), .val (.int x1), .val (.int o1)] [(.int o1), (.int x1)]))
        refine OwnOut.go (fun t k => XS.iadd X1.here hx rfl (hb hby d2_27) rfl k) ?_
        show OwnOut p e s below 0 0 _ (T1.setTop (mkF m 28 #[.val (.ref b0), .val (.int x1), .val (.int x2), .val (.int x1), .val (.int o1)] [(.int (x1 + o1))]))
        refine OwnOut.go (fun t k => XS.istoreN X1.here hx rfl (hb hby d2_28) rfl (l' := #[.val (.ref b0), .val (.int x1), .val (.int x2), .val (.int (x1 + o1)), .val (.int o1)]) rfl k) ?_
        show OwnOut p e s below 0 0 _ (T1.setTop (mkF m 29 #[.val (.ref b0), .val (.int x1), .val (.int x2), .val (.int (x1 + o1)), .val (.int o1)] []))
        refine OwnOut.go (fun t k => XS.iloadN X1.here hx rfl (hb hby d2_29) rfl k) ?_
        show OwnOut p e s below 0 0 _ (T1.setTop (mkF m 30 #[.val (.ref b0), .val (.int x1), .val (.int x2), .val (.int (x1 + o1)), .val (.int o1)] [(.int (x1 + o1))]))
        refine OwnOut.go (fun t k => XS.iloadN X1.here hx rfl (hb hby d2_30) rfl k) ?_
        show OwnOut p e s below 0 0 _ (T1.setTop (mkF m 31 #[.val (.ref b0), .val (.int x1), .val (.int x2), .val (.int (x1 + o1)), .val (.int o1)] [(.int x2), (.int (x1 + o1))]))
        by_cases hc31 : (x1 + o1) < x2
        · rw [if_pos hc31] at hr
          refine OwnOut.go (fun t k => XS.icmpYes X1.here hx rfl (pc0 := 31) (pc' := 36) rfl (hb hby d2_31) rfl (XT.ii_lt_t hc31) (by decide) (by decide) k) ?_
          show OwnOut p e s below 0 0 _ (T1.setTop (mkF m 36 #[.val (.ref b0), .val (.int x1), .val (.int x2), .val (.int (x1 + o1)), .val (.int o1)] []))
          refine OwnOut.go (fun t k => XS.aloadN X1.here hx rfl (hb hby d2_36) rfl rfl k) ?_
          show OwnOut p e s below 0 0 _ (T1.setTop (mkF m 37 #[.val (.ref b0), .val (.int x1), .val (.int x2), .val (.int (x1 + o1)), .val (.int o1)] [(.ref b0)]))
          refine OwnOut.go (fun t k => XS.iloadN X1.here hx rfl (hb hby d2_37) rfl k) ?_
          show OwnOut p e s below 0 0 _ (T1.setTop (mkF m 38 #[.val (.ref b0), .val (.int x1), .val (.int x2), .val (.int (x1 + o1)), .val (.int o1)] [(.int (x1 + o1)), (.ref b0)]))
          refine OwnOut.go (fun t k => XS.iloadN X1.here hx rfl (hb hby d2_38) rfl k) ?_
          show OwnOut p e s below 0 0 _ (T1.setTop (mkF m 39 #[.val (.ref b0), .val (.int x1), .val (.int x2), .val (.int (x1 + o1)), .val (.int o1)] [(.int x2), (.int (x1 + o1)), (.ref b0)]))
          obtain ⟨o2, ho2, hr⟩ := Option.bind_eq_some_iff.mp hr
          obtain ⟨r2, T2, L2, X2', hQ2, st2⟩ := callQ (W := 0) (rm := rx3) X1 hx hZ (y := (⟨"com/example/ninewire/ninewire/Utf8FirstMalformedPinLaw", "wellLen", "([BII)I"⟩ : MethodName)) hown (hw _ (List.mem_of_getElem? (i := 9) rfl)) (hw _ (List.mem_of_getElem? (i := 10) rfl)) (hw _ (List.mem_of_getElem? (i := 7) rfl)) (hw _ (List.mem_of_getElem? (i := 11) rfl)) (by decide) (rm3 l Z a0 hw [] (x1 + o1) x2 b0 l0 h0 o2 ho2 A0) (by decide) (by decide) (by decide) (by decide) e1 (g := (mkF m 39 #[.val (.ref b0), .val (.int x1), .val (.int x2), .val (.int (x1 + o1)), .val (.int o1)] [(.int x2), (.int (x1 + o1)), (.ref b0)])) rfl (by rw [hml]; rfl) (argsL := [(.ref b0), (.int (x1 + o1)), (.int x2)]) (rest := []) (lenOf pd3 rfl) rfl (by show 2 * 0 + _ ≤ _; exact Nat.le_of_eq rfl) (hb hby d2_39)
          obtain ⟨rfl, e2, rfl⟩ := hQ2
          rw [List.append_nil] at X2'
          have X2 : Stand p l e rx2 s m args below meth c T2 _ 0 0 := X2'
          refine OwnOut.go (fun t k => st2 _ k) ?_
          show OwnOut p e s below 0 0 _ (T2.setTop (mkF m 42 #[.val (.ref b0), .val (.int x1), .val (.int x2), .val (.int (x1 + o1)), .val (.int o1)] [(.int o2)]))
          refine OwnOut.go (fun t k => XS.istore X2.here hx rfl (hb hby d2_42) rfl (l' := #[.val (.ref b0), .val (.int x1), .val (.int x2), .val (.int (x1 + o1)), .val (.int o2)]) rfl k) ?_
          show OwnOut p e s below 0 0 _ (T2.setTop (mkF m 44 #[.val (.ref b0), .val (.int x1), .val (.int x2), .val (.int (x1 + o1)), .val (.int o2)] []))
          refine OwnOut.go (fun t k => XS.iload X2.here hx rfl (hb hby d2_44) rfl k) ?_
          show OwnOut p e s below 0 0 _ (T2.setTop (mkF m 46 #[.val (.ref b0), .val (.int x1), .val (.int x2), .val (.int (x1 + o1)), .val (.int o2)] [(.int o2)]))
          by_cases hc46 : o2 = (0 : Int32)
          · rw [if_pos hc46] at hr
            refine OwnOut.go (fun t k => XS.ifNo X2.here hx rfl (hb hby d2_46) rfl (XT.i0_ne_f hc46) k) ?_
            show OwnOut p e s below 0 0 _ (T2.setTop (mkF m 49 #[.val (.ref b0), .val (.int x1), .val (.int x2), .val (.int (x1 + o1)), .val (.int o2)] []))
            refine OwnOut.go (fun t k => XS.iloadN X2.here hx rfl (hb hby d2_49) rfl k) ?_
            show OwnOut p e s below 0 0 _ (T2.setTop (mkF m 50 #[.val (.ref b0), .val (.int x1), .val (.int x2), .val (.int (x1 + o1)), .val (.int o2)] [(.int (x1 + o1))]))
            cases hr
            exact outI X2 hx hret (hb hby d2_50) hlk (by decide) (by decide) ⟨rfl, e2, rfl⟩
          · rw [if_neg hc46] at hr
            refine OwnOut.go (fun t k => XS.ifYes X2.here hx rfl (pc0 := 46) (pc' := 51) rfl (hb hby d2_46) rfl (XT.i0_ne_t hc46) (by decide) (by decide) k) ?_
            show OwnOut p e s below 0 0 _ (T2.setTop (mkF m 51 #[.val (.ref b0), .val (.int x1), .val (.int x2), .val (.int (x1 + o1)), .val (.int o2)] []))
            refine OwnOut.go (fun t k => XS.iloadN X2.here hx rfl (hb hby d2_51) rfl k) ?_
            show OwnOut p e s below 0 0 _ (T2.setTop (mkF m 52 #[.val (.ref b0), .val (.int x1), .val (.int x2), .val (.int (x1 + o1)), .val (.int o2)] [(.int (x1 + o1))]))
            refine OwnOut.go (fun t k => XS.iload X2.here hx rfl (hb hby d2_52) rfl k) ?_
            show OwnOut p e s below 0 0 _ (T2.setTop (mkF m 54 #[.val (.ref b0), .val (.int x1), .val (.int x2), .val (.int (x1 + o1)), .val (.int o2)] [(.int o2), (.int (x1 + o1))]))
            refine OwnOut.go (fun t k => XS.iadd X2.here hx rfl (hb hby d2_54) rfl k) ?_
            show OwnOut p e s below 0 0 _ (T2.setTop (mkF m 55 #[.val (.ref b0), .val (.int x1), .val (.int x2), .val (.int (x1 + o1)), .val (.int o2)] [(.int ((x1 + o1) + o2))]))
            refine OwnOut.go (fun t k => XS.istoreN X2.here hx rfl (hb hby d2_55) rfl (l' := #[.val (.ref b0), .val (.int x1), .val (.int x2), .val (.int ((x1 + o1) + o2)), .val (.int o2)]) rfl k) ?_
            show OwnOut p e s below 0 0 _ (T2.setTop (mkF m 56 #[.val (.ref b0), .val (.int x1), .val (.int x2), .val (.int ((x1 + o1) + o2)), .val (.int o2)] []))
            refine OwnOut.go (fun t k => XS.iloadN X2.here hx rfl (hb hby d2_56) rfl k) ?_
            show OwnOut p e s below 0 0 _ (T2.setTop (mkF m 57 #[.val (.ref b0), .val (.int x1), .val (.int x2), .val (.int ((x1 + o1) + o2)), .val (.int o2)] [(.int ((x1 + o1) + o2))]))
            refine OwnOut.go (fun t k => XS.iloadN X2.here hx rfl (hb hby d2_57) rfl k) ?_
            show OwnOut p e s below 0 0 _ (T2.setTop (mkF m 58 #[.val (.ref b0), .val (.int x1), .val (.int x2), .val (.int ((x1 + o1) + o2)), .val (.int o2)] [(.int x2), (.int ((x1 + o1) + o2))]))
            by_cases hc58 : ((x1 + o1) + o2) < x2
            · rw [if_pos hc58] at hr
              refine OwnOut.go (fun t k => XS.icmpYes X2.here hx rfl (pc0 := 58) (pc' := 63) rfl (hb hby d2_58) rfl (XT.ii_lt_t hc58) (by decide) (by decide) k) ?_
              show OwnOut p e s below 0 0 _ (T2.setTop (mkF m 63 #[.val (.ref b0), .val (.int x1), .val (.int x2), .val (.int ((x1 + o1) + o2)), .val (.int o2)] []))
              refine OwnOut.go (fun t k => XS.aloadN X2.here hx rfl (hb hby d2_63) rfl rfl k) ?_
              show OwnOut p e s below 0 0 _ (T2.setTop (mkF m 64 #[.val (.ref b0), .val (.int x1), .val (.int x2), .val (.int ((x1 + o1) + o2)), .val (.int o2)] [(.ref b0)]))
              refine OwnOut.go (fun t k => XS.iloadN X2.here hx rfl (hb hby d2_64) rfl k) ?_
              show OwnOut p e s below 0 0 _ (T2.setTop (mkF m 65 #[.val (.ref b0), .val (.int x1), .val (.int x2), .val (.int ((x1 + o1) + o2)), .val (.int o2)] [(.int ((x1 + o1) + o2)), (.ref b0)]))
              refine OwnOut.go (fun t k => XS.iloadN X2.here hx rfl (hb hby d2_65) rfl k) ?_
              show OwnOut p e s below 0 0 _ (T2.setTop (mkF m 66 #[.val (.ref b0), .val (.int x1), .val (.int x2), .val (.int ((x1 + o1) + o2)), .val (.int o2)] [(.int x2), (.int ((x1 + o1) + o2)), (.ref b0)]))
              obtain ⟨o3, ho3, hr⟩ := Option.bind_eq_some_iff.mp hr
              obtain ⟨r3, T3, L3, X3', hQ3, st3⟩ := callQ (W := 0) (rm := rx3) X2 hx hZ (y := (⟨"com/example/ninewire/ninewire/Utf8FirstMalformedPinLaw", "wellLen", "([BII)I"⟩ : MethodName)) hown (hw _ (List.mem_of_getElem? (i := 9) rfl)) (hw _ (List.mem_of_getElem? (i := 10) rfl)) (hw _ (List.mem_of_getElem? (i := 7) rfl)) (hw _ (List.mem_of_getElem? (i := 11) rfl)) (by decide) (rm3 l Z a0 hw [] ((x1 + o1) + o2) x2 b0 l0 h0 o3 ho3 A0) (by decide) (by decide) (by decide) (by decide) e2 (g := (mkF m 66 #[.val (.ref b0), .val (.int x1), .val (.int x2), .val (.int ((x1 + o1) + o2)), .val (.int o2)] [(.int x2), (.int ((x1 + o1) + o2)), (.ref b0)])) rfl (by rw [hml]; rfl) (argsL := [(.ref b0), (.int ((x1 + o1) + o2)), (.int x2)]) (rest := []) (lenOf pd3 rfl) rfl (by show 2 * 0 + _ ≤ _; exact Nat.le_of_eq rfl) (hb hby d2_66)
              obtain ⟨rfl, e3, rfl⟩ := hQ3
              rw [List.append_nil] at X3'
              have X3 : Stand p l e rx2 s m args below meth c T3 _ 0 0 := X3'
              refine OwnOut.go (fun t k => st3 _ k) ?_
              show OwnOut p e s below 0 0 _ (T3.setTop (mkF m 69 #[.val (.ref b0), .val (.int x1), .val (.int x2), .val (.int ((x1 + o1) + o2)), .val (.int o2)] [(.int o3)]))
              refine OwnOut.go (fun t k => XS.istore X3.here hx rfl (hb hby d2_69) rfl (l' := #[.val (.ref b0), .val (.int x1), .val (.int x2), .val (.int ((x1 + o1) + o2)), .val (.int o3)]) rfl k) ?_
              show OwnOut p e s below 0 0 _ (T3.setTop (mkF m 71 #[.val (.ref b0), .val (.int x1), .val (.int x2), .val (.int ((x1 + o1) + o2)), .val (.int o3)] []))
              refine OwnOut.go (fun t k => XS.iload X3.here hx rfl (hb hby d2_71) rfl k) ?_
              show OwnOut p e s below 0 0 _ (T3.setTop (mkF m 73 #[.val (.ref b0), .val (.int x1), .val (.int x2), .val (.int ((x1 + o1) + o2)), .val (.int o3)] [(.int o3)]))
              by_cases hc73 : o3 = (0 : Int32)
              · rw [if_pos hc73] at hr
                refine OwnOut.go (fun t k => XS.ifNo X3.here hx rfl (hb hby d2_73) rfl (XT.i0_ne_f hc73) k) ?_
                show OwnOut p e s below 0 0 _ (T3.setTop (mkF m 76 #[.val (.ref b0), .val (.int x1), .val (.int x2), .val (.int ((x1 + o1) + o2)), .val (.int o3)] []))
                refine OwnOut.go (fun t k => XS.iloadN X3.here hx rfl (hb hby d2_76) rfl k) ?_
                show OwnOut p e s below 0 0 _ (T3.setTop (mkF m 77 #[.val (.ref b0), .val (.int x1), .val (.int x2), .val (.int ((x1 + o1) + o2)), .val (.int o3)] [(.int ((x1 + o1) + o2))]))
                cases hr
                exact outI X3 hx hret (hb hby d2_77) hlk (by decide) (by decide) ⟨rfl, e3, rfl⟩
              · rw [if_neg hc73] at hr
                refine OwnOut.go (fun t k => XS.ifYes X3.here hx rfl (pc0 := 73) (pc' := 78) rfl (hb hby d2_73) rfl (XT.i0_ne_t hc73) (by decide) (by decide) k) ?_
                show OwnOut p e s below 0 0 _ (T3.setTop (mkF m 78 #[.val (.ref b0), .val (.int x1), .val (.int x2), .val (.int ((x1 + o1) + o2)), .val (.int o3)] []))
                refine OwnOut.go (fun t k => XS.iloadN X3.here hx rfl (hb hby d2_78) rfl k) ?_
                show OwnOut p e s below 0 0 _ (T3.setTop (mkF m 79 #[.val (.ref b0), .val (.int x1), .val (.int x2), .val (.int ((x1 + o1) + o2)), .val (.int o3)] [(.int ((x1 + o1) + o2))]))
                refine OwnOut.go (fun t k => XS.iload X3.here hx rfl (hb hby d2_79) rfl k) ?_
                show OwnOut p e s below 0 0 _ (T3.setTop (mkF m 81 #[.val (.ref b0), .val (.int x1), .val (.int x2), .val (.int ((x1 + o1) + o2)), .val (.int o3)] [(.int o3), (.int ((x1 + o1) + o2))]))
                refine OwnOut.go (fun t k => XS.iadd X3.here hx rfl (hb hby d2_81) rfl k) ?_
                show OwnOut p e s below 0 0 _ (T3.setTop (mkF m 82 #[.val (.ref b0), .val (.int x1), .val (.int x2), .val (.int ((x1 + o1) + o2)), .val (.int o3)] [(.int (((x1 + o1) + o2) + o3))]))
                refine OwnOut.go (fun t k => XS.istoreN X3.here hx rfl (hb hby d2_82) rfl (l' := #[.val (.ref b0), .val (.int x1), .val (.int x2), .val (.int (((x1 + o1) + o2) + o3)), .val (.int o3)]) rfl k) ?_
                show OwnOut p e s below 0 0 _ (T3.setTop (mkF m 83 #[.val (.ref b0), .val (.int x1), .val (.int x2), .val (.int (((x1 + o1) + o2) + o3)), .val (.int o3)] []))
                refine OwnOut.go (fun t k => XS.iloadN X3.here hx rfl (hb hby d2_83) rfl k) ?_
                show OwnOut p e s below 0 0 _ (T3.setTop (mkF m 84 #[.val (.ref b0), .val (.int x1), .val (.int x2), .val (.int (((x1 + o1) + o2) + o3)), .val (.int o3)] [(.int (((x1 + o1) + o2) + o3))]))
                refine OwnOut.go (fun t k => XS.iloadN X3.here hx rfl (hb hby d2_84) rfl k) ?_
                show OwnOut p e s below 0 0 _ (T3.setTop (mkF m 85 #[.val (.ref b0), .val (.int x1), .val (.int x2), .val (.int (((x1 + o1) + o2) + o3)), .val (.int o3)] [(.int x2), (.int (((x1 + o1) + o2) + o3))]))
                by_cases hc85 : (((x1 + o1) + o2) + o3) < x2
                · rw [if_pos hc85] at hr
                  refine OwnOut.go (fun t k => XS.icmpYes X3.here hx rfl (pc0 := 85) (pc' := 90) rfl (hb hby d2_85) rfl (XT.ii_lt_t hc85) (by decide) (by decide) k) ?_
                  show OwnOut p e s below 0 0 _ (T3.setTop (mkF m 90 #[.val (.ref b0), .val (.int x1), .val (.int x2), .val (.int (((x1 + o1) + o2) + o3)), .val (.int o3)] []))
                  refine OwnOut.go (fun t k => XS.aloadN X3.here hx rfl (hb hby d2_90) rfl rfl k) ?_
                  show OwnOut p e s below 0 0 _ (T3.setTop (mkF m 91 #[.val (.ref b0), .val (.int x1), .val (.int x2), .val (.int (((x1 + o1) + o2) + o3)), .val (.int o3)] [(.ref b0)]))
                  refine OwnOut.go (fun t k => XS.iloadN X3.here hx rfl (hb hby d2_91) rfl k) ?_
                  show OwnOut p e s below 0 0 _ (T3.setTop (mkF m 92 #[.val (.ref b0), .val (.int x1), .val (.int x2), .val (.int (((x1 + o1) + o2) + o3)), .val (.int o3)] [(.int (((x1 + o1) + o2) + o3)), (.ref b0)]))
                  refine OwnOut.go (fun t k => XS.iloadN X3.here hx rfl (hb hby d2_92) rfl k) ?_
                  show OwnOut p e s below 0 0 _ (T3.setTop (mkF m 93 #[.val (.ref b0), .val (.int x1), .val (.int x2), .val (.int (((x1 + o1) + o2) + o3)), .val (.int o3)] [(.int x2), (.int (((x1 + o1) + o2) + o3)), (.ref b0)]))
                  obtain ⟨o4, ho4, hr⟩ := Option.bind_eq_some_iff.mp hr
                  obtain ⟨r4, T4, L4, X4', hQ4, st4⟩ := callQ (W := 0) (rm := rx3) X3 hx hZ (y := (⟨"com/example/ninewire/ninewire/Utf8FirstMalformedPinLaw", "wellLen", "([BII)I"⟩ : MethodName)) hown (hw _ (List.mem_of_getElem? (i := 9) rfl)) (hw _ (List.mem_of_getElem? (i := 10) rfl)) (hw _ (List.mem_of_getElem? (i := 7) rfl)) (hw _ (List.mem_of_getElem? (i := 11) rfl)) (by decide) (rm3 l Z a0 hw [] (((x1 + o1) + o2) + o3) x2 b0 l0 h0 o4 ho4 A0) (by decide) (by decide) (by decide) (by decide) e3 (g := (mkF m 93 #[.val (.ref b0), .val (.int x1), .val (.int x2), .val (.int (((x1 + o1) + o2) + o3)), .val (.int o3)] [(.int x2), (.int (((x1 + o1) + o2) + o3)), (.ref b0)])) rfl (by rw [hml]; rfl) (argsL := [(.ref b0), (.int (((x1 + o1) + o2) + o3)), (.int x2)]) (rest := []) (lenOf pd3 rfl) rfl (by show 2 * 0 + _ ≤ _; exact Nat.le_of_eq rfl) (hb hby d2_93)
                  obtain ⟨rfl, e4, rfl⟩ := hQ4
                  rw [List.append_nil] at X4'
                  have X4 : Stand p l e rx2 s m args below meth c T4 _ 0 0 := X4'
                  refine OwnOut.go (fun t k => st4 _ k) ?_
                  show OwnOut p e s below 0 0 _ (T4.setTop (mkF m 96 #[.val (.ref b0), .val (.int x1), .val (.int x2), .val (.int (((x1 + o1) + o2) + o3)), .val (.int o3)] [(.int o4)]))
                  refine OwnOut.go (fun t k => XS.istore X4.here hx rfl (hb hby d2_96) rfl (l' := #[.val (.ref b0), .val (.int x1), .val (.int x2), .val (.int (((x1 + o1) + o2) + o3)), .val (.int o4)]) rfl k) ?_
                  show OwnOut p e s below 0 0 _ (T4.setTop (mkF m 98 #[.val (.ref b0), .val (.int x1), .val (.int x2), .val (.int (((x1 + o1) + o2) + o3)), .val (.int o4)] []))
                  refine OwnOut.go (fun t k => XS.iload X4.here hx rfl (hb hby d2_98) rfl k) ?_
                  show OwnOut p e s below 0 0 _ (T4.setTop (mkF m 100 #[.val (.ref b0), .val (.int x1), .val (.int x2), .val (.int (((x1 + o1) + o2) + o3)), .val (.int o4)] [(.int o4)]))
                  by_cases hc100 : o4 = (0 : Int32)
                  · rw [if_pos hc100] at hr
                    refine OwnOut.go (fun t k => XS.ifNo X4.here hx rfl (hb hby d2_100) rfl (XT.i0_ne_f hc100) k) ?_
                    show OwnOut p e s below 0 0 _ (T4.setTop (mkF m 103 #[.val (.ref b0), .val (.int x1), .val (.int x2), .val (.int (((x1 + o1) + o2) + o3)), .val (.int o4)] []))
                    refine OwnOut.go (fun t k => XS.iloadN X4.here hx rfl (hb hby d2_103) rfl k) ?_
                    show OwnOut p e s below 0 0 _ (T4.setTop (mkF m 104 #[.val (.ref b0), .val (.int x1), .val (.int x2), .val (.int (((x1 + o1) + o2) + o3)), .val (.int o4)] [(.int (((x1 + o1) + o2) + o3))]))
                    cases hr
                    exact outI X4 hx hret (hb hby d2_104) hlk (by decide) (by decide) ⟨rfl, e4, rfl⟩
                  · rw [if_neg hc100] at hr
                    refine OwnOut.go (fun t k => XS.ifYes X4.here hx rfl (pc0 := 100) (pc' := 105) rfl (hb hby d2_100) rfl (XT.i0_ne_t hc100) (by decide) (by decide) k) ?_
                    show OwnOut p e s below 0 0 _ (T4.setTop (mkF m 105 #[.val (.ref b0), .val (.int x1), .val (.int x2), .val (.int (((x1 + o1) + o2) + o3)), .val (.int o4)] []))
                    refine OwnOut.go (fun t k => XS.iloadN X4.here hx rfl (hb hby d2_105) rfl k) ?_
                    show OwnOut p e s below 0 0 _ (T4.setTop (mkF m 106 #[.val (.ref b0), .val (.int x1), .val (.int x2), .val (.int (((x1 + o1) + o2) + o3)), .val (.int o4)] [(.int (((x1 + o1) + o2) + o3))]))
                    refine OwnOut.go (fun t k => XS.iload X4.here hx rfl (hb hby d2_106) rfl k) ?_
                    show OwnOut p e s below 0 0 _ (T4.setTop (mkF m 108 #[.val (.ref b0), .val (.int x1), .val (.int x2), .val (.int (((x1 + o1) + o2) + o3)), .val (.int o4)] [(.int o4), (.int (((x1 + o1) + o2) + o3))]))
                    refine OwnOut.go (fun t k => XS.iadd X4.here hx rfl (hb hby d2_108) rfl k) ?_
                    show OwnOut p e s below 0 0 _ (T4.setTop (mkF m 109 #[.val (.ref b0), .val (.int x1), .val (.int x2), .val (.int (((x1 + o1) + o2) + o3)), .val (.int o4)] [(.int ((((x1 + o1) + o2) + o3) + o4))]))
                    refine OwnOut.go (fun t k => XS.istoreN X4.here hx rfl (hb hby d2_109) rfl (l' := #[.val (.ref b0), .val (.int x1), .val (.int x2), .val (.int ((((x1 + o1) + o2) + o3) + o4)), .val (.int o4)]) rfl k) ?_
                    show OwnOut p e s below 0 0 _ (T4.setTop (mkF m 110 #[.val (.ref b0), .val (.int x1), .val (.int x2), .val (.int ((((x1 + o1) + o2) + o3) + o4)), .val (.int o4)] []))
                    refine OwnOut.go (fun t k => XS.iloadN X4.here hx rfl (hb hby d2_110) rfl k) ?_
                    show OwnOut p e s below 0 0 _ (T4.setTop (mkF m 111 #[.val (.ref b0), .val (.int x1), .val (.int x2), .val (.int ((((x1 + o1) + o2) + o3) + o4)), .val (.int o4)] [(.int ((((x1 + o1) + o2) + o3) + o4))]))
                    refine OwnOut.go (fun t k => XS.iloadN X4.here hx rfl (hb hby d2_111) rfl k) ?_
                    show OwnOut p e s below 0 0 _ (T4.setTop (mkF m 112 #[.val (.ref b0), .val (.int x1), .val (.int x2), .val (.int ((((x1 + o1) + o2) + o3) + o4)), .val (.int o4)] [(.int x2), (.int ((((x1 + o1) + o2) + o3) + o4))]))
                    by_cases hc112 : ((((x1 + o1) + o2) + o3) + o4) < x2
                    · rw [if_pos hc112] at hr
                      refine OwnOut.go (fun t k => XS.icmpYes X4.here hx rfl (pc0 := 112) (pc' := 117) rfl (hb hby d2_112) rfl (XT.ii_lt_t hc112) (by decide) (by decide) k) ?_
                      show OwnOut p e s below 0 0 _ (T4.setTop (mkF m 117 #[.val (.ref b0), .val (.int x1), .val (.int x2), .val (.int ((((x1 + o1) + o2) + o3) + o4)), .val (.int o4)] []))
                      refine OwnOut.go (fun t k => XS.aloadN X4.here hx rfl (hb hby d2_117) rfl rfl k) ?_
                      show OwnOut p e s below 0 0 _ (T4.setTop (mkF m 118 #[.val (.ref b0), .val (.int x1), .val (.int x2), .val (.int ((((x1 + o1) + o2) + o3) + o4)), .val (.int o4)] [(.ref b0)]))
                      refine OwnOut.go (fun t k => XS.iloadN X4.here hx rfl (hb hby d2_118) rfl k) ?_
                      show OwnOut p e s below 0 0 _ (T4.setTop (mkF m 119 #[.val (.ref b0), .val (.int x1), .val (.int x2), .val (.int ((((x1 + o1) + o2) + o3) + o4)), .val (.int o4)] [(.int ((((x1 + o1) + o2) + o3) + o4)), (.ref b0)]))
                      refine OwnOut.go (fun t k => XS.iloadN X4.here hx rfl (hb hby d2_119) rfl k) ?_
                      show OwnOut p e s below 0 0 _ (T4.setTop (mkF m 120 #[.val (.ref b0), .val (.int x1), .val (.int x2), .val (.int ((((x1 + o1) + o2) + o3) + o4)), .val (.int o4)] [(.int x2), (.int ((((x1 + o1) + o2) + o3) + o4)), (.ref b0)]))
                      obtain ⟨o5, ho5, hr⟩ := Option.bind_eq_some_iff.mp hr
                      obtain ⟨r5, T5, L5, X5', hQ5, st5⟩ := callQ (W := 0) (rm := rx3) X4 hx hZ (y := (⟨"com/example/ninewire/ninewire/Utf8FirstMalformedPinLaw", "wellLen", "([BII)I"⟩ : MethodName)) hown (hw _ (List.mem_of_getElem? (i := 9) rfl)) (hw _ (List.mem_of_getElem? (i := 10) rfl)) (hw _ (List.mem_of_getElem? (i := 7) rfl)) (hw _ (List.mem_of_getElem? (i := 11) rfl)) (by decide) (rm3 l Z a0 hw [] ((((x1 + o1) + o2) + o3) + o4) x2 b0 l0 h0 o5 ho5 A0) (by decide) (by decide) (by decide) (by decide) e4 (g := (mkF m 120 #[.val (.ref b0), .val (.int x1), .val (.int x2), .val (.int ((((x1 + o1) + o2) + o3) + o4)), .val (.int o4)] [(.int x2), (.int ((((x1 + o1) + o2) + o3) + o4)), (.ref b0)])) rfl (by rw [hml]; rfl) (argsL := [(.ref b0), (.int ((((x1 + o1) + o2) + o3) + o4)), (.int x2)]) (rest := []) (lenOf pd3 rfl) rfl (by show 2 * 0 + _ ≤ _; exact Nat.le_of_eq rfl) (hb hby d2_120)
                      obtain ⟨rfl, e5, rfl⟩ := hQ5
                      rw [List.append_nil] at X5'
                      have X5 : Stand p l e rx2 s m args below meth c T5 _ 0 0 := X5'
                      refine OwnOut.go (fun t k => st5 _ k) ?_
                      show OwnOut p e s below 0 0 _ (T5.setTop (mkF m 123 #[.val (.ref b0), .val (.int x1), .val (.int x2), .val (.int ((((x1 + o1) + o2) + o3) + o4)), .val (.int o4)] [(.int o5)]))
                      refine OwnOut.go (fun t k => XS.istore X5.here hx rfl (hb hby d2_123) rfl (l' := #[.val (.ref b0), .val (.int x1), .val (.int x2), .val (.int ((((x1 + o1) + o2) + o3) + o4)), .val (.int o5)]) rfl k) ?_
                      show OwnOut p e s below 0 0 _ (T5.setTop (mkF m 125 #[.val (.ref b0), .val (.int x1), .val (.int x2), .val (.int ((((x1 + o1) + o2) + o3) + o4)), .val (.int o5)] []))
                      refine OwnOut.go (fun t k => XS.iload X5.here hx rfl (hb hby d2_125) rfl k) ?_
                      show OwnOut p e s below 0 0 _ (T5.setTop (mkF m 127 #[.val (.ref b0), .val (.int x1), .val (.int x2), .val (.int ((((x1 + o1) + o2) + o3) + o4)), .val (.int o5)] [(.int o5)]))
                      by_cases hc127 : o5 = (0 : Int32)
                      · rw [if_pos hc127] at hr
                        refine OwnOut.go (fun t k => XS.ifNo X5.here hx rfl (hb hby d2_127) rfl (XT.i0_ne_f hc127) k) ?_
                        show OwnOut p e s below 0 0 _ (T5.setTop (mkF m 130 #[.val (.ref b0), .val (.int x1), .val (.int x2), .val (.int ((((x1 + o1) + o2) + o3) + o4)), .val (.int o5)] []))
                        refine OwnOut.go (fun t k => XS.iloadN X5.here hx rfl (hb hby d2_130) rfl k) ?_
                        show OwnOut p e s below 0 0 _ (T5.setTop (mkF m 131 #[.val (.ref b0), .val (.int x1), .val (.int x2), .val (.int ((((x1 + o1) + o2) + o3) + o4)), .val (.int o5)] [(.int ((((x1 + o1) + o2) + o3) + o4))]))
                        cases hr
                        exact outI X5 hx hret (hb hby d2_131) hlk (by decide) (by decide) ⟨rfl, e5, rfl⟩
                      · rw [if_neg hc127] at hr
                        refine OwnOut.go (fun t k => XS.ifYes X5.here hx rfl (pc0 := 127) (pc' := 132) rfl (hb hby d2_127) rfl (XT.i0_ne_t hc127) (by decide) (by decide) k) ?_
                        show OwnOut p e s below 0 0 _ (T5.setTop (mkF m 132 #[.val (.ref b0), .val (.int x1), .val (.int x2), .val (.int ((((x1 + o1) + o2) + o3) + o4)), .val (.int o5)] []))
                        refine OwnOut.go (fun t k => XT.iconstV X5.here hx rfl (-1 : Int32) (hb hby d2_132) rfl k) ?_
                        show OwnOut p e s below 0 0 _ (T5.setTop (mkF m 133 #[.val (.ref b0), .val (.int x1), .val (.int x2), .val (.int ((((x1 + o1) + o2) + o3) + o4)), .val (.int o5)] [(.int (-1 : Int32))]))
                        cases hr
                        exact outI X5 hx hret (hb hby d2_133) hlk (by decide) (by decide) ⟨rfl, e5, rfl⟩
                    · rw [if_neg hc112] at hr
                      refine OwnOut.go (fun t k => XS.icmpNo X4.here hx rfl (hb hby d2_112) rfl (XT.ii_lt_f hc112) k) ?_
                      show OwnOut p e s below 0 0 _ (T4.setTop (mkF m 115 #[.val (.ref b0), .val (.int x1), .val (.int x2), .val (.int ((((x1 + o1) + o2) + o3) + o4)), .val (.int o4)] []))
                      refine OwnOut.go (fun t k => XT.iconstV X4.here hx rfl (-1 : Int32) (hb hby d2_115) rfl k) ?_
                      show OwnOut p e s below 0 0 _ (T4.setTop (mkF m 116 #[.val (.ref b0), .val (.int x1), .val (.int x2), .val (.int ((((x1 + o1) + o2) + o3) + o4)), .val (.int o4)] [(.int (-1 : Int32))]))
                      cases hr
                      exact outI X4 hx hret (hb hby d2_116) hlk (by decide) (by decide) ⟨rfl, e4, rfl⟩
                · rw [if_neg hc85] at hr
                  refine OwnOut.go (fun t k => XS.icmpNo X3.here hx rfl (hb hby d2_85) rfl (XT.ii_lt_f hc85) k) ?_
                  show OwnOut p e s below 0 0 _ (T3.setTop (mkF m 88 #[.val (.ref b0), .val (.int x1), .val (.int x2), .val (.int (((x1 + o1) + o2) + o3)), .val (.int o3)] []))
                  refine OwnOut.go (fun t k => XT.iconstV X3.here hx rfl (-1 : Int32) (hb hby d2_88) rfl k) ?_
                  show OwnOut p e s below 0 0 _ (T3.setTop (mkF m 89 #[.val (.ref b0), .val (.int x1), .val (.int x2), .val (.int (((x1 + o1) + o2) + o3)), .val (.int o3)] [(.int (-1 : Int32))]))
                  cases hr
                  exact outI X3 hx hret (hb hby d2_89) hlk (by decide) (by decide) ⟨rfl, e3, rfl⟩
            · rw [if_neg hc58] at hr
              refine OwnOut.go (fun t k => XS.icmpNo X2.here hx rfl (hb hby d2_58) rfl (XT.ii_lt_f hc58) k) ?_
              show OwnOut p e s below 0 0 _ (T2.setTop (mkF m 61 #[.val (.ref b0), .val (.int x1), .val (.int x2), .val (.int ((x1 + o1) + o2)), .val (.int o2)] []))
              refine OwnOut.go (fun t k => XT.iconstV X2.here hx rfl (-1 : Int32) (hb hby d2_61) rfl k) ?_
              show OwnOut p e s below 0 0 _ (T2.setTop (mkF m 62 #[.val (.ref b0), .val (.int x1), .val (.int x2), .val (.int ((x1 + o1) + o2)), .val (.int o2)] [(.int (-1 : Int32))]))
              cases hr
              exact outI X2 hx hret (hb hby d2_62) hlk (by decide) (by decide) ⟨rfl, e2, rfl⟩
        · rw [if_neg hc31] at hr
          refine OwnOut.go (fun t k => XS.icmpNo X1.here hx rfl (hb hby d2_31) rfl (XT.ii_lt_f hc31) k) ?_
          show OwnOut p e s below 0 0 _ (T1.setTop (mkF m 34 #[.val (.ref b0), .val (.int x1), .val (.int x2), .val (.int (x1 + o1)), .val (.int o1)] []))
          refine OwnOut.go (fun t k => XT.iconstV X1.here hx rfl (-1 : Int32) (hb hby d2_34) rfl k) ?_
          show OwnOut p e s below 0 0 _ (T1.setTop (mkF m 35 #[.val (.ref b0), .val (.int x1), .val (.int x2), .val (.int (x1 + o1)), .val (.int o1)] [(.int (-1 : Int32))]))
          cases hr
          exact outI X1 hx hret (hb hby d2_35) hlk (by decide) (by decide) ⟨rfl, e1, rfl⟩
    · rw [if_neg hc4] at hr
      refine OwnOut.go (fun t k => XS.icmpNo X0.here hx rfl (hb hby d2_4) rfl (XT.ii_lt_f hc4) k) ?_
      show OwnOut p e s below 0 0 _ (T.setTop (mkF m 7 #[.val (.ref b0), .val (.int x1), .val (.int x2), .val (.int x1), .unset] []))
      refine OwnOut.go (fun t k => XT.iconstV X0.here hx rfl (-1 : Int32) (hb hby d2_7) rfl k) ?_
      show OwnOut p e s below 0 0 _ (T.setTop (mkF m 8 #[.val (.ref b0), .val (.int x1), .val (.int x2), .val (.int x1), .unset] [(.int (-1 : Int32))]))
      cases hr
      exact outI X0 hx hret (hb hby d2_8) hlk (by decide) (by decide) ⟨rfl, e0, rfl⟩
set_option maxRecDepth 65536 in
set_option maxHeartbeats 40000000 in
theorem rm2 (l : Launch) (Z : State) (a0 : Array Value) (hw : ∀ d ∈ tables_1, d.before a0 Z = true) (ws : List Jvm.Cond) (x1 : Int32) (x2 : Int32) (b0 : Addr) (l0 : List Int32) (h0 : Heap) (o : Int32) (hr : f2 x1 x2 l0 = some o) (A0 : Ari Z h0 b0 .byte l0) :
    MetFree l (⟨"com/example/ninewire/ninewire/Utf8FirstMalformedPinLaw", "reference", "([BII)I"⟩ : MethodName) (head1 (Jvm.Cond.code (⟨"com/example/ninewire/ninewire/Utf8FirstMalformedPinLaw", "reference", "([BII)I"⟩ : MethodName) method_3_code 5 (some .int) :: ws) rx2) (fun a U => a = #[(.ref b0), (.int x1), (.int x2)] ∧ Z.Warmed39 U.vm ∧ U.heap = h0) (fun _ _ _ _ _ => True) (fun _ U o' U' => ∃ v L, o' = .returned v ∧ Q2 Z x1 x2 b0 l0 h0 o v U'.heap L ∧ FrameEnd U o' U' L rx2.cells rx2.slots) := by
  refine MetFree.of_bodySF (plainFor_of_name pn2) hisR ?_
  intro p e s m args below meth c s₁ Bd hml0 hP hK
  obtain ⟨rfl, hZ, hh⟩ := hP
  have X0 : Stand p l e rx2 s m #[(.ref b0), (.int x1), (.int x2)] below meth c s₁ [] 0 0 := Stand.of_body Bd
  have e0 : s₁.heap = h0 := by rw [← hh, Bd.state]; rfl
  exact OwnOut.at (ef2 m b0 x1 x2) (w2_0 ⟨Bd.exec, hZ, hw, Bd.bytes, hml0, findClass_of_methodNamed Bd.named, Bd.returns, Bd.notSynchronized, (name_of_methodNamed Bd.named Bd.method).1⟩ _ x1 x2 b0 l0 o hr X0 e0  A0)
-- body 0 as 0: com/example/ninewire/ninewire/Utf8FirstMalformedPinLaw.law:(IIIIII)Z
theorem pn0 : plainName "com/example/ninewire/ninewire/Utf8FirstMalformedPinLaw" = true := by first | (simp [plainName, overriddenIn]; done) | decide +kernel
theorem pd0 : parseMethodDescriptor "(IIIIII)Z" = some ⟨[.int, .int, .int, .int, .int, .int], some .boolean⟩ := by decide +kernel
theorem ef0 (m : MethodId) (x0 : Int32) (x1 : Int32) (x2 : Int32) (x3 : Int32) (x4 : Int32) (x5 : Int32) : entryFrame m #[(.int x0), (.int x1), (.int x2), (.int x3), (.int x4), (.int x5)] maxLocals = mkF m 0 #[.val (.int x0), .val (.int x1), .val (.int x2), .val (.int x3), .val (.int x4), .val (.int x5), .unset, .unset, .unset, .unset] [] := by first | (simp [entryFrame, mkF, argsToLocals, Value.category, maxLocals]; done) | rfl
abbrev Cx0 (Z : State) (a0 : Array Value) (p : Program) (s : State) (m : MethodId) (meth : Method) (c : Code) : Prop := p.tables.exec = Jvm.exec ∧ Z.Warmed39 s.vm ∧ (∀ d ∈ tables_1, d.before a0 Z = true) ∧ c.code = code ∧ c.maxLocals = 10 ∧ s.vm.findClass "com/example/ninewire/ninewire/Utf8FirstMalformedPinLaw" = some m.cls ∧ meth.sig.returnType = (some .boolean) ∧ meth.locks = false ∧ meth.name = "law"
def Q0 (Z : State) (x0 : Int32) (x1 : Int32) (x2 : Int32) (x3 : Int32) (x4 : Int32) (x5 : Int32) (h0 : Heap) (n0 : Nat) (o : Int32) (v : Option Value) (h : Heap) (L : List Loc) : Prop := v = some (.int o) ∧ Fr n0 L
def f0_64 (x7 : Int32) (x8 : Int32) (l0 : List Int32) : Option (Int32) := ((f1 x7 x8 l0).bind fun o7 => ((f2 x7 x8 l0).bind fun o8 => (if o7 = o8 then some ((1 : Int32)) else some ((0 : Int32)))))
set_option maxRecDepth 65536 in
set_option maxHeartbeats 40000000 in
theorem w0_64 {p : Program} {l : Launch} {e : Env} {s : State} {m : MethodId} {args : Array Value} {below : List Frame} {meth : Method} {c : Code} {Z : State} {a0 : Array Value} {h0 : Heap} {n0 : Nat} (C : Cx0 Z a0 p s m meth c) :
    ∀ (T : State) (locs : List Loc) (hA : Heap) (s0 : Slot) (s1 : Slot) (s2 : Slot) (s3 : Slot) (s4 : Slot) (s5 : Slot) (x7 : Int32) (x8 : Int32) (s9 : Slot) (b0 : Addr) (l0 : List Int32) (o : Int32), f0_64 x7 x8 l0 = some o → Stand p l e room_1 s m args below meth c T locs 1 5 → T.heap = hA → Fr n0 locs → Old Z n0 hA → Keep h0 hA [] → (Ari Z hA b0 .byte l0) → (One s0) → (One s1) → (One s2) → (One s3) → (One s4) → (One s5) → (One s9) → (n0 ≤ b0) → (h0.size ≤ b0) →  OwnOut p e s below 16 128 (Q0 Z default default default default default default h0 n0 o) (T.setTop (mkF m 64 #[s0, s1, s2, s3, s4, s5, .val (.ref b0), .val (.int x7), .val (.int x8), s9] [])) := by
    obtain ⟨hx, hZ, hw, hby, hml, hown, hret, hlk, hnm⟩ := C
    intro T locs hA s0 s1 s2 s3 s4 s5 x7 x8 s9 b0 l0 o hr X0 e0 N0 O0 K0 A0 hs0 hs1 hs2 hs3 hs4 hs5 hs9 g0 z0
    rw [f0_64] at hr
    refine OwnOut.go (fun t k => XS.aload X0.here hx rfl (hb hby at_64) rfl rfl k) ?_
    show OwnOut p e s below 16 128 _ (T.setTop (mkF m 66 #[s0, s1, s2, s3, s4, s5, .val (.ref b0), .val (.int x7), .val (.int x8), s9] [(.ref b0)]))
    refine OwnOut.go (fun t k => XS.iload X0.here hx rfl (hb hby at_66) rfl k) ?_
    show OwnOut p e s below 16 128 _ (T.setTop (mkF m 68 #[s0, s1, s2, s3, s4, s5, .val (.ref b0), .val (.int x7), .val (.int x8), s9] [(.int x7), (.ref b0)]))
    refine OwnOut.go (fun t k => XS.iload X0.here hx rfl (hb hby at_68) rfl k) ?_
    show OwnOut p e s below 16 128 _ (T.setTop (mkF m 70 #[s0, s1, s2, s3, s4, s5, .val (.ref b0), .val (.int x7), .val (.int x8), s9] [(.int x8), (.int x7), (.ref b0)]))
    obtain ⟨o7, ho7, hr⟩ := Option.bind_eq_some_iff.mp hr
    obtain ⟨r7, T7, L7, X7', hQ7, st7⟩ := callQ (W := 0) (rm := rx1) X0 hx hZ (y := (⟨"com/example/ninewire/ninewire/Utf8", "firstMalformed", "([BII)I"⟩ : MethodName)) hown (hw _ (List.mem_of_getElem? (i := 1) rfl)) (hw _ (List.mem_of_getElem? (i := 2) rfl)) (hw _ (List.mem_of_getElem? (i := 3) rfl)) (hw _ (List.mem_of_getElem? (i := 4) rfl)) (by decide) (rm1 l Z a0 hw [] x7 x8 b0 l0 hA o7 ho7 A0) (by decide) (by decide) (by decide) (by decide) e0 (g := (mkF m 70 #[s0, s1, s2, s3, s4, s5, .val (.ref b0), .val (.int x7), .val (.int x8), s9] [(.int x8), (.int x7), (.ref b0)])) rfl (by rw [hml]; rfl) (argsL := [(.ref b0), (.int x7), (.int x8)]) (rest := []) (lenOf pd1 rfl) rfl (by show 2 * 0 + _ ≤ _; exact Nat.le_of_eq rfl) (hb hby at_70)
    obtain ⟨rfl, e7, rfl⟩ := hQ7
    rw [List.append_nil] at X7'
    have X7 : Stand p l e room_1 s m args below meth c T7 _ 1 5 := X7'
    refine OwnOut.go (fun t k => st7 _ k) ?_
    show OwnOut p e s below 16 128 _ (T7.setTop (mkF m 73 #[s0, s1, s2, s3, s4, s5, .val (.ref b0), .val (.int x7), .val (.int x8), s9] [(.int o7)]))
    refine OwnOut.go (fun t k => XS.istoreS X7.here hx rfl (hb hby at_73) rfl rfl hs9 k) ?_
    show OwnOut p e s below 16 128 _ (T7.setTop (mkF m 75 #[s0, s1, s2, s3, s4, s5, .val (.ref b0), .val (.int x7), .val (.int x8), .val (.int o7)] []))
    refine OwnOut.go (fun t k => XS.iload X7.here hx rfl (hb hby at_75) rfl k) ?_
    show OwnOut p e s below 16 128 _ (T7.setTop (mkF m 77 #[s0, s1, s2, s3, s4, s5, .val (.ref b0), .val (.int x7), .val (.int x8), .val (.int o7)] [(.int o7)]))
    refine OwnOut.go (fun t k => XS.aload X7.here hx rfl (hb hby at_77) rfl rfl k) ?_
    show OwnOut p e s below 16 128 _ (T7.setTop (mkF m 79 #[s0, s1, s2, s3, s4, s5, .val (.ref b0), .val (.int x7), .val (.int x8), .val (.int o7)] [(.ref b0), (.int o7)]))
    refine OwnOut.go (fun t k => XS.iload X7.here hx rfl (hb hby at_79) rfl k) ?_
    show OwnOut p e s below 16 128 _ (T7.setTop (mkF m 81 #[s0, s1, s2, s3, s4, s5, .val (.ref b0), .val (.int x7), .val (.int x8), .val (.int o7)] [(.int x7), (.ref b0), (.int o7)]))
    refine OwnOut.go (fun t k => XS.iload X7.here hx rfl (hb hby at_81) rfl k) ?_
    show OwnOut p e s below 16 128 _ (T7.setTop (mkF m 83 #[s0, s1, s2, s3, s4, s5, .val (.ref b0), .val (.int x7), .val (.int x8), .val (.int o7)] [(.int x8), (.int x7), (.ref b0), (.int o7)]))
    obtain ⟨o8, ho8, hr⟩ := Option.bind_eq_some_iff.mp hr
    obtain ⟨r8, T8, L8, X8', hQ8, st8⟩ := callQ (W := 1) (rm := rx2) X7 hx hZ (y := (⟨"com/example/ninewire/ninewire/Utf8FirstMalformedPinLaw", "reference", "([BII)I"⟩ : MethodName)) hown (hw _ (List.mem_of_getElem? (i := 5) rfl)) (hw _ (List.mem_of_getElem? (i := 6) rfl)) (hw _ (List.mem_of_getElem? (i := 7) rfl)) (hw _ (List.mem_of_getElem? (i := 8) rfl)) (by decide) (rm2 l Z a0 hw [] x7 x8 b0 l0 hA o8 ho8 A0) (by decide) (by decide) (by decide) (by decide) e7 (g := (mkF m 83 #[s0, s1, s2, s3, s4, s5, .val (.ref b0), .val (.int x7), .val (.int x8), .val (.int o7)] [(.int x8), (.int x7), (.ref b0), (.int o7)])) rfl (by rw [hml]; rfl) (argsL := [(.ref b0), (.int x7), (.int x8)]) (rest := [(.int o7)]) (lenOf pd2 rfl) rfl (by show 2 * 0 + _ ≤ _; exact Nat.le_of_eq rfl) (hb hby at_83)
    obtain ⟨rfl, e8, rfl⟩ := hQ8
    rw [List.append_nil] at X8'
    have X8 : Stand p l e room_1 s m args below meth c T8 _ 1 5 := X8'
    refine OwnOut.go (fun t k => st8 _ k) ?_
    show OwnOut p e s below 16 128 _ (T8.setTop (mkF m 86 #[s0, s1, s2, s3, s4, s5, .val (.ref b0), .val (.int x7), .val (.int x8), .val (.int o7)] [(.int o8), (.int o7)]))
    by_cases hc86 : o7 = o8
    · rw [if_pos hc86] at hr
      refine OwnOut.go (fun t k => XS.icmpNo X8.here hx rfl (hb hby at_86) rfl (XT.ii_ne_f hc86) k) ?_
      show OwnOut p e s below 16 128 _ (T8.setTop (mkF m 89 #[s0, s1, s2, s3, s4, s5, .val (.ref b0), .val (.int x7), .val (.int x8), .val (.int o7)] []))
      refine OwnOut.go (fun t k => XT.iconstV X8.here hx rfl (1 : Int32) (hb hby at_89) rfl k) ?_
      show OwnOut p e s below 16 128 _ (T8.setTop (mkF m 90 #[s0, s1, s2, s3, s4, s5, .val (.ref b0), .val (.int x7), .val (.int x8), .val (.int o7)] [(.int (1 : Int32))]))
      refine OwnOut.go (fun t k => XS.goto X8.here hx rfl (pc0 := 90) (pc' := 94) rfl (hb hby at_90) (by decide) (by decide) k) ?_
      show OwnOut p e s below 16 128 _ (T8.setTop (mkF m 94 #[s0, s1, s2, s3, s4, s5, .val (.ref b0), .val (.int x7), .val (.int x8), .val (.int o7)] [(.int (1 : Int32))]))
      cases hr
      exact outZ X8 hx hret (hb hby at_94) hlk (by decide) (by decide) ⟨rfl, N0⟩
    · rw [if_neg hc86] at hr
      refine OwnOut.go (fun t k => XS.icmpYes X8.here hx rfl (pc0 := 86) (pc' := 93) rfl (hb hby at_86) rfl (XT.ii_ne_t hc86) (by decide) (by decide) k) ?_
      show OwnOut p e s below 16 128 _ (T8.setTop (mkF m 93 #[s0, s1, s2, s3, s4, s5, .val (.ref b0), .val (.int x7), .val (.int x8), .val (.int o7)] []))
      refine OwnOut.go (fun t k => XT.iconstV X8.here hx rfl (0 : Int32) (hb hby at_93) rfl k) ?_
      show OwnOut p e s below 16 128 _ (T8.setTop (mkF m 94 #[s0, s1, s2, s3, s4, s5, .val (.ref b0), .val (.int x7), .val (.int x8), .val (.int o7)] [(.int (0 : Int32))]))
      cases hr
      exact outZ X8 hx hret (hb hby at_94) hlk (by decide) (by decide) ⟨rfl, N0⟩
def f0 (x0 : Int32) (x1 : Int32) (x2 : Int32) (x3 : Int32) (x4 : Int32) (x5 : Int32) : Option (Int32) := (if ((6 : Int32) - ((x5 &&& (7 : Int32)) % (6 : Int32))) = (0 : Int32) then none else (f0_64 ((x5 &&& (7 : Int32)) % (6 : Int32)) (((x5 &&& (7 : Int32)) % (6 : Int32)) + ((((x5.toUInt32 >>> ((3 : Int32) &&& 31).toUInt32).toInt32) &&& (7 : Int32)) % ((6 : Int32) - ((x5 &&& (7 : Int32)) % (6 : Int32))))) [(x0.toInt8.toInt32).toInt8.toInt32, (x1.toInt8.toInt32).toInt8.toInt32, (x2.toInt8.toInt32).toInt8.toInt32, (x3.toInt8.toInt32).toInt8.toInt32, (x4.toInt8.toInt32).toInt8.toInt32]))
set_option maxRecDepth 65536 in
set_option maxHeartbeats 40000000 in
theorem w0_0 {p : Program} {l : Launch} {e : Env} {s : State} {m : MethodId} {args : Array Value} {below : List Frame} {meth : Method} {c : Code} {Z : State} {a0 : Array Value} {h0 : Heap} {n0 : Nat} (C : Cx0 Z a0 p s m meth c) :
    ∀ (T : State) (locs : List Loc) (hA : Heap) (x0 : Int32) (x1 : Int32) (x2 : Int32) (x3 : Int32) (x4 : Int32) (x5 : Int32) (o : Int32), f0 x0 x1 x2 x3 x4 x5 = some o → Stand p l e room_1 s m args below meth c T locs 0 0 → T.heap = hA → Fr n0 locs → Old Z n0 hA → Keep h0 hA [] →  OwnOut p e s below 16 128 (Q0 Z default default default default default default h0 n0 o) (T.setTop (mkF m 0 #[.val (.int x0), .val (.int x1), .val (.int x2), .val (.int x3), .val (.int x4), .val (.int x5), .unset, .unset, .unset, .unset] [])) := by
    obtain ⟨hx, hZ, hw, hby, hml, hown, hret, hlk, hnm⟩ := C
    intro T locs hA x0 x1 x2 x3 x4 x5 o hr X0 e0 N0 O0 K0
    rw [f0] at hr
    refine OwnOut.go (fun t k => XT.iconstV X0.here hx rfl (5 : Int32) (hb hby at_0) rfl k) ?_
    show OwnOut p e s below 16 128 _ (T.setTop (mkF m 1 #[.val (.int x0), .val (.int x1), .val (.int x2), .val (.int x3), .val (.int x4), .val (.int x5), .unset, .unset, .unset, .unset] [(.int (5 : Int32))]))
    obtain ⟨T1, h1, X1, e1, Ex1, A_1, st1⟩ := nwA X0 hx hZ (hw _ (List.mem_of_getElem? (i := 0) rfl)) e0 (rfl : nwx (0 : Int32) 5 (5 : Int32) = some [(0 : Int32), (0 : Int32), (0 : Int32), (0 : Int32), (0 : Int32)]) (f := Value.int) rfl (g := (mkF m 1 #[.val (.int x0), .val (.int x1), .val (.int x2), .val (.int x3), .val (.int x4), .val (.int x5), .unset, .unset, .unset, .unset] [(.int (5 : Int32))])) rfl rfl (hb hby at_1) (by decide) (by decide) (by decide)
    obtain ⟨c1, gc1⟩ : ∃ z, z = hA.size := ⟨_, rfl⟩
    rw [← gc1] at A_1 st1
    refine OwnOut.go (fun t k => st1 _ k) ?_
    have g_1 : n0 ≤ c1 := gc1 ▸ (O0.1 ▸ O0.2.1)
    have z_1 : h0.size ≤ c1 := gc1 ▸ K0.1
    have O_1 := O0.ext Ex1
    have K_1 := K0.ext Ex1
    show OwnOut p e s below 16 128 _ (T1.setTop (mkF m 3 #[.val (.int x0), .val (.int x1), .val (.int x2), .val (.int x3), .val (.int x4), .val (.int x5), .unset, .unset, .unset, .unset] [(.ref c1)]))
    refine OwnOut.go (fun t k => XS.astore X1.here hx rfl (hb hby at_3) rfl rfl (l' := #[.val (.int x0), .val (.int x1), .val (.int x2), .val (.int x3), .val (.int x4), .val (.int x5), .val (.ref c1), .unset, .unset, .unset]) rfl k) ?_
    show OwnOut p e s below 16 128 _ (T1.setTop (mkF m 5 #[.val (.int x0), .val (.int x1), .val (.int x2), .val (.int x3), .val (.int x4), .val (.int x5), .val (.ref c1), .unset, .unset, .unset] []))
    refine OwnOut.go (fun t k => XS.aload X1.here hx rfl (hb hby at_5) rfl rfl k) ?_
    show OwnOut p e s below 16 128 _ (T1.setTop (mkF m 7 #[.val (.int x0), .val (.int x1), .val (.int x2), .val (.int x3), .val (.int x4), .val (.int x5), .val (.ref c1), .unset, .unset, .unset] [(.ref c1)]))
    refine OwnOut.go (fun t k => XT.iconstV X1.here hx rfl (0 : Int32) (hb hby at_7) rfl k) ?_
    show OwnOut p e s below 16 128 _ (T1.setTop (mkF m 8 #[.val (.int x0), .val (.int x1), .val (.int x2), .val (.int x3), .val (.int x4), .val (.int x5), .val (.ref c1), .unset, .unset, .unset] [(.int (0 : Int32)), (.ref c1)]))
    refine OwnOut.go (fun t k => XS.iloadN X1.here hx rfl (hb hby at_8) rfl k) ?_
    show OwnOut p e s below 16 128 _ (T1.setTop (mkF m 9 #[.val (.int x0), .val (.int x1), .val (.int x2), .val (.int x3), .val (.int x4), .val (.int x5), .val (.ref c1), .unset, .unset, .unset] [(.int x0), (.int (0 : Int32)), (.ref c1)]))
    refine OwnOut.go (fun t k => XS.i2b X1.here hx rfl (hb hby at_9) rfl k) ?_
    show OwnOut p e s below 16 128 _ (T1.setTop (mkF m 10 #[.val (.int x0), .val (.int x1), .val (.int x2), .val (.int x3), .val (.int x4), .val (.int x5), .val (.ref c1), .unset, .unset, .unset] [(.int (x0.toInt8.toInt32)), (.int (0 : Int32)), (.ref c1)]))
    obtain ⟨T2, h2, X2, e2, W2, A_2, st2⟩ := saB X1 hx hZ e1 A_1 (rfl : stx [(0 : Int32), (0 : Int32), (0 : Int32), (0 : Int32), (0 : Int32)] (0 : Int32) (x0.toInt8.toInt32).toInt8.toInt32 = some [(x0.toInt8.toInt32).toInt8.toInt32, (0 : Int32), (0 : Int32), (0 : Int32), (0 : Int32)]) (g := (mkF m 10 #[.val (.int x0), .val (.int x1), .val (.int x2), .val (.int x3), .val (.int x4), .val (.int x5), .val (.ref c1), .unset, .unset, .unset] [(.int (x0.toInt8.toInt32)), (.int (0 : Int32)), (.ref c1)])) rfl rfl (hb hby at_10)
    refine OwnOut.go (fun t k => st2 _ k) ?_
    have N_2 := Fr.snoc X2 N0 g_1
    have O_2 := O_1.wr W2 g_1
    have K_2 := K_1.wr W2 (Or.inr z_1)
    show OwnOut p e s below 16 128 _ (T2.setTop (mkF m 11 #[.val (.int x0), .val (.int x1), .val (.int x2), .val (.int x3), .val (.int x4), .val (.int x5), .val (.ref c1), .unset, .unset, .unset] []))
    refine OwnOut.go (fun t k => XS.aload X2.here hx rfl (hb hby at_11) rfl rfl k) ?_
    show OwnOut p e s below 16 128 _ (T2.setTop (mkF m 13 #[.val (.int x0), .val (.int x1), .val (.int x2), .val (.int x3), .val (.int x4), .val (.int x5), .val (.ref c1), .unset, .unset, .unset] [(.ref c1)]))
    refine OwnOut.go (fun t k => XT.iconstV X2.here hx rfl (1 : Int32) (hb hby at_13) rfl k) ?_
    show OwnOut p e s below 16 128 _ (T2.setTop (mkF m 14 #[.val (.int x0), .val (.int x1), .val (.int x2), .val (.int x3), .val (.int x4), .val (.int x5), .val (.ref c1), .unset, .unset, .unset] [(.int (1 : Int32)), (.ref c1)]))
    refine OwnOut.go (fun t k => XS.iloadN X2.here hx rfl (hb hby at_14) rfl k) ?_
    show OwnOut p e s below 16 128 _ (T2.setTop (mkF m 15 #[.val (.int x0), .val (.int x1), .val (.int x2), .val (.int x3), .val (.int x4), .val (.int x5), .val (.ref c1), .unset, .unset, .unset] [(.int x1), (.int (1 : Int32)), (.ref c1)]))
    refine OwnOut.go (fun t k => XS.i2b X2.here hx rfl (hb hby at_15) rfl k) ?_
    show OwnOut p e s below 16 128 _ (T2.setTop (mkF m 16 #[.val (.int x0), .val (.int x1), .val (.int x2), .val (.int x3), .val (.int x4), .val (.int x5), .val (.ref c1), .unset, .unset, .unset] [(.int (x1.toInt8.toInt32)), (.int (1 : Int32)), (.ref c1)]))
    obtain ⟨T3, h3, X3, e3, W3, A_3, st3⟩ := saB X2 hx hZ e2 A_2 (rfl : stx [(x0.toInt8.toInt32).toInt8.toInt32, (0 : Int32), (0 : Int32), (0 : Int32), (0 : Int32)] (1 : Int32) (x1.toInt8.toInt32).toInt8.toInt32 = some [(x0.toInt8.toInt32).toInt8.toInt32, (x1.toInt8.toInt32).toInt8.toInt32, (0 : Int32), (0 : Int32), (0 : Int32)]) (g := (mkF m 16 #[.val (.int x0), .val (.int x1), .val (.int x2), .val (.int x3), .val (.int x4), .val (.int x5), .val (.ref c1), .unset, .unset, .unset] [(.int (x1.toInt8.toInt32)), (.int (1 : Int32)), (.ref c1)])) rfl rfl (hb hby at_16)
    refine OwnOut.go (fun t k => st3 _ k) ?_
    have N_3 := Fr.snoc X3 N_2 g_1
    have O_3 := O_2.wr W3 g_1
    have K_3 := K_2.wr W3 (Or.inr z_1)
    show OwnOut p e s below 16 128 _ (T3.setTop (mkF m 17 #[.val (.int x0), .val (.int x1), .val (.int x2), .val (.int x3), .val (.int x4), .val (.int x5), .val (.ref c1), .unset, .unset, .unset] []))
    refine OwnOut.go (fun t k => XS.aload X3.here hx rfl (hb hby at_17) rfl rfl k) ?_
    show OwnOut p e s below 16 128 _ (T3.setTop (mkF m 19 #[.val (.int x0), .val (.int x1), .val (.int x2), .val (.int x3), .val (.int x4), .val (.int x5), .val (.ref c1), .unset, .unset, .unset] [(.ref c1)]))
    refine OwnOut.go (fun t k => XT.iconstV X3.here hx rfl (2 : Int32) (hb hby at_19) rfl k) ?_
    show OwnOut p e s below 16 128 _ (T3.setTop (mkF m 20 #[.val (.int x0), .val (.int x1), .val (.int x2), .val (.int x3), .val (.int x4), .val (.int x5), .val (.ref c1), .unset, .unset, .unset] [(.int (2 : Int32)), (.ref c1)]))
    refine OwnOut.go (fun t k => XS.iloadN X3.here hx rfl (hb hby at_20) rfl k) ?_
    show OwnOut p e s below 16 128 _ (T3.setTop (mkF m 21 #[.val (.int x0), .val (.int x1), .val (.int x2), .val (.int x3), .val (.int x4), .val (.int x5), .val (.ref c1), .unset, .unset, .unset] [(.int x2), (.int (2 : Int32)), (.ref c1)]))
    refine OwnOut.go (fun t k => XS.i2b X3.here hx rfl (hb hby at_21) rfl k) ?_
    show OwnOut p e s below 16 128 _ (T3.setTop (mkF m 22 #[.val (.int x0), .val (.int x1), .val (.int x2), .val (.int x3), .val (.int x4), .val (.int x5), .val (.ref c1), .unset, .unset, .unset] [(.int (x2.toInt8.toInt32)), (.int (2 : Int32)), (.ref c1)]))
    obtain ⟨T4, h4, X4, e4, W4, A_4, st4⟩ := saB X3 hx hZ e3 A_3 (rfl : stx [(x0.toInt8.toInt32).toInt8.toInt32, (x1.toInt8.toInt32).toInt8.toInt32, (0 : Int32), (0 : Int32), (0 : Int32)] (2 : Int32) (x2.toInt8.toInt32).toInt8.toInt32 = some [(x0.toInt8.toInt32).toInt8.toInt32, (x1.toInt8.toInt32).toInt8.toInt32, (x2.toInt8.toInt32).toInt8.toInt32, (0 : Int32), (0 : Int32)]) (g := (mkF m 22 #[.val (.int x0), .val (.int x1), .val (.int x2), .val (.int x3), .val (.int x4), .val (.int x5), .val (.ref c1), .unset, .unset, .unset] [(.int (x2.toInt8.toInt32)), (.int (2 : Int32)), (.ref c1)])) rfl rfl (hb hby at_22)
    refine OwnOut.go (fun t k => st4 _ k) ?_
    have N_4 := Fr.snoc X4 N_3 g_1
    have O_4 := O_3.wr W4 g_1
    have K_4 := K_3.wr W4 (Or.inr z_1)
    show OwnOut p e s below 16 128 _ (T4.setTop (mkF m 23 #[.val (.int x0), .val (.int x1), .val (.int x2), .val (.int x3), .val (.int x4), .val (.int x5), .val (.ref c1), .unset, .unset, .unset] []))
    refine OwnOut.go (fun t k => XS.aload X4.here hx rfl (hb hby at_23) rfl rfl k) ?_
    show OwnOut p e s below 16 128 _ (T4.setTop (mkF m 25 #[.val (.int x0), .val (.int x1), .val (.int x2), .val (.int x3), .val (.int x4), .val (.int x5), .val (.ref c1), .unset, .unset, .unset] [(.ref c1)]))
    refine OwnOut.go (fun t k => XT.iconstV X4.here hx rfl (3 : Int32) (hb hby at_25) rfl k) ?_
    show OwnOut p e s below 16 128 _ (T4.setTop (mkF m 26 #[.val (.int x0), .val (.int x1), .val (.int x2), .val (.int x3), .val (.int x4), .val (.int x5), .val (.ref c1), .unset, .unset, .unset] [(.int (3 : Int32)), (.ref c1)]))
    refine OwnOut.go (fun t k => XS.iloadN X4.here hx rfl (hb hby at_26) rfl k) ?_
    show OwnOut p e s below 16 128 _ (T4.setTop (mkF m 27 #[.val (.int x0), .val (.int x1), .val (.int x2), .val (.int x3), .val (.int x4), .val (.int x5), .val (.ref c1), .unset, .unset, .unset] [(.int x3), (.int (3 : Int32)), (.ref c1)]))
    refine OwnOut.go (fun t k => XS.i2b X4.here hx rfl (hb hby at_27) rfl k) ?_
    show OwnOut p e s below 16 128 _ (T4.setTop (mkF m 28 #[.val (.int x0), .val (.int x1), .val (.int x2), .val (.int x3), .val (.int x4), .val (.int x5), .val (.ref c1), .unset, .unset, .unset] [(.int (x3.toInt8.toInt32)), (.int (3 : Int32)), (.ref c1)]))
    obtain ⟨T5, h5, X5, e5, W5, A_5, st5⟩ := saB X4 hx hZ e4 A_4 (rfl : stx [(x0.toInt8.toInt32).toInt8.toInt32, (x1.toInt8.toInt32).toInt8.toInt32, (x2.toInt8.toInt32).toInt8.toInt32, (0 : Int32), (0 : Int32)] (3 : Int32) (x3.toInt8.toInt32).toInt8.toInt32 = some [(x0.toInt8.toInt32).toInt8.toInt32, (x1.toInt8.toInt32).toInt8.toInt32, (x2.toInt8.toInt32).toInt8.toInt32, (x3.toInt8.toInt32).toInt8.toInt32, (0 : Int32)]) (g := (mkF m 28 #[.val (.int x0), .val (.int x1), .val (.int x2), .val (.int x3), .val (.int x4), .val (.int x5), .val (.ref c1), .unset, .unset, .unset] [(.int (x3.toInt8.toInt32)), (.int (3 : Int32)), (.ref c1)])) rfl rfl (hb hby at_28)
    refine OwnOut.go (fun t k => st5 _ k) ?_
    have N_5 := Fr.snoc X5 N_4 g_1
    have O_5 := O_4.wr W5 g_1
    have K_5 := K_4.wr W5 (Or.inr z_1)
    show OwnOut p e s below 16 128 _ (T5.setTop (mkF m 29 #[.val (.int x0), .val (.int x1), .val (.int x2), .val (.int x3), .val (.int x4), .val (.int x5), .val (.ref c1), .unset, .unset, .unset] []))
    refine OwnOut.go (fun t k => XS.aload X5.here hx rfl (hb hby at_29) rfl rfl k) ?_
    show OwnOut p e s below 16 128 _ (T5.setTop (mkF m 31 #[.val (.int x0), .val (.int x1), .val (.int x2), .val (.int x3), .val (.int x4), .val (.int x5), .val (.ref c1), .unset, .unset, .unset] [(.ref c1)]))
    refine OwnOut.go (fun t k => XT.iconstV X5.here hx rfl (4 : Int32) (hb hby at_31) rfl k) ?_
    show OwnOut p e s below 16 128 _ (T5.setTop (mkF m 32 #[.val (.int x0), .val (.int x1), .val (.int x2), .val (.int x3), .val (.int x4), .val (.int x5), .val (.ref c1), .unset, .unset, .unset] [(.int (4 : Int32)), (.ref c1)]))
    refine OwnOut.go (fun t k => XS.iload X5.here hx rfl (hb hby at_32) rfl k) ?_
    show OwnOut p e s below 16 128 _ (T5.setTop (mkF m 34 #[.val (.int x0), .val (.int x1), .val (.int x2), .val (.int x3), .val (.int x4), .val (.int x5), .val (.ref c1), .unset, .unset, .unset] [(.int x4), (.int (4 : Int32)), (.ref c1)]))
    refine OwnOut.go (fun t k => XS.i2b X5.here hx rfl (hb hby at_34) rfl k) ?_
    show OwnOut p e s below 16 128 _ (T5.setTop (mkF m 35 #[.val (.int x0), .val (.int x1), .val (.int x2), .val (.int x3), .val (.int x4), .val (.int x5), .val (.ref c1), .unset, .unset, .unset] [(.int (x4.toInt8.toInt32)), (.int (4 : Int32)), (.ref c1)]))
    obtain ⟨T6, h6, X6, e6, W6, A_6, st6⟩ := saB X5 hx hZ e5 A_5 (rfl : stx [(x0.toInt8.toInt32).toInt8.toInt32, (x1.toInt8.toInt32).toInt8.toInt32, (x2.toInt8.toInt32).toInt8.toInt32, (x3.toInt8.toInt32).toInt8.toInt32, (0 : Int32)] (4 : Int32) (x4.toInt8.toInt32).toInt8.toInt32 = some [(x0.toInt8.toInt32).toInt8.toInt32, (x1.toInt8.toInt32).toInt8.toInt32, (x2.toInt8.toInt32).toInt8.toInt32, (x3.toInt8.toInt32).toInt8.toInt32, (x4.toInt8.toInt32).toInt8.toInt32]) (g := (mkF m 35 #[.val (.int x0), .val (.int x1), .val (.int x2), .val (.int x3), .val (.int x4), .val (.int x5), .val (.ref c1), .unset, .unset, .unset] [(.int (x4.toInt8.toInt32)), (.int (4 : Int32)), (.ref c1)])) rfl rfl (hb hby at_35)
    refine OwnOut.go (fun t k => st6 _ k) ?_
    have N_6 := Fr.snoc X6 N_5 g_1
    have O_6 := O_5.wr W6 g_1
    have K_6 := K_5.wr W6 (Or.inr z_1)
    show OwnOut p e s below 16 128 _ (T6.setTop (mkF m 36 #[.val (.int x0), .val (.int x1), .val (.int x2), .val (.int x3), .val (.int x4), .val (.int x5), .val (.ref c1), .unset, .unset, .unset] []))
    refine OwnOut.go (fun t k => XS.iload X6.here hx rfl (hb hby at_36) rfl k) ?_
    show OwnOut p e s below 16 128 _ (T6.setTop (mkF m 38 #[.val (.int x0), .val (.int x1), .val (.int x2), .val (.int x3), .val (.int x4), .val (.int x5), .val (.ref c1), .unset, .unset, .unset] [(.int x5)]))
    refine OwnOut.go (fun t k => XT.bipushV X6.here hx rfl (7 : Int32) (hb hby at_38) rfl k) ?_
    show OwnOut p e s below 16 128 _ (T6.setTop (mkF m 40 #[.val (.int x0), .val (.int x1), .val (.int x2), .val (.int x3), .val (.int x4), .val (.int x5), .val (.ref c1), .unset, .unset, .unset] [(.int (7 : Int32)), (.int x5)]))
    refine OwnOut.go (fun t k => XS.iand X6.here hx rfl (hb hby at_40) rfl k) ?_
    show OwnOut p e s below 16 128 _ (T6.setTop (mkF m 41 #[.val (.int x0), .val (.int x1), .val (.int x2), .val (.int x3), .val (.int x4), .val (.int x5), .val (.ref c1), .unset, .unset, .unset] [(.int (x5 &&& (7 : Int32)))]))
    refine OwnOut.go (fun t k => XT.bipushV X6.here hx rfl (6 : Int32) (hb hby at_41) rfl k) ?_
    show OwnOut p e s below 16 128 _ (T6.setTop (mkF m 43 #[.val (.int x0), .val (.int x1), .val (.int x2), .val (.int x3), .val (.int x4), .val (.int x5), .val (.ref c1), .unset, .unset, .unset] [(.int (6 : Int32)), (.int (x5 &&& (7 : Int32)))]))
    refine OwnOut.go (fun t k => iremM X6 hx rfl (hb hby at_43) rfl (by decide) k) ?_
    show OwnOut p e s below 16 128 _ (T6.setTop (mkF m 44 #[.val (.int x0), .val (.int x1), .val (.int x2), .val (.int x3), .val (.int x4), .val (.int x5), .val (.ref c1), .unset, .unset, .unset] [(.int ((x5 &&& (7 : Int32)) % (6 : Int32)))]))
    refine OwnOut.go (fun t k => XS.istore X6.here hx rfl (hb hby at_44) rfl (l' := #[.val (.int x0), .val (.int x1), .val (.int x2), .val (.int x3), .val (.int x4), .val (.int x5), .val (.ref c1), .val (.int ((x5 &&& (7 : Int32)) % (6 : Int32))), .unset, .unset]) rfl k) ?_
    show OwnOut p e s below 16 128 _ (T6.setTop (mkF m 46 #[.val (.int x0), .val (.int x1), .val (.int x2), .val (.int x3), .val (.int x4), .val (.int x5), .val (.ref c1), .val (.int ((x5 &&& (7 : Int32)) % (6 : Int32))), .unset, .unset] []))
    refine OwnOut.go (fun t k => XS.iload X6.here hx rfl (hb hby at_46) rfl k) ?_
    show OwnOut p e s below 16 128 _ (T6.setTop (mkF m 48 #[.val (.int x0), .val (.int x1), .val (.int x2), .val (.int x3), .val (.int x4), .val (.int x5), .val (.ref c1), .val (.int ((x5 &&& (7 : Int32)) % (6 : Int32))), .unset, .unset] [(.int ((x5 &&& (7 : Int32)) % (6 : Int32)))]))
    refine OwnOut.go (fun t k => XS.iload X6.here hx rfl (hb hby at_48) rfl k) ?_
    show OwnOut p e s below 16 128 _ (T6.setTop (mkF m 50 #[.val (.int x0), .val (.int x1), .val (.int x2), .val (.int x3), .val (.int x4), .val (.int x5), .val (.ref c1), .val (.int ((x5 &&& (7 : Int32)) % (6 : Int32))), .unset, .unset] [(.int x5), (.int ((x5 &&& (7 : Int32)) % (6 : Int32)))]))
    refine OwnOut.go (fun t k => XT.iconstV X6.here hx rfl (3 : Int32) (hb hby at_50) rfl k) ?_
    show OwnOut p e s below 16 128 _ (T6.setTop (mkF m 51 #[.val (.int x0), .val (.int x1), .val (.int x2), .val (.int x3), .val (.int x4), .val (.int x5), .val (.ref c1), .val (.int ((x5 &&& (7 : Int32)) % (6 : Int32))), .unset, .unset] [(.int (3 : Int32)), (.int x5), (.int ((x5 &&& (7 : Int32)) % (6 : Int32)))]))
    refine OwnOut.go (fun t k => XS.iushr X6.here hx rfl (hb hby at_51) rfl k) ?_
    show OwnOut p e s below 16 128 _ (T6.setTop (mkF m 52 #[.val (.int x0), .val (.int x1), .val (.int x2), .val (.int x3), .val (.int x4), .val (.int x5), .val (.ref c1), .val (.int ((x5 &&& (7 : Int32)) % (6 : Int32))), .unset, .unset] [(.int ((x5.toUInt32 >>> ((3 : Int32) &&& 31).toUInt32).toInt32)), (.int ((x5 &&& (7 : Int32)) % (6 : Int32)))]))
    refine OwnOut.go (fun t k => XT.bipushV X6.here hx rfl (7 : Int32) (hb hby at_52) rfl k) ?_
    show OwnOut p e s below 16 128 _ (T6.setTop (mkF m 54 #[.val (.int x0), .val (.int x1), .val (.int x2), .val (.int x3), .val (.int x4), .val (.int x5), .val (.ref c1), .val (.int ((x5 &&& (7 : Int32)) % (6 : Int32))), .unset, .unset] [(.int (7 : Int32)), (.int ((x5.toUInt32 >>> ((3 : Int32) &&& 31).toUInt32).toInt32)), (.int ((x5 &&& (7 : Int32)) % (6 : Int32)))]))
    refine OwnOut.go (fun t k => XS.iand X6.here hx rfl (hb hby at_54) rfl k) ?_
    show OwnOut p e s below 16 128 _ (T6.setTop (mkF m 55 #[.val (.int x0), .val (.int x1), .val (.int x2), .val (.int x3), .val (.int x4), .val (.int x5), .val (.ref c1), .val (.int ((x5 &&& (7 : Int32)) % (6 : Int32))), .unset, .unset] [(.int (((x5.toUInt32 >>> ((3 : Int32) &&& 31).toUInt32).toInt32) &&& (7 : Int32))), (.int ((x5 &&& (7 : Int32)) % (6 : Int32)))]))
    refine OwnOut.go (fun t k => XT.bipushV X6.here hx rfl (6 : Int32) (hb hby at_55) rfl k) ?_
    show OwnOut p e s below 16 128 _ (T6.setTop (mkF m 57 #[.val (.int x0), .val (.int x1), .val (.int x2), .val (.int x3), .val (.int x4), .val (.int x5), .val (.ref c1), .val (.int ((x5 &&& (7 : Int32)) % (6 : Int32))), .unset, .unset] [(.int (6 : Int32)), (.int (((x5.toUInt32 >>> ((3 : Int32) &&& 31).toUInt32).toInt32) &&& (7 : Int32))), (.int ((x5 &&& (7 : Int32)) % (6 : Int32)))]))
    refine OwnOut.go (fun t k => XS.iload X6.here hx rfl (hb hby at_57) rfl k) ?_
    show OwnOut p e s below 16 128 _ (T6.setTop (mkF m 59 #[.val (.int x0), .val (.int x1), .val (.int x2), .val (.int x3), .val (.int x4), .val (.int x5), .val (.ref c1), .val (.int ((x5 &&& (7 : Int32)) % (6 : Int32))), .unset, .unset] [(.int ((x5 &&& (7 : Int32)) % (6 : Int32))), (.int (6 : Int32)), (.int (((x5.toUInt32 >>> ((3 : Int32) &&& 31).toUInt32).toInt32) &&& (7 : Int32))), (.int ((x5 &&& (7 : Int32)) % (6 : Int32)))]))
    refine OwnOut.go (fun t k => XS.isub X6.here hx rfl (hb hby at_59) rfl k) ?_
    show OwnOut p e s below 16 128 _ (T6.setTop (mkF m 60 #[.val (.int x0), .val (.int x1), .val (.int x2), .val (.int x3), .val (.int x4), .val (.int x5), .val (.ref c1), .val (.int ((x5 &&& (7 : Int32)) % (6 : Int32))), .unset, .unset] [(.int ((6 : Int32) - ((x5 &&& (7 : Int32)) % (6 : Int32)))), (.int (((x5.toUInt32 >>> ((3 : Int32) &&& 31).toUInt32).toInt32) &&& (7 : Int32))), (.int ((x5 &&& (7 : Int32)) % (6 : Int32)))]))
    by_cases hz60 : ((6 : Int32) - ((x5 &&& (7 : Int32)) % (6 : Int32))) = (0 : Int32)
    · rw [if_pos hz60] at hr; cases hr
    rw [if_neg hz60] at hr
    refine OwnOut.go (fun t k => iremM X6 hx rfl (hb hby at_60) rfl hz60 k) ?_
    show OwnOut p e s below 16 128 _ (T6.setTop (mkF m 61 #[.val (.int x0), .val (.int x1), .val (.int x2), .val (.int x3), .val (.int x4), .val (.int x5), .val (.ref c1), .val (.int ((x5 &&& (7 : Int32)) % (6 : Int32))), .unset, .unset] [(.int ((((x5.toUInt32 >>> ((3 : Int32) &&& 31).toUInt32).toInt32) &&& (7 : Int32)) % ((6 : Int32) - ((x5 &&& (7 : Int32)) % (6 : Int32))))), (.int ((x5 &&& (7 : Int32)) % (6 : Int32)))]))
    refine OwnOut.go (fun t k => XS.iadd X6.here hx rfl (hb hby at_61) rfl k) ?_
    show OwnOut p e s below 16 128 _ (T6.setTop (mkF m 62 #[.val (.int x0), .val (.int x1), .val (.int x2), .val (.int x3), .val (.int x4), .val (.int x5), .val (.ref c1), .val (.int ((x5 &&& (7 : Int32)) % (6 : Int32))), .unset, .unset] [(.int (((x5 &&& (7 : Int32)) % (6 : Int32)) + ((((x5.toUInt32 >>> ((3 : Int32) &&& 31).toUInt32).toInt32) &&& (7 : Int32)) % ((6 : Int32) - ((x5 &&& (7 : Int32)) % (6 : Int32))))))]))
    refine OwnOut.go (fun t k => XS.istore X6.here hx rfl (hb hby at_62) rfl (l' := #[.val (.int x0), .val (.int x1), .val (.int x2), .val (.int x3), .val (.int x4), .val (.int x5), .val (.ref c1), .val (.int ((x5 &&& (7 : Int32)) % (6 : Int32))), .val (.int (((x5 &&& (7 : Int32)) % (6 : Int32)) + ((((x5.toUInt32 >>> ((3 : Int32) &&& 31).toUInt32).toInt32) &&& (7 : Int32)) % ((6 : Int32) - ((x5 &&& (7 : Int32)) % (6 : Int32)))))), .unset]) rfl k) ?_
    show OwnOut p e s below 16 128 _ (T6.setTop (mkF m 64 #[.val (.int x0), .val (.int x1), .val (.int x2), .val (.int x3), .val (.int x4), .val (.int x5), .val (.ref c1), .val (.int ((x5 &&& (7 : Int32)) % (6 : Int32))), .val (.int (((x5 &&& (7 : Int32)) % (6 : Int32)) + ((((x5.toUInt32 >>> ((3 : Int32) &&& 31).toUInt32).toInt32) &&& (7 : Int32)) % ((6 : Int32) - ((x5 &&& (7 : Int32)) % (6 : Int32)))))), .unset] []))
    exact w0_64 ⟨hx, hZ, hw, hby, hml, hown, hret, hlk, hnm⟩  _ _ _ (.val (.int x0)) (.val (.int x1)) (.val (.int x2)) (.val (.int x3)) (.val (.int x4)) (.val (.int x5)) ((x5 &&& (7 : Int32)) % (6 : Int32)) (((x5 &&& (7 : Int32)) % (6 : Int32)) + ((((x5.toUInt32 >>> ((3 : Int32) &&& 31).toUInt32).toInt32) &&& (7 : Int32)) % ((6 : Int32) - ((x5 &&& (7 : Int32)) % (6 : Int32))))) (.unset) c1 [(x0.toInt8.toInt32).toInt8.toInt32, (x1.toInt8.toInt32).toInt8.toInt32, (x2.toInt8.toInt32).toInt8.toInt32, (x3.toInt8.toInt32).toInt8.toInt32, (x4.toInt8.toInt32).toInt8.toInt32] _ hr X6 e6 N_6 O_6 K_6 A_6 (One.val rfl) (One.val rfl) (One.val rfl) (One.val rfl) (One.val rfl) (One.val rfl) One.u g_1 z_1
set_option maxRecDepth 65536 in
set_option maxHeartbeats 40000000 in
theorem rm0 (l : Launch) (Z : State) (a0 : Array Value) (hw : ∀ d ∈ tables_1, d.before a0 Z = true) (ws : List Jvm.Cond) (x0 : Int32) (x1 : Int32) (x2 : Int32) (x3 : Int32) (x4 : Int32) (x5 : Int32) (h0 : Heap) (n0 : Nat) (o : Int32) (hr : f0 x0 x1 x2 x3 x4 x5 = some o) (O0 : Old Z n0 h0) :
    MetFree l x (head1 (Jvm.Cond.code x code maxLocals ret :: ws) room_1) (fun a U => a = #[(.int x0), (.int x1), (.int x2), (.int x3), (.int x4), (.int x5)] ∧ Z.Warmed39 U.vm ∧ U.heap = h0) (fun _ _ _ _ _ => True) (fun _ U o' U' => ∃ v L, o' = .returned v ∧ Q0 Z x0 x1 x2 x3 x4 x5 h0 n0 o v U'.heap L ∧ FrameEnd U o' U' L 16 128) := by
  refine MetFree.of_bodySF (plainFor_of_name pn0) hisR ?_
  intro p e s m args below meth c s₁ Bd hml0 hP hK
  obtain ⟨rfl, hZ, hh⟩ := hP
  have X0 : Stand p l e room_1 s m #[(.int x0), (.int x1), (.int x2), (.int x3), (.int x4), (.int x5)] below meth c s₁ [] 0 0 := Stand.of_body Bd
  have e0 : s₁.heap = h0 := by rw [← hh, Bd.state]; rfl
  exact OwnOut.at (ef0 m x0 x1 x2 x3 x4 x5) (w0_0 ⟨Bd.exec, hZ, hw, Bd.bytes, hml0, findClass_of_methodNamed Bd.named, Bd.returns, Bd.notSynchronized, (name_of_methodNamed Bd.named Bd.method).1⟩ _ _ _ x0 x1 x2 x3 x4 x5 o hr X0 e0 (Fr.nil n0) O0 (Keep.refl _ _) )
/-- a value from 0 to 255 -/
def own_by (a : Int32) : Prop := 0 ≤ a.toInt ∧ a.toInt ≤ 255
theorem own_byk {a : Int32} (h : own_by a) : ∃ k : Fin 256, a = Int32.ofNat k.val ∧ a.toInt = k.val := by
  have e : a.toInt = ((a.toInt.toNat : Nat) : Int) := (Int.toNat_of_nonneg h.1).symm
  refine ⟨⟨a.toInt.toNat, by have := h.1; have := h.2; omega⟩, Int32.toInt_inj.mp ?_, e⟩
  show _ = (Int32.ofNat _).toInt
  rw [Int32.toInt_ofNat_of_lt (by have := h.1; have := h.2; show _ < 2 ^ 31; omega)]
  exact e
theorem own_mask (a : Int32) : own_by (a &&& 255) := by
  have e : (a &&& 255).toInt = a.toInt % (2 ^ 8 : Nat) := c_mask a 255 8 (by decide) (by decide)
  constructor <;> omega
theorem own_CAll : ∀ k : Fin 256, ((Int32.ofNat k.val &&& 192 = 128) ↔ (128 ≤ k.val ∧ k.val ≤ 191)) := by decide +kernel
theorem own_C (v : Int32) : ((v &&& 255) &&& 192 = 128) ↔ (128 ≤ (v &&& 255).toInt ∧ (v &&& 255).toInt ≤ 191) := by
  obtain ⟨k, e1, e2⟩ := own_byk (own_mask v)
  rw [e2, e1, own_CAll k]
  omega
theorem own_192 (v : Int32) : v &&& 192 = (v &&& 255) &&& 192 := by rw [Int32.and_assoc]; rfl
theorem own_ld {l : List Int32} (hl : l.length = 5) {j : Int32} (h0 : 0 ≤ j.toInt) (h1 : j.toInt < 5) : ∃ v, ldx l j = some v := by
  unfold ldx
  rw [if_neg (by rw [Int32.lt_iff_toInt_lt]; have : (0 : Int32).toInt = 0 := by decide
                 omega)]
  exact ⟨_, List.getElem?_eq_getElem (by show j.toInt.toNat < _; omega)⟩
theorem own_add (i k : Int32) (K : Int) (hk : k.toInt = K) (h0 : 0 ≤ i.toInt) (h1 : i.toInt ≤ 100) (h2 : 0 ≤ K) (h3 : K ≤ 100) : (i + k).toInt = i.toInt + K := by
  rw [XT.add32 ⟨by omega, by omega⟩, hk]
theorem own_or {b a : Int32} (k : Nat) (hk : k ≤ 31) (B A P : Int) (hP : P = (2 ^ k : Nat)) (ha : a.toInt = A) (hb : b.toInt = B) (h1 : A % P = 0) (h2 : 0 ≤ B) (h3 : B < P) (h4 : A + B < 2147483648) (h5 : 0 ≤ A) : (a ||| b).toInt = A + B := by
  have e := c_or a b k hk P hP (by rw [ha]; exact h1) (by omega) (by omega)
  have e3 := Int32.le_toInt (a ||| b)
  have e4 := Int32.toInt_lt (a ||| b)
  omega
theorem own_sh (a q : Int32) (k : Nat) (A P : Int) (hk : q.toBitVec.toNat % 32 = k) (hP : P = (2 ^ k : Nat)) (ha : a.toInt = A) (h0 : 0 ≤ A * P) (h1 : A * P < 2147483648) : (a <<< (q &&& 31)).toInt = A * P := by
  have e := c_ishl a q k hk
  have e3 := Int32.le_toInt (a <<< (q &&& 31))
  have e4 := Int32.toInt_lt (a <<< (q &&& 31))
  rw [ha, ← hP] at e
  omega
theorem own_cp2 (a b : Int32) : (((a &&& 31) <<< ((6 : Int32) &&& 31)) ||| (b &&& 63)).toInt = a.toInt % 32 * 64 + b.toInt % 64 := by
  have m1 : (a &&& 31).toInt = a.toInt % 32 := c_mask a 31 5 (by decide) (by decide)
  have m2 : (b &&& 63).toInt = b.toInt % 64 := c_mask b 63 6 (by decide) (by decide)
  have s := own_sh (a &&& 31) 6 6 _ 64 (by decide) (by decide) m1 (by omega) (by omega)
  exact own_or 6 (by decide) _ _ 64 (by decide) s m2 (by omega) (by omega) (by omega) (by omega) (by omega)
theorem own_cp3 (a b c : Int32) : ((((a &&& 15) <<< ((12 : Int32) &&& 31)) ||| ((b &&& 63) <<< ((6 : Int32) &&& 31))) ||| (c &&& 63)).toInt = a.toInt % 16 * 4096 + b.toInt % 64 * 64 + c.toInt % 64 := by
  have m1 : (a &&& 15).toInt = a.toInt % 16 := c_mask a 15 4 (by decide) (by decide)
  have m2 : (b &&& 63).toInt = b.toInt % 64 := c_mask b 63 6 (by decide) (by decide)
  have m3 : (c &&& 63).toInt = c.toInt % 64 := c_mask c 63 6 (by decide) (by decide)
  have s1 := own_sh (a &&& 15) 12 12 _ 4096 (by decide) (by decide) m1 (by omega) (by omega)
  have s2 := own_sh (b &&& 63) 6 6 _ 64 (by decide) (by decide) m2 (by omega) (by omega)
  have o1 := own_or 12 (by decide) _ _ 4096 (by decide) s1 s2 (by omega) (by omega) (by omega) (by omega) (by omega)
  exact own_or 6 (by decide) _ _ 64 (by decide) o1 m3 (by omega) (by omega) (by omega) (by omega) (by omega)
theorem own_cp4 (a b c d : Int32) : (((((a &&& 7) <<< ((18 : Int32) &&& 31)) ||| ((b &&& 63) <<< ((12 : Int32) &&& 31))) ||| ((c &&& 63) <<< ((6 : Int32) &&& 31))) ||| (d &&& 63)).toInt = a.toInt % 8 * 262144 + b.toInt % 64 * 4096 + c.toInt % 64 * 64 + d.toInt % 64 := by
  have m1 : (a &&& 7).toInt = a.toInt % 8 := c_mask a 7 3 (by decide) (by decide)
  have m2 : (b &&& 63).toInt = b.toInt % 64 := c_mask b 63 6 (by decide) (by decide)
  have m3 : (c &&& 63).toInt = c.toInt % 64 := c_mask c 63 6 (by decide) (by decide)
  have m4 : (d &&& 63).toInt = d.toInt % 64 := c_mask d 63 6 (by decide) (by decide)
  have s1 := own_sh (a &&& 7) 18 18 _ 262144 (by decide) (by decide) m1 (by omega) (by omega)
  have s2 := own_sh (b &&& 63) 12 12 _ 4096 (by decide) (by decide) m2 (by omega) (by omega)
  have s3 := own_sh (c &&& 63) 6 6 _ 64 (by decide) (by decide) m3 (by omega) (by omega)
  have o1 := own_or 18 (by decide) _ _ 262144 (by decide) s1 s2 (by omega) (by omega) (by omega) (by omega) (by omega)
  have o2 := own_or 12 (by decide) _ _ 4096 (by decide) o1 s3 (by omega) (by omega) (by omega) (by omega) (by omega)
  exact own_or 6 (by decide) _ _ 64 (by decide) o2 m4 (by omega) (by omega) (by omega) (by omega) (by omega)
theorem own_274 (n cp mn : Int32) (l : List Int32) (M : Int) (hM : mn.toInt = M) : f3_274 n cp mn l = if cp.toInt < M ∨ 1114111 < cp.toInt ∨ (55296 ≤ cp.toInt ∧ cp.toInt ≤ 57343) then some 0 else some n := by
  simp only [f3_274, Int32.lt_iff_toInt_lt, Int32.reduceToInt, hM]
  generalize cp.toInt = z
  by_cases q : z < M ∨ 1114111 < z ∨ (55296 ≤ z ∧ z ≤ 57343)
  · rw [if_pos q]
    repeat' split
    all_goals first | rfl | (exfalso; omega)
  · rw [if_neg q]
    repeat' split
    all_goals first | rfl | (exfalso; omega)
theorem own_206a (k : Int32 → Int32 → List Int32 → Option Int32) (to i : Int32) (l : List Int32) : f1_206 k 4 to i 1 2 l = k to (i + 2) l := by
  rw [f1_206, if_pos (by decide)]; rfl
theorem own_206b (k : Int32 → Int32 → List Int32 → Option Int32) (to i v : Int32) (l : List Int32) (hv : ldx l (i + 2) = some v) : f1_206 k 4 to i 2 2 l = if 128 ≤ (v &&& 255).toInt ∧ (v &&& 255).toInt ≤ 191 then k to (i + 3) l else some i := by
  rw [f1_206, if_neg (by decide), hv]
  show (if v &&& 192 = 128 then _ else _) = _
  rw [own_192]
  by_cases q : (v &&& 255) &&& 192 = 128
  · rw [if_pos q, if_pos ((own_C v).mp q), f1_206, if_pos (by decide)]; rfl
  · rw [if_neg q, if_neg (fun z => q ((own_C v).mpr z))]
theorem own_206c (k : Int32 → Int32 → List Int32 → Option Int32) (to i v w : Int32) (l : List Int32) (hv : ldx l (i + 2) = some v) (hw : ldx l (i + 3) = some w) : f1_206 k 4 to i 3 2 l = if 128 ≤ (v &&& 255).toInt ∧ (v &&& 255).toInt ≤ 191 then (if 128 ≤ (w &&& 255).toInt ∧ (w &&& 255).toInt ≤ 191 then k to (i + 4) l else some i) else some i := by
  rw [f1_206, if_neg (by decide), hv]
  show (if v &&& 192 = 128 then _ else _) = _
  rw [own_192]
  by_cases q : (v &&& 255) &&& 192 = 128
  · rw [if_pos q, if_pos ((own_C v).mp q), f1_206, if_neg (by decide), show i + ((2 : Int32) + 1) = i + 3 from rfl, hw]
    show (if w &&& 192 = 128 then _ else _) = _
    rw [own_192]
    by_cases r : (w &&& 255) &&& 192 = 128
    · rw [if_pos r, if_pos ((own_C w).mp r), f1_206, if_pos (by decide)]; rfl
    · rw [if_neg r, if_neg (fun z => r ((own_C w).mpr z))]
  · rw [if_neg q, if_neg (fun z => q ((own_C v).mpr z))]
/-- what a step says -/
def own_S (to i : Int32) (l : List Int32) : Prop := ∃ L, f3 i to l = some L ∧ ((L = 0 ∧ ∀ n, f1_2 (n + 1) to i l = some i) ∨ (1 ≤ L.toInt ∧ i.toInt + L.toInt ≤ to.toInt ∧ ∀ n, f1_2 (n + 1) to i l = f1_2 n to (i + L) l))
theorem own_no {to i : Int32} {l : List Int32} (h1 : f3 i to l = some 0) (h2 : ∀ n, f1_2 (n + 1) to i l = some i) : own_S to i l := ⟨0, h1, Or.inl ⟨rfl, h2⟩⟩
section
variable {l : List Int32} {to i v : Int32}
theorem own_s1 (h1 : i.toInt < to.toInt) (hv : ldx l i = some v) (ha : (v &&& 255).toInt < 128) : own_S to i l := by
  refine ⟨1, ?_, Or.inr ⟨by decide, by show _ + (1 : Int) ≤ _; omega, fun n => ?_⟩⟩
  · simp only [f3, hv, Option.bind_some, Int32.lt_iff_toInt_lt, Int32.reduceToInt]
    rw [if_pos ha]
  · simp only [f1_2, hv, Option.bind_some, Int32.lt_iff_toInt_lt, Int32.reduceToInt]
    rw [if_pos h1, if_pos ha]
theorem own_bad (h1 : i.toInt < to.toInt) (hv : ldx l i = some v) (ha : 128 ≤ (v &&& 255).toInt) (hb : (v &&& 255).toInt < 194 ∨ 244 < (v &&& 255).toInt) : ∀ n, f1_2 (n + 1) to i l = some i := by
  intro n
  simp only [f1_2, f1_62, f1_113, hv, Option.bind_some, Int32.lt_iff_toInt_lt, ← Int32.toInt_inj (x := v &&& 255), Int32.reduceToInt]
  have b := own_mask v
  have b1 := b.1
  have b2 := b.2
  generalize (v &&& 255).toInt = a at *
  rcases hb with h | h
  · rw [if_pos h1, if_neg (by omega), if_pos (by omega), if_pos (by omega), if_pos (by omega)]
  · rw [if_pos h1, if_neg (by omega), if_neg (by omega), if_pos (by omega), if_neg (by omega), if_pos (by omega), if_neg (by omega), if_pos (by omega)]
theorem own_67 (n A : Int32) (N : Int) (hn : n.toInt = N) (hN : 0 ≤ N ∧ N ≤ 4) (h0 : 0 ≤ i.toInt) (h3 : i.toInt ≤ 5) (h : to.toInt < i.toInt + N) : f3_67 i to A n l = some 0 := by
  simp only [f3_67, Int32.lt_iff_toInt_lt]
  rw [own_add i n N hn h0 (by omega) hN.1 (by omega), if_pos h]
theorem own_sub (h0 : 0 ≤ i.toInt) (h1 : i.toInt < to.toInt) (h2 : to.toInt ≤ 5) : (to - i).toInt = to.toInt - i.toInt := XT.sub32 ⟨by omega, by omega⟩
theorem own_s2 (hl : l.length = 5) (h0 : 0 ≤ i.toInt) (h1 : i.toInt < to.toInt) (h2 : to.toInt ≤ 5) (hv : ldx l i = some v) (ha : 192 ≤ (v &&& 255).toInt) (hb : (v &&& 255).toInt < 224) : own_S to i l := by
  have ef : f3 i to l = f3_67 i to (v &&& 255) 2 l := by
    simp only [f3, hv, Option.bind_some, Int32.lt_iff_toInt_lt, Int32.reduceToInt]
    rw [if_neg (by omega), if_neg (by omega), if_pos (by omega)]
  have eg : 194 ≤ (v &&& 255).toInt → ∀ n, f1_2 (n + 1) to i l = f1_166 (f1_2 n) to i 1 128 191 l := by
    intro hc n
    simp only [f1_2, hv, Option.bind_some, Int32.lt_iff_toInt_lt, Int32.reduceToInt]
    rw [if_pos h1, if_neg (by omega), if_neg (by omega), if_neg (by omega)]
  by_cases hz : to.toInt < i.toInt + 2
  · refine own_no (by rw [ef]; exact own_67 2 _ 2 (by decide) (by decide) h0 (by omega) hz) ?_
    by_cases hc : 194 ≤ (v &&& 255).toInt
    · intro n
      rw [eg hc n, f1_166, if_neg (by rw [Int32.lt_iff_toInt_lt, own_sub h0 h1 h2]; show ¬ (1 : Int) < _; omega)]
    · exact own_bad h1 hv (by omega) (Or.inl (by omega))
  have ei : (i + 1).toInt = i.toInt + 1 := own_add i 1 1 (by decide) h0 (by omega) (by decide) (by decide)
  obtain ⟨w, hw⟩ := own_ld hl (j := i + 1) (by omega) (by omega)
  have ef2 : f3_67 i to (v &&& 255) 2 l = if 128 ≤ (w &&& 255).toInt ∧ (w &&& 255).toInt ≤ 191 then f3_139 i (v &&& 255) 2 (w &&& 255) 0 0 l else some 0 := by
    rw [f3_67, if_neg (by rw [Int32.lt_iff_toInt_lt, own_add i 2 2 (by decide) h0 (by omega) (by decide) (by decide)]; omega), hw]
    show (if (w &&& 255) &&& 192 = 128 then _ else _) = _
    by_cases q : (w &&& 255) &&& 192 = 128
    · rw [if_pos q, if_pos ((own_C w).mp q), if_pos (by decide)]
    · rw [if_neg q, if_neg (fun z => q ((own_C w).mpr z))]
  have eg2 : ∀ k, f1_166 k to i 1 128 191 l = if (w &&& 255).toInt < 128 then some i else if 191 < (w &&& 255).toInt then some i else k to (i + 2) l := by
    intro k
    rw [f1_166, if_pos (by rw [Int32.lt_iff_toInt_lt, own_sub h0 h1 h2]; show (1 : Int) < _; omega), hw]
    show (if (w &&& 255) < 128 then _ else _) = _
    simp only [Int32.lt_iff_toInt_lt, own_206a, Int32.reduceToInt]
  have bw := own_mask w
  have bw1 := bw.1
  have bw2 := bw.2
  by_cases q : 128 ≤ (w &&& 255).toInt ∧ (w &&& 255).toInt ≤ 191
  · have ec : f3 i to l = if (v &&& 255).toInt % 32 * 64 + (w &&& 255).toInt % 64 < 128 ∨ 1114111 < (v &&& 255).toInt % 32 * 64 + (w &&& 255).toInt % 64 ∨ (55296 ≤ (v &&& 255).toInt % 32 * 64 + (w &&& 255).toInt % 64 ∧ (v &&& 255).toInt % 32 * 64 + (w &&& 255).toInt % 64 ≤ 57343) then some 0 else some 2 := by
      rw [ef, ef2, if_pos q, f3_139, if_pos (by decide), f3_170, if_pos rfl, f3_191, own_274 _ _ _ _ 128 (by decide), own_cp2]
    by_cases hc : 194 ≤ (v &&& 255).toInt
    · refine ⟨2, by rw [ec, if_neg (by omega)], Or.inr ⟨by decide, by show _ + (2 : Int) ≤ _; omega, fun n => ?_⟩⟩
      rw [eg hc n, eg2, if_neg (by omega), if_neg (by omega)]
    · exact own_no (by rw [ec, if_pos (by omega)]) (own_bad h1 hv (by omega) (Or.inl (by omega)))
  · refine own_no (by rw [ef, ef2, if_neg q]) ?_
    by_cases hc : 194 ≤ (v &&& 255).toInt
    · intro n
      rw [eg hc n, eg2]
      by_cases r : (w &&& 255).toInt < 128
      · rw [if_pos r]
      · rw [if_neg r, if_pos (by omega)]
    · exact own_bad h1 hv (by omega) (Or.inl (by omega))
theorem own_s3 (hl : l.length = 5) (h0 : 0 ≤ i.toInt) (h1 : i.toInt < to.toInt) (h2 : to.toInt ≤ 5) (hv : ldx l i = some v) (ha : 224 ≤ (v &&& 255).toInt) (hb : (v &&& 255).toInt < 240) : own_S to i l := by
  have ef : f3 i to l = f3_67 i to (v &&& 255) 3 l := by
    simp only [f3, hv, Option.bind_some, Int32.lt_iff_toInt_lt, Int32.reduceToInt]
    rw [if_neg (by omega), if_neg (by omega), if_neg (by omega), if_pos (by omega)]
  have eg : ∃ mn mx : Int32, (∀ n, f1_2 (n + 1) to i l = f1_166 (f1_2 n) to i 2 mn mx l) ∧ mn.toInt = (if (v &&& 255).toInt = 224 then 160 else 128) ∧ mx.toInt = (if (v &&& 255).toInt = 237 then 159 else 191) := by
    have e0 : ∀ n, f1_2 (n + 1) to i l = f1_62 (f1_2 n) to i (v &&& 255) 128 191 l := by
      intro n
      simp only [f1_2, hv, Option.bind_some, Int32.lt_iff_toInt_lt, Int32.reduceToInt]
      rw [if_pos h1, if_neg (by omega), if_neg (by omega), if_pos (by omega)]
    simp only [f1_62, Int32.lt_iff_toInt_lt, ← Int32.toInt_inj (x := v &&& 255), Int32.reduceToInt] at e0
    by_cases q1 : (v &&& 255).toInt = 224
    · refine ⟨160, 191, fun n => ?_, by rw [if_pos q1]; decide, by rw [if_neg (by omega)]; decide⟩
      rw [e0 n, if_neg (by omega), if_neg (by omega), if_pos q1]
    · by_cases q2 : (v &&& 255).toInt = 237
      · refine ⟨128, 159, fun n => ?_, by rw [if_neg q1]; decide, by rw [if_pos q2]; decide⟩
        rw [e0 n, if_neg (by omega), if_neg (by omega), if_neg q1, if_pos q2]
      · refine ⟨128, 191, fun n => ?_, by rw [if_neg q1]; decide, by rw [if_neg q2]; decide⟩
        rw [e0 n, if_neg (by omega), if_neg (by omega), if_neg q1, if_neg q2]
  obtain ⟨mn, mx, eg, emn, emx⟩ := eg
  by_cases hz : to.toInt < i.toInt + 3
  · refine own_no (by rw [ef]; exact own_67 3 _ 3 (by decide) (by decide) h0 (by omega) hz) ?_
    intro n
    rw [eg n, f1_166, if_neg (by rw [Int32.lt_iff_toInt_lt, own_sub h0 h1 h2]; show ¬ (2 : Int) < _; omega)]
  have ei : (i + 1).toInt = i.toInt + 1 := own_add i 1 1 (by decide) h0 (by omega) (by decide) (by decide)
  have ei2 : (i + 2).toInt = i.toInt + 2 := own_add i 2 2 (by decide) h0 (by omega) (by decide) (by decide)
  obtain ⟨w, hw⟩ := own_ld hl (j := i + 1) (by omega) (by omega)
  obtain ⟨x, hx⟩ := own_ld hl (j := i + 2) (by omega) (by omega)
  have ef2 : f3_67 i to (v &&& 255) 3 l = if 128 ≤ (w &&& 255).toInt ∧ (w &&& 255).toInt ≤ 191 then (if 128 ≤ (x &&& 255).toInt ∧ (x &&& 255).toInt ≤ 191 then f3_139 i (v &&& 255) 3 (w &&& 255) (x &&& 255) 0 l else some 0) else some 0 := by
    rw [f3_67, if_neg (by rw [Int32.lt_iff_toInt_lt, own_add i 3 3 (by decide) h0 (by omega) (by decide) (by decide)]; omega), hw]
    show (if (w &&& 255) &&& 192 = 128 then _ else _) = _
    by_cases q : (w &&& 255) &&& 192 = 128
    · rw [if_pos q, if_pos ((own_C w).mp q), if_neg (by decide), hx]
      show (if (x &&& 255) &&& 192 = 128 then _ else _) = _
      by_cases r : (x &&& 255) &&& 192 = 128
      · rw [if_pos r, if_pos ((own_C x).mp r)]
      · rw [if_neg r, if_neg (fun z => r ((own_C x).mpr z))]
    · rw [if_neg q, if_neg (fun z => q ((own_C w).mpr z))]
  have eg2 : ∀ k, f1_166 k to i 2 mn mx l = if (w &&& 255).toInt < mn.toInt then some i else if mx.toInt < (w &&& 255).toInt then some i else if 128 ≤ (x &&& 255).toInt ∧ (x &&& 255).toInt ≤ 191 then k to (i + 3) l else some i := by
    intro k
    rw [f1_166, if_pos (by rw [Int32.lt_iff_toInt_lt, own_sub h0 h1 h2]; show (2 : Int) < _; omega), hw]
    show (if (w &&& 255) < mn then _ else _) = _
    simp only [Int32.lt_iff_toInt_lt, own_206b _ _ _ _ _ hx]
  have bw := own_mask w
  have bw1 := bw.1
  have bw2 := bw.2
  have bx := own_mask x
  have bx1 := bx.1
  have bx2 := bx.2
  rw [emn, emx] at eg2
  by_cases q : 128 ≤ (w &&& 255).toInt ∧ (w &&& 255).toInt ≤ 191
  · by_cases r : 128 ≤ (x &&& 255).toInt ∧ (x &&& 255).toInt ≤ 191
    · have ec : f3 i to l = if (v &&& 255).toInt % 16 * 4096 + (w &&& 255).toInt % 64 * 64 + (x &&& 255).toInt % 64 < 2048 ∨ 1114111 < (v &&& 255).toInt % 16 * 4096 + (w &&& 255).toInt % 64 * 64 + (x &&& 255).toInt % 64 ∨ (55296 ≤ (v &&& 255).toInt % 16 * 4096 + (w &&& 255).toInt % 64 * 64 + (x &&& 255).toInt % 64 ∧ (v &&& 255).toInt % 16 * 4096 + (w &&& 255).toInt % 64 * 64 + (x &&& 255).toInt % 64 ≤ 57343) then some 0 else some 3 := by
        rw [ef, ef2, if_pos q, if_pos r, f3_139, if_pos (by decide), f3_170, if_neg (by decide), if_pos rfl, f3_229, own_274 _ _ _ _ 2048 (by decide), own_cp3]
      generalize (v &&& 255).toInt = a at *
      generalize (w &&& 255).toInt = b at *
      generalize (x &&& 255).toInt = c at *
      by_cases hg : (a = 224 ∧ b < 160) ∨ (a = 237 ∧ 159 < b)
      · refine own_no (by rw [ec, if_pos (by omega)]) (fun n => ?_)
        rw [eg n, eg2]
        rcases hg with hg | hg
        · rw [if_pos (by rw [if_pos hg.1]; exact hg.2)]
        · rw [if_neg (by rw [if_neg (by omega)]; omega), if_pos (by rw [if_pos hg.1]; exact hg.2)]
      · refine ⟨3, by rw [ec, if_neg (by omega)], Or.inr ⟨by decide, by show _ + (3 : Int) ≤ _; omega, fun n => ?_⟩⟩
        rw [eg n, eg2, if_neg (by split <;> omega), if_neg (by split <;> omega), if_pos r]
    · refine own_no (by rw [ef, ef2, if_pos q, if_neg r]) (fun n => ?_)
      rw [eg n, eg2, if_neg r]
      simp only [ite_self]
  · refine own_no (by rw [ef, ef2, if_neg q]) (fun n => ?_)
    rw [eg n, eg2]
    by_cases q1 : (w &&& 255).toInt < 128
    · rw [if_pos (by split <;> omega)]
    · by_cases q2 : (w &&& 255).toInt < (if (v &&& 255).toInt = 224 then 160 else 128)
      · rw [if_pos q2]
      · rw [if_neg q2, if_pos (by split <;> omega)]
theorem own_s4 (hl : l.length = 5) (h0 : 0 ≤ i.toInt) (h1 : i.toInt < to.toInt) (h2 : to.toInt ≤ 5) (hv : ldx l i = some v) (ha : 240 ≤ (v &&& 255).toInt) (hb : (v &&& 255).toInt < 248) : own_S to i l := by
  have ef : f3 i to l = f3_67 i to (v &&& 255) 4 l := by
    simp only [f3, hv, Option.bind_some, Int32.lt_iff_toInt_lt, Int32.reduceToInt]
    rw [if_neg (by omega), if_neg (by omega), if_neg (by omega), if_neg (by omega), if_pos (by omega)]
  by_cases hz : to.toInt < i.toInt + 4
  · refine own_no (by rw [ef]; exact own_67 4 _ 4 (by decide) (by decide) h0 (by omega) hz) ?_
    by_cases hbig : 244 < (v &&& 255).toInt
    · exact own_bad h1 hv (by omega) (Or.inr hbig)
    intro n
    simp only [f1_2, f1_62, f1_113, hv, Option.bind_some, Int32.lt_iff_toInt_lt, ← Int32.toInt_inj (x := v &&& 255), Int32.reduceToInt]
    rw [if_pos h1, if_neg (by omega), if_neg (by omega), if_pos (by omega), if_neg (by omega), if_pos (by omega), if_neg (by omega), if_neg (by omega)]
    have e3 : ∀ k mn mx, f1_166 k to i 3 mn mx l = some i := by
      intro k mn mx
      rw [f1_166, if_neg (by rw [Int32.lt_iff_toInt_lt, own_sub h0 h1 h2]; show ¬ (3 : Int) < _; omega)]
    simp only [e3, ite_self]
  have ei : (i + 1).toInt = i.toInt + 1 := own_add i 1 1 (by decide) h0 (by omega) (by decide) (by decide)
  have ei2 : (i + 2).toInt = i.toInt + 2 := own_add i 2 2 (by decide) h0 (by omega) (by decide) (by decide)
  have ei3 : (i + 3).toInt = i.toInt + 3 := own_add i 3 3 (by decide) h0 (by omega) (by decide) (by decide)
  obtain ⟨w, hw⟩ := own_ld hl (j := i + 1) (by omega) (by omega)
  obtain ⟨x, hx⟩ := own_ld hl (j := i + 2) (by omega) (by omega)
  obtain ⟨y, hy⟩ := own_ld hl (j := i + 3) (by omega) (by omega)
  have ef2 : f3_67 i to (v &&& 255) 4 l = if 128 ≤ (w &&& 255).toInt ∧ (w &&& 255).toInt ≤ 191 then (if 128 ≤ (x &&& 255).toInt ∧ (x &&& 255).toInt ≤ 191 then (if 128 ≤ (y &&& 255).toInt ∧ (y &&& 255).toInt ≤ 191 then f3_170 (v &&& 255) 4 (w &&& 255) (x &&& 255) (y &&& 255) l else some 0) else some 0) else some 0 := by
    rw [f3_67, if_neg (by rw [Int32.lt_iff_toInt_lt, own_add i 4 4 (by decide) h0 (by omega) (by decide) (by decide)]; omega), hw]
    show (if (w &&& 255) &&& 192 = 128 then _ else _) = _
    by_cases q : (w &&& 255) &&& 192 = 128
    · rw [if_pos q, if_pos ((own_C w).mp q), if_neg (by decide), hx]
      show (if (x &&& 255) &&& 192 = 128 then _ else _) = _
      by_cases r : (x &&& 255) &&& 192 = 128
      · rw [if_pos r, if_pos ((own_C x).mp r), f3_139, if_neg (by decide), hy]
        show (if (y &&& 255) &&& 192 = 128 then _ else _) = _
        by_cases t : (y &&& 255) &&& 192 = 128
        · rw [if_pos t, if_pos ((own_C y).mp t)]
        · rw [if_neg t, if_neg (fun z => t ((own_C y).mpr z))]
      · rw [if_neg r, if_neg (fun z => r ((own_C x).mpr z))]
    · rw [if_neg q, if_neg (fun z => q ((own_C w).mpr z))]
  have ec : f3 i to l = if 128 ≤ (w &&& 255).toInt ∧ (w &&& 255).toInt ≤ 191 then (if 128 ≤ (x &&& 255).toInt ∧ (x &&& 255).toInt ≤ 191 then (if 128 ≤ (y &&& 255).toInt ∧ (y &&& 255).toInt ≤ 191 then (if (v &&& 255).toInt % 8 * 262144 + (w &&& 255).toInt % 64 * 4096 + (x &&& 255).toInt % 64 * 64 + (y &&& 255).toInt % 64 < 65536 ∨ 1114111 < (v &&& 255).toInt % 8 * 262144 + (w &&& 255).toInt % 64 * 4096 + (x &&& 255).toInt % 64 * 64 + (y &&& 255).toInt % 64 ∨ (55296 ≤ (v &&& 255).toInt % 8 * 262144 + (w &&& 255).toInt % 64 * 4096 + (x &&& 255).toInt % 64 * 64 + (y &&& 255).toInt % 64 ∧ (v &&& 255).toInt % 8 * 262144 + (w &&& 255).toInt % 64 * 4096 + (x &&& 255).toInt % 64 * 64 + (y &&& 255).toInt % 64 ≤ 57343) then some 0 else some 4) else some 0) else some 0) else some 0 := by
    have e170 : ∀ A B C D, f3_170 A 4 B C D l = if A.toInt % 8 * 262144 + B.toInt % 64 * 4096 + C.toInt % 64 * 64 + D.toInt % 64 < 65536 ∨ 1114111 < A.toInt % 8 * 262144 + B.toInt % 64 * 4096 + C.toInt % 64 * 64 + D.toInt % 64 ∨ (55296 ≤ A.toInt % 8 * 262144 + B.toInt % 64 * 4096 + C.toInt % 64 * 64 + D.toInt % 64 ∧ A.toInt % 8 * 262144 + B.toInt % 64 * 4096 + C.toInt % 64 * 64 + D.toInt % 64 ≤ 57343) then some 0 else some 4 := by
      intro A B C D
      rw [f3_170, if_neg (by decide), if_neg (by decide), f3_270, own_274 _ _ _ _ 65536 (by decide), own_cp4]
    rw [ef, ef2, e170]
  have bw := own_mask w
  have bw1 := bw.1
  have bw2 := bw.2
  by_cases hbig : 244 < (v &&& 255).toInt
  · refine own_no ?_ (own_bad h1 hv (by omega) (Or.inr hbig))
    rw [ec]
    generalize (v &&& 255).toInt = a at *
    generalize (w &&& 255).toInt = b at *
    generalize (x &&& 255).toInt = c at *
    generalize (y &&& 255).toInt = d at *
    by_cases q : 128 ≤ b ∧ b ≤ 191
    · by_cases r : 128 ≤ c ∧ c ≤ 191
      · by_cases s : 128 ≤ d ∧ d ≤ 191
        · rw [if_pos q, if_pos r, if_pos s, if_pos (by omega)]
        · rw [if_pos q, if_pos r, if_neg s]
      · rw [if_pos q, if_neg r]
    · rw [if_neg q]
  have eg : ∃ mn mx : Int32, (∀ n, f1_2 (n + 1) to i l = f1_166 (f1_2 n) to i 3 mn mx l) ∧ mn.toInt = (if (v &&& 255).toInt = 240 then 144 else 128) ∧ mx.toInt = (if (v &&& 255).toInt = 244 then 143 else 191) := by
    have e0 : ∀ n, f1_2 (n + 1) to i l = f1_113 (f1_2 n) to i (v &&& 255) 128 191 l := by
      intro n
      simp only [f1_2, f1_62, hv, Option.bind_some, Int32.lt_iff_toInt_lt, ← Int32.toInt_inj (x := v &&& 255), Int32.reduceToInt]
      rw [if_pos h1, if_neg (by omega), if_neg (by omega), if_pos (by omega), if_neg (by omega), if_pos (by omega)]
    simp only [f1_113, Int32.lt_iff_toInt_lt, ← Int32.toInt_inj (x := v &&& 255), Int32.reduceToInt] at e0
    by_cases q1 : (v &&& 255).toInt = 240
    · refine ⟨144, 191, fun n => ?_, by rw [if_pos q1]; decide, by rw [if_neg (by omega)]; decide⟩
      rw [e0 n, if_neg (by omega), if_neg (by omega), if_pos q1]
    · by_cases q2 : (v &&& 255).toInt = 244
      · refine ⟨128, 143, fun n => ?_, by rw [if_neg q1]; decide, by rw [if_pos q2]; decide⟩
        rw [e0 n, if_neg (by omega), if_neg (by omega), if_neg q1, if_pos q2]
      · refine ⟨128, 191, fun n => ?_, by rw [if_neg q1]; decide, by rw [if_neg q2]; decide⟩
        rw [e0 n, if_neg (by omega), if_neg (by omega), if_neg q1, if_neg q2]
  obtain ⟨mn, mx, eg, emn, emx⟩ := eg
  have eg2 : ∀ k, f1_166 k to i 3 mn mx l = if (w &&& 255).toInt < mn.toInt then some i else if mx.toInt < (w &&& 255).toInt then some i else if 128 ≤ (x &&& 255).toInt ∧ (x &&& 255).toInt ≤ 191 then (if 128 ≤ (y &&& 255).toInt ∧ (y &&& 255).toInt ≤ 191 then k to (i + 4) l else some i) else some i := by
    intro k
    rw [f1_166, if_pos (by rw [Int32.lt_iff_toInt_lt, own_sub h0 h1 h2]; show (3 : Int) < _; omega), hw]
    show (if (w &&& 255) < mn then _ else _) = _
    simp only [Int32.lt_iff_toInt_lt, own_206c _ _ _ _ _ _ hx hy]
  rw [emn, emx] at eg2
  generalize (v &&& 255).toInt = a at *
  generalize (w &&& 255).toInt = b at *
  generalize (x &&& 255).toInt = c at *
  generalize (y &&& 255).toInt = d at *
  by_cases q : 128 ≤ b ∧ b ≤ 191
  · by_cases r : 128 ≤ c ∧ c ≤ 191
    · by_cases s : 128 ≤ d ∧ d ≤ 191
      · rw [if_pos q, if_pos r, if_pos s] at ec
        simp only [if_pos r, if_pos s] at eg2
        by_cases hg : (a = 240 ∧ b < 144) ∨ (a = 244 ∧ 143 < b)
        · refine own_no (by rw [ec, if_pos (by omega)]) (fun n => ?_)
          rw [eg n, eg2]
          rcases hg with hg | hg
          · rw [if_pos (by rw [if_pos hg.1]; exact hg.2)]
          · rw [if_neg (by rw [if_neg (by omega)]; omega), if_pos (by rw [if_pos hg.1]; exact hg.2)]
        · refine ⟨4, by rw [ec, if_neg (by omega)], Or.inr ⟨by decide, by show _ + (4 : Int) ≤ _; omega, fun n => ?_⟩⟩
          rw [eg n, eg2, if_neg (by split <;> omega), if_neg (by split <;> omega)]
      · rw [if_pos q, if_pos r, if_neg s] at ec
        refine own_no ec (fun n => ?_)
        rw [eg n, eg2, if_neg s]
        simp only [ite_self]
    · rw [if_pos q, if_neg r] at ec
      refine own_no ec (fun n => ?_)
      rw [eg n, eg2, if_neg r]
      simp only [ite_self]
  · rw [if_neg q] at ec
    refine own_no ec (fun n => ?_)
    rw [eg n, eg2]
    by_cases q2 : b < (if a = 240 then 144 else 128)
    · rw [if_pos q2]
    · rw [if_neg q2, if_pos (by
        by_cases q1 : b < 128
        · exfalso; apply q2; split <;> omega
        · split <;> omega)]
theorem own_step (hl : l.length = 5) (h0 : 0 ≤ i.toInt) (h1 : i.toInt < to.toInt) (h2 : to.toInt ≤ 5) : own_S to i l := by
  obtain ⟨v, hv⟩ := own_ld hl (j := i) h0 (by omega)
  have b := own_mask v
  have b1 := b.1
  have b2 := b.2
  by_cases c1 : (v &&& 255).toInt < 128
  · exact own_s1 h1 hv c1
  by_cases c2 : (v &&& 255).toInt < 192
  · refine own_no ?_ (own_bad h1 hv (by omega) (Or.inl (by omega)))
    simp only [f3, hv, Option.bind_some, Int32.lt_iff_toInt_lt, Int32.reduceToInt]
    rw [if_neg (by omega), if_pos (by omega)]
  by_cases c3 : (v &&& 255).toInt < 224
  · exact own_s2 hl h0 h1 h2 hv (by omega) c3
  by_cases c4 : (v &&& 255).toInt < 240
  · exact own_s3 hl h0 h1 h2 hv (by omega) c4
  by_cases c5 : (v &&& 255).toInt < 248
  · exact own_s4 hl h0 h1 h2 hv (by omega) c5
  · refine own_no ?_ (own_bad h1 hv (by omega) (Or.inr (by omega)))
    simp only [f3, hv, Option.bind_some, Int32.lt_iff_toInt_lt, Int32.reduceToInt]
    rw [if_neg (by omega), if_neg (by omega), if_neg (by omega), if_neg (by omega), if_neg (by omega)]
end
/-- the reference, turn by turn -/
def own_rf (to : Int32) (l : List Int32) : Nat → Int32 → Option Int32
  | 0, _ => some (-1)
  | k + 1, i => if i < to then (f3 i to l).bind fun o => if o = 0 then some i else own_rf to l k (i + o) else some (-1)
theorem own_f2 (i to : Int32) (l : List Int32) : f2 i to l = own_rf to l 5 i := rfl
theorem own_same (l : List Int32) (to : Int32) (hl : l.length = 5) (h2 : to.toInt ≤ 5) : ∀ (k n : Nat) (i : Int32), 0 ≤ i.toInt → i.toInt ≤ 5 → to.toInt - i.toInt ≤ k → k < n → ∃ r, f1_2 n to i l = some r ∧ own_rf to l k i = some r := by
  intro k
  induction k with
  | zero =>
    intro n i h0 h5 hk hn
    obtain ⟨m, rfl⟩ : ∃ m, n = m + 1 := ⟨n - 1, by omega⟩
    refine ⟨-1, ?_, rfl⟩
    rw [f1_2, if_neg (by rw [Int32.lt_iff_toInt_lt]; omega)]
  | succ k ih =>
    intro n i h0 h5 hk hn
    obtain ⟨m, rfl⟩ : ∃ m, n = m + 1 := ⟨n - 1, by omega⟩
    by_cases h1 : i.toInt < to.toInt
    · obtain ⟨L, e1, e2⟩ := own_step hl h0 h1 h2
      rcases e2 with ⟨rfl, e2⟩ | ⟨e2, e3, e4⟩
      · refine ⟨i, e2 m, ?_⟩
        rw [own_rf, if_pos (by rw [Int32.lt_iff_toInt_lt]; exact h1), e1]; rfl
      · have ea : (i + L).toInt = i.toInt + L.toInt := own_add i L _ rfl h0 (by omega) (by omega) (by omega)
        obtain ⟨r, r1, r2⟩ := ih m (i + L) (by omega) (by omega) (by omega) (by omega)
        refine ⟨r, by rw [e4 m]; exact r1, ?_⟩
        rw [own_rf, if_pos (by rw [Int32.lt_iff_toInt_lt]; exact h1), e1]
        show (if L = 0 then _ else _) = _
        rw [if_neg (by intro z; subst z; exact absurd e2 (by decide))]
        exact r2
    · refine ⟨-1, ?_, ?_⟩
      · rw [f1_2, if_neg (by rw [Int32.lt_iff_toInt_lt]; exact h1)]
      · rw [own_rf, if_neg (by rw [Int32.lt_iff_toInt_lt]; exact h1)]
theorem law_ok (a b c d e f : Int32) : f0 a b c d e f = some 1 := by
  have m1 : (f &&& 7).toInt = f.toInt % (2 ^ 3 : Nat) := c_mask f 7 3 (by decide) (by decide)
  have m2 : ((f.toUInt32 >>> ((3 : Int32) &&& 31).toUInt32).toInt32 &&& 7).toInt = (f.toUInt32 >>> ((3 : Int32) &&& 31).toUInt32).toInt32.toInt % (2 ^ 3 : Nat) := c_mask _ 7 3 (by decide) (by decide)
  have e1 := (c_irem (f &&& 7) 6 6 (by decide)).1 (by omega)
  unfold f0
  generalize (f &&& 7) % 6 = i at *
  have e2 : (6 - i).toInt = 6 - i.toInt := XT.sub32 ⟨by show _ ≤ (6 : Int) - _; omega, by show (6 : Int) - _ < _; omega⟩
  have e3 := (c_irem ((f.toUInt32 >>> ((3 : Int32) &&& 31).toUInt32).toInt32 &&& 7) (6 - i) (6 - i.toInt) e2).1 (by omega)
  generalize ((f.toUInt32 >>> ((3 : Int32) &&& 31).toUInt32).toInt32 &&& 7) = z at *
  have hz : 0 ≤ z.toInt ∧ z.toInt ≤ 7 := by omega
  have hi : 0 ≤ i.toInt ∧ i.toInt ≤ 5 := by omega
  have e4 : 0 ≤ (z % (6 - i)).toInt ∧ (z % (6 - i)).toInt < 6 - i.toInt := by
    rw [e3]
    exact ⟨Int.emod_nonneg _ (by omega), Int.emod_lt_of_pos _ (by omega)⟩
  rw [if_neg (by rw [← Int32.toInt_inj, e2]; have : (0 : Int32).toInt = 0 := by decide
                 omega)]
  have e5 : (i + z % (6 - i)).toInt = i.toInt + (z % (6 - i)).toInt := own_add i _ _ rfl (by omega) (by omega) (by omega) (by omega)
  generalize i + z % (6 - i) = to at *
  unfold f0_64
  obtain ⟨r, r1, r2⟩ := own_same [(a.toInt8.toInt32).toInt8.toInt32, (b.toInt8.toInt32).toInt8.toInt32, (c.toInt8.toInt32).toInt8.toInt32, (d.toInt8.toInt32).toInt8.toInt32, (e.toInt8.toInt32).toInt8.toInt32] to rfl (by omega) 5 8 i hi.1 hi.2 (by omega) (by omega)
  rw [own_f2, f1, r1, r2]
  simp only [Option.bind_some, if_true]
set_option maxRecDepth 65536 in
set_option maxHeartbeats 40000000 in
theorem comes_1 {Post : Tables → Env → Array Value → State → Outcome → State → Prop} (hpost : ∀ tb e args s v u, (limb_1_1.after args s (.returned v) u = true ∧ limb_1_2.after args s (.returned v) u = true ∧ True) → FrameEnd s (.returned v) u (Jvm.fieldLocs frame_1_writes args s ++ Jvm.arrayLocs frame_1_arrays args s ++ Jvm.staticLocs frame_1_statics s) 16 128 → Post tb e args s (.returned v) u) :
    ArmFor flags0 classFile x code maxLocals ret World_1 tables_1 room_1 Calls_1 rest_1 Pre_1 Post := by
  intro l hfl _ _ p e ha hc hk s m args below hf hA hF happ hP
  obtain ⟨hcalls, hrest, hpre⟩ := hP
  obtain ⟨-, -, -, hnamed, -, -, -, hat⟩ := (Spec.applies_iff hf).mp happ
  obtain ⟨hg, hn⟩ := and_e (Cond.before_iff.mp (show (Jvm.Cond.and given_1 narrow_1).before args s = true from hpre))
  obtain ⟨g1, g2⟩ := and_e hg
  obtain ⟨g3, g4⟩ := and_e g2
  obtain ⟨g5, g6⟩ := and_e g4
  obtain ⟨g7, g8⟩ := and_e g6
  obtain ⟨g9, g10⟩ := and_e g8
  obtain ⟨g11, g12⟩ := and_e g10
  obtain ⟨w0, w1, w2, w3, w4, w5, rfl⟩ : ∃ w0 w1 w2 w3 w4 w5 : Value, args = #[w0, w1, w2, w3, w4, w5] := by
    have hs : args.size = 6 := by simpa [Cond.value, given_1] using g1
    obtain ⟨L⟩ := args
    match L, hs with
    | [w0, w1, w2, w3, w4, w5], _ => exact ⟨w0, w1, w2, w3, w4, w5, rfl⟩
  have hw := fun d (hd : d ∈ tables_1) => atoms_spec (ws := Jvm.Cond.code x code maxLocals ret :: tables_1) hat d (List.mem_cons_of_mem _ hd)
  obtain ⟨i0, ei0⟩ := is_v g3
  obtain rfl : w0 = (.int i0) := Option.some.inj ei0
  obtain ⟨i1, ei1⟩ := is_v g5
  obtain rfl : w1 = (.int i1) := Option.some.inj ei1
  obtain ⟨i2, ei2⟩ := is_v g7
  obtain rfl : w2 = (.int i2) := Option.some.inj ei2
  obtain ⟨i3, ei3⟩ := is_v g9
  obtain rfl : w3 = (.int i3) := Option.some.inj ei3
  obtain ⟨i4, ei4⟩ := is_v g11
  obtain rfl : w4 = (.int i4) := Option.some.inj ei4
  obtain ⟨i5, ei5⟩ := is_v g12
  obtain rfl : w5 = (.int i5) := Option.some.inj ei5
  obtain ⟨n, o, h1, h2, h3, _, L, rfl, ⟨rfl, N⟩, hq⟩ := rm0 l s _ hw tables_1 i0 i1 i2 i3 i4 i5 s.heap s.heap.size 1 (law_ok i0 i1 i2 i3 i4 i5) (Old.start s) p e ha hc hk s m _ below hf ((Spec.applies_iff_loose hf).mp happ).1 ⟨rfl, State.Warmed39.refl s, rfl⟩ trivial
  have hv : (1 : Int32) = 1 := rfl
  refine ⟨n, _, h1, h2, h3, hpost _ _ _ _ _ _ ⟨Cond.after_iff.mpr rfl, Cond.after_iff.mpr (eq_i res_at (Term.int_eval (1)) (congrArg Value.int hv)), trivial⟩ ⟨hq.1, hq.2.1, (hq.2.2.sift fun y hy => Or.inr (N y hy)).mono (by decide) (by decide)⟩⟩
theorem main_1_1 : Claimed_1_1 := comes_1 fun _ _ _ _ _ _ h hF => ⟨h.1, hF⟩
theorem main_1_2 : Claimed_1_2 := comes_1 fun _ _ _ _ _ _ h hF => ⟨h.2.1, hF⟩
end Jvm.Pilot.@@N@@
namespace Jvm.Pilot.@@N@@
open Jvm Jvm.ClassFile Sem Op Lib Jvm.Free Jvm.Stand Jvm.Pilot.@@N@@.Jvm.D
/-! MADE BY PROGRAM (witnessworld.py) out of the Statement's table words and the real class files: 9 classes; the members and pool entries that the words name. The judged class is class 1, her method 1. -/
namespace start1
open Jvm.ClassFile
def u (s : String) : CpInfo := .utf8 (stringToUtf16 s)
/-- a pool by its gaps: so many unusable entries, then the entry; so many at the end -/
def gap : Nat → List CpInfo → List CpInfo
  | 0, r => r
  | n + 1, r => .unusable :: gap n r
def poolList (es : List (Nat × CpInfo)) (last : Nat) : List CpInfo := es.foldr (fun e r => gap e.1 (e.2 :: r)) (gap last [])
def pool (es : List (Nat × CpInfo)) (last : Nat) : Array CpInfo := ⟨poolList es last⟩
def fileOf (pool : Array CpInfo) (this : Nat) (attrs : Array Attribute := #[]) (ms : Array MethodInfo := #[]) (fl : Nat := 33) (sup : Nat := 0) (ifs : Array Nat := #[]) (fds : Array FieldInfo := #[]) : ClassFile where
  minorVersion := 0
  majorVersion := 65
  constantPool := pool
  accessFlags := fl
  thisClass := this
  superClass := sup
  interfaces := ifs
  fields := fds
  methods := ms
  attributes := attrs
def plain (name : String) (sup : Option ClassId) : Class where
  name := name
  kind := .ordinary
  loader := none
  accessFlags := 33
  super := sup
  interfaces := #[]
  cf := none
  fields := #[]
  methods := #[]
  instanceTypes := #[]
  staticTypes := #[]
  resolved := #[]
  callSites := []
  init := .initialized
  statics := none
  mirror := none

def pool0 : Array CpInfo := pool [(5, u "<init>"), (0, u "()V"), (1, .class_ 10), (1, u "java/lang/Object")] 113

def k0m0 : Method := { name := "<init>", desc := "()V", sig := { parameters := [], returnType := none }, accessFlags := 1, code := none }
/-- java/lang/Object -/
def k0 : Class := { plain "java/lang/Object" none with
  accessFlags := 33
  interfaces := #[]
  cf := some (fileOf pool0 8 #[] #[{ accessFlags := 1, nameIndex := 5, descriptorIndex := 6, attributes := #[] }] 33 0 #[] #[])
  fields := #[]
  methods := #[k0m0]
  instanceTypes := #[]
  staticTypes := #[]
  resolved := Array.replicate 124 none
  statics := none }

def pool1 : Array CpInfo := pool [(2, .class_ 4), (1, u "java/lang/Object"), (0, u "<init>"), (0, u "()V"), (0, .methodref 8 9), (0, .class_ 10), (0, .nameAndType 11 12), (0, u "com/example/ninewire/ninewire/Utf8"), (0, u "firstMalformed"), (0, u "([BII)I"), (0, .methodref 14 15), (0, .class_ 16), (0, .nameAndType 17 12), (0, u "com/example/ninewire/ninewire/Utf8FirstMalformedPinLaw"), (0, u "reference"), (0, .methodref 14 19), (0, .nameAndType 20 12), (0, u "wellLen"), (0, .integer 65536), (0, .integer 1114111), (0, .integer 55296), (0, .integer 57343), (2, u "law"), (0, u "(IIIIII)Z")] 5

def k1m0 : Method := { name := "<init>", desc := "()V", sig := { parameters := [], returnType := none }, accessFlags := 2, code := none }
def k1c1 : Code := { maxStack := 4, maxLocals := 10, code := code, exceptionTable := #[], attributes := #[] }
def k1m1 : Method := { name := "law", desc := "(IIIIII)Z", sig := { parameters := [.int, .int, .int, .int, .int, .int], returnType := some .boolean }, accessFlags := 9, code := some k1c1 }
def k1c2 : Code := { maxStack := 3, maxLocals := 5, code := method_3_code, exceptionTable := #[], attributes := #[] }
def k1m2 : Method := { name := "reference", desc := "([BII)I", sig := { parameters := [(.array .byte), .int, .int], returnType := some .int }, accessFlags := 10, code := some k1c2 }
def k1c3 : Code := { maxStack := 3, maxLocals := 10, code := method_4_code, exceptionTable := #[], attributes := #[] }
def k1m3 : Method := { name := "wellLen", desc := "([BII)I", sig := { parameters := [(.array .byte), .int, .int], returnType := some .int }, accessFlags := 10, code := some k1c3 }
/-- com/example/ninewire/ninewire/Utf8FirstMalformedPinLaw -/
def k1 : Class := { plain "com/example/ninewire/ninewire/Utf8FirstMalformedPinLaw" (some 0) with
  accessFlags := 49
  interfaces := #[]
  cf := some (fileOf pool1 14 #[] #[{ accessFlags := 2, nameIndex := 5, descriptorIndex := 6, attributes := #[] }, { accessFlags := 9, nameIndex := 27, descriptorIndex := 28, attributes := #[] }, { accessFlags := 10, nameIndex := 17, descriptorIndex := 12, attributes := #[] }, { accessFlags := 10, nameIndex := 20, descriptorIndex := 12, attributes := #[] }] 49 2 #[] #[])
  fields := #[]
  methods := #[k1m0, k1m1, k1m2, k1m3]
  instanceTypes := #[]
  staticTypes := #[]
  resolved := Array.replicate 34 none
  statics := none }

def pool2 : Array CpInfo := pool [(2, .class_ 4), (1, u "java/lang/Object"), (0, u "<init>"), (0, u "()V"), (50, .class_ 59), (1, u "com/example/ninewire/ninewire/Utf8"), (14, u "firstMalformed"), (0, u "([BII)I")] 4

def k2m0 : Method := { name := "<init>", desc := "()V", sig := { parameters := [], returnType := none }, accessFlags := 2, code := none }
def k2c1 : Code := { maxStack := 3, maxLocals := 10, code := prog_86_method_7_code, exceptionTable := #[], attributes := #[] }
def k2m1 : Method := { name := "firstMalformed", desc := "([BII)I", sig := { parameters := [(.array .byte), .int, .int], returnType := some .int }, accessFlags := 8, code := some k2c1 }
/-- com/example/ninewire/ninewire/Utf8 -/
def k2 : Class := { plain "com/example/ninewire/ninewire/Utf8" (some 0) with
  accessFlags := 48
  interfaces := #[]
  cf := some (fileOf pool2 57 #[] #[{ accessFlags := 2, nameIndex := 5, descriptorIndex := 6, attributes := #[] }, { accessFlags := 8, nameIndex := 74, descriptorIndex := 75, attributes := #[] }] 48 2 #[] #[])
  fields := #[]
  methods := #[k2m0, k2m1]
  instanceTypes := #[]
  staticTypes := #[]
  resolved := Array.replicate 80 none
  statics := none }

def pool3 : Array CpInfo := pool [(1, u "java/lang/Cloneable"), (0, .class_ 1), (0, u "java/lang/Object"), (0, .class_ 3)] 3

/-- java/lang/Cloneable -/
def k3 : Class := { plain "java/lang/Cloneable" (some 0) with
  accessFlags := 1537
  interfaces := #[]
  cf := some (fileOf pool3 2 #[] #[] 1537 4 #[] #[])
  fields := #[]
  methods := #[]
  instanceTypes := #[]
  staticTypes := #[]
  resolved := Array.replicate 8 none
  statics := none }

def pool4 : Array CpInfo := pool [(1, u "java/io/Serializable"), (0, .class_ 1), (0, u "java/lang/Object"), (0, .class_ 3)] 3

/-- java/io/Serializable -/
def k4 : Class := { plain "java/io/Serializable" (some 0) with
  accessFlags := 1537
  interfaces := #[]
  cf := some (fileOf pool4 2 #[] #[] 1537 4 #[] #[])
  fields := #[]
  methods := #[]
  instanceTypes := #[]
  staticTypes := #[]
  resolved := Array.replicate 8 none
  statics := none }

/-- the primitive byte -/
def k5 : Class := { plain "byte" none with kind := .primitive 'B', accessFlags := 0x411 }
/-- [B -/
def k6 : Class := { plain "[B" (some 0) with kind := .array 5 .byte, interfaces := #[3, 4], accessFlags := 1041 }

/-- the primitive int -/
def k7 : Class := { plain "int" none with kind := .primitive 'I', accessFlags := 0x411 }
/-- [I -/
def k8 : Class := { plain "[I" (some 0) with kind := .array 7 .int, interfaces := #[3, 4], accessFlags := 1041 }

def heap : Heap := #[]
def classes : Array Class := #[k0, k1, k2, k3, k4, k5, k6, k7, k8]
def interned : List (Array UInt16 × Addr) := []
def slotsUsed : Nat := 0
def theMethod : MethodId := ⟨1, 1⟩
def args0 : Array Value := #[.int 5, .int 7, .int 3, .int 9, .int 11, .int 2]
def aboutOver (below : List Frame) : State where
  vm := { classes := classes, interned := interned.toArray }
  heap := heap
  slotsUsed := slotsUsed
  threads := #[{ frames := .invoking theMethod args0 :: below }]
def below0 : List Frame := [.native { method := ⟨0, 0⟩, args := #[] }]
def about1 : State := aboutOver below0
def p0 : Program := .bare "" "" ""
def e0 : Env := launch0.env 0 0 0
theorem w_frames : about1.frames = Frame.invoking theMethod args0 :: below0 := rfl
set_option maxRecDepth 65536 in
theorem w_args : argsFit about1.vm theMethod args0 = true := by decide +kernel
set_option maxRecDepth 65536 in
theorem w_heap : heapFits about1 = true := by decide +kernel
set_option maxRecDepth 65536 in
theorem w_runnable : about1.curStatus? = some .runnable := by decide +kernel
set_option maxRecDepth 65536 in
theorem w_alone : about1.alone = true := by decide +kernel
set_option maxRecDepth 65536 in
theorem w_named : about1.methodNamed? x = some theMethod := by decide +kernel
set_option maxRecDepth 65536 in
theorem w_hears : about1.hears theMethod below0 = true := by decide +kernel
set_option maxRecDepth 65536 in
theorem w_ripe : about1.ripe theMethod args0 below0 = true := by decide +kernel
theorem w_running : about1.status = .running := rfl
set_option maxRecDepth 65536 in
theorem w_room : about1.hasRoom e0.platform room_1 = true :=
  launch0.hasRoom_least _ room_1 (by decide +kernel) (by decide +kernel) (by decide +kernel) (by decide +kernel) (by decide +kernel) (by decide +kernel)
theorem allAtoms_all (ts : List Jvm.Cond) (a : Array Jvm.Value) (st : Jvm.State) : (allAtoms ts).before a st = ts.all (fun c => c.before a st) := by
  induction ts with
  | nil => rfl
  | cons c t ih =>
    show (Jvm.Cond.and c (allAtoms t)).before a st = _
    rw [Jvm.Cond.before_and, ih, List.all_cons]
def words1 : List Jvm.Cond := Jvm.Cond.code x code maxLocals ret :: tables_1
/-- a 'code' word, met by the world's own term for the bytes: nothing is compared byte by byte -/
theorem code_word {y : MethodName} {bytes : ByteArray} {mx : Nat} {rt : Option FieldType} {a : Array Value} {s : State} {m : MethodId} {meth : Method} {c : Code} (h1 : s.methodNamed? y = some m) (h2 : s.vm.method? m = some meth) (h3 : meth.code = some c) (h4 : c.code = bytes)
    (h5 : (c.maxLocals == mx && c.exceptionTable.isEmpty && decide (c.maxStack ≤ mostOperands) && decide (meth.sig.returnType = rt) && !meth.locks && decide (parseMethodDescriptor y.desc = some meth.sig)) = true) : (Jvm.Cond.code y bytes mx rt).before a s = true := by
  simp only [Bool.and_eq_true, beq_iff_eq, Bool.not_eq_true', decide_eq_true_eq] at h5
  obtain ⟨⟨⟨⟨⟨g1, g2⟩, g3⟩, g4⟩, g5⟩, g6⟩ := h5
  simp [Cond.before, Cond.holds, Cond.value, h1, h2, h3, h4, g1, g2, g3, g4, g5, g6]
def isCode : Jvm.Cond → Bool
  | .code _ _ _ _ => true
  | _ => false
theorem all_split {L : List Jvm.Cond} {P : Jvm.Cond → Bool} (h1 : L.all (fun c => isCode c || P c) = true) (h2 : ∀ c ∈ L.filter isCode, P c = true) : L.all P = true := by
  refine List.all_eq_true.mpr fun c hc => ?_
  have h := List.all_eq_true.mp h1 c hc
  rcases Bool.eq_false_or_eq_true (isCode c) with hi | hi
  · exact h2 c (List.mem_filter.mpr ⟨hc, hi⟩)
  · simpa [hi] using h
set_option maxRecDepth 65536 in
theorem w_c0 : (Jvm.Cond.code x code maxLocals ret).before args0 about1 = true := code_word (m := ⟨1, 1⟩) (meth := k1m1) (c := k1c1) (by decide +kernel) rfl rfl rfl (by decide +kernel)
set_option maxRecDepth 65536 in
theorem w_c1 : (Jvm.Cond.code ({ cls := "com/example/ninewire/ninewire/Utf8", name := "firstMalformed", desc := "([BII)I" } : Jvm.MethodName) prog_86_method_7_code (10 : Nat) (Option.some Jvm.ClassFile.FieldType.int)).before args0 about1 = true := code_word (m := ⟨2, 1⟩) (meth := k2m1) (c := k2c1) (by decide +kernel) rfl rfl rfl (by decide +kernel)
set_option maxRecDepth 65536 in
theorem w_c2 : (Jvm.Cond.code ({ cls := "com/example/ninewire/ninewire/Utf8FirstMalformedPinLaw", name := "reference", desc := "([BII)I" } : Jvm.MethodName) method_3_code (5 : Nat) (Option.some Jvm.ClassFile.FieldType.int)).before args0 about1 = true := code_word (m := ⟨1, 2⟩) (meth := k1m2) (c := k1c2) (by decide +kernel) rfl rfl rfl (by decide +kernel)
set_option maxRecDepth 65536 in
theorem w_c3 : (Jvm.Cond.code ({ cls := "com/example/ninewire/ninewire/Utf8FirstMalformedPinLaw", name := "wellLen", desc := "([BII)I" } : Jvm.MethodName) method_4_code (10 : Nat) (Option.some Jvm.ClassFile.FieldType.int)).before args0 about1 = true := code_word (m := ⟨1, 3⟩) (meth := k1m3) (c := k1c3) (by decide +kernel) rfl rfl rfl (by decide +kernel)
def codes1 : List Jvm.Cond := [Jvm.Cond.code x code maxLocals ret, Jvm.Cond.code ({ cls := "com/example/ninewire/ninewire/Utf8", name := "firstMalformed", desc := "([BII)I" } : Jvm.MethodName) prog_86_method_7_code (10 : Nat) (Option.some Jvm.ClassFile.FieldType.int), Jvm.Cond.code ({ cls := "com/example/ninewire/ninewire/Utf8FirstMalformedPinLaw", name := "reference", desc := "([BII)I" } : Jvm.MethodName) method_3_code (5 : Nat) (Option.some Jvm.ClassFile.FieldType.int), Jvm.Cond.code ({ cls := "com/example/ninewire/ninewire/Utf8FirstMalformedPinLaw", name := "wellLen", desc := "([BII)I" } : Jvm.MethodName) method_4_code (10 : Nat) (Option.some Jvm.ClassFile.FieldType.int)]
set_option maxRecDepth 65536 in
theorem codes_eq : words1.filter isCode = codes1 := rfl
theorem w_codes : ∀ c ∈ words1.filter isCode, c.before args0 about1 = true := by
  rw [codes_eq]
  intro c hc
  simp only [codes1, List.mem_cons, List.not_mem_nil, or_false] at hc
  rcases hc with rfl | rfl | rfl | rfl
  · exact w_c0
  · exact w_c1
  · exact w_c2
  · exact w_c3
set_option maxRecDepth 65536 in
theorem w_t1 : words1.all (fun c => isCode c || c.before args0 about1) = true := by decide +kernel
theorem w_tables : (allAtoms (Jvm.Cond.code x code maxLocals ret :: tables_1)).before args0 about1 = true := by
  rw [allAtoms_all]
  show words1.all (fun c => c.before args0 about1) = true
  refine all_split ?_ w_codes
  rw [w_t1]
set_option maxRecDepth 65536 in
theorem w_case : (Jvm.Cond.and given_1 narrow_1).before args0 about1 = true := by decide +kernel
theorem w_applies : (headSpec (Jvm.Cond.code x code maxLocals ret :: tables_1) room_1).applies x e0.platform about1 = true :=
  (Spec.applies_iff w_frames).mpr ⟨w_running, w_runnable, w_alone, w_named, w_hears, w_ripe, w_room, w_tables⟩
theorem atStart : AtStart classFile x code maxLocals ret World_1 tables_1 room_1 Calls_1 rest_1 Pre_1 launch0 p0 e0 about1 theMethod args0 below0 :=
  ⟨lists_1, trivial, launch0.admits_env _ _ _, launch0.least_env, fairChoices_fair.cas, fairChoices_fair.clock, w_frames, w_args, w_heap, w_applies, trivial, trivial, w_case⟩
end start1
theorem witness_1 : WitnessClaimed_1 := ⟨start1.p0, start1.e0, start1.about1, start1.theMethod, start1.args0, start1.below0, start1.atStart⟩
end Jvm.Pilot.@@N@@
