import JvmDerived
import JvmDerived.Pilot.@@N@@Statement
import JvmDerived.Pilot.@@N@@Code
set_option linter.unusedVariables false
set_option linter.unusedSimpArgs false
namespace Jvm.RoadKit
open Sem ClassFile Op Lib Jvm.Stand Jvm.Free Jvm.LawKit
section Own
variable {p : Program} {l : Launch} {e : Env} {R : Room} {s : State} {m : MethodId} {args : Array Value} {below : List Frame} {meth : Method} {c : Code} {T : State} {locs : List Loc} {cells slots : Nat} {k n : Nat} {Q : Option Value → Heap → List Loc → Prop} {W W' : State} {Z : State} {a0 : Array Value} {h : Heap}
/-- the run from W comes back, with what Q says -/
def OwnOut (p : Program) (e : Env) (s : State) (below : List Frame) (k n : Nat) (Q : Option Value → Heap → List Loc → Prop) (W : State) : Prop :=
  ∃ s₂ o, Steps p.tables e below W s₂ ∧ s₂.status = .running ∧ Ended s₂ below o ∧ ∃ v L, o = .returned v ∧ Q v s₂.heap L ∧ FrameEnd s o s₂ L k n
theorem OwnOut.go (h : ∀ t, Steps p.tables e below W' t → Steps p.tables e below W t) (H : OwnOut p e s below k n Q W') : OwnOut p e s below k n Q W := by
  obtain ⟨s₂, o, h1, h2⟩ := H
  exact ⟨s₂, o, h _ h1, h2⟩
theorem OwnOut.at {g g' : JFrame} (q : g = g') (H : OwnOut p e s below k n Q (T.setTop g')) : OwnOut p e s below k n Q (T.setTop g) := q ▸ H
theorem OwnOut.imp {Q' : Option Value → Heap → List Loc → Prop} (q : ∀ v h L, Q' v h L → Q v h L) (H : OwnOut p e s below k n Q' W) : OwnOut p e s below k n Q W := by
  obtain ⟨s₂, o, h1, h2, h3, v, L, h4, h5, h6⟩ := H
  exact ⟨s₂, o, h1, h2, h3, v, L, h4, q _ _ _ h5, h6⟩
theorem outI (X : Stand p l e R s m args below meth c T locs cells slots) (hx : p.tables.exec = Jvm.exec) {pc : Nat} {Ls : Array Slot} {z : Int32} (hret : meth.sig.returnType = some .int) (hd : decode c.code pc = .ok (.ireturn, 1)) (hlk : meth.locks = false) (hk : cells ≤ k) (hn : slots ≤ n) (q : Q (some (.int z)) T.heap locs) :
    OwnOut p e s below k n Q (T.setTop (mkF m pc Ls [.int z])) := by
  obtain ⟨fs, hr, hrun, hended, hW, hsame⟩ := X.leave (v := some (.int z)) (fun h => by rw [hret] at h; cases h) hlk
  exact ⟨_, _, X.ireturnOut hx hret rfl (Or.inl rfl) hd hr, hrun, hended, _, _, rfl, q, ⟨_, rfl⟩, hW, hsame.mono hk hn⟩
theorem outZ (X : Stand p l e R s m args below meth c T locs cells slots) (hx : p.tables.exec = Jvm.exec) {pc : Nat} {Ls : Array Slot} {z : Int32} (hret : meth.sig.returnType = some .boolean) (hd : decode c.code pc = .ok (.ireturn, 1)) (hlk : meth.locks = false) (hk : cells ≤ k) (hn : slots ≤ n) (q : Q (some (.int (z &&& 1))) T.heap locs) :
    OwnOut p e s below k n Q (T.setTop (mkF m pc Ls [.int z])) := by
  obtain ⟨fs, hr, hrun, hended, hW, hsame⟩ := X.leave (v := some (.int (z &&& 1))) (fun h => by rw [hret] at h; cases h) hlk
  exact ⟨_, _, retN X hx (t := .boolean) hret (by simp) hd hr, hrun, hended, _, _, rfl, q, ⟨_, rfl⟩, hW, hsame.mono hk hn⟩
theorem outJ (X : Stand p l e R s m args below meth c T locs cells slots) (hx : p.tables.exec = Jvm.exec) {pc : Nat} {Ls : Array Slot} {z : Int64} (hret : meth.sig.returnType = some .long) (hd : decode c.code pc = .ok (.lreturn, 1)) (hlk : meth.locks = false) (hk : cells ≤ k) (hn : slots ≤ n) (q : Q (some (.long z)) T.heap locs) :
    OwnOut p e s below k n Q (T.setTop (mkF m pc Ls [.long z])) := by
  obtain ⟨fs, hr, hrun, hended, hW, hsame⟩ := X.leave (v := some (.long z)) (fun h => by rw [hret] at h; cases h) hlk
  exact ⟨_, _, X.lreturnOut hx hret hd hr, hrun, hended, _, _, rfl, q, ⟨_, rfl⟩, hW, hsame.mono hk hn⟩
theorem outA (X : Stand p l e R s m args below meth c T locs cells slots) (hx : p.tables.exec = Jvm.exec) {pc : Nat} {Ls : Array Slot} {w : Value} {t : FieldType} (hw : w.isRef = true) (hret : meth.sig.returnType = some t) (ht : t.isReference = true) (hd : decode c.code pc = .ok (.areturn, 1)) (hlk : meth.locks = false) (hk : cells ≤ k) (hn : slots ≤ n) (q : Q (some w) T.heap locs) :
    OwnOut p e s below k n Q (T.setTop (mkF m pc Ls [w])) := by
  obtain ⟨fs, hr, hrun, hended, hW, hsame⟩ := X.leave (v := some w) (fun h => by rw [hret] at h; cases h) hlk
  exact ⟨_, _, X.areturnOut hx hw hret ht hd hr, hrun, hended, _, _, rfl, q, ⟨_, rfl⟩, hW, hsame.mono hk hn⟩
theorem outV (X : Stand p l e R s m args below meth c T locs cells slots) (hx : p.tables.exec = Jvm.exec) {pc : Nat} {Ls : Array Slot} (hret : meth.sig.returnType = none) (hd : decode c.code pc = .ok (.return_, 1)) (hlk : meth.locks = false) (hk : cells ≤ k) (hn : slots ≤ n) (q : Q none T.heap locs) :
    OwnOut p e s below k n Q (T.setTop (mkF m pc Ls [])) := by
  obtain ⟨fs, hr, hrun, hended, hW, hsame⟩ := X.leave (v := none) (fun _ => rfl) hlk
  exact ⟨_, _, X.returnOut hx hret hd hr, hrun, hended, _, _, rfl, q, ⟨_, rfl⟩, hW, hsame.mono hk hn⟩
theorem lremM {g : JFrame} {target : State} (X : Stand p l e R s m args below meth c T locs cells slots) (hx : p.tables.exec = Jvm.exec) (hg : g.method = m) {x y : Int64} {rest : List Value} (hd : decode c.code g.pc = .ok (.lrem, 1)) (hs : g.stack = .long y :: .long x :: rest) (hy : y ≠ 0)
    (hr : Steps p.tables e below (T.setTop { g with pc := g.pc + 1, stack := .long (x % y) :: rest }) target) : Steps p.tables e below (T.setTop g) target :=
  XS.lrem X.here hx hg hd hs hy (by rw [lrem_mod]; exact hr)
/-- a body that touches nothing: what it returns, the heap as it was, nothing written -/
def QP (h0 : Heap) (w : Option Value) (v : Option Value) (h : Heap) (L : List Loc) : Prop := v = w ∧ h = h0 ∧ L = []
/-- a static call of such a body -/
theorem callP (X : Stand p l e R s m args below meth c T locs cells slots) (hx : p.tables.exec = Jvm.exec) (hZ : Z.Warmed39 s.vm) {own : String} {index : Nat} {y : MethodName} {bytes : ByteArray} {maxL : Nat} {ret : Option FieldType} {rm : Room} {as' : Array Value} {w : Option Value}
    (hown : s.vm.findClass own = some m.cls) (w1 : (Cond.methodLink own index y).before a0 Z = true) (w2 : (Cond.static y).before a0 Z = true) (w3 : (Cond.initialized y.cls).before a0 Z = true) (w4 : (Cond.code y bytes maxL ret).before a0 Z = true) (hy : y.cls ≠ "java/lang/invoke/MethodHandle" ∧ y.cls ≠ "java/lang/invoke/VarHandle")
    (hM : MetFree l y (head1 [Cond.code y bytes maxL ret] rm) (fun a U => a = as' ∧ Z.Warmed39 U.vm ∧ U.heap = h) (fun _ _ _ _ _ => True) (fun _ U o U' => ∃ v L, o = .returned v ∧ QP h w v U'.heap L ∧ FrameEnd U o U' L rm.cells rm.slots))
    {W : Nat} (hf : rm.frames + 1 ≤ R.frames) (hl : W + (maxL + 11) + rm.locals ≤ R.locals) (z1 : rm.cells = 0) (z2 : rm.slots = 0) (hc : cells ≤ R.cells) (hs' : slots ≤ R.slots) (eT : T.heap = h)
    {g : JFrame} (hg : g.method = m) (hsize : g.locals.size = c.maxLocals) {argsL rest : List Value} (hlen : ∀ sig, parseMethodDescriptor y.desc = some sig → argsL.length = sig.parameters.length)
    (hstack : g.stack = argsL.reverse ++ rest) (hW : 2 * g.monitorRoom + (rest.map fun v => v.category).sum ≤ W) (hdg : decode c.code g.pc = .ok (.invokestatic index, 3)) (has : argsL.toArray = as' := by rfl) :
    ∃ T', Stand p l e R s m args below meth c T' locs cells slots ∧ T'.heap = h ∧ ∀ target, Steps p.tables e below (T'.setTop { g with pc := g.pc + 3, stack := w.toList ++ rest }) target → Steps p.tables e below (T.setTop g) target := by
  obtain ⟨v, vm₁, ⟨T', L', k', n'⟩, -, X', ⟨Lc, ⟨rfl, q2, rfl⟩, l1, y1, z3⟩, st⟩ := Jvm.LawKit.callS X hx (y := y) hown (mvT hZ w1) (mvT hZ w2) (mvT hZ w3) (mvT hZ w4) hy (backOf (W := W) hM hZ w4 w3 hf hl) hg hsize hlen hstack hW hdg (fun _ _ => ⟨has, eT, by rw [z1]; exact hc, by rw [z2]; exact hs'⟩)
  dsimp only [Pt.U, Pt.locs, Pt.cells, Pt.slots] at X' l1 y1 z3 st q2
  rw [z1] at y1; rw [z2] at z3
  rw [List.append_nil] at l1
  subst l1 y1 z3
  exact ⟨T', X', q2, st⟩
end Own
end Jvm.RoadKit
namespace Jvm.RoadKit
open Sem ClassFile Op Lib Jvm.Stand Jvm.Free Jvm.LawKit
section Own2
variable {p : Program} {l : Launch} {e : Env} {R : Room} {s : State} {m : MethodId} {args : Array Value} {below : List Frame} {meth : Method} {c : Code} {T : State} {locs : List Loc} {cells slots : Nat} {Z : State} {a0 : Array Value} {h h' : Heap} {a b : Addr} {ty : FieldType} {vs : List Value} {sl : Nat} {v : Value} {ws : List Addr}
/-- an array, by the list of what it holds -/
def Ar (Z : State) (h : Heap) (a : Addr) (ty : FieldType) (vs : List Value) : Prop := ∃ c : Cell, Arr Z h a c ty ∧ c.slots.toList = vs ∧ vs.length < 2 ^ 31
theorem Ar.lt (A : Ar Z h a ty vs) : a < h.size := by obtain ⟨c, q, -⟩ := A; exact q.lt
theorem Ar.ext (A : Ar Z h a ty vs) (E : Ext h h') : Ar Z h' a ty vs := by obtain ⟨c, q, r⟩ := A; exact ⟨c, q.ext E, r⟩
theorem Ar.other (A : Ar Z h b ty vs) (W : Wr h h' a sl v) (q : b ≠ a) : Ar Z h' b ty vs := by obtain ⟨c, r, t⟩ := A; exact ⟨c, r.other W q, t⟩
theorem Ar.keep (A : Ar Z h a ty vs) (K : Keep h h' ws) (q : a ∉ ws) : Ar Z h' a ty vs := by obtain ⟨c, r, t⟩ := A; exact ⟨c, ⟨K.2.1 a c r.1 q, r.2⟩, t⟩
theorem Ar.same (A : Ar Z h a ty vs) (W : Wr h h' a sl v) : Ar Z h' a ty (vs.set sl v) := by
  obtain ⟨c, r, t, u⟩ := A
  refine ⟨_, r.same W, ?_, by rw [List.length_set]; exact u⟩
  show (c.slots.setIfInBounds sl v).toList = _
  rw [Array.toList_setIfInBounds, t]
abbrev Ari (Z : State) (h : Heap) (a : Addr) (ty : FieldType) (xs : List Int32) : Prop := Ar Z h a ty (xs.map Value.int)
abbrev Arj (Z : State) (h : Heap) (a : Addr) (xs : List Int64) : Prop := Ar Z h a .long (xs.map Value.long)
/-- what an array's place holds -/
def ldx {α : Type} (xs : List α) (j : Int32) : Option α := if j < 0 then none else xs[j.toNatClampNeg]?
def stx {α : Type} (xs : List α) (j : Int32) (v : α) : Option (List α) := if j < 0 then none else if xs.length ≤ j.toNatClampNeg then none else some (xs.set j.toNatClampNeg v)
def nwx {α : Type} (d : α) (cap : Nat) (n : Int32) : Option (List α) := if n < 0 then none else if cap < n.toNatClampNeg then none else some (List.replicate n.toNatClampNeg d)
def lenx {α : Type} (xs : List α) : Int32 := xs.length.toInt32
theorem ldx_at {α : Type} {f : α → Value} {xs : List α} {j : Int32} {x : α} {cl : Cell} (hv : ldx xs j = some x) (q : cl.slots.toList = xs.map f) : ¬ (j < 0 ∨ cl.slots.size ≤ j.toNatClampNeg) ∧ cl.slots[j.toNatClampNeg]? = some (f x) := by
  unfold ldx at hv
  by_cases hj : j < 0
  · rw [if_pos hj] at hv; cases hv
  rw [if_neg hj] at hv
  have h1 : cl.slots[j.toNatClampNeg]? = some (f x) := by rw [← Array.getElem?_toList, q, List.getElem?_map, hv]; rfl
  refine ⟨fun z => z.elim hj fun z => ?_, h1⟩
  rw [Array.getElem?_eq_none z] at h1; cases h1
theorem stx_at {α : Type} {f : α → Value} {xs ys : List α} {j : Int32} {x : α} {cl : Cell} (hv : stx xs j x = some ys) (q : cl.slots.toList = xs.map f) : ¬ (j < 0 ∨ cl.slots.size ≤ j.toNatClampNeg) ∧ ys = xs.set j.toNatClampNeg x := by
  unfold stx at hv
  by_cases hj : j < 0
  · rw [if_pos hj] at hv; cases hv
  rw [if_neg hj] at hv
  by_cases hl : xs.length ≤ j.toNatClampNeg
  · rw [if_pos hl] at hv; cases hv
  rw [if_neg hl] at hv
  refine ⟨fun z => z.elim hj fun z => hl ?_, (Option.some.inj hv).symm⟩
  have : cl.slots.size = xs.length := by rw [← Array.length_toList, q, List.length_map]
  omega
theorem ldI (X : Stand p l e R s m args below meth c T locs cells slots) (hx : p.tables.exec = Jvm.exec) (hZ : Z.Warmed39 s.vm) (eT : T.heap = h) {xs : List Int32} (A : Ari Z h a .int xs) {j v : Int32} (hv : ldx xs j = some v) {g : JFrame} (hg : g.method = m) {rest : List Value} (hs : g.stack = .int j :: .ref a :: rest) (hd : decode c.code g.pc = .ok (.iaload, 1)) (target : State)
    (hr : Steps p.tables e below (T.setTop { g with pc := g.pc + 1, stack := .int v :: rest }) target) : Steps p.tables e below (T.setTop g) target := by
  obtain ⟨cl, A1, A2, -⟩ := A
  obtain ⟨hj, hat⟩ := ldx_at hv A2
  exact X.iaload hx (by rw [eT]; exact A1.1) (State.isArrayOf_alike hZ.alike A1.2.1) A1.2.2 hj hat hg hs hd target hr
theorem ldB (X : Stand p l e R s m args below meth c T locs cells slots) (hx : p.tables.exec = Jvm.exec) (hZ : Z.Warmed39 s.vm) (eT : T.heap = h) {xs : List Int32} (A : Ari Z h a .byte xs) {j v : Int32} (hv : ldx xs j = some v) {g : JFrame} (hg : g.method = m) {rest : List Value} (hs : g.stack = .int j :: .ref a :: rest) (hd : decode c.code g.pc = .ok (.baload, 1)) (target : State)
    (hr : Steps p.tables e below (T.setTop { g with pc := g.pc + 1, stack := .int v :: rest }) target) : Steps p.tables e below (T.setTop g) target := by
  obtain ⟨cl, A1, A2, -⟩ := A
  obtain ⟨hj, hat⟩ := ldx_at hv A2
  exact X.baloadBytes hx (by rw [eT]; exact A1.1) (State.isArrayOf_alike hZ.alike A1.2.1) A1.2.2 hj hat hg hs hd target hr
theorem ldZ (X : Stand p l e R s m args below meth c T locs cells slots) (hx : p.tables.exec = Jvm.exec) (hZ : Z.Warmed39 s.vm) (eT : T.heap = h) {xs : List Int32} (A : Ari Z h a .boolean xs) {j v : Int32} (hv : ldx xs j = some v) {g : JFrame} (hg : g.method = m) {rest : List Value} (hs : g.stack = .int j :: .ref a :: rest) (hd : decode c.code g.pc = .ok (.baload, 1)) (target : State)
    (hr : Steps p.tables e below (T.setTop { g with pc := g.pc + 1, stack := .int v :: rest }) target) : Steps p.tables e below (T.setTop g) target := by
  obtain ⟨cl, A1, A2, -⟩ := A
  obtain ⟨hj, hat⟩ := ldx_at hv A2
  exact X.baloadBooleans hx (by rw [eT]; exact A1.1) (State.isArrayOf_alike hZ.alike A1.2.1) A1.2.2 hj hat hg hs hd target hr
theorem ldJ (X : Stand p l e R s m args below meth c T locs cells slots) (hx : p.tables.exec = Jvm.exec) (hZ : Z.Warmed39 s.vm) (eT : T.heap = h) {xs : List Int64} (A : Arj Z h a xs) {j : Int32} {v : Int64} (hv : ldx xs j = some v) {g : JFrame} (hg : g.method = m) {rest : List Value} (hs : g.stack = .int j :: .ref a :: rest) (hd : decode c.code g.pc = .ok (.laload, 1)) (target : State)
    (hr : Steps p.tables e below (T.setTop { g with pc := g.pc + 1, stack := .long v :: rest }) target) : Steps p.tables e below (T.setTop g) target := by
  obtain ⟨cl, A1, A2, -⟩ := A
  obtain ⟨hj, hat⟩ := ldx_at hv A2
  exact X.laload hx (by rw [eT]; exact A1.1) (State.isArrayOf_alike hZ.alike A1.2.1) A1.2.2 hj hat hg hs hd target hr
theorem lenA (X : Stand p l e R s m args below meth c T locs cells slots) (hx : p.tables.exec = Jvm.exec) (hZ : Z.Warmed39 s.vm) (eT : T.heap = h) {α : Type} {f : α → Value} {xs : List α} (A : Ar Z h a ty (xs.map f)) {g : JFrame} (hg : g.method = m) {rest : List Value} (hs : g.stack = .ref a :: rest) (hd : decode c.code g.pc = .ok (.arraylength, 1)) (target : State)
    (hr : Steps p.tables e below (T.setTop { g with pc := g.pc + 1, stack := .int (lenx xs) :: rest }) target) : Steps p.tables e below (T.setTop g) target := by
  obtain ⟨cl, A1, A2, -⟩ := A
  have : cl.slots.size = xs.length := by rw [← Array.length_toList, A2, List.length_map]
  refine X.arraylength hx (by rw [eT]; exact A1.1) (State.isArrayOf_alike hZ.alike A1.2.1) hg hs hd target ?_
  rw [this]; exact hr
theorem saI (X : Stand p l e R s m args below meth c T locs cells slots) (hx : p.tables.exec = Jvm.exec) (hZ : Z.Warmed39 s.vm) (eT : T.heap = h) {xs ys : List Int32} (A : Ari Z h a .int xs) {j v : Int32} (hv : stx xs j v = some ys) {g : JFrame} (hg : g.method = m) {rest : List Value} (hs : g.stack = .int v :: .int j :: .ref a :: rest) (hd : decode c.code g.pc = .ok (.iastore, 1)) :
    ∃ T' h', Stand p l e R s m args below meth c T' (locs ++ [⟨a, j.toNatClampNeg⟩]) cells slots ∧ T'.heap = h' ∧ Wr h h' a j.toNatClampNeg (.int v) ∧ Ari Z h' a .int ys ∧ ∀ target, Steps p.tables e below (T'.setTop { g with pc := g.pc + 1, stack := rest }) target → Steps p.tables e below (T.setTop g) target := by
  have A' := A
  obtain ⟨cl, A1, A2, -⟩ := A
  obtain ⟨hj, rfl⟩ := stx_at hv A2
  obtain ⟨T', h', X', e', W', st⟩ := stI X hx hZ eT A1 hj hg hs hd
  exact ⟨T', h', X', e', W', by have q := A'.same W'; rw [← List.map_set] at q; exact q, st⟩
theorem saB (X : Stand p l e R s m args below meth c T locs cells slots) (hx : p.tables.exec = Jvm.exec) (hZ : Z.Warmed39 s.vm) (eT : T.heap = h) {xs ys : List Int32} (A : Ari Z h a .byte xs) {j v : Int32} (hv : stx xs j v.toInt8.toInt32 = some ys) {g : JFrame} (hg : g.method = m) {rest : List Value} (hs : g.stack = .int v :: .int j :: .ref a :: rest) (hd : decode c.code g.pc = .ok (.bastore, 1)) :
    ∃ T' h', Stand p l e R s m args below meth c T' (locs ++ [⟨a, j.toNatClampNeg⟩]) cells slots ∧ T'.heap = h' ∧ Wr h h' a j.toNatClampNeg (.int v.toInt8.toInt32) ∧ Ari Z h' a .byte ys ∧ ∀ target, Steps p.tables e below (T'.setTop { g with pc := g.pc + 1, stack := rest }) target → Steps p.tables e below (T.setTop g) target := by
  have A' := A
  obtain ⟨cl, A1, A2, -⟩ := A
  obtain ⟨hj, rfl⟩ := stx_at hv A2
  obtain ⟨T', h', X', e', W', st⟩ := stB X hx hZ eT A1 hj hg hs hd
  exact ⟨T', h', X', e', W', by have q := A'.same W'; rw [show Value.int (nar .byte v) = Value.int v.toInt8.toInt32 from rfl, ← List.map_set] at q; exact q, st⟩
theorem saZ (X : Stand p l e R s m args below meth c T locs cells slots) (hx : p.tables.exec = Jvm.exec) (hZ : Z.Warmed39 s.vm) (eT : T.heap = h) {xs ys : List Int32} (A : Ari Z h a .boolean xs) {j v : Int32} (hv : stx xs j (v &&& 1) = some ys) {g : JFrame} (hg : g.method = m) {rest : List Value} (hs : g.stack = .int v :: .int j :: .ref a :: rest) (hd : decode c.code g.pc = .ok (.bastore, 1)) :
    ∃ T' h', Stand p l e R s m args below meth c T' (locs ++ [⟨a, j.toNatClampNeg⟩]) cells slots ∧ T'.heap = h' ∧ Wr h h' a j.toNatClampNeg (.int (v &&& 1)) ∧ Ari Z h' a .boolean ys ∧ ∀ target, Steps p.tables e below (T'.setTop { g with pc := g.pc + 1, stack := rest }) target → Steps p.tables e below (T.setTop g) target := by
  have A' := A
  obtain ⟨cl, A1, A2, -⟩ := A
  obtain ⟨hj, rfl⟩ := stx_at hv A2
  obtain ⟨T', h', X', e', W', st⟩ := stZ X hx hZ eT A1 hj hg hs hd
  exact ⟨T', h', X', e', W', by have q := A'.same W'; rw [show Value.int (nar .boolean v) = Value.int (v &&& 1) from rfl, ← List.map_set] at q; exact q, st⟩
theorem saJ (X : Stand p l e R s m args below meth c T locs cells slots) (hx : p.tables.exec = Jvm.exec) (hZ : Z.Warmed39 s.vm) (eT : T.heap = h) {xs ys : List Int64} (A : Arj Z h a xs) {j : Int32} {v : Int64} (hv : stx xs j v = some ys) {g : JFrame} (hg : g.method = m) {rest : List Value} (hs : g.stack = .long v :: .int j :: .ref a :: rest) (hd : decode c.code g.pc = .ok (.lastore, 1)) :
    ∃ T' h', Stand p l e R s m args below meth c T' (locs ++ [⟨a, j.toNatClampNeg⟩]) cells slots ∧ T'.heap = h' ∧ Wr h h' a j.toNatClampNeg (.long v) ∧ Arj Z h' a ys ∧ ∀ target, Steps p.tables e below (T'.setTop { g with pc := g.pc + 1, stack := rest }) target → Steps p.tables e below (T.setTop g) target := by
  have A' := A
  obtain ⟨cl, A1, A2, -⟩ := A
  obtain ⟨hj, rfl⟩ := stx_at hv A2
  obtain ⟨T', h', X', e', W', st⟩ := stJ X hx hZ eT A1 hj hg hs hd
  exact ⟨T', h', X', e', W', by have q := A'.same W'; rw [← List.map_set] at q; exact q, st⟩
theorem nwx_at {α : Type} {d : α} {cap : Nat} {n : Int32} {xs : List α} (hv : nwx d cap n = some xs) : ¬ n < 0 ∧ n.toNatClampNeg ≤ cap ∧ xs = List.replicate n.toNatClampNeg d := by
  unfold nwx at hv
  by_cases hj : n < 0
  · rw [if_pos hj] at hv; cases hv
  rw [if_neg hj] at hv
  by_cases hl : cap < n.toNatClampNeg
  · rw [if_pos hl] at hv; cases hv
  rw [if_neg hl] at hv
  exact ⟨hj, Nat.le_of_not_lt hl, (Option.some.inj hv).symm⟩
theorem Ar.new {α : Type} {f : α → Value} {d : α} {n : Int32} {cA : ClassId} (A : Arr Z h a (newA cA ty n) ty) (q : ¬ n < 0) (hd : defaultValue ty = f d) : Ar Z h a ty ((List.replicate n.toNatClampNeg d).map f) := by
  refine ⟨_, A, ?_, ?_⟩
  · show (Array.replicate n.toNatClampNeg (defaultValue ty)).toList = _
    rw [Array.toList_replicate, List.map_replicate, hd]
  · rw [List.length_map, List.length_replicate]; exact (back32 q).2
/-- a new array of ints, bytes, booleans .. -/
theorem nwA (X : Stand p l e R s m args below meth c T locs cells slots) (hx : p.tables.exec = Jvm.exec) (hZ : Z.Warmed39 s.vm) {aty : ArrayType} (w : (Cond.arrayClass (newarray.typeOf aty)).before a0 Z = true) (eT : T.heap = h) {α : Type} {f : α → Value} {d : α} {cap : Nat} {n : Int32} {xs : List α} (hv : nwx d cap n = some xs) (hdf : defaultValue (newarray.typeOf aty) = f d)
    {g : JFrame} (hg : g.method = m) {rest : List Value} (hs : g.stack = .int n :: rest) (hd : decode c.code g.pc = .ok (.newarray aty, 2)) (hb : cap * 8 ≤ 536870912) (hc : cells + 1 ≤ R.cells) (hl : slots + cap ≤ R.slots) :
    ∃ T' h', Stand p l e R s m args below meth c T' locs (cells + 1) (slots + cap) ∧ T'.heap = h' ∧ Ext h h' ∧ Ar Z h' h.size (newarray.typeOf aty) (xs.map f) ∧ ∀ target, Steps p.tables e below (T'.setTop { g with pc := g.pc + 2, stack := .ref h.size :: rest }) target → Steps p.tables e below (T.setTop g) target := by
  obtain ⟨q1, q2, rfl⟩ := nwx_at hv
  obtain ⟨T', h', cA, X', e', E', A', st⟩ := newP X hx hZ w eT hg hd hs q1 (cap := cap) q2 hb hc hl
  exact ⟨T', h', X', e', E', Ar.new A' q1 hdf, st⟩
variable {y : MethodName} {bytes : ByteArray} {maxL : Nat} {ret : Option FieldType} {rm : Room} {as' : Array Value} {Q : Option Value → Heap → List Loc → Prop} {own : String} {index : Nat}
/-- a static call by the callee's contract -/
theorem callQ (X : Stand p l e R s m args below meth c T locs cells slots) (hx : p.tables.exec = Jvm.exec) (hZ : Z.Warmed39 s.vm)
    (hown : s.vm.findClass own = some m.cls) (w1 : (Cond.methodLink own index y).before a0 Z = true) (w2 : (Cond.static y).before a0 Z = true) (w3 : (Cond.initialized y.cls).before a0 Z = true) (w4 : (Cond.code y bytes maxL ret).before a0 Z = true) (hy : y.cls ≠ "java/lang/invoke/MethodHandle" ∧ y.cls ≠ "java/lang/invoke/VarHandle")
    (hM : MetFree l y (head1 [Cond.code y bytes maxL ret] rm) (fun a U => a = as' ∧ Z.Warmed39 U.vm ∧ U.heap = h) (fun _ _ _ _ _ => True) (fun _ U o U' => ∃ v L, o = .returned v ∧ Q v U'.heap L ∧ FrameEnd U o U' L rm.cells rm.slots))
    {W : Nat} (hf : rm.frames + 1 ≤ R.frames) (hl : W + (maxL + 11) + rm.locals ≤ R.locals) (hc : cells + rm.cells ≤ R.cells) (hs' : slots + rm.slots ≤ R.slots) (eT : T.heap = h)
    {g : JFrame} (hg : g.method = m) (hsize : g.locals.size = c.maxLocals) {argsL rest : List Value} (hlen : ∀ sig, parseMethodDescriptor y.desc = some sig → argsL.length = sig.parameters.length)
    (hstack : g.stack = argsL.reverse ++ rest) (hW : 2 * g.monitorRoom + (rest.map fun v => v.category).sum ≤ W) (hdg : decode c.code g.pc = .ok (.invokestatic index, 3)) (has : argsL.toArray = as' := by rfl) :
    ∃ v T' L', Stand p l e R s m args below meth c T' (locs ++ L') (cells + rm.cells) (slots + rm.slots) ∧ Q v T'.heap L' ∧ ∀ target, Steps p.tables e below (T'.setTop { g with pc := g.pc + 3, stack := v.toList ++ rest }) target → Steps p.tables e below (T.setTop g) target := by
  obtain ⟨v, vm₁, ⟨T', L', k', n'⟩, -, X', ⟨Lc, q2, l1, y1, z3⟩, st⟩ := Jvm.LawKit.callS X hx (y := y) hown (mvT hZ w1) (mvT hZ w2) (mvT hZ w3) (mvT hZ w4) hy (backOf (W := W) hM hZ w4 w3 hf hl) hg hsize hlen hstack hW hdg (fun _ _ => ⟨has, eT, hc, hs'⟩)
  dsimp only [Pt.U, Pt.locs, Pt.cells, Pt.slots] at X' l1 y1 z3 st q2
  subst l1 y1 z3
  exact ⟨v, T', Lc, X', q2, st⟩
/-- a constructor by its contract -/
theorem callN {ret : Option FieldType} (X : Stand p l e R s m args below meth c T locs cells slots) (hx : p.tables.exec = Jvm.exec) (hZ : Z.Warmed39 s.vm) (hret : ret = none) (hnm : y.name = "<init>")
    (hown : s.vm.findClass own = some m.cls) (w1 : (Cond.methodLink own index y).before a0 Z = true) (w2 : (Cond.instanceMethod y).before a0 Z = true) (w3 : (Cond.initialized y.cls).before a0 Z = true) (w4 : (Cond.code y bytes maxL ret).before a0 Z = true) (hy : y.cls ≠ "java/lang/invoke/MethodHandle" ∧ y.cls ≠ "java/lang/invoke/VarHandle")
    (hM : MetFree l y (head1 [Cond.code y bytes maxL ret] rm) (fun a U => a = as' ∧ Z.Warmed39 U.vm ∧ U.heap = h) (fun _ _ _ _ _ => True) (fun _ U o U' => ∃ v L, o = .returned v ∧ Q v U'.heap L ∧ FrameEnd U o U' L rm.cells rm.slots))
    {W : Nat} (hf : rm.frames + 1 ≤ R.frames) (hl : W + (maxL + 11) + rm.locals ≤ R.locals) (hc : cells + rm.cells ≤ R.cells) (hs' : slots + rm.slots ≤ R.slots) (eT : T.heap = h)
    {g : JFrame} (hg : g.method = m) (hsize : g.locals.size = c.maxLocals) {a : Addr} {argsL rest : List Value} (hlen : ∀ sig, parseMethodDescriptor y.desc = some sig → argsL.length = sig.parameters.length)
    (hstack : g.stack = argsL.reverse ++ .ref a :: rest) (hW : 2 * g.monitorRoom + (rest.map fun v => v.category).sum ≤ W) (hdg : decode c.code g.pc = .ok (.invokespecial index, 3)) (has : (Value.ref a :: argsL).toArray = as' := by rfl) :
    ∃ v T' L', Stand p l e R s m args below meth c T' (locs ++ L') (cells + rm.cells) (slots + rm.slots) ∧ Q v T'.heap L' ∧ ∀ target, Steps p.tables e below (T'.setTop { g with pc := g.pc + 3, stack := v.toList ++ rest }) target → Steps p.tables e below (T.setTop g) target := by
  subst hret
  obtain ⟨v, vm₁, ⟨T', L', k', n'⟩, -, X', ⟨Lc, q2, l1, y1, z3⟩, st⟩ := X.specialBack hx (y := y) hnm hown (mvT hZ w1) (mvT hZ w2) (mvT hZ w4) hy (backOf (W := W) hM hZ w4 w3 hf hl) hg hsize (Steps.refl _) hlen hstack hW hdg (fun _ _ => ⟨has, eT, hc, hs'⟩)
  dsimp only [Pt.U, Pt.locs, Pt.cells, Pt.slots] at X' l1 y1 z3 st q2
  subst l1 y1 z3
  exact ⟨v, T', Lc, X', q2, fun t k => st.trans k⟩
/-- an instance method by its contract -/
theorem callV (X : Stand p l e R s m args below meth c T locs cells slots) (hx : p.tables.exec = Jvm.exec) (hZ : Z.Warmed39 s.vm)
    (hown : s.vm.findClass own = some m.cls) (w1 : (Cond.methodLink own index y).before a0 Z = true) (w2 : (Cond.declares y).before a0 Z = true) (w3 : (Cond.selects y.cls y y).before a0 Z = true) (w5 : (Cond.instanceMethod y).before a0 Z = true) (w6 : (Cond.initialized y.cls).before a0 Z = true) (w4 : (Cond.code y bytes maxL ret).before a0 Z = true) (hy : y.cls ≠ "java/lang/invoke/MethodHandle" ∧ y.cls ≠ "java/lang/invoke/VarHandle")
    (hM : MetFree l y (head1 [Cond.code y bytes maxL ret] rm) (fun a U => a = as' ∧ Z.Warmed39 U.vm ∧ U.heap = h) (fun _ _ _ _ _ => True) (fun _ U o U' => ∃ v L, o = .returned v ∧ Q v U'.heap L ∧ FrameEnd U o U' L rm.cells rm.slots))
    {W : Nat} (hf : rm.frames + 1 ≤ R.frames) (hl : W + (maxL + 11) + rm.locals ≤ R.locals) (hc : cells + rm.cells ≤ R.cells) (hs' : slots + rm.slots ≤ R.slots) (eT : T.heap = h) {a : Addr} (E : Exa Z h a y.cls)
    {g : JFrame} (hg : g.method = m) (hsize : g.locals.size = c.maxLocals) {argsL rest : List Value} (hlen : ∀ sig, parseMethodDescriptor y.desc = some sig → argsL.length = sig.parameters.length)
    (hstack : g.stack = argsL.reverse ++ .ref a :: rest) (hW : 2 * g.monitorRoom + (rest.map fun v => v.category).sum ≤ W) (hdg : decode c.code g.pc = .ok (.invokevirtual index, 3)) (has : (Value.ref a :: argsL).toArray = as' := by rfl) :
    ∃ v T' L', Stand p l e R s m args below meth c T' (locs ++ L') (cells + rm.cells) (slots + rm.slots) ∧ Q v T'.heap L' ∧ ∀ target, Steps p.tables e below (T'.setTop { g with pc := g.pc + 3, stack := v.toList ++ rest }) target → Steps p.tables e below (T.setTop g) target := by
  obtain ⟨cq, kq, qa, qb, qc⟩ := isOf hZ eT E
  obtain ⟨v, vm₁, ⟨T', L', k', n'⟩, -, X', ⟨Lc, q2, l1, y1, z3⟩, st⟩ := X.virtualBack hx (y := y) (z := y) hown (mvT hZ w1) (mvT hZ w2) (notFace_of_selects (args := #[]) (mvT hZ w3)) (mvT hZ w3) (mvT hZ w5) hy (backOf (W := W) hM hZ w4 w6 hf hl) qa qc hg hsize (Steps.refl _) hlen hstack hW hdg (fun _ _ => ⟨has, eT, hc, hs'⟩)
  dsimp only [Pt.U, Pt.locs, Pt.cells, Pt.slots] at X' l1 y1 z3 st q2
  subst l1 y1 z3
  exact ⟨v, T', Lc, X', q2, fun t k => st.trans k⟩
/-- a private method by its contract -/
theorem callR (X : Stand p l e R s m args below meth c T locs cells slots) (hx : p.tables.exec = Jvm.exec) (hZ : Z.Warmed39 s.vm)
    (hown : s.vm.findClass own = some m.cls) (w1 : (Cond.methodLink own index y).before a0 Z = true) (w2 : (Cond.privateMethod y).before a0 Z = true) {kk : Nat} (w3 : (Cond.instantiable y.cls kk).before a0 Z = true) (w5 : (Cond.instanceMethod y).before a0 Z = true) (w6 : (Cond.initialized y.cls).before a0 Z = true) (w4 : (Cond.code y bytes maxL ret).before a0 Z = true) (hy : y.cls ≠ "java/lang/invoke/MethodHandle" ∧ y.cls ≠ "java/lang/invoke/VarHandle")
    (hM : MetFree l y (head1 [Cond.code y bytes maxL ret] rm) (fun a U => a = as' ∧ Z.Warmed39 U.vm ∧ U.heap = h) (fun _ _ _ _ _ => True) (fun _ U o U' => ∃ v L, o = .returned v ∧ Q v U'.heap L ∧ FrameEnd U o U' L rm.cells rm.slots))
    {W : Nat} (hf : rm.frames + 1 ≤ R.frames) (hl : W + (maxL + 11) + rm.locals ≤ R.locals) (hc : cells + rm.cells ≤ R.cells) (hs' : slots + rm.slots ≤ R.slots) (eT : T.heap = h) {a : Addr} (E : Exa Z h a y.cls)
    {g : JFrame} (hg : g.method = m) (hsize : g.locals.size = c.maxLocals) {argsL rest : List Value} (hlen : ∀ sig, parseMethodDescriptor y.desc = some sig → argsL.length = sig.parameters.length)
    (hstack : g.stack = argsL.reverse ++ .ref a :: rest) (hW : 2 * g.monitorRoom + (rest.map fun v => v.category).sum ≤ W) (hdg : decode c.code g.pc = .ok (.invokevirtual index, 3)) (has : (Value.ref a :: argsL).toArray = as' := by rfl) :
    ∃ v T' L', Stand p l e R s m args below meth c T' (locs ++ L') (cells + rm.cells) (slots + rm.slots) ∧ Q v T'.heap L' ∧ ∀ target, Steps p.tables e below (T'.setTop { g with pc := g.pc + 3, stack := v.toList ++ rest }) target → Steps p.tables e below (T.setTop g) target := by
  obtain ⟨cq, q, q'⟩ := E.cell
  have hpr := Cond.privateMethod_at (mvP hZ w2 (args := args))
  obtain ⟨c4, k2, i1, i2, -, i4, -⟩ := Cond.instantiable_spec (mvT hZ w3 : (Cond.instantiable y.cls kk).before args s = true)
  have hsel := selects_self_of_private (args := args) i1 i2 (by simp only [Bool.or_eq_false_iff] at i4; exact i4.1) hpr (mvT hZ w5) hy
  obtain ⟨v, vm₁, ⟨T', L', k', n'⟩, -, X', ⟨Lc, q2, l1, y1, z3⟩, st⟩ := X.privateBack hx (y := y) hown (mvT hZ w1) (mvT hZ w5) hsel hpr (mvT hZ w4) hy (backOf (W := W) hM hZ w4 w6 hf hl) hg hsize (Steps.refl _) (by rw [eT]; exact q) q' hlen hstack hW hdg (fun _ _ => ⟨has, eT, hc, hs'⟩)
  dsimp only [Pt.U, Pt.locs, Pt.cells, Pt.slots] at X' l1 y1 z3 st q2
  subst l1 y1 z3
  exact ⟨v, T', Lc, X', q2, fun t k => st.trans k⟩
end Own2
end Jvm.RoadKit
namespace Jvm.Pilot.@@N@@
open Jvm Jvm.ClassFile Sem Op Lib Jvm.Free Jvm.Stand Jvm.LawKit Jvm.RoadKit Bundle Jvm.Pilot.@@N@@.Jvm.D
-- body 1 as 1: com/example/ninewire/ninewire/RpcProtocol.methodOfRequest:(I)I (touches nothing)
theorem d1_0 : decode prog_61_method_3_code 0 = .ok (.iload_n 0, 1) := by decide +kernel
theorem d1_1 : decode prog_61_method_3_code 1 = .ok (.bipush 102, 2) := by decide +kernel
theorem d1_3 : decode prog_61_method_3_code 3 = .ok (.isub, 1) := by decide +kernel
theorem d1_4 : decode prog_61_method_3_code 4 = .ok (.istore_n 1, 1) := by decide +kernel
theorem d1_5 : decode prog_61_method_3_code 5 = .ok (.iload_n 1, 1) := by decide +kernel
theorem d1_6 : decode prog_61_method_3_code 6 = .ok (.ifCond .lt 23, 3) := by decide +kernel
theorem d1_9 : decode prog_61_method_3_code 9 = .ok (.iload_n 1, 1) := by decide +kernel
theorem d1_10 : decode prog_61_method_3_code 10 = .ok (.iconst 2, 1) := by decide +kernel
theorem d1_11 : decode prog_61_method_3_code 11 = .ok (.irem, 1) := by decide +kernel
theorem d1_12 : decode prog_61_method_3_code 12 = .ok (.ifCond .ne 17, 3) := by decide +kernel
theorem d1_15 : decode prog_61_method_3_code 15 = .ok (.iload_n 1, 1) := by decide +kernel
theorem d1_16 : decode prog_61_method_3_code 16 = .ok (.iconst 2, 1) := by decide +kernel
theorem d1_17 : decode prog_61_method_3_code 17 = .ok (.idiv, 1) := by decide +kernel
theorem d1_18 : decode prog_61_method_3_code 18 = .ok (.bipush 77, 2) := by decide +kernel
theorem d1_20 : decode prog_61_method_3_code 20 = .ok (.if_icmp .ge 9, 3) := by decide +kernel
theorem d1_23 : decode prog_61_method_3_code 23 = .ok (.iload_n 1, 1) := by decide +kernel
theorem d1_24 : decode prog_61_method_3_code 24 = .ok (.iconst 2, 1) := by decide +kernel
theorem d1_25 : decode prog_61_method_3_code 25 = .ok (.idiv, 1) := by decide +kernel
theorem d1_26 : decode prog_61_method_3_code 26 = .ok (.goto 4, 3) := by decide +kernel
theorem d1_29 : decode prog_61_method_3_code 29 = .ok (.iconst (-1), 1) := by decide +kernel
theorem d1_30 : decode prog_61_method_3_code 30 = .ok (.ireturn, 1) := by decide +kernel
theorem pn1 : plainName "com/example/ninewire/ninewire/RpcProtocol" = true := by first | (simp [plainName, overriddenIn]; done) | decide +kernel
theorem pd1 : parseMethodDescriptor "(I)I" = some ⟨[.int], some .int⟩ := by decide +kernel
theorem ef1 (m : MethodId) (x0 : Int32) : entryFrame m #[(.int x0)] 2 = mkF m 0 #[.val (.int x0), .unset] [] := by first | (simp [entryFrame, mkF, argsToLocals, Value.category]; done) | rfl
abbrev rx1 : Room := { frames := 0, cells := 0, slots := 0, locals := 0 }
abbrev Cx1 (Z : State) (a0 : Array Value) (p : Program) (s : State) (m : MethodId) (meth : Method) (c : Code) : Prop := p.tables.exec = Jvm.exec ∧ Z.Warmed39 s.vm ∧ (∀ d ∈ tables_1, d.before a0 Z = true) ∧ c.code = prog_61_method_3_code ∧ c.maxLocals = 2 ∧ s.vm.findClass "com/example/ninewire/ninewire/RpcProtocol" = some m.cls ∧ meth.sig.returnType = (some .int) ∧ meth.locks = false ∧ meth.name = "methodOfRequest"
def Q1 (Z : State) (x0 : Int32) (h0 : Heap) (o : Int32) (v : Option Value) (h : Heap) (L : List Loc) : Prop := v = some (.int o) ∧ h = h0 ∧ L = []
def f1 (x0 : Int32) : Option (Int32) := (if (x0 - (102 : Int32)) < (0 : Int32) then some ((-1 : Int32)) else (if ((x0 - (102 : Int32)) % (2 : Int32)) = (0 : Int32) then (if ((x0 - (102 : Int32)) / (2 : Int32)) < (77 : Int32) then some (((x0 - (102 : Int32)) / (2 : Int32))) else some ((-1 : Int32))) else some ((-1 : Int32))))
set_option maxRecDepth 65536 in
set_option maxHeartbeats 40000000 in
theorem w1_0 {p : Program} {l : Launch} {e : Env} {s : State} {m : MethodId} {args : Array Value} {below : List Frame} {meth : Method} {c : Code} {Z : State} {a0 : Array Value} {h0 : Heap} (C : Cx1 Z a0 p s m meth c) :
    ∀ (T : State) (x0 : Int32) (o : Int32), f1 x0 = some o → Stand p l e rx1 s m args below meth c T [] 0 0 → T.heap = h0 →  OwnOut p e s below 0 0 (Q1 Z default h0 o) (T.setTop (mkF m 0 #[.val (.int x0), .unset] [])) := by
    obtain ⟨hx, hZ, hw, hby, hml, hown, hret, hlk, hnm⟩ := C
    intro T x0 o hr X0 e0
    rw [f1] at hr
    refine OwnOut.go (fun t k => XS.iloadN X0.here hx rfl (hb hby d1_0) rfl k) ?_
    show OwnOut p e s below 0 0 _ (T.setTop (mkF m 1 #[.val (.int x0), .unset] [(.int x0)]))
    refine OwnOut.go (fun t k => XT.bipushV X0.here hx rfl (102 : Int32) (hb hby d1_1) rfl k) ?_
    show OwnOut p e s below 0 0 _ (T.setTop (mkF m 3 #[.val (.int x0), .unset] [(.int (102 : Int32)), (.int x0)]))
    refine OwnOut.go (fun t k => XS.isub X0.here hx rfl (hb hby d1_3) rfl k) ?_
    show OwnOut p e s below 0 0 _ (T.setTop (mkF m 4 #[.val (.int x0), .unset] [(.int (x0 - (102 : Int32)))]))
    refine OwnOut.go (fun t k => XS.istoreN X0.here hx rfl (hb hby d1_4) rfl (l' := #[.val (.int x0), .val (.int (x0 - (102 : Int32)))]) rfl k) ?_
    show OwnOut p e s below 0 0 _ (T.setTop (mkF m 5 #[.val (.int x0), .val (.int (x0 - (102 : Int32)))] []))
    refine OwnOut.go (fun t k => XS.iloadN X0.here hx rfl (hb hby d1_5) rfl k) ?_
    show OwnOut p e s below 0 0 _ (T.setTop (mkF m 6 #[.val (.int x0), .val (.int (x0 - (102 : Int32)))] [(.int (x0 - (102 : Int32)))]))
    by_cases hc6 : (x0 - (102 : Int32)) < (0 : Int32)
    · rw [if_pos hc6] at hr
      refine OwnOut.go (fun t k => XS.ifYes X0.here hx rfl (pc0 := 6) (pc' := 29) rfl (hb hby d1_6) rfl (XT.i0_lt_t hc6) (by decide) (by decide) k) ?_
      show OwnOut p e s below 0 0 _ (T.setTop (mkF m 29 #[.val (.int x0), .val (.int (x0 - (102 : Int32)))] []))
      refine OwnOut.go (fun t k => XT.iconstV X0.here hx rfl (-1 : Int32) (hb hby d1_29) rfl k) ?_
      show OwnOut p e s below 0 0 _ (T.setTop (mkF m 30 #[.val (.int x0), .val (.int (x0 - (102 : Int32)))] [(.int (-1 : Int32))]))
      cases hr
      exact outI X0 hx hret (hb hby d1_30) hlk (by decide) (by decide) ⟨rfl, e0, rfl⟩
    · rw [if_neg hc6] at hr
      refine OwnOut.go (fun t k => XS.ifNo X0.here hx rfl (hb hby d1_6) rfl (XT.i0_lt_f hc6) k) ?_
      show OwnOut p e s below 0 0 _ (T.setTop (mkF m 9 #[.val (.int x0), .val (.int (x0 - (102 : Int32)))] []))
      refine OwnOut.go (fun t k => XS.iloadN X0.here hx rfl (hb hby d1_9) rfl k) ?_
      show OwnOut p e s below 0 0 _ (T.setTop (mkF m 10 #[.val (.int x0), .val (.int (x0 - (102 : Int32)))] [(.int (x0 - (102 : Int32)))]))
      refine OwnOut.go (fun t k => XT.iconstV X0.here hx rfl (2 : Int32) (hb hby d1_10) rfl k) ?_
      show OwnOut p e s below 0 0 _ (T.setTop (mkF m 11 #[.val (.int x0), .val (.int (x0 - (102 : Int32)))] [(.int (2 : Int32)), (.int (x0 - (102 : Int32)))]))
      refine OwnOut.go (fun t k => iremM X0 hx rfl (hb hby d1_11) rfl (by decide) k) ?_
      show OwnOut p e s below 0 0 _ (T.setTop (mkF m 12 #[.val (.int x0), .val (.int (x0 - (102 : Int32)))] [(.int ((x0 - (102 : Int32)) % (2 : Int32)))]))
      by_cases hc12 : ((x0 - (102 : Int32)) % (2 : Int32)) = (0 : Int32)
      · rw [if_pos hc12] at hr
        refine OwnOut.go (fun t k => XS.ifNo X0.here hx rfl (hb hby d1_12) rfl (XT.i0_ne_f hc12) k) ?_
        show OwnOut p e s below 0 0 _ (T.setTop (mkF m 15 #[.val (.int x0), .val (.int (x0 - (102 : Int32)))] []))
        refine OwnOut.go (fun t k => XS.iloadN X0.here hx rfl (hb hby d1_15) rfl k) ?_
        show OwnOut p e s below 0 0 _ (T.setTop (mkF m 16 #[.val (.int x0), .val (.int (x0 - (102 : Int32)))] [(.int (x0 - (102 : Int32)))]))
        refine OwnOut.go (fun t k => XT.iconstV X0.here hx rfl (2 : Int32) (hb hby d1_16) rfl k) ?_
        show OwnOut p e s below 0 0 _ (T.setTop (mkF m 17 #[.val (.int x0), .val (.int (x0 - (102 : Int32)))] [(.int (2 : Int32)), (.int (x0 - (102 : Int32)))]))
        refine OwnOut.go (fun t k => XS.idiv X0.here hx rfl (hb hby d1_17) rfl (by decide) k) ?_
        show OwnOut p e s below 0 0 _ (T.setTop (mkF m 18 #[.val (.int x0), .val (.int (x0 - (102 : Int32)))] [(.int ((x0 - (102 : Int32)) / (2 : Int32)))]))
        refine OwnOut.go (fun t k => XT.bipushV X0.here hx rfl (77 : Int32) (hb hby d1_18) rfl k) ?_
        show OwnOut p e s below 0 0 _ (T.setTop (mkF m 20 #[.val (.int x0), .val (.int (x0 - (102 : Int32)))] [(.int (77 : Int32)), (.int ((x0 - (102 : Int32)) / (2 : Int32)))]))
        by_cases hc20 : ((x0 - (102 : Int32)) / (2 : Int32)) < (77 : Int32)
        · rw [if_pos hc20] at hr
          refine OwnOut.go (fun t k => XS.icmpNo X0.here hx rfl (hb hby d1_20) rfl (XT.ii_ge_f hc20) k) ?_
          show OwnOut p e s below 0 0 _ (T.setTop (mkF m 23 #[.val (.int x0), .val (.int (x0 - (102 : Int32)))] []))
          refine OwnOut.go (fun t k => XS.iloadN X0.here hx rfl (hb hby d1_23) rfl k) ?_
          show OwnOut p e s below 0 0 _ (T.setTop (mkF m 24 #[.val (.int x0), .val (.int (x0 - (102 : Int32)))] [(.int (x0 - (102 : Int32)))]))
          refine OwnOut.go (fun t k => XT.iconstV X0.here hx rfl (2 : Int32) (hb hby d1_24) rfl k) ?_
          show OwnOut p e s below 0 0 _ (T.setTop (mkF m 25 #[.val (.int x0), .val (.int (x0 - (102 : Int32)))] [(.int (2 : Int32)), (.int (x0 - (102 : Int32)))]))
          refine OwnOut.go (fun t k => XS.idiv X0.here hx rfl (hb hby d1_25) rfl (by decide) k) ?_
          show OwnOut p e s below 0 0 _ (T.setTop (mkF m 26 #[.val (.int x0), .val (.int (x0 - (102 : Int32)))] [(.int ((x0 - (102 : Int32)) / (2 : Int32)))]))
          refine OwnOut.go (fun t k => XS.goto X0.here hx rfl (pc0 := 26) (pc' := 30) rfl (hb hby d1_26) (by decide) (by decide) k) ?_
          show OwnOut p e s below 0 0 _ (T.setTop (mkF m 30 #[.val (.int x0), .val (.int (x0 - (102 : Int32)))] [(.int ((x0 - (102 : Int32)) / (2 : Int32)))]))
          cases hr
          exact outI X0 hx hret (hb hby d1_30) hlk (by decide) (by decide) ⟨rfl, e0, rfl⟩
        · rw [if_neg hc20] at hr
          refine OwnOut.go (fun t k => XS.icmpYes X0.here hx rfl (pc0 := 20) (pc' := 29) rfl (hb hby d1_20) rfl (XT.ii_ge_t hc20) (by decide) (by decide) k) ?_
          show OwnOut p e s below 0 0 _ (T.setTop (mkF m 29 #[.val (.int x0), .val (.int (x0 - (102 : Int32)))] []))
          refine OwnOut.go (fun t k => XT.iconstV X0.here hx rfl (-1 : Int32) (hb hby d1_29) rfl k) ?_
          show OwnOut p e s below 0 0 _ (T.setTop (mkF m 30 #[.val (.int x0), .val (.int (x0 - (102 : Int32)))] [(.int (-1 : Int32))]))
          cases hr
          exact outI X0 hx hret (hb hby d1_30) hlk (by decide) (by decide) ⟨rfl, e0, rfl⟩
      · rw [if_neg hc12] at hr
        refine OwnOut.go (fun t k => XS.ifYes X0.here hx rfl (pc0 := 12) (pc' := 29) rfl (hb hby d1_12) rfl (XT.i0_ne_t hc12) (by decide) (by decide) k) ?_
        show OwnOut p e s below 0 0 _ (T.setTop (mkF m 29 #[.val (.int x0), .val (.int (x0 - (102 : Int32)))] []))
        refine OwnOut.go (fun t k => XT.iconstV X0.here hx rfl (-1 : Int32) (hb hby d1_29) rfl k) ?_
        show OwnOut p e s below 0 0 _ (T.setTop (mkF m 30 #[.val (.int x0), .val (.int (x0 - (102 : Int32)))] [(.int (-1 : Int32))]))
        cases hr
        exact outI X0 hx hret (hb hby d1_30) hlk (by decide) (by decide) ⟨rfl, e0, rfl⟩
set_option maxRecDepth 65536 in
set_option maxHeartbeats 40000000 in
theorem rm1 (l : Launch) (Z : State) (a0 : Array Value) (hw : ∀ d ∈ tables_1, d.before a0 Z = true) (ws : List Jvm.Cond) (x0 : Int32) (h0 : Heap) (o : Int32) (hr : f1 x0 = some o) :
    MetFree l (⟨"com/example/ninewire/ninewire/RpcProtocol", "methodOfRequest", "(I)I"⟩ : MethodName) (head1 (Jvm.Cond.code (⟨"com/example/ninewire/ninewire/RpcProtocol", "methodOfRequest", "(I)I"⟩ : MethodName) prog_61_method_3_code 2 (some .int) :: ws) rx1) (fun a U => a = #[(.int x0)] ∧ Z.Warmed39 U.vm ∧ U.heap = h0) (fun _ _ _ _ _ => True) (fun _ U o' U' => ∃ v L, o' = .returned v ∧ Q1 Z x0 h0 o v U'.heap L ∧ FrameEnd U o' U' L rx1.cells rx1.slots) := by
  refine MetFree.of_bodySF (plainFor_of_name pn1) hisR ?_
  intro p e s m args below meth c s₁ Bd hml0 hP hK
  obtain ⟨rfl, hZ, hh⟩ := hP
  have X0 : Stand p l e rx1 s m #[(.int x0)] below meth c s₁ [] 0 0 := Stand.of_body Bd
  have e0 : s₁.heap = h0 := by rw [← hh, Bd.state]; rfl
  exact OwnOut.at (ef1 m x0) (w1_0 ⟨Bd.exec, hZ, hw, Bd.bytes, hml0, findClass_of_methodNamed Bd.named, Bd.returns, Bd.notSynchronized, (name_of_methodNamed Bd.named Bd.method).1⟩ _ x0 o hr X0 e0  )
-- body 2 as 2: com/example/ninewire/ninewire/RpcProtocol.requestType:(I)I (touches nothing)
theorem d2_0 : decode prog_61_method_1_code 0 = .ok (.iload_n 0, 1) := by decide +kernel
theorem d2_1 : decode prog_61_method_1_code 1 = .ok (.ifCond .lt 9, 3) := by decide +kernel
theorem d2_4 : decode prog_61_method_1_code 4 = .ok (.iload_n 0, 1) := by decide +kernel
theorem d2_5 : decode prog_61_method_1_code 5 = .ok (.bipush 77, 2) := by decide +kernel
theorem d2_7 : decode prog_61_method_1_code 7 = .ok (.if_icmp .lt 17, 3) := by decide +kernel
theorem d2_24 : decode prog_61_method_1_code 24 = .ok (.bipush 102, 2) := by decide +kernel
theorem d2_26 : decode prog_61_method_1_code 26 = .ok (.iconst 2, 1) := by decide +kernel
theorem d2_27 : decode prog_61_method_1_code 27 = .ok (.iload_n 0, 1) := by decide +kernel
theorem d2_28 : decode prog_61_method_1_code 28 = .ok (.imul, 1) := by decide +kernel
theorem d2_29 : decode prog_61_method_1_code 29 = .ok (.iadd, 1) := by decide +kernel
theorem d2_30 : decode prog_61_method_1_code 30 = .ok (.ireturn, 1) := by decide +kernel
theorem pn2 : plainName "com/example/ninewire/ninewire/RpcProtocol" = true := by first | (simp [plainName, overriddenIn]; done) | decide +kernel
theorem pd2 : parseMethodDescriptor "(I)I" = some ⟨[.int], some .int⟩ := by decide +kernel
theorem ef2 (m : MethodId) (x0 : Int32) : entryFrame m #[(.int x0)] 1 = mkF m 0 #[.val (.int x0)] [] := by first | (simp [entryFrame, mkF, argsToLocals, Value.category]; done) | rfl
abbrev rx2 : Room := { frames := 0, cells := 0, slots := 0, locals := 0 }
abbrev Cx2 (Z : State) (a0 : Array Value) (p : Program) (s : State) (m : MethodId) (meth : Method) (c : Code) : Prop := p.tables.exec = Jvm.exec ∧ Z.Warmed39 s.vm ∧ (∀ d ∈ tables_1, d.before a0 Z = true) ∧ c.code = prog_61_method_1_code ∧ c.maxLocals = 1 ∧ s.vm.findClass "com/example/ninewire/ninewire/RpcProtocol" = some m.cls ∧ meth.sig.returnType = (some .int) ∧ meth.locks = false ∧ meth.name = "requestType"
def Q2 (Z : State) (x0 : Int32) (h0 : Heap) (o : Int32) (v : Option Value) (h : Heap) (L : List Loc) : Prop := v = some (.int o) ∧ h = h0 ∧ L = []
def f2 (x0 : Int32) : Option (Int32) := (if x0 < (0 : Int32) then none else (if x0 < (77 : Int32) then some (((102 : Int32) + ((2 : Int32) * x0))) else none))
set_option maxRecDepth 65536 in
set_option maxHeartbeats 40000000 in
theorem w2_0 {p : Program} {l : Launch} {e : Env} {s : State} {m : MethodId} {args : Array Value} {below : List Frame} {meth : Method} {c : Code} {Z : State} {a0 : Array Value} {h0 : Heap} (C : Cx2 Z a0 p s m meth c) :
    ∀ (T : State) (x0 : Int32) (o : Int32), f2 x0 = some o → Stand p l e rx2 s m args below meth c T [] 0 0 → T.heap = h0 →  OwnOut p e s below 0 0 (Q2 Z default h0 o) (T.setTop (mkF m 0 #[.val (.int x0)] [])) := by
    obtain ⟨hx, hZ, hw, hby, hml, hown, hret, hlk, hnm⟩ := C
    intro T x0 o hr X0 e0
    rw [f2] at hr
    refine OwnOut.go (fun t k => XS.iloadN X0.here hx rfl (hb hby d2_0) rfl k) ?_
    show OwnOut p e s below 0 0 _ (T.setTop (mkF m 1 #[.val (.int x0)] [(.int x0)]))
    by_cases hc1 : x0 < (0 : Int32)
    · rw [if_pos hc1] at hr
      cases hr
    · rw [if_neg hc1] at hr
      refine OwnOut.go (fun t k => XS.ifNo X0.here hx rfl (hb hby d2_1) rfl (XT.i0_lt_f hc1) k) ?_
      show OwnOut p e s below 0 0 _ (T.setTop (mkF m 4 #[.val (.int x0)] []))
      refine OwnOut.go (fun t k => XS.iloadN X0.here hx rfl (hb hby d2_4) rfl k) ?_
      show OwnOut p e s below 0 0 _ (T.setTop (mkF m 5 #[.val (.int x0)] [(.int x0)]))
      refine OwnOut.go (fun t k => XT.bipushV X0.here hx rfl (77 : Int32) (hb hby d2_5) rfl k) ?_
      show OwnOut p e s below 0 0 _ (T.setTop (mkF m 7 #[.val (.int x0)] [(.int (77 : Int32)), (.int x0)]))
      by_cases hc7 : x0 < (77 : Int32)
      · rw [if_pos hc7] at hr
        refine OwnOut.go (fun t k => XS.icmpYes X0.here hx rfl (pc0 := 7) (pc' := 24) rfl (hb hby d2_7) rfl (XT.ii_lt_t hc7) (by decide) (by decide) k) ?_
        show OwnOut p e s below 0 0 _ (T.setTop (mkF m 24 #[.val (.int x0)] []))
        refine OwnOut.go (fun t k => XT.bipushV X0.here hx rfl (102 : Int32) (hb hby d2_24) rfl k) ?_
        show OwnOut p e s below 0 0 _ (T.setTop (mkF m 26 #[.val (.int x0)] [(.int (102 : Int32))]))
        refine OwnOut.go (fun t k => XT.iconstV X0.here hx rfl (2 : Int32) (hb hby d2_26) rfl k) ?_
        show OwnOut p e s below 0 0 _ (T.setTop (mkF m 27 #[.val (.int x0)] [(.int (2 : Int32)), (.int (102 : Int32))]))
        refine OwnOut.go (fun t k => XS.iloadN X0.here hx rfl (hb hby d2_27) rfl k) ?_
        show OwnOut p e s below 0 0 _ (T.setTop (mkF m 28 #[.val (.int x0)] [(.int x0), (.int (2 : Int32)), (.int (102 : Int32))]))
        refine OwnOut.go (fun t k => XS.imul X0.here hx rfl (hb hby d2_28) rfl k) ?_
        show OwnOut p e s below 0 0 _ (T.setTop (mkF m 29 #[.val (.int x0)] [(.int ((2 : Int32) * x0)), (.int (102 : Int32))]))
        refine OwnOut.go (fun t k => XS.iadd X0.here hx rfl (hb hby d2_29) rfl k) ?_
        show OwnOut p e s below 0 0 _ (T.setTop (mkF m 30 #[.val (.int x0)] [(.int ((102 : Int32) + ((2 : Int32) * x0)))]))
        cases hr
        exact outI X0 hx hret (hb hby d2_30) hlk (by decide) (by decide) ⟨rfl, e0, rfl⟩
      · rw [if_neg hc7] at hr
        cases hr
set_option maxRecDepth 65536 in
set_option maxHeartbeats 40000000 in
theorem rm2 (l : Launch) (Z : State) (a0 : Array Value) (hw : ∀ d ∈ tables_1, d.before a0 Z = true) (ws : List Jvm.Cond) (x0 : Int32) (h0 : Heap) (o : Int32) (hr : f2 x0 = some o) :
    MetFree l (⟨"com/example/ninewire/ninewire/RpcProtocol", "requestType", "(I)I"⟩ : MethodName) (head1 (Jvm.Cond.code (⟨"com/example/ninewire/ninewire/RpcProtocol", "requestType", "(I)I"⟩ : MethodName) prog_61_method_1_code 1 (some .int) :: ws) rx2) (fun a U => a = #[(.int x0)] ∧ Z.Warmed39 U.vm ∧ U.heap = h0) (fun _ _ _ _ _ => True) (fun _ U o' U' => ∃ v L, o' = .returned v ∧ Q2 Z x0 h0 o v U'.heap L ∧ FrameEnd U o' U' L rx2.cells rx2.slots) := by
  refine MetFree.of_bodySF (plainFor_of_name pn2) hisR ?_
  intro p e s m args below meth c s₁ Bd hml0 hP hK
  obtain ⟨rfl, hZ, hh⟩ := hP
  have X0 : Stand p l e rx2 s m #[(.int x0)] below meth c s₁ [] 0 0 := Stand.of_body Bd
  have e0 : s₁.heap = h0 := by rw [← hh, Bd.state]; rfl
  exact OwnOut.at (ef2 m x0) (w2_0 ⟨Bd.exec, hZ, hw, Bd.bytes, hml0, findClass_of_methodNamed Bd.named, Bd.returns, Bd.notSynchronized, (name_of_methodNamed Bd.named Bd.method).1⟩ _ x0 o hr X0 e0  )
-- body 3 as 3: com/example/ninewire/ninewire/RpcProtocol.responseType:(I)I (touches nothing)
theorem d3_0 : decode prog_61_method_2_code 0 = .ok (.iload_n 0, 1) := by decide +kernel
theorem d3_1 : decode prog_61_method_2_code 1 = .ok (.invokestatic 13, 3) := by decide +kernel
theorem d3_4 : decode prog_61_method_2_code 4 = .ok (.iconst 1, 1) := by decide +kernel
theorem d3_5 : decode prog_61_method_2_code 5 = .ok (.iadd, 1) := by decide +kernel
theorem d3_6 : decode prog_61_method_2_code 6 = .ok (.ireturn, 1) := by decide +kernel
theorem pn3 : plainName "com/example/ninewire/ninewire/RpcProtocol" = true := by first | (simp [plainName, overriddenIn]; done) | decide +kernel
theorem pd3 : parseMethodDescriptor "(I)I" = some ⟨[.int], some .int⟩ := by decide +kernel
theorem ef3 (m : MethodId) (x0 : Int32) : entryFrame m #[(.int x0)] 1 = mkF m 0 #[.val (.int x0)] [] := by first | (simp [entryFrame, mkF, argsToLocals, Value.category]; done) | rfl
abbrev rx3 : Room := { frames := 1, cells := 0, slots := 0, locals := 12 }
abbrev Cx3 (Z : State) (a0 : Array Value) (p : Program) (s : State) (m : MethodId) (meth : Method) (c : Code) : Prop := p.tables.exec = Jvm.exec ∧ Z.Warmed39 s.vm ∧ (∀ d ∈ tables_1, d.before a0 Z = true) ∧ c.code = prog_61_method_2_code ∧ c.maxLocals = 1 ∧ s.vm.findClass "com/example/ninewire/ninewire/RpcProtocol" = some m.cls ∧ meth.sig.returnType = (some .int) ∧ meth.locks = false ∧ meth.name = "responseType"
def Q3 (Z : State) (x0 : Int32) (h0 : Heap) (o : Int32) (v : Option Value) (h : Heap) (L : List Loc) : Prop := v = some (.int o) ∧ h = h0 ∧ L = []
def f3 (x0 : Int32) : Option (Int32) := ((f2 x0).bind fun o1 => some ((o1 + (1 : Int32))))
set_option maxRecDepth 65536 in
set_option maxHeartbeats 40000000 in
theorem w3_0 {p : Program} {l : Launch} {e : Env} {s : State} {m : MethodId} {args : Array Value} {below : List Frame} {meth : Method} {c : Code} {Z : State} {a0 : Array Value} {h0 : Heap} (C : Cx3 Z a0 p s m meth c) :
    ∀ (T : State) (x0 : Int32) (o : Int32), f3 x0 = some o → Stand p l e rx3 s m args below meth c T [] 0 0 → T.heap = h0 →  OwnOut p e s below 0 0 (Q3 Z default h0 o) (T.setTop (mkF m 0 #[.val (.int x0)] [])) := by
    obtain ⟨hx, hZ, hw, hby, hml, hown, hret, hlk, hnm⟩ := C
    intro T x0 o hr X0 e0
    rw [f3] at hr
    refine OwnOut.go (fun t k => XS.iloadN X0.here hx rfl (hb hby d3_0) rfl k) ?_
    show OwnOut p e s below 0 0 _ (T.setTop (mkF m 1 #[.val (.int x0)] [(.int x0)]))
    obtain ⟨o1, ho1, hr⟩ := Option.bind_eq_some_iff.mp hr
    obtain ⟨r1, T1, L1, X1', hQ1, st1⟩ := callQ (W := 0) (rm := rx2) X0 hx hZ (y := (⟨"com/example/ninewire/ninewire/RpcProtocol", "requestType", "(I)I"⟩ : MethodName)) hown (hw _ (List.mem_of_getElem? (i := 11) rfl)) (hw _ (List.mem_of_getElem? (i := 6) rfl)) (hw _ (List.mem_of_getElem? (i := 2) rfl)) (hw _ (List.mem_of_getElem? (i := 7) rfl)) (by decide) (rm2 l Z a0 hw [] x0 h0 o1 ho1 ) (by decide) (by decide) (by decide) (by decide) e0 (g := (mkF m 1 #[.val (.int x0)] [(.int x0)])) rfl (by rw [hml]; rfl) (argsL := [(.int x0)]) (rest := []) (lenOf pd2 rfl) rfl (by show 2 * 0 + _ ≤ _; exact Nat.le_of_eq rfl) (hb hby d3_1)
    obtain ⟨rfl, e1, rfl⟩ := hQ1
    rw [List.append_nil] at X1'
    have X1 : Stand p l e rx3 s m args below meth c T1 _ 0 0 := X1'
    refine OwnOut.go (fun t k => st1 _ k) ?_
    show OwnOut p e s below 0 0 _ (T1.setTop (mkF m 4 #[.val (.int x0)] [(.int o1)]))
    refine OwnOut.go (fun t k => XT.iconstV X1.here hx rfl (1 : Int32) (hb hby d3_4) rfl k) ?_
    show OwnOut p e s below 0 0 _ (T1.setTop (mkF m 5 #[.val (.int x0)] [(.int (1 : Int32)), (.int o1)]))
    refine OwnOut.go (fun t k => XS.iadd X1.here hx rfl (hb hby d3_5) rfl k) ?_
    show OwnOut p e s below 0 0 _ (T1.setTop (mkF m 6 #[.val (.int x0)] [(.int (o1 + (1 : Int32)))]))
    cases hr
    exact outI X1 hx hret (hb hby d3_6) hlk (by decide) (by decide) ⟨rfl, e1, rfl⟩
set_option maxRecDepth 65536 in
set_option maxHeartbeats 40000000 in
theorem rm3 (l : Launch) (Z : State) (a0 : Array Value) (hw : ∀ d ∈ tables_1, d.before a0 Z = true) (ws : List Jvm.Cond) (x0 : Int32) (h0 : Heap) (o : Int32) (hr : f3 x0 = some o) :
    MetFree l (⟨"com/example/ninewire/ninewire/RpcProtocol", "responseType", "(I)I"⟩ : MethodName) (head1 (Jvm.Cond.code (⟨"com/example/ninewire/ninewire/RpcProtocol", "responseType", "(I)I"⟩ : MethodName) prog_61_method_2_code 1 (some .int) :: ws) rx3) (fun a U => a = #[(.int x0)] ∧ Z.Warmed39 U.vm ∧ U.heap = h0) (fun _ _ _ _ _ => True) (fun _ U o' U' => ∃ v L, o' = .returned v ∧ Q3 Z x0 h0 o v U'.heap L ∧ FrameEnd U o' U' L rx3.cells rx3.slots) := by
  refine MetFree.of_bodySF (plainFor_of_name pn3) hisR ?_
  intro p e s m args below meth c s₁ Bd hml0 hP hK
  obtain ⟨rfl, hZ, hh⟩ := hP
  have X0 : Stand p l e rx3 s m #[(.int x0)] below meth c s₁ [] 0 0 := Stand.of_body Bd
  have e0 : s₁.heap = h0 := by rw [← hh, Bd.state]; rfl
  exact OwnOut.at (ef3 m x0) (w3_0 ⟨Bd.exec, hZ, hw, Bd.bytes, hml0, findClass_of_methodNamed Bd.named, Bd.returns, Bd.notSynchronized, (name_of_methodNamed Bd.named Bd.method).1⟩ _ x0 o hr X0 e0  )
-- body 0 as 0: com/example/ninewire/ninewire/RpcProtocolMethodOfRequestPinLaw.law:(II)Z
theorem pn0 : plainName "com/example/ninewire/ninewire/RpcProtocolMethodOfRequestPinLaw" = true := by first | (simp [plainName, overriddenIn]; done) | decide +kernel
theorem pd0 : parseMethodDescriptor "(II)Z" = some ⟨[.int, .int], some .boolean⟩ := by decide +kernel
theorem ef0 (m : MethodId) (x0 : Int32) (x1 : Int32) : entryFrame m #[(.int x0), (.int x1)] maxLocals = mkF m 0 #[.val (.int x0), .val (.int x1), .unset, .unset, .unset, .unset, .unset, .unset] [] := by first | (simp [entryFrame, mkF, argsToLocals, Value.category, maxLocals]; done) | rfl
abbrev Cx0 (Z : State) (a0 : Array Value) (p : Program) (s : State) (m : MethodId) (meth : Method) (c : Code) : Prop := p.tables.exec = Jvm.exec ∧ Z.Warmed39 s.vm ∧ (∀ d ∈ tables_1, d.before a0 Z = true) ∧ c.code = code ∧ c.maxLocals = 8 ∧ s.vm.findClass "com/example/ninewire/ninewire/RpcProtocolMethodOfRequestPinLaw" = some m.cls ∧ meth.sig.returnType = (some .boolean) ∧ meth.locks = false ∧ meth.name = "law"
def Q0 (Z : State) (x0 : Int32) (x1 : Int32) (h0 : Heap) (n0 : Nat) (o : Int32) (v : Option Value) (h : Heap) (L : List Loc) : Prop := v = some (.int o) ∧ Fr n0 L
def f0_120 (x4 : Int32) (x6 : Int32) (y0 : Int32) : Option (Int32) := (if x4 = (0 : Int32) then some ((0 : Int32)) else (if x6 = (0 : Int32) then some ((0 : Int32)) else (if y0 = (0 : Int32) then some ((0 : Int32)) else some ((1 : Int32)))))
set_option maxRecDepth 65536 in
set_option maxHeartbeats 40000000 in
theorem w0_120 {p : Program} {l : Launch} {e : Env} {s : State} {m : MethodId} {args : Array Value} {below : List Frame} {meth : Method} {c : Code} {Z : State} {a0 : Array Value} {h0 : Heap} {n0 : Nat} (C : Cx0 Z a0 p s m meth c) :
    ∀ (T : State) (locs : List Loc) (hA : Heap) (x0 : Int32) (x1 : Int32) (x2 : Int32) (x3 : Int32) (x4 : Int32) (x5 : Int32) (x6 : Int32) (y0 : Int32) (o : Int32), f0_120 x4 x6 y0 = some o → Stand p l e room_1 s m args below meth c T locs 0 0 → T.heap = hA → Fr n0 locs → Old Z n0 hA → Keep h0 hA [] →  OwnOut p e s below 0 0 (Q0 Z default default h0 n0 o) (T.setTop (mkF m 120 #[.val (.int x0), .val (.int x1), .val (.int x2), .val (.int x3), .val (.int x4), .val (.int x5), .val (.int x6), .unset] [(.int y0)])) := by
    obtain ⟨hx, hZ, hw, hby, hml, hown, hret, hlk, hnm⟩ := C
    intro T locs hA x0 x1 x2 x3 x4 x5 x6 y0 o hr X0 e0 N0 O0 K0
    rw [f0_120] at hr
    refine OwnOut.go (fun t k => XS.istore X0.here hx rfl (hb hby at_120) rfl (l' := #[.val (.int x0), .val (.int x1), .val (.int x2), .val (.int x3), .val (.int x4), .val (.int x5), .val (.int x6), .val (.int y0)]) rfl k) ?_
    show OwnOut p e s below 0 0 _ (T.setTop (mkF m 122 #[.val (.int x0), .val (.int x1), .val (.int x2), .val (.int x3), .val (.int x4), .val (.int x5), .val (.int x6), .val (.int y0)] []))
    refine OwnOut.go (fun t k => XS.iload X0.here hx rfl (hb hby at_122) rfl k) ?_
    show OwnOut p e s below 0 0 _ (T.setTop (mkF m 124 #[.val (.int x0), .val (.int x1), .val (.int x2), .val (.int x3), .val (.int x4), .val (.int x5), .val (.int x6), .val (.int y0)] [(.int x4)]))
    by_cases hc124 : x4 = (0 : Int32)
    · rw [if_pos hc124] at hr
      refine OwnOut.go (fun t k => XS.ifYes X0.here hx rfl (pc0 := 124) (pc' := 141) rfl (hb hby at_124) rfl (XT.i0_eq_t hc124) (by decide) (by decide) k) ?_
      show OwnOut p e s below 0 0 _ (T.setTop (mkF m 141 #[.val (.int x0), .val (.int x1), .val (.int x2), .val (.int x3), .val (.int x4), .val (.int x5), .val (.int x6), .val (.int y0)] []))
      refine OwnOut.go (fun t k => XT.iconstV X0.here hx rfl (0 : Int32) (hb hby at_141) rfl k) ?_
      show OwnOut p e s below 0 0 _ (T.setTop (mkF m 142 #[.val (.int x0), .val (.int x1), .val (.int x2), .val (.int x3), .val (.int x4), .val (.int x5), .val (.int x6), .val (.int y0)] [(.int (0 : Int32))]))
      cases hr
      exact outZ X0 hx hret (hb hby at_142) hlk (by decide) (by decide) ⟨rfl, N0⟩
    · rw [if_neg hc124] at hr
      refine OwnOut.go (fun t k => XS.ifNo X0.here hx rfl (hb hby at_124) rfl (XT.i0_eq_f hc124) k) ?_
      show OwnOut p e s below 0 0 _ (T.setTop (mkF m 127 #[.val (.int x0), .val (.int x1), .val (.int x2), .val (.int x3), .val (.int x4), .val (.int x5), .val (.int x6), .val (.int y0)] []))
      refine OwnOut.go (fun t k => XS.iload X0.here hx rfl (hb hby at_127) rfl k) ?_
      show OwnOut p e s below 0 0 _ (T.setTop (mkF m 129 #[.val (.int x0), .val (.int x1), .val (.int x2), .val (.int x3), .val (.int x4), .val (.int x5), .val (.int x6), .val (.int y0)] [(.int x6)]))
      by_cases hc129 : x6 = (0 : Int32)
      · rw [if_pos hc129] at hr
        refine OwnOut.go (fun t k => XS.ifYes X0.here hx rfl (pc0 := 129) (pc' := 141) rfl (hb hby at_129) rfl (XT.i0_eq_t hc129) (by decide) (by decide) k) ?_
        show OwnOut p e s below 0 0 _ (T.setTop (mkF m 141 #[.val (.int x0), .val (.int x1), .val (.int x2), .val (.int x3), .val (.int x4), .val (.int x5), .val (.int x6), .val (.int y0)] []))
        refine OwnOut.go (fun t k => XT.iconstV X0.here hx rfl (0 : Int32) (hb hby at_141) rfl k) ?_
        show OwnOut p e s below 0 0 _ (T.setTop (mkF m 142 #[.val (.int x0), .val (.int x1), .val (.int x2), .val (.int x3), .val (.int x4), .val (.int x5), .val (.int x6), .val (.int y0)] [(.int (0 : Int32))]))
        cases hr
        exact outZ X0 hx hret (hb hby at_142) hlk (by decide) (by decide) ⟨rfl, N0⟩
      · rw [if_neg hc129] at hr
        refine OwnOut.go (fun t k => XS.ifNo X0.here hx rfl (hb hby at_129) rfl (XT.i0_eq_f hc129) k) ?_
        show OwnOut p e s below 0 0 _ (T.setTop (mkF m 132 #[.val (.int x0), .val (.int x1), .val (.int x2), .val (.int x3), .val (.int x4), .val (.int x5), .val (.int x6), .val (.int y0)] []))
        refine OwnOut.go (fun t k => XS.iload X0.here hx rfl (hb hby at_132) rfl k) ?_
        show OwnOut p e s below 0 0 _ (T.setTop (mkF m 134 #[.val (.int x0), .val (.int x1), .val (.int x2), .val (.int x3), .val (.int x4), .val (.int x5), .val (.int x6), .val (.int y0)] [(.int y0)]))
        by_cases hc134 : y0 = (0 : Int32)
        · rw [if_pos hc134] at hr
          refine OwnOut.go (fun t k => XS.ifYes X0.here hx rfl (pc0 := 134) (pc' := 141) rfl (hb hby at_134) rfl (XT.i0_eq_t hc134) (by decide) (by decide) k) ?_
          show OwnOut p e s below 0 0 _ (T.setTop (mkF m 141 #[.val (.int x0), .val (.int x1), .val (.int x2), .val (.int x3), .val (.int x4), .val (.int x5), .val (.int x6), .val (.int y0)] []))
          refine OwnOut.go (fun t k => XT.iconstV X0.here hx rfl (0 : Int32) (hb hby at_141) rfl k) ?_
          show OwnOut p e s below 0 0 _ (T.setTop (mkF m 142 #[.val (.int x0), .val (.int x1), .val (.int x2), .val (.int x3), .val (.int x4), .val (.int x5), .val (.int x6), .val (.int y0)] [(.int (0 : Int32))]))
          cases hr
          exact outZ X0 hx hret (hb hby at_142) hlk (by decide) (by decide) ⟨rfl, N0⟩
        · rw [if_neg hc134] at hr
          refine OwnOut.go (fun t k => XS.ifNo X0.here hx rfl (hb hby at_134) rfl (XT.i0_eq_f hc134) k) ?_
          show OwnOut p e s below 0 0 _ (T.setTop (mkF m 137 #[.val (.int x0), .val (.int x1), .val (.int x2), .val (.int x3), .val (.int x4), .val (.int x5), .val (.int x6), .val (.int y0)] []))
          refine OwnOut.go (fun t k => XT.iconstV X0.here hx rfl (1 : Int32) (hb hby at_137) rfl k) ?_
          show OwnOut p e s below 0 0 _ (T.setTop (mkF m 138 #[.val (.int x0), .val (.int x1), .val (.int x2), .val (.int x3), .val (.int x4), .val (.int x5), .val (.int x6), .val (.int y0)] [(.int (1 : Int32))]))
          refine OwnOut.go (fun t k => XS.goto X0.here hx rfl (pc0 := 138) (pc' := 142) rfl (hb hby at_138) (by decide) (by decide) k) ?_
          show OwnOut p e s below 0 0 _ (T.setTop (mkF m 142 #[.val (.int x0), .val (.int x1), .val (.int x2), .val (.int x3), .val (.int x4), .val (.int x5), .val (.int x6), .val (.int y0)] [(.int (1 : Int32))]))
          cases hr
          exact outZ X0 hx hret (hb hby at_142) hlk (by decide) (by decide) ⟨rfl, N0⟩
def f0_101 (x4 : Int32) (x5 : Int32) (y0 : Int32) : Option (Int32) := ((f3 x5).bind fun o4 => ((f1 o4).bind fun o5 => (if o5 = (-1 : Int32) then (f0_120 x4 y0 (1 : Int32)) else (f0_120 x4 y0 (0 : Int32)))))
set_option maxRecDepth 65536 in
set_option maxHeartbeats 40000000 in
theorem w0_101 {p : Program} {l : Launch} {e : Env} {s : State} {m : MethodId} {args : Array Value} {below : List Frame} {meth : Method} {c : Code} {Z : State} {a0 : Array Value} {h0 : Heap} {n0 : Nat} (C : Cx0 Z a0 p s m meth c) :
    ∀ (T : State) (locs : List Loc) (hA : Heap) (x0 : Int32) (x1 : Int32) (x2 : Int32) (x3 : Int32) (x4 : Int32) (x5 : Int32) (y0 : Int32) (o : Int32), f0_101 x4 x5 y0 = some o → Stand p l e room_1 s m args below meth c T locs 0 0 → T.heap = hA → Fr n0 locs → Old Z n0 hA → Keep h0 hA [] →  OwnOut p e s below 0 0 (Q0 Z default default h0 n0 o) (T.setTop (mkF m 101 #[.val (.int x0), .val (.int x1), .val (.int x2), .val (.int x3), .val (.int x4), .val (.int x5), .unset, .unset] [(.int y0)])) := by
    obtain ⟨hx, hZ, hw, hby, hml, hown, hret, hlk, hnm⟩ := C
    intro T locs hA x0 x1 x2 x3 x4 x5 y0 o hr X0 e0 N0 O0 K0
    rw [f0_101] at hr
    refine OwnOut.go (fun t k => XS.istore X0.here hx rfl (hb hby at_101) rfl (l' := #[.val (.int x0), .val (.int x1), .val (.int x2), .val (.int x3), .val (.int x4), .val (.int x5), .val (.int y0), .unset]) rfl k) ?_
    show OwnOut p e s below 0 0 _ (T.setTop (mkF m 103 #[.val (.int x0), .val (.int x1), .val (.int x2), .val (.int x3), .val (.int x4), .val (.int x5), .val (.int y0), .unset] []))
    refine OwnOut.go (fun t k => XS.iload X0.here hx rfl (hb hby at_103) rfl k) ?_
    show OwnOut p e s below 0 0 _ (T.setTop (mkF m 105 #[.val (.int x0), .val (.int x1), .val (.int x2), .val (.int x3), .val (.int x4), .val (.int x5), .val (.int y0), .unset] [(.int x5)]))
    obtain ⟨o4, ho4, hr⟩ := Option.bind_eq_some_iff.mp hr
    obtain ⟨r4, T4, L4, X4', hQ4, st4⟩ := callQ (W := 0) (rm := rx3) X0 hx hZ (y := (⟨"com/example/ninewire/ninewire/RpcProtocol", "responseType", "(I)I"⟩ : MethodName)) hown (hw _ (List.mem_of_getElem? (i := 8) rfl)) (hw _ (List.mem_of_getElem? (i := 9) rfl)) (hw _ (List.mem_of_getElem? (i := 2) rfl)) (hw _ (List.mem_of_getElem? (i := 10) rfl)) (by decide) (rm3 l Z a0 hw [] x5 hA o4 ho4 ) (by decide) (by decide) (by decide) (by decide) e0 (g := (mkF m 105 #[.val (.int x0), .val (.int x1), .val (.int x2), .val (.int x3), .val (.int x4), .val (.int x5), .val (.int y0), .unset] [(.int x5)])) rfl (by rw [hml]; rfl) (argsL := [(.int x5)]) (rest := []) (lenOf pd3 rfl) rfl (by show 2 * 0 + _ ≤ _; exact Nat.le_of_eq rfl) (hb hby at_105)
    obtain ⟨rfl, e4, rfl⟩ := hQ4
    rw [List.append_nil] at X4'
    have X4 : Stand p l e room_1 s m args below meth c T4 _ 0 0 := X4'
    refine OwnOut.go (fun t k => st4 _ k) ?_
    show OwnOut p e s below 0 0 _ (T4.setTop (mkF m 108 #[.val (.int x0), .val (.int x1), .val (.int x2), .val (.int x3), .val (.int x4), .val (.int x5), .val (.int y0), .unset] [(.int o4)]))
    obtain ⟨o5, ho5, hr⟩ := Option.bind_eq_some_iff.mp hr
    obtain ⟨r5, T5, L5, X5', hQ5, st5⟩ := callQ (W := 0) (rm := rx1) X4 hx hZ (y := (⟨"com/example/ninewire/ninewire/RpcProtocol", "methodOfRequest", "(I)I"⟩ : MethodName)) hown (hw _ (List.mem_of_getElem? (i := 0) rfl)) (hw _ (List.mem_of_getElem? (i := 1) rfl)) (hw _ (List.mem_of_getElem? (i := 2) rfl)) (hw _ (List.mem_of_getElem? (i := 3) rfl)) (by decide) (rm1 l Z a0 hw [] o4 hA o5 ho5 ) (by decide) (by decide) (by decide) (by decide) e4 (g := (mkF m 108 #[.val (.int x0), .val (.int x1), .val (.int x2), .val (.int x3), .val (.int x4), .val (.int x5), .val (.int y0), .unset] [(.int o4)])) rfl (by rw [hml]; rfl) (argsL := [(.int o4)]) (rest := []) (lenOf pd1 rfl) rfl (by show 2 * 0 + _ ≤ _; exact Nat.le_of_eq rfl) (hb hby at_108)
    obtain ⟨rfl, e5, rfl⟩ := hQ5
    rw [List.append_nil] at X5'
    have X5 : Stand p l e room_1 s m args below meth c T5 _ 0 0 := X5'
    refine OwnOut.go (fun t k => st5 _ k) ?_
    show OwnOut p e s below 0 0 _ (T5.setTop (mkF m 111 #[.val (.int x0), .val (.int x1), .val (.int x2), .val (.int x3), .val (.int x4), .val (.int x5), .val (.int y0), .unset] [(.int o5)]))
    refine OwnOut.go (fun t k => XT.iconstV X5.here hx rfl (-1 : Int32) (hb hby at_111) rfl k) ?_
    show OwnOut p e s below 0 0 _ (T5.setTop (mkF m 112 #[.val (.int x0), .val (.int x1), .val (.int x2), .val (.int x3), .val (.int x4), .val (.int x5), .val (.int y0), .unset] [(.int (-1 : Int32)), (.int o5)]))
    by_cases hc112 : o5 = (-1 : Int32)
    · rw [if_pos hc112] at hr
      refine OwnOut.go (fun t k => XS.icmpNo X5.here hx rfl (hb hby at_112) rfl (XT.ii_ne_f hc112) k) ?_
      show OwnOut p e s below 0 0 _ (T5.setTop (mkF m 115 #[.val (.int x0), .val (.int x1), .val (.int x2), .val (.int x3), .val (.int x4), .val (.int x5), .val (.int y0), .unset] []))
      refine OwnOut.go (fun t k => XT.iconstV X5.here hx rfl (1 : Int32) (hb hby at_115) rfl k) ?_
      show OwnOut p e s below 0 0 _ (T5.setTop (mkF m 116 #[.val (.int x0), .val (.int x1), .val (.int x2), .val (.int x3), .val (.int x4), .val (.int x5), .val (.int y0), .unset] [(.int (1 : Int32))]))
      refine OwnOut.go (fun t k => XS.goto X5.here hx rfl (pc0 := 116) (pc' := 120) rfl (hb hby at_116) (by decide) (by decide) k) ?_
      show OwnOut p e s below 0 0 _ (T5.setTop (mkF m 120 #[.val (.int x0), .val (.int x1), .val (.int x2), .val (.int x3), .val (.int x4), .val (.int x5), .val (.int y0), .unset] [(.int (1 : Int32))]))
      exact w0_120 ⟨hx, hZ, hw, hby, hml, hown, hret, hlk, hnm⟩  _ _ _ x0 x1 x2 x3 x4 x5 y0 (1 : Int32) _ hr X5 e5 N0 O0 K0
    · rw [if_neg hc112] at hr
      refine OwnOut.go (fun t k => XS.icmpYes X5.here hx rfl (pc0 := 112) (pc' := 119) rfl (hb hby at_112) rfl (XT.ii_ne_t hc112) (by decide) (by decide) k) ?_
      show OwnOut p e s below 0 0 _ (T5.setTop (mkF m 119 #[.val (.int x0), .val (.int x1), .val (.int x2), .val (.int x3), .val (.int x4), .val (.int x5), .val (.int y0), .unset] []))
      refine OwnOut.go (fun t k => XT.iconstV X5.here hx rfl (0 : Int32) (hb hby at_119) rfl k) ?_
      show OwnOut p e s below 0 0 _ (T5.setTop (mkF m 120 #[.val (.int x0), .val (.int x1), .val (.int x2), .val (.int x3), .val (.int x4), .val (.int x5), .val (.int y0), .unset] [(.int (0 : Int32))]))
      exact w0_120 ⟨hx, hZ, hw, hby, hml, hown, hret, hlk, hnm⟩  _ _ _ x0 x1 x2 x3 x4 x5 y0 (0 : Int32) _ hr X5 e5 N0 O0 K0
def f0_74 (x1 : Int32) (x4 : Int32) : Option (Int32) := ((f2 ((x1 &&& (2147483647 : Int32)) % (77 : Int32))).bind fun o2 => ((f1 o2).bind fun o3 => (if o3 = ((x1 &&& (2147483647 : Int32)) % (77 : Int32)) then (f0_101 x4 ((x1 &&& (2147483647 : Int32)) % (77 : Int32)) (1 : Int32)) else (f0_101 x4 ((x1 &&& (2147483647 : Int32)) % (77 : Int32)) (0 : Int32)))))
set_option maxRecDepth 65536 in
set_option maxHeartbeats 40000000 in
theorem w0_74 {p : Program} {l : Launch} {e : Env} {s : State} {m : MethodId} {args : Array Value} {below : List Frame} {meth : Method} {c : Code} {Z : State} {a0 : Array Value} {h0 : Heap} {n0 : Nat} (C : Cx0 Z a0 p s m meth c) :
    ∀ (T : State) (locs : List Loc) (hA : Heap) (x0 : Int32) (x1 : Int32) (x2 : Int32) (x3 : Int32) (x4 : Int32) (o : Int32), f0_74 x1 x4 = some o → Stand p l e room_1 s m args below meth c T locs 0 0 → T.heap = hA → Fr n0 locs → Old Z n0 hA → Keep h0 hA [] →  OwnOut p e s below 0 0 (Q0 Z default default h0 n0 o) (T.setTop (mkF m 74 #[.val (.int x0), .val (.int x1), .val (.int x2), .val (.int x3), .val (.int x4), .unset, .unset, .unset] [])) := by
    obtain ⟨hx, hZ, hw, hby, hml, hown, hret, hlk, hnm⟩ := C
    intro T locs hA x0 x1 x2 x3 x4 o hr X0 e0 N0 O0 K0
    rw [f0_74] at hr
    refine OwnOut.go (fun t k => XS.iloadN X0.here hx rfl (hb hby at_74) rfl k) ?_
    show OwnOut p e s below 0 0 _ (T.setTop (mkF m 75 #[.val (.int x0), .val (.int x1), .val (.int x2), .val (.int x3), .val (.int x4), .unset, .unset, .unset] [(.int x1)]))
    refine OwnOut.go (fun t k => X0.ldcInt hx hown (mvT hZ (hw _ (List.mem_of_getElem? (i := 4) rfl))) (g := (mkF m 75 #[.val (.int x0), .val (.int x1), .val (.int x2), .val (.int x3), .val (.int x4), .unset, .unset, .unset] [(.int x1)])) rfl (hb hby at_75) _ k) ?_
    show OwnOut p e s below 0 0 _ (T.setTop (mkF m 77 #[.val (.int x0), .val (.int x1), .val (.int x2), .val (.int x3), .val (.int x4), .unset, .unset, .unset] [(.int (2147483647 : Int32)), (.int x1)]))
    refine OwnOut.go (fun t k => XS.iand X0.here hx rfl (hb hby at_77) rfl k) ?_
    show OwnOut p e s below 0 0 _ (T.setTop (mkF m 78 #[.val (.int x0), .val (.int x1), .val (.int x2), .val (.int x3), .val (.int x4), .unset, .unset, .unset] [(.int (x1 &&& (2147483647 : Int32)))]))
    refine OwnOut.go (fun t k => XT.bipushV X0.here hx rfl (77 : Int32) (hb hby at_78) rfl k) ?_
    show OwnOut p e s below 0 0 _ (T.setTop (mkF m 80 #[.val (.int x0), .val (.int x1), .val (.int x2), .val (.int x3), .val (.int x4), .unset, .unset, .unset] [(.int (77 : Int32)), (.int (x1 &&& (2147483647 : Int32)))]))
    refine OwnOut.go (fun t k => iremM X0 hx rfl (hb hby at_80) rfl (by decide) k) ?_
    show OwnOut p e s below 0 0 _ (T.setTop (mkF m 81 #[.val (.int x0), .val (.int x1), .val (.int x2), .val (.int x3), .val (.int x4), .unset, .unset, .unset] [(.int ((x1 &&& (2147483647 : Int32)) % (77 : Int32)))]))
    refine OwnOut.go (fun t k => XS.istore X0.here hx rfl (hb hby at_81) rfl (l' := #[.val (.int x0), .val (.int x1), .val (.int x2), .val (.int x3), .val (.int x4), .val (.int ((x1 &&& (2147483647 : Int32)) % (77 : Int32))), .unset, .unset]) rfl k) ?_
    show OwnOut p e s below 0 0 _ (T.setTop (mkF m 83 #[.val (.int x0), .val (.int x1), .val (.int x2), .val (.int x3), .val (.int x4), .val (.int ((x1 &&& (2147483647 : Int32)) % (77 : Int32))), .unset, .unset] []))
    refine OwnOut.go (fun t k => XS.iload X0.here hx rfl (hb hby at_83) rfl k) ?_
    show OwnOut p e s below 0 0 _ (T.setTop (mkF m 85 #[.val (.int x0), .val (.int x1), .val (.int x2), .val (.int x3), .val (.int x4), .val (.int ((x1 &&& (2147483647 : Int32)) % (77 : Int32))), .unset, .unset] [(.int ((x1 &&& (2147483647 : Int32)) % (77 : Int32)))]))
    obtain ⟨o2, ho2, hr⟩ := Option.bind_eq_some_iff.mp hr
    obtain ⟨r2, T2, L2, X2', hQ2, st2⟩ := callQ (W := 0) (rm := rx2) X0 hx hZ (y := (⟨"com/example/ninewire/ninewire/RpcProtocol", "requestType", "(I)I"⟩ : MethodName)) hown (hw _ (List.mem_of_getElem? (i := 5) rfl)) (hw _ (List.mem_of_getElem? (i := 6) rfl)) (hw _ (List.mem_of_getElem? (i := 2) rfl)) (hw _ (List.mem_of_getElem? (i := 7) rfl)) (by decide) (rm2 l Z a0 hw [] ((x1 &&& (2147483647 : Int32)) % (77 : Int32)) hA o2 ho2 ) (by decide) (by decide) (by decide) (by decide) e0 (g := (mkF m 85 #[.val (.int x0), .val (.int x1), .val (.int x2), .val (.int x3), .val (.int x4), .val (.int ((x1 &&& (2147483647 : Int32)) % (77 : Int32))), .unset, .unset] [(.int ((x1 &&& (2147483647 : Int32)) % (77 : Int32)))])) rfl (by rw [hml]; rfl) (argsL := [(.int ((x1 &&& (2147483647 : Int32)) % (77 : Int32)))]) (rest := []) (lenOf pd2 rfl) rfl (by show 2 * 0 + _ ≤ _; exact Nat.le_of_eq rfl) (hb hby at_85)
    obtain ⟨rfl, e2, rfl⟩ := hQ2
    rw [List.append_nil] at X2'
    have X2 : Stand p l e room_1 s m args below meth c T2 _ 0 0 := X2'
    refine OwnOut.go (fun t k => st2 _ k) ?_
    show OwnOut p e s below 0 0 _ (T2.setTop (mkF m 88 #[.val (.int x0), .val (.int x1), .val (.int x2), .val (.int x3), .val (.int x4), .val (.int ((x1 &&& (2147483647 : Int32)) % (77 : Int32))), .unset, .unset] [(.int o2)]))
    obtain ⟨o3, ho3, hr⟩ := Option.bind_eq_some_iff.mp hr
    obtain ⟨r3, T3, L3, X3', hQ3, st3⟩ := callQ (W := 0) (rm := rx1) X2 hx hZ (y := (⟨"com/example/ninewire/ninewire/RpcProtocol", "methodOfRequest", "(I)I"⟩ : MethodName)) hown (hw _ (List.mem_of_getElem? (i := 0) rfl)) (hw _ (List.mem_of_getElem? (i := 1) rfl)) (hw _ (List.mem_of_getElem? (i := 2) rfl)) (hw _ (List.mem_of_getElem? (i := 3) rfl)) (by decide) (rm1 l Z a0 hw [] o2 hA o3 ho3 ) (by decide) (by decide) (by decide) (by decide) e2 (g := (mkF m 88 #[.val (.int x0), .val (.int x1), .val (.int x2), .val (.int x3), .val (.int x4), .val (.int ((x1 &&& (2147483647 : Int32)) % (77 : Int32))), .unset, .unset] [(.int o2)])) rfl (by rw [hml]; rfl) (argsL := [(.int o2)]) (rest := []) (lenOf pd1 rfl) rfl (by show 2 * 0 + _ ≤ _; exact Nat.le_of_eq rfl) (hb hby at_88)
    obtain ⟨rfl, e3, rfl⟩ := hQ3
    rw [List.append_nil] at X3'
    have X3 : Stand p l e room_1 s m args below meth c T3 _ 0 0 := X3'
    refine OwnOut.go (fun t k => st3 _ k) ?_
    show OwnOut p e s below 0 0 _ (T3.setTop (mkF m 91 #[.val (.int x0), .val (.int x1), .val (.int x2), .val (.int x3), .val (.int x4), .val (.int ((x1 &&& (2147483647 : Int32)) % (77 : Int32))), .unset, .unset] [(.int o3)]))
    refine OwnOut.go (fun t k => XS.iload X3.here hx rfl (hb hby at_91) rfl k) ?_
    show OwnOut p e s below 0 0 _ (T3.setTop (mkF m 93 #[.val (.int x0), .val (.int x1), .val (.int x2), .val (.int x3), .val (.int x4), .val (.int ((x1 &&& (2147483647 : Int32)) % (77 : Int32))), .unset, .unset] [(.int ((x1 &&& (2147483647 : Int32)) % (77 : Int32))), (.int o3)]))
    by_cases hc93 : o3 = ((x1 &&& (2147483647 : Int32)) % (77 : Int32))
    · rw [if_pos hc93] at hr
      refine OwnOut.go (fun t k => XS.icmpNo X3.here hx rfl (hb hby at_93) rfl (XT.ii_ne_f hc93) k) ?_
      show OwnOut p e s below 0 0 _ (T3.setTop (mkF m 96 #[.val (.int x0), .val (.int x1), .val (.int x2), .val (.int x3), .val (.int x4), .val (.int ((x1 &&& (2147483647 : Int32)) % (77 : Int32))), .unset, .unset] []))
      refine OwnOut.go (fun t k => XT.iconstV X3.here hx rfl (1 : Int32) (hb hby at_96) rfl k) ?_
      show OwnOut p e s below 0 0 _ (T3.setTop (mkF m 97 #[.val (.int x0), .val (.int x1), .val (.int x2), .val (.int x3), .val (.int x4), .val (.int ((x1 &&& (2147483647 : Int32)) % (77 : Int32))), .unset, .unset] [(.int (1 : Int32))]))
      refine OwnOut.go (fun t k => XS.goto X3.here hx rfl (pc0 := 97) (pc' := 101) rfl (hb hby at_97) (by decide) (by decide) k) ?_
      show OwnOut p e s below 0 0 _ (T3.setTop (mkF m 101 #[.val (.int x0), .val (.int x1), .val (.int x2), .val (.int x3), .val (.int x4), .val (.int ((x1 &&& (2147483647 : Int32)) % (77 : Int32))), .unset, .unset] [(.int (1 : Int32))]))
      exact w0_101 ⟨hx, hZ, hw, hby, hml, hown, hret, hlk, hnm⟩  _ _ _ x0 x1 x2 x3 x4 ((x1 &&& (2147483647 : Int32)) % (77 : Int32)) (1 : Int32) _ hr X3 e3 N0 O0 K0
    · rw [if_neg hc93] at hr
      refine OwnOut.go (fun t k => XS.icmpYes X3.here hx rfl (pc0 := 93) (pc' := 100) rfl (hb hby at_93) rfl (XT.ii_ne_t hc93) (by decide) (by decide) k) ?_
      show OwnOut p e s below 0 0 _ (T3.setTop (mkF m 100 #[.val (.int x0), .val (.int x1), .val (.int x2), .val (.int x3), .val (.int x4), .val (.int ((x1 &&& (2147483647 : Int32)) % (77 : Int32))), .unset, .unset] []))
      refine OwnOut.go (fun t k => XT.iconstV X3.here hx rfl (0 : Int32) (hb hby at_100) rfl k) ?_
      show OwnOut p e s below 0 0 _ (T3.setTop (mkF m 101 #[.val (.int x0), .val (.int x1), .val (.int x2), .val (.int x3), .val (.int x4), .val (.int ((x1 &&& (2147483647 : Int32)) % (77 : Int32))), .unset, .unset] [(.int (0 : Int32))]))
      exact w0_101 ⟨hx, hZ, hw, hby, hml, hown, hret, hlk, hnm⟩  _ _ _ x0 x1 x2 x3 x4 ((x1 &&& (2147483647 : Int32)) % (77 : Int32)) (0 : Int32) _ hr X3 e3 N0 O0 K0
def f0_72 (x1 : Int32) (y0 : Int32) : Option (Int32) := (f0_74 x1 y0)
set_option maxRecDepth 65536 in
set_option maxHeartbeats 40000000 in
theorem w0_72 {p : Program} {l : Launch} {e : Env} {s : State} {m : MethodId} {args : Array Value} {below : List Frame} {meth : Method} {c : Code} {Z : State} {a0 : Array Value} {h0 : Heap} {n0 : Nat} (C : Cx0 Z a0 p s m meth c) :
    ∀ (T : State) (locs : List Loc) (hA : Heap) (x0 : Int32) (x1 : Int32) (x2 : Int32) (x3 : Int32) (y0 : Int32) (o : Int32), f0_72 x1 y0 = some o → Stand p l e room_1 s m args below meth c T locs 0 0 → T.heap = hA → Fr n0 locs → Old Z n0 hA → Keep h0 hA [] →  OwnOut p e s below 0 0 (Q0 Z default default h0 n0 o) (T.setTop (mkF m 72 #[.val (.int x0), .val (.int x1), .val (.int x2), .val (.int x3), .unset, .unset, .unset, .unset] [(.int y0)])) := by
    obtain ⟨hx, hZ, hw, hby, hml, hown, hret, hlk, hnm⟩ := C
    intro T locs hA x0 x1 x2 x3 y0 o hr X0 e0 N0 O0 K0
    rw [f0_72] at hr
    refine OwnOut.go (fun t k => XS.istore X0.here hx rfl (hb hby at_72) rfl (l' := #[.val (.int x0), .val (.int x1), .val (.int x2), .val (.int x3), .val (.int y0), .unset, .unset, .unset]) rfl k) ?_
    show OwnOut p e s below 0 0 _ (T.setTop (mkF m 74 #[.val (.int x0), .val (.int x1), .val (.int x2), .val (.int x3), .val (.int y0), .unset, .unset, .unset] []))
    exact w0_74 ⟨hx, hZ, hw, hby, hml, hown, hret, hlk, hnm⟩  _ _ _ x0 x1 x2 x3 y0 _ hr X0 e0 N0 O0 K0
def f0_57 (x1 : Int32) (y0 : Int32) : Option (Int32) := (f0_74 x1 y0)
set_option maxRecDepth 65536 in
set_option maxHeartbeats 40000000 in
theorem w0_57 {p : Program} {l : Launch} {e : Env} {s : State} {m : MethodId} {args : Array Value} {below : List Frame} {meth : Method} {c : Code} {Z : State} {a0 : Array Value} {h0 : Heap} {n0 : Nat} (C : Cx0 Z a0 p s m meth c) :
    ∀ (T : State) (locs : List Loc) (hA : Heap) (x0 : Int32) (x1 : Int32) (x2 : Int32) (x3 : Int32) (y0 : Int32) (o : Int32), f0_57 x1 y0 = some o → Stand p l e room_1 s m args below meth c T locs 0 0 → T.heap = hA → Fr n0 locs → Old Z n0 hA → Keep h0 hA [] →  OwnOut p e s below 0 0 (Q0 Z default default h0 n0 o) (T.setTop (mkF m 57 #[.val (.int x0), .val (.int x1), .val (.int x2), .val (.int x3), .unset, .unset, .unset, .unset] [(.int y0)])) := by
    obtain ⟨hx, hZ, hw, hby, hml, hown, hret, hlk, hnm⟩ := C
    intro T locs hA x0 x1 x2 x3 y0 o hr X0 e0 N0 O0 K0
    rw [f0_57] at hr
    refine OwnOut.go (fun t k => XS.istore X0.here hx rfl (hb hby at_57) rfl (l' := #[.val (.int x0), .val (.int x1), .val (.int x2), .val (.int x3), .val (.int y0), .unset, .unset, .unset]) rfl k) ?_
    show OwnOut p e s below 0 0 _ (T.setTop (mkF m 59 #[.val (.int x0), .val (.int x1), .val (.int x2), .val (.int x3), .val (.int y0), .unset, .unset, .unset] []))
    refine OwnOut.go (fun t k => XS.goto X0.here hx rfl (pc0 := 59) (pc' := 74) rfl (hb hby at_59) (by decide) (by decide) k) ?_
    show OwnOut p e s below 0 0 _ (T.setTop (mkF m 74 #[.val (.int x0), .val (.int x1), .val (.int x2), .val (.int x3), .val (.int y0), .unset, .unset, .unset] []))
    exact w0_74 ⟨hx, hZ, hw, hby, hml, hown, hret, hlk, hnm⟩  _ _ _ x0 x1 x2 x3 y0 _ hr X0 e0 N0 O0 K0
def f0_56 (x1 : Int32) : Option (Int32) := (f0_57 x1 (0 : Int32))
set_option maxRecDepth 65536 in
set_option maxHeartbeats 40000000 in
theorem w0_56 {p : Program} {l : Launch} {e : Env} {s : State} {m : MethodId} {args : Array Value} {below : List Frame} {meth : Method} {c : Code} {Z : State} {a0 : Array Value} {h0 : Heap} {n0 : Nat} (C : Cx0 Z a0 p s m meth c) :
    ∀ (T : State) (locs : List Loc) (hA : Heap) (x0 : Int32) (x1 : Int32) (x2 : Int32) (x3 : Int32) (o : Int32), f0_56 x1 = some o → Stand p l e room_1 s m args below meth c T locs 0 0 → T.heap = hA → Fr n0 locs → Old Z n0 hA → Keep h0 hA [] →  OwnOut p e s below 0 0 (Q0 Z default default h0 n0 o) (T.setTop (mkF m 56 #[.val (.int x0), .val (.int x1), .val (.int x2), .val (.int x3), .unset, .unset, .unset, .unset] [])) := by
    obtain ⟨hx, hZ, hw, hby, hml, hown, hret, hlk, hnm⟩ := C
    intro T locs hA x0 x1 x2 x3 o hr X0 e0 N0 O0 K0
    rw [f0_56] at hr
    refine OwnOut.go (fun t k => XT.iconstV X0.here hx rfl (0 : Int32) (hb hby at_56) rfl k) ?_
    show OwnOut p e s below 0 0 _ (T.setTop (mkF m 57 #[.val (.int x0), .val (.int x1), .val (.int x2), .val (.int x3), .unset, .unset, .unset, .unset] [(.int (0 : Int32))]))
    exact w0_57 ⟨hx, hZ, hw, hby, hml, hown, hret, hlk, hnm⟩  _ _ _ x0 x1 x2 x3 (0 : Int32) _ hr X0 e0 N0 O0 K0
def f0_29 (x0 : Int32) (x1 : Int32) (x2 : Int32) (y0 : Int32) : Option (Int32) := (if y0 = (0 : Int32) then (if x2 = (-1 : Int32) then (f0_72 x1 (1 : Int32)) else (f0_72 x1 (0 : Int32))) else (if x2 < (0 : Int32) then (f0_56 x1) else (if x2 < (77 : Int32) then ((f2 x2).bind fun o6 => (if o6 = x0 then (f0_57 x1 (1 : Int32)) else (f0_56 x1))) else (f0_56 x1))))
set_option maxRecDepth 65536 in
set_option maxHeartbeats 40000000 in
theorem w0_29 {p : Program} {l : Launch} {e : Env} {s : State} {m : MethodId} {args : Array Value} {below : List Frame} {meth : Method} {c : Code} {Z : State} {a0 : Array Value} {h0 : Heap} {n0 : Nat} (C : Cx0 Z a0 p s m meth c) :
    ∀ (T : State) (locs : List Loc) (hA : Heap) (x0 : Int32) (x1 : Int32) (x2 : Int32) (y0 : Int32) (o : Int32), f0_29 x0 x1 x2 y0 = some o → Stand p l e room_1 s m args below meth c T locs 0 0 → T.heap = hA → Fr n0 locs → Old Z n0 hA → Keep h0 hA [] →  OwnOut p e s below 0 0 (Q0 Z default default h0 n0 o) (T.setTop (mkF m 29 #[.val (.int x0), .val (.int x1), .val (.int x2), .unset, .unset, .unset, .unset, .unset] [(.int y0)])) := by
    obtain ⟨hx, hZ, hw, hby, hml, hown, hret, hlk, hnm⟩ := C
    intro T locs hA x0 x1 x2 y0 o hr X0 e0 N0 O0 K0
    rw [f0_29] at hr
    refine OwnOut.go (fun t k => XS.istoreN X0.here hx rfl (hb hby at_29) rfl (l' := #[.val (.int x0), .val (.int x1), .val (.int x2), .val (.int y0), .unset, .unset, .unset, .unset]) rfl k) ?_
    show OwnOut p e s below 0 0 _ (T.setTop (mkF m 30 #[.val (.int x0), .val (.int x1), .val (.int x2), .val (.int y0), .unset, .unset, .unset, .unset] []))
    refine OwnOut.go (fun t k => XS.iloadN X0.here hx rfl (hb hby at_30) rfl k) ?_
    show OwnOut p e s below 0 0 _ (T.setTop (mkF m 31 #[.val (.int x0), .val (.int x1), .val (.int x2), .val (.int y0), .unset, .unset, .unset, .unset] [(.int y0)]))
    by_cases hc31 : y0 = (0 : Int32)
    · rw [if_pos hc31] at hr
      refine OwnOut.go (fun t k => XS.ifYes X0.here hx rfl (pc0 := 31) (pc' := 62) rfl (hb hby at_31) rfl (XT.i0_eq_t hc31) (by decide) (by decide) k) ?_
      show OwnOut p e s below 0 0 _ (T.setTop (mkF m 62 #[.val (.int x0), .val (.int x1), .val (.int x2), .val (.int y0), .unset, .unset, .unset, .unset] []))
      refine OwnOut.go (fun t k => XS.iloadN X0.here hx rfl (hb hby at_62) rfl k) ?_
      show OwnOut p e s below 0 0 _ (T.setTop (mkF m 63 #[.val (.int x0), .val (.int x1), .val (.int x2), .val (.int y0), .unset, .unset, .unset, .unset] [(.int x2)]))
      refine OwnOut.go (fun t k => XT.iconstV X0.here hx rfl (-1 : Int32) (hb hby at_63) rfl k) ?_
      show OwnOut p e s below 0 0 _ (T.setTop (mkF m 64 #[.val (.int x0), .val (.int x1), .val (.int x2), .val (.int y0), .unset, .unset, .unset, .unset] [(.int (-1 : Int32)), (.int x2)]))
      by_cases hc64 : x2 = (-1 : Int32)
      · rw [if_pos hc64] at hr
        refine OwnOut.go (fun t k => XS.icmpNo X0.here hx rfl (hb hby at_64) rfl (XT.ii_ne_f hc64) k) ?_
        show OwnOut p e s below 0 0 _ (T.setTop (mkF m 67 #[.val (.int x0), .val (.int x1), .val (.int x2), .val (.int y0), .unset, .unset, .unset, .unset] []))
        refine OwnOut.go (fun t k => XT.iconstV X0.here hx rfl (1 : Int32) (hb hby at_67) rfl k) ?_
        show OwnOut p e s below 0 0 _ (T.setTop (mkF m 68 #[.val (.int x0), .val (.int x1), .val (.int x2), .val (.int y0), .unset, .unset, .unset, .unset] [(.int (1 : Int32))]))
        refine OwnOut.go (fun t k => XS.goto X0.here hx rfl (pc0 := 68) (pc' := 72) rfl (hb hby at_68) (by decide) (by decide) k) ?_
        show OwnOut p e s below 0 0 _ (T.setTop (mkF m 72 #[.val (.int x0), .val (.int x1), .val (.int x2), .val (.int y0), .unset, .unset, .unset, .unset] [(.int (1 : Int32))]))
        exact w0_72 ⟨hx, hZ, hw, hby, hml, hown, hret, hlk, hnm⟩  _ _ _ x0 x1 x2 y0 (1 : Int32) _ hr X0 e0 N0 O0 K0
      · rw [if_neg hc64] at hr
        refine OwnOut.go (fun t k => XS.icmpYes X0.here hx rfl (pc0 := 64) (pc' := 71) rfl (hb hby at_64) rfl (XT.ii_ne_t hc64) (by decide) (by decide) k) ?_
        show OwnOut p e s below 0 0 _ (T.setTop (mkF m 71 #[.val (.int x0), .val (.int x1), .val (.int x2), .val (.int y0), .unset, .unset, .unset, .unset] []))
        refine OwnOut.go (fun t k => XT.iconstV X0.here hx rfl (0 : Int32) (hb hby at_71) rfl k) ?_
        show OwnOut p e s below 0 0 _ (T.setTop (mkF m 72 #[.val (.int x0), .val (.int x1), .val (.int x2), .val (.int y0), .unset, .unset, .unset, .unset] [(.int (0 : Int32))]))
        exact w0_72 ⟨hx, hZ, hw, hby, hml, hown, hret, hlk, hnm⟩  _ _ _ x0 x1 x2 y0 (0 : Int32) _ hr X0 e0 N0 O0 K0
    · rw [if_neg hc31] at hr
      refine OwnOut.go (fun t k => XS.ifNo X0.here hx rfl (hb hby at_31) rfl (XT.i0_eq_f hc31) k) ?_
      show OwnOut p e s below 0 0 _ (T.setTop (mkF m 34 #[.val (.int x0), .val (.int x1), .val (.int x2), .val (.int y0), .unset, .unset, .unset, .unset] []))
      refine OwnOut.go (fun t k => XS.iloadN X0.here hx rfl (hb hby at_34) rfl k) ?_
      show OwnOut p e s below 0 0 _ (T.setTop (mkF m 35 #[.val (.int x0), .val (.int x1), .val (.int x2), .val (.int y0), .unset, .unset, .unset, .unset] [(.int x2)]))
      by_cases hc35 : x2 < (0 : Int32)
      · rw [if_pos hc35] at hr
        refine OwnOut.go (fun t k => XS.ifYes X0.here hx rfl (pc0 := 35) (pc' := 56) rfl (hb hby at_35) rfl (XT.i0_lt_t hc35) (by decide) (by decide) k) ?_
        show OwnOut p e s below 0 0 _ (T.setTop (mkF m 56 #[.val (.int x0), .val (.int x1), .val (.int x2), .val (.int y0), .unset, .unset, .unset, .unset] []))
        exact w0_56 ⟨hx, hZ, hw, hby, hml, hown, hret, hlk, hnm⟩  _ _ _ x0 x1 x2 y0 _ hr X0 e0 N0 O0 K0
      · rw [if_neg hc35] at hr
        refine OwnOut.go (fun t k => XS.ifNo X0.here hx rfl (hb hby at_35) rfl (XT.i0_lt_f hc35) k) ?_
        show OwnOut p e s below 0 0 _ (T.setTop (mkF m 38 #[.val (.int x0), .val (.int x1), .val (.int x2), .val (.int y0), .unset, .unset, .unset, .unset] []))
        refine OwnOut.go (fun t k => XS.iloadN X0.here hx rfl (hb hby at_38) rfl k) ?_
        show OwnOut p e s below 0 0 _ (T.setTop (mkF m 39 #[.val (.int x0), .val (.int x1), .val (.int x2), .val (.int y0), .unset, .unset, .unset, .unset] [(.int x2)]))
        refine OwnOut.go (fun t k => XT.bipushV X0.here hx rfl (77 : Int32) (hb hby at_39) rfl k) ?_
        show OwnOut p e s below 0 0 _ (T.setTop (mkF m 41 #[.val (.int x0), .val (.int x1), .val (.int x2), .val (.int y0), .unset, .unset, .unset, .unset] [(.int (77 : Int32)), (.int x2)]))
        by_cases hc41 : x2 < (77 : Int32)
        · rw [if_pos hc41] at hr
          refine OwnOut.go (fun t k => XS.icmpNo X0.here hx rfl (hb hby at_41) rfl (XT.ii_ge_f hc41) k) ?_
          show OwnOut p e s below 0 0 _ (T.setTop (mkF m 44 #[.val (.int x0), .val (.int x1), .val (.int x2), .val (.int y0), .unset, .unset, .unset, .unset] []))
          refine OwnOut.go (fun t k => XS.iloadN X0.here hx rfl (hb hby at_44) rfl k) ?_
          show OwnOut p e s below 0 0 _ (T.setTop (mkF m 45 #[.val (.int x0), .val (.int x1), .val (.int x2), .val (.int y0), .unset, .unset, .unset, .unset] [(.int x2)]))
          obtain ⟨o6, ho6, hr⟩ := Option.bind_eq_some_iff.mp hr
          obtain ⟨r6, T6, L6, X6', hQ6, st6⟩ := callQ (W := 0) (rm := rx2) X0 hx hZ (y := (⟨"com/example/ninewire/ninewire/RpcProtocol", "requestType", "(I)I"⟩ : MethodName)) hown (hw _ (List.mem_of_getElem? (i := 5) rfl)) (hw _ (List.mem_of_getElem? (i := 6) rfl)) (hw _ (List.mem_of_getElem? (i := 2) rfl)) (hw _ (List.mem_of_getElem? (i := 7) rfl)) (by decide) (rm2 l Z a0 hw [] x2 hA o6 ho6 ) (by decide) (by decide) (by decide) (by decide) e0 (g := (mkF m 45 #[.val (.int x0), .val (.int x1), .val (.int x2), .val (.int y0), .unset, .unset, .unset, .unset] [(.int x2)])) rfl (by rw [hml]; rfl) (argsL := [(.int x2)]) (rest := []) (lenOf pd2 rfl) rfl (by show 2 * 0 + _ ≤ _; exact Nat.le_of_eq rfl) (hb hby at_45)
          obtain ⟨rfl, e6, rfl⟩ := hQ6
          rw [List.append_nil] at X6'
          have X6 : Stand p l e room_1 s m args below meth c T6 _ 0 0 := X6'
          refine OwnOut.go (fun t k => st6 _ k) ?_
          show OwnOut p e s below 0 0 _ (T6.setTop (mkF m 48 #[.val (.int x0), .val (.int x1), .val (.int x2), .val (.int y0), .unset, .unset, .unset, .unset] [(.int o6)]))
          refine OwnOut.go (fun t k => XS.iloadN X6.here hx rfl (hb hby at_48) rfl k) ?_
          show OwnOut p e s below 0 0 _ (T6.setTop (mkF m 49 #[.val (.int x0), .val (.int x1), .val (.int x2), .val (.int y0), .unset, .unset, .unset, .unset] [(.int x0), (.int o6)]))
          by_cases hc49 : o6 = x0
          · rw [if_pos hc49] at hr
            refine OwnOut.go (fun t k => XS.icmpNo X6.here hx rfl (hb hby at_49) rfl (XT.ii_ne_f hc49) k) ?_
            show OwnOut p e s below 0 0 _ (T6.setTop (mkF m 52 #[.val (.int x0), .val (.int x1), .val (.int x2), .val (.int y0), .unset, .unset, .unset, .unset] []))
            refine OwnOut.go (fun t k => XT.iconstV X6.here hx rfl (1 : Int32) (hb hby at_52) rfl k) ?_
            show OwnOut p e s below 0 0 _ (T6.setTop (mkF m 53 #[.val (.int x0), .val (.int x1), .val (.int x2), .val (.int y0), .unset, .unset, .unset, .unset] [(.int (1 : Int32))]))
            refine OwnOut.go (fun t k => XS.goto X6.here hx rfl (pc0 := 53) (pc' := 57) rfl (hb hby at_53) (by decide) (by decide) k) ?_
            show OwnOut p e s below 0 0 _ (T6.setTop (mkF m 57 #[.val (.int x0), .val (.int x1), .val (.int x2), .val (.int y0), .unset, .unset, .unset, .unset] [(.int (1 : Int32))]))
            exact w0_57 ⟨hx, hZ, hw, hby, hml, hown, hret, hlk, hnm⟩  _ _ _ x0 x1 x2 y0 (1 : Int32) _ hr X6 e6 N0 O0 K0
          · rw [if_neg hc49] at hr
            refine OwnOut.go (fun t k => XS.icmpYes X6.here hx rfl (pc0 := 49) (pc' := 56) rfl (hb hby at_49) rfl (XT.ii_ne_t hc49) (by decide) (by decide) k) ?_
            show OwnOut p e s below 0 0 _ (T6.setTop (mkF m 56 #[.val (.int x0), .val (.int x1), .val (.int x2), .val (.int y0), .unset, .unset, .unset, .unset] []))
            exact w0_56 ⟨hx, hZ, hw, hby, hml, hown, hret, hlk, hnm⟩  _ _ _ x0 x1 x2 y0 _ hr X6 e6 N0 O0 K0
        · rw [if_neg hc41] at hr
          refine OwnOut.go (fun t k => XS.icmpYes X0.here hx rfl (pc0 := 41) (pc' := 56) rfl (hb hby at_41) rfl (XT.ii_ge_t hc41) (by decide) (by decide) k) ?_
          show OwnOut p e s below 0 0 _ (T.setTop (mkF m 56 #[.val (.int x0), .val (.int x1), .val (.int x2), .val (.int y0), .unset, .unset, .unset, .unset] []))
          exact w0_56 ⟨hx, hZ, hw, hby, hml, hown, hret, hlk, hnm⟩  _ _ _ x0 x1 x2 y0 _ hr X0 e0 N0 O0 K0
def f0_28 (x0 : Int32) (x1 : Int32) (x2 : Int32) : Option (Int32) := (f0_29 x0 x1 x2 (0 : Int32))
set_option maxRecDepth 65536 in
set_option maxHeartbeats 40000000 in
theorem w0_28 {p : Program} {l : Launch} {e : Env} {s : State} {m : MethodId} {args : Array Value} {below : List Frame} {meth : Method} {c : Code} {Z : State} {a0 : Array Value} {h0 : Heap} {n0 : Nat} (C : Cx0 Z a0 p s m meth c) :
    ∀ (T : State) (locs : List Loc) (hA : Heap) (x0 : Int32) (x1 : Int32) (x2 : Int32) (o : Int32), f0_28 x0 x1 x2 = some o → Stand p l e room_1 s m args below meth c T locs 0 0 → T.heap = hA → Fr n0 locs → Old Z n0 hA → Keep h0 hA [] →  OwnOut p e s below 0 0 (Q0 Z default default h0 n0 o) (T.setTop (mkF m 28 #[.val (.int x0), .val (.int x1), .val (.int x2), .unset, .unset, .unset, .unset, .unset] [])) := by
    obtain ⟨hx, hZ, hw, hby, hml, hown, hret, hlk, hnm⟩ := C
    intro T locs hA x0 x1 x2 o hr X0 e0 N0 O0 K0
    rw [f0_28] at hr
    refine OwnOut.go (fun t k => XT.iconstV X0.here hx rfl (0 : Int32) (hb hby at_28) rfl k) ?_
    show OwnOut p e s below 0 0 _ (T.setTop (mkF m 29 #[.val (.int x0), .val (.int x1), .val (.int x2), .unset, .unset, .unset, .unset, .unset] [(.int (0 : Int32))]))
    exact w0_29 ⟨hx, hZ, hw, hby, hml, hown, hret, hlk, hnm⟩  _ _ _ x0 x1 x2 (0 : Int32) _ hr X0 e0 N0 O0 K0
def f0 (x0 : Int32) (x1 : Int32) : Option (Int32) := ((f1 x0).bind fun o1 => (if x0 < (102 : Int32) then (f0_28 x0 x1 o1) else (if (254 : Int32) < x0 then (f0_28 x0 x1 o1) else (if (x0 &&& (1 : Int32)) = (0 : Int32) then (f0_29 x0 x1 o1 (1 : Int32)) else (f0_28 x0 x1 o1)))))
set_option maxRecDepth 65536 in
set_option maxHeartbeats 40000000 in
theorem w0_0 {p : Program} {l : Launch} {e : Env} {s : State} {m : MethodId} {args : Array Value} {below : List Frame} {meth : Method} {c : Code} {Z : State} {a0 : Array Value} {h0 : Heap} {n0 : Nat} (C : Cx0 Z a0 p s m meth c) :
    ∀ (T : State) (locs : List Loc) (hA : Heap) (x0 : Int32) (x1 : Int32) (o : Int32), f0 x0 x1 = some o → Stand p l e room_1 s m args below meth c T locs 0 0 → T.heap = hA → Fr n0 locs → Old Z n0 hA → Keep h0 hA [] →  OwnOut p e s below 0 0 (Q0 Z default default h0 n0 o) (T.setTop (mkF m 0 #[.val (.int x0), .val (.int x1), .unset, .unset, .unset, .unset, .unset, .unset] [])) := by
    obtain ⟨hx, hZ, hw, hby, hml, hown, hret, hlk, hnm⟩ := C
    intro T locs hA x0 x1 o hr X0 e0 N0 O0 K0
    rw [f0] at hr
    refine OwnOut.go (fun t k => XS.iloadN X0.here hx rfl (hb hby at_0) rfl k) ?_
    show OwnOut p e s below 0 0 _ (T.setTop (mkF m 1 #[.val (.int x0), .val (.int x1), .unset, .unset, .unset, .unset, .unset, .unset] [(.int x0)]))
    obtain ⟨o1, ho1, hr⟩ := Option.bind_eq_some_iff.mp hr
    obtain ⟨r1, T1, L1, X1', hQ1, st1⟩ := callQ (W := 0) (rm := rx1) X0 hx hZ (y := (⟨"com/example/ninewire/ninewire/RpcProtocol", "methodOfRequest", "(I)I"⟩ : MethodName)) hown (hw _ (List.mem_of_getElem? (i := 0) rfl)) (hw _ (List.mem_of_getElem? (i := 1) rfl)) (hw _ (List.mem_of_getElem? (i := 2) rfl)) (hw _ (List.mem_of_getElem? (i := 3) rfl)) (by decide) (rm1 l Z a0 hw [] x0 hA o1 ho1 ) (by decide) (by decide) (by decide) (by decide) e0 (g := (mkF m 1 #[.val (.int x0), .val (.int x1), .unset, .unset, .unset, .unset, .unset, .unset] [(.int x0)])) rfl (by rw [hml]; rfl) (argsL := [(.int x0)]) (rest := []) (lenOf pd1 rfl) rfl (by show 2 * 0 + _ ≤ _; exact Nat.le_of_eq rfl) (hb hby at_1)
    obtain ⟨rfl, e1, rfl⟩ := hQ1
    rw [List.append_nil] at X1'
    have X1 : Stand p l e room_1 s m args below meth c T1 _ 0 0 := X1'
    refine OwnOut.go (fun t k => st1 _ k) ?_
    show OwnOut p e s below 0 0 _ (T1.setTop (mkF m 4 #[.val (.int x0), .val (.int x1), .unset, .unset, .unset, .unset, .unset, .unset] [(.int o1)]))
    refine OwnOut.go (fun t k => XS.istoreN X1.here hx rfl (hb hby at_4) rfl (l' := #[.val (.int x0), .val (.int x1), .val (.int o1), .unset, .unset, .unset, .unset, .unset]) rfl k) ?_
    show OwnOut p e s below 0 0 _ (T1.setTop (mkF m 5 #[.val (.int x0), .val (.int x1), .val (.int o1), .unset, .unset, .unset, .unset, .unset] []))
    refine OwnOut.go (fun t k => XS.iloadN X1.here hx rfl (hb hby at_5) rfl k) ?_
    show OwnOut p e s below 0 0 _ (T1.setTop (mkF m 6 #[.val (.int x0), .val (.int x1), .val (.int o1), .unset, .unset, .unset, .unset, .unset] [(.int x0)]))
    refine OwnOut.go (fun t k => XT.bipushV X1.here hx rfl (102 : Int32) (hb hby at_6) rfl k) ?_
    show OwnOut p e s below 0 0 _ (T1.setTop (mkF m 8 #[.val (.int x0), .val (.int x1), .val (.int o1), .unset, .unset, .unset, .unset, .unset] [(.int (102 : Int32)), (.int x0)]))
    by_cases hc8 : x0 < (102 : Int32)
    · rw [if_pos hc8] at hr
      refine OwnOut.go (fun t k => XS.icmpYes X1.here hx rfl (pc0 := 8) (pc' := 28) rfl (hb hby at_8) rfl (XT.ii_lt_t hc8) (by decide) (by decide) k) ?_
      show OwnOut p e s below 0 0 _ (T1.setTop (mkF m 28 #[.val (.int x0), .val (.int x1), .val (.int o1), .unset, .unset, .unset, .unset, .unset] []))
      exact w0_28 ⟨hx, hZ, hw, hby, hml, hown, hret, hlk, hnm⟩  _ _ _ x0 x1 o1 _ hr X1 e1 N0 O0 K0
    · rw [if_neg hc8] at hr
      refine OwnOut.go (fun t k => XS.icmpNo X1.here hx rfl (hb hby at_8) rfl (XT.ii_lt_f hc8) k) ?_
      show OwnOut p e s below 0 0 _ (T1.setTop (mkF m 11 #[.val (.int x0), .val (.int x1), .val (.int o1), .unset, .unset, .unset, .unset, .unset] []))
      refine OwnOut.go (fun t k => XS.iloadN X1.here hx rfl (hb hby at_11) rfl k) ?_
      show OwnOut p e s below 0 0 _ (T1.setTop (mkF m 12 #[.val (.int x0), .val (.int x1), .val (.int o1), .unset, .unset, .unset, .unset, .unset] [(.int x0)]))
      refine OwnOut.go (fun t k => XT.sipushV X1.here hx rfl (254 : Int32) (hb hby at_12) rfl k) ?_
      show OwnOut p e s below 0 0 _ (T1.setTop (mkF m 15 #[.val (.int x0), .val (.int x1), .val (.int o1), .unset, .unset, .unset, .unset, .unset] [(.int (254 : Int32)), (.int x0)]))
      by_cases hc15 : (254 : Int32) < x0
      · rw [if_pos hc15] at hr
        refine OwnOut.go (fun t k => XS.icmpYes X1.here hx rfl (pc0 := 15) (pc' := 28) rfl (hb hby at_15) rfl (XT.ii_gt_t hc15) (by decide) (by decide) k) ?_
        show OwnOut p e s below 0 0 _ (T1.setTop (mkF m 28 #[.val (.int x0), .val (.int x1), .val (.int o1), .unset, .unset, .unset, .unset, .unset] []))
        exact w0_28 ⟨hx, hZ, hw, hby, hml, hown, hret, hlk, hnm⟩  _ _ _ x0 x1 o1 _ hr X1 e1 N0 O0 K0
      · rw [if_neg hc15] at hr
        refine OwnOut.go (fun t k => XS.icmpNo X1.here hx rfl (hb hby at_15) rfl (XT.ii_gt_f hc15) k) ?_
        show OwnOut p e s below 0 0 _ (T1.setTop (mkF m 18 #[.val (.int x0), .val (.int x1), .val (.int o1), .unset, .unset, .unset, .unset, .unset] []))
        refine OwnOut.go (fun t k => XS.iloadN X1.here hx rfl (hb hby at_18) rfl k) ?_
        show OwnOut p e s below 0 0 _ (T1.setTop (mkF m 19 #[.val (.int x0), .val (.int x1), .val (.int o1), .unset, .unset, .unset, .unset, .unset] [(.int x0)]))
        refine OwnOut.go (fun t k => XT.iconstV X1.here hx rfl (1 : Int32) (hb hby at_19) rfl k) ?_
        show OwnOut p e s below 0 0 _ (T1.setTop (mkF m 20 #[.val (.int x0), .val (.int x1), .val (.int o1), .unset, .unset, .unset, .unset, .unset] [(.int (1 : Int32)), (.int x0)]))
        refine OwnOut.go (fun t k => XS.iand X1.here hx rfl (hb hby at_20) rfl k) ?_
        show OwnOut p e s below 0 0 _ (T1.setTop (mkF m 21 #[.val (.int x0), .val (.int x1), .val (.int o1), .unset, .unset, .unset, .unset, .unset] [(.int (x0 &&& (1 : Int32)))]))
        by_cases hc21 : (x0 &&& (1 : Int32)) = (0 : Int32)
        · rw [if_pos hc21] at hr
          refine OwnOut.go (fun t k => XS.ifNo X1.here hx rfl (hb hby at_21) rfl (XT.i0_ne_f hc21) k) ?_
          show OwnOut p e s below 0 0 _ (T1.setTop (mkF m 24 #[.val (.int x0), .val (.int x1), .val (.int o1), .unset, .unset, .unset, .unset, .unset] []))
          refine OwnOut.go (fun t k => XT.iconstV X1.here hx rfl (1 : Int32) (hb hby at_24) rfl k) ?_
          show OwnOut p e s below 0 0 _ (T1.setTop (mkF m 25 #[.val (.int x0), .val (.int x1), .val (.int o1), .unset, .unset, .unset, .unset, .unset] [(.int (1 : Int32))]))
          refine OwnOut.go (fun t k => XS.goto X1.here hx rfl (pc0 := 25) (pc' := 29) rfl (hb hby at_25) (by decide) (by decide) k) ?_
          show OwnOut p e s below 0 0 _ (T1.setTop (mkF m 29 #[.val (.int x0), .val (.int x1), .val (.int o1), .unset, .unset, .unset, .unset, .unset] [(.int (1 : Int32))]))
          exact w0_29 ⟨hx, hZ, hw, hby, hml, hown, hret, hlk, hnm⟩  _ _ _ x0 x1 o1 (1 : Int32) _ hr X1 e1 N0 O0 K0
        · rw [if_neg hc21] at hr
          refine OwnOut.go (fun t k => XS.ifYes X1.here hx rfl (pc0 := 21) (pc' := 28) rfl (hb hby at_21) rfl (XT.i0_ne_t hc21) (by decide) (by decide) k) ?_
          show OwnOut p e s below 0 0 _ (T1.setTop (mkF m 28 #[.val (.int x0), .val (.int x1), .val (.int o1), .unset, .unset, .unset, .unset, .unset] []))
          exact w0_28 ⟨hx, hZ, hw, hby, hml, hown, hret, hlk, hnm⟩  _ _ _ x0 x1 o1 _ hr X1 e1 N0 O0 K0
set_option maxRecDepth 65536 in
set_option maxHeartbeats 40000000 in
theorem rm0 (l : Launch) (Z : State) (a0 : Array Value) (hw : ∀ d ∈ tables_1, d.before a0 Z = true) (ws : List Jvm.Cond) (x0 : Int32) (x1 : Int32) (h0 : Heap) (n0 : Nat) (o : Int32) (hr : f0 x0 x1 = some o) (O0 : Old Z n0 h0) :
    MetFree l x (head1 (Jvm.Cond.code x code maxLocals ret :: ws) room_1) (fun a U => a = #[(.int x0), (.int x1)] ∧ Z.Warmed39 U.vm ∧ U.heap = h0) (fun _ _ _ _ _ => True) (fun _ U o' U' => ∃ v L, o' = .returned v ∧ Q0 Z x0 x1 h0 n0 o v U'.heap L ∧ FrameEnd U o' U' L 0 0) := by
  refine MetFree.of_bodySF (plainFor_of_name pn0) hisR ?_
  intro p e s m args below meth c s₁ Bd hml0 hP hK
  obtain ⟨rfl, hZ, hh⟩ := hP
  have X0 : Stand p l e room_1 s m #[(.int x0), (.int x1)] below meth c s₁ [] 0 0 := Stand.of_body Bd
  have e0 : s₁.heap = h0 := by rw [← hh, Bd.state]; rfl
  exact OwnOut.at (ef0 m x0 x1) (w0_0 ⟨Bd.exec, hZ, hw, Bd.bytes, hml0, findClass_of_methodNamed Bd.named, Bd.returns, Bd.notSynchronized, (name_of_methodNamed Bd.named Bd.method).1⟩ _ _ _ x0 x1 o hr X0 e0 (Fr.nil n0) O0 (Keep.refl _ _) )
theorem own_a {t : Int32} (h1 : 102 ≤ t.toInt) (h2 : t.toInt ≤ 254) (h3 : t.toInt % 2 = 0) : ∃ r, f1 t = some r ∧ r.toInt = (t.toInt - 102) / 2 := by
  have e1 : (t - 102).toInt = t.toInt - 102 := XT.sub32 ⟨by show _ ≤ t.toInt - 102; omega, by show t.toInt - 102 < _; omega⟩
  have e2 := (c_irem (t - 102) 2 2 (by decide)).1 (by omega)
  have e3 := (c_idiv (t - 102) 2 2 (by decide) (by decide)).1 (by omega)
  refine ⟨(t - 102) / 2, ?_, by omega⟩
  simp only [f1, Int32.lt_iff_toInt_lt, ← Int32.toInt_inj, Int32.reduceToInt]
  rw [if_neg (by omega), if_pos (by omega), if_pos (by omega)]
theorem own_b {t : Int32} (h : ¬ (102 ≤ t.toInt ∧ t.toInt ≤ 254 ∧ t.toInt % 2 = 0)) : f1 t = some (-1) := by
  have e0 := c_isub t 102
  have e1 := Int32.le_toInt (t - 102)
  have e2 := Int32.toInt_lt (t - 102)
  have e3 := Int32.le_toInt t
  have e4 := Int32.toInt_lt t
  have e5 := c_irem (t - 102) 2 2 (by decide)
  have e6 := c_idiv (t - 102) 2 2 (by decide) (by decide)
  have e7 : (102 : Int32).toInt = 102 := by decide
  simp only [f1, Int32.lt_iff_toInt_lt, ← Int32.toInt_inj, Int32.reduceToInt]
  repeat' split
  all_goals first | rfl | (exfalso; omega)
theorem own_all : ∀ k : Fin 77, ((f2 (Int32.ofNat k.val)).bind fun o2 => ((f1 o2).bind fun o3 => (if o3 = (Int32.ofNat k.val) then (f0_101 1 (Int32.ofNat k.val) (1 : Int32)) else (f0_101 1 (Int32.ofNat k.val) (0 : Int32))))) = some 1 := by decide +kernel
theorem own_74 (a : Int32) : f0_74 a 1 = some 1 := by
  have e1 : (a &&& 2147483647).toInt = a.toInt % (2 ^ 31 : Nat) := c_mask a 2147483647 31 (by decide) (by decide)
  have e2 := (c_irem (a &&& 2147483647) 77 77 (by decide)).1 (by omega)
  obtain ⟨k, hk⟩ : ∃ k : Fin 77, (a &&& 2147483647) % 77 = Int32.ofNat k.val := by
    refine ⟨⟨((a &&& 2147483647) % 77).toInt.toNat, by omega⟩, Int32.toInt_inj.mp ?_⟩
    show _ = (Int32.ofNat _).toInt
    rw [Int32.toInt_ofNat_of_lt (by show _ < 2 ^ 31; omega)]
    exact (Int.toNat_of_nonneg (by omega)).symm
  unfold f0_74
  rw [hk]
  exact own_all k
theorem own_no (a b : Int32) : f0_28 a b (-1) = some 1 := by
  simp only [f0_28, f0_29, if_true, f0_72]
  exact own_74 b
theorem law_ok (a b : Int32) : f0 a b = some 1 := by
  by_cases h : 102 ≤ a.toInt ∧ a.toInt ≤ 254 ∧ a.toInt % 2 = 0
  · obtain ⟨r, hr, er⟩ := own_a h.1 h.2.1 h.2.2
    have m1 := c_mask a 1 1 (by decide) (by decide)
    have q1 : (2 * r).toInt = 2 * r.toInt := XT.mul32 ⟨by show _ ≤ 2 * r.toInt; omega, by show 2 * r.toInt < _; omega⟩
    have q2 : (102 + 2 * r).toInt = 102 + 2 * r.toInt := XT.add32 ⟨by rw [q1]; show _ ≤ 102 + _; omega, by rw [q1]; show 102 + _ < _; omega⟩ |>.trans (by rw [q1]; rfl)
    have q3 : 102 + 2 * r = a := Int32.toInt_inj.mp (by omega)
    simp only [f0, hr, Option.bind_some, f0_29, f2, q3, f0_57, Int32.lt_iff_toInt_lt, ← Int32.toInt_inj, Int32.reduceToInt]
    rw [if_neg (by omega), if_neg (by omega), if_pos (by omega), if_neg (by decide), if_neg (by omega), if_pos (by omega), if_neg (by omega), if_pos (by omega)]
    simp only [Option.bind_some, if_true]
    exact own_74 b
  · have m1 := c_mask a 1 1 (by decide) (by decide)
    have z : (0 : Int32).toInt = 0 := by decide
    have hr := own_b h
    simp only [f0, hr, Option.bind_some]
    split
    · exact own_no _ _
    split
    · exact own_no _ _
    split
    · rename_i k1 k2 k3
      exfalso
      rw [Int32.lt_iff_toInt_lt] at k1 k2
      rw [← Int32.toInt_inj] at k3
      have w1 : (102 : Int32).toInt = 102 := by decide
      have w2 : (254 : Int32).toInt = 254 := by decide
      omega
    · exact own_no _ _
set_option maxRecDepth 65536 in
set_option maxHeartbeats 40000000 in
theorem comes_1 {Post : Tables → Env → Array Value → State → Outcome → State → Prop} (hpost : ∀ tb e args s v u, (limb_1_1.after args s (.returned v) u = true ∧ limb_1_2.after args s (.returned v) u = true ∧ True) → FrameEnd s (.returned v) u (Jvm.fieldLocs frame_1_writes args s ++ Jvm.arrayLocs frame_1_arrays args s ++ Jvm.staticLocs frame_1_statics s) 0 0 → Post tb e args s (.returned v) u) :
    ArmFor flags0 classFile x code maxLocals ret World_1 tables_1 room_1 Calls_1 rest_1 Pre_1 Post := by
  intro l hfl _ _ p e ha hc hk s m args below hf hA hF happ hP
  obtain ⟨hcalls, hrest, hpre⟩ := hP
  obtain ⟨-, -, -, hnamed, -, -, -, hat⟩ := (Spec.applies_iff hf).mp happ
  obtain ⟨hg, hn⟩ := and_e (Cond.before_iff.mp (show (Jvm.Cond.and given_1 narrow_1).before args s = true from hpre))
  obtain ⟨g1, g2⟩ := and_e hg
  obtain ⟨g3, g4⟩ := and_e g2
  obtain ⟨w0, w1, rfl⟩ : ∃ w0 w1 : Value, args = #[w0, w1] := by
    have hs : args.size = 2 := by simpa [Cond.value, given_1] using g1
    obtain ⟨L⟩ := args
    match L, hs with
    | [w0, w1], _ => exact ⟨w0, w1, rfl⟩
  have hw := fun d (hd : d ∈ tables_1) => atoms_spec (ws := Jvm.Cond.code x code maxLocals ret :: tables_1) hat d (List.mem_cons_of_mem _ hd)
  obtain ⟨i0, ei0⟩ := is_v g3
  obtain rfl : w0 = (.int i0) := Option.some.inj ei0
  obtain ⟨i1, ei1⟩ := is_v g4
  obtain rfl : w1 = (.int i1) := Option.some.inj ei1
  obtain ⟨n, o, h1, h2, h3, _, L, rfl, ⟨rfl, N⟩, hq⟩ := rm0 l s _ hw tables_1 i0 i1 s.heap s.heap.size 1 (law_ok i0 i1) (Old.start s) p e ha hc hk s m _ below hf ((Spec.applies_iff_loose hf).mp happ).1 ⟨rfl, State.Warmed39.refl s, rfl⟩ trivial
  have hv : (1 : Int32) = 1 := rfl
  refine ⟨n, _, h1, h2, h3, hpost _ _ _ _ _ _ ⟨Cond.after_iff.mpr rfl, Cond.after_iff.mpr (eq_i res_at (Term.int_eval (1)) (congrArg Value.int hv)), trivial⟩ ⟨hq.1, hq.2.1, (hq.2.2.sift fun y hy => Or.inr (N y hy)).mono (by decide) (by decide)⟩⟩
theorem main_1_1 : Claimed_1_1 := comes_1 fun _ _ _ _ _ _ h hF => ⟨h.1, hF⟩
theorem main_1_2 : Claimed_1_2 := comes_1 fun _ _ _ _ _ _ h hF => ⟨h.2.1, hF⟩
end Jvm.Pilot.@@N@@
namespace Jvm.Pilot.@@N@@
open Jvm Jvm.ClassFile Sem Op Lib Jvm.Free Jvm.Stand Jvm.Pilot.@@N@@.Jvm.D
/-! MADE BY PROGRAM (witnessworld.py) out of the Statement's table words and the real class files: 9 classes; the members and pool entries that the words name. The judged class is class 1, her method 1. -/
namespace start1
open Jvm.ClassFile
def u (s : String) : CpInfo := .utf8 (stringToUtf16 s)
/-- a pool by its gaps: so many unusable entries, then the entry; so many at the end -/
def gap : Nat → List CpInfo → List CpInfo
  | 0, r => r
  | n + 1, r => .unusable :: gap n r
def poolList (es : List (Nat × CpInfo)) (last : Nat) : List CpInfo := es.foldr (fun e r => gap e.1 (e.2 :: r)) (gap last [])
def pool (es : List (Nat × CpInfo)) (last : Nat) : Array CpInfo := ⟨poolList es last⟩
def fileOf (pool : Array CpInfo) (this : Nat) (attrs : Array Attribute := #[]) (ms : Array MethodInfo := #[]) (fl : Nat := 33) (sup : Nat := 0) (ifs : Array Nat := #[]) (fds : Array FieldInfo := #[]) : ClassFile where
  minorVersion := 0
  majorVersion := 65
  constantPool := pool
  accessFlags := fl
  thisClass := this
  superClass := sup
  interfaces := ifs
  fields := fds
  methods := ms
  attributes := attrs
def plain (name : String) (sup : Option ClassId) : Class where
  name := name
  kind := .ordinary
  loader := none
  accessFlags := 33
  super := sup
  interfaces := #[]
  cf := none
  fields := #[]
  methods := #[]
  instanceTypes := #[]
  staticTypes := #[]
  resolved := #[]
  callSites := []
  init := .initialized
  statics := none
  mirror := none

def pool0 : Array CpInfo := pool [(5, u "<init>"), (0, u "()V"), (1, .class_ 10), (1, u "java/lang/Object")] 113

def k0m0 : Method := { name := "<init>", desc := "()V", sig := { parameters := [], returnType := none }, accessFlags := 1, code := none }
/-- java/lang/Object -/
def k0 : Class := { plain "java/lang/Object" none with
  accessFlags := 33
  interfaces := #[]
  cf := some (fileOf pool0 8 #[] #[{ accessFlags := 1, nameIndex := 5, descriptorIndex := 6, attributes := #[] }] 33 0 #[] #[])
  fields := #[]
  methods := #[k0m0]
  instanceTypes := #[]
  staticTypes := #[]
  resolved := Array.replicate 124 none
  statics := none }

def pool1 : Array CpInfo := pool [(2, .class_ 4), (1, u "java/lang/Object"), (0, u "<init>"), (0, u "()V"), (0, .methodref 8 9), (0, .class_ 10), (0, .nameAndType 11 12), (0, u "com/example/ninewire/ninewire/RpcProtocol"), (0, u "methodOfRequest"), (0, u "(I)I"), (0, .methodref 8 14), (0, .nameAndType 15 12), (0, u "requestType"), (0, .integer 2147483647), (0, .methodref 8 18), (0, .nameAndType 19 12), (0, u "responseType"), (0, .class_ 21), (0, u "com/example/ninewire/ninewire/RpcProtocolMethodOfRequestPinLaw"), (2, u "law"), (0, u "(II)Z")] 3

def k1m0 : Method := { name := "<init>", desc := "()V", sig := { parameters := [], returnType := none }, accessFlags := 2, code := none }
def k1c1 : Code := { maxStack := 2, maxLocals := 8, code := code, exceptionTable := #[], attributes := #[] }
def k1m1 : Method := { name := "law", desc := "(II)Z", sig := { parameters := [.int, .int], returnType := some .boolean }, accessFlags := 9, code := some k1c1 }
/-- com/example/ninewire/ninewire/RpcProtocolMethodOfRequestPinLaw -/
def k1 : Class := { plain "com/example/ninewire/ninewire/RpcProtocolMethodOfRequestPinLaw" (some 0) with
  accessFlags := 49
  interfaces := #[]
  cf := some (fileOf pool1 20 #[] #[{ accessFlags := 2, nameIndex := 5, descriptorIndex := 6, attributes := #[] }, { accessFlags := 9, nameIndex := 24, descriptorIndex := 25, attributes := #[] }] 49 2 #[] #[])
  fields := #[]
  methods := #[k1m0, k1m1]
  instanceTypes := #[]
  staticTypes := #[]
  resolved := Array.replicate 29 none
  statics := none }

def pool2 : Array CpInfo := pool [(1, .class_ 2), (0, u "com/example/ninewire/ninewire/RpcProtocol"), (8, u "<init>"), (1, .methodref 1 14), (0, .nameAndType 15 16), (0, u "requestType"), (0, u "(I)I"), (1, .class_ 20), (1, u "java/lang/Object"), (0, u "()V"), (0, u "VERSION_REQUEST"), (0, u "I"), (2, u "VERSION_RESPONSE"), (1, u "ERROR_RESPONSE"), (1, u "UNKNOWN_VERSION"), (0, u "Ljava/lang/String;"), (2, u "NO_TAG"), (1, u "MAX_TAGS"), (1, u "MAX_METHODS"), (1, u "FIRST_METHOD_REQUEST"), (4, u "responseType"), (0, u "methodOfRequest"), (3, .class_ 51), (0, u "com/example/ninewire/ninewire/RpcProtocol$Version")] 16

def k2c0 : Code := { maxStack := 3, maxLocals := 1, code := prog_61_method_1_code, exceptionTable := #[], attributes := #[] }
def k2m0 : Method := { name := "requestType", desc := "(I)I", sig := { parameters := [.int], returnType := some .int }, accessFlags := 9, code := some k2c0 }
def k2c1 : Code := { maxStack := 2, maxLocals := 1, code := prog_61_method_2_code, exceptionTable := #[], attributes := #[] }
def k2m1 : Method := { name := "responseType", desc := "(I)I", sig := { parameters := [.int], returnType := some .int }, accessFlags := 9, code := some k2c1 }
def k2c2 : Code := { maxStack := 2, maxLocals := 2, code := prog_61_method_3_code, exceptionTable := #[], attributes := #[] }
def k2m2 : Method := { name := "methodOfRequest", desc := "(I)I", sig := { parameters := [.int], returnType := some .int }, accessFlags := 8, code := some k2c2 }
def k2m3 : Method := { name := "<init>", desc := "()V", sig := { parameters := [], returnType := none }, accessFlags := 2, code := none }
/-- com/example/ninewire/ninewire/RpcProtocol -/
def k2 : Class := { plain "com/example/ninewire/ninewire/RpcProtocol" (some 0) with
  accessFlags := 49
  interfaces := #[]
  cf := some (fileOf pool2 1 #[.nestMembers #[50]] #[{ accessFlags := 9, nameIndex := 15, descriptorIndex := 16, attributes := #[] }, { accessFlags := 9, nameIndex := 45, descriptorIndex := 16, attributes := #[] }, { accessFlags := 8, nameIndex := 46, descriptorIndex := 16, attributes := #[] }, { accessFlags := 2, nameIndex := 11, descriptorIndex := 21, attributes := #[] }] 49 18 #[] #[{ accessFlags := 25, nameIndex := 22, descriptorIndex := 23, attributes := #[] }, { accessFlags := 25, nameIndex := 26, descriptorIndex := 23, attributes := #[] }, { accessFlags := 25, nameIndex := 28, descriptorIndex := 23, attributes := #[] }, { accessFlags := 25, nameIndex := 30, descriptorIndex := 31, attributes := #[] }, { accessFlags := 25, nameIndex := 34, descriptorIndex := 23, attributes := #[] }, { accessFlags := 25, nameIndex := 36, descriptorIndex := 23, attributes := #[] }, { accessFlags := 25, nameIndex := 38, descriptorIndex := 23, attributes := #[] }, { accessFlags := 26, nameIndex := 40, descriptorIndex := 23, attributes := #[] }])
  fields := #[{ name := "VERSION_REQUEST", type := .int, accessFlags := 25, slot := 0, constantValue := 0 }, { name := "VERSION_RESPONSE", type := .int, accessFlags := 25, slot := 1, constantValue := 0 }, { name := "ERROR_RESPONSE", type := .int, accessFlags := 25, slot := 2, constantValue := 0 }, { name := "UNKNOWN_VERSION", type := (.object "java/lang/String"), accessFlags := 25, slot := 3, constantValue := 0 }, { name := "NO_TAG", type := .int, accessFlags := 25, slot := 4, constantValue := 0 }, { name := "MAX_TAGS", type := .int, accessFlags := 25, slot := 5, constantValue := 0 }, { name := "MAX_METHODS", type := .int, accessFlags := 25, slot := 6, constantValue := 0 }, { name := "FIRST_METHOD_REQUEST", type := .int, accessFlags := 26, slot := 7, constantValue := 0 }]
  methods := #[k2m0, k2m1, k2m2, k2m3]
  instanceTypes := #[]
  staticTypes := #[.int, .int, .int, (.object "java/lang/String"), .int, .int, .int, .int]
  resolved := Array.replicate 68 none
  statics := none }

def pool3 : Array CpInfo := pool [(1, u "java/lang/Cloneable"), (0, .class_ 1), (0, u "java/lang/Object"), (0, .class_ 3)] 3

/-- java/lang/Cloneable -/
def k3 : Class := { plain "java/lang/Cloneable" (some 0) with
  accessFlags := 1537
  interfaces := #[]
  cf := some (fileOf pool3 2 #[] #[] 1537 4 #[] #[])
  fields := #[]
  methods := #[]
  instanceTypes := #[]
  staticTypes := #[]
  resolved := Array.replicate 8 none
  statics := none }

def pool4 : Array CpInfo := pool [(1, u "java/io/Serializable"), (0, .class_ 1), (0, u "java/lang/Object"), (0, .class_ 3)] 3

/-- java/io/Serializable -/
def k4 : Class := { plain "java/io/Serializable" (some 0) with
  accessFlags := 1537
  interfaces := #[]
  cf := some (fileOf pool4 2 #[] #[] 1537 4 #[] #[])
  fields := #[]
  methods := #[]
  instanceTypes := #[]
  staticTypes := #[]
  resolved := Array.replicate 8 none
  statics := none }

/-- the primitive byte -/
def k5 : Class := { plain "byte" none with kind := .primitive 'B', accessFlags := 0x411 }
/-- [B -/
def k6 : Class := { plain "[B" (some 0) with kind := .array 5 .byte, interfaces := #[3, 4], accessFlags := 1041 }

/-- the primitive int -/
def k7 : Class := { plain "int" none with kind := .primitive 'I', accessFlags := 0x411 }
/-- [I -/
def k8 : Class := { plain "[I" (some 0) with kind := .array 7 .int, interfaces := #[3, 4], accessFlags := 1041 }

def heap : Heap := #[]
def classes : Array Class := #[k0, k1, k2, k3, k4, k5, k6, k7, k8]
def interned : List (Array UInt16 × Addr) := []
def slotsUsed : Nat := 0
def theMethod : MethodId := ⟨1, 1⟩
def args0 : Array Value := #[.int 5, .int 7]
def aboutOver (below : List Frame) : State where
  vm := { classes := classes, interned := interned.toArray }
  heap := heap
  slotsUsed := slotsUsed
  threads := #[{ frames := .invoking theMethod args0 :: below }]
def below0 : List Frame := [.native { method := ⟨0, 0⟩, args := #[] }]
def about1 : State := aboutOver below0
def p0 : Program := .bare "" "" ""
def e0 : Env := launch0.env 0 0 0
theorem w_frames : about1.frames = Frame.invoking theMethod args0 :: below0 := rfl
set_option maxRecDepth 65536 in
theorem w_args : argsFit about1.vm theMethod args0 = true := by decide +kernel
set_option maxRecDepth 65536 in
theorem w_heap : heapFits about1 = true := by decide +kernel
set_option maxRecDepth 65536 in
theorem w_runnable : about1.curStatus? = some .runnable := by decide +kernel
set_option maxRecDepth 65536 in
theorem w_alone : about1.alone = true := by decide +kernel
set_option maxRecDepth 65536 in
theorem w_named : about1.methodNamed? x = some theMethod := by decide +kernel
set_option maxRecDepth 65536 in
theorem w_hears : about1.hears theMethod below0 = true := by decide +kernel
set_option maxRecDepth 65536 in
theorem w_ripe : about1.ripe theMethod args0 below0 = true := by decide +kernel
theorem w_running : about1.status = .running := rfl
set_option maxRecDepth 65536 in
theorem w_room : about1.hasRoom e0.platform room_1 = true :=
  launch0.hasRoom_least _ room_1 (by decide +kernel) (by decide +kernel) (by decide +kernel) (by decide +kernel) (by decide +kernel) (by decide +kernel)
theorem allAtoms_all (ts : List Jvm.Cond) (a : Array Jvm.Value) (st : Jvm.State) : (allAtoms ts).before a st = ts.all (fun c => c.before a st) := by
  induction ts with
  | nil => rfl
  | cons c t ih =>
    show (Jvm.Cond.and c (allAtoms t)).before a st = _
    rw [Jvm.Cond.before_and, ih, List.all_cons]
def words1 : List Jvm.Cond := Jvm.Cond.code x code maxLocals ret :: tables_1
/-- a 'code' word, met by the world's own term for the bytes: nothing is compared byte by byte -/
theorem code_word {y : MethodName} {bytes : ByteArray} {mx : Nat} {rt : Option FieldType} {a : Array Value} {s : State} {m : MethodId} {meth : Method} {c : Code} (h1 : s.methodNamed? y = some m) (h2 : s.vm.method? m = some meth) (h3 : meth.code = some c) (h4 : c.code = bytes)
    (h5 : (c.maxLocals == mx && c.exceptionTable.isEmpty && decide (c.maxStack ≤ mostOperands) && decide (meth.sig.returnType = rt) && !meth.locks && decide (parseMethodDescriptor y.desc = some meth.sig)) = true) : (Jvm.Cond.code y bytes mx rt).before a s = true := by
  simp only [Bool.and_eq_true, beq_iff_eq, Bool.not_eq_true', decide_eq_true_eq] at h5
  obtain ⟨⟨⟨⟨⟨g1, g2⟩, g3⟩, g4⟩, g5⟩, g6⟩ := h5
  simp [Cond.before, Cond.holds, Cond.value, h1, h2, h3, h4, g1, g2, g3, g4, g5, g6]
def isCode : Jvm.Cond → Bool
  | .code _ _ _ _ => true
  | _ => false
theorem all_split {L : List Jvm.Cond} {P : Jvm.Cond → Bool} (h1 : L.all (fun c => isCode c || P c) = true) (h2 : ∀ c ∈ L.filter isCode, P c = true) : L.all P = true := by
  refine List.all_eq_true.mpr fun c hc => ?_
  have h := List.all_eq_true.mp h1 c hc
  rcases Bool.eq_false_or_eq_true (isCode c) with hi | hi
  · exact h2 c (List.mem_filter.mpr ⟨hc, hi⟩)
  · simpa [hi] using h
set_option maxRecDepth 65536 in
theorem w_c0 : (Jvm.Cond.code x code maxLocals ret).before args0 about1 = true := code_word (m := ⟨1, 1⟩) (meth := k1m1) (c := k1c1) (by decide +kernel) rfl rfl rfl (by decide +kernel)
set_option maxRecDepth 65536 in
theorem w_c1 : (Jvm.Cond.code ({ cls := "com/example/ninewire/ninewire/RpcProtocol", name := "methodOfRequest", desc := "(I)I" } : Jvm.MethodName) prog_61_method_3_code (2 : Nat) (Option.some Jvm.ClassFile.FieldType.int)).before args0 about1 = true := code_word (m := ⟨2, 2⟩) (meth := k2m2) (c := k2c2) (by decide +kernel) rfl rfl rfl (by decide +kernel)
set_option maxRecDepth 65536 in
theorem w_c2 : (Jvm.Cond.code ({ cls := "com/example/ninewire/ninewire/RpcProtocol", name := "requestType", desc := "(I)I" } : Jvm.MethodName) prog_61_method_1_code (1 : Nat) (Option.some Jvm.ClassFile.FieldType.int)).before args0 about1 = true := code_word (m := ⟨2, 0⟩) (meth := k2m0) (c := k2c0) (by decide +kernel) rfl rfl rfl (by decide +kernel)
set_option maxRecDepth 65536 in
theorem w_c3 : (Jvm.Cond.code ({ cls := "com/example/ninewire/ninewire/RpcProtocol", name := "responseType", desc := "(I)I" } : Jvm.MethodName) prog_61_method_2_code (1 : Nat) (Option.some Jvm.ClassFile.FieldType.int)).before args0 about1 = true := code_word (m := ⟨2, 1⟩) (meth := k2m1) (c := k2c1) (by decide +kernel) rfl rfl rfl (by decide +kernel)
def codes1 : List Jvm.Cond := [Jvm.Cond.code x code maxLocals ret, Jvm.Cond.code ({ cls := "com/example/ninewire/ninewire/RpcProtocol", name := "methodOfRequest", desc := "(I)I" } : Jvm.MethodName) prog_61_method_3_code (2 : Nat) (Option.some Jvm.ClassFile.FieldType.int), Jvm.Cond.code ({ cls := "com/example/ninewire/ninewire/RpcProtocol", name := "requestType", desc := "(I)I" } : Jvm.MethodName) prog_61_method_1_code (1 : Nat) (Option.some Jvm.ClassFile.FieldType.int), Jvm.Cond.code ({ cls := "com/example/ninewire/ninewire/RpcProtocol", name := "responseType", desc := "(I)I" } : Jvm.MethodName) prog_61_method_2_code (1 : Nat) (Option.some Jvm.ClassFile.FieldType.int)]
set_option maxRecDepth 65536 in
theorem codes_eq : words1.filter isCode = codes1 := rfl
theorem w_codes : ∀ c ∈ words1.filter isCode, c.before args0 about1 = true := by
  rw [codes_eq]
  intro c hc
  simp only [codes1, List.mem_cons, List.not_mem_nil, or_false] at hc
  rcases hc with rfl | rfl | rfl | rfl
  · exact w_c0
  · exact w_c1
  · exact w_c2
  · exact w_c3
set_option maxRecDepth 65536 in
theorem w_t1 : words1.all (fun c => isCode c || c.before args0 about1) = true := by decide +kernel
theorem w_tables : (allAtoms (Jvm.Cond.code x code maxLocals ret :: tables_1)).before args0 about1 = true := by
  rw [allAtoms_all]
  show words1.all (fun c => c.before args0 about1) = true
  refine all_split ?_ w_codes
  rw [w_t1]
set_option maxRecDepth 65536 in
theorem w_case : (Jvm.Cond.and given_1 narrow_1).before args0 about1 = true := by decide +kernel
theorem w_applies : (headSpec (Jvm.Cond.code x code maxLocals ret :: tables_1) room_1).applies x e0.platform about1 = true :=
  (Spec.applies_iff w_frames).mpr ⟨w_running, w_runnable, w_alone, w_named, w_hears, w_ripe, w_room, w_tables⟩
theorem atStart : AtStart classFile x code maxLocals ret World_1 tables_1 room_1 Calls_1 rest_1 Pre_1 launch0 p0 e0 about1 theMethod args0 below0 :=
  ⟨lists_1, trivial, launch0.admits_env _ _ _, launch0.least_env, fairChoices_fair.cas, fairChoices_fair.clock, w_frames, w_args, w_heap, w_applies, trivial, trivial, w_case⟩
end start1
theorem witness_1 : WitnessClaimed_1 := ⟨start1.p0, start1.e0, start1.about1, start1.theMethod, start1.args0, start1.below0, start1.atStart⟩
end Jvm.Pilot.@@N@@
