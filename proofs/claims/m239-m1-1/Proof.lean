import JvmDerived
import JvmDerived.Pilot.@@N@@Statement
import JvmDerived.Pilot.@@N@@Code
set_option linter.unusedVariables false
set_option linter.unusedSimpArgs false
namespace Jvm.RoadKit
open Sem ClassFile Op Lib Jvm.Stand Jvm.Free Jvm.LawKit
section Own
variable {p : Program} {l : Launch} {e : Env} {R : Room} {s : State} {m : MethodId} {args : Array Value} {below : List Frame} {meth : Method} {c : Code} {T : State} {locs : List Loc} {cells slots : Nat} {k n : Nat} {Q : Option Value → Heap → List Loc → Prop} {W W' : State} {Z : State} {a0 : Array Value} {h : Heap}
/-- the run from W comes back, with what Q says -/
def OwnOut (p : Program) (e : Env) (s : State) (below : List Frame) (k n : Nat) (Q : Option Value → Heap → List Loc → Prop) (W : State) : Prop :=
  ∃ s₂ o, Steps p.tables e below W s₂ ∧ s₂.status = .running ∧ Ended s₂ below o ∧ ∃ v L, o = .returned v ∧ Q v s₂.heap L ∧ FrameEnd s o s₂ L k n
theorem OwnOut.go (h : ∀ t, Steps p.tables e below W' t → Steps p.tables e below W t) (H : OwnOut p e s below k n Q W') : OwnOut p e s below k n Q W := by
  obtain ⟨s₂, o, h1, h2⟩ := H
  exact ⟨s₂, o, h _ h1, h2⟩
theorem OwnOut.at {g g' : JFrame} (q : g = g') (H : OwnOut p e s below k n Q (T.setTop g')) : OwnOut p e s below k n Q (T.setTop g) := q ▸ H
theorem OwnOut.imp {Q' : Option Value → Heap → List Loc → Prop} (q : ∀ v h L, Q' v h L → Q v h L) (H : OwnOut p e s below k n Q' W) : OwnOut p e s below k n Q W := by
  obtain ⟨s₂, o, h1, h2, h3, v, L, h4, h5, h6⟩ := H
  exact ⟨s₂, o, h1, h2, h3, v, L, h4, q _ _ _ h5, h6⟩
theorem outI (X : Stand p l e R s m args below meth c T locs cells slots) (hx : p.tables.exec = Jvm.exec) {pc : Nat} {Ls : Array Slot} {z : Int32} (hret : meth.sig.returnType = some .int) (hd : decode c.code pc = .ok (.ireturn, 1)) (hlk : meth.locks = false) (hk : cells ≤ k) (hn : slots ≤ n) (q : Q (some (.int z)) T.heap locs) :
    OwnOut p e s below k n Q (T.setTop (mkF m pc Ls [.int z])) := by
  obtain ⟨fs, hr, hrun, hended, hW, hsame⟩ := X.leave (v := some (.int z)) (fun h => by rw [hret] at h; cases h) hlk
  exact ⟨_, _, X.ireturnOut hx hret rfl (Or.inl rfl) hd hr, hrun, hended, _, _, rfl, q, ⟨_, rfl⟩, hW, hsame.mono hk hn⟩
theorem outZ (X : Stand p l e R s m args below meth c T locs cells slots) (hx : p.tables.exec = Jvm.exec) {pc : Nat} {Ls : Array Slot} {z : Int32} (hret : meth.sig.returnType = some .boolean) (hd : decode c.code pc = .ok (.ireturn, 1)) (hlk : meth.locks = false) (hk : cells ≤ k) (hn : slots ≤ n) (q : Q (some (.int (z &&& 1))) T.heap locs) :
    OwnOut p e s below k n Q (T.setTop (mkF m pc Ls [.int z])) := by
  obtain ⟨fs, hr, hrun, hended, hW, hsame⟩ := X.leave (v := some (.int (z &&& 1))) (fun h => by rw [hret] at h; cases h) hlk
  exact ⟨_, _, retN X hx (t := .boolean) hret (by simp) hd hr, hrun, hended, _, _, rfl, q, ⟨_, rfl⟩, hW, hsame.mono hk hn⟩
theorem outJ (X : Stand p l e R s m args below meth c T locs cells slots) (hx : p.tables.exec = Jvm.exec) {pc : Nat} {Ls : Array Slot} {z : Int64} (hret : meth.sig.returnType = some .long) (hd : decode c.code pc = .ok (.lreturn, 1)) (hlk : meth.locks = false) (hk : cells ≤ k) (hn : slots ≤ n) (q : Q (some (.long z)) T.heap locs) :
    OwnOut p e s below k n Q (T.setTop (mkF m pc Ls [.long z])) := by
  obtain ⟨fs, hr, hrun, hended, hW, hsame⟩ := X.leave (v := some (.long z)) (fun h => by rw [hret] at h; cases h) hlk
  exact ⟨_, _, X.lreturnOut hx hret hd hr, hrun, hended, _, _, rfl, q, ⟨_, rfl⟩, hW, hsame.mono hk hn⟩
theorem outA (X : Stand p l e R s m args below meth c T locs cells slots) (hx : p.tables.exec = Jvm.exec) {pc : Nat} {Ls : Array Slot} {w : Value} {t : FieldType} (hw : w.isRef = true) (hret : meth.sig.returnType = some t) (ht : t.isReference = true) (hd : decode c.code pc = .ok (.areturn, 1)) (hlk : meth.locks = false) (hk : cells ≤ k) (hn : slots ≤ n) (q : Q (some w) T.heap locs) :
    OwnOut p e s below k n Q (T.setTop (mkF m pc Ls [w])) := by
  obtain ⟨fs, hr, hrun, hended, hW, hsame⟩ := X.leave (v := some w) (fun h => by rw [hret] at h; cases h) hlk
  exact ⟨_, _, X.areturnOut hx hw hret ht hd hr, hrun, hended, _, _, rfl, q, ⟨_, rfl⟩, hW, hsame.mono hk hn⟩
theorem outV (X : Stand p l e R s m args below meth c T locs cells slots) (hx : p.tables.exec = Jvm.exec) {pc : Nat} {Ls : Array Slot} (hret : meth.sig.returnType = none) (hd : decode c.code pc = .ok (.return_, 1)) (hlk : meth.locks = false) (hk : cells ≤ k) (hn : slots ≤ n) (q : Q none T.heap locs) :
    OwnOut p e s below k n Q (T.setTop (mkF m pc Ls [])) := by
  obtain ⟨fs, hr, hrun, hended, hW, hsame⟩ := X.leave (v := none) (fun _ => rfl) hlk
  exact ⟨_, _, X.returnOut hx hret hd hr, hrun, hended, _, _, rfl, q, ⟨_, rfl⟩, hW, hsame.mono hk hn⟩
theorem lremM {g : JFrame} {target : State} (X : Stand p l e R s m args below meth c T locs cells slots) (hx : p.tables.exec = Jvm.exec) (hg : g.method = m) {x y : Int64} {rest : List Value} (hd : decode c.code g.pc = .ok (.lrem, 1)) (hs : g.stack = .long y :: .long x :: rest) (hy : y ≠ 0)
    (hr : Steps p.tables e below (T.setTop { g with pc := g.pc + 1, stack := .long (x % y) :: rest }) target) : Steps p.tables e below (T.setTop g) target :=
  XS.lrem X.here hx hg hd hs hy (by rw [lrem_mod]; exact hr)
/-- a body that touches nothing: what it returns, the heap as it was, nothing written -/
def QP (h0 : Heap) (w : Option Value) (v : Option Value) (h : Heap) (L : List Loc) : Prop := v = w ∧ h = h0 ∧ L = []
/-- a static call of such a body -/
theorem callP (X : Stand p l e R s m args below meth c T locs cells slots) (hx : p.tables.exec = Jvm.exec) (hZ : Z.Warmed39 s.vm) {own : String} {index : Nat} {y : MethodName} {bytes : ByteArray} {maxL : Nat} {ret : Option FieldType} {rm : Room} {as' : Array Value} {w : Option Value}
    (hown : s.vm.findClass own = some m.cls) (w1 : (Cond.methodLink own index y).before a0 Z = true) (w2 : (Cond.static y).before a0 Z = true) (w3 : (Cond.initialized y.cls).before a0 Z = true) (w4 : (Cond.code y bytes maxL ret).before a0 Z = true) (hy : y.cls ≠ "java/lang/invoke/MethodHandle" ∧ y.cls ≠ "java/lang/invoke/VarHandle")
    (hM : MetFree l y (head1 [Cond.code y bytes maxL ret] rm) (fun a U => a = as' ∧ Z.Warmed39 U.vm ∧ U.heap = h) (fun _ _ _ _ _ => True) (fun _ U o U' => ∃ v L, o = .returned v ∧ QP h w v U'.heap L ∧ FrameEnd U o U' L rm.cells rm.slots))
    {W : Nat} (hf : rm.frames + 1 ≤ R.frames) (hl : W + (maxL + 11) + rm.locals ≤ R.locals) (z1 : rm.cells = 0) (z2 : rm.slots = 0) (hc : cells ≤ R.cells) (hs' : slots ≤ R.slots) (eT : T.heap = h)
    {g : JFrame} (hg : g.method = m) (hsize : g.locals.size = c.maxLocals) {argsL rest : List Value} (hlen : ∀ sig, parseMethodDescriptor y.desc = some sig → argsL.length = sig.parameters.length)
    (hstack : g.stack = argsL.reverse ++ rest) (hW : 2 * g.monitorRoom + (rest.map fun v => v.category).sum ≤ W) (hdg : decode c.code g.pc = .ok (.invokestatic index, 3)) (has : argsL.toArray = as' := by rfl) :
    ∃ T', Stand p l e R s m args below meth c T' locs cells slots ∧ T'.heap = h ∧ ∀ target, Steps p.tables e below (T'.setTop { g with pc := g.pc + 3, stack := w.toList ++ rest }) target → Steps p.tables e below (T.setTop g) target := by
  obtain ⟨v, vm₁, ⟨T', L', k', n'⟩, -, X', ⟨Lc, ⟨rfl, q2, rfl⟩, l1, y1, z3⟩, st⟩ := Jvm.LawKit.callS X hx (y := y) hown (mvT hZ w1) (mvT hZ w2) (mvT hZ w3) (mvT hZ w4) hy (backOf (W := W) hM hZ w4 w3 hf hl) hg hsize hlen hstack hW hdg (fun _ _ => ⟨has, eT, by rw [z1]; exact hc, by rw [z2]; exact hs'⟩)
  dsimp only [Pt.U, Pt.locs, Pt.cells, Pt.slots] at X' l1 y1 z3 st q2
  rw [z1] at y1; rw [z2] at z3
  rw [List.append_nil] at l1
  subst l1 y1 z3
  exact ⟨T', X', q2, st⟩
end Own
end Jvm.RoadKit
namespace Jvm.RoadKit
open Sem ClassFile Op Lib Jvm.Stand Jvm.Free Jvm.LawKit
section Own2
variable {p : Program} {l : Launch} {e : Env} {R : Room} {s : State} {m : MethodId} {args : Array Value} {below : List Frame} {meth : Method} {c : Code} {T : State} {locs : List Loc} {cells slots : Nat} {Z : State} {a0 : Array Value} {h h' : Heap} {a b : Addr} {ty : FieldType} {vs : List Value} {sl : Nat} {v : Value} {ws : List Addr}
/-- an array, by the list of what it holds -/
def Ar (Z : State) (h : Heap) (a : Addr) (ty : FieldType) (vs : List Value) : Prop := ∃ c : Cell, Arr Z h a c ty ∧ c.slots.toList = vs ∧ vs.length < 2 ^ 31
theorem Ar.lt (A : Ar Z h a ty vs) : a < h.size := by obtain ⟨c, q, -⟩ := A; exact q.lt
theorem Ar.ext (A : Ar Z h a ty vs) (E : Ext h h') : Ar Z h' a ty vs := by obtain ⟨c, q, r⟩ := A; exact ⟨c, q.ext E, r⟩
theorem Ar.other (A : Ar Z h b ty vs) (W : Wr h h' a sl v) (q : b ≠ a) : Ar Z h' b ty vs := by obtain ⟨c, r, t⟩ := A; exact ⟨c, r.other W q, t⟩
theorem Ar.keep (A : Ar Z h a ty vs) (K : Keep h h' ws) (q : a ∉ ws) : Ar Z h' a ty vs := by obtain ⟨c, r, t⟩ := A; exact ⟨c, ⟨K.2.1 a c r.1 q, r.2⟩, t⟩
theorem Ar.same (A : Ar Z h a ty vs) (W : Wr h h' a sl v) : Ar Z h' a ty (vs.set sl v) := by
  obtain ⟨c, r, t, u⟩ := A
  refine ⟨_, r.same W, ?_, by rw [List.length_set]; exact u⟩
  show (c.slots.setIfInBounds sl v).toList = _
  rw [Array.toList_setIfInBounds, t]
abbrev Ari (Z : State) (h : Heap) (a : Addr) (ty : FieldType) (xs : List Int32) : Prop := Ar Z h a ty (xs.map Value.int)
abbrev Arj (Z : State) (h : Heap) (a : Addr) (xs : List Int64) : Prop := Ar Z h a .long (xs.map Value.long)
/-- what an array's place holds -/
def ldx {α : Type} (xs : List α) (j : Int32) : Option α := if j < 0 then none else xs[j.toNatClampNeg]?
def stx {α : Type} (xs : List α) (j : Int32) (v : α) : Option (List α) := if j < 0 then none else if xs.length ≤ j.toNatClampNeg then none else some (xs.set j.toNatClampNeg v)
def nwx {α : Type} (d : α) (cap : Nat) (n : Int32) : Option (List α) := if n < 0 then none else if cap < n.toNatClampNeg then none else some (List.replicate n.toNatClampNeg d)
def lenx {α : Type} (xs : List α) : Int32 := xs.length.toInt32
theorem ldx_at {α : Type} {f : α → Value} {xs : List α} {j : Int32} {x : α} {cl : Cell} (hv : ldx xs j = some x) (q : cl.slots.toList = xs.map f) : ¬ (j < 0 ∨ cl.slots.size ≤ j.toNatClampNeg) ∧ cl.slots[j.toNatClampNeg]? = some (f x) := by
  unfold ldx at hv
  by_cases hj : j < 0
  · rw [if_pos hj] at hv; cases hv
  rw [if_neg hj] at hv
  have h1 : cl.slots[j.toNatClampNeg]? = some (f x) := by rw [← Array.getElem?_toList, q, List.getElem?_map, hv]; rfl
  refine ⟨fun z => z.elim hj fun z => ?_, h1⟩
  rw [Array.getElem?_eq_none z] at h1; cases h1
theorem stx_at {α : Type} {f : α → Value} {xs ys : List α} {j : Int32} {x : α} {cl : Cell} (hv : stx xs j x = some ys) (q : cl.slots.toList = xs.map f) : ¬ (j < 0 ∨ cl.slots.size ≤ j.toNatClampNeg) ∧ ys = xs.set j.toNatClampNeg x := by
  unfold stx at hv
  by_cases hj : j < 0
  · rw [if_pos hj] at hv; cases hv
  rw [if_neg hj] at hv
  by_cases hl : xs.length ≤ j.toNatClampNeg
  · rw [if_pos hl] at hv; cases hv
  rw [if_neg hl] at hv
  refine ⟨fun z => z.elim hj fun z => hl ?_, (Option.some.inj hv).symm⟩
  have : cl.slots.size = xs.length := by rw [← Array.length_toList, q, List.length_map]
  omega
theorem ldI (X : Stand p l e R s m args below meth c T locs cells slots) (hx : p.tables.exec = Jvm.exec) (hZ : Z.Warmed39 s.vm) (eT : T.heap = h) {xs : List Int32} (A : Ari Z h a .int xs) {j v : Int32} (hv : ldx xs j = some v) {g : JFrame} (hg : g.method = m) {rest : List Value} (hs : g.stack = .int j :: .ref a :: rest) (hd : decode c.code g.pc = .ok (.iaload, 1)) (target : State)
    (hr : Steps p.tables e below (T.setTop { g with pc := g.pc + 1, stack := .int v :: rest }) target) : Steps p.tables e below (T.setTop g) target := by
  obtain ⟨cl, A1, A2, -⟩ := A
  obtain ⟨hj, hat⟩ := ldx_at hv A2
  exact X.iaload hx (by rw [eT]; exact A1.1) (State.isArrayOf_alike hZ.alike A1.2.1) A1.2.2 hj hat hg hs hd target hr
theorem ldB (X : Stand p l e R s m args below meth c T locs cells slots) (hx : p.tables.exec = Jvm.exec) (hZ : Z.Warmed39 s.vm) (eT : T.heap = h) {xs : List Int32} (A : Ari Z h a .byte xs) {j v : Int32} (hv : ldx xs j = some v) {g : JFrame} (hg : g.method = m) {rest : List Value} (hs : g.stack = .int j :: .ref a :: rest) (hd : decode c.code g.pc = .ok (.baload, 1)) (target : State)
    (hr : Steps p.tables e below (T.setTop { g with pc := g.pc + 1, stack := .int v :: rest }) target) : Steps p.tables e below (T.setTop g) target := by
  obtain ⟨cl, A1, A2, -⟩ := A
  obtain ⟨hj, hat⟩ := ldx_at hv A2
  exact X.baloadBytes hx (by rw [eT]; exact A1.1) (State.isArrayOf_alike hZ.alike A1.2.1) A1.2.2 hj hat hg hs hd target hr
theorem ldZ (X : Stand p l e R s m args below meth c T locs cells slots) (hx : p.tables.exec = Jvm.exec) (hZ : Z.Warmed39 s.vm) (eT : T.heap = h) {xs : List Int32} (A : Ari Z h a .boolean xs) {j v : Int32} (hv : ldx xs j = some v) {g : JFrame} (hg : g.method = m) {rest : List Value} (hs : g.stack = .int j :: .ref a :: rest) (hd : decode c.code g.pc = .ok (.baload, 1)) (target : State)
    (hr : Steps p.tables e below (T.setTop { g with pc := g.pc + 1, stack := .int v :: rest }) target) : Steps p.tables e below (T.setTop g) target := by
  obtain ⟨cl, A1, A2, -⟩ := A
  obtain ⟨hj, hat⟩ := ldx_at hv A2
  exact X.baloadBooleans hx (by rw [eT]; exact A1.1) (State.isArrayOf_alike hZ.alike A1.2.1) A1.2.2 hj hat hg hs hd target hr
theorem ldJ (X : Stand p l e R s m args below meth c T locs cells slots) (hx : p.tables.exec = Jvm.exec) (hZ : Z.Warmed39 s.vm) (eT : T.heap = h) {xs : List Int64} (A : Arj Z h a xs) {j : Int32} {v : Int64} (hv : ldx xs j = some v) {g : JFrame} (hg : g.method = m) {rest : List Value} (hs : g.stack = .int j :: .ref a :: rest) (hd : decode c.code g.pc = .ok (.laload, 1)) (target : State)
    (hr : Steps p.tables e below (T.setTop { g with pc := g.pc + 1, stack := .long v :: rest }) target) : Steps p.tables e below (T.setTop g) target := by
  obtain ⟨cl, A1, A2, -⟩ := A
  obtain ⟨hj, hat⟩ := ldx_at hv A2
  exact X.laload hx (by rw [eT]; exact A1.1) (State.isArrayOf_alike hZ.alike A1.2.1) A1.2.2 hj hat hg hs hd target hr
theorem lenA (X : Stand p l e R s m args below meth c T locs cells slots) (hx : p.tables.exec = Jvm.exec) (hZ : Z.Warmed39 s.vm) (eT : T.heap = h) {α : Type} {f : α → Value} {xs : List α} (A : Ar Z h a ty (xs.map f)) {g : JFrame} (hg : g.method = m) {rest : List Value} (hs : g.stack = .ref a :: rest) (hd : decode c.code g.pc = .ok (.arraylength, 1)) (target : State)
    (hr : Steps p.tables e below (T.setTop { g with pc := g.pc + 1, stack := .int (lenx xs) :: rest }) target) : Steps p.tables e below (T.setTop g) target := by
  obtain ⟨cl, A1, A2, -⟩ := A
  have : cl.slots.size = xs.length := by rw [← Array.length_toList, A2, List.length_map]
  refine X.arraylength hx (by rw [eT]; exact A1.1) (State.isArrayOf_alike hZ.alike A1.2.1) hg hs hd target ?_
  rw [this]; exact hr
theorem saI (X : Stand p l e R s m args below meth c T locs cells slots) (hx : p.tables.exec = Jvm.exec) (hZ : Z.Warmed39 s.vm) (eT : T.heap = h) {xs ys : List Int32} (A : Ari Z h a .int xs) {j v : Int32} (hv : stx xs j v = some ys) {g : JFrame} (hg : g.method = m) {rest : List Value} (hs : g.stack = .int v :: .int j :: .ref a :: rest) (hd : decode c.code g.pc = .ok (.iastore, 1)) :
    ∃ T' h', Stand p l e R s m args below meth c T' (locs ++ [⟨a, j.toNatClampNeg⟩]) cells slots ∧ T'.heap = h' ∧ Wr h h' a j.toNatClampNeg (.int v) ∧ Ari Z h' a .int ys ∧ ∀ target, Steps p.tables e below (T'.setTop { g with pc := g.pc + 1, stack := rest }) target → Steps p.tables e below (T.setTop g) target := by
  have A' := A
  obtain ⟨cl, A1, A2, -⟩ := A
  obtain ⟨hj, rfl⟩ := stx_at hv A2
  obtain ⟨T', h', X', e', W', st⟩ := stI X hx hZ eT A1 hj hg hs hd
  exact ⟨T', h', X', e', W', by have q := A'.same W'; rw [← List.map_set] at q; exact q, st⟩
theorem saB (X : Stand p l e R s m args below meth c T locs cells slots) (hx : p.tables.exec = Jvm.exec) (hZ : Z.Warmed39 s.vm) (eT : T.heap = h) {xs ys : List Int32} (A : Ari Z h a .byte xs) {j v : Int32} (hv : stx xs j v.toInt8.toInt32 = some ys) {g : JFrame} (hg : g.method = m) {rest : List Value} (hs : g.stack = .int v :: .int j :: .ref a :: rest) (hd : decode c.code g.pc = .ok (.bastore, 1)) :
    ∃ T' h', Stand p l e R s m args below meth c T' (locs ++ [⟨a, j.toNatClampNeg⟩]) cells slots ∧ T'.heap = h' ∧ Wr h h' a j.toNatClampNeg (.int v.toInt8.toInt32) ∧ Ari Z h' a .byte ys ∧ ∀ target, Steps p.tables e below (T'.setTop { g with pc := g.pc + 1, stack := rest }) target → Steps p.tables e below (T.setTop g) target := by
  have A' := A
  obtain ⟨cl, A1, A2, -⟩ := A
  obtain ⟨hj, rfl⟩ := stx_at hv A2
  obtain ⟨T', h', X', e', W', st⟩ := stB X hx hZ eT A1 hj hg hs hd
  exact ⟨T', h', X', e', W', by have q := A'.same W'; rw [show Value.int (nar .byte v) = Value.int v.toInt8.toInt32 from rfl, ← List.map_set] at q; exact q, st⟩
theorem saZ (X : Stand p l e R s m args below meth c T locs cells slots) (hx : p.tables.exec = Jvm.exec) (hZ : Z.Warmed39 s.vm) (eT : T.heap = h) {xs ys : List Int32} (A : Ari Z h a .boolean xs) {j v : Int32} (hv : stx xs j (v &&& 1) = some ys) {g : JFrame} (hg : g.method = m) {rest : List Value} (hs : g.stack = .int v :: .int j :: .ref a :: rest) (hd : decode c.code g.pc = .ok (.bastore, 1)) :
    ∃ T' h', Stand p l e R s m args below meth c T' (locs ++ [⟨a, j.toNatClampNeg⟩]) cells slots ∧ T'.heap = h' ∧ Wr h h' a j.toNatClampNeg (.int (v &&& 1)) ∧ Ari Z h' a .boolean ys ∧ ∀ target, Steps p.tables e below (T'.setTop { g with pc := g.pc + 1, stack := rest }) target → Steps p.tables e below (T.setTop g) target := by
  have A' := A
  obtain ⟨cl, A1, A2, -⟩ := A
  obtain ⟨hj, rfl⟩ := stx_at hv A2
  obtain ⟨T', h', X', e', W', st⟩ := stZ X hx hZ eT A1 hj hg hs hd
  exact ⟨T', h', X', e', W', by have q := A'.same W'; rw [show Value.int (nar .boolean v) = Value.int (v &&& 1) from rfl, ← List.map_set] at q; exact q, st⟩
theorem saJ (X : Stand p l e R s m args below meth c T locs cells slots) (hx : p.tables.exec = Jvm.exec) (hZ : Z.Warmed39 s.vm) (eT : T.heap = h) {xs ys : List Int64} (A : Arj Z h a xs) {j : Int32} {v : Int64} (hv : stx xs j v = some ys) {g : JFrame} (hg : g.method = m) {rest : List Value} (hs : g.stack = .long v :: .int j :: .ref a :: rest) (hd : decode c.code g.pc = .ok (.lastore, 1)) :
    ∃ T' h', Stand p l e R s m args below meth c T' (locs ++ [⟨a, j.toNatClampNeg⟩]) cells slots ∧ T'.heap = h' ∧ Wr h h' a j.toNatClampNeg (.long v) ∧ Arj Z h' a ys ∧ ∀ target, Steps p.tables e below (T'.setTop { g with pc := g.pc + 1, stack := rest }) target → Steps p.tables e below (T.setTop g) target := by
  have A' := A
  obtain ⟨cl, A1, A2, -⟩ := A
  obtain ⟨hj, rfl⟩ := stx_at hv A2
  obtain ⟨T', h', X', e', W', st⟩ := stJ X hx hZ eT A1 hj hg hs hd
  exact ⟨T', h', X', e', W', by have q := A'.same W'; rw [← List.map_set] at q; exact q, st⟩
theorem nwx_at {α : Type} {d : α} {cap : Nat} {n : Int32} {xs : List α} (hv : nwx d cap n = some xs) : ¬ n < 0 ∧ n.toNatClampNeg ≤ cap ∧ xs = List.replicate n.toNatClampNeg d := by
  unfold nwx at hv
  by_cases hj : n < 0
  · rw [if_pos hj] at hv; cases hv
  rw [if_neg hj] at hv
  by_cases hl : cap < n.toNatClampNeg
  · rw [if_pos hl] at hv; cases hv
  rw [if_neg hl] at hv
  exact ⟨hj, Nat.le_of_not_lt hl, (Option.some.inj hv).symm⟩
theorem Ar.new {α : Type} {f : α → Value} {d : α} {n : Int32} {cA : ClassId} (A : Arr Z h a (newA cA ty n) ty) (q : ¬ n < 0) (hd : defaultValue ty = f d) : Ar Z h a ty ((List.replicate n.toNatClampNeg d).map f) := by
  refine ⟨_, A, ?_, ?_⟩
  · show (Array.replicate n.toNatClampNeg (defaultValue ty)).toList = _
    rw [Array.toList_replicate, List.map_replicate, hd]
  · rw [List.length_map, List.length_replicate]; exact (back32 q).2
/-- a new array of ints, bytes, booleans .. -/
theorem nwA (X : Stand p l e R s m args below meth c T locs cells slots) (hx : p.tables.exec = Jvm.exec) (hZ : Z.Warmed39 s.vm) {aty : ArrayType} (w : (Cond.arrayClass (newarray.typeOf aty)).before a0 Z = true) (eT : T.heap = h) {α : Type} {f : α → Value} {d : α} {cap : Nat} {n : Int32} {xs : List α} (hv : nwx d cap n = some xs) (hdf : defaultValue (newarray.typeOf aty) = f d)
    {g : JFrame} (hg : g.method = m) {rest : List Value} (hs : g.stack = .int n :: rest) (hd : decode c.code g.pc = .ok (.newarray aty, 2)) (hb : cap * 8 ≤ 536870912) (hc : cells + 1 ≤ R.cells) (hl : slots + cap ≤ R.slots) :
    ∃ T' h', Stand p l e R s m args below meth c T' locs (cells + 1) (slots + cap) ∧ T'.heap = h' ∧ Ext h h' ∧ Ar Z h' h.size (newarray.typeOf aty) (xs.map f) ∧ ∀ target, Steps p.tables e below (T'.setTop { g with pc := g.pc + 2, stack := .ref h.size :: rest }) target → Steps p.tables e below (T.setTop g) target := by
  obtain ⟨q1, q2, rfl⟩ := nwx_at hv
  obtain ⟨T', h', cA, X', e', E', A', st⟩ := newP X hx hZ w eT hg hd hs q1 (cap := cap) q2 hb hc hl
  exact ⟨T', h', X', e', E', Ar.new A' q1 hdf, st⟩
variable {y : MethodName} {bytes : ByteArray} {maxL : Nat} {ret : Option FieldType} {rm : Room} {as' : Array Value} {Q : Option Value → Heap → List Loc → Prop} {own : String} {index : Nat}
/-- a static call by the callee's contract -/
theorem callQ (X : Stand p l e R s m args below meth c T locs cells slots) (hx : p.tables.exec = Jvm.exec) (hZ : Z.Warmed39 s.vm)
    (hown : s.vm.findClass own = some m.cls) (w1 : (Cond.methodLink own index y).before a0 Z = true) (w2 : (Cond.static y).before a0 Z = true) (w3 : (Cond.initialized y.cls).before a0 Z = true) (w4 : (Cond.code y bytes maxL ret).before a0 Z = true) (hy : y.cls ≠ "java/lang/invoke/MethodHandle" ∧ y.cls ≠ "java/lang/invoke/VarHandle")
    (hM : MetFree l y (head1 [Cond.code y bytes maxL ret] rm) (fun a U => a = as' ∧ Z.Warmed39 U.vm ∧ U.heap = h) (fun _ _ _ _ _ => True) (fun _ U o U' => ∃ v L, o = .returned v ∧ Q v U'.heap L ∧ FrameEnd U o U' L rm.cells rm.slots))
    {W : Nat} (hf : rm.frames + 1 ≤ R.frames) (hl : W + (maxL + 11) + rm.locals ≤ R.locals) (hc : cells + rm.cells ≤ R.cells) (hs' : slots + rm.slots ≤ R.slots) (eT : T.heap = h)
    {g : JFrame} (hg : g.method = m) (hsize : g.locals.size = c.maxLocals) {argsL rest : List Value} (hlen : ∀ sig, parseMethodDescriptor y.desc = some sig → argsL.length = sig.parameters.length)
    (hstack : g.stack = argsL.reverse ++ rest) (hW : 2 * g.monitorRoom + (rest.map fun v => v.category).sum ≤ W) (hdg : decode c.code g.pc = .ok (.invokestatic index, 3)) (has : argsL.toArray = as' := by rfl) :
    ∃ v T' L', Stand p l e R s m args below meth c T' (locs ++ L') (cells + rm.cells) (slots + rm.slots) ∧ Q v T'.heap L' ∧ ∀ target, Steps p.tables e below (T'.setTop { g with pc := g.pc + 3, stack := v.toList ++ rest }) target → Steps p.tables e below (T.setTop g) target := by
  obtain ⟨v, vm₁, ⟨T', L', k', n'⟩, -, X', ⟨Lc, q2, l1, y1, z3⟩, st⟩ := Jvm.LawKit.callS X hx (y := y) hown (mvT hZ w1) (mvT hZ w2) (mvT hZ w3) (mvT hZ w4) hy (backOf (W := W) hM hZ w4 w3 hf hl) hg hsize hlen hstack hW hdg (fun _ _ => ⟨has, eT, hc, hs'⟩)
  dsimp only [Pt.U, Pt.locs, Pt.cells, Pt.slots] at X' l1 y1 z3 st q2
  subst l1 y1 z3
  exact ⟨v, T', Lc, X', q2, st⟩
/-- a constructor by its contract -/
theorem callN {ret : Option FieldType} (X : Stand p l e R s m args below meth c T locs cells slots) (hx : p.tables.exec = Jvm.exec) (hZ : Z.Warmed39 s.vm) (hret : ret = none) (hnm : y.name = "<init>")
    (hown : s.vm.findClass own = some m.cls) (w1 : (Cond.methodLink own index y).before a0 Z = true) (w2 : (Cond.instanceMethod y).before a0 Z = true) (w3 : (Cond.initialized y.cls).before a0 Z = true) (w4 : (Cond.code y bytes maxL ret).before a0 Z = true) (hy : y.cls ≠ "java/lang/invoke/MethodHandle" ∧ y.cls ≠ "java/lang/invoke/VarHandle")
    (hM : MetFree l y (head1 [Cond.code y bytes maxL ret] rm) (fun a U => a = as' ∧ Z.Warmed39 U.vm ∧ U.heap = h) (fun _ _ _ _ _ => True) (fun _ U o U' => ∃ v L, o = .returned v ∧ Q v U'.heap L ∧ FrameEnd U o U' L rm.cells rm.slots))
    {W : Nat} (hf : rm.frames + 1 ≤ R.frames) (hl : W + (maxL + 11) + rm.locals ≤ R.locals) (hc : cells + rm.cells ≤ R.cells) (hs' : slots + rm.slots ≤ R.slots) (eT : T.heap = h)
    {g : JFrame} (hg : g.method = m) (hsize : g.locals.size = c.maxLocals) {a : Addr} {argsL rest : List Value} (hlen : ∀ sig, parseMethodDescriptor y.desc = some sig → argsL.length = sig.parameters.length)
    (hstack : g.stack = argsL.reverse ++ .ref a :: rest) (hW : 2 * g.monitorRoom + (rest.map fun v => v.category).sum ≤ W) (hdg : decode c.code g.pc = .ok (.invokespecial index, 3)) (has : (Value.ref a :: argsL).toArray = as' := by rfl) :
    ∃ v T' L', Stand p l e R s m args below meth c T' (locs ++ L') (cells + rm.cells) (slots + rm.slots) ∧ Q v T'.heap L' ∧ ∀ target, Steps p.tables e below (T'.setTop { g with pc := g.pc + 3, stack := v.toList ++ rest }) target → Steps p.tables e below (T.setTop g) target := by
  subst hret
  obtain ⟨v, vm₁, ⟨T', L', k', n'⟩, -, X', ⟨Lc, q2, l1, y1, z3⟩, st⟩ := X.specialBack hx (y := y) hnm hown (mvT hZ w1) (mvT hZ w2) (mvT hZ w4) hy (backOf (W := W) hM hZ w4 w3 hf hl) hg hsize (Steps.refl _) hlen hstack hW hdg (fun _ _ => ⟨has, eT, hc, hs'⟩)
  dsimp only [Pt.U, Pt.locs, Pt.cells, Pt.slots] at X' l1 y1 z3 st q2
  subst l1 y1 z3
  exact ⟨v, T', Lc, X', q2, fun t k => st.trans k⟩
/-- an instance method by its contract -/
theorem callV (X : Stand p l e R s m args below meth c T locs cells slots) (hx : p.tables.exec = Jvm.exec) (hZ : Z.Warmed39 s.vm)
    (hown : s.vm.findClass own = some m.cls) (w1 : (Cond.methodLink own index y).before a0 Z = true) (w2 : (Cond.declares y).before a0 Z = true) (w3 : (Cond.selects y.cls y y).before a0 Z = true) (w5 : (Cond.instanceMethod y).before a0 Z = true) (w6 : (Cond.initialized y.cls).before a0 Z = true) (w4 : (Cond.code y bytes maxL ret).before a0 Z = true) (hy : y.cls ≠ "java/lang/invoke/MethodHandle" ∧ y.cls ≠ "java/lang/invoke/VarHandle")
    (hM : MetFree l y (head1 [Cond.code y bytes maxL ret] rm) (fun a U => a = as' ∧ Z.Warmed39 U.vm ∧ U.heap = h) (fun _ _ _ _ _ => True) (fun _ U o U' => ∃ v L, o = .returned v ∧ Q v U'.heap L ∧ FrameEnd U o U' L rm.cells rm.slots))
    {W : Nat} (hf : rm.frames + 1 ≤ R.frames) (hl : W + (maxL + 11) + rm.locals ≤ R.locals) (hc : cells + rm.cells ≤ R.cells) (hs' : slots + rm.slots ≤ R.slots) (eT : T.heap = h) {a : Addr} (E : Exa Z h a y.cls)
    {g : JFrame} (hg : g.method = m) (hsize : g.locals.size = c.maxLocals) {argsL rest : List Value} (hlen : ∀ sig, parseMethodDescriptor y.desc = some sig → argsL.length = sig.parameters.length)
    (hstack : g.stack = argsL.reverse ++ .ref a :: rest) (hW : 2 * g.monitorRoom + (rest.map fun v => v.category).sum ≤ W) (hdg : decode c.code g.pc = .ok (.invokevirtual index, 3)) (has : (Value.ref a :: argsL).toArray = as' := by rfl) :
    ∃ v T' L', Stand p l e R s m args below meth c T' (locs ++ L') (cells + rm.cells) (slots + rm.slots) ∧ Q v T'.heap L' ∧ ∀ target, Steps p.tables e below (T'.setTop { g with pc := g.pc + 3, stack := v.toList ++ rest }) target → Steps p.tables e below (T.setTop g) target := by
  obtain ⟨cq, kq, qa, qb, qc⟩ := isOf hZ eT E
  obtain ⟨v, vm₁, ⟨T', L', k', n'⟩, -, X', ⟨Lc, q2, l1, y1, z3⟩, st⟩ := X.virtualBack hx (y := y) (z := y) hown (mvT hZ w1) (mvT hZ w2) (notFace_of_selects (args := #[]) (mvT hZ w3)) (mvT hZ w3) (mvT hZ w5) hy (backOf (W := W) hM hZ w4 w6 hf hl) qa qc hg hsize (Steps.refl _) hlen hstack hW hdg (fun _ _ => ⟨has, eT, hc, hs'⟩)
  dsimp only [Pt.U, Pt.locs, Pt.cells, Pt.slots] at X' l1 y1 z3 st q2
  subst l1 y1 z3
  exact ⟨v, T', Lc, X', q2, fun t k => st.trans k⟩
/-- a private method by its contract -/
theorem callR (X : Stand p l e R s m args below meth c T locs cells slots) (hx : p.tables.exec = Jvm.exec) (hZ : Z.Warmed39 s.vm)
    (hown : s.vm.findClass own = some m.cls) (w1 : (Cond.methodLink own index y).before a0 Z = true) (w2 : (Cond.privateMethod y).before a0 Z = true) {kk : Nat} (w3 : (Cond.instantiable y.cls kk).before a0 Z = true) (w5 : (Cond.instanceMethod y).before a0 Z = true) (w6 : (Cond.initialized y.cls).before a0 Z = true) (w4 : (Cond.code y bytes maxL ret).before a0 Z = true) (hy : y.cls ≠ "java/lang/invoke/MethodHandle" ∧ y.cls ≠ "java/lang/invoke/VarHandle")
    (hM : MetFree l y (head1 [Cond.code y bytes maxL ret] rm) (fun a U => a = as' ∧ Z.Warmed39 U.vm ∧ U.heap = h) (fun _ _ _ _ _ => True) (fun _ U o U' => ∃ v L, o = .returned v ∧ Q v U'.heap L ∧ FrameEnd U o U' L rm.cells rm.slots))
    {W : Nat} (hf : rm.frames + 1 ≤ R.frames) (hl : W + (maxL + 11) + rm.locals ≤ R.locals) (hc : cells + rm.cells ≤ R.cells) (hs' : slots + rm.slots ≤ R.slots) (eT : T.heap = h) {a : Addr} (E : Exa Z h a y.cls)
    {g : JFrame} (hg : g.method = m) (hsize : g.locals.size = c.maxLocals) {argsL rest : List Value} (hlen : ∀ sig, parseMethodDescriptor y.desc = some sig → argsL.length = sig.parameters.length)
    (hstack : g.stack = argsL.reverse ++ .ref a :: rest) (hW : 2 * g.monitorRoom + (rest.map fun v => v.category).sum ≤ W) (hdg : decode c.code g.pc = .ok (.invokevirtual index, 3)) (has : (Value.ref a :: argsL).toArray = as' := by rfl) :
    ∃ v T' L', Stand p l e R s m args below meth c T' (locs ++ L') (cells + rm.cells) (slots + rm.slots) ∧ Q v T'.heap L' ∧ ∀ target, Steps p.tables e below (T'.setTop { g with pc := g.pc + 3, stack := v.toList ++ rest }) target → Steps p.tables e below (T.setTop g) target := by
  obtain ⟨cq, q, q'⟩ := E.cell
  have hpr := Cond.privateMethod_at (mvP hZ w2 (args := args))
  obtain ⟨c4, k2, i1, i2, -, i4, -⟩ := Cond.instantiable_spec (mvT hZ w3 : (Cond.instantiable y.cls kk).before args s = true)
  have hsel := selects_self_of_private (args := args) i1 i2 (by simp only [Bool.or_eq_false_iff] at i4; exact i4.1) hpr (mvT hZ w5) hy
  obtain ⟨v, vm₁, ⟨T', L', k', n'⟩, -, X', ⟨Lc, q2, l1, y1, z3⟩, st⟩ := X.privateBack hx (y := y) hown (mvT hZ w1) (mvT hZ w5) hsel hpr (mvT hZ w4) hy (backOf (W := W) hM hZ w4 w6 hf hl) hg hsize (Steps.refl _) (by rw [eT]; exact q) q' hlen hstack hW hdg (fun _ _ => ⟨has, eT, hc, hs'⟩)
  dsimp only [Pt.U, Pt.locs, Pt.cells, Pt.slots] at X' l1 y1 z3 st q2
  subst l1 y1 z3
  exact ⟨v, T', Lc, X', q2, fun t k => st.trans k⟩
end Own2
end Jvm.RoadKit
namespace Jvm.RoadKit
open Sem ClassFile Op Lib Jvm.Stand Jvm.Free Jvm.LawKit
section Own3
variable {p : Program} {l : Launch} {e : Env} {R : Room} {s : State} {vm0 : Vm} {k0 : Nat} {m : MethodId} {args : Array Value} {below : List Frame} {meth : Method} {c : Code} {T : State} {locs : List Loc} {cells slots : Nat} {k n : Nat} {Q : Option Value → Heap → List Loc → Prop} {W W' : State} {Z : State} {a0 : Array Value} {h : Heap}
/-- as OwnOut, of a run that may have interned strings -/
def OwnOutW (p : Program) (e : Env) (s : State) (below : List Frame) (k n : Nat) (Q : Option Value → Heap → List Loc → Prop) (W : State) : Prop :=
  ∃ s₂ o, Steps p.tables e below W s₂ ∧ s₂.status = .running ∧ Ended s₂ below o ∧ ∃ v L, o = .returned v ∧ Q v s₂.heap L ∧ ReturnedEndW s o s₂ L k n
theorem OwnOutW.go (h : ∀ t, Steps p.tables e below W' t → Steps p.tables e below W t) (H : OwnOutW p e s below k n Q W') : OwnOutW p e s below k n Q W := by
  obtain ⟨s₂, o, h1, h2⟩ := H
  exact ⟨s₂, o, h _ h1, h2⟩
theorem OwnOutW.at {g g' : JFrame} (q : g = g') (H : OwnOutW p e s below k n Q (T.setTop g')) : OwnOutW p e s below k n Q (T.setTop g) := q ▸ H
theorem rendMono {o : Outcome} {t : State} {L : List Loc} (H : ReturnedEndW s o t L cells slots) (hk : cells ≤ k) (hn : slots ≤ n) : ReturnedEndW s o t L k n := ⟨H.1, H.2.1, H.2.2.1, H.2.2.2.mono hk hn⟩
theorem outZW (X : Stand p l e R (s.setVm vm0) m args below meth c T locs cells slots) (hS : s.Since vm0 k0) (hk0 : k0 ≤ T.heap.size) (hx : p.tables.exec = Jvm.exec) {pc : Nat} {Ls : Array Slot} {z : Int32} (hret : meth.sig.returnType = some .boolean) (hd : decode c.code pc = .ok (.ireturn, 1)) (hlk : meth.locks = false) (hk : cells ≤ k) (hn : slots ≤ n) (q : Q (some (.int (z &&& 1))) T.heap locs) :
    OwnOutW p e s below k n Q (T.setTop (mkF m pc Ls [.int z])) := by
  obtain ⟨fs, hr, hrun, hended, hE⟩ := X.leaveW hS hk0 (v := some (.int (z &&& 1))) (fun h => by rw [hret] at h; cases h) hlk
  exact ⟨_, _, retN X hx (t := .boolean) hret (by simp) hd hr, hrun, hended, _, _, rfl, q, rendMono hE hk hn⟩
theorem outVW (X : Stand p l e R (s.setVm vm0) m args below meth c T locs cells slots) (hS : s.Since vm0 k0) (hk0 : k0 ≤ T.heap.size) (hx : p.tables.exec = Jvm.exec) {pc : Nat} {Ls : Array Slot} (hret : meth.sig.returnType = none) (hd : decode c.code pc = .ok (.return_, 1)) (hlk : meth.locks = false) (hk : cells ≤ k) (hn : slots ≤ n) (q : Q none T.heap locs) :
    OwnOutW p e s below k n Q (T.setTop (mkF m pc Ls [])) := by
  obtain ⟨fs, hr, hrun, hended, hE⟩ := X.leaveW hS hk0 (v := none) (fun _ => rfl) hlk
  exact ⟨_, _, X.returnOut hx hret hd hr, hrun, hended, _, _, rfl, q, rendMono hE hk hn⟩
/-- a constructor that may intern, by its contract -/
theorem callNW {y : MethodName} {bytes : ByteArray} {maxL : Nat} {ret : Option FieldType} {rm : Room} {as' : Array Value} {own : String} {index : Nat} (X : Stand p l e R (s.setVm vm0) m args below meth c T locs cells slots) (hS : s.Since vm0 k0) (hk0 : k0 ≤ h.size) (hx : p.tables.exec = Jvm.exec) (hZ : Z.Warmed39 vm0) (hret : ret = none) (hnm : y.name = "<init>")
    (hown : vm0.findClass own = some m.cls) (w1 : (Cond.methodLink own index y).before a0 Z = true) (w2 : (Cond.instanceMethod y).before a0 Z = true) (w3 : (Cond.initialized y.cls).before a0 Z = true) (w4 : (Cond.code y bytes maxL ret).before a0 Z = true) (hy : y.cls ≠ "java/lang/invoke/MethodHandle" ∧ y.cls ≠ "java/lang/invoke/VarHandle")
    (hM : MetFree l y (head1 [Cond.code y bytes maxL ret] rm) (fun a U => a = as' ∧ Z.Warmed39 U.vm ∧ U.heap = h) (fun _ _ _ _ _ => True) (fun _ U o U' => ∃ v L, o = .returned v ∧ Q v U'.heap L ∧ ReturnedEndW U o U' L rm.cells rm.slots))
    {W : Nat} (hf : rm.frames + 1 ≤ R.frames) (hl : W + (maxL + 11) + rm.locals ≤ R.locals) (hc : cells + rm.cells ≤ R.cells) (hs' : slots + rm.slots ≤ R.slots) (eT : T.heap = h)
    {g : JFrame} (hg : g.method = m) (hsize : g.locals.size = c.maxLocals) {a : Addr} {argsL rest : List Value} (hlen : ∀ sig, parseMethodDescriptor y.desc = some sig → argsL.length = sig.parameters.length)
    (hstack : g.stack = argsL.reverse ++ .ref a :: rest) (hW : 2 * g.monitorRoom + (rest.map fun v => v.category).sum ≤ W) (hdg : decode c.code g.pc = .ok (.invokespecial index, 3)) (has : (Value.ref a :: argsL).toArray = as' := by rfl) :
    ∃ v T' L', Stand p l e R (s.setVm T'.vm) m args below meth c T' (locs ++ L') (cells + rm.cells) (slots + rm.slots) ∧ s.Since T'.vm T'.heap.size ∧ Z.Warmed39 T'.vm ∧ T'.vm.findClass own = some m.cls ∧ Q v T'.heap L' ∧ ∀ target, Steps p.tables e below (T'.setTop { g with pc := g.pc + 3, stack := v.toList ++ rest }) target → Steps p.tables e below (T.setTop g) target := by
  subst hret
  have hZ' : Z.Warmed39 (s.setVm vm0).vm := hZ
  obtain ⟨v, vm₁, ⟨T', L', k', n'⟩, -, X', hS2, hgr, ⟨Lc, q2, l1, y1, z3⟩, st⟩ := X.specialBackS hx (y := y) hnm hown (mvT hZ' w1) (mvT hZ' w2) (mvT hZ' w4) hy (backOfS (W := W) hM hZ' w4 w3 hf hl) hg hsize (Steps.refl _) hlen hstack hW hdg (fun _ _ => ⟨has, eT, hc, hs'⟩)
  dsimp only [Pt.U, Pt.locs, Pt.cells, Pt.slots] at X' hS2 hgr l1 y1 z3 st q2
  subst l1 y1 z3
  refine ⟨v, T', Lc, X', hS.trans hS2 (Nat.le_trans hk0 (eT ▸ hgr)), State.Warmed39.trans (t := s.setVm vm0) hZ hS2.1, ?_, q2, fun t k => st.trans k⟩
  have q := hS2.1.alike.findClass (name := own)
  rw [q]; exact hown
end Own3
end Jvm.RoadKit
namespace Jvm.Pilot.@@N@@
open Jvm Jvm.ClassFile Sem Op Lib Jvm.Free Jvm.Stand Jvm.LawKit Jvm.RoadKit Bundle Jvm.Pilot.@@N@@.Jvm.D
def own_wD : String := match (tables_1[25]? : Option Jvm.Cond) with | some (Jvm.Cond.fieldLink _ _ _ _ d) => d | _ => ""
theorem own_wS {Z : State} {a0 : Array Value} (hw : ∀ d ∈ tables_1, d.before a0 Z = true) : ∀ a ∈ Bundle.stringAtoms, a.before a0 Z = true := by
  intro a ha
  simp only [Bundle.stringAtoms, List.mem_cons, List.not_mem_nil, or_false] at ha
  rcases ha with rfl | rfl | rfl | rfl | rfl | rfl | rfl
  · exact (hw _ (List.mem_of_getElem? (i := 7) rfl))
  · exact (hw _ (List.mem_of_getElem? (i := 8) rfl))
  · exact (hw _ (List.mem_of_getElem? (i := 9) rfl))
  · exact (hw _ (List.mem_of_getElem? (i := 10) rfl))
  · exact (hw _ (List.mem_of_getElem? (i := 11) rfl))
  · exact (hw _ (List.mem_of_getElem? (i := 12) rfl))
  · exact (hw _ (List.mem_of_getElem? (i := 13) rfl))

theorem d3_0 : decode prog_1_method_3_code 0 = .ok (.lload_n 0, 1) := by decide +kernel
theorem d3_1 : decode prog_1_method_3_code 1 = .ok (.lconst 0, 1) := by decide +kernel
theorem d3_2 : decode prog_1_method_3_code 2 = .ok (.lcmp, 1) := by decide +kernel
theorem d3_3 : decode prog_1_method_3_code 3 = .ok (.ifCond .ge 18, 3) := by decide +kernel
theorem d3_21 : decode prog_1_method_3_code 21 = .ok (.lload_n 0, 1) := by decide +kernel
theorem d3_22 : decode prog_1_method_3_code 22 = .ok (.lreturn, 1) := by decide +kernel
theorem pn3 : plainName (site_54.cls) = true := by first | (simp [plainName, overriddenIn]; done) | decide +kernel
theorem pd3 : parseMethodDescriptor "(JLjava/lang/String;)J" = some ⟨[.long, (.object "java/lang/String")], some .long⟩ := by decide +kernel
theorem ef3 (m : MethodId) (x0 : Int64) (x2 : Addr) : entryFrame m #[(.long x0), (.ref x2)] 3 = mkF m 0 #[.val (.long x0), .second, .val (.ref x2)] [] := by first | (simp [entryFrame, mkF, argsToLocals, Value.category]; done) | rfl
abbrev rx3 : Room := { frames := 0, cells := 0, slots := 0, locals := 0 }
abbrev Cx3 (Z : State) (a0 : Array Value) (p : Program) (s : State) (m : MethodId) (meth : Method) (c : Code) : Prop := p.tables.exec = Jvm.exec ∧ Z.Warmed39 s.vm ∧ (∀ d ∈ tables_1, d.before a0 Z = true) ∧ c.code = prog_1_method_3_code ∧ c.maxLocals = 3 ∧ s.vm.findClass (site_54.cls) = some m.cls ∧ meth.sig.returnType = (some .long) ∧ meth.locks = false ∧ meth.name = "checked"
def Q3 (Z : State) (x0 : Int64) (x2 : Addr) (h0 : Heap) (o : Int64) (v : Option Value) (h : Heap) (L : List Loc) : Prop := v = some (.long o) ∧ h = h0 ∧ L = []
def f3 (x0 : Int64) : Option (Int64) := (if x0 < (0 : Int64) then none else some (x0))
set_option maxRecDepth 65536 in
set_option maxHeartbeats 40000000 in
theorem w3_0 {p : Program} {l : Launch} {e : Env} {s : State} {m : MethodId} {args : Array Value} {below : List Frame} {meth : Method} {c : Code} {Z : State} {a0 : Array Value} {h0 : Heap} (C : Cx3 Z a0 p s m meth c) :
    ∀ (T : State) (x0 : Int64) (x2 : Addr) (o : Int64), f3 x0 = some o → Stand p l e rx3 s m args below meth c T [] 0 0 → T.heap = h0 →  OwnOut p e s below 0 0 (Q3 Z default 0 h0 o) (T.setTop (mkF m 0 #[.val (.long x0), .second, .val (.ref x2)] [])) := by
    obtain ⟨hx, hZ, hw, hby, hml, hown, hret, hlk, hnm⟩ := C
    intro T x0 x2 o hr X0 e0
    rw [f3] at hr
    refine OwnOut.go (fun t k => XS.lloadN X0.here hx rfl (hb hby d3_0) rfl k) ?_
    show OwnOut p e s below 0 0 _ (T.setTop (mkF m 1 #[.val (.long x0), .second, .val (.ref x2)] [(.long x0)]))
    refine OwnOut.go (fun t k => XT.lconstV X0.here hx rfl (0 : Int64) (hb hby d3_1) rfl k) ?_
    show OwnOut p e s below 0 0 _ (T.setTop (mkF m 2 #[.val (.long x0), .second, .val (.ref x2)] [(.long (0 : Int64)), (.long x0)]))
    refine OwnOut.go (fun t k => XS.lcmp X0.here hx rfl (hb hby d3_2) rfl k) ?_
    show OwnOut p e s below 0 0 _ (T.setTop (mkF m 3 #[.val (.long x0), .second, .val (.ref x2)] [(.int (XT.cmpL x0 (0 : Int64)))]))
    by_cases hc3 : x0 < (0 : Int64)
    · rw [if_pos hc3] at hr
      cases hr
    · rw [if_neg hc3] at hr
      refine OwnOut.go (fun t k => XS.ifYes X0.here hx rfl (pc0 := 3) (pc' := 21) rfl (hb hby d3_3) rfl (XT.ll_ge_t hc3) (by decide) (by decide) k) ?_
      show OwnOut p e s below 0 0 _ (T.setTop (mkF m 21 #[.val (.long x0), .second, .val (.ref x2)] []))
      refine OwnOut.go (fun t k => XS.lloadN X0.here hx rfl (hb hby d3_21) rfl k) ?_
      show OwnOut p e s below 0 0 _ (T.setTop (mkF m 22 #[.val (.long x0), .second, .val (.ref x2)] [(.long x0)]))
      cases hr
      exact outJ X0 hx hret (hb hby d3_22) hlk (by decide) (by decide) ⟨rfl, e0, rfl⟩
set_option maxRecDepth 65536 in
set_option maxHeartbeats 40000000 in
theorem rm3 (l : Launch) (Z : State) (a0 : Array Value) (hw : ∀ d ∈ tables_1, d.before a0 Z = true) (ws : List Jvm.Cond) (x0 : Int64) (x2 : Addr) (h0 : Heap) (o : Int64) (hr : f3 x0 = some o) :
    MetFree l (⟨(site_54.cls), "checked", "(JLjava/lang/String;)J"⟩ : MethodName) (head1 (Jvm.Cond.code (⟨(site_54.cls), "checked", "(JLjava/lang/String;)J"⟩ : MethodName) prog_1_method_3_code 3 (some .long) :: ws) rx3) (fun a U => a = #[(.long x0), (.ref x2)] ∧ Z.Warmed39 U.vm ∧ U.heap = h0) (fun _ _ _ _ _ => True) (fun _ U o' U' => ∃ v L, o' = .returned v ∧ Q3 Z x0 x2 h0 o v U'.heap L ∧ FrameEnd U o' U' L rx3.cells rx3.slots) := by
  refine MetFree.of_bodySF (plainFor_of_name pn3) hisR ?_
  intro p e s m args below meth c s₁ Bd hml0 hP hK
  obtain ⟨rfl, hZ, hh⟩ := hP
  have X0 : Stand p l e rx3 s m #[(.long x0), (.ref x2)] below meth c s₁ [] 0 0 := Stand.of_body Bd
  have e0 : s₁.heap = h0 := by rw [← hh, Bd.state]; rfl
  have hfc := findClass_of_methodNamed Bd.named
  exact OwnOut.at (ef3 m x0 x2) (w3_0 ⟨Bd.exec, hZ, hw, Bd.bytes, hml0, hfc, Bd.returns, Bd.notSynchronized, (name_of_methodNamed Bd.named Bd.method).1⟩ _ x0 x2 o hr X0 e0  )
theorem d1_0 : decode prog_1_method_1_code 0 = .ok (.aload_n 0, 1) := by decide +kernel
theorem d1_1 : decode prog_1_method_1_code 1 = .ok (.invokespecial 1, 3) := by decide +kernel
theorem d1_4 : decode prog_1_method_1_code 4 = .ok (.aload_n 0, 1) := by decide +kernel
theorem d1_5 : decode prog_1_method_1_code 5 = .ok (.lload_n 1, 1) := by decide +kernel
theorem d1_6 : decode prog_1_method_1_code 6 = .ok (.aload_n 3, 1) := by decide +kernel
theorem d1_7 : decode prog_1_method_1_code 7 = .ok (.invokestatic 7, 3) := by decide +kernel
theorem d1_10 : decode prog_1_method_1_code 10 = .ok (.putfield 13, 3) := by decide +kernel
theorem d1_13 : decode prog_1_method_1_code 13 = .ok (.aload_n 0, 1) := by decide +kernel
theorem d1_14 : decode prog_1_method_1_code 14 = .ok (.aconst_null, 1) := by decide +kernel
theorem d1_15 : decode prog_1_method_1_code 15 = .ok (.putfield 17, 3) := by decide +kernel
theorem d1_18 : decode prog_1_method_1_code 18 = .ok (.aload_n 0, 1) := by decide +kernel
theorem d1_19 : decode prog_1_method_1_code 19 = .ok (.lconst 0, 1) := by decide +kernel
theorem d1_20 : decode prog_1_method_1_code 20 = .ok (.putfield 21, 3) := by decide +kernel
theorem d1_23 : decode prog_1_method_1_code 23 = .ok (.return_, 1) := by decide +kernel
theorem pn1 : plainName (site_54.cls) = true := by first | (simp [plainName, overriddenIn]; done) | decide +kernel
theorem pd1 : parseMethodDescriptor "(JLjava/lang/String;)V" = some ⟨[.long, (.object "java/lang/String")], none⟩ := by decide +kernel
theorem ef1 (m : MethodId) (b0 : Addr) (x1 : Int64) (x3 : Addr) : entryFrame m #[(.ref b0), (.long x1), (.ref x3)] 4 = mkF m 0 #[.val (.ref b0), .val (.long x1), .second, .val (.ref x3)] [] := by first | (simp [entryFrame, mkF, argsToLocals, Value.category]; done) | rfl
abbrev rx1 : Room := { frames := 1, cells := 0, slots := 0, locals := 15 }
abbrev Cx1 (Z : State) (a0 : Array Value) (p : Program) (s : State) (m : MethodId) (meth : Method) (c : Code) : Prop := p.tables.exec = Jvm.exec ∧ Z.Warmed39 s.vm ∧ (∀ d ∈ tables_1, d.before a0 Z = true) ∧ c.code = prog_1_method_1_code ∧ c.maxLocals = 4 ∧ s.vm.findClass (site_54.cls) = some m.cls ∧ meth.sig.returnType = none ∧ meth.locks = false ∧ meth.name = "<init>"
def Q1 (Z : State) (x1 : Int64) (x3 : Addr) (b0 : Addr) (u0_limit : Int64) (u0_weight : Int64) (u0_spent : Int64) (h0 : Heap) (n0 : Nat) (o : Int64 × Int64) (v : Option Value) (h : Heap) (L : List Loc) : Prop := v = none ∧ Fr n0 L ∧ Keep h0 h [b0] ∧ Fld Z h b0 (site_54.cls) "limit" "J" (.long o.1) ∧ Fld Z h b0 (site_54.cls) "whole" (own_wD) .null ∧ Fld Z h b0 (site_54.cls) "weight" "J" (.long o.2) ∧ Fld Z h b0 (site_54.cls) "spent" "J" (.long u0_spent)
def f1 (x1 : Int64) (u0_limit : Int64) (u0_weight : Int64) (u0_spent : Int64) : Option (Int64 × Int64) := ((f3 x1).bind fun o2 => some (o2, (0 : Int64)))
set_option maxRecDepth 65536 in
set_option maxHeartbeats 40000000 in
theorem w1_0 {p : Program} {l : Launch} {e : Env} {s : State} {m : MethodId} {args : Array Value} {below : List Frame} {meth : Method} {c : Code} {Z : State} {a0 : Array Value} {h0 : Heap} {n0 : Nat} (C : Cx1 Z a0 p s m meth c) :
    ∀ (T : State) (locs : List Loc) (hA : Heap) (x1 : Int64) (x3 : Addr) (b0 : Addr) (u0_limit : Int64) (u0_weight : Int64) (u0_spent : Int64) (o : Int64 × Int64), f1 x1 u0_limit u0_weight u0_spent = some o → Stand p l e rx1 s m args below meth c T locs 0 0 → T.heap = hA → Fr n0 locs → Old Z n0 hA → Keep h0 hA [b0] → (Exa Z hA b0 (site_54.cls)) → (Fld Z hA b0 (site_54.cls) "limit" "J" (.long u0_limit)) → (Fld Z hA b0 (site_54.cls) "whole" (own_wD) .null) → (Fld Z hA b0 (site_54.cls) "weight" "J" (.long u0_weight)) → (Fld Z hA b0 (site_54.cls) "spent" "J" (.long u0_spent)) → (n0 ≤ b0) →  OwnOut p e s below 0 0 (Q1 Z default 0 b0 default default u0_spent h0 n0 o) (T.setTop (mkF m 0 #[.val (.ref b0), .val (.long x1), .second, .val (.ref x3)] [])) := by
    obtain ⟨hx, hZ, hw, hby, hml, hown, hret, hlk, hnm⟩ := C
    intro T locs hA x1 x3 b0 u0_limit u0_weight u0_spent o hr X0 e0 N0 O0 K0 E0 F0_limit F0_whole F0_weight F0_spent g0
    rw [f1] at hr
    refine OwnOut.go (fun t k => XS.aloadN X0.here hx rfl (hb hby d1_0) rfl rfl k) ?_
    show OwnOut p e s below 0 0 _ (T.setTop (mkF m 1 #[.val (.ref b0), .val (.long x1), .second, .val (.ref x3)] [(.ref b0)]))
    obtain ⟨T1, X1, e1, st1⟩ := initO X0 hx hZ hown (hw _ (List.mem_of_getElem? (i := 17) rfl)) (hw _ (List.mem_of_getElem? (i := 18) rfl)) (hw _ (List.mem_of_getElem? (i := 19) rfl)) e0 (g := (mkF m 1 #[.val (.ref b0), .val (.long x1), .second, .val (.ref x3)] [(.ref b0)])) rfl (by rw [hml]; rfl) rfl (hb hby d1_1) (by decide) (W := 0) (by show 2 * 0 + _ ≤ _; exact Nat.le_of_eq rfl) (by decide)
    refine OwnOut.go (fun t k => st1 _ k) ?_
    show OwnOut p e s below 0 0 _ (T1.setTop (mkF m 4 #[.val (.ref b0), .val (.long x1), .second, .val (.ref x3)] []))
    refine OwnOut.go (fun t k => XS.aloadN X1.here hx rfl (hb hby d1_4) rfl rfl k) ?_
    show OwnOut p e s below 0 0 _ (T1.setTop (mkF m 5 #[.val (.ref b0), .val (.long x1), .second, .val (.ref x3)] [(.ref b0)]))
    refine OwnOut.go (fun t k => XS.lloadN X1.here hx rfl (hb hby d1_5) rfl k) ?_
    show OwnOut p e s below 0 0 _ (T1.setTop (mkF m 6 #[.val (.ref b0), .val (.long x1), .second, .val (.ref x3)] [(.long x1), (.ref b0)]))
    refine OwnOut.go (fun t k => XS.aloadN X1.here hx rfl (hb hby d1_6) rfl rfl k) ?_
    show OwnOut p e s below 0 0 _ (T1.setTop (mkF m 7 #[.val (.ref b0), .val (.long x1), .second, .val (.ref x3)] [(.ref x3), (.long x1), (.ref b0)]))
    obtain ⟨o2, ho2, hr⟩ := Option.bind_eq_some_iff.mp hr
    obtain ⟨r2, T2, L2, X2', hQ2, st2⟩ := callQ (W := 1) (rm := rx3) X1 hx hZ (y := (⟨(site_54.cls), "checked", "(JLjava/lang/String;)J"⟩ : MethodName)) hown (hw _ (List.mem_of_getElem? (i := 20) rfl)) (hw _ (List.mem_of_getElem? (i := 21) rfl)) (hw _ (List.mem_of_getElem? (i := 5) rfl)) (hw _ (List.mem_of_getElem? (i := 22) rfl)) (by decide) (rm3 l Z a0 hw [] x1 x3 hA o2 ho2 ) (by decide) (by decide) (by decide) (by decide) e1 (g := (mkF m 7 #[.val (.ref b0), .val (.long x1), .second, .val (.ref x3)] [(.ref x3), (.long x1), (.ref b0)])) rfl (by rw [hml]; rfl) (argsL := [(.long x1), (.ref x3)]) (rest := [(.ref b0)]) (lenOf pd3 rfl) rfl (by show 2 * 0 + _ ≤ _; exact Nat.le_of_eq rfl) (hb hby d1_7)
    obtain ⟨rfl, e2, rfl⟩ := hQ2
    rw [List.append_nil] at X2'
    have X2 : Stand p l e rx1 _ m args below meth c T2 _ 0 0 := X2'
    refine OwnOut.go (fun t k => st2 _ k) ?_
    show OwnOut p e s below 0 0 _ (T2.setTop (mkF m 10 #[.val (.ref b0), .val (.long x1), .second, .val (.ref x3)] [(.long o2), (.ref b0)]))
    obtain ⟨T3, h3, X3, e3, W3, st3⟩ := putF X2 hx hZ hown (host := "") (Or.inl (hw _ (List.mem_of_getElem? (i := 23) rfl))) Via.refl e2 F0_limit E0 (Or.inr ⟨(hw _ (List.mem_of_getElem? (i := 24) rfl)), rfl, hnm⟩) (hw _ (List.mem_of_getElem? (i := 4) rfl)) (ty := .long) (by decide) rfl rfl (g := (mkF m 10 #[.val (.ref b0), .val (.long x1), .second, .val (.ref x3)] [(.long o2), (.ref b0)])) rfl rfl (hb hby d1_10)
    refine OwnOut.go (fun t k => st3 _ k) ?_
    have E0_3 := E0.wr W3
    have F0_limit_3 := F0_limit.same W3
    have F0_whole_3 := F0_whole.other W3 (Or.inr (slot_ne (Or.inr (hw _ (List.mem_of_getElem? (i := 26) rfl))) (Or.inr (hw _ (List.mem_of_getElem? (i := 24) rfl))) (by decide) (t := (.object (site_54.cls))) (t' := .long) (by decide) (by decide)))
    have F0_weight_3 := F0_weight.other W3 (Or.inr (slot_ne (Or.inr (hw _ (List.mem_of_getElem? (i := 28) rfl))) (Or.inr (hw _ (List.mem_of_getElem? (i := 24) rfl))) (by decide) (t := .long) (t' := .long) (by decide) (by decide)))
    have F0_spent_3 := F0_spent.other W3 (Or.inr (slot_ne (Or.inl (hw _ (List.mem_of_getElem? (i := 45) rfl))) (Or.inr (hw _ (List.mem_of_getElem? (i := 24) rfl))) (by decide) (t := .long) (t' := .long) (by decide) (by decide)))
    have N_3 := Fr.snoc X3 N0 g0
    have O_3 := O0.wr W3 g0
    have K_3 := K0.wr W3 (Or.inl (List.mem_of_getElem? (i := 0) rfl))
    show OwnOut p e s below 0 0 _ (T3.setTop (mkF m 13 #[.val (.ref b0), .val (.long x1), .second, .val (.ref x3)] []))
    refine OwnOut.go (fun t k => XS.aloadN X3.here hx rfl (hb hby d1_13) rfl rfl k) ?_
    show OwnOut p e s below 0 0 _ (T3.setTop (mkF m 14 #[.val (.ref b0), .val (.long x1), .second, .val (.ref x3)] [(.ref b0)]))
    refine OwnOut.go (fun t k => XS.aconstNull X3.here hx rfl (hb hby d1_14) k) ?_
    show OwnOut p e s below 0 0 _ (T3.setTop (mkF m 15 #[.val (.ref b0), .val (.long x1), .second, .val (.ref x3)] [.null, (.ref b0)]))
    obtain ⟨T4, h4, X4, e4, W4, st4⟩ := putF X3 hx hZ hown (host := "") (Or.inl (hw _ (List.mem_of_getElem? (i := 25) rfl))) Via.refl e3 F0_whole_3 E0_3 (Or.inr ⟨(hw _ (List.mem_of_getElem? (i := 26) rfl)), rfl, hnm⟩) (hw _ (List.mem_of_getElem? (i := 4) rfl)) (ty := (.object (site_54.cls))) (by decide) rfl rfl (g := (mkF m 15 #[.val (.ref b0), .val (.long x1), .second, .val (.ref x3)] [.null, (.ref b0)])) rfl rfl (hb hby d1_15)
    refine OwnOut.go (fun t k => st4 _ k) ?_
    have E0_4 := E0_3.wr W4
    have F0_limit_4 := F0_limit_3.other W4 (Or.inr (slot_ne (Or.inr (hw _ (List.mem_of_getElem? (i := 24) rfl))) (Or.inr (hw _ (List.mem_of_getElem? (i := 26) rfl))) (by decide) (t := .long) (t' := (.object (site_54.cls))) (by decide) (by decide)))
    have F0_whole_4 := F0_whole_3.same W4
    have F0_weight_4 := F0_weight_3.other W4 (Or.inr (slot_ne (Or.inr (hw _ (List.mem_of_getElem? (i := 28) rfl))) (Or.inr (hw _ (List.mem_of_getElem? (i := 26) rfl))) (by decide) (t := .long) (t' := (.object (site_54.cls))) (by decide) (by decide)))
    have F0_spent_4 := F0_spent_3.other W4 (Or.inr (slot_ne (Or.inl (hw _ (List.mem_of_getElem? (i := 45) rfl))) (Or.inr (hw _ (List.mem_of_getElem? (i := 26) rfl))) (by decide) (t := .long) (t' := (.object (site_54.cls))) (by decide) (by decide)))
    have N_4 := Fr.snoc X4 N_3 g0
    have O_4 := O_3.wr W4 g0
    have K_4 := K_3.wr W4 (Or.inl (List.mem_of_getElem? (i := 0) rfl))
    show OwnOut p e s below 0 0 _ (T4.setTop (mkF m 18 #[.val (.ref b0), .val (.long x1), .second, .val (.ref x3)] []))
    refine OwnOut.go (fun t k => XS.aloadN X4.here hx rfl (hb hby d1_18) rfl rfl k) ?_
    show OwnOut p e s below 0 0 _ (T4.setTop (mkF m 19 #[.val (.ref b0), .val (.long x1), .second, .val (.ref x3)] [(.ref b0)]))
    refine OwnOut.go (fun t k => XT.lconstV X4.here hx rfl (0 : Int64) (hb hby d1_19) rfl k) ?_
    show OwnOut p e s below 0 0 _ (T4.setTop (mkF m 20 #[.val (.ref b0), .val (.long x1), .second, .val (.ref x3)] [(.long (0 : Int64)), (.ref b0)]))
    obtain ⟨T5, h5, X5, e5, W5, st5⟩ := putF X4 hx hZ hown (host := "") (Or.inl (hw _ (List.mem_of_getElem? (i := 27) rfl))) Via.refl e4 F0_weight_4 E0_4 (Or.inr ⟨(hw _ (List.mem_of_getElem? (i := 28) rfl)), rfl, hnm⟩) (hw _ (List.mem_of_getElem? (i := 4) rfl)) (ty := .long) (by decide) rfl rfl (g := (mkF m 20 #[.val (.ref b0), .val (.long x1), .second, .val (.ref x3)] [(.long (0 : Int64)), (.ref b0)])) rfl rfl (hb hby d1_20)
    refine OwnOut.go (fun t k => st5 _ k) ?_
    have E0_5 := E0_4.wr W5
    have F0_limit_5 := F0_limit_4.other W5 (Or.inr (slot_ne (Or.inr (hw _ (List.mem_of_getElem? (i := 24) rfl))) (Or.inr (hw _ (List.mem_of_getElem? (i := 28) rfl))) (by decide) (t := .long) (t' := .long) (by decide) (by decide)))
    have F0_whole_5 := F0_whole_4.other W5 (Or.inr (slot_ne (Or.inr (hw _ (List.mem_of_getElem? (i := 26) rfl))) (Or.inr (hw _ (List.mem_of_getElem? (i := 28) rfl))) (by decide) (t := (.object (site_54.cls))) (t' := .long) (by decide) (by decide)))
    have F0_weight_5 := F0_weight_4.same W5
    have F0_spent_5 := F0_spent_4.other W5 (Or.inr (slot_ne (Or.inl (hw _ (List.mem_of_getElem? (i := 45) rfl))) (Or.inr (hw _ (List.mem_of_getElem? (i := 28) rfl))) (by decide) (t := .long) (t' := .long) (by decide) (by decide)))
    have N_5 := Fr.snoc X5 N_4 g0
    have O_5 := O_4.wr W5 g0
    have K_5 := K_4.wr W5 (Or.inl (List.mem_of_getElem? (i := 0) rfl))
    show OwnOut p e s below 0 0 _ (T5.setTop (mkF m 23 #[.val (.ref b0), .val (.long x1), .second, .val (.ref x3)] []))
    cases hr
    exact outV X5 hx hret (hb hby d1_23) hlk (by decide) (by decide) (by rw [e5]; exact ⟨rfl, N_5, K_5, F0_limit_5, F0_whole_5, F0_weight_5, F0_spent_5⟩)
set_option maxRecDepth 65536 in
set_option maxHeartbeats 40000000 in
theorem rm1 (l : Launch) (Z : State) (a0 : Array Value) (hw : ∀ d ∈ tables_1, d.before a0 Z = true) (ws : List Jvm.Cond) (x1 : Int64) (x3 : Addr) (b0 : Addr) (u0_limit : Int64) (u0_weight : Int64) (u0_spent : Int64) (h0 : Heap) (n0 : Nat) (o : Int64 × Int64) (hr : f1 x1 u0_limit u0_weight u0_spent = some o) (O0 : Old Z n0 h0) (E0 : Exa Z h0 b0 (site_54.cls)) (F0_limit : Fld Z h0 b0 (site_54.cls) "limit" "J" (.long u0_limit)) (F0_whole : Fld Z h0 b0 (site_54.cls) "whole" (own_wD) .null) (F0_weight : Fld Z h0 b0 (site_54.cls) "weight" "J" (.long u0_weight)) (F0_spent : Fld Z h0 b0 (site_54.cls) "spent" "J" (.long u0_spent)) (g0 : n0 ≤ b0) :
    MetFree l (⟨(site_54.cls), "<init>", "(JLjava/lang/String;)V"⟩ : MethodName) (head1 (Jvm.Cond.code (⟨(site_54.cls), "<init>", "(JLjava/lang/String;)V"⟩ : MethodName) prog_1_method_1_code 4 none :: ws) rx1) (fun a U => a = #[(.ref b0), (.long x1), (.ref x3)] ∧ Z.Warmed39 U.vm ∧ U.heap = h0) (fun _ _ _ _ _ => True) (fun _ U o' U' => ∃ v L, o' = .returned v ∧ Q1 Z x1 x3 b0 u0_limit u0_weight u0_spent h0 n0 o v U'.heap L ∧ FrameEnd U o' U' L rx1.cells rx1.slots) := by
  refine MetFree.of_bodySF (plainFor_of_name pn1) hisR ?_
  intro p e s m args below meth c s₁ Bd hml0 hP hK
  obtain ⟨rfl, hZ, hh⟩ := hP
  have X0 : Stand p l e rx1 s m #[(.ref b0), (.long x1), (.ref x3)] below meth c s₁ [] 0 0 := Stand.of_body Bd
  have e0 : s₁.heap = h0 := by rw [← hh, Bd.state]; rfl
  have hfc := findClass_of_methodNamed Bd.named
  exact OwnOut.at (ef1 m b0 x1 x3) (w1_0 ⟨Bd.exec, hZ, hw, Bd.bytes, hml0, hfc, Bd.returns, Bd.notSynchronized, (name_of_methodNamed Bd.named Bd.method).1⟩ _ _ _ x1 x3 b0 u0_limit u0_weight u0_spent o hr X0 e0 (Fr.nil n0) O0 (Keep.refl _ _) E0 F0_limit F0_whole F0_weight F0_spent g0)
theorem d5_0 : decode jdk_31_method_11_code 0 = .ok (.aload_n 0, 1) := by decide +kernel
theorem d5_1 : decode jdk_31_method_11_code 1 = .ok (.ifnonnull 12, 3) := by decide +kernel
theorem d5_13 : decode jdk_31_method_11_code 13 = .ok (.aload_n 0, 1) := by decide +kernel
theorem d5_14 : decode jdk_31_method_11_code 14 = .ok (.areturn, 1) := by decide +kernel
theorem pn5 : plainName "java/util/Objects" = true := by first | (simp [plainName, overriddenIn]; done) | decide +kernel
theorem pd5 : parseMethodDescriptor "(Ljava/lang/Object;Ljava/lang/String;)Ljava/lang/Object;" = some ⟨[(.object "java/lang/Object"), (.object "java/lang/String")], some (.object "java/lang/Object")⟩ := by decide +kernel
theorem ef5 (m : MethodId) (b0 : Addr) (x1 : Addr) : entryFrame m #[(.ref b0), (.ref x1)] 2 = mkF m 0 #[.val (.ref b0), .val (.ref x1)] [] := by first | (simp [entryFrame, mkF, argsToLocals, Value.category]; done) | rfl
abbrev rx5 : Room := { frames := 0, cells := 0, slots := 0, locals := 0 }
abbrev Cx5 (Z : State) (a0 : Array Value) (p : Program) (s : State) (m : MethodId) (meth : Method) (c : Code) : Prop := p.tables.exec = Jvm.exec ∧ Z.Warmed39 s.vm ∧ (∀ d ∈ tables_1, d.before a0 Z = true) ∧ c.code = jdk_31_method_11_code ∧ c.maxLocals = 2 ∧ s.vm.findClass "java/util/Objects" = some m.cls ∧ meth.sig.returnType = (some (.object "java/lang/Object")) ∧ meth.locks = false ∧ meth.name = "requireNonNull"
def Q5 (Z : State) (x1 : Addr) (b0 : Addr) (u0_limit : Int64) (u0_weight : Int64) (u0_spent : Int64) (h0 : Heap) (o : Unit) (v : Option Value) (h : Heap) (L : List Loc) : Prop := v = some (.ref b0) ∧ h = h0 ∧ L = []
def f5 (u0_limit : Int64) (u0_weight : Int64) (u0_spent : Int64) : Option (Unit) := some ()
set_option maxRecDepth 65536 in
set_option maxHeartbeats 40000000 in
theorem w5_0 {p : Program} {l : Launch} {e : Env} {s : State} {m : MethodId} {args : Array Value} {below : List Frame} {meth : Method} {c : Code} {Z : State} {a0 : Array Value} {h0 : Heap} (C : Cx5 Z a0 p s m meth c) :
    ∀ (T : State) (x1 : Addr) (b0 : Addr) (u0_limit : Int64) (u0_weight : Int64) (u0_spent : Int64) (o : Unit), f5 u0_limit u0_weight u0_spent = some o → Stand p l e rx5 s m args below meth c T [] 0 0 → T.heap = h0 → (Exa Z h0 b0 (site_54.cls)) → (Fld Z h0 b0 (site_54.cls) "limit" "J" (.long u0_limit)) → (Fld Z h0 b0 (site_54.cls) "whole" (own_wD) .null) → (Fld Z h0 b0 (site_54.cls) "weight" "J" (.long u0_weight)) → (Fld Z h0 b0 (site_54.cls) "spent" "J" (.long u0_spent)) →  OwnOut p e s below 0 0 (Q5 Z 0 b0 u0_limit u0_weight u0_spent h0 o) (T.setTop (mkF m 0 #[.val (.ref b0), .val (.ref x1)] [])) := by
    obtain ⟨hx, hZ, hw, hby, hml, hown, hret, hlk, hnm⟩ := C
    intro T x1 b0 u0_limit u0_weight u0_spent o hr X0 e0 E0 F0_limit F0_whole F0_weight F0_spent
    rw [f5] at hr
    refine OwnOut.go (fun t k => XS.aloadN X0.here hx rfl (hb hby d5_0) rfl rfl k) ?_
    show OwnOut p e s below 0 0 _ (T.setTop (mkF m 1 #[.val (.ref b0), .val (.ref x1)] [(.ref b0)]))
    refine OwnOut.go (fun t k => XS.ifnonnullYes X0.here hx rfl (pc0 := 1) (pc' := 13) rfl (hb hby d5_1) rfl (by decide) (by decide) k) ?_
    show OwnOut p e s below 0 0 _ (T.setTop (mkF m 13 #[.val (.ref b0), .val (.ref x1)] []))
    refine OwnOut.go (fun t k => XS.aloadN X0.here hx rfl (hb hby d5_13) rfl rfl k) ?_
    show OwnOut p e s below 0 0 _ (T.setTop (mkF m 14 #[.val (.ref b0), .val (.ref x1)] [(.ref b0)]))
    cases hr
    exact outA X0 hx rfl hret rfl (hb hby d5_14) hlk (by decide) (by decide) ⟨rfl, e0, rfl⟩
set_option maxRecDepth 65536 in
set_option maxHeartbeats 40000000 in
theorem rm5 (l : Launch) (Z : State) (a0 : Array Value) (hw : ∀ d ∈ tables_1, d.before a0 Z = true) (ws : List Jvm.Cond) (x1 : Addr) (b0 : Addr) (u0_limit : Int64) (u0_weight : Int64) (u0_spent : Int64) (h0 : Heap) (o : Unit) (hr : f5 u0_limit u0_weight u0_spent = some o) (E0 : Exa Z h0 b0 (site_54.cls)) (F0_limit : Fld Z h0 b0 (site_54.cls) "limit" "J" (.long u0_limit)) (F0_whole : Fld Z h0 b0 (site_54.cls) "whole" (own_wD) .null) (F0_weight : Fld Z h0 b0 (site_54.cls) "weight" "J" (.long u0_weight)) (F0_spent : Fld Z h0 b0 (site_54.cls) "spent" "J" (.long u0_spent)) :
    MetFree l (⟨"java/util/Objects", "requireNonNull", "(Ljava/lang/Object;Ljava/lang/String;)Ljava/lang/Object;"⟩ : MethodName) (head1 (Jvm.Cond.code (⟨"java/util/Objects", "requireNonNull", "(Ljava/lang/Object;Ljava/lang/String;)Ljava/lang/Object;"⟩ : MethodName) jdk_31_method_11_code 2 (some (.object "java/lang/Object")) :: ws) rx5) (fun a U => a = #[(.ref b0), (.ref x1)] ∧ Z.Warmed39 U.vm ∧ U.heap = h0) (fun _ _ _ _ _ => True) (fun _ U o' U' => ∃ v L, o' = .returned v ∧ Q5 Z x1 b0 u0_limit u0_weight u0_spent h0 o v U'.heap L ∧ FrameEnd U o' U' L rx5.cells rx5.slots) := by
  refine MetFree.of_bodySF (plainFor_of_name pn5) hisR ?_
  intro p e s m args below meth c s₁ Bd hml0 hP hK
  obtain ⟨rfl, hZ, hh⟩ := hP
  have X0 : Stand p l e rx5 s m #[(.ref b0), (.ref x1)] below meth c s₁ [] 0 0 := Stand.of_body Bd
  have e0 : s₁.heap = h0 := by rw [← hh, Bd.state]; rfl
  have hfc := findClass_of_methodNamed Bd.named
  exact OwnOut.at (ef5 m b0 x1) (w5_0 ⟨Bd.exec, hZ, hw, Bd.bytes, hml0, hfc, Bd.returns, Bd.notSynchronized, (name_of_methodNamed Bd.named Bd.method).1⟩ _ x1 b0 u0_limit u0_weight u0_spent o hr X0 e0  E0 F0_limit F0_whole F0_weight F0_spent)
theorem d4_0 : decode prog_1_method_2_code 0 = .ok (.aload_n 0, 1) := by decide +kernel
theorem d4_1 : decode prog_1_method_2_code 1 = .ok (.invokespecial 1, 3) := by decide +kernel
theorem d4_4 : decode prog_1_method_2_code 4 = .ok (.lload 5, 2) := by decide +kernel
theorem d4_6 : decode prog_1_method_2_code 6 = .ok (.lconst 0, 1) := by decide +kernel
theorem d4_7 : decode prog_1_method_2_code 7 = .ok (.lcmp, 1) := by decide +kernel
theorem d4_8 : decode prog_1_method_2_code 8 = .ok (.ifCond .ge 18, 3) := by decide +kernel
theorem d4_26 : decode prog_1_method_2_code 26 = .ok (.aload_n 0, 1) := by decide +kernel
theorem d4_27 : decode prog_1_method_2_code 27 = .ok (.lload_n 1, 1) := by decide +kernel
theorem d4_28 : decode prog_1_method_2_code 28 = .ok (.aload_n 3, 1) := by decide +kernel
theorem d4_29 : decode prog_1_method_2_code 29 = .ok (.invokestatic 7, 3) := by decide +kernel
theorem d4_32 : decode prog_1_method_2_code 32 = .ok (.putfield 13, 3) := by decide +kernel
theorem d4_35 : decode prog_1_method_2_code 35 = .ok (.aload_n 0, 1) := by decide +kernel
theorem d4_36 : decode prog_1_method_2_code 36 = .ok (.aload 4, 2) := by decide +kernel
theorem d4_38 : decode prog_1_method_2_code 38 = .ok (.ldc 33, 2) := by decide +kernel
theorem d4_40 : decode prog_1_method_2_code 40 = .ok (.invokestatic 34, 3) := by decide +kernel
theorem d4_43 : decode prog_1_method_2_code 43 = .ok (.checkcast 8, 3) := by decide +kernel
theorem d4_46 : decode prog_1_method_2_code 46 = .ok (.putfield 17, 3) := by decide +kernel
theorem d4_49 : decode prog_1_method_2_code 49 = .ok (.aload_n 0, 1) := by decide +kernel
theorem d4_50 : decode prog_1_method_2_code 50 = .ok (.lload 5, 2) := by decide +kernel
theorem d4_52 : decode prog_1_method_2_code 52 = .ok (.putfield 21, 3) := by decide +kernel
theorem d4_55 : decode prog_1_method_2_code 55 = .ok (.return_, 1) := by decide +kernel
theorem pn4 : plainName (site_54.cls) = true := by first | (simp [plainName, overriddenIn]; done) | decide +kernel
theorem pd4 : parseMethodDescriptor (site_71.desc) = some ⟨[.long, (.object "java/lang/String"), (.object (site_54.cls)), .long], none⟩ := by decide +kernel
theorem ef4 (m : MethodId) (b0 : Addr) (x1 : Int64) (x3 : Addr) (b1 : Addr) (x5 : Int64) : entryFrame m #[(.ref b0), (.long x1), (.ref x3), (.ref b1), (.long x5)] 7 = mkF m 0 #[.val (.ref b0), .val (.long x1), .second, .val (.ref x3), .val (.ref b1), .val (.long x5), .second] [] := by first | (simp [entryFrame, mkF, argsToLocals, Value.category]; done) | rfl
abbrev rx4 : Room := { frames := 1, cells := 2, slots := 24, locals := 15 }
abbrev Cx4 (Z : State) (a0 : Array Value) (p : Program) (s : State) (m : MethodId) (meth : Method) (c : Code) : Prop := p.tables.exec = Jvm.exec ∧ (∀ d ∈ tables_1, d.before a0 Z = true) ∧ c.code = prog_1_method_2_code ∧ c.maxLocals = 7 ∧ meth.sig.returnType = none ∧ meth.locks = false ∧ meth.name = "<init>"
def Q4 (Z : State) (x1 : Int64) (x3 : Addr) (x5 : Int64) (b0 : Addr) (u0_limit : Int64) (u0_weight : Int64) (u0_spent : Int64) (b1 : Addr) (u1_limit : Int64) (u1_weight : Int64) (u1_spent : Int64) (h0 : Heap) (n0 : Nat) (o : Int64 × Int64) (v : Option Value) (h : Heap) (L : List Loc) : Prop := v = none ∧ Fr n0 L ∧ Keep h0 h [b0] ∧ Fld Z h b0 (site_54.cls) "limit" "J" (.long o.1) ∧ Fld Z h b0 (site_54.cls) "whole" (own_wD) (.ref b1) ∧ Fld Z h b0 (site_54.cls) "weight" "J" (.long o.2) ∧ Fld Z h b0 (site_54.cls) "spent" "J" (.long u0_spent)
def f4 (x1 : Int64) (x5 : Int64) (u0_limit : Int64) (u0_weight : Int64) (u0_spent : Int64) (u1_limit : Int64) (u1_weight : Int64) (u1_spent : Int64) : Option (Int64 × Int64) := (if x5 < (0 : Int64) then none else ((f3 x1).bind fun o2 => ((f5 u1_limit u1_weight u1_spent).bind fun o5 => some (o2, x5))))
set_option maxRecDepth 65536 in
set_option maxHeartbeats 40000000 in
theorem w4_0 {p : Program} {l : Launch} {e : Env} {s : State} {m : MethodId} {args : Array Value} {below : List Frame} {meth : Method} {c : Code} {Z : State} {a0 : Array Value} {h0 : Heap} {n0 : Nat} (C : Cx4 Z a0 p s m meth c) :
    ∀ (T : State) (locs : List Loc) (hA : Heap) (vm0 : Vm) (k0 : Nat) (x1 : Int64) (x3 : Addr) (x5 : Int64) (b0 : Addr) (u0_limit : Int64) (u0_weight : Int64) (u0_spent : Int64) (b1 : Addr) (u1_limit : Int64) (u1_weight : Int64) (u1_spent : Int64) (o : Int64 × Int64), f4 x1 x5 u0_limit u0_weight u0_spent u1_limit u1_weight u1_spent = some o → Stand p l e rx4 (s.setVm vm0) m args below meth c T locs 0 0 → T.heap = hA → Fr n0 locs → Old Z n0 hA → Keep h0 hA [b0] → Z.Warmed39 vm0 → vm0.findClass (site_54.cls) = some m.cls → s.Since vm0 k0 → k0 ≤ hA.size → (Exa Z hA b0 (site_54.cls)) → (Fld Z hA b0 (site_54.cls) "limit" "J" (.long u0_limit)) → (Fld Z hA b0 (site_54.cls) "whole" (own_wD) .null) → (Fld Z hA b0 (site_54.cls) "weight" "J" (.long u0_weight)) → (Fld Z hA b0 (site_54.cls) "spent" "J" (.long u0_spent)) → (Exa Z hA b1 (site_54.cls)) → (Fld Z hA b1 (site_54.cls) "limit" "J" (.long u1_limit)) → (Fld Z hA b1 (site_54.cls) "whole" (own_wD) .null) → (Fld Z hA b1 (site_54.cls) "weight" "J" (.long u1_weight)) → (Fld Z hA b1 (site_54.cls) "spent" "J" (.long u1_spent)) → (n0 ≤ b0) → (n0 ≤ b1) → (b0 ≠ b1) →  OwnOutW p e s below 2 24 (Q4 Z default 0 default b0 default default u0_spent b1 u1_limit u1_weight u1_spent h0 n0 o) (T.setTop (mkF m 0 #[.val (.ref b0), .val (.long x1), .second, .val (.ref x3), .val (.ref b1), .val (.long x5), .second] [])) := by
    obtain ⟨hx, hw, hby, hml, hret, hlk, hnm⟩ := C
    intro T locs hA vm0 k0 x1 x3 x5 b0 u0_limit u0_weight u0_spent b1 u1_limit u1_weight u1_spent o hr X0 e0 N0 O0 K0 hZ hown hS0 hk0 E0 F0_limit F0_whole F0_weight F0_spent E1 F1_limit F1_whole F1_weight F1_spent g0 g1 ne0_1
    rw [f4] at hr
    refine OwnOutW.go (fun t k => XS.aloadN X0.here hx rfl (hb hby d4_0) rfl rfl k) ?_
    show OwnOutW p e s below 2 24 _ (T.setTop (mkF m 1 #[.val (.ref b0), .val (.long x1), .second, .val (.ref x3), .val (.ref b1), .val (.long x5), .second] [(.ref b0)]))
    obtain ⟨T1, X1, e1, st1⟩ := initO X0 hx hZ hown (hw _ (List.mem_of_getElem? (i := 17) rfl)) (hw _ (List.mem_of_getElem? (i := 18) rfl)) (hw _ (List.mem_of_getElem? (i := 19) rfl)) e0 (g := (mkF m 1 #[.val (.ref b0), .val (.long x1), .second, .val (.ref x3), .val (.ref b1), .val (.long x5), .second] [(.ref b0)])) rfl (by rw [hml]; rfl) rfl (hb hby d4_1) (by decide) (W := 0) (by show 2 * 0 + _ ≤ _; exact Nat.le_of_eq rfl) (by decide)
    refine OwnOutW.go (fun t k => st1 _ k) ?_
    show OwnOutW p e s below 2 24 _ (T1.setTop (mkF m 4 #[.val (.ref b0), .val (.long x1), .second, .val (.ref x3), .val (.ref b1), .val (.long x5), .second] []))
    refine OwnOutW.go (fun t k => XS.lload X1.here hx rfl (hb hby d4_4) rfl k) ?_
    show OwnOutW p e s below 2 24 _ (T1.setTop (mkF m 6 #[.val (.ref b0), .val (.long x1), .second, .val (.ref x3), .val (.ref b1), .val (.long x5), .second] [(.long x5)]))
    refine OwnOutW.go (fun t k => XT.lconstV X1.here hx rfl (0 : Int64) (hb hby d4_6) rfl k) ?_
    show OwnOutW p e s below 2 24 _ (T1.setTop (mkF m 7 #[.val (.ref b0), .val (.long x1), .second, .val (.ref x3), .val (.ref b1), .val (.long x5), .second] [(.long (0 : Int64)), (.long x5)]))
    refine OwnOutW.go (fun t k => XS.lcmp X1.here hx rfl (hb hby d4_7) rfl k) ?_
    show OwnOutW p e s below 2 24 _ (T1.setTop (mkF m 8 #[.val (.ref b0), .val (.long x1), .second, .val (.ref x3), .val (.ref b1), .val (.long x5), .second] [(.int (XT.cmpL x5 (0 : Int64)))]))
    by_cases hc8 : x5 < (0 : Int64)
    · rw [if_pos hc8] at hr
      cases hr
    · rw [if_neg hc8] at hr
      refine OwnOutW.go (fun t k => XS.ifYes X1.here hx rfl (pc0 := 8) (pc' := 26) rfl (hb hby d4_8) rfl (XT.ll_ge_t hc8) (by decide) (by decide) k) ?_
      show OwnOutW p e s below 2 24 _ (T1.setTop (mkF m 26 #[.val (.ref b0), .val (.long x1), .second, .val (.ref x3), .val (.ref b1), .val (.long x5), .second] []))
      refine OwnOutW.go (fun t k => XS.aloadN X1.here hx rfl (hb hby d4_26) rfl rfl k) ?_
      show OwnOutW p e s below 2 24 _ (T1.setTop (mkF m 27 #[.val (.ref b0), .val (.long x1), .second, .val (.ref x3), .val (.ref b1), .val (.long x5), .second] [(.ref b0)]))
      refine OwnOutW.go (fun t k => XS.lloadN X1.here hx rfl (hb hby d4_27) rfl k) ?_
      show OwnOutW p e s below 2 24 _ (T1.setTop (mkF m 28 #[.val (.ref b0), .val (.long x1), .second, .val (.ref x3), .val (.ref b1), .val (.long x5), .second] [(.long x1), (.ref b0)]))
      refine OwnOutW.go (fun t k => XS.aloadN X1.here hx rfl (hb hby d4_28) rfl rfl k) ?_
      show OwnOutW p e s below 2 24 _ (T1.setTop (mkF m 29 #[.val (.ref b0), .val (.long x1), .second, .val (.ref x3), .val (.ref b1), .val (.long x5), .second] [(.ref x3), (.long x1), (.ref b0)]))
      obtain ⟨o2, ho2, hr⟩ := Option.bind_eq_some_iff.mp hr
      obtain ⟨r2, T2, L2, X2', hQ2, st2⟩ := callQ (W := 1) (rm := rx3) X1 hx hZ (y := (⟨(site_54.cls), "checked", "(JLjava/lang/String;)J"⟩ : MethodName)) hown (hw _ (List.mem_of_getElem? (i := 20) rfl)) (hw _ (List.mem_of_getElem? (i := 21) rfl)) (hw _ (List.mem_of_getElem? (i := 5) rfl)) (hw _ (List.mem_of_getElem? (i := 22) rfl)) (by decide) (rm3 l Z a0 hw [] x1 x3 hA o2 ho2 ) (by decide) (by decide) (by decide) (by decide) e1 (g := (mkF m 29 #[.val (.ref b0), .val (.long x1), .second, .val (.ref x3), .val (.ref b1), .val (.long x5), .second] [(.ref x3), (.long x1), (.ref b0)])) rfl (by rw [hml]; rfl) (argsL := [(.long x1), (.ref x3)]) (rest := [(.ref b0)]) (lenOf pd3 rfl) rfl (by show 2 * 0 + _ ≤ _; exact Nat.le_of_eq rfl) (hb hby d4_29)
      obtain ⟨rfl, e2, rfl⟩ := hQ2
      rw [List.append_nil] at X2'
      have X2 : Stand p l e rx4 _ m args below meth c T2 _ 0 0 := X2'
      refine OwnOutW.go (fun t k => st2 _ k) ?_
      show OwnOutW p e s below 2 24 _ (T2.setTop (mkF m 32 #[.val (.ref b0), .val (.long x1), .second, .val (.ref x3), .val (.ref b1), .val (.long x5), .second] [(.long o2), (.ref b0)]))
      obtain ⟨T3, h3, X3, e3, W3, st3⟩ := putF X2 hx hZ hown (host := "") (Or.inl (hw _ (List.mem_of_getElem? (i := 23) rfl))) Via.refl e2 F0_limit E0 (Or.inr ⟨(hw _ (List.mem_of_getElem? (i := 24) rfl)), rfl, hnm⟩) (hw _ (List.mem_of_getElem? (i := 4) rfl)) (ty := .long) (by decide) rfl rfl (g := (mkF m 32 #[.val (.ref b0), .val (.long x1), .second, .val (.ref x3), .val (.ref b1), .val (.long x5), .second] [(.long o2), (.ref b0)])) rfl rfl (hb hby d4_32)
      refine OwnOutW.go (fun t k => st3 _ k) ?_
      have E0_3 := E0.wr W3
      have F0_limit_3 := F0_limit.same W3
      have F0_whole_3 := F0_whole.other W3 (Or.inr (slot_ne (Or.inr (hw _ (List.mem_of_getElem? (i := 26) rfl))) (Or.inr (hw _ (List.mem_of_getElem? (i := 24) rfl))) (by decide) (t := (.object (site_54.cls))) (t' := .long) (by decide) (by decide)))
      have F0_weight_3 := F0_weight.other W3 (Or.inr (slot_ne (Or.inr (hw _ (List.mem_of_getElem? (i := 28) rfl))) (Or.inr (hw _ (List.mem_of_getElem? (i := 24) rfl))) (by decide) (t := .long) (t' := .long) (by decide) (by decide)))
      have F0_spent_3 := F0_spent.other W3 (Or.inr (slot_ne (Or.inl (hw _ (List.mem_of_getElem? (i := 45) rfl))) (Or.inr (hw _ (List.mem_of_getElem? (i := 24) rfl))) (by decide) (t := .long) (t' := .long) (by decide) (by decide)))
      have E1_3 := E1.wr W3
      have F1_limit_3 := F1_limit.other W3 (Or.inl (Ne.symm ne0_1))
      have F1_whole_3 := F1_whole.other W3 (Or.inl (Ne.symm ne0_1))
      have F1_weight_3 := F1_weight.other W3 (Or.inl (Ne.symm ne0_1))
      have F1_spent_3 := F1_spent.other W3 (Or.inl (Ne.symm ne0_1))
      have N_3 := Fr.snoc X3 N0 g0
      have O_3 := O0.wr W3 g0
      have K_3 := K0.wr W3 (Or.inl (List.mem_of_getElem? (i := 0) rfl))
      have hk_3 := Nat.le_trans hk0 (Keep.of_wr W3).1
      show OwnOutW p e s below 2 24 _ (T3.setTop (mkF m 35 #[.val (.ref b0), .val (.long x1), .second, .val (.ref x3), .val (.ref b1), .val (.long x5), .second] []))
      refine OwnOutW.go (fun t k => XS.aloadN X3.here hx rfl (hb hby d4_35) rfl rfl k) ?_
      show OwnOutW p e s below 2 24 _ (T3.setTop (mkF m 36 #[.val (.ref b0), .val (.long x1), .second, .val (.ref x3), .val (.ref b1), .val (.long x5), .second] [(.ref b0)]))
      refine OwnOutW.go (fun t k => XS.aload X3.here hx rfl (hb hby d4_36) rfl rfl k) ?_
      show OwnOutW p e s below 2 24 _ (T3.setTop (mkF m 38 #[.val (.ref b0), .val (.long x1), .second, .val (.ref x3), .val (.ref b1), .val (.long x5), .second] [(.ref b1), (.ref b0)]))
      obtain ⟨c4, T4, h4, k4, X4, e4, Ex4, hS4, hk4, hZ, hown, st4⟩ := ldcS X3 hx hZ hown (hw _ (List.mem_of_getElem? (i := 32) rfl)) (own_wS hw) e3 hS0 hk_3 (g := (mkF m 38 #[.val (.ref b0), .val (.long x1), .second, .val (.ref x3), .val (.ref b1), .val (.long x5), .second] [(.ref b1), (.ref b0)])) rfl (hb hby d4_38) (n := 20) (by decide) (by decide) (by decide) (by decide)
      refine OwnOutW.go (fun t k => st4 _ k) ?_
      have E0_4 := E0_3.ext Ex4
      have F0_limit_4 := F0_limit_3.ext Ex4
      have F0_whole_4 := F0_whole_3.ext Ex4
      have F0_weight_4 := F0_weight_3.ext Ex4
      have F0_spent_4 := F0_spent_3.ext Ex4
      have E1_4 := E1_3.ext Ex4
      have F1_limit_4 := F1_limit_3.ext Ex4
      have F1_whole_4 := F1_whole_3.ext Ex4
      have F1_weight_4 := F1_weight_3.ext Ex4
      have F1_spent_4 := F1_spent_3.ext Ex4
      have O_4 := O_3.ext Ex4
      have K_4 := K_3.ext Ex4
      have hk_4 := Nat.le_trans hk_3 Ex4.1
      show OwnOutW p e s below 2 24 _ (T4.setTop (mkF m 40 #[.val (.ref b0), .val (.long x1), .second, .val (.ref x3), .val (.ref b1), .val (.long x5), .second] [(.ref c4), (.ref b1), (.ref b0)]))
      obtain ⟨o5, ho5, hr⟩ := Option.bind_eq_some_iff.mp hr
      obtain ⟨r5, T5, L5, X5', hQ5, st5⟩ := callQ (W := 1) (rm := rx5) X4 hx hZ (y := (⟨"java/util/Objects", "requireNonNull", "(Ljava/lang/Object;Ljava/lang/String;)Ljava/lang/Object;"⟩ : MethodName)) hown (hw _ (List.mem_of_getElem? (i := 33) rfl)) (hw _ (List.mem_of_getElem? (i := 34) rfl)) (hw _ (List.mem_of_getElem? (i := 35) rfl)) (hw _ (List.mem_of_getElem? (i := 36) rfl)) (by decide) (rm5 l Z a0 hw [] c4 b1 u1_limit u1_weight u1_spent h4 o5 ho5 E1_4 F1_limit_4 F1_whole_4 F1_weight_4 F1_spent_4) (by decide) (by decide) (by decide) (by decide) e4 (g := (mkF m 40 #[.val (.ref b0), .val (.long x1), .second, .val (.ref x3), .val (.ref b1), .val (.long x5), .second] [(.ref c4), (.ref b1), (.ref b0)])) rfl (by rw [hml]; rfl) (argsL := [(.ref b1), (.ref c4)]) (rest := [(.ref b0)]) (lenOf pd5 rfl) rfl (by show 2 * 0 + _ ≤ _; exact Nat.le_of_eq rfl) (hb hby d4_40)
      obtain ⟨rfl, e5, rfl⟩ := hQ5
      rw [List.append_nil] at X5'
      have X5 : Stand p l e rx4 _ m args below meth c T5 _ 2 24 := X5'
      refine OwnOutW.go (fun t k => st5 _ k) ?_
      show OwnOutW p e s below 2 24 _ (T5.setTop (mkF m 43 #[.val (.ref b0), .val (.long x1), .second, .val (.ref x3), .val (.ref b1), .val (.long x5), .second] [(.ref b1), (.ref b0)]))
      obtain ⟨T6, X6, e6, st6⟩ := castY X5 hx hZ hown (hw _ (List.mem_of_getElem? (i := 37) rfl)) e5 (Ins.self E1_4) (g := (mkF m 43 #[.val (.ref b0), .val (.long x1), .second, .val (.ref x3), .val (.ref b1), .val (.long x5), .second] [(.ref b1), (.ref b0)])) rfl rfl (hb hby d4_43)
      refine OwnOutW.go (fun t k => st6 _ k) ?_
      show OwnOutW p e s below 2 24 _ (T6.setTop (mkF m 46 #[.val (.ref b0), .val (.long x1), .second, .val (.ref x3), .val (.ref b1), .val (.long x5), .second] [(.ref b1), (.ref b0)]))
      obtain ⟨T7, h7, X7, e7, W7, st7⟩ := putF X6 hx hZ hown (host := "") (Or.inl (hw _ (List.mem_of_getElem? (i := 25) rfl))) Via.refl e6 F0_whole_4 E0_4 (Or.inr ⟨(hw _ (List.mem_of_getElem? (i := 26) rfl)), rfl, hnm⟩) (hw _ (List.mem_of_getElem? (i := 4) rfl)) (ty := (.object (site_54.cls))) (by decide) rfl rfl (g := (mkF m 46 #[.val (.ref b0), .val (.long x1), .second, .val (.ref x3), .val (.ref b1), .val (.long x5), .second] [(.ref b1), (.ref b0)])) rfl rfl (hb hby d4_46)
      refine OwnOutW.go (fun t k => st7 _ k) ?_
      have E0_7 := E0_4.wr W7
      have F0_limit_7 := F0_limit_4.other W7 (Or.inr (slot_ne (Or.inr (hw _ (List.mem_of_getElem? (i := 24) rfl))) (Or.inr (hw _ (List.mem_of_getElem? (i := 26) rfl))) (by decide) (t := .long) (t' := (.object (site_54.cls))) (by decide) (by decide)))
      have F0_whole_7 := F0_whole_4.same W7
      have F0_weight_7 := F0_weight_4.other W7 (Or.inr (slot_ne (Or.inr (hw _ (List.mem_of_getElem? (i := 28) rfl))) (Or.inr (hw _ (List.mem_of_getElem? (i := 26) rfl))) (by decide) (t := .long) (t' := (.object (site_54.cls))) (by decide) (by decide)))
      have F0_spent_7 := F0_spent_4.other W7 (Or.inr (slot_ne (Or.inl (hw _ (List.mem_of_getElem? (i := 45) rfl))) (Or.inr (hw _ (List.mem_of_getElem? (i := 26) rfl))) (by decide) (t := .long) (t' := (.object (site_54.cls))) (by decide) (by decide)))
      have E1_7 := E1_4.wr W7
      have F1_limit_7 := F1_limit_4.other W7 (Or.inl (Ne.symm ne0_1))
      have F1_whole_7 := F1_whole_4.other W7 (Or.inl (Ne.symm ne0_1))
      have F1_weight_7 := F1_weight_4.other W7 (Or.inl (Ne.symm ne0_1))
      have F1_spent_7 := F1_spent_4.other W7 (Or.inl (Ne.symm ne0_1))
      have N_7 := Fr.snoc X7 N_3 g0
      have O_7 := O_4.wr W7 g0
      have K_7 := K_4.wr W7 (Or.inl (List.mem_of_getElem? (i := 0) rfl))
      have hk_7 := Nat.le_trans hk4 (Keep.of_wr W7).1
      show OwnOutW p e s below 2 24 _ (T7.setTop (mkF m 49 #[.val (.ref b0), .val (.long x1), .second, .val (.ref x3), .val (.ref b1), .val (.long x5), .second] []))
      refine OwnOutW.go (fun t k => XS.aloadN X7.here hx rfl (hb hby d4_49) rfl rfl k) ?_
      show OwnOutW p e s below 2 24 _ (T7.setTop (mkF m 50 #[.val (.ref b0), .val (.long x1), .second, .val (.ref x3), .val (.ref b1), .val (.long x5), .second] [(.ref b0)]))
      refine OwnOutW.go (fun t k => XS.lload X7.here hx rfl (hb hby d4_50) rfl k) ?_
      show OwnOutW p e s below 2 24 _ (T7.setTop (mkF m 52 #[.val (.ref b0), .val (.long x1), .second, .val (.ref x3), .val (.ref b1), .val (.long x5), .second] [(.long x5), (.ref b0)]))
      obtain ⟨T8, h8, X8, e8, W8, st8⟩ := putF X7 hx hZ hown (host := "") (Or.inl (hw _ (List.mem_of_getElem? (i := 27) rfl))) Via.refl e7 F0_weight_7 E0_7 (Or.inr ⟨(hw _ (List.mem_of_getElem? (i := 28) rfl)), rfl, hnm⟩) (hw _ (List.mem_of_getElem? (i := 4) rfl)) (ty := .long) (by decide) rfl rfl (g := (mkF m 52 #[.val (.ref b0), .val (.long x1), .second, .val (.ref x3), .val (.ref b1), .val (.long x5), .second] [(.long x5), (.ref b0)])) rfl rfl (hb hby d4_52)
      refine OwnOutW.go (fun t k => st8 _ k) ?_
      have E0_8 := E0_7.wr W8
      have F0_limit_8 := F0_limit_7.other W8 (Or.inr (slot_ne (Or.inr (hw _ (List.mem_of_getElem? (i := 24) rfl))) (Or.inr (hw _ (List.mem_of_getElem? (i := 28) rfl))) (by decide) (t := .long) (t' := .long) (by decide) (by decide)))
      have F0_whole_8 := F0_whole_7.other W8 (Or.inr (slot_ne (Or.inr (hw _ (List.mem_of_getElem? (i := 26) rfl))) (Or.inr (hw _ (List.mem_of_getElem? (i := 28) rfl))) (by decide) (t := (.object (site_54.cls))) (t' := .long) (by decide) (by decide)))
      have F0_weight_8 := F0_weight_7.same W8
      have F0_spent_8 := F0_spent_7.other W8 (Or.inr (slot_ne (Or.inl (hw _ (List.mem_of_getElem? (i := 45) rfl))) (Or.inr (hw _ (List.mem_of_getElem? (i := 28) rfl))) (by decide) (t := .long) (t' := .long) (by decide) (by decide)))
      have E1_8 := E1_7.wr W8
      have F1_limit_8 := F1_limit_7.other W8 (Or.inl (Ne.symm ne0_1))
      have F1_whole_8 := F1_whole_7.other W8 (Or.inl (Ne.symm ne0_1))
      have F1_weight_8 := F1_weight_7.other W8 (Or.inl (Ne.symm ne0_1))
      have F1_spent_8 := F1_spent_7.other W8 (Or.inl (Ne.symm ne0_1))
      have N_8 := Fr.snoc X8 N_7 g0
      have O_8 := O_7.wr W8 g0
      have K_8 := K_7.wr W8 (Or.inl (List.mem_of_getElem? (i := 0) rfl))
      have hk_8 := Nat.le_trans hk_7 (Keep.of_wr W8).1
      show OwnOutW p e s below 2 24 _ (T8.setTop (mkF m 55 #[.val (.ref b0), .val (.long x1), .second, .val (.ref x3), .val (.ref b1), .val (.long x5), .second] []))
      cases hr
      exact outVW X8 hS4 (by rw [e8]; exact hk_8) hx hret (hb hby d4_55) hlk (by decide) (by decide) (by rw [e8]; exact ⟨rfl, N_8, K_8, F0_limit_8, F0_whole_8, F0_weight_8, F0_spent_8⟩)
set_option maxRecDepth 65536 in
set_option maxHeartbeats 40000000 in
theorem rm4 (l : Launch) (Z : State) (a0 : Array Value) (hw : ∀ d ∈ tables_1, d.before a0 Z = true) (ws : List Jvm.Cond) (x1 : Int64) (x3 : Addr) (x5 : Int64) (b0 : Addr) (u0_limit : Int64) (u0_weight : Int64) (u0_spent : Int64) (b1 : Addr) (u1_limit : Int64) (u1_weight : Int64) (u1_spent : Int64) (h0 : Heap) (n0 : Nat) (o : Int64 × Int64) (hr : f4 x1 x5 u0_limit u0_weight u0_spent u1_limit u1_weight u1_spent = some o) (O0 : Old Z n0 h0) (E0 : Exa Z h0 b0 (site_54.cls)) (F0_limit : Fld Z h0 b0 (site_54.cls) "limit" "J" (.long u0_limit)) (F0_whole : Fld Z h0 b0 (site_54.cls) "whole" (own_wD) .null) (F0_weight : Fld Z h0 b0 (site_54.cls) "weight" "J" (.long u0_weight)) (F0_spent : Fld Z h0 b0 (site_54.cls) "spent" "J" (.long u0_spent)) (E1 : Exa Z h0 b1 (site_54.cls)) (F1_limit : Fld Z h0 b1 (site_54.cls) "limit" "J" (.long u1_limit)) (F1_whole : Fld Z h0 b1 (site_54.cls) "whole" (own_wD) .null) (F1_weight : Fld Z h0 b1 (site_54.cls) "weight" "J" (.long u1_weight)) (F1_spent : Fld Z h0 b1 (site_54.cls) "spent" "J" (.long u1_spent)) (g0 : n0 ≤ b0) (g1 : n0 ≤ b1) (ne0_1 : b0 ≠ b1) :
    MetFree l (⟨(site_54.cls), "<init>", (site_71.desc)⟩ : MethodName) (head1 (Jvm.Cond.code (⟨(site_54.cls), "<init>", (site_71.desc)⟩ : MethodName) prog_1_method_2_code 7 none :: ws) rx4) (fun a U => a = #[(.ref b0), (.long x1), (.ref x3), (.ref b1), (.long x5)] ∧ Z.Warmed39 U.vm ∧ U.heap = h0) (fun _ _ _ _ _ => True) (fun _ U o' U' => ∃ v L, o' = .returned v ∧ Q4 Z x1 x3 x5 b0 u0_limit u0_weight u0_spent b1 u1_limit u1_weight u1_spent h0 n0 o v U'.heap L ∧ ReturnedEndW U o' U' L rx4.cells rx4.slots) := by
  refine MetFree.of_bodySF (plainFor_of_name pn4) hisR ?_
  intro p e s m args below meth c s₁ Bd hml0 hP hK
  obtain ⟨rfl, hZ, hh⟩ := hP
  have X0 : Stand p l e rx4 s m #[(.ref b0), (.long x1), (.ref x3), (.ref b1), (.long x5)] below meth c s₁ [] 0 0 := Stand.of_body Bd
  have e0 : s₁.heap = h0 := by rw [← hh, Bd.state]; rfl
  have hfc := findClass_of_methodNamed Bd.named
  exact OwnOutW.at (ef4 m b0 x1 x3 b1 x5) (w4_0 ⟨Bd.exec, hw, Bd.bytes, hml0, Bd.returns, Bd.notSynchronized, (name_of_methodNamed Bd.named Bd.method).1⟩ _ _ _ _ _ x1 x3 x5 b0 u0_limit u0_weight u0_spent b1 u1_limit u1_weight u1_spent o hr X0 e0 (Fr.nil n0) O0 (Keep.refl _ _) hZ hfc ((State.WarmedH.refl s).since 0) (Nat.zero_le _) E0 F0_limit F0_whole F0_weight F0_spent E1 F1_limit F1_whole F1_weight F1_spent g0 g1 ne0_1)
theorem d6_0 : decode prog_1_method_6_code 0 = .ok (.aload_n 0, 1) := by decide +kernel
theorem d6_1 : decode prog_1_method_6_code 1 = .ok (.dup, 1) := by decide +kernel
theorem d6_2 : decode prog_1_method_6_code 2 = .ok (.getfield 43, 3) := by decide +kernel
theorem d6_5 : decode prog_1_method_6_code 5 = .ok (.lload_n 1, 1) := by decide +kernel
theorem d6_6 : decode prog_1_method_6_code 6 = .ok (.ladd, 1) := by decide +kernel
theorem d6_7 : decode prog_1_method_6_code 7 = .ok (.putfield 43, 3) := by decide +kernel
theorem d6_10 : decode prog_1_method_6_code 10 = .ok (.aload_n 0, 1) := by decide +kernel
theorem d6_11 : decode prog_1_method_6_code 11 = .ok (.getfield 43, 3) := by decide +kernel
theorem d6_14 : decode prog_1_method_6_code 14 = .ok (.aload_n 0, 1) := by decide +kernel
theorem d6_15 : decode prog_1_method_6_code 15 = .ok (.getfield 13, 3) := by decide +kernel
theorem d6_18 : decode prog_1_method_6_code 18 = .ok (.lcmp, 1) := by decide +kernel
theorem d6_19 : decode prog_1_method_6_code 19 = .ok (.ifCond .gt 7, 3) := by decide +kernel
theorem d6_22 : decode prog_1_method_6_code 22 = .ok (.iconst 1, 1) := by decide +kernel
theorem d6_23 : decode prog_1_method_6_code 23 = .ok (.goto 4, 3) := by decide +kernel
theorem d6_26 : decode prog_1_method_6_code 26 = .ok (.iconst 0, 1) := by decide +kernel
theorem d6_27 : decode prog_1_method_6_code 27 = .ok (.istore_n 3, 1) := by decide +kernel
theorem d6_28 : decode prog_1_method_6_code 28 = .ok (.aload_n 0, 1) := by decide +kernel
theorem d6_29 : decode prog_1_method_6_code 29 = .ok (.getfield 17, 3) := by decide +kernel
theorem d6_32 : decode prog_1_method_6_code 32 = .ok (.ifnull 21, 3) := by decide +kernel
theorem d6_35 : decode prog_1_method_6_code 35 = .ok (.aload_n 0, 1) := by decide +kernel
theorem d6_36 : decode prog_1_method_6_code 36 = .ok (.getfield 17, 3) := by decide +kernel
theorem d6_39 : decode prog_1_method_6_code 39 = .ok (.lload_n 1, 1) := by decide +kernel
theorem d6_40 : decode prog_1_method_6_code 40 = .ok (.aload_n 0, 1) := by decide +kernel
theorem d6_41 : decode prog_1_method_6_code 41 = .ok (.getfield 21, 3) := by decide +kernel
theorem d6_44 : decode prog_1_method_6_code 44 = .ok (.lmul, 1) := by decide +kernel
theorem d6_45 : decode prog_1_method_6_code 45 = .ok (.invokevirtual 46, 3) := by decide +kernel
theorem d6_48 : decode prog_1_method_6_code 48 = .ok (.ifCond .ne 5, 3) := by decide +kernel
theorem d6_51 : decode prog_1_method_6_code 51 = .ok (.iconst 0, 1) := by decide +kernel
theorem d6_52 : decode prog_1_method_6_code 52 = .ok (.istore_n 3, 1) := by decide +kernel
theorem d6_53 : decode prog_1_method_6_code 53 = .ok (.iload_n 3, 1) := by decide +kernel
theorem d6_54 : decode prog_1_method_6_code 54 = .ok (.ireturn, 1) := by decide +kernel
theorem pn6b : plainName (site_54.cls) = true := by first | (simp [plainName, overriddenIn]; done) | decide +kernel
theorem pd6b : parseMethodDescriptor "(J)Z" = some ⟨[.long], some .boolean⟩ := by decide +kernel
theorem ef6b (m : MethodId) (b0 : Addr) (x1 : Int64) : entryFrame m #[(.ref b0), (.long x1)] 4 = mkF m 0 #[.val (.ref b0), .val (.long x1), .second, .unset] [] := by first | (simp [entryFrame, mkF, argsToLocals, Value.category]; done) | rfl
abbrev rx6b : Room := { frames := 0, cells := 0, slots := 0, locals := 0 }
abbrev Cx6b (Z : State) (a0 : Array Value) (p : Program) (s : State) (m : MethodId) (meth : Method) (c : Code) : Prop := p.tables.exec = Jvm.exec ∧ Z.Warmed39 s.vm ∧ (∀ d ∈ tables_1, d.before a0 Z = true) ∧ c.code = prog_1_method_6_code ∧ c.maxLocals = 4 ∧ s.vm.findClass (site_54.cls) = some m.cls ∧ meth.sig.returnType = (some .boolean) ∧ meth.locks = false ∧ meth.name = "take"
def Q6b (Z : State) (x1 : Int64) (b0 : Addr) (u0_limit : Int64) (u0_weight : Int64) (u0_spent : Int64) (h0 : Heap) (n0 : Nat) (o : Int32 × Int64) (v : Option Value) (h : Heap) (L : List Loc) : Prop := v = some (.int o.1) ∧ Fr n0 L ∧ Keep h0 h [b0] ∧ Fld Z h b0 (site_54.cls) "limit" "J" (.long u0_limit) ∧ Fld Z h b0 (site_54.cls) "whole" (own_wD) .null ∧ Fld Z h b0 (site_54.cls) "weight" "J" (.long u0_weight) ∧ Fld Z h b0 (site_54.cls) "spent" "J" (.long o.2)
def f6b_27 (x1 : Int64) (y0 : Int32) (u0_limit : Int64) (u0_weight : Int64) (u0_spent : Int64) : Option (Int32 × Int64) := some ((y0 &&& 1), u0_spent)
set_option maxRecDepth 65536 in
set_option maxHeartbeats 40000000 in
theorem w6b_27 {p : Program} {l : Launch} {e : Env} {s : State} {m : MethodId} {args : Array Value} {below : List Frame} {meth : Method} {c : Code} {Z : State} {a0 : Array Value} {h0 : Heap} {n0 : Nat} (C : Cx6b Z a0 p s m meth c) :
    ∀ (T : State) (locs : List Loc) (hA : Heap) (x1 : Int64) (y0 : Int32) (b0 : Addr) (u0_limit : Int64) (u0_weight : Int64) (u0_spent : Int64) (o : Int32 × Int64), f6b_27 x1 y0 u0_limit u0_weight u0_spent = some o → Stand p l e rx6b s m args below meth c T locs 0 0 → T.heap = hA → Fr n0 locs → Old Z n0 hA → Keep h0 hA [b0] → (Exa Z hA b0 (site_54.cls)) → (Fld Z hA b0 (site_54.cls) "limit" "J" (.long u0_limit)) → (Fld Z hA b0 (site_54.cls) "whole" (own_wD) .null) → (Fld Z hA b0 (site_54.cls) "weight" "J" (.long u0_weight)) → (Fld Z hA b0 (site_54.cls) "spent" "J" (.long u0_spent)) → (n0 ≤ b0) →  OwnOut p e s below 0 0 (Q6b Z default b0 u0_limit u0_weight default h0 n0 o) (T.setTop (mkF m 27 #[.val (.ref b0), .val (.long x1), .second, .unset] [(.int y0)])) := by
    obtain ⟨hx, hZ, hw, hby, hml, hown, hret, hlk, hnm⟩ := C
    intro T locs hA x1 y0 b0 u0_limit u0_weight u0_spent o hr X0 e0 N0 O0 K0 E0 F0_limit F0_whole F0_weight F0_spent g0
    rw [f6b_27] at hr
    refine OwnOut.go (fun t k => XS.istoreN X0.here hx rfl (hb hby d6_27) rfl (l' := #[.val (.ref b0), .val (.long x1), .second, .val (.int y0)]) rfl k) ?_
    show OwnOut p e s below 0 0 _ (T.setTop (mkF m 28 #[.val (.ref b0), .val (.long x1), .second, .val (.int y0)] []))
    refine OwnOut.go (fun t k => XS.aloadN X0.here hx rfl (hb hby d6_28) rfl rfl k) ?_
    show OwnOut p e s below 0 0 _ (T.setTop (mkF m 29 #[.val (.ref b0), .val (.long x1), .second, .val (.int y0)] [(.ref b0)]))
    obtain ⟨T5, X5, e5, st5⟩ := getF X0 hx hZ hown (host := "") (Or.inl (hw _ (List.mem_of_getElem? (i := 25) rfl))) Via.refl e0 F0_whole (g := (mkF m 29 #[.val (.ref b0), .val (.long x1), .second, .val (.int y0)] [(.ref b0)])) rfl rfl (hb hby d6_29)
    refine OwnOut.go (fun t k => st5 _ k) ?_
    show OwnOut p e s below 0 0 _ (T5.setTop (mkF m 32 #[.val (.ref b0), .val (.long x1), .second, .val (.int y0)] [.null]))
    refine OwnOut.go (fun t k => XS.ifnullYes X5.here hx rfl (pc0 := 32) (pc' := 53) rfl (hb hby d6_32) rfl (by decide) (by decide) k) ?_
    show OwnOut p e s below 0 0 _ (T5.setTop (mkF m 53 #[.val (.ref b0), .val (.long x1), .second, .val (.int y0)] []))
    refine OwnOut.go (fun t k => XS.iloadN X5.here hx rfl (hb hby d6_53) rfl k) ?_
    show OwnOut p e s below 0 0 _ (T5.setTop (mkF m 54 #[.val (.ref b0), .val (.long x1), .second, .val (.int y0)] [(.int y0)]))
    cases hr
    exact outZ X5 hx hret (hb hby d6_54) hlk (by decide) (by decide) (by rw [e5]; exact ⟨rfl, N0, K0, F0_limit, F0_whole, F0_weight, F0_spent⟩)
def f6b (x1 : Int64) (u0_limit : Int64) (u0_weight : Int64) (u0_spent : Int64) : Option (Int32 × Int64) := (if u0_limit < (u0_spent + x1) then (f6b_27 x1 (0 : Int32) u0_limit u0_weight (u0_spent + x1)) else (f6b_27 x1 (1 : Int32) u0_limit u0_weight (u0_spent + x1)))
set_option maxRecDepth 65536 in
set_option maxHeartbeats 40000000 in
theorem w6b_0 {p : Program} {l : Launch} {e : Env} {s : State} {m : MethodId} {args : Array Value} {below : List Frame} {meth : Method} {c : Code} {Z : State} {a0 : Array Value} {h0 : Heap} {n0 : Nat} (C : Cx6b Z a0 p s m meth c) :
    ∀ (T : State) (locs : List Loc) (hA : Heap) (x1 : Int64) (b0 : Addr) (u0_limit : Int64) (u0_weight : Int64) (u0_spent : Int64) (o : Int32 × Int64), f6b x1 u0_limit u0_weight u0_spent = some o → Stand p l e rx6b s m args below meth c T locs 0 0 → T.heap = hA → Fr n0 locs → Old Z n0 hA → Keep h0 hA [b0] → (Exa Z hA b0 (site_54.cls)) → (Fld Z hA b0 (site_54.cls) "limit" "J" (.long u0_limit)) → (Fld Z hA b0 (site_54.cls) "whole" (own_wD) .null) → (Fld Z hA b0 (site_54.cls) "weight" "J" (.long u0_weight)) → (Fld Z hA b0 (site_54.cls) "spent" "J" (.long u0_spent)) → (n0 ≤ b0) →  OwnOut p e s below 0 0 (Q6b Z default b0 u0_limit u0_weight default h0 n0 o) (T.setTop (mkF m 0 #[.val (.ref b0), .val (.long x1), .second, .unset] [])) := by
    obtain ⟨hx, hZ, hw, hby, hml, hown, hret, hlk, hnm⟩ := C
    intro T locs hA x1 b0 u0_limit u0_weight u0_spent o hr X0 e0 N0 O0 K0 E0 F0_limit F0_whole F0_weight F0_spent g0
    rw [f6b] at hr
    refine OwnOut.go (fun t k => XS.aloadN X0.here hx rfl (hb hby d6_0) rfl rfl k) ?_
    show OwnOut p e s below 0 0 _ (T.setTop (mkF m 1 #[.val (.ref b0), .val (.long x1), .second, .unset] [(.ref b0)]))
    refine OwnOut.go (fun t k => XS.dup X0.here hx rfl (hb hby d6_1) rfl rfl k) ?_
    show OwnOut p e s below 0 0 _ (T.setTop (mkF m 2 #[.val (.ref b0), .val (.long x1), .second, .unset] [(.ref b0), (.ref b0)]))
    obtain ⟨T1, X1, e1, st1⟩ := getF X0 hx hZ hown (host := "") (Or.inl (hw _ (List.mem_of_getElem? (i := 44) rfl))) Via.refl e0 F0_spent (g := (mkF m 2 #[.val (.ref b0), .val (.long x1), .second, .unset] [(.ref b0), (.ref b0)])) rfl rfl (hb hby d6_2)
    refine OwnOut.go (fun t k => st1 _ k) ?_
    show OwnOut p e s below 0 0 _ (T1.setTop (mkF m 5 #[.val (.ref b0), .val (.long x1), .second, .unset] [(.long u0_spent), (.ref b0)]))
    refine OwnOut.go (fun t k => XS.lloadN X1.here hx rfl (hb hby d6_5) rfl k) ?_
    show OwnOut p e s below 0 0 _ (T1.setTop (mkF m 6 #[.val (.ref b0), .val (.long x1), .second, .unset] [(.long x1), (.long u0_spent), (.ref b0)]))
    refine OwnOut.go (fun t k => XS.ladd X1.here hx rfl (hb hby d6_6) rfl k) ?_
    show OwnOut p e s below 0 0 _ (T1.setTop (mkF m 7 #[.val (.ref b0), .val (.long x1), .second, .unset] [(.long (u0_spent + x1)), (.ref b0)]))
    obtain ⟨T2, h2, X2, e2, W2, st2⟩ := putF X1 hx hZ hown (host := "") (Or.inl (hw _ (List.mem_of_getElem? (i := 44) rfl))) Via.refl e1 F0_spent E0 (Or.inl (hw _ (List.mem_of_getElem? (i := 45) rfl))) (hw _ (List.mem_of_getElem? (i := 4) rfl)) (ty := .long) (by decide) rfl rfl (g := (mkF m 7 #[.val (.ref b0), .val (.long x1), .second, .unset] [(.long (u0_spent + x1)), (.ref b0)])) rfl rfl (hb hby d6_7)
    refine OwnOut.go (fun t k => st2 _ k) ?_
    have E0_2 := E0.wr W2
    have F0_limit_2 := F0_limit.other W2 (Or.inr (slot_ne (Or.inr (hw _ (List.mem_of_getElem? (i := 24) rfl))) (Or.inl (hw _ (List.mem_of_getElem? (i := 45) rfl))) (by decide) (t := .long) (t' := .long) (by decide) (by decide)))
    have F0_whole_2 := F0_whole.other W2 (Or.inr (slot_ne (Or.inr (hw _ (List.mem_of_getElem? (i := 26) rfl))) (Or.inl (hw _ (List.mem_of_getElem? (i := 45) rfl))) (by decide) (t := (.object (site_54.cls))) (t' := .long) (by decide) (by decide)))
    have F0_weight_2 := F0_weight.other W2 (Or.inr (slot_ne (Or.inr (hw _ (List.mem_of_getElem? (i := 28) rfl))) (Or.inl (hw _ (List.mem_of_getElem? (i := 45) rfl))) (by decide) (t := .long) (t' := .long) (by decide) (by decide)))
    have F0_spent_2 := F0_spent.same W2
    have N_2 := Fr.snoc X2 N0 g0
    have O_2 := O0.wr W2 g0
    have K_2 := K0.wr W2 (Or.inl (List.mem_of_getElem? (i := 0) rfl))
    show OwnOut p e s below 0 0 _ (T2.setTop (mkF m 10 #[.val (.ref b0), .val (.long x1), .second, .unset] []))
    refine OwnOut.go (fun t k => XS.aloadN X2.here hx rfl (hb hby d6_10) rfl rfl k) ?_
    show OwnOut p e s below 0 0 _ (T2.setTop (mkF m 11 #[.val (.ref b0), .val (.long x1), .second, .unset] [(.ref b0)]))
    obtain ⟨T3, X3, e3, st3⟩ := getF X2 hx hZ hown (host := "") (Or.inl (hw _ (List.mem_of_getElem? (i := 44) rfl))) Via.refl e2 F0_spent_2 (g := (mkF m 11 #[.val (.ref b0), .val (.long x1), .second, .unset] [(.ref b0)])) rfl rfl (hb hby d6_11)
    refine OwnOut.go (fun t k => st3 _ k) ?_
    show OwnOut p e s below 0 0 _ (T3.setTop (mkF m 14 #[.val (.ref b0), .val (.long x1), .second, .unset] [(.long (u0_spent + x1))]))
    refine OwnOut.go (fun t k => XS.aloadN X3.here hx rfl (hb hby d6_14) rfl rfl k) ?_
    show OwnOut p e s below 0 0 _ (T3.setTop (mkF m 15 #[.val (.ref b0), .val (.long x1), .second, .unset] [(.ref b0), (.long (u0_spent + x1))]))
    obtain ⟨T4, X4, e4, st4⟩ := getF X3 hx hZ hown (host := "") (Or.inl (hw _ (List.mem_of_getElem? (i := 23) rfl))) Via.refl e3 F0_limit_2 (g := (mkF m 15 #[.val (.ref b0), .val (.long x1), .second, .unset] [(.ref b0), (.long (u0_spent + x1))])) rfl rfl (hb hby d6_15)
    refine OwnOut.go (fun t k => st4 _ k) ?_
    show OwnOut p e s below 0 0 _ (T4.setTop (mkF m 18 #[.val (.ref b0), .val (.long x1), .second, .unset] [(.long u0_limit), (.long (u0_spent + x1))]))
    refine OwnOut.go (fun t k => XS.lcmp X4.here hx rfl (hb hby d6_18) rfl k) ?_
    show OwnOut p e s below 0 0 _ (T4.setTop (mkF m 19 #[.val (.ref b0), .val (.long x1), .second, .unset] [(.int (XT.cmpL (u0_spent + x1) u0_limit))]))
    by_cases hc19 : u0_limit < (u0_spent + x1)
    · rw [if_pos hc19] at hr
      refine OwnOut.go (fun t k => XS.ifYes X4.here hx rfl (pc0 := 19) (pc' := 26) rfl (hb hby d6_19) rfl (XT.ll_gt_t hc19) (by decide) (by decide) k) ?_
      show OwnOut p e s below 0 0 _ (T4.setTop (mkF m 26 #[.val (.ref b0), .val (.long x1), .second, .unset] []))
      refine OwnOut.go (fun t k => XT.iconstV X4.here hx rfl (0 : Int32) (hb hby d6_26) rfl k) ?_
      show OwnOut p e s below 0 0 _ (T4.setTop (mkF m 27 #[.val (.ref b0), .val (.long x1), .second, .unset] [(.int (0 : Int32))]))
      exact w6b_27 ⟨hx, hZ, hw, hby, hml, hown, hret, hlk, hnm⟩  _ _ _ x1 (0 : Int32) b0 u0_limit u0_weight (u0_spent + x1) _ hr X4 e4 N_2 O_2 K_2 E0_2 F0_limit_2 F0_whole_2 F0_weight_2 F0_spent_2 g0
    · rw [if_neg hc19] at hr
      refine OwnOut.go (fun t k => XS.ifNo X4.here hx rfl (hb hby d6_19) rfl (XT.ll_gt_f hc19) k) ?_
      show OwnOut p e s below 0 0 _ (T4.setTop (mkF m 22 #[.val (.ref b0), .val (.long x1), .second, .unset] []))
      refine OwnOut.go (fun t k => XT.iconstV X4.here hx rfl (1 : Int32) (hb hby d6_22) rfl k) ?_
      show OwnOut p e s below 0 0 _ (T4.setTop (mkF m 23 #[.val (.ref b0), .val (.long x1), .second, .unset] [(.int (1 : Int32))]))
      refine OwnOut.go (fun t k => XS.goto X4.here hx rfl (pc0 := 23) (pc' := 27) rfl (hb hby d6_23) (by decide) (by decide) k) ?_
      show OwnOut p e s below 0 0 _ (T4.setTop (mkF m 27 #[.val (.ref b0), .val (.long x1), .second, .unset] [(.int (1 : Int32))]))
      exact w6b_27 ⟨hx, hZ, hw, hby, hml, hown, hret, hlk, hnm⟩  _ _ _ x1 (1 : Int32) b0 u0_limit u0_weight (u0_spent + x1) _ hr X4 e4 N_2 O_2 K_2 E0_2 F0_limit_2 F0_whole_2 F0_weight_2 F0_spent_2 g0
set_option maxRecDepth 65536 in
set_option maxHeartbeats 40000000 in
theorem rm6b (l : Launch) (Z : State) (a0 : Array Value) (hw : ∀ d ∈ tables_1, d.before a0 Z = true) (ws : List Jvm.Cond) (x1 : Int64) (b0 : Addr) (u0_limit : Int64) (u0_weight : Int64) (u0_spent : Int64) (h0 : Heap) (n0 : Nat) (o : Int32 × Int64) (hr : f6b x1 u0_limit u0_weight u0_spent = some o) (O0 : Old Z n0 h0) (E0 : Exa Z h0 b0 (site_54.cls)) (F0_limit : Fld Z h0 b0 (site_54.cls) "limit" "J" (.long u0_limit)) (F0_whole : Fld Z h0 b0 (site_54.cls) "whole" (own_wD) .null) (F0_weight : Fld Z h0 b0 (site_54.cls) "weight" "J" (.long u0_weight)) (F0_spent : Fld Z h0 b0 (site_54.cls) "spent" "J" (.long u0_spent)) (g0 : n0 ≤ b0) :
    MetFree l (⟨(site_54.cls), "take", "(J)Z"⟩ : MethodName) (head1 (Jvm.Cond.code (⟨(site_54.cls), "take", "(J)Z"⟩ : MethodName) prog_1_method_6_code 4 (some .boolean) :: ws) rx6b) (fun a U => a = #[(.ref b0), (.long x1)] ∧ Z.Warmed39 U.vm ∧ U.heap = h0) (fun _ _ _ _ _ => True) (fun _ U o' U' => ∃ v L, o' = .returned v ∧ Q6b Z x1 b0 u0_limit u0_weight u0_spent h0 n0 o v U'.heap L ∧ FrameEnd U o' U' L rx6b.cells rx6b.slots) := by
  refine MetFree.of_bodySF (plainFor_of_name pn6b) hisR ?_
  intro p e s m args below meth c s₁ Bd hml0 hP hK
  obtain ⟨rfl, hZ, hh⟩ := hP
  have X0 : Stand p l e rx6b s m #[(.ref b0), (.long x1)] below meth c s₁ [] 0 0 := Stand.of_body Bd
  have e0 : s₁.heap = h0 := by rw [← hh, Bd.state]; rfl
  have hfc := findClass_of_methodNamed Bd.named
  exact OwnOut.at (ef6b m b0 x1) (w6b_0 ⟨Bd.exec, hZ, hw, Bd.bytes, hml0, hfc, Bd.returns, Bd.notSynchronized, (name_of_methodNamed Bd.named Bd.method).1⟩ _ _ _ x1 b0 u0_limit u0_weight u0_spent o hr X0 e0 (Fr.nil n0) O0 (Keep.refl _ _) E0 F0_limit F0_whole F0_weight F0_spent g0)
theorem pn6 : plainName (site_54.cls) = true := by first | (simp [plainName, overriddenIn]; done) | decide +kernel
theorem pd6 : parseMethodDescriptor "(J)Z" = some ⟨[.long], some .boolean⟩ := by decide +kernel
theorem ef6 (m : MethodId) (b0 : Addr) (x1 : Int64) : entryFrame m #[(.ref b0), (.long x1)] 4 = mkF m 0 #[.val (.ref b0), .val (.long x1), .second, .unset] [] := by first | (simp [entryFrame, mkF, argsToLocals, Value.category]; done) | rfl
abbrev rx6 : Room := { frames := 1, cells := 0, slots := 0, locals := 15 }
abbrev Cx6 (Z : State) (a0 : Array Value) (p : Program) (s : State) (m : MethodId) (meth : Method) (c : Code) : Prop := p.tables.exec = Jvm.exec ∧ Z.Warmed39 s.vm ∧ (∀ d ∈ tables_1, d.before a0 Z = true) ∧ c.code = prog_1_method_6_code ∧ c.maxLocals = 4 ∧ s.vm.findClass (site_54.cls) = some m.cls ∧ meth.sig.returnType = (some .boolean) ∧ meth.locks = false ∧ meth.name = "take"
def Q6 (Z : State) (x1 : Int64) (b0 : Addr) (u0_limit : Int64) (u0_weight : Int64) (u0_spent : Int64) (b1 : Addr) (u1_limit : Int64) (u1_weight : Int64) (u1_spent : Int64) (h0 : Heap) (n0 : Nat) (o : Int32 × Int64 × Int64) (v : Option Value) (h : Heap) (L : List Loc) : Prop := v = some (.int o.1) ∧ Fr n0 L ∧ Keep h0 h [b0, b1] ∧ Fld Z h b0 (site_54.cls) "limit" "J" (.long u0_limit) ∧ Fld Z h b0 (site_54.cls) "whole" (own_wD) (.ref b1) ∧ Fld Z h b0 (site_54.cls) "weight" "J" (.long u0_weight) ∧ Fld Z h b0 (site_54.cls) "spent" "J" (.long o.2.1) ∧ Fld Z h b1 (site_54.cls) "limit" "J" (.long u1_limit) ∧ Fld Z h b1 (site_54.cls) "whole" (own_wD) .null ∧ Fld Z h b1 (site_54.cls) "weight" "J" (.long u1_weight) ∧ Fld Z h b1 (site_54.cls) "spent" "J" (.long o.2.2)
def f6_27 (x1 : Int64) (y0 : Int32) (u0_limit : Int64) (u0_weight : Int64) (u0_spent : Int64) (u1_limit : Int64) (u1_weight : Int64) (u1_spent : Int64) : Option (Int32 × Int64 × Int64) := ((f6b (x1 * u0_weight) u1_limit u1_weight u1_spent).bind fun o8 => (if o8.1 = (0 : Int32) then some ((0 : Int32), u0_spent, o8.2) else some ((y0 &&& 1), u0_spent, o8.2)))
set_option maxRecDepth 65536 in
set_option maxHeartbeats 40000000 in
theorem w6_27 {p : Program} {l : Launch} {e : Env} {s : State} {m : MethodId} {args : Array Value} {below : List Frame} {meth : Method} {c : Code} {Z : State} {a0 : Array Value} {h0 : Heap} {n0 : Nat} (C : Cx6 Z a0 p s m meth c) :
    ∀ (T : State) (locs : List Loc) (hA : Heap) (x1 : Int64) (y0 : Int32) (b0 : Addr) (u0_limit : Int64) (u0_weight : Int64) (u0_spent : Int64) (b1 : Addr) (u1_limit : Int64) (u1_weight : Int64) (u1_spent : Int64) (o : Int32 × Int64 × Int64), f6_27 x1 y0 u0_limit u0_weight u0_spent u1_limit u1_weight u1_spent = some o → Stand p l e rx6 s m args below meth c T locs 0 0 → T.heap = hA → Fr n0 locs → Old Z n0 hA → Keep h0 hA [b0, b1] → (Exa Z hA b0 (site_54.cls)) → (Fld Z hA b0 (site_54.cls) "limit" "J" (.long u0_limit)) → (Fld Z hA b0 (site_54.cls) "whole" (own_wD) (.ref b1)) → (Fld Z hA b0 (site_54.cls) "weight" "J" (.long u0_weight)) → (Fld Z hA b0 (site_54.cls) "spent" "J" (.long u0_spent)) → (Exa Z hA b1 (site_54.cls)) → (Fld Z hA b1 (site_54.cls) "limit" "J" (.long u1_limit)) → (Fld Z hA b1 (site_54.cls) "whole" (own_wD) .null) → (Fld Z hA b1 (site_54.cls) "weight" "J" (.long u1_weight)) → (Fld Z hA b1 (site_54.cls) "spent" "J" (.long u1_spent)) → (n0 ≤ b0) → (n0 ≤ b1) → (b0 ≠ b1) →  OwnOut p e s below 0 0 (Q6 Z default b0 u0_limit u0_weight default b1 u1_limit u1_weight default h0 n0 o) (T.setTop (mkF m 27 #[.val (.ref b0), .val (.long x1), .second, .unset] [(.int y0)])) := by
    obtain ⟨hx, hZ, hw, hby, hml, hown, hret, hlk, hnm⟩ := C
    intro T locs hA x1 y0 b0 u0_limit u0_weight u0_spent b1 u1_limit u1_weight u1_spent o hr X0 e0 N0 O0 K0 E0 F0_limit F0_whole F0_weight F0_spent E1 F1_limit F1_whole F1_weight F1_spent g0 g1 ne0_1
    rw [f6_27] at hr
    refine OwnOut.go (fun t k => XS.istoreN X0.here hx rfl (hb hby d6_27) rfl (l' := #[.val (.ref b0), .val (.long x1), .second, .val (.int y0)]) rfl k) ?_
    show OwnOut p e s below 0 0 _ (T.setTop (mkF m 28 #[.val (.ref b0), .val (.long x1), .second, .val (.int y0)] []))
    refine OwnOut.go (fun t k => XS.aloadN X0.here hx rfl (hb hby d6_28) rfl rfl k) ?_
    show OwnOut p e s below 0 0 _ (T.setTop (mkF m 29 #[.val (.ref b0), .val (.long x1), .second, .val (.int y0)] [(.ref b0)]))
    obtain ⟨T5, X5, e5, st5⟩ := getF X0 hx hZ hown (host := "") (Or.inl (hw _ (List.mem_of_getElem? (i := 25) rfl))) Via.refl e0 F0_whole (g := (mkF m 29 #[.val (.ref b0), .val (.long x1), .second, .val (.int y0)] [(.ref b0)])) rfl rfl (hb hby d6_29)
    refine OwnOut.go (fun t k => st5 _ k) ?_
    show OwnOut p e s below 0 0 _ (T5.setTop (mkF m 32 #[.val (.ref b0), .val (.long x1), .second, .val (.int y0)] [(.ref b1)]))
    refine OwnOut.go (fun t k => XS.ifnullNo X5.here hx rfl (hb hby d6_32) rfl k) ?_
    show OwnOut p e s below 0 0 _ (T5.setTop (mkF m 35 #[.val (.ref b0), .val (.long x1), .second, .val (.int y0)] []))
    refine OwnOut.go (fun t k => XS.aloadN X5.here hx rfl (hb hby d6_35) rfl rfl k) ?_
    show OwnOut p e s below 0 0 _ (T5.setTop (mkF m 36 #[.val (.ref b0), .val (.long x1), .second, .val (.int y0)] [(.ref b0)]))
    obtain ⟨T6, X6, e6, st6⟩ := getF X5 hx hZ hown (host := "") (Or.inl (hw _ (List.mem_of_getElem? (i := 25) rfl))) Via.refl e5 F0_whole (g := (mkF m 36 #[.val (.ref b0), .val (.long x1), .second, .val (.int y0)] [(.ref b0)])) rfl rfl (hb hby d6_36)
    refine OwnOut.go (fun t k => st6 _ k) ?_
    show OwnOut p e s below 0 0 _ (T6.setTop (mkF m 39 #[.val (.ref b0), .val (.long x1), .second, .val (.int y0)] [(.ref b1)]))
    refine OwnOut.go (fun t k => XS.lloadN X6.here hx rfl (hb hby d6_39) rfl k) ?_
    show OwnOut p e s below 0 0 _ (T6.setTop (mkF m 40 #[.val (.ref b0), .val (.long x1), .second, .val (.int y0)] [(.long x1), (.ref b1)]))
    refine OwnOut.go (fun t k => XS.aloadN X6.here hx rfl (hb hby d6_40) rfl rfl k) ?_
    show OwnOut p e s below 0 0 _ (T6.setTop (mkF m 41 #[.val (.ref b0), .val (.long x1), .second, .val (.int y0)] [(.ref b0), (.long x1), (.ref b1)]))
    obtain ⟨T7, X7, e7, st7⟩ := getF X6 hx hZ hown (host := "") (Or.inl (hw _ (List.mem_of_getElem? (i := 27) rfl))) Via.refl e6 F0_weight (g := (mkF m 41 #[.val (.ref b0), .val (.long x1), .second, .val (.int y0)] [(.ref b0), (.long x1), (.ref b1)])) rfl rfl (hb hby d6_41)
    refine OwnOut.go (fun t k => st7 _ k) ?_
    show OwnOut p e s below 0 0 _ (T7.setTop (mkF m 44 #[.val (.ref b0), .val (.long x1), .second, .val (.int y0)] [(.long u0_weight), (.long x1), (.ref b1)]))
    refine OwnOut.go (fun t k => XS.lmul X7.here hx rfl (hb hby d6_44) rfl k) ?_
    show OwnOut p e s below 0 0 _ (T7.setTop (mkF m 45 #[.val (.ref b0), .val (.long x1), .second, .val (.int y0)] [(.long (x1 * u0_weight)), (.ref b1)]))
    obtain ⟨o8, ho8, hr⟩ := Option.bind_eq_some_iff.mp hr
    obtain ⟨r8, T8, L8, X8', hQ8, st8⟩ := callV (W := 0) (rm := rx6b) X7 hx hZ (y := (⟨(site_54.cls), "take", "(J)Z"⟩ : MethodName)) hown (hw _ (List.mem_of_getElem? (i := 46) rfl)) (hw _ (List.mem_of_getElem? (i := 40) rfl)) (hw _ (List.mem_of_getElem? (i := 42) rfl)) (hw _ (List.mem_of_getElem? (i := 41) rfl)) (hw _ (List.mem_of_getElem? (i := 5) rfl)) (hw _ (List.mem_of_getElem? (i := 43) rfl)) (by decide) (rm6b l Z a0 hw [] (x1 * u0_weight) b1 u1_limit u1_weight u1_spent hA n0 o8 ho8 O0 E1 F1_limit F1_whole F1_weight F1_spent g1) (by decide) (by decide) (by decide) (by decide) e7 E1 (g := (mkF m 45 #[.val (.ref b0), .val (.long x1), .second, .val (.int y0)] [(.long (x1 * u0_weight)), (.ref b1)])) rfl (by rw [hml]; rfl) (argsL := [(.long (x1 * u0_weight))]) (rest := []) (lenOf pd6b rfl) rfl (by show 2 * 0 + _ ≤ _; exact Nat.le_of_eq rfl) (hb hby d6_45)
    obtain ⟨rfl, Nq8, Kq8, F1_limit_8, F1_whole_8, F1_weight_8, F1_spent_8⟩ := hQ8
    have X8 : Stand p l e rx6 _ m args below meth c T8 _ 0 0 := X8'
    have E0_8 := E0.keep Kq8
    have F0_limit_8 := F0_limit.keep Kq8 (ninS ne0_1 nin0)
    have F0_whole_8 := F0_whole.keep Kq8 (ninS ne0_1 nin0)
    have F0_weight_8 := F0_weight.keep Kq8 (ninS ne0_1 nin0)
    have F0_spent_8 := F0_spent.keep Kq8 (ninS ne0_1 nin0)
    have E1_8 := E1.keep Kq8
    have N_8 := Fr.app N0 Nq8
    have O_8 := O0.keep Kq8 (allS g1 all0)
    have K_8 := K0.trans Kq8 (allS (Or.inl (List.mem_of_getElem? (i := 1) rfl)) all0)
    refine OwnOut.go (fun t k => st8 _ k) ?_
    show OwnOut p e s below 0 0 _ (T8.setTop (mkF m 48 #[.val (.ref b0), .val (.long x1), .second, .val (.int y0)] [(.int o8.1)]))
    by_cases hc48 : o8.1 = (0 : Int32)
    · rw [if_pos hc48] at hr
      refine OwnOut.go (fun t k => XS.ifNo X8.here hx rfl (hb hby d6_48) rfl (XT.i0_ne_f hc48) k) ?_
      show OwnOut p e s below 0 0 _ (T8.setTop (mkF m 51 #[.val (.ref b0), .val (.long x1), .second, .val (.int y0)] []))
      refine OwnOut.go (fun t k => XT.iconstV X8.here hx rfl (0 : Int32) (hb hby d6_51) rfl k) ?_
      show OwnOut p e s below 0 0 _ (T8.setTop (mkF m 52 #[.val (.ref b0), .val (.long x1), .second, .val (.int y0)] [(.int (0 : Int32))]))
      refine OwnOut.go (fun t k => XS.istoreN X8.here hx rfl (hb hby d6_52) rfl (l' := #[.val (.ref b0), .val (.long x1), .second, .val (.int (0 : Int32))]) rfl k) ?_
      show OwnOut p e s below 0 0 _ (T8.setTop (mkF m 53 #[.val (.ref b0), .val (.long x1), .second, .val (.int (0 : Int32))] []))
      refine OwnOut.go (fun t k => XS.iloadN X8.here hx rfl (hb hby d6_53) rfl k) ?_
      show OwnOut p e s below 0 0 _ (T8.setTop (mkF m 54 #[.val (.ref b0), .val (.long x1), .second, .val (.int (0 : Int32))] [(.int (0 : Int32))]))
      cases hr
      exact outZ X8 hx hret (hb hby d6_54) hlk (by decide) (by decide) ⟨rfl, N_8, K_8, F0_limit_8, F0_whole_8, F0_weight_8, F0_spent_8, F1_limit_8, F1_whole_8, F1_weight_8, F1_spent_8⟩
    · rw [if_neg hc48] at hr
      refine OwnOut.go (fun t k => XS.ifYes X8.here hx rfl (pc0 := 48) (pc' := 53) rfl (hb hby d6_48) rfl (XT.i0_ne_t hc48) (by decide) (by decide) k) ?_
      show OwnOut p e s below 0 0 _ (T8.setTop (mkF m 53 #[.val (.ref b0), .val (.long x1), .second, .val (.int y0)] []))
      refine OwnOut.go (fun t k => XS.iloadN X8.here hx rfl (hb hby d6_53) rfl k) ?_
      show OwnOut p e s below 0 0 _ (T8.setTop (mkF m 54 #[.val (.ref b0), .val (.long x1), .second, .val (.int y0)] [(.int y0)]))
      cases hr
      exact outZ X8 hx hret (hb hby d6_54) hlk (by decide) (by decide) ⟨rfl, N_8, K_8, F0_limit_8, F0_whole_8, F0_weight_8, F0_spent_8, F1_limit_8, F1_whole_8, F1_weight_8, F1_spent_8⟩
def f6 (x1 : Int64) (u0_limit : Int64) (u0_weight : Int64) (u0_spent : Int64) (u1_limit : Int64) (u1_weight : Int64) (u1_spent : Int64) : Option (Int32 × Int64 × Int64) := (if u0_limit < (u0_spent + x1) then (f6_27 x1 (0 : Int32) u0_limit u0_weight (u0_spent + x1) u1_limit u1_weight u1_spent) else (f6_27 x1 (1 : Int32) u0_limit u0_weight (u0_spent + x1) u1_limit u1_weight u1_spent))
set_option maxRecDepth 65536 in
set_option maxHeartbeats 40000000 in
theorem w6_0 {p : Program} {l : Launch} {e : Env} {s : State} {m : MethodId} {args : Array Value} {below : List Frame} {meth : Method} {c : Code} {Z : State} {a0 : Array Value} {h0 : Heap} {n0 : Nat} (C : Cx6 Z a0 p s m meth c) :
    ∀ (T : State) (locs : List Loc) (hA : Heap) (x1 : Int64) (b0 : Addr) (u0_limit : Int64) (u0_weight : Int64) (u0_spent : Int64) (b1 : Addr) (u1_limit : Int64) (u1_weight : Int64) (u1_spent : Int64) (o : Int32 × Int64 × Int64), f6 x1 u0_limit u0_weight u0_spent u1_limit u1_weight u1_spent = some o → Stand p l e rx6 s m args below meth c T locs 0 0 → T.heap = hA → Fr n0 locs → Old Z n0 hA → Keep h0 hA [b0, b1] → (Exa Z hA b0 (site_54.cls)) → (Fld Z hA b0 (site_54.cls) "limit" "J" (.long u0_limit)) → (Fld Z hA b0 (site_54.cls) "whole" (own_wD) (.ref b1)) → (Fld Z hA b0 (site_54.cls) "weight" "J" (.long u0_weight)) → (Fld Z hA b0 (site_54.cls) "spent" "J" (.long u0_spent)) → (Exa Z hA b1 (site_54.cls)) → (Fld Z hA b1 (site_54.cls) "limit" "J" (.long u1_limit)) → (Fld Z hA b1 (site_54.cls) "whole" (own_wD) .null) → (Fld Z hA b1 (site_54.cls) "weight" "J" (.long u1_weight)) → (Fld Z hA b1 (site_54.cls) "spent" "J" (.long u1_spent)) → (n0 ≤ b0) → (n0 ≤ b1) → (b0 ≠ b1) →  OwnOut p e s below 0 0 (Q6 Z default b0 u0_limit u0_weight default b1 u1_limit u1_weight default h0 n0 o) (T.setTop (mkF m 0 #[.val (.ref b0), .val (.long x1), .second, .unset] [])) := by
    obtain ⟨hx, hZ, hw, hby, hml, hown, hret, hlk, hnm⟩ := C
    intro T locs hA x1 b0 u0_limit u0_weight u0_spent b1 u1_limit u1_weight u1_spent o hr X0 e0 N0 O0 K0 E0 F0_limit F0_whole F0_weight F0_spent E1 F1_limit F1_whole F1_weight F1_spent g0 g1 ne0_1
    rw [f6] at hr
    refine OwnOut.go (fun t k => XS.aloadN X0.here hx rfl (hb hby d6_0) rfl rfl k) ?_
    show OwnOut p e s below 0 0 _ (T.setTop (mkF m 1 #[.val (.ref b0), .val (.long x1), .second, .unset] [(.ref b0)]))
    refine OwnOut.go (fun t k => XS.dup X0.here hx rfl (hb hby d6_1) rfl rfl k) ?_
    show OwnOut p e s below 0 0 _ (T.setTop (mkF m 2 #[.val (.ref b0), .val (.long x1), .second, .unset] [(.ref b0), (.ref b0)]))
    obtain ⟨T1, X1, e1, st1⟩ := getF X0 hx hZ hown (host := "") (Or.inl (hw _ (List.mem_of_getElem? (i := 44) rfl))) Via.refl e0 F0_spent (g := (mkF m 2 #[.val (.ref b0), .val (.long x1), .second, .unset] [(.ref b0), (.ref b0)])) rfl rfl (hb hby d6_2)
    refine OwnOut.go (fun t k => st1 _ k) ?_
    show OwnOut p e s below 0 0 _ (T1.setTop (mkF m 5 #[.val (.ref b0), .val (.long x1), .second, .unset] [(.long u0_spent), (.ref b0)]))
    refine OwnOut.go (fun t k => XS.lloadN X1.here hx rfl (hb hby d6_5) rfl k) ?_
    show OwnOut p e s below 0 0 _ (T1.setTop (mkF m 6 #[.val (.ref b0), .val (.long x1), .second, .unset] [(.long x1), (.long u0_spent), (.ref b0)]))
    refine OwnOut.go (fun t k => XS.ladd X1.here hx rfl (hb hby d6_6) rfl k) ?_
    show OwnOut p e s below 0 0 _ (T1.setTop (mkF m 7 #[.val (.ref b0), .val (.long x1), .second, .unset] [(.long (u0_spent + x1)), (.ref b0)]))
    obtain ⟨T2, h2, X2, e2, W2, st2⟩ := putF X1 hx hZ hown (host := "") (Or.inl (hw _ (List.mem_of_getElem? (i := 44) rfl))) Via.refl e1 F0_spent E0 (Or.inl (hw _ (List.mem_of_getElem? (i := 45) rfl))) (hw _ (List.mem_of_getElem? (i := 4) rfl)) (ty := .long) (by decide) rfl rfl (g := (mkF m 7 #[.val (.ref b0), .val (.long x1), .second, .unset] [(.long (u0_spent + x1)), (.ref b0)])) rfl rfl (hb hby d6_7)
    refine OwnOut.go (fun t k => st2 _ k) ?_
    have E0_2 := E0.wr W2
    have F0_limit_2 := F0_limit.other W2 (Or.inr (slot_ne (Or.inr (hw _ (List.mem_of_getElem? (i := 24) rfl))) (Or.inl (hw _ (List.mem_of_getElem? (i := 45) rfl))) (by decide) (t := .long) (t' := .long) (by decide) (by decide)))
    have F0_whole_2 := F0_whole.other W2 (Or.inr (slot_ne (Or.inr (hw _ (List.mem_of_getElem? (i := 26) rfl))) (Or.inl (hw _ (List.mem_of_getElem? (i := 45) rfl))) (by decide) (t := (.object (site_54.cls))) (t' := .long) (by decide) (by decide)))
    have F0_weight_2 := F0_weight.other W2 (Or.inr (slot_ne (Or.inr (hw _ (List.mem_of_getElem? (i := 28) rfl))) (Or.inl (hw _ (List.mem_of_getElem? (i := 45) rfl))) (by decide) (t := .long) (t' := .long) (by decide) (by decide)))
    have F0_spent_2 := F0_spent.same W2
    have E1_2 := E1.wr W2
    have F1_limit_2 := F1_limit.other W2 (Or.inl (Ne.symm ne0_1))
    have F1_whole_2 := F1_whole.other W2 (Or.inl (Ne.symm ne0_1))
    have F1_weight_2 := F1_weight.other W2 (Or.inl (Ne.symm ne0_1))
    have F1_spent_2 := F1_spent.other W2 (Or.inl (Ne.symm ne0_1))
    have N_2 := Fr.snoc X2 N0 g0
    have O_2 := O0.wr W2 g0
    have K_2 := K0.wr W2 (Or.inl (List.mem_of_getElem? (i := 0) rfl))
    show OwnOut p e s below 0 0 _ (T2.setTop (mkF m 10 #[.val (.ref b0), .val (.long x1), .second, .unset] []))
    refine OwnOut.go (fun t k => XS.aloadN X2.here hx rfl (hb hby d6_10) rfl rfl k) ?_
    show OwnOut p e s below 0 0 _ (T2.setTop (mkF m 11 #[.val (.ref b0), .val (.long x1), .second, .unset] [(.ref b0)]))
    obtain ⟨T3, X3, e3, st3⟩ := getF X2 hx hZ hown (host := "") (Or.inl (hw _ (List.mem_of_getElem? (i := 44) rfl))) Via.refl e2 F0_spent_2 (g := (mkF m 11 #[.val (.ref b0), .val (.long x1), .second, .unset] [(.ref b0)])) rfl rfl (hb hby d6_11)
    refine OwnOut.go (fun t k => st3 _ k) ?_
    show OwnOut p e s below 0 0 _ (T3.setTop (mkF m 14 #[.val (.ref b0), .val (.long x1), .second, .unset] [(.long (u0_spent + x1))]))
    refine OwnOut.go (fun t k => XS.aloadN X3.here hx rfl (hb hby d6_14) rfl rfl k) ?_
    show OwnOut p e s below 0 0 _ (T3.setTop (mkF m 15 #[.val (.ref b0), .val (.long x1), .second, .unset] [(.ref b0), (.long (u0_spent + x1))]))
    obtain ⟨T4, X4, e4, st4⟩ := getF X3 hx hZ hown (host := "") (Or.inl (hw _ (List.mem_of_getElem? (i := 23) rfl))) Via.refl e3 F0_limit_2 (g := (mkF m 15 #[.val (.ref b0), .val (.long x1), .second, .unset] [(.ref b0), (.long (u0_spent + x1))])) rfl rfl (hb hby d6_15)
    refine OwnOut.go (fun t k => st4 _ k) ?_
    show OwnOut p e s below 0 0 _ (T4.setTop (mkF m 18 #[.val (.ref b0), .val (.long x1), .second, .unset] [(.long u0_limit), (.long (u0_spent + x1))]))
    refine OwnOut.go (fun t k => XS.lcmp X4.here hx rfl (hb hby d6_18) rfl k) ?_
    show OwnOut p e s below 0 0 _ (T4.setTop (mkF m 19 #[.val (.ref b0), .val (.long x1), .second, .unset] [(.int (XT.cmpL (u0_spent + x1) u0_limit))]))
    by_cases hc19 : u0_limit < (u0_spent + x1)
    · rw [if_pos hc19] at hr
      refine OwnOut.go (fun t k => XS.ifYes X4.here hx rfl (pc0 := 19) (pc' := 26) rfl (hb hby d6_19) rfl (XT.ll_gt_t hc19) (by decide) (by decide) k) ?_
      show OwnOut p e s below 0 0 _ (T4.setTop (mkF m 26 #[.val (.ref b0), .val (.long x1), .second, .unset] []))
      refine OwnOut.go (fun t k => XT.iconstV X4.here hx rfl (0 : Int32) (hb hby d6_26) rfl k) ?_
      show OwnOut p e s below 0 0 _ (T4.setTop (mkF m 27 #[.val (.ref b0), .val (.long x1), .second, .unset] [(.int (0 : Int32))]))
      exact w6_27 ⟨hx, hZ, hw, hby, hml, hown, hret, hlk, hnm⟩  _ _ _ x1 (0 : Int32) b0 u0_limit u0_weight (u0_spent + x1) b1 u1_limit u1_weight u1_spent _ hr X4 e4 N_2 O_2 K_2 E0_2 F0_limit_2 F0_whole_2 F0_weight_2 F0_spent_2 E1_2 F1_limit_2 F1_whole_2 F1_weight_2 F1_spent_2 g0 g1 ne0_1
    · rw [if_neg hc19] at hr
      refine OwnOut.go (fun t k => XS.ifNo X4.here hx rfl (hb hby d6_19) rfl (XT.ll_gt_f hc19) k) ?_
      show OwnOut p e s below 0 0 _ (T4.setTop (mkF m 22 #[.val (.ref b0), .val (.long x1), .second, .unset] []))
      refine OwnOut.go (fun t k => XT.iconstV X4.here hx rfl (1 : Int32) (hb hby d6_22) rfl k) ?_
      show OwnOut p e s below 0 0 _ (T4.setTop (mkF m 23 #[.val (.ref b0), .val (.long x1), .second, .unset] [(.int (1 : Int32))]))
      refine OwnOut.go (fun t k => XS.goto X4.here hx rfl (pc0 := 23) (pc' := 27) rfl (hb hby d6_23) (by decide) (by decide) k) ?_
      show OwnOut p e s below 0 0 _ (T4.setTop (mkF m 27 #[.val (.ref b0), .val (.long x1), .second, .unset] [(.int (1 : Int32))]))
      exact w6_27 ⟨hx, hZ, hw, hby, hml, hown, hret, hlk, hnm⟩  _ _ _ x1 (1 : Int32) b0 u0_limit u0_weight (u0_spent + x1) b1 u1_limit u1_weight u1_spent _ hr X4 e4 N_2 O_2 K_2 E0_2 F0_limit_2 F0_whole_2 F0_weight_2 F0_spent_2 E1_2 F1_limit_2 F1_whole_2 F1_weight_2 F1_spent_2 g0 g1 ne0_1
set_option maxRecDepth 65536 in
set_option maxHeartbeats 40000000 in
theorem rm6 (l : Launch) (Z : State) (a0 : Array Value) (hw : ∀ d ∈ tables_1, d.before a0 Z = true) (ws : List Jvm.Cond) (x1 : Int64) (b0 : Addr) (u0_limit : Int64) (u0_weight : Int64) (u0_spent : Int64) (b1 : Addr) (u1_limit : Int64) (u1_weight : Int64) (u1_spent : Int64) (h0 : Heap) (n0 : Nat) (o : Int32 × Int64 × Int64) (hr : f6 x1 u0_limit u0_weight u0_spent u1_limit u1_weight u1_spent = some o) (O0 : Old Z n0 h0) (E0 : Exa Z h0 b0 (site_54.cls)) (F0_limit : Fld Z h0 b0 (site_54.cls) "limit" "J" (.long u0_limit)) (F0_whole : Fld Z h0 b0 (site_54.cls) "whole" (own_wD) (.ref b1)) (F0_weight : Fld Z h0 b0 (site_54.cls) "weight" "J" (.long u0_weight)) (F0_spent : Fld Z h0 b0 (site_54.cls) "spent" "J" (.long u0_spent)) (E1 : Exa Z h0 b1 (site_54.cls)) (F1_limit : Fld Z h0 b1 (site_54.cls) "limit" "J" (.long u1_limit)) (F1_whole : Fld Z h0 b1 (site_54.cls) "whole" (own_wD) .null) (F1_weight : Fld Z h0 b1 (site_54.cls) "weight" "J" (.long u1_weight)) (F1_spent : Fld Z h0 b1 (site_54.cls) "spent" "J" (.long u1_spent)) (g0 : n0 ≤ b0) (g1 : n0 ≤ b1) (ne0_1 : b0 ≠ b1) :
    MetFree l (⟨(site_54.cls), "take", "(J)Z"⟩ : MethodName) (head1 (Jvm.Cond.code (⟨(site_54.cls), "take", "(J)Z"⟩ : MethodName) prog_1_method_6_code 4 (some .boolean) :: ws) rx6) (fun a U => a = #[(.ref b0), (.long x1)] ∧ Z.Warmed39 U.vm ∧ U.heap = h0) (fun _ _ _ _ _ => True) (fun _ U o' U' => ∃ v L, o' = .returned v ∧ Q6 Z x1 b0 u0_limit u0_weight u0_spent b1 u1_limit u1_weight u1_spent h0 n0 o v U'.heap L ∧ FrameEnd U o' U' L rx6.cells rx6.slots) := by
  refine MetFree.of_bodySF (plainFor_of_name pn6) hisR ?_
  intro p e s m args below meth c s₁ Bd hml0 hP hK
  obtain ⟨rfl, hZ, hh⟩ := hP
  have X0 : Stand p l e rx6 s m #[(.ref b0), (.long x1)] below meth c s₁ [] 0 0 := Stand.of_body Bd
  have e0 : s₁.heap = h0 := by rw [← hh, Bd.state]; rfl
  have hfc := findClass_of_methodNamed Bd.named
  exact OwnOut.at (ef6 m b0 x1) (w6_0 ⟨Bd.exec, hZ, hw, Bd.bytes, hml0, hfc, Bd.returns, Bd.notSynchronized, (name_of_methodNamed Bd.named Bd.method).1⟩ _ _ _ x1 b0 u0_limit u0_weight u0_spent b1 u1_limit u1_weight u1_spent o hr X0 e0 (Fr.nil n0) O0 (Keep.refl _ _) E0 F0_limit F0_whole F0_weight F0_spent E1 F1_limit F1_whole F1_weight F1_spent g0 g1 ne0_1)
theorem d7_0 : decode prog_1_method_5_code 0 = .ok (.aload_n 0, 1) := by decide +kernel
theorem d7_1 : decode prog_1_method_5_code 1 = .ok (.getfield 43, 3) := by decide +kernel
theorem d7_4 : decode prog_1_method_5_code 4 = .ok (.aload_n 0, 1) := by decide +kernel
theorem d7_5 : decode prog_1_method_5_code 5 = .ok (.getfield 13, 3) := by decide +kernel
theorem d7_8 : decode prog_1_method_5_code 8 = .ok (.lcmp, 1) := by decide +kernel
theorem d7_9 : decode prog_1_method_5_code 9 = .ok (.ifCond .le 7, 3) := by decide +kernel
theorem d7_12 : decode prog_1_method_5_code 12 = .ok (.iconst 1, 1) := by decide +kernel
theorem d7_13 : decode prog_1_method_5_code 13 = .ok (.goto 4, 3) := by decide +kernel
theorem d7_16 : decode prog_1_method_5_code 16 = .ok (.iconst 0, 1) := by decide +kernel
theorem d7_17 : decode prog_1_method_5_code 17 = .ok (.ireturn, 1) := by decide +kernel
theorem pn7 : plainName (site_54.cls) = true := by first | (simp [plainName, overriddenIn]; done) | decide +kernel
theorem pd7 : parseMethodDescriptor "()Z" = some ⟨[], some .boolean⟩ := by decide +kernel
theorem ef7 (m : MethodId) (b0 : Addr) : entryFrame m #[(.ref b0)] 1 = mkF m 0 #[.val (.ref b0)] [] := by first | (simp [entryFrame, mkF, argsToLocals, Value.category]; done) | rfl
abbrev rx7 : Room := { frames := 0, cells := 0, slots := 0, locals := 0 }
abbrev Cx7 (Z : State) (a0 : Array Value) (p : Program) (s : State) (m : MethodId) (meth : Method) (c : Code) : Prop := p.tables.exec = Jvm.exec ∧ Z.Warmed39 s.vm ∧ (∀ d ∈ tables_1, d.before a0 Z = true) ∧ c.code = prog_1_method_5_code ∧ c.maxLocals = 1 ∧ s.vm.findClass (site_54.cls) = some m.cls ∧ meth.sig.returnType = (some .boolean) ∧ meth.locks = false ∧ meth.name = "isSpent"
def Q7 (Z : State) (b0 : Addr) (u0_limit : Int64) (u0_weight : Int64) (u0_spent : Int64) (b1 : Addr) (u1_limit : Int64) (u1_weight : Int64) (u1_spent : Int64) (h0 : Heap) (o : Int32) (v : Option Value) (h : Heap) (L : List Loc) : Prop := v = some (.int o) ∧ h = h0 ∧ L = []
def f7 (u0_limit : Int64) (u0_weight : Int64) (u0_spent : Int64) (u1_limit : Int64) (u1_weight : Int64) (u1_spent : Int64) : Option (Int32) := (if u0_limit < u0_spent then some ((1 : Int32)) else some ((0 : Int32)))
set_option maxRecDepth 65536 in
set_option maxHeartbeats 40000000 in
theorem w7_0 {p : Program} {l : Launch} {e : Env} {s : State} {m : MethodId} {args : Array Value} {below : List Frame} {meth : Method} {c : Code} {Z : State} {a0 : Array Value} {h0 : Heap} (C : Cx7 Z a0 p s m meth c) :
    ∀ (T : State) (b0 : Addr) (u0_limit : Int64) (u0_weight : Int64) (u0_spent : Int64) (b1 : Addr) (u1_limit : Int64) (u1_weight : Int64) (u1_spent : Int64) (o : Int32), f7 u0_limit u0_weight u0_spent u1_limit u1_weight u1_spent = some o → Stand p l e rx7 s m args below meth c T [] 0 0 → T.heap = h0 → (Exa Z h0 b0 (site_54.cls)) → (Fld Z h0 b0 (site_54.cls) "limit" "J" (.long u0_limit)) → (Fld Z h0 b0 (site_54.cls) "whole" (own_wD) (.ref b1)) → (Fld Z h0 b0 (site_54.cls) "weight" "J" (.long u0_weight)) → (Fld Z h0 b0 (site_54.cls) "spent" "J" (.long u0_spent)) → (Exa Z h0 b1 (site_54.cls)) → (Fld Z h0 b1 (site_54.cls) "limit" "J" (.long u1_limit)) → (Fld Z h0 b1 (site_54.cls) "whole" (own_wD) .null) → (Fld Z h0 b1 (site_54.cls) "weight" "J" (.long u1_weight)) → (Fld Z h0 b1 (site_54.cls) "spent" "J" (.long u1_spent)) →  OwnOut p e s below 0 0 (Q7 Z b0 u0_limit u0_weight u0_spent b1 u1_limit u1_weight u1_spent h0 o) (T.setTop (mkF m 0 #[.val (.ref b0)] [])) := by
    obtain ⟨hx, hZ, hw, hby, hml, hown, hret, hlk, hnm⟩ := C
    intro T b0 u0_limit u0_weight u0_spent b1 u1_limit u1_weight u1_spent o hr X0 e0 E0 F0_limit F0_whole F0_weight F0_spent E1 F1_limit F1_whole F1_weight F1_spent
    rw [f7] at hr
    refine OwnOut.go (fun t k => XS.aloadN X0.here hx rfl (hb hby d7_0) rfl rfl k) ?_
    show OwnOut p e s below 0 0 _ (T.setTop (mkF m 1 #[.val (.ref b0)] [(.ref b0)]))
    obtain ⟨T1, X1, e1, st1⟩ := getF X0 hx hZ hown (host := "") (Or.inl (hw _ (List.mem_of_getElem? (i := 44) rfl))) Via.refl e0 F0_spent (g := (mkF m 1 #[.val (.ref b0)] [(.ref b0)])) rfl rfl (hb hby d7_1)
    refine OwnOut.go (fun t k => st1 _ k) ?_
    show OwnOut p e s below 0 0 _ (T1.setTop (mkF m 4 #[.val (.ref b0)] [(.long u0_spent)]))
    refine OwnOut.go (fun t k => XS.aloadN X1.here hx rfl (hb hby d7_4) rfl rfl k) ?_
    show OwnOut p e s below 0 0 _ (T1.setTop (mkF m 5 #[.val (.ref b0)] [(.ref b0), (.long u0_spent)]))
    obtain ⟨T2, X2, e2, st2⟩ := getF X1 hx hZ hown (host := "") (Or.inl (hw _ (List.mem_of_getElem? (i := 23) rfl))) Via.refl e1 F0_limit (g := (mkF m 5 #[.val (.ref b0)] [(.ref b0), (.long u0_spent)])) rfl rfl (hb hby d7_5)
    refine OwnOut.go (fun t k => st2 _ k) ?_
    show OwnOut p e s below 0 0 _ (T2.setTop (mkF m 8 #[.val (.ref b0)] [(.long u0_limit), (.long u0_spent)]))
    refine OwnOut.go (fun t k => XS.lcmp X2.here hx rfl (hb hby d7_8) rfl k) ?_
    show OwnOut p e s below 0 0 _ (T2.setTop (mkF m 9 #[.val (.ref b0)] [(.int (XT.cmpL u0_spent u0_limit))]))
    by_cases hc9 : u0_limit < u0_spent
    · rw [if_pos hc9] at hr
      refine OwnOut.go (fun t k => XS.ifNo X2.here hx rfl (hb hby d7_9) rfl (XT.ll_le_f hc9) k) ?_
      show OwnOut p e s below 0 0 _ (T2.setTop (mkF m 12 #[.val (.ref b0)] []))
      refine OwnOut.go (fun t k => XT.iconstV X2.here hx rfl (1 : Int32) (hb hby d7_12) rfl k) ?_
      show OwnOut p e s below 0 0 _ (T2.setTop (mkF m 13 #[.val (.ref b0)] [(.int (1 : Int32))]))
      refine OwnOut.go (fun t k => XS.goto X2.here hx rfl (pc0 := 13) (pc' := 17) rfl (hb hby d7_13) (by decide) (by decide) k) ?_
      show OwnOut p e s below 0 0 _ (T2.setTop (mkF m 17 #[.val (.ref b0)] [(.int (1 : Int32))]))
      cases hr
      exact outZ X2 hx hret (hb hby d7_17) hlk (by decide) (by decide) ⟨rfl, e2, rfl⟩
    · rw [if_neg hc9] at hr
      refine OwnOut.go (fun t k => XS.ifYes X2.here hx rfl (pc0 := 9) (pc' := 16) rfl (hb hby d7_9) rfl (XT.ll_le_t hc9) (by decide) (by decide) k) ?_
      show OwnOut p e s below 0 0 _ (T2.setTop (mkF m 16 #[.val (.ref b0)] []))
      refine OwnOut.go (fun t k => XT.iconstV X2.here hx rfl (0 : Int32) (hb hby d7_16) rfl k) ?_
      show OwnOut p e s below 0 0 _ (T2.setTop (mkF m 17 #[.val (.ref b0)] [(.int (0 : Int32))]))
      cases hr
      exact outZ X2 hx hret (hb hby d7_17) hlk (by decide) (by decide) ⟨rfl, e2, rfl⟩
set_option maxRecDepth 65536 in
set_option maxHeartbeats 40000000 in
theorem rm7 (l : Launch) (Z : State) (a0 : Array Value) (hw : ∀ d ∈ tables_1, d.before a0 Z = true) (ws : List Jvm.Cond) (b0 : Addr) (u0_limit : Int64) (u0_weight : Int64) (u0_spent : Int64) (b1 : Addr) (u1_limit : Int64) (u1_weight : Int64) (u1_spent : Int64) (h0 : Heap) (o : Int32) (hr : f7 u0_limit u0_weight u0_spent u1_limit u1_weight u1_spent = some o) (E0 : Exa Z h0 b0 (site_54.cls)) (F0_limit : Fld Z h0 b0 (site_54.cls) "limit" "J" (.long u0_limit)) (F0_whole : Fld Z h0 b0 (site_54.cls) "whole" (own_wD) (.ref b1)) (F0_weight : Fld Z h0 b0 (site_54.cls) "weight" "J" (.long u0_weight)) (F0_spent : Fld Z h0 b0 (site_54.cls) "spent" "J" (.long u0_spent)) (E1 : Exa Z h0 b1 (site_54.cls)) (F1_limit : Fld Z h0 b1 (site_54.cls) "limit" "J" (.long u1_limit)) (F1_whole : Fld Z h0 b1 (site_54.cls) "whole" (own_wD) .null) (F1_weight : Fld Z h0 b1 (site_54.cls) "weight" "J" (.long u1_weight)) (F1_spent : Fld Z h0 b1 (site_54.cls) "spent" "J" (.long u1_spent)) :
    MetFree l (⟨(site_54.cls), "isSpent", "()Z"⟩ : MethodName) (head1 (Jvm.Cond.code (⟨(site_54.cls), "isSpent", "()Z"⟩ : MethodName) prog_1_method_5_code 1 (some .boolean) :: ws) rx7) (fun a U => a = #[(.ref b0)] ∧ Z.Warmed39 U.vm ∧ U.heap = h0) (fun _ _ _ _ _ => True) (fun _ U o' U' => ∃ v L, o' = .returned v ∧ Q7 Z b0 u0_limit u0_weight u0_spent b1 u1_limit u1_weight u1_spent h0 o v U'.heap L ∧ FrameEnd U o' U' L rx7.cells rx7.slots) := by
  refine MetFree.of_bodySF (plainFor_of_name pn7) hisR ?_
  intro p e s m args below meth c s₁ Bd hml0 hP hK
  obtain ⟨rfl, hZ, hh⟩ := hP
  have X0 : Stand p l e rx7 s m #[(.ref b0)] below meth c s₁ [] 0 0 := Stand.of_body Bd
  have e0 : s₁.heap = h0 := by rw [← hh, Bd.state]; rfl
  have hfc := findClass_of_methodNamed Bd.named
  exact OwnOut.at (ef7 m b0) (w7_0 ⟨Bd.exec, hZ, hw, Bd.bytes, hml0, hfc, Bd.returns, Bd.notSynchronized, (name_of_methodNamed Bd.named Bd.method).1⟩ _ b0 u0_limit u0_weight u0_spent b1 u1_limit u1_weight u1_spent o hr X0 e0  E0 F0_limit F0_whole F0_weight F0_spent E1 F1_limit F1_whole F1_weight F1_spent)
theorem pn7b : plainName (site_54.cls) = true := by first | (simp [plainName, overriddenIn]; done) | decide +kernel
theorem pd7b : parseMethodDescriptor "()Z" = some ⟨[], some .boolean⟩ := by decide +kernel
theorem ef7b (m : MethodId) (b0 : Addr) : entryFrame m #[(.ref b0)] 1 = mkF m 0 #[.val (.ref b0)] [] := by first | (simp [entryFrame, mkF, argsToLocals, Value.category]; done) | rfl
abbrev rx7b : Room := { frames := 0, cells := 0, slots := 0, locals := 0 }
abbrev Cx7b (Z : State) (a0 : Array Value) (p : Program) (s : State) (m : MethodId) (meth : Method) (c : Code) : Prop := p.tables.exec = Jvm.exec ∧ Z.Warmed39 s.vm ∧ (∀ d ∈ tables_1, d.before a0 Z = true) ∧ c.code = prog_1_method_5_code ∧ c.maxLocals = 1 ∧ s.vm.findClass (site_54.cls) = some m.cls ∧ meth.sig.returnType = (some .boolean) ∧ meth.locks = false ∧ meth.name = "isSpent"
def Q7b (Z : State) (b0 : Addr) (u0_limit : Int64) (u0_weight : Int64) (u0_spent : Int64) (h0 : Heap) (o : Int32) (v : Option Value) (h : Heap) (L : List Loc) : Prop := v = some (.int o) ∧ h = h0 ∧ L = []
def f7b (u0_limit : Int64) (u0_weight : Int64) (u0_spent : Int64) : Option (Int32) := (if u0_limit < u0_spent then some ((1 : Int32)) else some ((0 : Int32)))
set_option maxRecDepth 65536 in
set_option maxHeartbeats 40000000 in
theorem w7b_0 {p : Program} {l : Launch} {e : Env} {s : State} {m : MethodId} {args : Array Value} {below : List Frame} {meth : Method} {c : Code} {Z : State} {a0 : Array Value} {h0 : Heap} (C : Cx7b Z a0 p s m meth c) :
    ∀ (T : State) (b0 : Addr) (u0_limit : Int64) (u0_weight : Int64) (u0_spent : Int64) (o : Int32), f7b u0_limit u0_weight u0_spent = some o → Stand p l e rx7b s m args below meth c T [] 0 0 → T.heap = h0 → (Exa Z h0 b0 (site_54.cls)) → (Fld Z h0 b0 (site_54.cls) "limit" "J" (.long u0_limit)) → (Fld Z h0 b0 (site_54.cls) "whole" (own_wD) .null) → (Fld Z h0 b0 (site_54.cls) "weight" "J" (.long u0_weight)) → (Fld Z h0 b0 (site_54.cls) "spent" "J" (.long u0_spent)) →  OwnOut p e s below 0 0 (Q7b Z b0 u0_limit u0_weight u0_spent h0 o) (T.setTop (mkF m 0 #[.val (.ref b0)] [])) := by
    obtain ⟨hx, hZ, hw, hby, hml, hown, hret, hlk, hnm⟩ := C
    intro T b0 u0_limit u0_weight u0_spent o hr X0 e0 E0 F0_limit F0_whole F0_weight F0_spent
    rw [f7b] at hr
    refine OwnOut.go (fun t k => XS.aloadN X0.here hx rfl (hb hby d7_0) rfl rfl k) ?_
    show OwnOut p e s below 0 0 _ (T.setTop (mkF m 1 #[.val (.ref b0)] [(.ref b0)]))
    obtain ⟨T1, X1, e1, st1⟩ := getF X0 hx hZ hown (host := "") (Or.inl (hw _ (List.mem_of_getElem? (i := 44) rfl))) Via.refl e0 F0_spent (g := (mkF m 1 #[.val (.ref b0)] [(.ref b0)])) rfl rfl (hb hby d7_1)
    refine OwnOut.go (fun t k => st1 _ k) ?_
    show OwnOut p e s below 0 0 _ (T1.setTop (mkF m 4 #[.val (.ref b0)] [(.long u0_spent)]))
    refine OwnOut.go (fun t k => XS.aloadN X1.here hx rfl (hb hby d7_4) rfl rfl k) ?_
    show OwnOut p e s below 0 0 _ (T1.setTop (mkF m 5 #[.val (.ref b0)] [(.ref b0), (.long u0_spent)]))
    obtain ⟨T2, X2, e2, st2⟩ := getF X1 hx hZ hown (host := "") (Or.inl (hw _ (List.mem_of_getElem? (i := 23) rfl))) Via.refl e1 F0_limit (g := (mkF m 5 #[.val (.ref b0)] [(.ref b0), (.long u0_spent)])) rfl rfl (hb hby d7_5)
    refine OwnOut.go (fun t k => st2 _ k) ?_
    show OwnOut p e s below 0 0 _ (T2.setTop (mkF m 8 #[.val (.ref b0)] [(.long u0_limit), (.long u0_spent)]))
    refine OwnOut.go (fun t k => XS.lcmp X2.here hx rfl (hb hby d7_8) rfl k) ?_
    show OwnOut p e s below 0 0 _ (T2.setTop (mkF m 9 #[.val (.ref b0)] [(.int (XT.cmpL u0_spent u0_limit))]))
    by_cases hc9 : u0_limit < u0_spent
    · rw [if_pos hc9] at hr
      refine OwnOut.go (fun t k => XS.ifNo X2.here hx rfl (hb hby d7_9) rfl (XT.ll_le_f hc9) k) ?_
      show OwnOut p e s below 0 0 _ (T2.setTop (mkF m 12 #[.val (.ref b0)] []))
      refine OwnOut.go (fun t k => XT.iconstV X2.here hx rfl (1 : Int32) (hb hby d7_12) rfl k) ?_
      show OwnOut p e s below 0 0 _ (T2.setTop (mkF m 13 #[.val (.ref b0)] [(.int (1 : Int32))]))
      refine OwnOut.go (fun t k => XS.goto X2.here hx rfl (pc0 := 13) (pc' := 17) rfl (hb hby d7_13) (by decide) (by decide) k) ?_
      show OwnOut p e s below 0 0 _ (T2.setTop (mkF m 17 #[.val (.ref b0)] [(.int (1 : Int32))]))
      cases hr
      exact outZ X2 hx hret (hb hby d7_17) hlk (by decide) (by decide) ⟨rfl, e2, rfl⟩
    · rw [if_neg hc9] at hr
      refine OwnOut.go (fun t k => XS.ifYes X2.here hx rfl (pc0 := 9) (pc' := 16) rfl (hb hby d7_9) rfl (XT.ll_le_t hc9) (by decide) (by decide) k) ?_
      show OwnOut p e s below 0 0 _ (T2.setTop (mkF m 16 #[.val (.ref b0)] []))
      refine OwnOut.go (fun t k => XT.iconstV X2.here hx rfl (0 : Int32) (hb hby d7_16) rfl k) ?_
      show OwnOut p e s below 0 0 _ (T2.setTop (mkF m 17 #[.val (.ref b0)] [(.int (0 : Int32))]))
      cases hr
      exact outZ X2 hx hret (hb hby d7_17) hlk (by decide) (by decide) ⟨rfl, e2, rfl⟩
set_option maxRecDepth 65536 in
set_option maxHeartbeats 40000000 in
theorem rm7b (l : Launch) (Z : State) (a0 : Array Value) (hw : ∀ d ∈ tables_1, d.before a0 Z = true) (ws : List Jvm.Cond) (b0 : Addr) (u0_limit : Int64) (u0_weight : Int64) (u0_spent : Int64) (h0 : Heap) (o : Int32) (hr : f7b u0_limit u0_weight u0_spent = some o) (E0 : Exa Z h0 b0 (site_54.cls)) (F0_limit : Fld Z h0 b0 (site_54.cls) "limit" "J" (.long u0_limit)) (F0_whole : Fld Z h0 b0 (site_54.cls) "whole" (own_wD) .null) (F0_weight : Fld Z h0 b0 (site_54.cls) "weight" "J" (.long u0_weight)) (F0_spent : Fld Z h0 b0 (site_54.cls) "spent" "J" (.long u0_spent)) :
    MetFree l (⟨(site_54.cls), "isSpent", "()Z"⟩ : MethodName) (head1 (Jvm.Cond.code (⟨(site_54.cls), "isSpent", "()Z"⟩ : MethodName) prog_1_method_5_code 1 (some .boolean) :: ws) rx7b) (fun a U => a = #[(.ref b0)] ∧ Z.Warmed39 U.vm ∧ U.heap = h0) (fun _ _ _ _ _ => True) (fun _ U o' U' => ∃ v L, o' = .returned v ∧ Q7b Z b0 u0_limit u0_weight u0_spent h0 o v U'.heap L ∧ FrameEnd U o' U' L rx7b.cells rx7b.slots) := by
  refine MetFree.of_bodySF (plainFor_of_name pn7b) hisR ?_
  intro p e s m args below meth c s₁ Bd hml0 hP hK
  obtain ⟨rfl, hZ, hh⟩ := hP
  have X0 : Stand p l e rx7b s m #[(.ref b0)] below meth c s₁ [] 0 0 := Stand.of_body Bd
  have e0 : s₁.heap = h0 := by rw [← hh, Bd.state]; rfl
  have hfc := findClass_of_methodNamed Bd.named
  exact OwnOut.at (ef7b m b0) (w7b_0 ⟨Bd.exec, hZ, hw, Bd.bytes, hml0, hfc, Bd.returns, Bd.notSynchronized, (name_of_methodNamed Bd.named Bd.method).1⟩ _ b0 u0_limit u0_weight u0_spent o hr X0 e0  E0 F0_limit F0_whole F0_weight F0_spent)
theorem pn0 : plainName (x.cls) = true := by first | (simp [plainName, overriddenIn]; done) | decide +kernel
theorem pd0 : parseMethodDescriptor "(JJIJJJ)Z" = some ⟨[.long, .long, .int, .long, .long, .long], some .boolean⟩ := by decide +kernel
theorem ef0 (m : MethodId) (x0 : Int64) (x2 : Int64) (x4 : Int32) (x5 : Int64) (x7 : Int64) (x9 : Int64) : entryFrame m #[(.long x0), (.long x2), (.int x4), (.long x5), (.long x7), (.long x9)] maxLocals = mkF m 0 #[.val (.long x0), .second, .val (.long x2), .second, .val (.int x4), .val (.long x5), .second, .val (.long x7), .second, .val (.long x9), .second, .unset, .unset, .unset, .unset, .unset, .unset, .unset, .unset, .unset, .unset, .unset, .unset, .unset, .unset, .unset, .unset, .unset, .unset, .unset, .unset, .unset, .unset, .unset, .unset, .unset, .unset, .unset] [] := by first | (simp [entryFrame, mkF, argsToLocals, Value.category, maxLocals]; done) | rfl
abbrev Cx0 (Z : State) (a0 : Array Value) (p : Program) (s : State) (m : MethodId) (meth : Method) (c : Code) : Prop := p.tables.exec = Jvm.exec ∧ (∀ d ∈ tables_1, d.before a0 Z = true) ∧ c.code = code ∧ c.maxLocals = 38 ∧ meth.sig.returnType = (some .boolean) ∧ meth.locks = false ∧ meth.name = "law"
def Q0 (Z : State) (x0 : Int64) (x2 : Int64) (x4 : Int32) (x5 : Int64) (x7 : Int64) (x9 : Int64) (h0 : Heap) (n0 : Nat) (o : Int32) (v : Option Value) (h : Heap) (L : List Loc) : Prop := v = some (.int o) ∧ Fr n0 L
def f0_280 (y0 : Int32) (y1 : Int32) : Option (Int32) := (if y1 = y0 then some ((1 : Int32)) else some ((0 : Int32)))
set_option maxRecDepth 65536 in
set_option maxHeartbeats 40000000 in
theorem w0_280 {p : Program} {l : Launch} {e : Env} {s : State} {m : MethodId} {args : Array Value} {below : List Frame} {meth : Method} {c : Code} {Z : State} {a0 : Array Value} {h0 : Heap} {n0 : Nat} (C : Cx0 Z a0 p s m meth c) :
    ∀ (T : State) (locs : List Loc) (hA : Heap) (vm0 : Vm) (k0 : Nat) (x0 : Int64) (x2 : Int64) (x4 : Int32) (x5 : Int64) (x7 : Int64) (x9 : Int64) (x11 : Int64) (x13 : Int64) (x15 : Int64) (x17 : Int64) (x19 : Int64) (x21 : Int64) (x25 : Int32) (x26 : Int32) (x27 : Int32) (x28 : Int32) (x29 : Int32) (x30 : Int32) (x31 : Int64) (x33 : Int64) (x35 : Int32) (x36 : Int32) (x37 : Int32) (y0 : Int32) (y1 : Int32) (b0 : Addr) (u0_limit : Int64) (u0_weight : Int64) (u0_spent : Int64) (b1 : Addr) (u1_limit : Int64) (u1_weight : Int64) (u1_spent : Int64) (o : Int32), f0_280 y0 y1 = some o → Stand p l e room_1 (s.setVm vm0) m args below meth c T locs 8 48 → T.heap = hA → Fr n0 locs → Old Z n0 hA → Keep h0 hA [] → Z.Warmed39 vm0 → vm0.findClass (x.cls) = some m.cls → s.Since vm0 k0 → k0 ≤ hA.size → (Exa Z hA b0 (site_54.cls)) → (Fld Z hA b0 (site_54.cls) "limit" "J" (.long u0_limit)) → (Fld Z hA b0 (site_54.cls) "whole" (own_wD) .null) → (Fld Z hA b0 (site_54.cls) "weight" "J" (.long u0_weight)) → (Fld Z hA b0 (site_54.cls) "spent" "J" (.long u0_spent)) → (Exa Z hA b1 (site_54.cls)) → (Fld Z hA b1 (site_54.cls) "limit" "J" (.long u1_limit)) → (Fld Z hA b1 (site_54.cls) "whole" (own_wD) (.ref b0)) → (Fld Z hA b1 (site_54.cls) "weight" "J" (.long u1_weight)) → (Fld Z hA b1 (site_54.cls) "spent" "J" (.long u1_spent)) → (n0 ≤ b0) → (h0.size ≤ b0) → (n0 ≤ b1) → (h0.size ≤ b1) → (b0 ≠ b1) →  OwnOutW p e s below 16 2176 (Q0 Z default default default default default default h0 n0 o) (T.setTop (mkF m 280 #[.val (.long x0), .second, .val (.long x2), .second, .val (.int x4), .val (.long x5), .second, .val (.long x7), .second, .val (.long x9), .second, .val (.long x11), .second, .val (.long x13), .second, .val (.long x15), .second, .val (.long x17), .second, .val (.long x19), .second, .val (.long x21), .second, .val (.ref b0), .val (.ref b1), .val (.int x25), .val (.int x26), .val (.int x27), .val (.int x28), .val (.int x29), .val (.int x30), .val (.long x31), .second, .val (.long x33), .second, .val (.int x35), .val (.int x36), .val (.int x37)] [(.int y0), (.int y1)])) := by
    obtain ⟨hx, hw, hby, hml, hret, hlk, hnm⟩ := C
    intro T locs hA vm0 k0 x0 x2 x4 x5 x7 x9 x11 x13 x15 x17 x19 x21 x25 x26 x27 x28 x29 x30 x31 x33 x35 x36 x37 y0 y1 b0 u0_limit u0_weight u0_spent b1 u1_limit u1_weight u1_spent o hr X0 e0 N0 O0 K0 hZ hown hS0 hk0 E0 F0_limit F0_whole F0_weight F0_spent E1 F1_limit F1_whole F1_weight F1_spent g0 z0 g1 z1 ne0_1
    rw [f0_280] at hr
    by_cases hc280 : y1 = y0
    · rw [if_pos hc280] at hr
      refine OwnOutW.go (fun t k => XS.icmpNo X0.here hx rfl (hb hby at_280) rfl (XT.ii_ne_f hc280) k) ?_
      show OwnOutW p e s below 16 2176 _ (T.setTop (mkF m 283 #[.val (.long x0), .second, .val (.long x2), .second, .val (.int x4), .val (.long x5), .second, .val (.long x7), .second, .val (.long x9), .second, .val (.long x11), .second, .val (.long x13), .second, .val (.long x15), .second, .val (.long x17), .second, .val (.long x19), .second, .val (.long x21), .second, .val (.ref b0), .val (.ref b1), .val (.int x25), .val (.int x26), .val (.int x27), .val (.int x28), .val (.int x29), .val (.int x30), .val (.long x31), .second, .val (.long x33), .second, .val (.int x35), .val (.int x36), .val (.int x37)] []))
      refine OwnOutW.go (fun t k => XT.iconstV X0.here hx rfl (1 : Int32) (hb hby at_283) rfl k) ?_
      show OwnOutW p e s below 16 2176 _ (T.setTop (mkF m 284 #[.val (.long x0), .second, .val (.long x2), .second, .val (.int x4), .val (.long x5), .second, .val (.long x7), .second, .val (.long x9), .second, .val (.long x11), .second, .val (.long x13), .second, .val (.long x15), .second, .val (.long x17), .second, .val (.long x19), .second, .val (.long x21), .second, .val (.ref b0), .val (.ref b1), .val (.int x25), .val (.int x26), .val (.int x27), .val (.int x28), .val (.int x29), .val (.int x30), .val (.long x31), .second, .val (.long x33), .second, .val (.int x35), .val (.int x36), .val (.int x37)] [(.int (1 : Int32))]))
      refine OwnOutW.go (fun t k => XS.goto X0.here hx rfl (pc0 := 284) (pc' := 288) rfl (hb hby at_284) (by decide) (by decide) k) ?_
      show OwnOutW p e s below 16 2176 _ (T.setTop (mkF m 288 #[.val (.long x0), .second, .val (.long x2), .second, .val (.int x4), .val (.long x5), .second, .val (.long x7), .second, .val (.long x9), .second, .val (.long x11), .second, .val (.long x13), .second, .val (.long x15), .second, .val (.long x17), .second, .val (.long x19), .second, .val (.long x21), .second, .val (.ref b0), .val (.ref b1), .val (.int x25), .val (.int x26), .val (.int x27), .val (.int x28), .val (.int x29), .val (.int x30), .val (.long x31), .second, .val (.long x33), .second, .val (.int x35), .val (.int x36), .val (.int x37)] [(.int (1 : Int32))]))
      cases hr
      exact outZW X0 hS0 (by rw [e0]; exact hk0) hx hret (hb hby at_288) hlk (by decide) (by decide) ⟨rfl, N0⟩
    · rw [if_neg hc280] at hr
      refine OwnOutW.go (fun t k => XS.icmpYes X0.here hx rfl (pc0 := 280) (pc' := 287) rfl (hb hby at_280) rfl (XT.ii_ne_t hc280) (by decide) (by decide) k) ?_
      show OwnOutW p e s below 16 2176 _ (T.setTop (mkF m 287 #[.val (.long x0), .second, .val (.long x2), .second, .val (.int x4), .val (.long x5), .second, .val (.long x7), .second, .val (.long x9), .second, .val (.long x11), .second, .val (.long x13), .second, .val (.long x15), .second, .val (.long x17), .second, .val (.long x19), .second, .val (.long x21), .second, .val (.ref b0), .val (.ref b1), .val (.int x25), .val (.int x26), .val (.int x27), .val (.int x28), .val (.int x29), .val (.int x30), .val (.long x31), .second, .val (.long x33), .second, .val (.int x35), .val (.int x36), .val (.int x37)] []))
      refine OwnOutW.go (fun t k => XT.iconstV X0.here hx rfl (0 : Int32) (hb hby at_287) rfl k) ?_
      show OwnOutW p e s below 16 2176 _ (T.setTop (mkF m 288 #[.val (.long x0), .second, .val (.long x2), .second, .val (.int x4), .val (.long x5), .second, .val (.long x7), .second, .val (.long x9), .second, .val (.long x11), .second, .val (.long x13), .second, .val (.long x15), .second, .val (.long x17), .second, .val (.long x19), .second, .val (.long x21), .second, .val (.ref b0), .val (.ref b1), .val (.int x25), .val (.int x26), .val (.int x27), .val (.int x28), .val (.int x29), .val (.int x30), .val (.long x31), .second, .val (.long x33), .second, .val (.int x35), .val (.int x36), .val (.int x37)] [(.int (0 : Int32))]))
      cases hr
      exact outZW X0 hS0 (by rw [e0]; exact hk0) hx hret (hb hby at_288) hlk (by decide) (by decide) ⟨rfl, N0⟩
def f0_252 (x13 : Int64) (x21 : Int64) (x29 : Int32) (x30 : Int32) (x33 : Int64) (x37 : Int32) (y0 : Int32) (y1 : Int32) : Option (Int32) := (if y1 = y0 then (if x29 = x37 then (if x13 < (x33 + x21) then (f0_280 (1 : Int32) x30) else (f0_280 (0 : Int32) x30)) else some ((0 : Int32))) else some ((0 : Int32)))
set_option maxRecDepth 65536 in
set_option maxHeartbeats 40000000 in
theorem w0_252 {p : Program} {l : Launch} {e : Env} {s : State} {m : MethodId} {args : Array Value} {below : List Frame} {meth : Method} {c : Code} {Z : State} {a0 : Array Value} {h0 : Heap} {n0 : Nat} (C : Cx0 Z a0 p s m meth c) :
    ∀ (T : State) (locs : List Loc) (hA : Heap) (vm0 : Vm) (k0 : Nat) (x0 : Int64) (x2 : Int64) (x4 : Int32) (x5 : Int64) (x7 : Int64) (x9 : Int64) (x11 : Int64) (x13 : Int64) (x15 : Int64) (x17 : Int64) (x19 : Int64) (x21 : Int64) (x25 : Int32) (x26 : Int32) (x27 : Int32) (x28 : Int32) (x29 : Int32) (x30 : Int32) (x31 : Int64) (x33 : Int64) (x35 : Int32) (x36 : Int32) (x37 : Int32) (y0 : Int32) (y1 : Int32) (b0 : Addr) (u0_limit : Int64) (u0_weight : Int64) (u0_spent : Int64) (b1 : Addr) (u1_limit : Int64) (u1_weight : Int64) (u1_spent : Int64) (o : Int32), f0_252 x13 x21 x29 x30 x33 x37 y0 y1 = some o → Stand p l e room_1 (s.setVm vm0) m args below meth c T locs 8 48 → T.heap = hA → Fr n0 locs → Old Z n0 hA → Keep h0 hA [] → Z.Warmed39 vm0 → vm0.findClass (x.cls) = some m.cls → s.Since vm0 k0 → k0 ≤ hA.size → (Exa Z hA b0 (site_54.cls)) → (Fld Z hA b0 (site_54.cls) "limit" "J" (.long u0_limit)) → (Fld Z hA b0 (site_54.cls) "whole" (own_wD) .null) → (Fld Z hA b0 (site_54.cls) "weight" "J" (.long u0_weight)) → (Fld Z hA b0 (site_54.cls) "spent" "J" (.long u0_spent)) → (Exa Z hA b1 (site_54.cls)) → (Fld Z hA b1 (site_54.cls) "limit" "J" (.long u1_limit)) → (Fld Z hA b1 (site_54.cls) "whole" (own_wD) (.ref b0)) → (Fld Z hA b1 (site_54.cls) "weight" "J" (.long u1_weight)) → (Fld Z hA b1 (site_54.cls) "spent" "J" (.long u1_spent)) → (n0 ≤ b0) → (h0.size ≤ b0) → (n0 ≤ b1) → (h0.size ≤ b1) → (b0 ≠ b1) →  OwnOutW p e s below 16 2176 (Q0 Z default default default default default default h0 n0 o) (T.setTop (mkF m 252 #[.val (.long x0), .second, .val (.long x2), .second, .val (.int x4), .val (.long x5), .second, .val (.long x7), .second, .val (.long x9), .second, .val (.long x11), .second, .val (.long x13), .second, .val (.long x15), .second, .val (.long x17), .second, .val (.long x19), .second, .val (.long x21), .second, .val (.ref b0), .val (.ref b1), .val (.int x25), .val (.int x26), .val (.int x27), .val (.int x28), .val (.int x29), .val (.int x30), .val (.long x31), .second, .val (.long x33), .second, .val (.int x35), .val (.int x36), .val (.int x37)] [(.int y0), (.int y1)])) := by
    obtain ⟨hx, hw, hby, hml, hret, hlk, hnm⟩ := C
    intro T locs hA vm0 k0 x0 x2 x4 x5 x7 x9 x11 x13 x15 x17 x19 x21 x25 x26 x27 x28 x29 x30 x31 x33 x35 x36 x37 y0 y1 b0 u0_limit u0_weight u0_spent b1 u1_limit u1_weight u1_spent o hr X0 e0 N0 O0 K0 hZ hown hS0 hk0 E0 F0_limit F0_whole F0_weight F0_spent E1 F1_limit F1_whole F1_weight F1_spent g0 z0 g1 z1 ne0_1
    rw [f0_252] at hr
    by_cases hc252 : y1 = y0
    · rw [if_pos hc252] at hr
      refine OwnOutW.go (fun t k => XS.icmpNo X0.here hx rfl (hb hby at_252) rfl (XT.ii_ne_f hc252) k) ?_
      show OwnOutW p e s below 16 2176 _ (T.setTop (mkF m 255 #[.val (.long x0), .second, .val (.long x2), .second, .val (.int x4), .val (.long x5), .second, .val (.long x7), .second, .val (.long x9), .second, .val (.long x11), .second, .val (.long x13), .second, .val (.long x15), .second, .val (.long x17), .second, .val (.long x19), .second, .val (.long x21), .second, .val (.ref b0), .val (.ref b1), .val (.int x25), .val (.int x26), .val (.int x27), .val (.int x28), .val (.int x29), .val (.int x30), .val (.long x31), .second, .val (.long x33), .second, .val (.int x35), .val (.int x36), .val (.int x37)] []))
      refine OwnOutW.go (fun t k => XS.iload X0.here hx rfl (hb hby at_255) rfl k) ?_
      show OwnOutW p e s below 16 2176 _ (T.setTop (mkF m 257 #[.val (.long x0), .second, .val (.long x2), .second, .val (.int x4), .val (.long x5), .second, .val (.long x7), .second, .val (.long x9), .second, .val (.long x11), .second, .val (.long x13), .second, .val (.long x15), .second, .val (.long x17), .second, .val (.long x19), .second, .val (.long x21), .second, .val (.ref b0), .val (.ref b1), .val (.int x25), .val (.int x26), .val (.int x27), .val (.int x28), .val (.int x29), .val (.int x30), .val (.long x31), .second, .val (.long x33), .second, .val (.int x35), .val (.int x36), .val (.int x37)] [(.int x29)]))
      refine OwnOutW.go (fun t k => XS.iload X0.here hx rfl (hb hby at_257) rfl k) ?_
      show OwnOutW p e s below 16 2176 _ (T.setTop (mkF m 259 #[.val (.long x0), .second, .val (.long x2), .second, .val (.int x4), .val (.long x5), .second, .val (.long x7), .second, .val (.long x9), .second, .val (.long x11), .second, .val (.long x13), .second, .val (.long x15), .second, .val (.long x17), .second, .val (.long x19), .second, .val (.long x21), .second, .val (.ref b0), .val (.ref b1), .val (.int x25), .val (.int x26), .val (.int x27), .val (.int x28), .val (.int x29), .val (.int x30), .val (.long x31), .second, .val (.long x33), .second, .val (.int x35), .val (.int x36), .val (.int x37)] [(.int x37), (.int x29)]))
      by_cases hc259 : x29 = x37
      · rw [if_pos hc259] at hr
        refine OwnOutW.go (fun t k => XS.icmpNo X0.here hx rfl (hb hby at_259) rfl (XT.ii_ne_f hc259) k) ?_
        show OwnOutW p e s below 16 2176 _ (T.setTop (mkF m 262 #[.val (.long x0), .second, .val (.long x2), .second, .val (.int x4), .val (.long x5), .second, .val (.long x7), .second, .val (.long x9), .second, .val (.long x11), .second, .val (.long x13), .second, .val (.long x15), .second, .val (.long x17), .second, .val (.long x19), .second, .val (.long x21), .second, .val (.ref b0), .val (.ref b1), .val (.int x25), .val (.int x26), .val (.int x27), .val (.int x28), .val (.int x29), .val (.int x30), .val (.long x31), .second, .val (.long x33), .second, .val (.int x35), .val (.int x36), .val (.int x37)] []))
        refine OwnOutW.go (fun t k => XS.iload X0.here hx rfl (hb hby at_262) rfl k) ?_
        show OwnOutW p e s below 16 2176 _ (T.setTop (mkF m 264 #[.val (.long x0), .second, .val (.long x2), .second, .val (.int x4), .val (.long x5), .second, .val (.long x7), .second, .val (.long x9), .second, .val (.long x11), .second, .val (.long x13), .second, .val (.long x15), .second, .val (.long x17), .second, .val (.long x19), .second, .val (.long x21), .second, .val (.ref b0), .val (.ref b1), .val (.int x25), .val (.int x26), .val (.int x27), .val (.int x28), .val (.int x29), .val (.int x30), .val (.long x31), .second, .val (.long x33), .second, .val (.int x35), .val (.int x36), .val (.int x37)] [(.int x30)]))
        refine OwnOutW.go (fun t k => XS.lload X0.here hx rfl (hb hby at_264) rfl k) ?_
        show OwnOutW p e s below 16 2176 _ (T.setTop (mkF m 266 #[.val (.long x0), .second, .val (.long x2), .second, .val (.int x4), .val (.long x5), .second, .val (.long x7), .second, .val (.long x9), .second, .val (.long x11), .second, .val (.long x13), .second, .val (.long x15), .second, .val (.long x17), .second, .val (.long x19), .second, .val (.long x21), .second, .val (.ref b0), .val (.ref b1), .val (.int x25), .val (.int x26), .val (.int x27), .val (.int x28), .val (.int x29), .val (.int x30), .val (.long x31), .second, .val (.long x33), .second, .val (.int x35), .val (.int x36), .val (.int x37)] [(.long x33), (.int x30)]))
        refine OwnOutW.go (fun t k => XS.lload X0.here hx rfl (hb hby at_266) rfl k) ?_
        show OwnOutW p e s below 16 2176 _ (T.setTop (mkF m 268 #[.val (.long x0), .second, .val (.long x2), .second, .val (.int x4), .val (.long x5), .second, .val (.long x7), .second, .val (.long x9), .second, .val (.long x11), .second, .val (.long x13), .second, .val (.long x15), .second, .val (.long x17), .second, .val (.long x19), .second, .val (.long x21), .second, .val (.ref b0), .val (.ref b1), .val (.int x25), .val (.int x26), .val (.int x27), .val (.int x28), .val (.int x29), .val (.int x30), .val (.long x31), .second, .val (.long x33), .second, .val (.int x35), .val (.int x36), .val (.int x37)] [(.long x21), (.long x33), (.int x30)]))
        refine OwnOutW.go (fun t k => XS.ladd X0.here hx rfl (hb hby at_268) rfl k) ?_
        show OwnOutW p e s below 16 2176 _ (T.setTop (mkF m 269 #[.val (.long x0), .second, .val (.long x2), .second, .val (.int x4), .val (.long x5), .second, .val (.long x7), .second, .val (.long x9), .second, .val (.long x11), .second, .val (.long x13), .second, .val (.long x15), .second, .val (.long x17), .second, .val (.long x19), .second, .val (.long x21), .second, .val (.ref b0), .val (.ref b1), .val (.int x25), .val (.int x26), .val (.int x27), .val (.int x28), .val (.int x29), .val (.int x30), .val (.long x31), .second, .val (.long x33), .second, .val (.int x35), .val (.int x36), .val (.int x37)] [(.long (x33 + x21)), (.int x30)]))
        refine OwnOutW.go (fun t k => XS.lload X0.here hx rfl (hb hby at_269) rfl k) ?_
        show OwnOutW p e s below 16 2176 _ (T.setTop (mkF m 271 #[.val (.long x0), .second, .val (.long x2), .second, .val (.int x4), .val (.long x5), .second, .val (.long x7), .second, .val (.long x9), .second, .val (.long x11), .second, .val (.long x13), .second, .val (.long x15), .second, .val (.long x17), .second, .val (.long x19), .second, .val (.long x21), .second, .val (.ref b0), .val (.ref b1), .val (.int x25), .val (.int x26), .val (.int x27), .val (.int x28), .val (.int x29), .val (.int x30), .val (.long x31), .second, .val (.long x33), .second, .val (.int x35), .val (.int x36), .val (.int x37)] [(.long x13), (.long (x33 + x21)), (.int x30)]))
        refine OwnOutW.go (fun t k => XS.lcmp X0.here hx rfl (hb hby at_271) rfl k) ?_
        show OwnOutW p e s below 16 2176 _ (T.setTop (mkF m 272 #[.val (.long x0), .second, .val (.long x2), .second, .val (.int x4), .val (.long x5), .second, .val (.long x7), .second, .val (.long x9), .second, .val (.long x11), .second, .val (.long x13), .second, .val (.long x15), .second, .val (.long x17), .second, .val (.long x19), .second, .val (.long x21), .second, .val (.ref b0), .val (.ref b1), .val (.int x25), .val (.int x26), .val (.int x27), .val (.int x28), .val (.int x29), .val (.int x30), .val (.long x31), .second, .val (.long x33), .second, .val (.int x35), .val (.int x36), .val (.int x37)] [(.int (XT.cmpL (x33 + x21) x13)), (.int x30)]))
        by_cases hc272 : x13 < (x33 + x21)
        · rw [if_pos hc272] at hr
          refine OwnOutW.go (fun t k => XS.ifNo X0.here hx rfl (hb hby at_272) rfl (XT.ll_le_f hc272) k) ?_
          show OwnOutW p e s below 16 2176 _ (T.setTop (mkF m 275 #[.val (.long x0), .second, .val (.long x2), .second, .val (.int x4), .val (.long x5), .second, .val (.long x7), .second, .val (.long x9), .second, .val (.long x11), .second, .val (.long x13), .second, .val (.long x15), .second, .val (.long x17), .second, .val (.long x19), .second, .val (.long x21), .second, .val (.ref b0), .val (.ref b1), .val (.int x25), .val (.int x26), .val (.int x27), .val (.int x28), .val (.int x29), .val (.int x30), .val (.long x31), .second, .val (.long x33), .second, .val (.int x35), .val (.int x36), .val (.int x37)] [(.int x30)]))
          refine OwnOutW.go (fun t k => XT.iconstV X0.here hx rfl (1 : Int32) (hb hby at_275) rfl k) ?_
          show OwnOutW p e s below 16 2176 _ (T.setTop (mkF m 276 #[.val (.long x0), .second, .val (.long x2), .second, .val (.int x4), .val (.long x5), .second, .val (.long x7), .second, .val (.long x9), .second, .val (.long x11), .second, .val (.long x13), .second, .val (.long x15), .second, .val (.long x17), .second, .val (.long x19), .second, .val (.long x21), .second, .val (.ref b0), .val (.ref b1), .val (.int x25), .val (.int x26), .val (.int x27), .val (.int x28), .val (.int x29), .val (.int x30), .val (.long x31), .second, .val (.long x33), .second, .val (.int x35), .val (.int x36), .val (.int x37)] [(.int (1 : Int32)), (.int x30)]))
          refine OwnOutW.go (fun t k => XS.goto X0.here hx rfl (pc0 := 276) (pc' := 280) rfl (hb hby at_276) (by decide) (by decide) k) ?_
          show OwnOutW p e s below 16 2176 _ (T.setTop (mkF m 280 #[.val (.long x0), .second, .val (.long x2), .second, .val (.int x4), .val (.long x5), .second, .val (.long x7), .second, .val (.long x9), .second, .val (.long x11), .second, .val (.long x13), .second, .val (.long x15), .second, .val (.long x17), .second, .val (.long x19), .second, .val (.long x21), .second, .val (.ref b0), .val (.ref b1), .val (.int x25), .val (.int x26), .val (.int x27), .val (.int x28), .val (.int x29), .val (.int x30), .val (.long x31), .second, .val (.long x33), .second, .val (.int x35), .val (.int x36), .val (.int x37)] [(.int (1 : Int32)), (.int x30)]))
          exact w0_280 ⟨hx, hw, hby, hml, hret, hlk, hnm⟩  _ _ _ _ _ x0 x2 x4 x5 x7 x9 x11 x13 x15 x17 x19 x21 x25 x26 x27 x28 x29 x30 x31 x33 x35 x36 x37 (1 : Int32) x30 b0 u0_limit u0_weight u0_spent b1 u1_limit u1_weight u1_spent _ hr X0 e0 N0 O0 K0 hZ hown hS0 hk0 E0 F0_limit F0_whole F0_weight F0_spent E1 F1_limit F1_whole F1_weight F1_spent g0 z0 g1 z1 ne0_1
        · rw [if_neg hc272] at hr
          refine OwnOutW.go (fun t k => XS.ifYes X0.here hx rfl (pc0 := 272) (pc' := 279) rfl (hb hby at_272) rfl (XT.ll_le_t hc272) (by decide) (by decide) k) ?_
          show OwnOutW p e s below 16 2176 _ (T.setTop (mkF m 279 #[.val (.long x0), .second, .val (.long x2), .second, .val (.int x4), .val (.long x5), .second, .val (.long x7), .second, .val (.long x9), .second, .val (.long x11), .second, .val (.long x13), .second, .val (.long x15), .second, .val (.long x17), .second, .val (.long x19), .second, .val (.long x21), .second, .val (.ref b0), .val (.ref b1), .val (.int x25), .val (.int x26), .val (.int x27), .val (.int x28), .val (.int x29), .val (.int x30), .val (.long x31), .second, .val (.long x33), .second, .val (.int x35), .val (.int x36), .val (.int x37)] [(.int x30)]))
          refine OwnOutW.go (fun t k => XT.iconstV X0.here hx rfl (0 : Int32) (hb hby at_279) rfl k) ?_
          show OwnOutW p e s below 16 2176 _ (T.setTop (mkF m 280 #[.val (.long x0), .second, .val (.long x2), .second, .val (.int x4), .val (.long x5), .second, .val (.long x7), .second, .val (.long x9), .second, .val (.long x11), .second, .val (.long x13), .second, .val (.long x15), .second, .val (.long x17), .second, .val (.long x19), .second, .val (.long x21), .second, .val (.ref b0), .val (.ref b1), .val (.int x25), .val (.int x26), .val (.int x27), .val (.int x28), .val (.int x29), .val (.int x30), .val (.long x31), .second, .val (.long x33), .second, .val (.int x35), .val (.int x36), .val (.int x37)] [(.int (0 : Int32)), (.int x30)]))
          exact w0_280 ⟨hx, hw, hby, hml, hret, hlk, hnm⟩  _ _ _ _ _ x0 x2 x4 x5 x7 x9 x11 x13 x15 x17 x19 x21 x25 x26 x27 x28 x29 x30 x31 x33 x35 x36 x37 (0 : Int32) x30 b0 u0_limit u0_weight u0_spent b1 u1_limit u1_weight u1_spent _ hr X0 e0 N0 O0 K0 hZ hown hS0 hk0 E0 F0_limit F0_whole F0_weight F0_spent E1 F1_limit F1_whole F1_weight F1_spent g0 z0 g1 z1 ne0_1
      · rw [if_neg hc259] at hr
        refine OwnOutW.go (fun t k => XS.icmpYes X0.here hx rfl (pc0 := 259) (pc' := 287) rfl (hb hby at_259) rfl (XT.ii_ne_t hc259) (by decide) (by decide) k) ?_
        show OwnOutW p e s below 16 2176 _ (T.setTop (mkF m 287 #[.val (.long x0), .second, .val (.long x2), .second, .val (.int x4), .val (.long x5), .second, .val (.long x7), .second, .val (.long x9), .second, .val (.long x11), .second, .val (.long x13), .second, .val (.long x15), .second, .val (.long x17), .second, .val (.long x19), .second, .val (.long x21), .second, .val (.ref b0), .val (.ref b1), .val (.int x25), .val (.int x26), .val (.int x27), .val (.int x28), .val (.int x29), .val (.int x30), .val (.long x31), .second, .val (.long x33), .second, .val (.int x35), .val (.int x36), .val (.int x37)] []))
        refine OwnOutW.go (fun t k => XT.iconstV X0.here hx rfl (0 : Int32) (hb hby at_287) rfl k) ?_
        show OwnOutW p e s below 16 2176 _ (T.setTop (mkF m 288 #[.val (.long x0), .second, .val (.long x2), .second, .val (.int x4), .val (.long x5), .second, .val (.long x7), .second, .val (.long x9), .second, .val (.long x11), .second, .val (.long x13), .second, .val (.long x15), .second, .val (.long x17), .second, .val (.long x19), .second, .val (.long x21), .second, .val (.ref b0), .val (.ref b1), .val (.int x25), .val (.int x26), .val (.int x27), .val (.int x28), .val (.int x29), .val (.int x30), .val (.long x31), .second, .val (.long x33), .second, .val (.int x35), .val (.int x36), .val (.int x37)] [(.int (0 : Int32))]))
        cases hr
        exact outZW X0 hS0 (by rw [e0]; exact hk0) hx hret (hb hby at_288) hlk (by decide) (by decide) ⟨rfl, N0⟩
    · rw [if_neg hc252] at hr
      refine OwnOutW.go (fun t k => XS.icmpYes X0.here hx rfl (pc0 := 252) (pc' := 287) rfl (hb hby at_252) rfl (XT.ii_ne_t hc252) (by decide) (by decide) k) ?_
      show OwnOutW p e s below 16 2176 _ (T.setTop (mkF m 287 #[.val (.long x0), .second, .val (.long x2), .second, .val (.int x4), .val (.long x5), .second, .val (.long x7), .second, .val (.long x9), .second, .val (.long x11), .second, .val (.long x13), .second, .val (.long x15), .second, .val (.long x17), .second, .val (.long x19), .second, .val (.long x21), .second, .val (.ref b0), .val (.ref b1), .val (.int x25), .val (.int x26), .val (.int x27), .val (.int x28), .val (.int x29), .val (.int x30), .val (.long x31), .second, .val (.long x33), .second, .val (.int x35), .val (.int x36), .val (.int x37)] []))
      refine OwnOutW.go (fun t k => XT.iconstV X0.here hx rfl (0 : Int32) (hb hby at_287) rfl k) ?_
      show OwnOutW p e s below 16 2176 _ (T.setTop (mkF m 288 #[.val (.long x0), .second, .val (.long x2), .second, .val (.int x4), .val (.long x5), .second, .val (.long x7), .second, .val (.long x9), .second, .val (.long x11), .second, .val (.long x13), .second, .val (.long x15), .second, .val (.long x17), .second, .val (.long x19), .second, .val (.long x21), .second, .val (.ref b0), .val (.ref b1), .val (.int x25), .val (.int x26), .val (.int x27), .val (.int x28), .val (.int x29), .val (.int x30), .val (.long x31), .second, .val (.long x33), .second, .val (.int x35), .val (.int x36), .val (.int x37)] [(.int (0 : Int32))]))
      cases hr
      exact outZW X0 hS0 (by rw [e0]; exact hk0) hx hret (hb hby at_288) hlk (by decide) (by decide) ⟨rfl, N0⟩
def f0_234 (x13 : Int64) (x21 : Int64) (x28 : Int32) (x29 : Int32) (x30 : Int32) (x33 : Int64) (x37 : Int32) (y0 : Int32) (y1 : Int32) : Option (Int32) := (if y1 = y0 then (if x13 < x33 then (f0_252 x13 x21 x29 x30 x33 x37 (1 : Int32) x28) else (f0_252 x13 x21 x29 x30 x33 x37 (0 : Int32) x28)) else some ((0 : Int32)))
set_option maxRecDepth 65536 in
set_option maxHeartbeats 40000000 in
theorem w0_234 {p : Program} {l : Launch} {e : Env} {s : State} {m : MethodId} {args : Array Value} {below : List Frame} {meth : Method} {c : Code} {Z : State} {a0 : Array Value} {h0 : Heap} {n0 : Nat} (C : Cx0 Z a0 p s m meth c) :
    ∀ (T : State) (locs : List Loc) (hA : Heap) (vm0 : Vm) (k0 : Nat) (x0 : Int64) (x2 : Int64) (x4 : Int32) (x5 : Int64) (x7 : Int64) (x9 : Int64) (x11 : Int64) (x13 : Int64) (x15 : Int64) (x17 : Int64) (x19 : Int64) (x21 : Int64) (x25 : Int32) (x26 : Int32) (x27 : Int32) (x28 : Int32) (x29 : Int32) (x30 : Int32) (x31 : Int64) (x33 : Int64) (x35 : Int32) (x36 : Int32) (x37 : Int32) (y0 : Int32) (y1 : Int32) (b0 : Addr) (u0_limit : Int64) (u0_weight : Int64) (u0_spent : Int64) (b1 : Addr) (u1_limit : Int64) (u1_weight : Int64) (u1_spent : Int64) (o : Int32), f0_234 x13 x21 x28 x29 x30 x33 x37 y0 y1 = some o → Stand p l e room_1 (s.setVm vm0) m args below meth c T locs 8 48 → T.heap = hA → Fr n0 locs → Old Z n0 hA → Keep h0 hA [] → Z.Warmed39 vm0 → vm0.findClass (x.cls) = some m.cls → s.Since vm0 k0 → k0 ≤ hA.size → (Exa Z hA b0 (site_54.cls)) → (Fld Z hA b0 (site_54.cls) "limit" "J" (.long u0_limit)) → (Fld Z hA b0 (site_54.cls) "whole" (own_wD) .null) → (Fld Z hA b0 (site_54.cls) "weight" "J" (.long u0_weight)) → (Fld Z hA b0 (site_54.cls) "spent" "J" (.long u0_spent)) → (Exa Z hA b1 (site_54.cls)) → (Fld Z hA b1 (site_54.cls) "limit" "J" (.long u1_limit)) → (Fld Z hA b1 (site_54.cls) "whole" (own_wD) (.ref b0)) → (Fld Z hA b1 (site_54.cls) "weight" "J" (.long u1_weight)) → (Fld Z hA b1 (site_54.cls) "spent" "J" (.long u1_spent)) → (n0 ≤ b0) → (h0.size ≤ b0) → (n0 ≤ b1) → (h0.size ≤ b1) → (b0 ≠ b1) →  OwnOutW p e s below 16 2176 (Q0 Z default default default default default default h0 n0 o) (T.setTop (mkF m 234 #[.val (.long x0), .second, .val (.long x2), .second, .val (.int x4), .val (.long x5), .second, .val (.long x7), .second, .val (.long x9), .second, .val (.long x11), .second, .val (.long x13), .second, .val (.long x15), .second, .val (.long x17), .second, .val (.long x19), .second, .val (.long x21), .second, .val (.ref b0), .val (.ref b1), .val (.int x25), .val (.int x26), .val (.int x27), .val (.int x28), .val (.int x29), .val (.int x30), .val (.long x31), .second, .val (.long x33), .second, .val (.int x35), .val (.int x36), .val (.int x37)] [(.int y0), (.int y1)])) := by
    obtain ⟨hx, hw, hby, hml, hret, hlk, hnm⟩ := C
    intro T locs hA vm0 k0 x0 x2 x4 x5 x7 x9 x11 x13 x15 x17 x19 x21 x25 x26 x27 x28 x29 x30 x31 x33 x35 x36 x37 y0 y1 b0 u0_limit u0_weight u0_spent b1 u1_limit u1_weight u1_spent o hr X0 e0 N0 O0 K0 hZ hown hS0 hk0 E0 F0_limit F0_whole F0_weight F0_spent E1 F1_limit F1_whole F1_weight F1_spent g0 z0 g1 z1 ne0_1
    rw [f0_234] at hr
    by_cases hc234 : y1 = y0
    · rw [if_pos hc234] at hr
      refine OwnOutW.go (fun t k => XS.icmpNo X0.here hx rfl (hb hby at_234) rfl (XT.ii_ne_f hc234) k) ?_
      show OwnOutW p e s below 16 2176 _ (T.setTop (mkF m 237 #[.val (.long x0), .second, .val (.long x2), .second, .val (.int x4), .val (.long x5), .second, .val (.long x7), .second, .val (.long x9), .second, .val (.long x11), .second, .val (.long x13), .second, .val (.long x15), .second, .val (.long x17), .second, .val (.long x19), .second, .val (.long x21), .second, .val (.ref b0), .val (.ref b1), .val (.int x25), .val (.int x26), .val (.int x27), .val (.int x28), .val (.int x29), .val (.int x30), .val (.long x31), .second, .val (.long x33), .second, .val (.int x35), .val (.int x36), .val (.int x37)] []))
      refine OwnOutW.go (fun t k => XS.iload X0.here hx rfl (hb hby at_237) rfl k) ?_
      show OwnOutW p e s below 16 2176 _ (T.setTop (mkF m 239 #[.val (.long x0), .second, .val (.long x2), .second, .val (.int x4), .val (.long x5), .second, .val (.long x7), .second, .val (.long x9), .second, .val (.long x11), .second, .val (.long x13), .second, .val (.long x15), .second, .val (.long x17), .second, .val (.long x19), .second, .val (.long x21), .second, .val (.ref b0), .val (.ref b1), .val (.int x25), .val (.int x26), .val (.int x27), .val (.int x28), .val (.int x29), .val (.int x30), .val (.long x31), .second, .val (.long x33), .second, .val (.int x35), .val (.int x36), .val (.int x37)] [(.int x28)]))
      refine OwnOutW.go (fun t k => XS.lload X0.here hx rfl (hb hby at_239) rfl k) ?_
      show OwnOutW p e s below 16 2176 _ (T.setTop (mkF m 241 #[.val (.long x0), .second, .val (.long x2), .second, .val (.int x4), .val (.long x5), .second, .val (.long x7), .second, .val (.long x9), .second, .val (.long x11), .second, .val (.long x13), .second, .val (.long x15), .second, .val (.long x17), .second, .val (.long x19), .second, .val (.long x21), .second, .val (.ref b0), .val (.ref b1), .val (.int x25), .val (.int x26), .val (.int x27), .val (.int x28), .val (.int x29), .val (.int x30), .val (.long x31), .second, .val (.long x33), .second, .val (.int x35), .val (.int x36), .val (.int x37)] [(.long x33), (.int x28)]))
      refine OwnOutW.go (fun t k => XS.lload X0.here hx rfl (hb hby at_241) rfl k) ?_
      show OwnOutW p e s below 16 2176 _ (T.setTop (mkF m 243 #[.val (.long x0), .second, .val (.long x2), .second, .val (.int x4), .val (.long x5), .second, .val (.long x7), .second, .val (.long x9), .second, .val (.long x11), .second, .val (.long x13), .second, .val (.long x15), .second, .val (.long x17), .second, .val (.long x19), .second, .val (.long x21), .second, .val (.ref b0), .val (.ref b1), .val (.int x25), .val (.int x26), .val (.int x27), .val (.int x28), .val (.int x29), .val (.int x30), .val (.long x31), .second, .val (.long x33), .second, .val (.int x35), .val (.int x36), .val (.int x37)] [(.long x13), (.long x33), (.int x28)]))
      refine OwnOutW.go (fun t k => XS.lcmp X0.here hx rfl (hb hby at_243) rfl k) ?_
      show OwnOutW p e s below 16 2176 _ (T.setTop (mkF m 244 #[.val (.long x0), .second, .val (.long x2), .second, .val (.int x4), .val (.long x5), .second, .val (.long x7), .second, .val (.long x9), .second, .val (.long x11), .second, .val (.long x13), .second, .val (.long x15), .second, .val (.long x17), .second, .val (.long x19), .second, .val (.long x21), .second, .val (.ref b0), .val (.ref b1), .val (.int x25), .val (.int x26), .val (.int x27), .val (.int x28), .val (.int x29), .val (.int x30), .val (.long x31), .second, .val (.long x33), .second, .val (.int x35), .val (.int x36), .val (.int x37)] [(.int (XT.cmpL x33 x13)), (.int x28)]))
      by_cases hc244 : x13 < x33
      · rw [if_pos hc244] at hr
        refine OwnOutW.go (fun t k => XS.ifNo X0.here hx rfl (hb hby at_244) rfl (XT.ll_le_f hc244) k) ?_
        show OwnOutW p e s below 16 2176 _ (T.setTop (mkF m 247 #[.val (.long x0), .second, .val (.long x2), .second, .val (.int x4), .val (.long x5), .second, .val (.long x7), .second, .val (.long x9), .second, .val (.long x11), .second, .val (.long x13), .second, .val (.long x15), .second, .val (.long x17), .second, .val (.long x19), .second, .val (.long x21), .second, .val (.ref b0), .val (.ref b1), .val (.int x25), .val (.int x26), .val (.int x27), .val (.int x28), .val (.int x29), .val (.int x30), .val (.long x31), .second, .val (.long x33), .second, .val (.int x35), .val (.int x36), .val (.int x37)] [(.int x28)]))
        refine OwnOutW.go (fun t k => XT.iconstV X0.here hx rfl (1 : Int32) (hb hby at_247) rfl k) ?_
        show OwnOutW p e s below 16 2176 _ (T.setTop (mkF m 248 #[.val (.long x0), .second, .val (.long x2), .second, .val (.int x4), .val (.long x5), .second, .val (.long x7), .second, .val (.long x9), .second, .val (.long x11), .second, .val (.long x13), .second, .val (.long x15), .second, .val (.long x17), .second, .val (.long x19), .second, .val (.long x21), .second, .val (.ref b0), .val (.ref b1), .val (.int x25), .val (.int x26), .val (.int x27), .val (.int x28), .val (.int x29), .val (.int x30), .val (.long x31), .second, .val (.long x33), .second, .val (.int x35), .val (.int x36), .val (.int x37)] [(.int (1 : Int32)), (.int x28)]))
        refine OwnOutW.go (fun t k => XS.goto X0.here hx rfl (pc0 := 248) (pc' := 252) rfl (hb hby at_248) (by decide) (by decide) k) ?_
        show OwnOutW p e s below 16 2176 _ (T.setTop (mkF m 252 #[.val (.long x0), .second, .val (.long x2), .second, .val (.int x4), .val (.long x5), .second, .val (.long x7), .second, .val (.long x9), .second, .val (.long x11), .second, .val (.long x13), .second, .val (.long x15), .second, .val (.long x17), .second, .val (.long x19), .second, .val (.long x21), .second, .val (.ref b0), .val (.ref b1), .val (.int x25), .val (.int x26), .val (.int x27), .val (.int x28), .val (.int x29), .val (.int x30), .val (.long x31), .second, .val (.long x33), .second, .val (.int x35), .val (.int x36), .val (.int x37)] [(.int (1 : Int32)), (.int x28)]))
        exact w0_252 ⟨hx, hw, hby, hml, hret, hlk, hnm⟩  _ _ _ _ _ x0 x2 x4 x5 x7 x9 x11 x13 x15 x17 x19 x21 x25 x26 x27 x28 x29 x30 x31 x33 x35 x36 x37 (1 : Int32) x28 b0 u0_limit u0_weight u0_spent b1 u1_limit u1_weight u1_spent _ hr X0 e0 N0 O0 K0 hZ hown hS0 hk0 E0 F0_limit F0_whole F0_weight F0_spent E1 F1_limit F1_whole F1_weight F1_spent g0 z0 g1 z1 ne0_1
      · rw [if_neg hc244] at hr
        refine OwnOutW.go (fun t k => XS.ifYes X0.here hx rfl (pc0 := 244) (pc' := 251) rfl (hb hby at_244) rfl (XT.ll_le_t hc244) (by decide) (by decide) k) ?_
        show OwnOutW p e s below 16 2176 _ (T.setTop (mkF m 251 #[.val (.long x0), .second, .val (.long x2), .second, .val (.int x4), .val (.long x5), .second, .val (.long x7), .second, .val (.long x9), .second, .val (.long x11), .second, .val (.long x13), .second, .val (.long x15), .second, .val (.long x17), .second, .val (.long x19), .second, .val (.long x21), .second, .val (.ref b0), .val (.ref b1), .val (.int x25), .val (.int x26), .val (.int x27), .val (.int x28), .val (.int x29), .val (.int x30), .val (.long x31), .second, .val (.long x33), .second, .val (.int x35), .val (.int x36), .val (.int x37)] [(.int x28)]))
        refine OwnOutW.go (fun t k => XT.iconstV X0.here hx rfl (0 : Int32) (hb hby at_251) rfl k) ?_
        show OwnOutW p e s below 16 2176 _ (T.setTop (mkF m 252 #[.val (.long x0), .second, .val (.long x2), .second, .val (.int x4), .val (.long x5), .second, .val (.long x7), .second, .val (.long x9), .second, .val (.long x11), .second, .val (.long x13), .second, .val (.long x15), .second, .val (.long x17), .second, .val (.long x19), .second, .val (.long x21), .second, .val (.ref b0), .val (.ref b1), .val (.int x25), .val (.int x26), .val (.int x27), .val (.int x28), .val (.int x29), .val (.int x30), .val (.long x31), .second, .val (.long x33), .second, .val (.int x35), .val (.int x36), .val (.int x37)] [(.int (0 : Int32)), (.int x28)]))
        exact w0_252 ⟨hx, hw, hby, hml, hret, hlk, hnm⟩  _ _ _ _ _ x0 x2 x4 x5 x7 x9 x11 x13 x15 x17 x19 x21 x25 x26 x27 x28 x29 x30 x31 x33 x35 x36 x37 (0 : Int32) x28 b0 u0_limit u0_weight u0_spent b1 u1_limit u1_weight u1_spent _ hr X0 e0 N0 O0 K0 hZ hown hS0 hk0 E0 F0_limit F0_whole F0_weight F0_spent E1 F1_limit F1_whole F1_weight F1_spent g0 z0 g1 z1 ne0_1
    · rw [if_neg hc234] at hr
      refine OwnOutW.go (fun t k => XS.icmpYes X0.here hx rfl (pc0 := 234) (pc' := 287) rfl (hb hby at_234) rfl (XT.ii_ne_t hc234) (by decide) (by decide) k) ?_
      show OwnOutW p e s below 16 2176 _ (T.setTop (mkF m 287 #[.val (.long x0), .second, .val (.long x2), .second, .val (.int x4), .val (.long x5), .second, .val (.long x7), .second, .val (.long x9), .second, .val (.long x11), .second, .val (.long x13), .second, .val (.long x15), .second, .val (.long x17), .second, .val (.long x19), .second, .val (.long x21), .second, .val (.ref b0), .val (.ref b1), .val (.int x25), .val (.int x26), .val (.int x27), .val (.int x28), .val (.int x29), .val (.int x30), .val (.long x31), .second, .val (.long x33), .second, .val (.int x35), .val (.int x36), .val (.int x37)] []))
      refine OwnOutW.go (fun t k => XT.iconstV X0.here hx rfl (0 : Int32) (hb hby at_287) rfl k) ?_
      show OwnOutW p e s below 16 2176 _ (T.setTop (mkF m 288 #[.val (.long x0), .second, .val (.long x2), .second, .val (.int x4), .val (.long x5), .second, .val (.long x7), .second, .val (.long x9), .second, .val (.long x11), .second, .val (.long x13), .second, .val (.long x15), .second, .val (.long x17), .second, .val (.long x19), .second, .val (.long x21), .second, .val (.ref b0), .val (.ref b1), .val (.int x25), .val (.int x26), .val (.int x27), .val (.int x28), .val (.int x29), .val (.int x30), .val (.long x31), .second, .val (.long x33), .second, .val (.int x35), .val (.int x36), .val (.int x37)] [(.int (0 : Int32))]))
      cases hr
      exact outZW X0 hS0 (by rw [e0]; exact hk0) hx hret (hb hby at_288) hlk (by decide) (by decide) ⟨rfl, N0⟩
def f0_203 (x11 : Int64) (x13 : Int64) (x21 : Int64) (x25 : Int32) (x26 : Int32) (x27 : Int32) (x28 : Int32) (x29 : Int32) (x30 : Int32) (x31 : Int64) (x33 : Int64) (x35 : Int32) (x36 : Int32) (y0 : Int32) : Option (Int32) := (if x25 = x35 then (if x26 = x36 then (if x11 < x31 then (f0_234 x13 x21 x28 x29 x30 x33 y0 (1 : Int32) x27) else (f0_234 x13 x21 x28 x29 x30 x33 y0 (0 : Int32) x27)) else some ((0 : Int32))) else some ((0 : Int32)))
set_option maxRecDepth 65536 in
set_option maxHeartbeats 40000000 in
theorem w0_203 {p : Program} {l : Launch} {e : Env} {s : State} {m : MethodId} {args : Array Value} {below : List Frame} {meth : Method} {c : Code} {Z : State} {a0 : Array Value} {h0 : Heap} {n0 : Nat} (C : Cx0 Z a0 p s m meth c) :
    ∀ (T : State) (locs : List Loc) (hA : Heap) (vm0 : Vm) (k0 : Nat) (x0 : Int64) (x2 : Int64) (x4 : Int32) (x5 : Int64) (x7 : Int64) (x9 : Int64) (x11 : Int64) (x13 : Int64) (x15 : Int64) (x17 : Int64) (x19 : Int64) (x21 : Int64) (x25 : Int32) (x26 : Int32) (x27 : Int32) (x28 : Int32) (x29 : Int32) (x30 : Int32) (x31 : Int64) (x33 : Int64) (x35 : Int32) (x36 : Int32) (y0 : Int32) (b0 : Addr) (u0_limit : Int64) (u0_weight : Int64) (u0_spent : Int64) (b1 : Addr) (u1_limit : Int64) (u1_weight : Int64) (u1_spent : Int64) (o : Int32), f0_203 x11 x13 x21 x25 x26 x27 x28 x29 x30 x31 x33 x35 x36 y0 = some o → Stand p l e room_1 (s.setVm vm0) m args below meth c T locs 8 48 → T.heap = hA → Fr n0 locs → Old Z n0 hA → Keep h0 hA [] → Z.Warmed39 vm0 → vm0.findClass (x.cls) = some m.cls → s.Since vm0 k0 → k0 ≤ hA.size → (Exa Z hA b0 (site_54.cls)) → (Fld Z hA b0 (site_54.cls) "limit" "J" (.long u0_limit)) → (Fld Z hA b0 (site_54.cls) "whole" (own_wD) .null) → (Fld Z hA b0 (site_54.cls) "weight" "J" (.long u0_weight)) → (Fld Z hA b0 (site_54.cls) "spent" "J" (.long u0_spent)) → (Exa Z hA b1 (site_54.cls)) → (Fld Z hA b1 (site_54.cls) "limit" "J" (.long u1_limit)) → (Fld Z hA b1 (site_54.cls) "whole" (own_wD) (.ref b0)) → (Fld Z hA b1 (site_54.cls) "weight" "J" (.long u1_weight)) → (Fld Z hA b1 (site_54.cls) "spent" "J" (.long u1_spent)) → (n0 ≤ b0) → (h0.size ≤ b0) → (n0 ≤ b1) → (h0.size ≤ b1) → (b0 ≠ b1) →  OwnOutW p e s below 16 2176 (Q0 Z default default default default default default h0 n0 o) (T.setTop (mkF m 203 #[.val (.long x0), .second, .val (.long x2), .second, .val (.int x4), .val (.long x5), .second, .val (.long x7), .second, .val (.long x9), .second, .val (.long x11), .second, .val (.long x13), .second, .val (.long x15), .second, .val (.long x17), .second, .val (.long x19), .second, .val (.long x21), .second, .val (.ref b0), .val (.ref b1), .val (.int x25), .val (.int x26), .val (.int x27), .val (.int x28), .val (.int x29), .val (.int x30), .val (.long x31), .second, .val (.long x33), .second, .val (.int x35), .val (.int x36), .unset] [(.int y0)])) := by
    obtain ⟨hx, hw, hby, hml, hret, hlk, hnm⟩ := C
    intro T locs hA vm0 k0 x0 x2 x4 x5 x7 x9 x11 x13 x15 x17 x19 x21 x25 x26 x27 x28 x29 x30 x31 x33 x35 x36 y0 b0 u0_limit u0_weight u0_spent b1 u1_limit u1_weight u1_spent o hr X0 e0 N0 O0 K0 hZ hown hS0 hk0 E0 F0_limit F0_whole F0_weight F0_spent E1 F1_limit F1_whole F1_weight F1_spent g0 z0 g1 z1 ne0_1
    rw [f0_203] at hr
    refine OwnOutW.go (fun t k => XS.istore X0.here hx rfl (hb hby at_203) rfl (l' := #[.val (.long x0), .second, .val (.long x2), .second, .val (.int x4), .val (.long x5), .second, .val (.long x7), .second, .val (.long x9), .second, .val (.long x11), .second, .val (.long x13), .second, .val (.long x15), .second, .val (.long x17), .second, .val (.long x19), .second, .val (.long x21), .second, .val (.ref b0), .val (.ref b1), .val (.int x25), .val (.int x26), .val (.int x27), .val (.int x28), .val (.int x29), .val (.int x30), .val (.long x31), .second, .val (.long x33), .second, .val (.int x35), .val (.int x36), .val (.int y0)]) rfl k) ?_
    show OwnOutW p e s below 16 2176 _ (T.setTop (mkF m 205 #[.val (.long x0), .second, .val (.long x2), .second, .val (.int x4), .val (.long x5), .second, .val (.long x7), .second, .val (.long x9), .second, .val (.long x11), .second, .val (.long x13), .second, .val (.long x15), .second, .val (.long x17), .second, .val (.long x19), .second, .val (.long x21), .second, .val (.ref b0), .val (.ref b1), .val (.int x25), .val (.int x26), .val (.int x27), .val (.int x28), .val (.int x29), .val (.int x30), .val (.long x31), .second, .val (.long x33), .second, .val (.int x35), .val (.int x36), .val (.int y0)] []))
    refine OwnOutW.go (fun t k => XS.iload X0.here hx rfl (hb hby at_205) rfl k) ?_
    show OwnOutW p e s below 16 2176 _ (T.setTop (mkF m 207 #[.val (.long x0), .second, .val (.long x2), .second, .val (.int x4), .val (.long x5), .second, .val (.long x7), .second, .val (.long x9), .second, .val (.long x11), .second, .val (.long x13), .second, .val (.long x15), .second, .val (.long x17), .second, .val (.long x19), .second, .val (.long x21), .second, .val (.ref b0), .val (.ref b1), .val (.int x25), .val (.int x26), .val (.int x27), .val (.int x28), .val (.int x29), .val (.int x30), .val (.long x31), .second, .val (.long x33), .second, .val (.int x35), .val (.int x36), .val (.int y0)] [(.int x25)]))
    refine OwnOutW.go (fun t k => XS.iload X0.here hx rfl (hb hby at_207) rfl k) ?_
    show OwnOutW p e s below 16 2176 _ (T.setTop (mkF m 209 #[.val (.long x0), .second, .val (.long x2), .second, .val (.int x4), .val (.long x5), .second, .val (.long x7), .second, .val (.long x9), .second, .val (.long x11), .second, .val (.long x13), .second, .val (.long x15), .second, .val (.long x17), .second, .val (.long x19), .second, .val (.long x21), .second, .val (.ref b0), .val (.ref b1), .val (.int x25), .val (.int x26), .val (.int x27), .val (.int x28), .val (.int x29), .val (.int x30), .val (.long x31), .second, .val (.long x33), .second, .val (.int x35), .val (.int x36), .val (.int y0)] [(.int x35), (.int x25)]))
    by_cases hc209 : x25 = x35
    · rw [if_pos hc209] at hr
      refine OwnOutW.go (fun t k => XS.icmpNo X0.here hx rfl (hb hby at_209) rfl (XT.ii_ne_f hc209) k) ?_
      show OwnOutW p e s below 16 2176 _ (T.setTop (mkF m 212 #[.val (.long x0), .second, .val (.long x2), .second, .val (.int x4), .val (.long x5), .second, .val (.long x7), .second, .val (.long x9), .second, .val (.long x11), .second, .val (.long x13), .second, .val (.long x15), .second, .val (.long x17), .second, .val (.long x19), .second, .val (.long x21), .second, .val (.ref b0), .val (.ref b1), .val (.int x25), .val (.int x26), .val (.int x27), .val (.int x28), .val (.int x29), .val (.int x30), .val (.long x31), .second, .val (.long x33), .second, .val (.int x35), .val (.int x36), .val (.int y0)] []))
      refine OwnOutW.go (fun t k => XS.iload X0.here hx rfl (hb hby at_212) rfl k) ?_
      show OwnOutW p e s below 16 2176 _ (T.setTop (mkF m 214 #[.val (.long x0), .second, .val (.long x2), .second, .val (.int x4), .val (.long x5), .second, .val (.long x7), .second, .val (.long x9), .second, .val (.long x11), .second, .val (.long x13), .second, .val (.long x15), .second, .val (.long x17), .second, .val (.long x19), .second, .val (.long x21), .second, .val (.ref b0), .val (.ref b1), .val (.int x25), .val (.int x26), .val (.int x27), .val (.int x28), .val (.int x29), .val (.int x30), .val (.long x31), .second, .val (.long x33), .second, .val (.int x35), .val (.int x36), .val (.int y0)] [(.int x26)]))
      refine OwnOutW.go (fun t k => XS.iload X0.here hx rfl (hb hby at_214) rfl k) ?_
      show OwnOutW p e s below 16 2176 _ (T.setTop (mkF m 216 #[.val (.long x0), .second, .val (.long x2), .second, .val (.int x4), .val (.long x5), .second, .val (.long x7), .second, .val (.long x9), .second, .val (.long x11), .second, .val (.long x13), .second, .val (.long x15), .second, .val (.long x17), .second, .val (.long x19), .second, .val (.long x21), .second, .val (.ref b0), .val (.ref b1), .val (.int x25), .val (.int x26), .val (.int x27), .val (.int x28), .val (.int x29), .val (.int x30), .val (.long x31), .second, .val (.long x33), .second, .val (.int x35), .val (.int x36), .val (.int y0)] [(.int x36), (.int x26)]))
      by_cases hc216 : x26 = x36
      · rw [if_pos hc216] at hr
        refine OwnOutW.go (fun t k => XS.icmpNo X0.here hx rfl (hb hby at_216) rfl (XT.ii_ne_f hc216) k) ?_
        show OwnOutW p e s below 16 2176 _ (T.setTop (mkF m 219 #[.val (.long x0), .second, .val (.long x2), .second, .val (.int x4), .val (.long x5), .second, .val (.long x7), .second, .val (.long x9), .second, .val (.long x11), .second, .val (.long x13), .second, .val (.long x15), .second, .val (.long x17), .second, .val (.long x19), .second, .val (.long x21), .second, .val (.ref b0), .val (.ref b1), .val (.int x25), .val (.int x26), .val (.int x27), .val (.int x28), .val (.int x29), .val (.int x30), .val (.long x31), .second, .val (.long x33), .second, .val (.int x35), .val (.int x36), .val (.int y0)] []))
        refine OwnOutW.go (fun t k => XS.iload X0.here hx rfl (hb hby at_219) rfl k) ?_
        show OwnOutW p e s below 16 2176 _ (T.setTop (mkF m 221 #[.val (.long x0), .second, .val (.long x2), .second, .val (.int x4), .val (.long x5), .second, .val (.long x7), .second, .val (.long x9), .second, .val (.long x11), .second, .val (.long x13), .second, .val (.long x15), .second, .val (.long x17), .second, .val (.long x19), .second, .val (.long x21), .second, .val (.ref b0), .val (.ref b1), .val (.int x25), .val (.int x26), .val (.int x27), .val (.int x28), .val (.int x29), .val (.int x30), .val (.long x31), .second, .val (.long x33), .second, .val (.int x35), .val (.int x36), .val (.int y0)] [(.int x27)]))
        refine OwnOutW.go (fun t k => XS.lload X0.here hx rfl (hb hby at_221) rfl k) ?_
        show OwnOutW p e s below 16 2176 _ (T.setTop (mkF m 223 #[.val (.long x0), .second, .val (.long x2), .second, .val (.int x4), .val (.long x5), .second, .val (.long x7), .second, .val (.long x9), .second, .val (.long x11), .second, .val (.long x13), .second, .val (.long x15), .second, .val (.long x17), .second, .val (.long x19), .second, .val (.long x21), .second, .val (.ref b0), .val (.ref b1), .val (.int x25), .val (.int x26), .val (.int x27), .val (.int x28), .val (.int x29), .val (.int x30), .val (.long x31), .second, .val (.long x33), .second, .val (.int x35), .val (.int x36), .val (.int y0)] [(.long x31), (.int x27)]))
        refine OwnOutW.go (fun t k => XS.lload X0.here hx rfl (hb hby at_223) rfl k) ?_
        show OwnOutW p e s below 16 2176 _ (T.setTop (mkF m 225 #[.val (.long x0), .second, .val (.long x2), .second, .val (.int x4), .val (.long x5), .second, .val (.long x7), .second, .val (.long x9), .second, .val (.long x11), .second, .val (.long x13), .second, .val (.long x15), .second, .val (.long x17), .second, .val (.long x19), .second, .val (.long x21), .second, .val (.ref b0), .val (.ref b1), .val (.int x25), .val (.int x26), .val (.int x27), .val (.int x28), .val (.int x29), .val (.int x30), .val (.long x31), .second, .val (.long x33), .second, .val (.int x35), .val (.int x36), .val (.int y0)] [(.long x11), (.long x31), (.int x27)]))
        refine OwnOutW.go (fun t k => XS.lcmp X0.here hx rfl (hb hby at_225) rfl k) ?_
        show OwnOutW p e s below 16 2176 _ (T.setTop (mkF m 226 #[.val (.long x0), .second, .val (.long x2), .second, .val (.int x4), .val (.long x5), .second, .val (.long x7), .second, .val (.long x9), .second, .val (.long x11), .second, .val (.long x13), .second, .val (.long x15), .second, .val (.long x17), .second, .val (.long x19), .second, .val (.long x21), .second, .val (.ref b0), .val (.ref b1), .val (.int x25), .val (.int x26), .val (.int x27), .val (.int x28), .val (.int x29), .val (.int x30), .val (.long x31), .second, .val (.long x33), .second, .val (.int x35), .val (.int x36), .val (.int y0)] [(.int (XT.cmpL x31 x11)), (.int x27)]))
        by_cases hc226 : x11 < x31
        · rw [if_pos hc226] at hr
          refine OwnOutW.go (fun t k => XS.ifNo X0.here hx rfl (hb hby at_226) rfl (XT.ll_le_f hc226) k) ?_
          show OwnOutW p e s below 16 2176 _ (T.setTop (mkF m 229 #[.val (.long x0), .second, .val (.long x2), .second, .val (.int x4), .val (.long x5), .second, .val (.long x7), .second, .val (.long x9), .second, .val (.long x11), .second, .val (.long x13), .second, .val (.long x15), .second, .val (.long x17), .second, .val (.long x19), .second, .val (.long x21), .second, .val (.ref b0), .val (.ref b1), .val (.int x25), .val (.int x26), .val (.int x27), .val (.int x28), .val (.int x29), .val (.int x30), .val (.long x31), .second, .val (.long x33), .second, .val (.int x35), .val (.int x36), .val (.int y0)] [(.int x27)]))
          refine OwnOutW.go (fun t k => XT.iconstV X0.here hx rfl (1 : Int32) (hb hby at_229) rfl k) ?_
          show OwnOutW p e s below 16 2176 _ (T.setTop (mkF m 230 #[.val (.long x0), .second, .val (.long x2), .second, .val (.int x4), .val (.long x5), .second, .val (.long x7), .second, .val (.long x9), .second, .val (.long x11), .second, .val (.long x13), .second, .val (.long x15), .second, .val (.long x17), .second, .val (.long x19), .second, .val (.long x21), .second, .val (.ref b0), .val (.ref b1), .val (.int x25), .val (.int x26), .val (.int x27), .val (.int x28), .val (.int x29), .val (.int x30), .val (.long x31), .second, .val (.long x33), .second, .val (.int x35), .val (.int x36), .val (.int y0)] [(.int (1 : Int32)), (.int x27)]))
          refine OwnOutW.go (fun t k => XS.goto X0.here hx rfl (pc0 := 230) (pc' := 234) rfl (hb hby at_230) (by decide) (by decide) k) ?_
          show OwnOutW p e s below 16 2176 _ (T.setTop (mkF m 234 #[.val (.long x0), .second, .val (.long x2), .second, .val (.int x4), .val (.long x5), .second, .val (.long x7), .second, .val (.long x9), .second, .val (.long x11), .second, .val (.long x13), .second, .val (.long x15), .second, .val (.long x17), .second, .val (.long x19), .second, .val (.long x21), .second, .val (.ref b0), .val (.ref b1), .val (.int x25), .val (.int x26), .val (.int x27), .val (.int x28), .val (.int x29), .val (.int x30), .val (.long x31), .second, .val (.long x33), .second, .val (.int x35), .val (.int x36), .val (.int y0)] [(.int (1 : Int32)), (.int x27)]))
          exact w0_234 ⟨hx, hw, hby, hml, hret, hlk, hnm⟩  _ _ _ _ _ x0 x2 x4 x5 x7 x9 x11 x13 x15 x17 x19 x21 x25 x26 x27 x28 x29 x30 x31 x33 x35 x36 y0 (1 : Int32) x27 b0 u0_limit u0_weight u0_spent b1 u1_limit u1_weight u1_spent _ hr X0 e0 N0 O0 K0 hZ hown hS0 hk0 E0 F0_limit F0_whole F0_weight F0_spent E1 F1_limit F1_whole F1_weight F1_spent g0 z0 g1 z1 ne0_1
        · rw [if_neg hc226] at hr
          refine OwnOutW.go (fun t k => XS.ifYes X0.here hx rfl (pc0 := 226) (pc' := 233) rfl (hb hby at_226) rfl (XT.ll_le_t hc226) (by decide) (by decide) k) ?_
          show OwnOutW p e s below 16 2176 _ (T.setTop (mkF m 233 #[.val (.long x0), .second, .val (.long x2), .second, .val (.int x4), .val (.long x5), .second, .val (.long x7), .second, .val (.long x9), .second, .val (.long x11), .second, .val (.long x13), .second, .val (.long x15), .second, .val (.long x17), .second, .val (.long x19), .second, .val (.long x21), .second, .val (.ref b0), .val (.ref b1), .val (.int x25), .val (.int x26), .val (.int x27), .val (.int x28), .val (.int x29), .val (.int x30), .val (.long x31), .second, .val (.long x33), .second, .val (.int x35), .val (.int x36), .val (.int y0)] [(.int x27)]))
          refine OwnOutW.go (fun t k => XT.iconstV X0.here hx rfl (0 : Int32) (hb hby at_233) rfl k) ?_
          show OwnOutW p e s below 16 2176 _ (T.setTop (mkF m 234 #[.val (.long x0), .second, .val (.long x2), .second, .val (.int x4), .val (.long x5), .second, .val (.long x7), .second, .val (.long x9), .second, .val (.long x11), .second, .val (.long x13), .second, .val (.long x15), .second, .val (.long x17), .second, .val (.long x19), .second, .val (.long x21), .second, .val (.ref b0), .val (.ref b1), .val (.int x25), .val (.int x26), .val (.int x27), .val (.int x28), .val (.int x29), .val (.int x30), .val (.long x31), .second, .val (.long x33), .second, .val (.int x35), .val (.int x36), .val (.int y0)] [(.int (0 : Int32)), (.int x27)]))
          exact w0_234 ⟨hx, hw, hby, hml, hret, hlk, hnm⟩  _ _ _ _ _ x0 x2 x4 x5 x7 x9 x11 x13 x15 x17 x19 x21 x25 x26 x27 x28 x29 x30 x31 x33 x35 x36 y0 (0 : Int32) x27 b0 u0_limit u0_weight u0_spent b1 u1_limit u1_weight u1_spent _ hr X0 e0 N0 O0 K0 hZ hown hS0 hk0 E0 F0_limit F0_whole F0_weight F0_spent E1 F1_limit F1_whole F1_weight F1_spent g0 z0 g1 z1 ne0_1
      · rw [if_neg hc216] at hr
        refine OwnOutW.go (fun t k => XS.icmpYes X0.here hx rfl (pc0 := 216) (pc' := 287) rfl (hb hby at_216) rfl (XT.ii_ne_t hc216) (by decide) (by decide) k) ?_
        show OwnOutW p e s below 16 2176 _ (T.setTop (mkF m 287 #[.val (.long x0), .second, .val (.long x2), .second, .val (.int x4), .val (.long x5), .second, .val (.long x7), .second, .val (.long x9), .second, .val (.long x11), .second, .val (.long x13), .second, .val (.long x15), .second, .val (.long x17), .second, .val (.long x19), .second, .val (.long x21), .second, .val (.ref b0), .val (.ref b1), .val (.int x25), .val (.int x26), .val (.int x27), .val (.int x28), .val (.int x29), .val (.int x30), .val (.long x31), .second, .val (.long x33), .second, .val (.int x35), .val (.int x36), .val (.int y0)] []))
        refine OwnOutW.go (fun t k => XT.iconstV X0.here hx rfl (0 : Int32) (hb hby at_287) rfl k) ?_
        show OwnOutW p e s below 16 2176 _ (T.setTop (mkF m 288 #[.val (.long x0), .second, .val (.long x2), .second, .val (.int x4), .val (.long x5), .second, .val (.long x7), .second, .val (.long x9), .second, .val (.long x11), .second, .val (.long x13), .second, .val (.long x15), .second, .val (.long x17), .second, .val (.long x19), .second, .val (.long x21), .second, .val (.ref b0), .val (.ref b1), .val (.int x25), .val (.int x26), .val (.int x27), .val (.int x28), .val (.int x29), .val (.int x30), .val (.long x31), .second, .val (.long x33), .second, .val (.int x35), .val (.int x36), .val (.int y0)] [(.int (0 : Int32))]))
        cases hr
        exact outZW X0 hS0 (by rw [e0]; exact hk0) hx hret (hb hby at_288) hlk (by decide) (by decide) ⟨rfl, N0⟩
    · rw [if_neg hc209] at hr
      refine OwnOutW.go (fun t k => XS.icmpYes X0.here hx rfl (pc0 := 209) (pc' := 287) rfl (hb hby at_209) rfl (XT.ii_ne_t hc209) (by decide) (by decide) k) ?_
      show OwnOutW p e s below 16 2176 _ (T.setTop (mkF m 287 #[.val (.long x0), .second, .val (.long x2), .second, .val (.int x4), .val (.long x5), .second, .val (.long x7), .second, .val (.long x9), .second, .val (.long x11), .second, .val (.long x13), .second, .val (.long x15), .second, .val (.long x17), .second, .val (.long x19), .second, .val (.long x21), .second, .val (.ref b0), .val (.ref b1), .val (.int x25), .val (.int x26), .val (.int x27), .val (.int x28), .val (.int x29), .val (.int x30), .val (.long x31), .second, .val (.long x33), .second, .val (.int x35), .val (.int x36), .val (.int y0)] []))
      refine OwnOutW.go (fun t k => XT.iconstV X0.here hx rfl (0 : Int32) (hb hby at_287) rfl k) ?_
      show OwnOutW p e s below 16 2176 _ (T.setTop (mkF m 288 #[.val (.long x0), .second, .val (.long x2), .second, .val (.int x4), .val (.long x5), .second, .val (.long x7), .second, .val (.long x9), .second, .val (.long x11), .second, .val (.long x13), .second, .val (.long x15), .second, .val (.long x17), .second, .val (.long x19), .second, .val (.long x21), .second, .val (.ref b0), .val (.ref b1), .val (.int x25), .val (.int x26), .val (.int x27), .val (.int x28), .val (.int x29), .val (.int x30), .val (.long x31), .second, .val (.long x33), .second, .val (.int x35), .val (.int x36), .val (.int y0)] [(.int (0 : Int32))]))
      cases hr
      exact outZW X0 hS0 (by rw [e0]; exact hk0) hx hret (hb hby at_288) hlk (by decide) (by decide) ⟨rfl, N0⟩
def f0_185 (x11 : Int64) (x13 : Int64) (x21 : Int64) (x25 : Int32) (x26 : Int32) (x27 : Int32) (x28 : Int32) (x29 : Int32) (x30 : Int32) (x31 : Int64) (x33 : Int64) (x35 : Int32) (y0 : Int32) : Option (Int32) := (if x13 < (x33 + x21) then (f0_203 x11 x13 x21 x25 x26 x27 x28 x29 x30 x31 x33 x35 y0 (0 : Int32)) else (f0_203 x11 x13 x21 x25 x26 x27 x28 x29 x30 x31 x33 x35 y0 (1 : Int32)))
set_option maxRecDepth 65536 in
set_option maxHeartbeats 40000000 in
theorem w0_185 {p : Program} {l : Launch} {e : Env} {s : State} {m : MethodId} {args : Array Value} {below : List Frame} {meth : Method} {c : Code} {Z : State} {a0 : Array Value} {h0 : Heap} {n0 : Nat} (C : Cx0 Z a0 p s m meth c) :
    ∀ (T : State) (locs : List Loc) (hA : Heap) (vm0 : Vm) (k0 : Nat) (x0 : Int64) (x2 : Int64) (x4 : Int32) (x5 : Int64) (x7 : Int64) (x9 : Int64) (x11 : Int64) (x13 : Int64) (x15 : Int64) (x17 : Int64) (x19 : Int64) (x21 : Int64) (x25 : Int32) (x26 : Int32) (x27 : Int32) (x28 : Int32) (x29 : Int32) (x30 : Int32) (x31 : Int64) (x33 : Int64) (x35 : Int32) (y0 : Int32) (b0 : Addr) (u0_limit : Int64) (u0_weight : Int64) (u0_spent : Int64) (b1 : Addr) (u1_limit : Int64) (u1_weight : Int64) (u1_spent : Int64) (o : Int32), f0_185 x11 x13 x21 x25 x26 x27 x28 x29 x30 x31 x33 x35 y0 = some o → Stand p l e room_1 (s.setVm vm0) m args below meth c T locs 8 48 → T.heap = hA → Fr n0 locs → Old Z n0 hA → Keep h0 hA [] → Z.Warmed39 vm0 → vm0.findClass (x.cls) = some m.cls → s.Since vm0 k0 → k0 ≤ hA.size → (Exa Z hA b0 (site_54.cls)) → (Fld Z hA b0 (site_54.cls) "limit" "J" (.long u0_limit)) → (Fld Z hA b0 (site_54.cls) "whole" (own_wD) .null) → (Fld Z hA b0 (site_54.cls) "weight" "J" (.long u0_weight)) → (Fld Z hA b0 (site_54.cls) "spent" "J" (.long u0_spent)) → (Exa Z hA b1 (site_54.cls)) → (Fld Z hA b1 (site_54.cls) "limit" "J" (.long u1_limit)) → (Fld Z hA b1 (site_54.cls) "whole" (own_wD) (.ref b0)) → (Fld Z hA b1 (site_54.cls) "weight" "J" (.long u1_weight)) → (Fld Z hA b1 (site_54.cls) "spent" "J" (.long u1_spent)) → (n0 ≤ b0) → (h0.size ≤ b0) → (n0 ≤ b1) → (h0.size ≤ b1) → (b0 ≠ b1) →  OwnOutW p e s below 16 2176 (Q0 Z default default default default default default h0 n0 o) (T.setTop (mkF m 185 #[.val (.long x0), .second, .val (.long x2), .second, .val (.int x4), .val (.long x5), .second, .val (.long x7), .second, .val (.long x9), .second, .val (.long x11), .second, .val (.long x13), .second, .val (.long x15), .second, .val (.long x17), .second, .val (.long x19), .second, .val (.long x21), .second, .val (.ref b0), .val (.ref b1), .val (.int x25), .val (.int x26), .val (.int x27), .val (.int x28), .val (.int x29), .val (.int x30), .val (.long x31), .second, .val (.long x33), .second, .val (.int x35), .unset, .unset] [(.int y0)])) := by
    obtain ⟨hx, hw, hby, hml, hret, hlk, hnm⟩ := C
    intro T locs hA vm0 k0 x0 x2 x4 x5 x7 x9 x11 x13 x15 x17 x19 x21 x25 x26 x27 x28 x29 x30 x31 x33 x35 y0 b0 u0_limit u0_weight u0_spent b1 u1_limit u1_weight u1_spent o hr X0 e0 N0 O0 K0 hZ hown hS0 hk0 E0 F0_limit F0_whole F0_weight F0_spent E1 F1_limit F1_whole F1_weight F1_spent g0 z0 g1 z1 ne0_1
    rw [f0_185] at hr
    refine OwnOutW.go (fun t k => XS.istore X0.here hx rfl (hb hby at_185) rfl (l' := #[.val (.long x0), .second, .val (.long x2), .second, .val (.int x4), .val (.long x5), .second, .val (.long x7), .second, .val (.long x9), .second, .val (.long x11), .second, .val (.long x13), .second, .val (.long x15), .second, .val (.long x17), .second, .val (.long x19), .second, .val (.long x21), .second, .val (.ref b0), .val (.ref b1), .val (.int x25), .val (.int x26), .val (.int x27), .val (.int x28), .val (.int x29), .val (.int x30), .val (.long x31), .second, .val (.long x33), .second, .val (.int x35), .val (.int y0), .unset]) rfl k) ?_
    show OwnOutW p e s below 16 2176 _ (T.setTop (mkF m 187 #[.val (.long x0), .second, .val (.long x2), .second, .val (.int x4), .val (.long x5), .second, .val (.long x7), .second, .val (.long x9), .second, .val (.long x11), .second, .val (.long x13), .second, .val (.long x15), .second, .val (.long x17), .second, .val (.long x19), .second, .val (.long x21), .second, .val (.ref b0), .val (.ref b1), .val (.int x25), .val (.int x26), .val (.int x27), .val (.int x28), .val (.int x29), .val (.int x30), .val (.long x31), .second, .val (.long x33), .second, .val (.int x35), .val (.int y0), .unset] []))
    refine OwnOutW.go (fun t k => XS.lload X0.here hx rfl (hb hby at_187) rfl k) ?_
    show OwnOutW p e s below 16 2176 _ (T.setTop (mkF m 189 #[.val (.long x0), .second, .val (.long x2), .second, .val (.int x4), .val (.long x5), .second, .val (.long x7), .second, .val (.long x9), .second, .val (.long x11), .second, .val (.long x13), .second, .val (.long x15), .second, .val (.long x17), .second, .val (.long x19), .second, .val (.long x21), .second, .val (.ref b0), .val (.ref b1), .val (.int x25), .val (.int x26), .val (.int x27), .val (.int x28), .val (.int x29), .val (.int x30), .val (.long x31), .second, .val (.long x33), .second, .val (.int x35), .val (.int y0), .unset] [(.long x33)]))
    refine OwnOutW.go (fun t k => XS.lload X0.here hx rfl (hb hby at_189) rfl k) ?_
    show OwnOutW p e s below 16 2176 _ (T.setTop (mkF m 191 #[.val (.long x0), .second, .val (.long x2), .second, .val (.int x4), .val (.long x5), .second, .val (.long x7), .second, .val (.long x9), .second, .val (.long x11), .second, .val (.long x13), .second, .val (.long x15), .second, .val (.long x17), .second, .val (.long x19), .second, .val (.long x21), .second, .val (.ref b0), .val (.ref b1), .val (.int x25), .val (.int x26), .val (.int x27), .val (.int x28), .val (.int x29), .val (.int x30), .val (.long x31), .second, .val (.long x33), .second, .val (.int x35), .val (.int y0), .unset] [(.long x21), (.long x33)]))
    refine OwnOutW.go (fun t k => XS.ladd X0.here hx rfl (hb hby at_191) rfl k) ?_
    show OwnOutW p e s below 16 2176 _ (T.setTop (mkF m 192 #[.val (.long x0), .second, .val (.long x2), .second, .val (.int x4), .val (.long x5), .second, .val (.long x7), .second, .val (.long x9), .second, .val (.long x11), .second, .val (.long x13), .second, .val (.long x15), .second, .val (.long x17), .second, .val (.long x19), .second, .val (.long x21), .second, .val (.ref b0), .val (.ref b1), .val (.int x25), .val (.int x26), .val (.int x27), .val (.int x28), .val (.int x29), .val (.int x30), .val (.long x31), .second, .val (.long x33), .second, .val (.int x35), .val (.int y0), .unset] [(.long (x33 + x21))]))
    refine OwnOutW.go (fun t k => XS.lload X0.here hx rfl (hb hby at_192) rfl k) ?_
    show OwnOutW p e s below 16 2176 _ (T.setTop (mkF m 194 #[.val (.long x0), .second, .val (.long x2), .second, .val (.int x4), .val (.long x5), .second, .val (.long x7), .second, .val (.long x9), .second, .val (.long x11), .second, .val (.long x13), .second, .val (.long x15), .second, .val (.long x17), .second, .val (.long x19), .second, .val (.long x21), .second, .val (.ref b0), .val (.ref b1), .val (.int x25), .val (.int x26), .val (.int x27), .val (.int x28), .val (.int x29), .val (.int x30), .val (.long x31), .second, .val (.long x33), .second, .val (.int x35), .val (.int y0), .unset] [(.long x13), (.long (x33 + x21))]))
    refine OwnOutW.go (fun t k => XS.lcmp X0.here hx rfl (hb hby at_194) rfl k) ?_
    show OwnOutW p e s below 16 2176 _ (T.setTop (mkF m 195 #[.val (.long x0), .second, .val (.long x2), .second, .val (.int x4), .val (.long x5), .second, .val (.long x7), .second, .val (.long x9), .second, .val (.long x11), .second, .val (.long x13), .second, .val (.long x15), .second, .val (.long x17), .second, .val (.long x19), .second, .val (.long x21), .second, .val (.ref b0), .val (.ref b1), .val (.int x25), .val (.int x26), .val (.int x27), .val (.int x28), .val (.int x29), .val (.int x30), .val (.long x31), .second, .val (.long x33), .second, .val (.int x35), .val (.int y0), .unset] [(.int (XT.cmpL (x33 + x21) x13))]))
    by_cases hc195 : x13 < (x33 + x21)
    · rw [if_pos hc195] at hr
      refine OwnOutW.go (fun t k => XS.ifYes X0.here hx rfl (pc0 := 195) (pc' := 202) rfl (hb hby at_195) rfl (XT.ll_gt_t hc195) (by decide) (by decide) k) ?_
      show OwnOutW p e s below 16 2176 _ (T.setTop (mkF m 202 #[.val (.long x0), .second, .val (.long x2), .second, .val (.int x4), .val (.long x5), .second, .val (.long x7), .second, .val (.long x9), .second, .val (.long x11), .second, .val (.long x13), .second, .val (.long x15), .second, .val (.long x17), .second, .val (.long x19), .second, .val (.long x21), .second, .val (.ref b0), .val (.ref b1), .val (.int x25), .val (.int x26), .val (.int x27), .val (.int x28), .val (.int x29), .val (.int x30), .val (.long x31), .second, .val (.long x33), .second, .val (.int x35), .val (.int y0), .unset] []))
      refine OwnOutW.go (fun t k => XT.iconstV X0.here hx rfl (0 : Int32) (hb hby at_202) rfl k) ?_
      show OwnOutW p e s below 16 2176 _ (T.setTop (mkF m 203 #[.val (.long x0), .second, .val (.long x2), .second, .val (.int x4), .val (.long x5), .second, .val (.long x7), .second, .val (.long x9), .second, .val (.long x11), .second, .val (.long x13), .second, .val (.long x15), .second, .val (.long x17), .second, .val (.long x19), .second, .val (.long x21), .second, .val (.ref b0), .val (.ref b1), .val (.int x25), .val (.int x26), .val (.int x27), .val (.int x28), .val (.int x29), .val (.int x30), .val (.long x31), .second, .val (.long x33), .second, .val (.int x35), .val (.int y0), .unset] [(.int (0 : Int32))]))
      exact w0_203 ⟨hx, hw, hby, hml, hret, hlk, hnm⟩  _ _ _ _ _ x0 x2 x4 x5 x7 x9 x11 x13 x15 x17 x19 x21 x25 x26 x27 x28 x29 x30 x31 x33 x35 y0 (0 : Int32) b0 u0_limit u0_weight u0_spent b1 u1_limit u1_weight u1_spent _ hr X0 e0 N0 O0 K0 hZ hown hS0 hk0 E0 F0_limit F0_whole F0_weight F0_spent E1 F1_limit F1_whole F1_weight F1_spent g0 z0 g1 z1 ne0_1
    · rw [if_neg hc195] at hr
      refine OwnOutW.go (fun t k => XS.ifNo X0.here hx rfl (hb hby at_195) rfl (XT.ll_gt_f hc195) k) ?_
      show OwnOutW p e s below 16 2176 _ (T.setTop (mkF m 198 #[.val (.long x0), .second, .val (.long x2), .second, .val (.int x4), .val (.long x5), .second, .val (.long x7), .second, .val (.long x9), .second, .val (.long x11), .second, .val (.long x13), .second, .val (.long x15), .second, .val (.long x17), .second, .val (.long x19), .second, .val (.long x21), .second, .val (.ref b0), .val (.ref b1), .val (.int x25), .val (.int x26), .val (.int x27), .val (.int x28), .val (.int x29), .val (.int x30), .val (.long x31), .second, .val (.long x33), .second, .val (.int x35), .val (.int y0), .unset] []))
      refine OwnOutW.go (fun t k => XT.iconstV X0.here hx rfl (1 : Int32) (hb hby at_198) rfl k) ?_
      show OwnOutW p e s below 16 2176 _ (T.setTop (mkF m 199 #[.val (.long x0), .second, .val (.long x2), .second, .val (.int x4), .val (.long x5), .second, .val (.long x7), .second, .val (.long x9), .second, .val (.long x11), .second, .val (.long x13), .second, .val (.long x15), .second, .val (.long x17), .second, .val (.long x19), .second, .val (.long x21), .second, .val (.ref b0), .val (.ref b1), .val (.int x25), .val (.int x26), .val (.int x27), .val (.int x28), .val (.int x29), .val (.int x30), .val (.long x31), .second, .val (.long x33), .second, .val (.int x35), .val (.int y0), .unset] [(.int (1 : Int32))]))
      refine OwnOutW.go (fun t k => XS.goto X0.here hx rfl (pc0 := 199) (pc' := 203) rfl (hb hby at_199) (by decide) (by decide) k) ?_
      show OwnOutW p e s below 16 2176 _ (T.setTop (mkF m 203 #[.val (.long x0), .second, .val (.long x2), .second, .val (.int x4), .val (.long x5), .second, .val (.long x7), .second, .val (.long x9), .second, .val (.long x11), .second, .val (.long x13), .second, .val (.long x15), .second, .val (.long x17), .second, .val (.long x19), .second, .val (.long x21), .second, .val (.ref b0), .val (.ref b1), .val (.int x25), .val (.int x26), .val (.int x27), .val (.int x28), .val (.int x29), .val (.int x30), .val (.long x31), .second, .val (.long x33), .second, .val (.int x35), .val (.int y0), .unset] [(.int (1 : Int32))]))
      exact w0_203 ⟨hx, hw, hby, hml, hret, hlk, hnm⟩  _ _ _ _ _ x0 x2 x4 x5 x7 x9 x11 x13 x15 x17 x19 x21 x25 x26 x27 x28 x29 x30 x31 x33 x35 y0 (1 : Int32) b0 u0_limit u0_weight u0_spent b1 u1_limit u1_weight u1_spent _ hr X0 e0 N0 O0 K0 hZ hown hS0 hk0 E0 F0_limit F0_whole F0_weight F0_spent E1 F1_limit F1_whole F1_weight F1_spent g0 z0 g1 z1 ne0_1
def f0_184 (x11 : Int64) (x13 : Int64) (x21 : Int64) (x25 : Int32) (x26 : Int32) (x27 : Int32) (x28 : Int32) (x29 : Int32) (x30 : Int32) (x31 : Int64) (x33 : Int64) (x35 : Int32) : Option (Int32) := (f0_185 x11 x13 x21 x25 x26 x27 x28 x29 x30 x31 x33 x35 (0 : Int32))
set_option maxRecDepth 65536 in
set_option maxHeartbeats 40000000 in
theorem w0_184 {p : Program} {l : Launch} {e : Env} {s : State} {m : MethodId} {args : Array Value} {below : List Frame} {meth : Method} {c : Code} {Z : State} {a0 : Array Value} {h0 : Heap} {n0 : Nat} (C : Cx0 Z a0 p s m meth c) :
    ∀ (T : State) (locs : List Loc) (hA : Heap) (vm0 : Vm) (k0 : Nat) (x0 : Int64) (x2 : Int64) (x4 : Int32) (x5 : Int64) (x7 : Int64) (x9 : Int64) (x11 : Int64) (x13 : Int64) (x15 : Int64) (x17 : Int64) (x19 : Int64) (x21 : Int64) (x25 : Int32) (x26 : Int32) (x27 : Int32) (x28 : Int32) (x29 : Int32) (x30 : Int32) (x31 : Int64) (x33 : Int64) (x35 : Int32) (b0 : Addr) (u0_limit : Int64) (u0_weight : Int64) (u0_spent : Int64) (b1 : Addr) (u1_limit : Int64) (u1_weight : Int64) (u1_spent : Int64) (o : Int32), f0_184 x11 x13 x21 x25 x26 x27 x28 x29 x30 x31 x33 x35 = some o → Stand p l e room_1 (s.setVm vm0) m args below meth c T locs 8 48 → T.heap = hA → Fr n0 locs → Old Z n0 hA → Keep h0 hA [] → Z.Warmed39 vm0 → vm0.findClass (x.cls) = some m.cls → s.Since vm0 k0 → k0 ≤ hA.size → (Exa Z hA b0 (site_54.cls)) → (Fld Z hA b0 (site_54.cls) "limit" "J" (.long u0_limit)) → (Fld Z hA b0 (site_54.cls) "whole" (own_wD) .null) → (Fld Z hA b0 (site_54.cls) "weight" "J" (.long u0_weight)) → (Fld Z hA b0 (site_54.cls) "spent" "J" (.long u0_spent)) → (Exa Z hA b1 (site_54.cls)) → (Fld Z hA b1 (site_54.cls) "limit" "J" (.long u1_limit)) → (Fld Z hA b1 (site_54.cls) "whole" (own_wD) (.ref b0)) → (Fld Z hA b1 (site_54.cls) "weight" "J" (.long u1_weight)) → (Fld Z hA b1 (site_54.cls) "spent" "J" (.long u1_spent)) → (n0 ≤ b0) → (h0.size ≤ b0) → (n0 ≤ b1) → (h0.size ≤ b1) → (b0 ≠ b1) →  OwnOutW p e s below 16 2176 (Q0 Z default default default default default default h0 n0 o) (T.setTop (mkF m 184 #[.val (.long x0), .second, .val (.long x2), .second, .val (.int x4), .val (.long x5), .second, .val (.long x7), .second, .val (.long x9), .second, .val (.long x11), .second, .val (.long x13), .second, .val (.long x15), .second, .val (.long x17), .second, .val (.long x19), .second, .val (.long x21), .second, .val (.ref b0), .val (.ref b1), .val (.int x25), .val (.int x26), .val (.int x27), .val (.int x28), .val (.int x29), .val (.int x30), .val (.long x31), .second, .val (.long x33), .second, .val (.int x35), .unset, .unset] [])) := by
    obtain ⟨hx, hw, hby, hml, hret, hlk, hnm⟩ := C
    intro T locs hA vm0 k0 x0 x2 x4 x5 x7 x9 x11 x13 x15 x17 x19 x21 x25 x26 x27 x28 x29 x30 x31 x33 x35 b0 u0_limit u0_weight u0_spent b1 u1_limit u1_weight u1_spent o hr X0 e0 N0 O0 K0 hZ hown hS0 hk0 E0 F0_limit F0_whole F0_weight F0_spent E1 F1_limit F1_whole F1_weight F1_spent g0 z0 g1 z1 ne0_1
    rw [f0_184] at hr
    refine OwnOutW.go (fun t k => XT.iconstV X0.here hx rfl (0 : Int32) (hb hby at_184) rfl k) ?_
    show OwnOutW p e s below 16 2176 _ (T.setTop (mkF m 185 #[.val (.long x0), .second, .val (.long x2), .second, .val (.int x4), .val (.long x5), .second, .val (.long x7), .second, .val (.long x9), .second, .val (.long x11), .second, .val (.long x13), .second, .val (.long x15), .second, .val (.long x17), .second, .val (.long x19), .second, .val (.long x21), .second, .val (.ref b0), .val (.ref b1), .val (.int x25), .val (.int x26), .val (.int x27), .val (.int x28), .val (.int x29), .val (.int x30), .val (.long x31), .second, .val (.long x33), .second, .val (.int x35), .unset, .unset] [(.int (0 : Int32))]))
    exact w0_185 ⟨hx, hw, hby, hml, hret, hlk, hnm⟩  _ _ _ _ _ x0 x2 x4 x5 x7 x9 x11 x13 x15 x17 x19 x21 x25 x26 x27 x28 x29 x30 x31 x33 x35 (0 : Int32) b0 u0_limit u0_weight u0_spent b1 u1_limit u1_weight u1_spent _ hr X0 e0 N0 O0 K0 hZ hown hS0 hk0 E0 F0_limit F0_whole F0_weight F0_spent E1 F1_limit F1_whole F1_weight F1_spent g0 z0 g1 z1 ne0_1
def f0_162 (x11 : Int64) (x13 : Int64) (x21 : Int64) (x25 : Int32) (x26 : Int32) (x27 : Int32) (x28 : Int32) (x29 : Int32) (x30 : Int32) (x31 : Int64) (x33 : Int64) (y0 : Int32) : Option (Int32) := (if x11 < x31 then (f0_184 x11 x13 x21 x25 x26 x27 x28 x29 x30 x31 x33 y0) else (if x13 < x33 then (f0_184 x11 x13 x21 x25 x26 x27 x28 x29 x30 x31 x33 y0) else (f0_185 x11 x13 x21 x25 x26 x27 x28 x29 x30 x31 x33 y0 (1 : Int32))))
set_option maxRecDepth 65536 in
set_option maxHeartbeats 40000000 in
theorem w0_162 {p : Program} {l : Launch} {e : Env} {s : State} {m : MethodId} {args : Array Value} {below : List Frame} {meth : Method} {c : Code} {Z : State} {a0 : Array Value} {h0 : Heap} {n0 : Nat} (C : Cx0 Z a0 p s m meth c) :
    ∀ (T : State) (locs : List Loc) (hA : Heap) (vm0 : Vm) (k0 : Nat) (x0 : Int64) (x2 : Int64) (x4 : Int32) (x5 : Int64) (x7 : Int64) (x9 : Int64) (x11 : Int64) (x13 : Int64) (x15 : Int64) (x17 : Int64) (x19 : Int64) (x21 : Int64) (x25 : Int32) (x26 : Int32) (x27 : Int32) (x28 : Int32) (x29 : Int32) (x30 : Int32) (x31 : Int64) (x33 : Int64) (y0 : Int32) (b0 : Addr) (u0_limit : Int64) (u0_weight : Int64) (u0_spent : Int64) (b1 : Addr) (u1_limit : Int64) (u1_weight : Int64) (u1_spent : Int64) (o : Int32), f0_162 x11 x13 x21 x25 x26 x27 x28 x29 x30 x31 x33 y0 = some o → Stand p l e room_1 (s.setVm vm0) m args below meth c T locs 8 48 → T.heap = hA → Fr n0 locs → Old Z n0 hA → Keep h0 hA [] → Z.Warmed39 vm0 → vm0.findClass (x.cls) = some m.cls → s.Since vm0 k0 → k0 ≤ hA.size → (Exa Z hA b0 (site_54.cls)) → (Fld Z hA b0 (site_54.cls) "limit" "J" (.long u0_limit)) → (Fld Z hA b0 (site_54.cls) "whole" (own_wD) .null) → (Fld Z hA b0 (site_54.cls) "weight" "J" (.long u0_weight)) → (Fld Z hA b0 (site_54.cls) "spent" "J" (.long u0_spent)) → (Exa Z hA b1 (site_54.cls)) → (Fld Z hA b1 (site_54.cls) "limit" "J" (.long u1_limit)) → (Fld Z hA b1 (site_54.cls) "whole" (own_wD) (.ref b0)) → (Fld Z hA b1 (site_54.cls) "weight" "J" (.long u1_weight)) → (Fld Z hA b1 (site_54.cls) "spent" "J" (.long u1_spent)) → (n0 ≤ b0) → (h0.size ≤ b0) → (n0 ≤ b1) → (h0.size ≤ b1) → (b0 ≠ b1) →  OwnOutW p e s below 16 2176 (Q0 Z default default default default default default h0 n0 o) (T.setTop (mkF m 162 #[.val (.long x0), .second, .val (.long x2), .second, .val (.int x4), .val (.long x5), .second, .val (.long x7), .second, .val (.long x9), .second, .val (.long x11), .second, .val (.long x13), .second, .val (.long x15), .second, .val (.long x17), .second, .val (.long x19), .second, .val (.long x21), .second, .val (.ref b0), .val (.ref b1), .val (.int x25), .val (.int x26), .val (.int x27), .val (.int x28), .val (.int x29), .val (.int x30), .val (.long x31), .second, .val (.long x33), .second, .unset, .unset, .unset] [(.int y0)])) := by
    obtain ⟨hx, hw, hby, hml, hret, hlk, hnm⟩ := C
    intro T locs hA vm0 k0 x0 x2 x4 x5 x7 x9 x11 x13 x15 x17 x19 x21 x25 x26 x27 x28 x29 x30 x31 x33 y0 b0 u0_limit u0_weight u0_spent b1 u1_limit u1_weight u1_spent o hr X0 e0 N0 O0 K0 hZ hown hS0 hk0 E0 F0_limit F0_whole F0_weight F0_spent E1 F1_limit F1_whole F1_weight F1_spent g0 z0 g1 z1 ne0_1
    rw [f0_162] at hr
    refine OwnOutW.go (fun t k => XS.istore X0.here hx rfl (hb hby at_162) rfl (l' := #[.val (.long x0), .second, .val (.long x2), .second, .val (.int x4), .val (.long x5), .second, .val (.long x7), .second, .val (.long x9), .second, .val (.long x11), .second, .val (.long x13), .second, .val (.long x15), .second, .val (.long x17), .second, .val (.long x19), .second, .val (.long x21), .second, .val (.ref b0), .val (.ref b1), .val (.int x25), .val (.int x26), .val (.int x27), .val (.int x28), .val (.int x29), .val (.int x30), .val (.long x31), .second, .val (.long x33), .second, .val (.int y0), .unset, .unset]) rfl k) ?_
    show OwnOutW p e s below 16 2176 _ (T.setTop (mkF m 164 #[.val (.long x0), .second, .val (.long x2), .second, .val (.int x4), .val (.long x5), .second, .val (.long x7), .second, .val (.long x9), .second, .val (.long x11), .second, .val (.long x13), .second, .val (.long x15), .second, .val (.long x17), .second, .val (.long x19), .second, .val (.long x21), .second, .val (.ref b0), .val (.ref b1), .val (.int x25), .val (.int x26), .val (.int x27), .val (.int x28), .val (.int x29), .val (.int x30), .val (.long x31), .second, .val (.long x33), .second, .val (.int y0), .unset, .unset] []))
    refine OwnOutW.go (fun t k => XS.lload X0.here hx rfl (hb hby at_164) rfl k) ?_
    show OwnOutW p e s below 16 2176 _ (T.setTop (mkF m 166 #[.val (.long x0), .second, .val (.long x2), .second, .val (.int x4), .val (.long x5), .second, .val (.long x7), .second, .val (.long x9), .second, .val (.long x11), .second, .val (.long x13), .second, .val (.long x15), .second, .val (.long x17), .second, .val (.long x19), .second, .val (.long x21), .second, .val (.ref b0), .val (.ref b1), .val (.int x25), .val (.int x26), .val (.int x27), .val (.int x28), .val (.int x29), .val (.int x30), .val (.long x31), .second, .val (.long x33), .second, .val (.int y0), .unset, .unset] [(.long x31)]))
    refine OwnOutW.go (fun t k => XS.lload X0.here hx rfl (hb hby at_166) rfl k) ?_
    show OwnOutW p e s below 16 2176 _ (T.setTop (mkF m 168 #[.val (.long x0), .second, .val (.long x2), .second, .val (.int x4), .val (.long x5), .second, .val (.long x7), .second, .val (.long x9), .second, .val (.long x11), .second, .val (.long x13), .second, .val (.long x15), .second, .val (.long x17), .second, .val (.long x19), .second, .val (.long x21), .second, .val (.ref b0), .val (.ref b1), .val (.int x25), .val (.int x26), .val (.int x27), .val (.int x28), .val (.int x29), .val (.int x30), .val (.long x31), .second, .val (.long x33), .second, .val (.int y0), .unset, .unset] [(.long x11), (.long x31)]))
    refine OwnOutW.go (fun t k => XS.lcmp X0.here hx rfl (hb hby at_168) rfl k) ?_
    show OwnOutW p e s below 16 2176 _ (T.setTop (mkF m 169 #[.val (.long x0), .second, .val (.long x2), .second, .val (.int x4), .val (.long x5), .second, .val (.long x7), .second, .val (.long x9), .second, .val (.long x11), .second, .val (.long x13), .second, .val (.long x15), .second, .val (.long x17), .second, .val (.long x19), .second, .val (.long x21), .second, .val (.ref b0), .val (.ref b1), .val (.int x25), .val (.int x26), .val (.int x27), .val (.int x28), .val (.int x29), .val (.int x30), .val (.long x31), .second, .val (.long x33), .second, .val (.int y0), .unset, .unset] [(.int (XT.cmpL x31 x11))]))
    by_cases hc169 : x11 < x31
    · rw [if_pos hc169] at hr
      refine OwnOutW.go (fun t k => XS.ifYes X0.here hx rfl (pc0 := 169) (pc' := 184) rfl (hb hby at_169) rfl (XT.ll_gt_t hc169) (by decide) (by decide) k) ?_
      show OwnOutW p e s below 16 2176 _ (T.setTop (mkF m 184 #[.val (.long x0), .second, .val (.long x2), .second, .val (.int x4), .val (.long x5), .second, .val (.long x7), .second, .val (.long x9), .second, .val (.long x11), .second, .val (.long x13), .second, .val (.long x15), .second, .val (.long x17), .second, .val (.long x19), .second, .val (.long x21), .second, .val (.ref b0), .val (.ref b1), .val (.int x25), .val (.int x26), .val (.int x27), .val (.int x28), .val (.int x29), .val (.int x30), .val (.long x31), .second, .val (.long x33), .second, .val (.int y0), .unset, .unset] []))
      exact w0_184 ⟨hx, hw, hby, hml, hret, hlk, hnm⟩  _ _ _ _ _ x0 x2 x4 x5 x7 x9 x11 x13 x15 x17 x19 x21 x25 x26 x27 x28 x29 x30 x31 x33 y0 b0 u0_limit u0_weight u0_spent b1 u1_limit u1_weight u1_spent _ hr X0 e0 N0 O0 K0 hZ hown hS0 hk0 E0 F0_limit F0_whole F0_weight F0_spent E1 F1_limit F1_whole F1_weight F1_spent g0 z0 g1 z1 ne0_1
    · rw [if_neg hc169] at hr
      refine OwnOutW.go (fun t k => XS.ifNo X0.here hx rfl (hb hby at_169) rfl (XT.ll_gt_f hc169) k) ?_
      show OwnOutW p e s below 16 2176 _ (T.setTop (mkF m 172 #[.val (.long x0), .second, .val (.long x2), .second, .val (.int x4), .val (.long x5), .second, .val (.long x7), .second, .val (.long x9), .second, .val (.long x11), .second, .val (.long x13), .second, .val (.long x15), .second, .val (.long x17), .second, .val (.long x19), .second, .val (.long x21), .second, .val (.ref b0), .val (.ref b1), .val (.int x25), .val (.int x26), .val (.int x27), .val (.int x28), .val (.int x29), .val (.int x30), .val (.long x31), .second, .val (.long x33), .second, .val (.int y0), .unset, .unset] []))
      refine OwnOutW.go (fun t k => XS.lload X0.here hx rfl (hb hby at_172) rfl k) ?_
      show OwnOutW p e s below 16 2176 _ (T.setTop (mkF m 174 #[.val (.long x0), .second, .val (.long x2), .second, .val (.int x4), .val (.long x5), .second, .val (.long x7), .second, .val (.long x9), .second, .val (.long x11), .second, .val (.long x13), .second, .val (.long x15), .second, .val (.long x17), .second, .val (.long x19), .second, .val (.long x21), .second, .val (.ref b0), .val (.ref b1), .val (.int x25), .val (.int x26), .val (.int x27), .val (.int x28), .val (.int x29), .val (.int x30), .val (.long x31), .second, .val (.long x33), .second, .val (.int y0), .unset, .unset] [(.long x33)]))
      refine OwnOutW.go (fun t k => XS.lload X0.here hx rfl (hb hby at_174) rfl k) ?_
      show OwnOutW p e s below 16 2176 _ (T.setTop (mkF m 176 #[.val (.long x0), .second, .val (.long x2), .second, .val (.int x4), .val (.long x5), .second, .val (.long x7), .second, .val (.long x9), .second, .val (.long x11), .second, .val (.long x13), .second, .val (.long x15), .second, .val (.long x17), .second, .val (.long x19), .second, .val (.long x21), .second, .val (.ref b0), .val (.ref b1), .val (.int x25), .val (.int x26), .val (.int x27), .val (.int x28), .val (.int x29), .val (.int x30), .val (.long x31), .second, .val (.long x33), .second, .val (.int y0), .unset, .unset] [(.long x13), (.long x33)]))
      refine OwnOutW.go (fun t k => XS.lcmp X0.here hx rfl (hb hby at_176) rfl k) ?_
      show OwnOutW p e s below 16 2176 _ (T.setTop (mkF m 177 #[.val (.long x0), .second, .val (.long x2), .second, .val (.int x4), .val (.long x5), .second, .val (.long x7), .second, .val (.long x9), .second, .val (.long x11), .second, .val (.long x13), .second, .val (.long x15), .second, .val (.long x17), .second, .val (.long x19), .second, .val (.long x21), .second, .val (.ref b0), .val (.ref b1), .val (.int x25), .val (.int x26), .val (.int x27), .val (.int x28), .val (.int x29), .val (.int x30), .val (.long x31), .second, .val (.long x33), .second, .val (.int y0), .unset, .unset] [(.int (XT.cmpL x33 x13))]))
      by_cases hc177 : x13 < x33
      · rw [if_pos hc177] at hr
        refine OwnOutW.go (fun t k => XS.ifYes X0.here hx rfl (pc0 := 177) (pc' := 184) rfl (hb hby at_177) rfl (XT.ll_gt_t hc177) (by decide) (by decide) k) ?_
        show OwnOutW p e s below 16 2176 _ (T.setTop (mkF m 184 #[.val (.long x0), .second, .val (.long x2), .second, .val (.int x4), .val (.long x5), .second, .val (.long x7), .second, .val (.long x9), .second, .val (.long x11), .second, .val (.long x13), .second, .val (.long x15), .second, .val (.long x17), .second, .val (.long x19), .second, .val (.long x21), .second, .val (.ref b0), .val (.ref b1), .val (.int x25), .val (.int x26), .val (.int x27), .val (.int x28), .val (.int x29), .val (.int x30), .val (.long x31), .second, .val (.long x33), .second, .val (.int y0), .unset, .unset] []))
        exact w0_184 ⟨hx, hw, hby, hml, hret, hlk, hnm⟩  _ _ _ _ _ x0 x2 x4 x5 x7 x9 x11 x13 x15 x17 x19 x21 x25 x26 x27 x28 x29 x30 x31 x33 y0 b0 u0_limit u0_weight u0_spent b1 u1_limit u1_weight u1_spent _ hr X0 e0 N0 O0 K0 hZ hown hS0 hk0 E0 F0_limit F0_whole F0_weight F0_spent E1 F1_limit F1_whole F1_weight F1_spent g0 z0 g1 z1 ne0_1
      · rw [if_neg hc177] at hr
        refine OwnOutW.go (fun t k => XS.ifNo X0.here hx rfl (hb hby at_177) rfl (XT.ll_gt_f hc177) k) ?_
        show OwnOutW p e s below 16 2176 _ (T.setTop (mkF m 180 #[.val (.long x0), .second, .val (.long x2), .second, .val (.int x4), .val (.long x5), .second, .val (.long x7), .second, .val (.long x9), .second, .val (.long x11), .second, .val (.long x13), .second, .val (.long x15), .second, .val (.long x17), .second, .val (.long x19), .second, .val (.long x21), .second, .val (.ref b0), .val (.ref b1), .val (.int x25), .val (.int x26), .val (.int x27), .val (.int x28), .val (.int x29), .val (.int x30), .val (.long x31), .second, .val (.long x33), .second, .val (.int y0), .unset, .unset] []))
        refine OwnOutW.go (fun t k => XT.iconstV X0.here hx rfl (1 : Int32) (hb hby at_180) rfl k) ?_
        show OwnOutW p e s below 16 2176 _ (T.setTop (mkF m 181 #[.val (.long x0), .second, .val (.long x2), .second, .val (.int x4), .val (.long x5), .second, .val (.long x7), .second, .val (.long x9), .second, .val (.long x11), .second, .val (.long x13), .second, .val (.long x15), .second, .val (.long x17), .second, .val (.long x19), .second, .val (.long x21), .second, .val (.ref b0), .val (.ref b1), .val (.int x25), .val (.int x26), .val (.int x27), .val (.int x28), .val (.int x29), .val (.int x30), .val (.long x31), .second, .val (.long x33), .second, .val (.int y0), .unset, .unset] [(.int (1 : Int32))]))
        refine OwnOutW.go (fun t k => XS.goto X0.here hx rfl (pc0 := 181) (pc' := 185) rfl (hb hby at_181) (by decide) (by decide) k) ?_
        show OwnOutW p e s below 16 2176 _ (T.setTop (mkF m 185 #[.val (.long x0), .second, .val (.long x2), .second, .val (.int x4), .val (.long x5), .second, .val (.long x7), .second, .val (.long x9), .second, .val (.long x11), .second, .val (.long x13), .second, .val (.long x15), .second, .val (.long x17), .second, .val (.long x19), .second, .val (.long x21), .second, .val (.ref b0), .val (.ref b1), .val (.int x25), .val (.int x26), .val (.int x27), .val (.int x28), .val (.int x29), .val (.int x30), .val (.long x31), .second, .val (.long x33), .second, .val (.int y0), .unset, .unset] [(.int (1 : Int32))]))
        exact w0_185 ⟨hx, hw, hby, hml, hret, hlk, hnm⟩  _ _ _ _ _ x0 x2 x4 x5 x7 x9 x11 x13 x15 x17 x19 x21 x25 x26 x27 x28 x29 x30 x31 x33 y0 (1 : Int32) b0 u0_limit u0_weight u0_spent b1 u1_limit u1_weight u1_spent _ hr X0 e0 N0 O0 K0 hZ hown hS0 hk0 E0 F0_limit F0_whole F0_weight F0_spent E1 F1_limit F1_whole F1_weight F1_spent g0 z0 g1 z1 ne0_1
def f0_161 (x11 : Int64) (x13 : Int64) (x21 : Int64) (x25 : Int32) (x26 : Int32) (x27 : Int32) (x28 : Int32) (x29 : Int32) (x30 : Int32) (x31 : Int64) (x33 : Int64) : Option (Int32) := (f0_162 x11 x13 x21 x25 x26 x27 x28 x29 x30 x31 x33 (0 : Int32))
set_option maxRecDepth 65536 in
set_option maxHeartbeats 40000000 in
theorem w0_161 {p : Program} {l : Launch} {e : Env} {s : State} {m : MethodId} {args : Array Value} {below : List Frame} {meth : Method} {c : Code} {Z : State} {a0 : Array Value} {h0 : Heap} {n0 : Nat} (C : Cx0 Z a0 p s m meth c) :
    ∀ (T : State) (locs : List Loc) (hA : Heap) (vm0 : Vm) (k0 : Nat) (x0 : Int64) (x2 : Int64) (x4 : Int32) (x5 : Int64) (x7 : Int64) (x9 : Int64) (x11 : Int64) (x13 : Int64) (x15 : Int64) (x17 : Int64) (x19 : Int64) (x21 : Int64) (x25 : Int32) (x26 : Int32) (x27 : Int32) (x28 : Int32) (x29 : Int32) (x30 : Int32) (x31 : Int64) (x33 : Int64) (b0 : Addr) (u0_limit : Int64) (u0_weight : Int64) (u0_spent : Int64) (b1 : Addr) (u1_limit : Int64) (u1_weight : Int64) (u1_spent : Int64) (o : Int32), f0_161 x11 x13 x21 x25 x26 x27 x28 x29 x30 x31 x33 = some o → Stand p l e room_1 (s.setVm vm0) m args below meth c T locs 8 48 → T.heap = hA → Fr n0 locs → Old Z n0 hA → Keep h0 hA [] → Z.Warmed39 vm0 → vm0.findClass (x.cls) = some m.cls → s.Since vm0 k0 → k0 ≤ hA.size → (Exa Z hA b0 (site_54.cls)) → (Fld Z hA b0 (site_54.cls) "limit" "J" (.long u0_limit)) → (Fld Z hA b0 (site_54.cls) "whole" (own_wD) .null) → (Fld Z hA b0 (site_54.cls) "weight" "J" (.long u0_weight)) → (Fld Z hA b0 (site_54.cls) "spent" "J" (.long u0_spent)) → (Exa Z hA b1 (site_54.cls)) → (Fld Z hA b1 (site_54.cls) "limit" "J" (.long u1_limit)) → (Fld Z hA b1 (site_54.cls) "whole" (own_wD) (.ref b0)) → (Fld Z hA b1 (site_54.cls) "weight" "J" (.long u1_weight)) → (Fld Z hA b1 (site_54.cls) "spent" "J" (.long u1_spent)) → (n0 ≤ b0) → (h0.size ≤ b0) → (n0 ≤ b1) → (h0.size ≤ b1) → (b0 ≠ b1) →  OwnOutW p e s below 16 2176 (Q0 Z default default default default default default h0 n0 o) (T.setTop (mkF m 161 #[.val (.long x0), .second, .val (.long x2), .second, .val (.int x4), .val (.long x5), .second, .val (.long x7), .second, .val (.long x9), .second, .val (.long x11), .second, .val (.long x13), .second, .val (.long x15), .second, .val (.long x17), .second, .val (.long x19), .second, .val (.long x21), .second, .val (.ref b0), .val (.ref b1), .val (.int x25), .val (.int x26), .val (.int x27), .val (.int x28), .val (.int x29), .val (.int x30), .val (.long x31), .second, .val (.long x33), .second, .unset, .unset, .unset] [])) := by
    obtain ⟨hx, hw, hby, hml, hret, hlk, hnm⟩ := C
    intro T locs hA vm0 k0 x0 x2 x4 x5 x7 x9 x11 x13 x15 x17 x19 x21 x25 x26 x27 x28 x29 x30 x31 x33 b0 u0_limit u0_weight u0_spent b1 u1_limit u1_weight u1_spent o hr X0 e0 N0 O0 K0 hZ hown hS0 hk0 E0 F0_limit F0_whole F0_weight F0_spent E1 F1_limit F1_whole F1_weight F1_spent g0 z0 g1 z1 ne0_1
    rw [f0_161] at hr
    refine OwnOutW.go (fun t k => XT.iconstV X0.here hx rfl (0 : Int32) (hb hby at_161) rfl k) ?_
    show OwnOutW p e s below 16 2176 _ (T.setTop (mkF m 162 #[.val (.long x0), .second, .val (.long x2), .second, .val (.int x4), .val (.long x5), .second, .val (.long x7), .second, .val (.long x9), .second, .val (.long x11), .second, .val (.long x13), .second, .val (.long x15), .second, .val (.long x17), .second, .val (.long x19), .second, .val (.long x21), .second, .val (.ref b0), .val (.ref b1), .val (.int x25), .val (.int x26), .val (.int x27), .val (.int x28), .val (.int x29), .val (.int x30), .val (.long x31), .second, .val (.long x33), .second, .unset, .unset, .unset] [(.int (0 : Int32))]))
    exact w0_162 ⟨hx, hw, hby, hml, hret, hlk, hnm⟩  _ _ _ _ _ x0 x2 x4 x5 x7 x9 x11 x13 x15 x17 x19 x21 x25 x26 x27 x28 x29 x30 x31 x33 (0 : Int32) b0 u0_limit u0_weight u0_spent b1 u1_limit u1_weight u1_spent _ hr X0 e0 N0 O0 K0 hZ hown hS0 hk0 E0 F0_limit F0_whole F0_weight F0_spent E1 F1_limit F1_whole F1_weight F1_spent g0 z0 g1 z1 ne0_1
def f0_131 (x11 : Int64) (x13 : Int64) (x15 : Int64) (x17 : Int64) (x21 : Int64) (x25 : Int32) (x26 : Int32) (x27 : Int32) (x28 : Int32) (x29 : Int32) (x30 : Int32) (x31 : Int64) : Option (Int32) := (if x11 < x17 then (f0_161 x11 x13 x21 x25 x26 x27 x28 x29 x30 x31 (x31 * x15)) else (if x13 < (x17 * x15) then (f0_161 x11 x13 x21 x25 x26 x27 x28 x29 x30 x31 (x31 * x15)) else (f0_162 x11 x13 x21 x25 x26 x27 x28 x29 x30 x31 (x31 * x15) (1 : Int32))))
set_option maxRecDepth 65536 in
set_option maxHeartbeats 40000000 in
theorem w0_131 {p : Program} {l : Launch} {e : Env} {s : State} {m : MethodId} {args : Array Value} {below : List Frame} {meth : Method} {c : Code} {Z : State} {a0 : Array Value} {h0 : Heap} {n0 : Nat} (C : Cx0 Z a0 p s m meth c) :
    ∀ (T : State) (locs : List Loc) (hA : Heap) (vm0 : Vm) (k0 : Nat) (x0 : Int64) (x2 : Int64) (x4 : Int32) (x5 : Int64) (x7 : Int64) (x9 : Int64) (x11 : Int64) (x13 : Int64) (x15 : Int64) (x17 : Int64) (x19 : Int64) (x21 : Int64) (x25 : Int32) (x26 : Int32) (x27 : Int32) (x28 : Int32) (x29 : Int32) (x30 : Int32) (x31 : Int64) (b0 : Addr) (u0_limit : Int64) (u0_weight : Int64) (u0_spent : Int64) (b1 : Addr) (u1_limit : Int64) (u1_weight : Int64) (u1_spent : Int64) (o : Int32), f0_131 x11 x13 x15 x17 x21 x25 x26 x27 x28 x29 x30 x31 = some o → Stand p l e room_1 (s.setVm vm0) m args below meth c T locs 8 48 → T.heap = hA → Fr n0 locs → Old Z n0 hA → Keep h0 hA [] → Z.Warmed39 vm0 → vm0.findClass (x.cls) = some m.cls → s.Since vm0 k0 → k0 ≤ hA.size → (Exa Z hA b0 (site_54.cls)) → (Fld Z hA b0 (site_54.cls) "limit" "J" (.long u0_limit)) → (Fld Z hA b0 (site_54.cls) "whole" (own_wD) .null) → (Fld Z hA b0 (site_54.cls) "weight" "J" (.long u0_weight)) → (Fld Z hA b0 (site_54.cls) "spent" "J" (.long u0_spent)) → (Exa Z hA b1 (site_54.cls)) → (Fld Z hA b1 (site_54.cls) "limit" "J" (.long u1_limit)) → (Fld Z hA b1 (site_54.cls) "whole" (own_wD) (.ref b0)) → (Fld Z hA b1 (site_54.cls) "weight" "J" (.long u1_weight)) → (Fld Z hA b1 (site_54.cls) "spent" "J" (.long u1_spent)) → (n0 ≤ b0) → (h0.size ≤ b0) → (n0 ≤ b1) → (h0.size ≤ b1) → (b0 ≠ b1) →  OwnOutW p e s below 16 2176 (Q0 Z default default default default default default h0 n0 o) (T.setTop (mkF m 131 #[.val (.long x0), .second, .val (.long x2), .second, .val (.int x4), .val (.long x5), .second, .val (.long x7), .second, .val (.long x9), .second, .val (.long x11), .second, .val (.long x13), .second, .val (.long x15), .second, .val (.long x17), .second, .val (.long x19), .second, .val (.long x21), .second, .val (.ref b0), .val (.ref b1), .val (.int x25), .val (.int x26), .val (.int x27), .val (.int x28), .val (.int x29), .val (.int x30), .val (.long x31), .second, .unset, .unset, .unset, .unset, .unset] [])) := by
    obtain ⟨hx, hw, hby, hml, hret, hlk, hnm⟩ := C
    intro T locs hA vm0 k0 x0 x2 x4 x5 x7 x9 x11 x13 x15 x17 x19 x21 x25 x26 x27 x28 x29 x30 x31 b0 u0_limit u0_weight u0_spent b1 u1_limit u1_weight u1_spent o hr X0 e0 N0 O0 K0 hZ hown hS0 hk0 E0 F0_limit F0_whole F0_weight F0_spent E1 F1_limit F1_whole F1_weight F1_spent g0 z0 g1 z1 ne0_1
    rw [f0_131] at hr
    refine OwnOutW.go (fun t k => XS.lload X0.here hx rfl (hb hby at_131) rfl k) ?_
    show OwnOutW p e s below 16 2176 _ (T.setTop (mkF m 133 #[.val (.long x0), .second, .val (.long x2), .second, .val (.int x4), .val (.long x5), .second, .val (.long x7), .second, .val (.long x9), .second, .val (.long x11), .second, .val (.long x13), .second, .val (.long x15), .second, .val (.long x17), .second, .val (.long x19), .second, .val (.long x21), .second, .val (.ref b0), .val (.ref b1), .val (.int x25), .val (.int x26), .val (.int x27), .val (.int x28), .val (.int x29), .val (.int x30), .val (.long x31), .second, .unset, .unset, .unset, .unset, .unset] [(.long x31)]))
    refine OwnOutW.go (fun t k => XS.lload X0.here hx rfl (hb hby at_133) rfl k) ?_
    show OwnOutW p e s below 16 2176 _ (T.setTop (mkF m 135 #[.val (.long x0), .second, .val (.long x2), .second, .val (.int x4), .val (.long x5), .second, .val (.long x7), .second, .val (.long x9), .second, .val (.long x11), .second, .val (.long x13), .second, .val (.long x15), .second, .val (.long x17), .second, .val (.long x19), .second, .val (.long x21), .second, .val (.ref b0), .val (.ref b1), .val (.int x25), .val (.int x26), .val (.int x27), .val (.int x28), .val (.int x29), .val (.int x30), .val (.long x31), .second, .unset, .unset, .unset, .unset, .unset] [(.long x15), (.long x31)]))
    refine OwnOutW.go (fun t k => XS.lmul X0.here hx rfl (hb hby at_135) rfl k) ?_
    show OwnOutW p e s below 16 2176 _ (T.setTop (mkF m 136 #[.val (.long x0), .second, .val (.long x2), .second, .val (.int x4), .val (.long x5), .second, .val (.long x7), .second, .val (.long x9), .second, .val (.long x11), .second, .val (.long x13), .second, .val (.long x15), .second, .val (.long x17), .second, .val (.long x19), .second, .val (.long x21), .second, .val (.ref b0), .val (.ref b1), .val (.int x25), .val (.int x26), .val (.int x27), .val (.int x28), .val (.int x29), .val (.int x30), .val (.long x31), .second, .unset, .unset, .unset, .unset, .unset] [(.long (x31 * x15))]))
    refine OwnOutW.go (fun t k => XS.lstore X0.here hx rfl (hb hby at_136) rfl (l' := #[.val (.long x0), .second, .val (.long x2), .second, .val (.int x4), .val (.long x5), .second, .val (.long x7), .second, .val (.long x9), .second, .val (.long x11), .second, .val (.long x13), .second, .val (.long x15), .second, .val (.long x17), .second, .val (.long x19), .second, .val (.long x21), .second, .val (.ref b0), .val (.ref b1), .val (.int x25), .val (.int x26), .val (.int x27), .val (.int x28), .val (.int x29), .val (.int x30), .val (.long x31), .second, .val (.long (x31 * x15)), .second, .unset, .unset, .unset]) rfl k) ?_
    show OwnOutW p e s below 16 2176 _ (T.setTop (mkF m 138 #[.val (.long x0), .second, .val (.long x2), .second, .val (.int x4), .val (.long x5), .second, .val (.long x7), .second, .val (.long x9), .second, .val (.long x11), .second, .val (.long x13), .second, .val (.long x15), .second, .val (.long x17), .second, .val (.long x19), .second, .val (.long x21), .second, .val (.ref b0), .val (.ref b1), .val (.int x25), .val (.int x26), .val (.int x27), .val (.int x28), .val (.int x29), .val (.int x30), .val (.long x31), .second, .val (.long (x31 * x15)), .second, .unset, .unset, .unset] []))
    refine OwnOutW.go (fun t k => XS.lload X0.here hx rfl (hb hby at_138) rfl k) ?_
    show OwnOutW p e s below 16 2176 _ (T.setTop (mkF m 140 #[.val (.long x0), .second, .val (.long x2), .second, .val (.int x4), .val (.long x5), .second, .val (.long x7), .second, .val (.long x9), .second, .val (.long x11), .second, .val (.long x13), .second, .val (.long x15), .second, .val (.long x17), .second, .val (.long x19), .second, .val (.long x21), .second, .val (.ref b0), .val (.ref b1), .val (.int x25), .val (.int x26), .val (.int x27), .val (.int x28), .val (.int x29), .val (.int x30), .val (.long x31), .second, .val (.long (x31 * x15)), .second, .unset, .unset, .unset] [(.long x17)]))
    refine OwnOutW.go (fun t k => XS.lload X0.here hx rfl (hb hby at_140) rfl k) ?_
    show OwnOutW p e s below 16 2176 _ (T.setTop (mkF m 142 #[.val (.long x0), .second, .val (.long x2), .second, .val (.int x4), .val (.long x5), .second, .val (.long x7), .second, .val (.long x9), .second, .val (.long x11), .second, .val (.long x13), .second, .val (.long x15), .second, .val (.long x17), .second, .val (.long x19), .second, .val (.long x21), .second, .val (.ref b0), .val (.ref b1), .val (.int x25), .val (.int x26), .val (.int x27), .val (.int x28), .val (.int x29), .val (.int x30), .val (.long x31), .second, .val (.long (x31 * x15)), .second, .unset, .unset, .unset] [(.long x11), (.long x17)]))
    refine OwnOutW.go (fun t k => XS.lcmp X0.here hx rfl (hb hby at_142) rfl k) ?_
    show OwnOutW p e s below 16 2176 _ (T.setTop (mkF m 143 #[.val (.long x0), .second, .val (.long x2), .second, .val (.int x4), .val (.long x5), .second, .val (.long x7), .second, .val (.long x9), .second, .val (.long x11), .second, .val (.long x13), .second, .val (.long x15), .second, .val (.long x17), .second, .val (.long x19), .second, .val (.long x21), .second, .val (.ref b0), .val (.ref b1), .val (.int x25), .val (.int x26), .val (.int x27), .val (.int x28), .val (.int x29), .val (.int x30), .val (.long x31), .second, .val (.long (x31 * x15)), .second, .unset, .unset, .unset] [(.int (XT.cmpL x17 x11))]))
    by_cases hc143 : x11 < x17
    · rw [if_pos hc143] at hr
      refine OwnOutW.go (fun t k => XS.ifYes X0.here hx rfl (pc0 := 143) (pc' := 161) rfl (hb hby at_143) rfl (XT.ll_gt_t hc143) (by decide) (by decide) k) ?_
      show OwnOutW p e s below 16 2176 _ (T.setTop (mkF m 161 #[.val (.long x0), .second, .val (.long x2), .second, .val (.int x4), .val (.long x5), .second, .val (.long x7), .second, .val (.long x9), .second, .val (.long x11), .second, .val (.long x13), .second, .val (.long x15), .second, .val (.long x17), .second, .val (.long x19), .second, .val (.long x21), .second, .val (.ref b0), .val (.ref b1), .val (.int x25), .val (.int x26), .val (.int x27), .val (.int x28), .val (.int x29), .val (.int x30), .val (.long x31), .second, .val (.long (x31 * x15)), .second, .unset, .unset, .unset] []))
      exact w0_161 ⟨hx, hw, hby, hml, hret, hlk, hnm⟩  _ _ _ _ _ x0 x2 x4 x5 x7 x9 x11 x13 x15 x17 x19 x21 x25 x26 x27 x28 x29 x30 x31 (x31 * x15) b0 u0_limit u0_weight u0_spent b1 u1_limit u1_weight u1_spent _ hr X0 e0 N0 O0 K0 hZ hown hS0 hk0 E0 F0_limit F0_whole F0_weight F0_spent E1 F1_limit F1_whole F1_weight F1_spent g0 z0 g1 z1 ne0_1
    · rw [if_neg hc143] at hr
      refine OwnOutW.go (fun t k => XS.ifNo X0.here hx rfl (hb hby at_143) rfl (XT.ll_gt_f hc143) k) ?_
      show OwnOutW p e s below 16 2176 _ (T.setTop (mkF m 146 #[.val (.long x0), .second, .val (.long x2), .second, .val (.int x4), .val (.long x5), .second, .val (.long x7), .second, .val (.long x9), .second, .val (.long x11), .second, .val (.long x13), .second, .val (.long x15), .second, .val (.long x17), .second, .val (.long x19), .second, .val (.long x21), .second, .val (.ref b0), .val (.ref b1), .val (.int x25), .val (.int x26), .val (.int x27), .val (.int x28), .val (.int x29), .val (.int x30), .val (.long x31), .second, .val (.long (x31 * x15)), .second, .unset, .unset, .unset] []))
      refine OwnOutW.go (fun t k => XS.lload X0.here hx rfl (hb hby at_146) rfl k) ?_
      show OwnOutW p e s below 16 2176 _ (T.setTop (mkF m 148 #[.val (.long x0), .second, .val (.long x2), .second, .val (.int x4), .val (.long x5), .second, .val (.long x7), .second, .val (.long x9), .second, .val (.long x11), .second, .val (.long x13), .second, .val (.long x15), .second, .val (.long x17), .second, .val (.long x19), .second, .val (.long x21), .second, .val (.ref b0), .val (.ref b1), .val (.int x25), .val (.int x26), .val (.int x27), .val (.int x28), .val (.int x29), .val (.int x30), .val (.long x31), .second, .val (.long (x31 * x15)), .second, .unset, .unset, .unset] [(.long x17)]))
      refine OwnOutW.go (fun t k => XS.lload X0.here hx rfl (hb hby at_148) rfl k) ?_
      show OwnOutW p e s below 16 2176 _ (T.setTop (mkF m 150 #[.val (.long x0), .second, .val (.long x2), .second, .val (.int x4), .val (.long x5), .second, .val (.long x7), .second, .val (.long x9), .second, .val (.long x11), .second, .val (.long x13), .second, .val (.long x15), .second, .val (.long x17), .second, .val (.long x19), .second, .val (.long x21), .second, .val (.ref b0), .val (.ref b1), .val (.int x25), .val (.int x26), .val (.int x27), .val (.int x28), .val (.int x29), .val (.int x30), .val (.long x31), .second, .val (.long (x31 * x15)), .second, .unset, .unset, .unset] [(.long x15), (.long x17)]))
      refine OwnOutW.go (fun t k => XS.lmul X0.here hx rfl (hb hby at_150) rfl k) ?_
      show OwnOutW p e s below 16 2176 _ (T.setTop (mkF m 151 #[.val (.long x0), .second, .val (.long x2), .second, .val (.int x4), .val (.long x5), .second, .val (.long x7), .second, .val (.long x9), .second, .val (.long x11), .second, .val (.long x13), .second, .val (.long x15), .second, .val (.long x17), .second, .val (.long x19), .second, .val (.long x21), .second, .val (.ref b0), .val (.ref b1), .val (.int x25), .val (.int x26), .val (.int x27), .val (.int x28), .val (.int x29), .val (.int x30), .val (.long x31), .second, .val (.long (x31 * x15)), .second, .unset, .unset, .unset] [(.long (x17 * x15))]))
      refine OwnOutW.go (fun t k => XS.lload X0.here hx rfl (hb hby at_151) rfl k) ?_
      show OwnOutW p e s below 16 2176 _ (T.setTop (mkF m 153 #[.val (.long x0), .second, .val (.long x2), .second, .val (.int x4), .val (.long x5), .second, .val (.long x7), .second, .val (.long x9), .second, .val (.long x11), .second, .val (.long x13), .second, .val (.long x15), .second, .val (.long x17), .second, .val (.long x19), .second, .val (.long x21), .second, .val (.ref b0), .val (.ref b1), .val (.int x25), .val (.int x26), .val (.int x27), .val (.int x28), .val (.int x29), .val (.int x30), .val (.long x31), .second, .val (.long (x31 * x15)), .second, .unset, .unset, .unset] [(.long x13), (.long (x17 * x15))]))
      refine OwnOutW.go (fun t k => XS.lcmp X0.here hx rfl (hb hby at_153) rfl k) ?_
      show OwnOutW p e s below 16 2176 _ (T.setTop (mkF m 154 #[.val (.long x0), .second, .val (.long x2), .second, .val (.int x4), .val (.long x5), .second, .val (.long x7), .second, .val (.long x9), .second, .val (.long x11), .second, .val (.long x13), .second, .val (.long x15), .second, .val (.long x17), .second, .val (.long x19), .second, .val (.long x21), .second, .val (.ref b0), .val (.ref b1), .val (.int x25), .val (.int x26), .val (.int x27), .val (.int x28), .val (.int x29), .val (.int x30), .val (.long x31), .second, .val (.long (x31 * x15)), .second, .unset, .unset, .unset] [(.int (XT.cmpL (x17 * x15) x13))]))
      by_cases hc154 : x13 < (x17 * x15)
      · rw [if_pos hc154] at hr
        refine OwnOutW.go (fun t k => XS.ifYes X0.here hx rfl (pc0 := 154) (pc' := 161) rfl (hb hby at_154) rfl (XT.ll_gt_t hc154) (by decide) (by decide) k) ?_
        show OwnOutW p e s below 16 2176 _ (T.setTop (mkF m 161 #[.val (.long x0), .second, .val (.long x2), .second, .val (.int x4), .val (.long x5), .second, .val (.long x7), .second, .val (.long x9), .second, .val (.long x11), .second, .val (.long x13), .second, .val (.long x15), .second, .val (.long x17), .second, .val (.long x19), .second, .val (.long x21), .second, .val (.ref b0), .val (.ref b1), .val (.int x25), .val (.int x26), .val (.int x27), .val (.int x28), .val (.int x29), .val (.int x30), .val (.long x31), .second, .val (.long (x31 * x15)), .second, .unset, .unset, .unset] []))
        exact w0_161 ⟨hx, hw, hby, hml, hret, hlk, hnm⟩  _ _ _ _ _ x0 x2 x4 x5 x7 x9 x11 x13 x15 x17 x19 x21 x25 x26 x27 x28 x29 x30 x31 (x31 * x15) b0 u0_limit u0_weight u0_spent b1 u1_limit u1_weight u1_spent _ hr X0 e0 N0 O0 K0 hZ hown hS0 hk0 E0 F0_limit F0_whole F0_weight F0_spent E1 F1_limit F1_whole F1_weight F1_spent g0 z0 g1 z1 ne0_1
      · rw [if_neg hc154] at hr
        refine OwnOutW.go (fun t k => XS.ifNo X0.here hx rfl (hb hby at_154) rfl (XT.ll_gt_f hc154) k) ?_
        show OwnOutW p e s below 16 2176 _ (T.setTop (mkF m 157 #[.val (.long x0), .second, .val (.long x2), .second, .val (.int x4), .val (.long x5), .second, .val (.long x7), .second, .val (.long x9), .second, .val (.long x11), .second, .val (.long x13), .second, .val (.long x15), .second, .val (.long x17), .second, .val (.long x19), .second, .val (.long x21), .second, .val (.ref b0), .val (.ref b1), .val (.int x25), .val (.int x26), .val (.int x27), .val (.int x28), .val (.int x29), .val (.int x30), .val (.long x31), .second, .val (.long (x31 * x15)), .second, .unset, .unset, .unset] []))
        refine OwnOutW.go (fun t k => XT.iconstV X0.here hx rfl (1 : Int32) (hb hby at_157) rfl k) ?_
        show OwnOutW p e s below 16 2176 _ (T.setTop (mkF m 158 #[.val (.long x0), .second, .val (.long x2), .second, .val (.int x4), .val (.long x5), .second, .val (.long x7), .second, .val (.long x9), .second, .val (.long x11), .second, .val (.long x13), .second, .val (.long x15), .second, .val (.long x17), .second, .val (.long x19), .second, .val (.long x21), .second, .val (.ref b0), .val (.ref b1), .val (.int x25), .val (.int x26), .val (.int x27), .val (.int x28), .val (.int x29), .val (.int x30), .val (.long x31), .second, .val (.long (x31 * x15)), .second, .unset, .unset, .unset] [(.int (1 : Int32))]))
        refine OwnOutW.go (fun t k => XS.goto X0.here hx rfl (pc0 := 158) (pc' := 162) rfl (hb hby at_158) (by decide) (by decide) k) ?_
        show OwnOutW p e s below 16 2176 _ (T.setTop (mkF m 162 #[.val (.long x0), .second, .val (.long x2), .second, .val (.int x4), .val (.long x5), .second, .val (.long x7), .second, .val (.long x9), .second, .val (.long x11), .second, .val (.long x13), .second, .val (.long x15), .second, .val (.long x17), .second, .val (.long x19), .second, .val (.long x21), .second, .val (.ref b0), .val (.ref b1), .val (.int x25), .val (.int x26), .val (.int x27), .val (.int x28), .val (.int x29), .val (.int x30), .val (.long x31), .second, .val (.long (x31 * x15)), .second, .unset, .unset, .unset] [(.int (1 : Int32))]))
        exact w0_162 ⟨hx, hw, hby, hml, hret, hlk, hnm⟩  _ _ _ _ _ x0 x2 x4 x5 x7 x9 x11 x13 x15 x17 x19 x21 x25 x26 x27 x28 x29 x30 x31 (x31 * x15) (1 : Int32) b0 u0_limit u0_weight u0_spent b1 u1_limit u1_weight u1_spent _ hr X0 e0 N0 O0 K0 hZ hown hS0 hk0 E0 F0_limit F0_whole F0_weight F0_spent E1 F1_limit F1_whole F1_weight F1_spent g0 z0 g1 z1 ne0_1
def f0 (x0 : Int64) (x2 : Int64) (x4 : Int32) (x5 : Int64) (x7 : Int64) (x9 : Int64) : Option (Int32) := ((f1 (x2 &&& (9223372036854775807 : Int64)) (0 : Int64) (0 : Int64) (0 : Int64)).bind fun o3 => ((f4 (x0 &&& (9223372036854775807 : Int64)) ((x4 &&& (65535 : Int32)).toInt64) (0 : Int64) (0 : Int64) (0 : Int64) o3.1 o3.2 (0 : Int64)).bind fun o6 => ((f6 (x5 &&& (1099511627775 : Int64)) o6.1 o6.2 (0 : Int64) o3.1 o3.2 (0 : Int64)).bind fun o7 => ((f6 (x7 &&& (1099511627775 : Int64)) o6.1 o6.2 o7.2.1 o3.1 o3.2 o7.2.2).bind fun o8 => ((f7 o6.1 o6.2 o8.2.1 o3.1 o3.2 o8.2.2).bind fun o9 => ((f7b o3.1 o3.2 o8.2.2).bind fun o10 => ((f6b (x9 &&& (1099511627775 : Int64)) o3.1 o3.2 o8.2.2).bind fun o11 => ((f7b o3.1 o3.2 o11.2).bind fun o12 => (f0_131 (x0 &&& (9223372036854775807 : Int64)) (x2 &&& (9223372036854775807 : Int64)) ((x4 &&& (65535 : Int32)).toInt64) (x5 &&& (1099511627775 : Int64)) (x9 &&& (1099511627775 : Int64)) o7.1 o8.1 o9 o10 o11.1 o12 ((x5 &&& (1099511627775 : Int64)) + (x7 &&& (1099511627775 : Int64))))))))))))
set_option maxRecDepth 65536 in
set_option maxHeartbeats 40000000 in
theorem w0_0 {p : Program} {l : Launch} {e : Env} {s : State} {m : MethodId} {args : Array Value} {below : List Frame} {meth : Method} {c : Code} {Z : State} {a0 : Array Value} {h0 : Heap} {n0 : Nat} (C : Cx0 Z a0 p s m meth c) :
    ∀ (T : State) (locs : List Loc) (hA : Heap) (vm0 : Vm) (k0 : Nat) (x0 : Int64) (x2 : Int64) (x4 : Int32) (x5 : Int64) (x7 : Int64) (x9 : Int64) (o : Int32), f0 x0 x2 x4 x5 x7 x9 = some o → Stand p l e room_1 (s.setVm vm0) m args below meth c T locs 0 0 → T.heap = hA → Fr n0 locs → Old Z n0 hA → Keep h0 hA [] → Z.Warmed39 vm0 → vm0.findClass (x.cls) = some m.cls → s.Since vm0 k0 → k0 ≤ hA.size →  OwnOutW p e s below 16 2176 (Q0 Z default default default default default default h0 n0 o) (T.setTop (mkF m 0 #[.val (.long x0), .second, .val (.long x2), .second, .val (.int x4), .val (.long x5), .second, .val (.long x7), .second, .val (.long x9), .second, .unset, .unset, .unset, .unset, .unset, .unset, .unset, .unset, .unset, .unset, .unset, .unset, .unset, .unset, .unset, .unset, .unset, .unset, .unset, .unset, .unset, .unset, .unset, .unset, .unset, .unset, .unset] [])) := by
    obtain ⟨hx, hw, hby, hml, hret, hlk, hnm⟩ := C
    intro T locs hA vm0 k0 x0 x2 x4 x5 x7 x9 o hr X0 e0 N0 O0 K0 hZ hown hS0 hk0
    rw [f0] at hr
    refine OwnOutW.go (fun t k => XS.lloadN X0.here hx rfl (hb hby at_0) rfl k) ?_
    show OwnOutW p e s below 16 2176 _ (T.setTop (mkF m 1 #[.val (.long x0), .second, .val (.long x2), .second, .val (.int x4), .val (.long x5), .second, .val (.long x7), .second, .val (.long x9), .second, .unset, .unset, .unset, .unset, .unset, .unset, .unset, .unset, .unset, .unset, .unset, .unset, .unset, .unset, .unset, .unset, .unset, .unset, .unset, .unset, .unset, .unset, .unset, .unset, .unset, .unset, .unset] [(.long x0)]))
    refine OwnOutW.go (fun t k => X0.ldc2Long hx hown (mvT hZ (hw _ (List.mem_of_getElem? (i := 0) rfl))) (g := (mkF m 1 #[.val (.long x0), .second, .val (.long x2), .second, .val (.int x4), .val (.long x5), .second, .val (.long x7), .second, .val (.long x9), .second, .unset, .unset, .unset, .unset, .unset, .unset, .unset, .unset, .unset, .unset, .unset, .unset, .unset, .unset, .unset, .unset, .unset, .unset, .unset, .unset, .unset, .unset, .unset, .unset, .unset, .unset, .unset] [(.long x0)])) rfl (hb hby at_1) _ k) ?_
    show OwnOutW p e s below 16 2176 _ (T.setTop (mkF m 4 #[.val (.long x0), .second, .val (.long x2), .second, .val (.int x4), .val (.long x5), .second, .val (.long x7), .second, .val (.long x9), .second, .unset, .unset, .unset, .unset, .unset, .unset, .unset, .unset, .unset, .unset, .unset, .unset, .unset, .unset, .unset, .unset, .unset, .unset, .unset, .unset, .unset, .unset, .unset, .unset, .unset, .unset, .unset] [(.long (9223372036854775807 : Int64)), (.long x0)]))
    refine OwnOutW.go (fun t k => XS.land X0.here hx rfl (hb hby at_4) rfl k) ?_
    show OwnOutW p e s below 16 2176 _ (T.setTop (mkF m 5 #[.val (.long x0), .second, .val (.long x2), .second, .val (.int x4), .val (.long x5), .second, .val (.long x7), .second, .val (.long x9), .second, .unset, .unset, .unset, .unset, .unset, .unset, .unset, .unset, .unset, .unset, .unset, .unset, .unset, .unset, .unset, .unset, .unset, .unset, .unset, .unset, .unset, .unset, .unset, .unset, .unset, .unset, .unset] [(.long (x0 &&& (9223372036854775807 : Int64)))]))
    refine OwnOutW.go (fun t k => XS.lstore X0.here hx rfl (hb hby at_5) rfl (l' := #[.val (.long x0), .second, .val (.long x2), .second, .val (.int x4), .val (.long x5), .second, .val (.long x7), .second, .val (.long x9), .second, .val (.long (x0 &&& (9223372036854775807 : Int64))), .second, .unset, .unset, .unset, .unset, .unset, .unset, .unset, .unset, .unset, .unset, .unset, .unset, .unset, .unset, .unset, .unset, .unset, .unset, .unset, .unset, .unset, .unset, .unset, .unset, .unset]) rfl k) ?_
    show OwnOutW p e s below 16 2176 _ (T.setTop (mkF m 7 #[.val (.long x0), .second, .val (.long x2), .second, .val (.int x4), .val (.long x5), .second, .val (.long x7), .second, .val (.long x9), .second, .val (.long (x0 &&& (9223372036854775807 : Int64))), .second, .unset, .unset, .unset, .unset, .unset, .unset, .unset, .unset, .unset, .unset, .unset, .unset, .unset, .unset, .unset, .unset, .unset, .unset, .unset, .unset, .unset, .unset, .unset, .unset, .unset] []))
    refine OwnOutW.go (fun t k => XS.lloadN X0.here hx rfl (hb hby at_7) rfl k) ?_
    show OwnOutW p e s below 16 2176 _ (T.setTop (mkF m 8 #[.val (.long x0), .second, .val (.long x2), .second, .val (.int x4), .val (.long x5), .second, .val (.long x7), .second, .val (.long x9), .second, .val (.long (x0 &&& (9223372036854775807 : Int64))), .second, .unset, .unset, .unset, .unset, .unset, .unset, .unset, .unset, .unset, .unset, .unset, .unset, .unset, .unset, .unset, .unset, .unset, .unset, .unset, .unset, .unset, .unset, .unset, .unset, .unset] [(.long x2)]))
    refine OwnOutW.go (fun t k => X0.ldc2Long hx hown (mvT hZ (hw _ (List.mem_of_getElem? (i := 0) rfl))) (g := (mkF m 8 #[.val (.long x0), .second, .val (.long x2), .second, .val (.int x4), .val (.long x5), .second, .val (.long x7), .second, .val (.long x9), .second, .val (.long (x0 &&& (9223372036854775807 : Int64))), .second, .unset, .unset, .unset, .unset, .unset, .unset, .unset, .unset, .unset, .unset, .unset, .unset, .unset, .unset, .unset, .unset, .unset, .unset, .unset, .unset, .unset, .unset, .unset, .unset, .unset] [(.long x2)])) rfl (hb hby at_8) _ k) ?_
    show OwnOutW p e s below 16 2176 _ (T.setTop (mkF m 11 #[.val (.long x0), .second, .val (.long x2), .second, .val (.int x4), .val (.long x5), .second, .val (.long x7), .second, .val (.long x9), .second, .val (.long (x0 &&& (9223372036854775807 : Int64))), .second, .unset, .unset, .unset, .unset, .unset, .unset, .unset, .unset, .unset, .unset, .unset, .unset, .unset, .unset, .unset, .unset, .unset, .unset, .unset, .unset, .unset, .unset, .unset, .unset, .unset] [(.long (9223372036854775807 : Int64)), (.long x2)]))
    refine OwnOutW.go (fun t k => XS.land X0.here hx rfl (hb hby at_11) rfl k) ?_
    show OwnOutW p e s below 16 2176 _ (T.setTop (mkF m 12 #[.val (.long x0), .second, .val (.long x2), .second, .val (.int x4), .val (.long x5), .second, .val (.long x7), .second, .val (.long x9), .second, .val (.long (x0 &&& (9223372036854775807 : Int64))), .second, .unset, .unset, .unset, .unset, .unset, .unset, .unset, .unset, .unset, .unset, .unset, .unset, .unset, .unset, .unset, .unset, .unset, .unset, .unset, .unset, .unset, .unset, .unset, .unset, .unset] [(.long (x2 &&& (9223372036854775807 : Int64)))]))
    refine OwnOutW.go (fun t k => XS.lstore X0.here hx rfl (hb hby at_12) rfl (l' := #[.val (.long x0), .second, .val (.long x2), .second, .val (.int x4), .val (.long x5), .second, .val (.long x7), .second, .val (.long x9), .second, .val (.long (x0 &&& (9223372036854775807 : Int64))), .second, .val (.long (x2 &&& (9223372036854775807 : Int64))), .second, .unset, .unset, .unset, .unset, .unset, .unset, .unset, .unset, .unset, .unset, .unset, .unset, .unset, .unset, .unset, .unset, .unset, .unset, .unset, .unset, .unset, .unset, .unset]) rfl k) ?_
    show OwnOutW p e s below 16 2176 _ (T.setTop (mkF m 14 #[.val (.long x0), .second, .val (.long x2), .second, .val (.int x4), .val (.long x5), .second, .val (.long x7), .second, .val (.long x9), .second, .val (.long (x0 &&& (9223372036854775807 : Int64))), .second, .val (.long (x2 &&& (9223372036854775807 : Int64))), .second, .unset, .unset, .unset, .unset, .unset, .unset, .unset, .unset, .unset, .unset, .unset, .unset, .unset, .unset, .unset, .unset, .unset, .unset, .unset, .unset, .unset, .unset, .unset] []))
    refine OwnOutW.go (fun t k => XS.iload X0.here hx rfl (hb hby at_14) rfl k) ?_
    show OwnOutW p e s below 16 2176 _ (T.setTop (mkF m 16 #[.val (.long x0), .second, .val (.long x2), .second, .val (.int x4), .val (.long x5), .second, .val (.long x7), .second, .val (.long x9), .second, .val (.long (x0 &&& (9223372036854775807 : Int64))), .second, .val (.long (x2 &&& (9223372036854775807 : Int64))), .second, .unset, .unset, .unset, .unset, .unset, .unset, .unset, .unset, .unset, .unset, .unset, .unset, .unset, .unset, .unset, .unset, .unset, .unset, .unset, .unset, .unset, .unset, .unset] [(.int x4)]))
    refine OwnOutW.go (fun t k => X0.ldcInt hx hown (mvT hZ (hw _ (List.mem_of_getElem? (i := 1) rfl))) (g := (mkF m 16 #[.val (.long x0), .second, .val (.long x2), .second, .val (.int x4), .val (.long x5), .second, .val (.long x7), .second, .val (.long x9), .second, .val (.long (x0 &&& (9223372036854775807 : Int64))), .second, .val (.long (x2 &&& (9223372036854775807 : Int64))), .second, .unset, .unset, .unset, .unset, .unset, .unset, .unset, .unset, .unset, .unset, .unset, .unset, .unset, .unset, .unset, .unset, .unset, .unset, .unset, .unset, .unset, .unset, .unset] [(.int x4)])) rfl (hb hby at_16) _ k) ?_
    show OwnOutW p e s below 16 2176 _ (T.setTop (mkF m 18 #[.val (.long x0), .second, .val (.long x2), .second, .val (.int x4), .val (.long x5), .second, .val (.long x7), .second, .val (.long x9), .second, .val (.long (x0 &&& (9223372036854775807 : Int64))), .second, .val (.long (x2 &&& (9223372036854775807 : Int64))), .second, .unset, .unset, .unset, .unset, .unset, .unset, .unset, .unset, .unset, .unset, .unset, .unset, .unset, .unset, .unset, .unset, .unset, .unset, .unset, .unset, .unset, .unset, .unset] [(.int (65535 : Int32)), (.int x4)]))
    refine OwnOutW.go (fun t k => XS.iand X0.here hx rfl (hb hby at_18) rfl k) ?_
    show OwnOutW p e s below 16 2176 _ (T.setTop (mkF m 19 #[.val (.long x0), .second, .val (.long x2), .second, .val (.int x4), .val (.long x5), .second, .val (.long x7), .second, .val (.long x9), .second, .val (.long (x0 &&& (9223372036854775807 : Int64))), .second, .val (.long (x2 &&& (9223372036854775807 : Int64))), .second, .unset, .unset, .unset, .unset, .unset, .unset, .unset, .unset, .unset, .unset, .unset, .unset, .unset, .unset, .unset, .unset, .unset, .unset, .unset, .unset, .unset, .unset, .unset] [(.int (x4 &&& (65535 : Int32)))]))
    refine OwnOutW.go (fun t k => XS.i2l X0.here hx rfl (hb hby at_19) rfl k) ?_
    show OwnOutW p e s below 16 2176 _ (T.setTop (mkF m 20 #[.val (.long x0), .second, .val (.long x2), .second, .val (.int x4), .val (.long x5), .second, .val (.long x7), .second, .val (.long x9), .second, .val (.long (x0 &&& (9223372036854775807 : Int64))), .second, .val (.long (x2 &&& (9223372036854775807 : Int64))), .second, .unset, .unset, .unset, .unset, .unset, .unset, .unset, .unset, .unset, .unset, .unset, .unset, .unset, .unset, .unset, .unset, .unset, .unset, .unset, .unset, .unset, .unset, .unset] [(.long ((x4 &&& (65535 : Int32)).toInt64))]))
    refine OwnOutW.go (fun t k => XS.lstore X0.here hx rfl (hb hby at_20) rfl (l' := #[.val (.long x0), .second, .val (.long x2), .second, .val (.int x4), .val (.long x5), .second, .val (.long x7), .second, .val (.long x9), .second, .val (.long (x0 &&& (9223372036854775807 : Int64))), .second, .val (.long (x2 &&& (9223372036854775807 : Int64))), .second, .val (.long ((x4 &&& (65535 : Int32)).toInt64)), .second, .unset, .unset, .unset, .unset, .unset, .unset, .unset, .unset, .unset, .unset, .unset, .unset, .unset, .unset, .unset, .unset, .unset, .unset, .unset, .unset, .unset]) rfl k) ?_
    show OwnOutW p e s below 16 2176 _ (T.setTop (mkF m 22 #[.val (.long x0), .second, .val (.long x2), .second, .val (.int x4), .val (.long x5), .second, .val (.long x7), .second, .val (.long x9), .second, .val (.long (x0 &&& (9223372036854775807 : Int64))), .second, .val (.long (x2 &&& (9223372036854775807 : Int64))), .second, .val (.long ((x4 &&& (65535 : Int32)).toInt64)), .second, .unset, .unset, .unset, .unset, .unset, .unset, .unset, .unset, .unset, .unset, .unset, .unset, .unset, .unset, .unset, .unset, .unset, .unset, .unset, .unset, .unset] []))
    refine OwnOutW.go (fun t k => XS.lload X0.here hx rfl (hb hby at_22) rfl k) ?_
    show OwnOutW p e s below 16 2176 _ (T.setTop (mkF m 24 #[.val (.long x0), .second, .val (.long x2), .second, .val (.int x4), .val (.long x5), .second, .val (.long x7), .second, .val (.long x9), .second, .val (.long (x0 &&& (9223372036854775807 : Int64))), .second, .val (.long (x2 &&& (9223372036854775807 : Int64))), .second, .val (.long ((x4 &&& (65535 : Int32)).toInt64)), .second, .unset, .unset, .unset, .unset, .unset, .unset, .unset, .unset, .unset, .unset, .unset, .unset, .unset, .unset, .unset, .unset, .unset, .unset, .unset, .unset, .unset] [(.long x5)]))
    refine OwnOutW.go (fun t k => X0.ldc2Long hx hown (mvT hZ (hw _ (List.mem_of_getElem? (i := 2) rfl))) (g := (mkF m 24 #[.val (.long x0), .second, .val (.long x2), .second, .val (.int x4), .val (.long x5), .second, .val (.long x7), .second, .val (.long x9), .second, .val (.long (x0 &&& (9223372036854775807 : Int64))), .second, .val (.long (x2 &&& (9223372036854775807 : Int64))), .second, .val (.long ((x4 &&& (65535 : Int32)).toInt64)), .second, .unset, .unset, .unset, .unset, .unset, .unset, .unset, .unset, .unset, .unset, .unset, .unset, .unset, .unset, .unset, .unset, .unset, .unset, .unset, .unset, .unset] [(.long x5)])) rfl (hb hby at_24) _ k) ?_
    show OwnOutW p e s below 16 2176 _ (T.setTop (mkF m 27 #[.val (.long x0), .second, .val (.long x2), .second, .val (.int x4), .val (.long x5), .second, .val (.long x7), .second, .val (.long x9), .second, .val (.long (x0 &&& (9223372036854775807 : Int64))), .second, .val (.long (x2 &&& (9223372036854775807 : Int64))), .second, .val (.long ((x4 &&& (65535 : Int32)).toInt64)), .second, .unset, .unset, .unset, .unset, .unset, .unset, .unset, .unset, .unset, .unset, .unset, .unset, .unset, .unset, .unset, .unset, .unset, .unset, .unset, .unset, .unset] [(.long (1099511627775 : Int64)), (.long x5)]))
    refine OwnOutW.go (fun t k => XS.land X0.here hx rfl (hb hby at_27) rfl k) ?_
    show OwnOutW p e s below 16 2176 _ (T.setTop (mkF m 28 #[.val (.long x0), .second, .val (.long x2), .second, .val (.int x4), .val (.long x5), .second, .val (.long x7), .second, .val (.long x9), .second, .val (.long (x0 &&& (9223372036854775807 : Int64))), .second, .val (.long (x2 &&& (9223372036854775807 : Int64))), .second, .val (.long ((x4 &&& (65535 : Int32)).toInt64)), .second, .unset, .unset, .unset, .unset, .unset, .unset, .unset, .unset, .unset, .unset, .unset, .unset, .unset, .unset, .unset, .unset, .unset, .unset, .unset, .unset, .unset] [(.long (x5 &&& (1099511627775 : Int64)))]))
    refine OwnOutW.go (fun t k => XS.lstore X0.here hx rfl (hb hby at_28) rfl (l' := #[.val (.long x0), .second, .val (.long x2), .second, .val (.int x4), .val (.long x5), .second, .val (.long x7), .second, .val (.long x9), .second, .val (.long (x0 &&& (9223372036854775807 : Int64))), .second, .val (.long (x2 &&& (9223372036854775807 : Int64))), .second, .val (.long ((x4 &&& (65535 : Int32)).toInt64)), .second, .val (.long (x5 &&& (1099511627775 : Int64))), .second, .unset, .unset, .unset, .unset, .unset, .unset, .unset, .unset, .unset, .unset, .unset, .unset, .unset, .unset, .unset, .unset, .unset, .unset, .unset]) rfl k) ?_
    show OwnOutW p e s below 16 2176 _ (T.setTop (mkF m 30 #[.val (.long x0), .second, .val (.long x2), .second, .val (.int x4), .val (.long x5), .second, .val (.long x7), .second, .val (.long x9), .second, .val (.long (x0 &&& (9223372036854775807 : Int64))), .second, .val (.long (x2 &&& (9223372036854775807 : Int64))), .second, .val (.long ((x4 &&& (65535 : Int32)).toInt64)), .second, .val (.long (x5 &&& (1099511627775 : Int64))), .second, .unset, .unset, .unset, .unset, .unset, .unset, .unset, .unset, .unset, .unset, .unset, .unset, .unset, .unset, .unset, .unset, .unset, .unset, .unset] []))
    refine OwnOutW.go (fun t k => XS.lload X0.here hx rfl (hb hby at_30) rfl k) ?_
    show OwnOutW p e s below 16 2176 _ (T.setTop (mkF m 32 #[.val (.long x0), .second, .val (.long x2), .second, .val (.int x4), .val (.long x5), .second, .val (.long x7), .second, .val (.long x9), .second, .val (.long (x0 &&& (9223372036854775807 : Int64))), .second, .val (.long (x2 &&& (9223372036854775807 : Int64))), .second, .val (.long ((x4 &&& (65535 : Int32)).toInt64)), .second, .val (.long (x5 &&& (1099511627775 : Int64))), .second, .unset, .unset, .unset, .unset, .unset, .unset, .unset, .unset, .unset, .unset, .unset, .unset, .unset, .unset, .unset, .unset, .unset, .unset, .unset] [(.long x7)]))
    refine OwnOutW.go (fun t k => X0.ldc2Long hx hown (mvT hZ (hw _ (List.mem_of_getElem? (i := 2) rfl))) (g := (mkF m 32 #[.val (.long x0), .second, .val (.long x2), .second, .val (.int x4), .val (.long x5), .second, .val (.long x7), .second, .val (.long x9), .second, .val (.long (x0 &&& (9223372036854775807 : Int64))), .second, .val (.long (x2 &&& (9223372036854775807 : Int64))), .second, .val (.long ((x4 &&& (65535 : Int32)).toInt64)), .second, .val (.long (x5 &&& (1099511627775 : Int64))), .second, .unset, .unset, .unset, .unset, .unset, .unset, .unset, .unset, .unset, .unset, .unset, .unset, .unset, .unset, .unset, .unset, .unset, .unset, .unset] [(.long x7)])) rfl (hb hby at_32) _ k) ?_
    show OwnOutW p e s below 16 2176 _ (T.setTop (mkF m 35 #[.val (.long x0), .second, .val (.long x2), .second, .val (.int x4), .val (.long x5), .second, .val (.long x7), .second, .val (.long x9), .second, .val (.long (x0 &&& (9223372036854775807 : Int64))), .second, .val (.long (x2 &&& (9223372036854775807 : Int64))), .second, .val (.long ((x4 &&& (65535 : Int32)).toInt64)), .second, .val (.long (x5 &&& (1099511627775 : Int64))), .second, .unset, .unset, .unset, .unset, .unset, .unset, .unset, .unset, .unset, .unset, .unset, .unset, .unset, .unset, .unset, .unset, .unset, .unset, .unset] [(.long (1099511627775 : Int64)), (.long x7)]))
    refine OwnOutW.go (fun t k => XS.land X0.here hx rfl (hb hby at_35) rfl k) ?_
    show OwnOutW p e s below 16 2176 _ (T.setTop (mkF m 36 #[.val (.long x0), .second, .val (.long x2), .second, .val (.int x4), .val (.long x5), .second, .val (.long x7), .second, .val (.long x9), .second, .val (.long (x0 &&& (9223372036854775807 : Int64))), .second, .val (.long (x2 &&& (9223372036854775807 : Int64))), .second, .val (.long ((x4 &&& (65535 : Int32)).toInt64)), .second, .val (.long (x5 &&& (1099511627775 : Int64))), .second, .unset, .unset, .unset, .unset, .unset, .unset, .unset, .unset, .unset, .unset, .unset, .unset, .unset, .unset, .unset, .unset, .unset, .unset, .unset] [(.long (x7 &&& (1099511627775 : Int64)))]))
    refine OwnOutW.go (fun t k => XS.lstore X0.here hx rfl (hb hby at_36) rfl (l' := #[.val (.long x0), .second, .val (.long x2), .second, .val (.int x4), .val (.long x5), .second, .val (.long x7), .second, .val (.long x9), .second, .val (.long (x0 &&& (9223372036854775807 : Int64))), .second, .val (.long (x2 &&& (9223372036854775807 : Int64))), .second, .val (.long ((x4 &&& (65535 : Int32)).toInt64)), .second, .val (.long (x5 &&& (1099511627775 : Int64))), .second, .val (.long (x7 &&& (1099511627775 : Int64))), .second, .unset, .unset, .unset, .unset, .unset, .unset, .unset, .unset, .unset, .unset, .unset, .unset, .unset, .unset, .unset, .unset, .unset]) rfl k) ?_
    show OwnOutW p e s below 16 2176 _ (T.setTop (mkF m 38 #[.val (.long x0), .second, .val (.long x2), .second, .val (.int x4), .val (.long x5), .second, .val (.long x7), .second, .val (.long x9), .second, .val (.long (x0 &&& (9223372036854775807 : Int64))), .second, .val (.long (x2 &&& (9223372036854775807 : Int64))), .second, .val (.long ((x4 &&& (65535 : Int32)).toInt64)), .second, .val (.long (x5 &&& (1099511627775 : Int64))), .second, .val (.long (x7 &&& (1099511627775 : Int64))), .second, .unset, .unset, .unset, .unset, .unset, .unset, .unset, .unset, .unset, .unset, .unset, .unset, .unset, .unset, .unset, .unset, .unset] []))
    refine OwnOutW.go (fun t k => XS.lload X0.here hx rfl (hb hby at_38) rfl k) ?_
    show OwnOutW p e s below 16 2176 _ (T.setTop (mkF m 40 #[.val (.long x0), .second, .val (.long x2), .second, .val (.int x4), .val (.long x5), .second, .val (.long x7), .second, .val (.long x9), .second, .val (.long (x0 &&& (9223372036854775807 : Int64))), .second, .val (.long (x2 &&& (9223372036854775807 : Int64))), .second, .val (.long ((x4 &&& (65535 : Int32)).toInt64)), .second, .val (.long (x5 &&& (1099511627775 : Int64))), .second, .val (.long (x7 &&& (1099511627775 : Int64))), .second, .unset, .unset, .unset, .unset, .unset, .unset, .unset, .unset, .unset, .unset, .unset, .unset, .unset, .unset, .unset, .unset, .unset] [(.long x9)]))
    refine OwnOutW.go (fun t k => X0.ldc2Long hx hown (mvT hZ (hw _ (List.mem_of_getElem? (i := 2) rfl))) (g := (mkF m 40 #[.val (.long x0), .second, .val (.long x2), .second, .val (.int x4), .val (.long x5), .second, .val (.long x7), .second, .val (.long x9), .second, .val (.long (x0 &&& (9223372036854775807 : Int64))), .second, .val (.long (x2 &&& (9223372036854775807 : Int64))), .second, .val (.long ((x4 &&& (65535 : Int32)).toInt64)), .second, .val (.long (x5 &&& (1099511627775 : Int64))), .second, .val (.long (x7 &&& (1099511627775 : Int64))), .second, .unset, .unset, .unset, .unset, .unset, .unset, .unset, .unset, .unset, .unset, .unset, .unset, .unset, .unset, .unset, .unset, .unset] [(.long x9)])) rfl (hb hby at_40) _ k) ?_
    show OwnOutW p e s below 16 2176 _ (T.setTop (mkF m 43 #[.val (.long x0), .second, .val (.long x2), .second, .val (.int x4), .val (.long x5), .second, .val (.long x7), .second, .val (.long x9), .second, .val (.long (x0 &&& (9223372036854775807 : Int64))), .second, .val (.long (x2 &&& (9223372036854775807 : Int64))), .second, .val (.long ((x4 &&& (65535 : Int32)).toInt64)), .second, .val (.long (x5 &&& (1099511627775 : Int64))), .second, .val (.long (x7 &&& (1099511627775 : Int64))), .second, .unset, .unset, .unset, .unset, .unset, .unset, .unset, .unset, .unset, .unset, .unset, .unset, .unset, .unset, .unset, .unset, .unset] [(.long (1099511627775 : Int64)), (.long x9)]))
    refine OwnOutW.go (fun t k => XS.land X0.here hx rfl (hb hby at_43) rfl k) ?_
    show OwnOutW p e s below 16 2176 _ (T.setTop (mkF m 44 #[.val (.long x0), .second, .val (.long x2), .second, .val (.int x4), .val (.long x5), .second, .val (.long x7), .second, .val (.long x9), .second, .val (.long (x0 &&& (9223372036854775807 : Int64))), .second, .val (.long (x2 &&& (9223372036854775807 : Int64))), .second, .val (.long ((x4 &&& (65535 : Int32)).toInt64)), .second, .val (.long (x5 &&& (1099511627775 : Int64))), .second, .val (.long (x7 &&& (1099511627775 : Int64))), .second, .unset, .unset, .unset, .unset, .unset, .unset, .unset, .unset, .unset, .unset, .unset, .unset, .unset, .unset, .unset, .unset, .unset] [(.long (x9 &&& (1099511627775 : Int64)))]))
    refine OwnOutW.go (fun t k => XS.lstore X0.here hx rfl (hb hby at_44) rfl (l' := #[.val (.long x0), .second, .val (.long x2), .second, .val (.int x4), .val (.long x5), .second, .val (.long x7), .second, .val (.long x9), .second, .val (.long (x0 &&& (9223372036854775807 : Int64))), .second, .val (.long (x2 &&& (9223372036854775807 : Int64))), .second, .val (.long ((x4 &&& (65535 : Int32)).toInt64)), .second, .val (.long (x5 &&& (1099511627775 : Int64))), .second, .val (.long (x7 &&& (1099511627775 : Int64))), .second, .val (.long (x9 &&& (1099511627775 : Int64))), .second, .unset, .unset, .unset, .unset, .unset, .unset, .unset, .unset, .unset, .unset, .unset, .unset, .unset, .unset, .unset]) rfl k) ?_
    show OwnOutW p e s below 16 2176 _ (T.setTop (mkF m 46 #[.val (.long x0), .second, .val (.long x2), .second, .val (.int x4), .val (.long x5), .second, .val (.long x7), .second, .val (.long x9), .second, .val (.long (x0 &&& (9223372036854775807 : Int64))), .second, .val (.long (x2 &&& (9223372036854775807 : Int64))), .second, .val (.long ((x4 &&& (65535 : Int32)).toInt64)), .second, .val (.long (x5 &&& (1099511627775 : Int64))), .second, .val (.long (x7 &&& (1099511627775 : Int64))), .second, .val (.long (x9 &&& (1099511627775 : Int64))), .second, .unset, .unset, .unset, .unset, .unset, .unset, .unset, .unset, .unset, .unset, .unset, .unset, .unset, .unset, .unset] []))
    obtain ⟨T1, h1, X1, e1, Ex1, E_1, Df1, -, st1⟩ := newO X0 hx hZ hown (hw _ (List.mem_of_getElem? (i := 3) rfl)) (hw _ (List.mem_of_getElem? (i := 4) rfl)) (hw _ (List.mem_of_getElem? (i := 5) rfl)) e0 (g := (mkF m 46 #[.val (.long x0), .second, .val (.long x2), .second, .val (.int x4), .val (.long x5), .second, .val (.long x7), .second, .val (.long x9), .second, .val (.long (x0 &&& (9223372036854775807 : Int64))), .second, .val (.long (x2 &&& (9223372036854775807 : Int64))), .second, .val (.long ((x4 &&& (65535 : Int32)).toInt64)), .second, .val (.long (x5 &&& (1099511627775 : Int64))), .second, .val (.long (x7 &&& (1099511627775 : Int64))), .second, .val (.long (x9 &&& (1099511627775 : Int64))), .second, .unset, .unset, .unset, .unset, .unset, .unset, .unset, .unset, .unset, .unset, .unset, .unset, .unset, .unset, .unset] [])) rfl (hb hby at_46) (by decide) (by decide)
    obtain ⟨c1, gc1⟩ : ∃ z, z = hA.size := ⟨_, rfl⟩
    rw [← gc1] at E_1 st1
    have F_limit_1 : Fld Z h1 c1 (site_54.cls) "limit" "J" (.long (0 : Int64)) := by rw [gc1]; exact Df1 (Or.inr (hw _ (List.mem_of_getElem? (i := 24) rfl))) (ty := .long) (by decide)
    have F_whole_1 : Fld Z h1 c1 (site_54.cls) "whole" (own_wD) .null := by rw [gc1]; exact Df1 (Or.inr (hw _ (List.mem_of_getElem? (i := 26) rfl))) (ty := (.object (site_54.cls))) (by decide)
    have F_weight_1 : Fld Z h1 c1 (site_54.cls) "weight" "J" (.long (0 : Int64)) := by rw [gc1]; exact Df1 (Or.inr (hw _ (List.mem_of_getElem? (i := 28) rfl))) (ty := .long) (by decide)
    have F_spent_1 : Fld Z h1 c1 (site_54.cls) "spent" "J" (.long (0 : Int64)) := by rw [gc1]; exact Df1 (Or.inl (hw _ (List.mem_of_getElem? (i := 45) rfl))) (ty := .long) (by decide)
    refine OwnOutW.go (fun t k => st1 _ k) ?_
    have g_1 : n0 ≤ c1 := gc1 ▸ (O0.1 ▸ O0.2.1)
    have z_1 : h0.size ≤ c1 := gc1 ▸ K0.1
    have O_1 := O0.ext Ex1
    have K_1 := K0.ext Ex1
    have hk_1 := Nat.le_trans hk0 Ex1.1
    show OwnOutW p e s below 16 2176 _ (T1.setTop (mkF m 49 #[.val (.long x0), .second, .val (.long x2), .second, .val (.int x4), .val (.long x5), .second, .val (.long x7), .second, .val (.long x9), .second, .val (.long (x0 &&& (9223372036854775807 : Int64))), .second, .val (.long (x2 &&& (9223372036854775807 : Int64))), .second, .val (.long ((x4 &&& (65535 : Int32)).toInt64)), .second, .val (.long (x5 &&& (1099511627775 : Int64))), .second, .val (.long (x7 &&& (1099511627775 : Int64))), .second, .val (.long (x9 &&& (1099511627775 : Int64))), .second, .unset, .unset, .unset, .unset, .unset, .unset, .unset, .unset, .unset, .unset, .unset, .unset, .unset, .unset, .unset] [(.ref c1)]))
    refine OwnOutW.go (fun t k => XS.dup X1.here hx rfl (hb hby at_49) rfl rfl k) ?_
    show OwnOutW p e s below 16 2176 _ (T1.setTop (mkF m 50 #[.val (.long x0), .second, .val (.long x2), .second, .val (.int x4), .val (.long x5), .second, .val (.long x7), .second, .val (.long x9), .second, .val (.long (x0 &&& (9223372036854775807 : Int64))), .second, .val (.long (x2 &&& (9223372036854775807 : Int64))), .second, .val (.long ((x4 &&& (65535 : Int32)).toInt64)), .second, .val (.long (x5 &&& (1099511627775 : Int64))), .second, .val (.long (x7 &&& (1099511627775 : Int64))), .second, .val (.long (x9 &&& (1099511627775 : Int64))), .second, .unset, .unset, .unset, .unset, .unset, .unset, .unset, .unset, .unset, .unset, .unset, .unset, .unset, .unset, .unset] [(.ref c1), (.ref c1)]))
    refine OwnOutW.go (fun t k => XS.lload X1.here hx rfl (hb hby at_50) rfl k) ?_
    show OwnOutW p e s below 16 2176 _ (T1.setTop (mkF m 52 #[.val (.long x0), .second, .val (.long x2), .second, .val (.int x4), .val (.long x5), .second, .val (.long x7), .second, .val (.long x9), .second, .val (.long (x0 &&& (9223372036854775807 : Int64))), .second, .val (.long (x2 &&& (9223372036854775807 : Int64))), .second, .val (.long ((x4 &&& (65535 : Int32)).toInt64)), .second, .val (.long (x5 &&& (1099511627775 : Int64))), .second, .val (.long (x7 &&& (1099511627775 : Int64))), .second, .val (.long (x9 &&& (1099511627775 : Int64))), .second, .unset, .unset, .unset, .unset, .unset, .unset, .unset, .unset, .unset, .unset, .unset, .unset, .unset, .unset, .unset] [(.long (x2 &&& (9223372036854775807 : Int64))), (.ref c1), (.ref c1)]))
    obtain ⟨c2, T2, h2, k2, X2, e2, Ex2, hS2, hk2, hZ, hown, st2⟩ := ldcS X1 hx hZ hown (hw _ (List.mem_of_getElem? (i := 6) rfl)) (own_wS hw) e1 hS0 hk_1 (g := (mkF m 52 #[.val (.long x0), .second, .val (.long x2), .second, .val (.int x4), .val (.long x5), .second, .val (.long x7), .second, .val (.long x9), .second, .val (.long (x0 &&& (9223372036854775807 : Int64))), .second, .val (.long (x2 &&& (9223372036854775807 : Int64))), .second, .val (.long ((x4 &&& (65535 : Int32)).toInt64)), .second, .val (.long (x5 &&& (1099511627775 : Int64))), .second, .val (.long (x7 &&& (1099511627775 : Int64))), .second, .val (.long (x9 &&& (1099511627775 : Int64))), .second, .unset, .unset, .unset, .unset, .unset, .unset, .unset, .unset, .unset, .unset, .unset, .unset, .unset, .unset, .unset] [(.long (x2 &&& (9223372036854775807 : Int64))), (.ref c1), (.ref c1)])) rfl (hb hby at_52) (n := 4) (by decide) (by decide) (by decide) (by decide)
    refine OwnOutW.go (fun t k => st2 _ k) ?_
    have E0_2 := E_1.ext Ex2
    have F0_limit_2 := F_limit_1.ext Ex2
    have F0_whole_2 := F_whole_1.ext Ex2
    have F0_weight_2 := F_weight_1.ext Ex2
    have F0_spent_2 := F_spent_1.ext Ex2
    have O_2 := O_1.ext Ex2
    have K_2 := K_1.ext Ex2
    have hk_2 := Nat.le_trans hk_1 Ex2.1
    show OwnOutW p e s below 16 2176 _ (T2.setTop (mkF m 54 #[.val (.long x0), .second, .val (.long x2), .second, .val (.int x4), .val (.long x5), .second, .val (.long x7), .second, .val (.long x9), .second, .val (.long (x0 &&& (9223372036854775807 : Int64))), .second, .val (.long (x2 &&& (9223372036854775807 : Int64))), .second, .val (.long ((x4 &&& (65535 : Int32)).toInt64)), .second, .val (.long (x5 &&& (1099511627775 : Int64))), .second, .val (.long (x7 &&& (1099511627775 : Int64))), .second, .val (.long (x9 &&& (1099511627775 : Int64))), .second, .unset, .unset, .unset, .unset, .unset, .unset, .unset, .unset, .unset, .unset, .unset, .unset, .unset, .unset, .unset] [(.ref c2), (.long (x2 &&& (9223372036854775807 : Int64))), (.ref c1), (.ref c1)]))
    obtain ⟨o3, ho3, hr⟩ := Option.bind_eq_some_iff.mp hr
    obtain ⟨r3, T3, L3, X3', hQ3, st3⟩ := callN (W := 1) (rm := rx1) X2 hx hZ rfl (y := (⟨(site_54.cls), "<init>", "(JLjava/lang/String;)V"⟩ : MethodName)) rfl hown (hw _ (List.mem_of_getElem? (i := 14) rfl)) (hw _ (List.mem_of_getElem? (i := 15) rfl)) (hw _ (List.mem_of_getElem? (i := 5) rfl)) (hw _ (List.mem_of_getElem? (i := 16) rfl)) (by decide) (rm1 l Z a0 hw [] (x2 &&& (9223372036854775807 : Int64)) c2 c1 (0 : Int64) (0 : Int64) (0 : Int64) h2 n0 o3 ho3 O_2 E0_2 F0_limit_2 F0_whole_2 F0_weight_2 F0_spent_2 g_1) (by decide) (by decide) (by decide) (by decide) e2 (g := (mkF m 54 #[.val (.long x0), .second, .val (.long x2), .second, .val (.int x4), .val (.long x5), .second, .val (.long x7), .second, .val (.long x9), .second, .val (.long (x0 &&& (9223372036854775807 : Int64))), .second, .val (.long (x2 &&& (9223372036854775807 : Int64))), .second, .val (.long ((x4 &&& (65535 : Int32)).toInt64)), .second, .val (.long (x5 &&& (1099511627775 : Int64))), .second, .val (.long (x7 &&& (1099511627775 : Int64))), .second, .val (.long (x9 &&& (1099511627775 : Int64))), .second, .unset, .unset, .unset, .unset, .unset, .unset, .unset, .unset, .unset, .unset, .unset, .unset, .unset, .unset, .unset] [(.ref c2), (.long (x2 &&& (9223372036854775807 : Int64))), (.ref c1), (.ref c1)])) rfl (by rw [hml]; rfl) (argsL := [(.long (x2 &&& (9223372036854775807 : Int64))), (.ref c2)]) (rest := [(.ref c1)]) (lenOf pd1 rfl) rfl (by show 2 * 0 + _ ≤ _; exact Nat.le_of_eq rfl) (hb hby at_54)
    obtain ⟨rfl, Nq3, Kq3, F0_limit_3, F0_whole_3, F0_weight_3, F0_spent_3⟩ := hQ3
    have X3 : Stand p l e room_1 _ m args below meth c T3 _ 3 12 := X3'
    have hk_3 := Nat.le_trans hk2 Kq3.1
    have E0_3 := E0_2.keep Kq3
    have N_3 := Fr.app N0 Nq3
    have O_3 := O_2.keep Kq3 (allS g_1 all0)
    have K_3 := K_2.trans Kq3 (allS (Or.inr z_1) all0)
    refine OwnOutW.go (fun t k => st3 _ k) ?_
    show OwnOutW p e s below 16 2176 _ (T3.setTop (mkF m 57 #[.val (.long x0), .second, .val (.long x2), .second, .val (.int x4), .val (.long x5), .second, .val (.long x7), .second, .val (.long x9), .second, .val (.long (x0 &&& (9223372036854775807 : Int64))), .second, .val (.long (x2 &&& (9223372036854775807 : Int64))), .second, .val (.long ((x4 &&& (65535 : Int32)).toInt64)), .second, .val (.long (x5 &&& (1099511627775 : Int64))), .second, .val (.long (x7 &&& (1099511627775 : Int64))), .second, .val (.long (x9 &&& (1099511627775 : Int64))), .second, .unset, .unset, .unset, .unset, .unset, .unset, .unset, .unset, .unset, .unset, .unset, .unset, .unset, .unset, .unset] [(.ref c1)]))
    refine OwnOutW.go (fun t k => XS.astore X3.here hx rfl (hb hby at_57) rfl rfl (l' := #[.val (.long x0), .second, .val (.long x2), .second, .val (.int x4), .val (.long x5), .second, .val (.long x7), .second, .val (.long x9), .second, .val (.long (x0 &&& (9223372036854775807 : Int64))), .second, .val (.long (x2 &&& (9223372036854775807 : Int64))), .second, .val (.long ((x4 &&& (65535 : Int32)).toInt64)), .second, .val (.long (x5 &&& (1099511627775 : Int64))), .second, .val (.long (x7 &&& (1099511627775 : Int64))), .second, .val (.long (x9 &&& (1099511627775 : Int64))), .second, .val (.ref c1), .unset, .unset, .unset, .unset, .unset, .unset, .unset, .unset, .unset, .unset, .unset, .unset, .unset, .unset]) rfl k) ?_
    show OwnOutW p e s below 16 2176 _ (T3.setTop (mkF m 59 #[.val (.long x0), .second, .val (.long x2), .second, .val (.int x4), .val (.long x5), .second, .val (.long x7), .second, .val (.long x9), .second, .val (.long (x0 &&& (9223372036854775807 : Int64))), .second, .val (.long (x2 &&& (9223372036854775807 : Int64))), .second, .val (.long ((x4 &&& (65535 : Int32)).toInt64)), .second, .val (.long (x5 &&& (1099511627775 : Int64))), .second, .val (.long (x7 &&& (1099511627775 : Int64))), .second, .val (.long (x9 &&& (1099511627775 : Int64))), .second, .val (.ref c1), .unset, .unset, .unset, .unset, .unset, .unset, .unset, .unset, .unset, .unset, .unset, .unset, .unset, .unset] []))
    obtain ⟨T4, h4, X4, e4, Ex4, E_4, Df4, -, st4⟩ := newO X3 hx hZ hown (hw _ (List.mem_of_getElem? (i := 3) rfl)) (hw _ (List.mem_of_getElem? (i := 4) rfl)) (hw _ (List.mem_of_getElem? (i := 5) rfl)) rfl (g := (mkF m 59 #[.val (.long x0), .second, .val (.long x2), .second, .val (.int x4), .val (.long x5), .second, .val (.long x7), .second, .val (.long x9), .second, .val (.long (x0 &&& (9223372036854775807 : Int64))), .second, .val (.long (x2 &&& (9223372036854775807 : Int64))), .second, .val (.long ((x4 &&& (65535 : Int32)).toInt64)), .second, .val (.long (x5 &&& (1099511627775 : Int64))), .second, .val (.long (x7 &&& (1099511627775 : Int64))), .second, .val (.long (x9 &&& (1099511627775 : Int64))), .second, .val (.ref c1), .unset, .unset, .unset, .unset, .unset, .unset, .unset, .unset, .unset, .unset, .unset, .unset, .unset, .unset] [])) rfl (hb hby at_59) (by decide) (by decide)
    obtain ⟨c4, gc4⟩ : ∃ z, z = T3.heap.size := ⟨_, rfl⟩
    rw [← gc4] at E_4 st4
    have F_limit_4 : Fld Z h4 c4 (site_54.cls) "limit" "J" (.long (0 : Int64)) := by rw [gc4]; exact Df4 (Or.inr (hw _ (List.mem_of_getElem? (i := 24) rfl))) (ty := .long) (by decide)
    have F_whole_4 : Fld Z h4 c4 (site_54.cls) "whole" (own_wD) .null := by rw [gc4]; exact Df4 (Or.inr (hw _ (List.mem_of_getElem? (i := 26) rfl))) (ty := (.object (site_54.cls))) (by decide)
    have F_weight_4 : Fld Z h4 c4 (site_54.cls) "weight" "J" (.long (0 : Int64)) := by rw [gc4]; exact Df4 (Or.inr (hw _ (List.mem_of_getElem? (i := 28) rfl))) (ty := .long) (by decide)
    have F_spent_4 : Fld Z h4 c4 (site_54.cls) "spent" "J" (.long (0 : Int64)) := by rw [gc4]; exact Df4 (Or.inl (hw _ (List.mem_of_getElem? (i := 45) rfl))) (ty := .long) (by decide)
    refine OwnOutW.go (fun t k => st4 _ k) ?_
    have ne0_1_4 : c1 ≠ c4 := Nat.ne_of_lt (gc4 ▸ E0_3.lt)
    have E0_4 := E0_3.ext Ex4
    have F0_limit_4 := F0_limit_3.ext Ex4
    have F0_whole_4 := F0_whole_3.ext Ex4
    have F0_weight_4 := F0_weight_3.ext Ex4
    have F0_spent_4 := F0_spent_3.ext Ex4
    have g_4 : n0 ≤ c4 := gc4 ▸ (O_3.1 ▸ O_3.2.1)
    have z_4 : h0.size ≤ c4 := gc4 ▸ K_3.1
    have O_4 := O_3.ext Ex4
    have K_4 := K_3.ext Ex4
    have hk_4 := Nat.le_trans hk_3 Ex4.1
    show OwnOutW p e s below 16 2176 _ (T4.setTop (mkF m 62 #[.val (.long x0), .second, .val (.long x2), .second, .val (.int x4), .val (.long x5), .second, .val (.long x7), .second, .val (.long x9), .second, .val (.long (x0 &&& (9223372036854775807 : Int64))), .second, .val (.long (x2 &&& (9223372036854775807 : Int64))), .second, .val (.long ((x4 &&& (65535 : Int32)).toInt64)), .second, .val (.long (x5 &&& (1099511627775 : Int64))), .second, .val (.long (x7 &&& (1099511627775 : Int64))), .second, .val (.long (x9 &&& (1099511627775 : Int64))), .second, .val (.ref c1), .unset, .unset, .unset, .unset, .unset, .unset, .unset, .unset, .unset, .unset, .unset, .unset, .unset, .unset] [(.ref c4)]))
    refine OwnOutW.go (fun t k => XS.dup X4.here hx rfl (hb hby at_62) rfl rfl k) ?_
    show OwnOutW p e s below 16 2176 _ (T4.setTop (mkF m 63 #[.val (.long x0), .second, .val (.long x2), .second, .val (.int x4), .val (.long x5), .second, .val (.long x7), .second, .val (.long x9), .second, .val (.long (x0 &&& (9223372036854775807 : Int64))), .second, .val (.long (x2 &&& (9223372036854775807 : Int64))), .second, .val (.long ((x4 &&& (65535 : Int32)).toInt64)), .second, .val (.long (x5 &&& (1099511627775 : Int64))), .second, .val (.long (x7 &&& (1099511627775 : Int64))), .second, .val (.long (x9 &&& (1099511627775 : Int64))), .second, .val (.ref c1), .unset, .unset, .unset, .unset, .unset, .unset, .unset, .unset, .unset, .unset, .unset, .unset, .unset, .unset] [(.ref c4), (.ref c4)]))
    refine OwnOutW.go (fun t k => XS.lload X4.here hx rfl (hb hby at_63) rfl k) ?_
    show OwnOutW p e s below 16 2176 _ (T4.setTop (mkF m 65 #[.val (.long x0), .second, .val (.long x2), .second, .val (.int x4), .val (.long x5), .second, .val (.long x7), .second, .val (.long x9), .second, .val (.long (x0 &&& (9223372036854775807 : Int64))), .second, .val (.long (x2 &&& (9223372036854775807 : Int64))), .second, .val (.long ((x4 &&& (65535 : Int32)).toInt64)), .second, .val (.long (x5 &&& (1099511627775 : Int64))), .second, .val (.long (x7 &&& (1099511627775 : Int64))), .second, .val (.long (x9 &&& (1099511627775 : Int64))), .second, .val (.ref c1), .unset, .unset, .unset, .unset, .unset, .unset, .unset, .unset, .unset, .unset, .unset, .unset, .unset, .unset] [(.long (x0 &&& (9223372036854775807 : Int64))), (.ref c4), (.ref c4)]))
    obtain ⟨c5, T5, h5, k5, X5, e5, Ex5, hS5, hk5, hZ, hown, st5⟩ := ldcS X4 hx hZ hown (hw _ (List.mem_of_getElem? (i := 6) rfl)) (own_wS hw) e4 hS2 hk_4 (g := (mkF m 65 #[.val (.long x0), .second, .val (.long x2), .second, .val (.int x4), .val (.long x5), .second, .val (.long x7), .second, .val (.long x9), .second, .val (.long (x0 &&& (9223372036854775807 : Int64))), .second, .val (.long (x2 &&& (9223372036854775807 : Int64))), .second, .val (.long ((x4 &&& (65535 : Int32)).toInt64)), .second, .val (.long (x5 &&& (1099511627775 : Int64))), .second, .val (.long (x7 &&& (1099511627775 : Int64))), .second, .val (.long (x9 &&& (1099511627775 : Int64))), .second, .val (.ref c1), .unset, .unset, .unset, .unset, .unset, .unset, .unset, .unset, .unset, .unset, .unset, .unset, .unset, .unset] [(.long (x0 &&& (9223372036854775807 : Int64))), (.ref c4), (.ref c4)])) rfl (hb hby at_65) (n := 4) (by decide) (by decide) (by decide) (by decide)
    refine OwnOutW.go (fun t k => st5 _ k) ?_
    have E0_5 := E0_4.ext Ex5
    have F0_limit_5 := F0_limit_4.ext Ex5
    have F0_whole_5 := F0_whole_4.ext Ex5
    have F0_weight_5 := F0_weight_4.ext Ex5
    have F0_spent_5 := F0_spent_4.ext Ex5
    have E1_5 := E_4.ext Ex5
    have F1_limit_5 := F_limit_4.ext Ex5
    have F1_whole_5 := F_whole_4.ext Ex5
    have F1_weight_5 := F_weight_4.ext Ex5
    have F1_spent_5 := F_spent_4.ext Ex5
    have O_5 := O_4.ext Ex5
    have K_5 := K_4.ext Ex5
    have hk_5 := Nat.le_trans hk_4 Ex5.1
    show OwnOutW p e s below 16 2176 _ (T5.setTop (mkF m 67 #[.val (.long x0), .second, .val (.long x2), .second, .val (.int x4), .val (.long x5), .second, .val (.long x7), .second, .val (.long x9), .second, .val (.long (x0 &&& (9223372036854775807 : Int64))), .second, .val (.long (x2 &&& (9223372036854775807 : Int64))), .second, .val (.long ((x4 &&& (65535 : Int32)).toInt64)), .second, .val (.long (x5 &&& (1099511627775 : Int64))), .second, .val (.long (x7 &&& (1099511627775 : Int64))), .second, .val (.long (x9 &&& (1099511627775 : Int64))), .second, .val (.ref c1), .unset, .unset, .unset, .unset, .unset, .unset, .unset, .unset, .unset, .unset, .unset, .unset, .unset, .unset] [(.ref c5), (.long (x0 &&& (9223372036854775807 : Int64))), (.ref c4), (.ref c4)]))
    refine OwnOutW.go (fun t k => XS.aload X5.here hx rfl (hb hby at_67) rfl rfl k) ?_
    show OwnOutW p e s below 16 2176 _ (T5.setTop (mkF m 69 #[.val (.long x0), .second, .val (.long x2), .second, .val (.int x4), .val (.long x5), .second, .val (.long x7), .second, .val (.long x9), .second, .val (.long (x0 &&& (9223372036854775807 : Int64))), .second, .val (.long (x2 &&& (9223372036854775807 : Int64))), .second, .val (.long ((x4 &&& (65535 : Int32)).toInt64)), .second, .val (.long (x5 &&& (1099511627775 : Int64))), .second, .val (.long (x7 &&& (1099511627775 : Int64))), .second, .val (.long (x9 &&& (1099511627775 : Int64))), .second, .val (.ref c1), .unset, .unset, .unset, .unset, .unset, .unset, .unset, .unset, .unset, .unset, .unset, .unset, .unset, .unset] [(.ref c1), (.ref c5), (.long (x0 &&& (9223372036854775807 : Int64))), (.ref c4), (.ref c4)]))
    refine OwnOutW.go (fun t k => XS.lload X5.here hx rfl (hb hby at_69) rfl k) ?_
    show OwnOutW p e s below 16 2176 _ (T5.setTop (mkF m 71 #[.val (.long x0), .second, .val (.long x2), .second, .val (.int x4), .val (.long x5), .second, .val (.long x7), .second, .val (.long x9), .second, .val (.long (x0 &&& (9223372036854775807 : Int64))), .second, .val (.long (x2 &&& (9223372036854775807 : Int64))), .second, .val (.long ((x4 &&& (65535 : Int32)).toInt64)), .second, .val (.long (x5 &&& (1099511627775 : Int64))), .second, .val (.long (x7 &&& (1099511627775 : Int64))), .second, .val (.long (x9 &&& (1099511627775 : Int64))), .second, .val (.ref c1), .unset, .unset, .unset, .unset, .unset, .unset, .unset, .unset, .unset, .unset, .unset, .unset, .unset, .unset] [(.long ((x4 &&& (65535 : Int32)).toInt64)), (.ref c1), (.ref c5), (.long (x0 &&& (9223372036854775807 : Int64))), (.ref c4), (.ref c4)]))
    obtain ⟨o6, ho6, hr⟩ := Option.bind_eq_some_iff.mp hr
    obtain ⟨r6, T6, L6, X6', hS6, hZ, hown, hQ6, st6⟩ := callNW (W := 1) (rm := rx4) X5 hS5 hk5 hx hZ rfl (y := (⟨(site_54.cls), "<init>", (site_71.desc)⟩ : MethodName)) rfl hown (hw _ (List.mem_of_getElem? (i := 29) rfl)) (hw _ (List.mem_of_getElem? (i := 30) rfl)) (hw _ (List.mem_of_getElem? (i := 5) rfl)) (hw _ (List.mem_of_getElem? (i := 31) rfl)) (by decide) (rm4 l Z a0 hw [] (x0 &&& (9223372036854775807 : Int64)) c5 ((x4 &&& (65535 : Int32)).toInt64) c4 (0 : Int64) (0 : Int64) (0 : Int64) c1 o3.1 o3.2 (0 : Int64) h5 n0 o6 ho6 O_5 E1_5 F1_limit_5 F1_whole_5 F1_weight_5 F1_spent_5 E0_5 F0_limit_5 F0_whole_5 F0_weight_5 F0_spent_5 g_4 g_1 (Ne.symm ne0_1_4)) (by decide) (by decide) (by decide) (by decide) e5 (g := (mkF m 71 #[.val (.long x0), .second, .val (.long x2), .second, .val (.int x4), .val (.long x5), .second, .val (.long x7), .second, .val (.long x9), .second, .val (.long (x0 &&& (9223372036854775807 : Int64))), .second, .val (.long (x2 &&& (9223372036854775807 : Int64))), .second, .val (.long ((x4 &&& (65535 : Int32)).toInt64)), .second, .val (.long (x5 &&& (1099511627775 : Int64))), .second, .val (.long (x7 &&& (1099511627775 : Int64))), .second, .val (.long (x9 &&& (1099511627775 : Int64))), .second, .val (.ref c1), .unset, .unset, .unset, .unset, .unset, .unset, .unset, .unset, .unset, .unset, .unset, .unset, .unset, .unset] [(.long ((x4 &&& (65535 : Int32)).toInt64)), (.ref c1), (.ref c5), (.long (x0 &&& (9223372036854775807 : Int64))), (.ref c4), (.ref c4)])) rfl (by rw [hml]; rfl) (argsL := [(.long (x0 &&& (9223372036854775807 : Int64))), (.ref c5), (.ref c1), (.long ((x4 &&& (65535 : Int32)).toInt64))]) (rest := [(.ref c4)]) (lenOf pd4 rfl) rfl (by show 2 * 0 + _ ≤ _; exact Nat.le_of_eq rfl) (hb hby at_71)
    obtain ⟨rfl, Nq6, Kq6, F1_limit_6, F1_whole_6, F1_weight_6, F1_spent_6⟩ := hQ6
    have X6 : Stand p l e room_1 _ m args below meth c T6 _ 8 48 := X6'
    have hk_6 := Nat.le_refl T6.heap.size
    have E0_6 := E0_5.keep Kq6
    have F0_limit_6 := F0_limit_5.keep Kq6 (ninS ne0_1_4 nin0)
    have F0_whole_6 := F0_whole_5.keep Kq6 (ninS ne0_1_4 nin0)
    have F0_weight_6 := F0_weight_5.keep Kq6 (ninS ne0_1_4 nin0)
    have F0_spent_6 := F0_spent_5.keep Kq6 (ninS ne0_1_4 nin0)
    have E1_6 := E1_5.keep Kq6
    have N_6 := Fr.app N_3 Nq6
    have O_6 := O_5.keep Kq6 (allS g_4 all0)
    have K_6 := K_5.trans Kq6 (allS (Or.inr z_4) all0)
    refine OwnOutW.go (fun t k => st6 _ k) ?_
    show OwnOutW p e s below 16 2176 _ (T6.setTop (mkF m 74 #[.val (.long x0), .second, .val (.long x2), .second, .val (.int x4), .val (.long x5), .second, .val (.long x7), .second, .val (.long x9), .second, .val (.long (x0 &&& (9223372036854775807 : Int64))), .second, .val (.long (x2 &&& (9223372036854775807 : Int64))), .second, .val (.long ((x4 &&& (65535 : Int32)).toInt64)), .second, .val (.long (x5 &&& (1099511627775 : Int64))), .second, .val (.long (x7 &&& (1099511627775 : Int64))), .second, .val (.long (x9 &&& (1099511627775 : Int64))), .second, .val (.ref c1), .unset, .unset, .unset, .unset, .unset, .unset, .unset, .unset, .unset, .unset, .unset, .unset, .unset, .unset] [(.ref c4)]))
    refine OwnOutW.go (fun t k => XS.astore X6.here hx rfl (hb hby at_74) rfl rfl (l' := #[.val (.long x0), .second, .val (.long x2), .second, .val (.int x4), .val (.long x5), .second, .val (.long x7), .second, .val (.long x9), .second, .val (.long (x0 &&& (9223372036854775807 : Int64))), .second, .val (.long (x2 &&& (9223372036854775807 : Int64))), .second, .val (.long ((x4 &&& (65535 : Int32)).toInt64)), .second, .val (.long (x5 &&& (1099511627775 : Int64))), .second, .val (.long (x7 &&& (1099511627775 : Int64))), .second, .val (.long (x9 &&& (1099511627775 : Int64))), .second, .val (.ref c1), .val (.ref c4), .unset, .unset, .unset, .unset, .unset, .unset, .unset, .unset, .unset, .unset, .unset, .unset, .unset]) rfl k) ?_
    show OwnOutW p e s below 16 2176 _ (T6.setTop (mkF m 76 #[.val (.long x0), .second, .val (.long x2), .second, .val (.int x4), .val (.long x5), .second, .val (.long x7), .second, .val (.long x9), .second, .val (.long (x0 &&& (9223372036854775807 : Int64))), .second, .val (.long (x2 &&& (9223372036854775807 : Int64))), .second, .val (.long ((x4 &&& (65535 : Int32)).toInt64)), .second, .val (.long (x5 &&& (1099511627775 : Int64))), .second, .val (.long (x7 &&& (1099511627775 : Int64))), .second, .val (.long (x9 &&& (1099511627775 : Int64))), .second, .val (.ref c1), .val (.ref c4), .unset, .unset, .unset, .unset, .unset, .unset, .unset, .unset, .unset, .unset, .unset, .unset, .unset] []))
    refine OwnOutW.go (fun t k => XS.aload X6.here hx rfl (hb hby at_76) rfl rfl k) ?_
    show OwnOutW p e s below 16 2176 _ (T6.setTop (mkF m 78 #[.val (.long x0), .second, .val (.long x2), .second, .val (.int x4), .val (.long x5), .second, .val (.long x7), .second, .val (.long x9), .second, .val (.long (x0 &&& (9223372036854775807 : Int64))), .second, .val (.long (x2 &&& (9223372036854775807 : Int64))), .second, .val (.long ((x4 &&& (65535 : Int32)).toInt64)), .second, .val (.long (x5 &&& (1099511627775 : Int64))), .second, .val (.long (x7 &&& (1099511627775 : Int64))), .second, .val (.long (x9 &&& (1099511627775 : Int64))), .second, .val (.ref c1), .val (.ref c4), .unset, .unset, .unset, .unset, .unset, .unset, .unset, .unset, .unset, .unset, .unset, .unset, .unset] [(.ref c4)]))
    refine OwnOutW.go (fun t k => XS.lload X6.here hx rfl (hb hby at_78) rfl k) ?_
    show OwnOutW p e s below 16 2176 _ (T6.setTop (mkF m 80 #[.val (.long x0), .second, .val (.long x2), .second, .val (.int x4), .val (.long x5), .second, .val (.long x7), .second, .val (.long x9), .second, .val (.long (x0 &&& (9223372036854775807 : Int64))), .second, .val (.long (x2 &&& (9223372036854775807 : Int64))), .second, .val (.long ((x4 &&& (65535 : Int32)).toInt64)), .second, .val (.long (x5 &&& (1099511627775 : Int64))), .second, .val (.long (x7 &&& (1099511627775 : Int64))), .second, .val (.long (x9 &&& (1099511627775 : Int64))), .second, .val (.ref c1), .val (.ref c4), .unset, .unset, .unset, .unset, .unset, .unset, .unset, .unset, .unset, .unset, .unset, .unset, .unset] [(.long (x5 &&& (1099511627775 : Int64))), (.ref c4)]))
    obtain ⟨o7, ho7, hr⟩ := Option.bind_eq_some_iff.mp hr
    obtain ⟨r7, T7, L7, X7', hQ7, st7⟩ := callV (W := 0) (rm := rx6) X6 hx hZ (y := (⟨(site_54.cls), "take", "(J)Z"⟩ : MethodName)) hown (hw _ (List.mem_of_getElem? (i := 39) rfl)) (hw _ (List.mem_of_getElem? (i := 40) rfl)) (hw _ (List.mem_of_getElem? (i := 42) rfl)) (hw _ (List.mem_of_getElem? (i := 41) rfl)) (hw _ (List.mem_of_getElem? (i := 5) rfl)) (hw _ (List.mem_of_getElem? (i := 43) rfl)) (by decide) (rm6 l Z a0 hw [] (x5 &&& (1099511627775 : Int64)) c4 o6.1 o6.2 (0 : Int64) c1 o3.1 o3.2 (0 : Int64) T6.heap n0 o7 ho7 O_6 E1_6 F1_limit_6 F1_whole_6 F1_weight_6 F1_spent_6 E0_6 F0_limit_6 F0_whole_6 F0_weight_6 F0_spent_6 g_4 g_1 (Ne.symm ne0_1_4)) (by decide) (by decide) (by decide) (by decide) rfl E1_6 (g := (mkF m 80 #[.val (.long x0), .second, .val (.long x2), .second, .val (.int x4), .val (.long x5), .second, .val (.long x7), .second, .val (.long x9), .second, .val (.long (x0 &&& (9223372036854775807 : Int64))), .second, .val (.long (x2 &&& (9223372036854775807 : Int64))), .second, .val (.long ((x4 &&& (65535 : Int32)).toInt64)), .second, .val (.long (x5 &&& (1099511627775 : Int64))), .second, .val (.long (x7 &&& (1099511627775 : Int64))), .second, .val (.long (x9 &&& (1099511627775 : Int64))), .second, .val (.ref c1), .val (.ref c4), .unset, .unset, .unset, .unset, .unset, .unset, .unset, .unset, .unset, .unset, .unset, .unset, .unset] [(.long (x5 &&& (1099511627775 : Int64))), (.ref c4)])) rfl (by rw [hml]; rfl) (argsL := [(.long (x5 &&& (1099511627775 : Int64)))]) (rest := []) (lenOf pd6 rfl) rfl (by show 2 * 0 + _ ≤ _; exact Nat.le_of_eq rfl) (hb hby at_80)
    obtain ⟨rfl, Nq7, Kq7, F1_limit_7, F1_whole_7, F1_weight_7, F1_spent_7, F0_limit_7, F0_whole_7, F0_weight_7, F0_spent_7⟩ := hQ7
    have X7 : Stand p l e room_1 _ m args below meth c T7 _ 8 48 := X7'
    have hk_7 := Nat.le_trans hk_6 Kq7.1
    have E0_7 := E0_6.keep Kq7
    have E1_7 := E1_6.keep Kq7
    have N_7 := Fr.app N_6 Nq7
    have O_7 := O_6.keep Kq7 (allS g_4 (allS g_1 all0))
    have K_7 := K_6.trans Kq7 (allS (Or.inr z_4) (allS (Or.inr z_1) all0))
    refine OwnOutW.go (fun t k => st7 _ k) ?_
    show OwnOutW p e s below 16 2176 _ (T7.setTop (mkF m 83 #[.val (.long x0), .second, .val (.long x2), .second, .val (.int x4), .val (.long x5), .second, .val (.long x7), .second, .val (.long x9), .second, .val (.long (x0 &&& (9223372036854775807 : Int64))), .second, .val (.long (x2 &&& (9223372036854775807 : Int64))), .second, .val (.long ((x4 &&& (65535 : Int32)).toInt64)), .second, .val (.long (x5 &&& (1099511627775 : Int64))), .second, .val (.long (x7 &&& (1099511627775 : Int64))), .second, .val (.long (x9 &&& (1099511627775 : Int64))), .second, .val (.ref c1), .val (.ref c4), .unset, .unset, .unset, .unset, .unset, .unset, .unset, .unset, .unset, .unset, .unset, .unset, .unset] [(.int o7.1)]))
    refine OwnOutW.go (fun t k => XS.istore X7.here hx rfl (hb hby at_83) rfl (l' := #[.val (.long x0), .second, .val (.long x2), .second, .val (.int x4), .val (.long x5), .second, .val (.long x7), .second, .val (.long x9), .second, .val (.long (x0 &&& (9223372036854775807 : Int64))), .second, .val (.long (x2 &&& (9223372036854775807 : Int64))), .second, .val (.long ((x4 &&& (65535 : Int32)).toInt64)), .second, .val (.long (x5 &&& (1099511627775 : Int64))), .second, .val (.long (x7 &&& (1099511627775 : Int64))), .second, .val (.long (x9 &&& (1099511627775 : Int64))), .second, .val (.ref c1), .val (.ref c4), .val (.int o7.1), .unset, .unset, .unset, .unset, .unset, .unset, .unset, .unset, .unset, .unset, .unset, .unset]) rfl k) ?_
    show OwnOutW p e s below 16 2176 _ (T7.setTop (mkF m 85 #[.val (.long x0), .second, .val (.long x2), .second, .val (.int x4), .val (.long x5), .second, .val (.long x7), .second, .val (.long x9), .second, .val (.long (x0 &&& (9223372036854775807 : Int64))), .second, .val (.long (x2 &&& (9223372036854775807 : Int64))), .second, .val (.long ((x4 &&& (65535 : Int32)).toInt64)), .second, .val (.long (x5 &&& (1099511627775 : Int64))), .second, .val (.long (x7 &&& (1099511627775 : Int64))), .second, .val (.long (x9 &&& (1099511627775 : Int64))), .second, .val (.ref c1), .val (.ref c4), .val (.int o7.1), .unset, .unset, .unset, .unset, .unset, .unset, .unset, .unset, .unset, .unset, .unset, .unset] []))
    refine OwnOutW.go (fun t k => XS.aload X7.here hx rfl (hb hby at_85) rfl rfl k) ?_
    show OwnOutW p e s below 16 2176 _ (T7.setTop (mkF m 87 #[.val (.long x0), .second, .val (.long x2), .second, .val (.int x4), .val (.long x5), .second, .val (.long x7), .second, .val (.long x9), .second, .val (.long (x0 &&& (9223372036854775807 : Int64))), .second, .val (.long (x2 &&& (9223372036854775807 : Int64))), .second, .val (.long ((x4 &&& (65535 : Int32)).toInt64)), .second, .val (.long (x5 &&& (1099511627775 : Int64))), .second, .val (.long (x7 &&& (1099511627775 : Int64))), .second, .val (.long (x9 &&& (1099511627775 : Int64))), .second, .val (.ref c1), .val (.ref c4), .val (.int o7.1), .unset, .unset, .unset, .unset, .unset, .unset, .unset, .unset, .unset, .unset, .unset, .unset] [(.ref c4)]))
    refine OwnOutW.go (fun t k => XS.lload X7.here hx rfl (hb hby at_87) rfl k) ?_
    show OwnOutW p e s below 16 2176 _ (T7.setTop (mkF m 89 #[.val (.long x0), .second, .val (.long x2), .second, .val (.int x4), .val (.long x5), .second, .val (.long x7), .second, .val (.long x9), .second, .val (.long (x0 &&& (9223372036854775807 : Int64))), .second, .val (.long (x2 &&& (9223372036854775807 : Int64))), .second, .val (.long ((x4 &&& (65535 : Int32)).toInt64)), .second, .val (.long (x5 &&& (1099511627775 : Int64))), .second, .val (.long (x7 &&& (1099511627775 : Int64))), .second, .val (.long (x9 &&& (1099511627775 : Int64))), .second, .val (.ref c1), .val (.ref c4), .val (.int o7.1), .unset, .unset, .unset, .unset, .unset, .unset, .unset, .unset, .unset, .unset, .unset, .unset] [(.long (x7 &&& (1099511627775 : Int64))), (.ref c4)]))
    obtain ⟨o8, ho8, hr⟩ := Option.bind_eq_some_iff.mp hr
    obtain ⟨r8, T8, L8, X8', hQ8, st8⟩ := callV (W := 0) (rm := rx6) X7 hx hZ (y := (⟨(site_54.cls), "take", "(J)Z"⟩ : MethodName)) hown (hw _ (List.mem_of_getElem? (i := 39) rfl)) (hw _ (List.mem_of_getElem? (i := 40) rfl)) (hw _ (List.mem_of_getElem? (i := 42) rfl)) (hw _ (List.mem_of_getElem? (i := 41) rfl)) (hw _ (List.mem_of_getElem? (i := 5) rfl)) (hw _ (List.mem_of_getElem? (i := 43) rfl)) (by decide) (rm6 l Z a0 hw [] (x7 &&& (1099511627775 : Int64)) c4 o6.1 o6.2 o7.2.1 c1 o3.1 o3.2 o7.2.2 T7.heap n0 o8 ho8 O_7 E1_7 F1_limit_7 F1_whole_7 F1_weight_7 F1_spent_7 E0_7 F0_limit_7 F0_whole_7 F0_weight_7 F0_spent_7 g_4 g_1 (Ne.symm ne0_1_4)) (by decide) (by decide) (by decide) (by decide) rfl E1_7 (g := (mkF m 89 #[.val (.long x0), .second, .val (.long x2), .second, .val (.int x4), .val (.long x5), .second, .val (.long x7), .second, .val (.long x9), .second, .val (.long (x0 &&& (9223372036854775807 : Int64))), .second, .val (.long (x2 &&& (9223372036854775807 : Int64))), .second, .val (.long ((x4 &&& (65535 : Int32)).toInt64)), .second, .val (.long (x5 &&& (1099511627775 : Int64))), .second, .val (.long (x7 &&& (1099511627775 : Int64))), .second, .val (.long (x9 &&& (1099511627775 : Int64))), .second, .val (.ref c1), .val (.ref c4), .val (.int o7.1), .unset, .unset, .unset, .unset, .unset, .unset, .unset, .unset, .unset, .unset, .unset, .unset] [(.long (x7 &&& (1099511627775 : Int64))), (.ref c4)])) rfl (by rw [hml]; rfl) (argsL := [(.long (x7 &&& (1099511627775 : Int64)))]) (rest := []) (lenOf pd6 rfl) rfl (by show 2 * 0 + _ ≤ _; exact Nat.le_of_eq rfl) (hb hby at_89)
    obtain ⟨rfl, Nq8, Kq8, F1_limit_8, F1_whole_8, F1_weight_8, F1_spent_8, F0_limit_8, F0_whole_8, F0_weight_8, F0_spent_8⟩ := hQ8
    have X8 : Stand p l e room_1 _ m args below meth c T8 _ 8 48 := X8'
    have hk_8 := Nat.le_trans hk_7 Kq8.1
    have E0_8 := E0_7.keep Kq8
    have E1_8 := E1_7.keep Kq8
    have N_8 := Fr.app N_7 Nq8
    have O_8 := O_7.keep Kq8 (allS g_4 (allS g_1 all0))
    have K_8 := K_7.trans Kq8 (allS (Or.inr z_4) (allS (Or.inr z_1) all0))
    refine OwnOutW.go (fun t k => st8 _ k) ?_
    show OwnOutW p e s below 16 2176 _ (T8.setTop (mkF m 92 #[.val (.long x0), .second, .val (.long x2), .second, .val (.int x4), .val (.long x5), .second, .val (.long x7), .second, .val (.long x9), .second, .val (.long (x0 &&& (9223372036854775807 : Int64))), .second, .val (.long (x2 &&& (9223372036854775807 : Int64))), .second, .val (.long ((x4 &&& (65535 : Int32)).toInt64)), .second, .val (.long (x5 &&& (1099511627775 : Int64))), .second, .val (.long (x7 &&& (1099511627775 : Int64))), .second, .val (.long (x9 &&& (1099511627775 : Int64))), .second, .val (.ref c1), .val (.ref c4), .val (.int o7.1), .unset, .unset, .unset, .unset, .unset, .unset, .unset, .unset, .unset, .unset, .unset, .unset] [(.int o8.1)]))
    refine OwnOutW.go (fun t k => XS.istore X8.here hx rfl (hb hby at_92) rfl (l' := #[.val (.long x0), .second, .val (.long x2), .second, .val (.int x4), .val (.long x5), .second, .val (.long x7), .second, .val (.long x9), .second, .val (.long (x0 &&& (9223372036854775807 : Int64))), .second, .val (.long (x2 &&& (9223372036854775807 : Int64))), .second, .val (.long ((x4 &&& (65535 : Int32)).toInt64)), .second, .val (.long (x5 &&& (1099511627775 : Int64))), .second, .val (.long (x7 &&& (1099511627775 : Int64))), .second, .val (.long (x9 &&& (1099511627775 : Int64))), .second, .val (.ref c1), .val (.ref c4), .val (.int o7.1), .val (.int o8.1), .unset, .unset, .unset, .unset, .unset, .unset, .unset, .unset, .unset, .unset, .unset]) rfl k) ?_
    show OwnOutW p e s below 16 2176 _ (T8.setTop (mkF m 94 #[.val (.long x0), .second, .val (.long x2), .second, .val (.int x4), .val (.long x5), .second, .val (.long x7), .second, .val (.long x9), .second, .val (.long (x0 &&& (9223372036854775807 : Int64))), .second, .val (.long (x2 &&& (9223372036854775807 : Int64))), .second, .val (.long ((x4 &&& (65535 : Int32)).toInt64)), .second, .val (.long (x5 &&& (1099511627775 : Int64))), .second, .val (.long (x7 &&& (1099511627775 : Int64))), .second, .val (.long (x9 &&& (1099511627775 : Int64))), .second, .val (.ref c1), .val (.ref c4), .val (.int o7.1), .val (.int o8.1), .unset, .unset, .unset, .unset, .unset, .unset, .unset, .unset, .unset, .unset, .unset] []))
    refine OwnOutW.go (fun t k => XS.aload X8.here hx rfl (hb hby at_94) rfl rfl k) ?_
    show OwnOutW p e s below 16 2176 _ (T8.setTop (mkF m 96 #[.val (.long x0), .second, .val (.long x2), .second, .val (.int x4), .val (.long x5), .second, .val (.long x7), .second, .val (.long x9), .second, .val (.long (x0 &&& (9223372036854775807 : Int64))), .second, .val (.long (x2 &&& (9223372036854775807 : Int64))), .second, .val (.long ((x4 &&& (65535 : Int32)).toInt64)), .second, .val (.long (x5 &&& (1099511627775 : Int64))), .second, .val (.long (x7 &&& (1099511627775 : Int64))), .second, .val (.long (x9 &&& (1099511627775 : Int64))), .second, .val (.ref c1), .val (.ref c4), .val (.int o7.1), .val (.int o8.1), .unset, .unset, .unset, .unset, .unset, .unset, .unset, .unset, .unset, .unset, .unset] [(.ref c4)]))
    obtain ⟨o9, ho9, hr⟩ := Option.bind_eq_some_iff.mp hr
    obtain ⟨r9, T9, L9, X9', hQ9, st9⟩ := callV (W := 0) (rm := rx7) X8 hx hZ (y := (⟨(site_54.cls), "isSpent", "()Z"⟩ : MethodName)) hown (hw _ (List.mem_of_getElem? (i := 47) rfl)) (hw _ (List.mem_of_getElem? (i := 48) rfl)) (hw _ (List.mem_of_getElem? (i := 50) rfl)) (hw _ (List.mem_of_getElem? (i := 49) rfl)) (hw _ (List.mem_of_getElem? (i := 5) rfl)) (hw _ (List.mem_of_getElem? (i := 51) rfl)) (by decide) (rm7 l Z a0 hw [] c4 o6.1 o6.2 o8.2.1 c1 o3.1 o3.2 o8.2.2 T8.heap o9 ho9 E1_8 F1_limit_8 F1_whole_8 F1_weight_8 F1_spent_8 E0_8 F0_limit_8 F0_whole_8 F0_weight_8 F0_spent_8) (by decide) (by decide) (by decide) (by decide) rfl E1_8 (g := (mkF m 96 #[.val (.long x0), .second, .val (.long x2), .second, .val (.int x4), .val (.long x5), .second, .val (.long x7), .second, .val (.long x9), .second, .val (.long (x0 &&& (9223372036854775807 : Int64))), .second, .val (.long (x2 &&& (9223372036854775807 : Int64))), .second, .val (.long ((x4 &&& (65535 : Int32)).toInt64)), .second, .val (.long (x5 &&& (1099511627775 : Int64))), .second, .val (.long (x7 &&& (1099511627775 : Int64))), .second, .val (.long (x9 &&& (1099511627775 : Int64))), .second, .val (.ref c1), .val (.ref c4), .val (.int o7.1), .val (.int o8.1), .unset, .unset, .unset, .unset, .unset, .unset, .unset, .unset, .unset, .unset, .unset] [(.ref c4)])) rfl (by rw [hml]; rfl) (argsL := []) (rest := []) (lenOf pd7 rfl) rfl (by show 2 * 0 + _ ≤ _; exact Nat.le_of_eq rfl) (hb hby at_96)
    obtain ⟨rfl, e9, rfl⟩ := hQ9
    rw [List.append_nil] at X9'
    have X9 : Stand p l e room_1 _ m args below meth c T9 _ 8 48 := X9'
    refine OwnOutW.go (fun t k => st9 _ k) ?_
    show OwnOutW p e s below 16 2176 _ (T9.setTop (mkF m 99 #[.val (.long x0), .second, .val (.long x2), .second, .val (.int x4), .val (.long x5), .second, .val (.long x7), .second, .val (.long x9), .second, .val (.long (x0 &&& (9223372036854775807 : Int64))), .second, .val (.long (x2 &&& (9223372036854775807 : Int64))), .second, .val (.long ((x4 &&& (65535 : Int32)).toInt64)), .second, .val (.long (x5 &&& (1099511627775 : Int64))), .second, .val (.long (x7 &&& (1099511627775 : Int64))), .second, .val (.long (x9 &&& (1099511627775 : Int64))), .second, .val (.ref c1), .val (.ref c4), .val (.int o7.1), .val (.int o8.1), .unset, .unset, .unset, .unset, .unset, .unset, .unset, .unset, .unset, .unset, .unset] [(.int o9)]))
    refine OwnOutW.go (fun t k => XS.istore X9.here hx rfl (hb hby at_99) rfl (l' := #[.val (.long x0), .second, .val (.long x2), .second, .val (.int x4), .val (.long x5), .second, .val (.long x7), .second, .val (.long x9), .second, .val (.long (x0 &&& (9223372036854775807 : Int64))), .second, .val (.long (x2 &&& (9223372036854775807 : Int64))), .second, .val (.long ((x4 &&& (65535 : Int32)).toInt64)), .second, .val (.long (x5 &&& (1099511627775 : Int64))), .second, .val (.long (x7 &&& (1099511627775 : Int64))), .second, .val (.long (x9 &&& (1099511627775 : Int64))), .second, .val (.ref c1), .val (.ref c4), .val (.int o7.1), .val (.int o8.1), .val (.int o9), .unset, .unset, .unset, .unset, .unset, .unset, .unset, .unset, .unset, .unset]) rfl k) ?_
    show OwnOutW p e s below 16 2176 _ (T9.setTop (mkF m 101 #[.val (.long x0), .second, .val (.long x2), .second, .val (.int x4), .val (.long x5), .second, .val (.long x7), .second, .val (.long x9), .second, .val (.long (x0 &&& (9223372036854775807 : Int64))), .second, .val (.long (x2 &&& (9223372036854775807 : Int64))), .second, .val (.long ((x4 &&& (65535 : Int32)).toInt64)), .second, .val (.long (x5 &&& (1099511627775 : Int64))), .second, .val (.long (x7 &&& (1099511627775 : Int64))), .second, .val (.long (x9 &&& (1099511627775 : Int64))), .second, .val (.ref c1), .val (.ref c4), .val (.int o7.1), .val (.int o8.1), .val (.int o9), .unset, .unset, .unset, .unset, .unset, .unset, .unset, .unset, .unset, .unset] []))
    refine OwnOutW.go (fun t k => XS.aload X9.here hx rfl (hb hby at_101) rfl rfl k) ?_
    show OwnOutW p e s below 16 2176 _ (T9.setTop (mkF m 103 #[.val (.long x0), .second, .val (.long x2), .second, .val (.int x4), .val (.long x5), .second, .val (.long x7), .second, .val (.long x9), .second, .val (.long (x0 &&& (9223372036854775807 : Int64))), .second, .val (.long (x2 &&& (9223372036854775807 : Int64))), .second, .val (.long ((x4 &&& (65535 : Int32)).toInt64)), .second, .val (.long (x5 &&& (1099511627775 : Int64))), .second, .val (.long (x7 &&& (1099511627775 : Int64))), .second, .val (.long (x9 &&& (1099511627775 : Int64))), .second, .val (.ref c1), .val (.ref c4), .val (.int o7.1), .val (.int o8.1), .val (.int o9), .unset, .unset, .unset, .unset, .unset, .unset, .unset, .unset, .unset, .unset] [(.ref c1)]))
    obtain ⟨o10, ho10, hr⟩ := Option.bind_eq_some_iff.mp hr
    obtain ⟨r10, T10, L10, X10', hQ10, st10⟩ := callV (W := 0) (rm := rx7b) X9 hx hZ (y := (⟨(site_54.cls), "isSpent", "()Z"⟩ : MethodName)) hown (hw _ (List.mem_of_getElem? (i := 47) rfl)) (hw _ (List.mem_of_getElem? (i := 48) rfl)) (hw _ (List.mem_of_getElem? (i := 50) rfl)) (hw _ (List.mem_of_getElem? (i := 49) rfl)) (hw _ (List.mem_of_getElem? (i := 5) rfl)) (hw _ (List.mem_of_getElem? (i := 51) rfl)) (by decide) (rm7b l Z a0 hw [] c1 o3.1 o3.2 o8.2.2 T8.heap o10 ho10 E0_8 F0_limit_8 F0_whole_8 F0_weight_8 F0_spent_8) (by decide) (by decide) (by decide) (by decide) e9 E0_8 (g := (mkF m 103 #[.val (.long x0), .second, .val (.long x2), .second, .val (.int x4), .val (.long x5), .second, .val (.long x7), .second, .val (.long x9), .second, .val (.long (x0 &&& (9223372036854775807 : Int64))), .second, .val (.long (x2 &&& (9223372036854775807 : Int64))), .second, .val (.long ((x4 &&& (65535 : Int32)).toInt64)), .second, .val (.long (x5 &&& (1099511627775 : Int64))), .second, .val (.long (x7 &&& (1099511627775 : Int64))), .second, .val (.long (x9 &&& (1099511627775 : Int64))), .second, .val (.ref c1), .val (.ref c4), .val (.int o7.1), .val (.int o8.1), .val (.int o9), .unset, .unset, .unset, .unset, .unset, .unset, .unset, .unset, .unset, .unset] [(.ref c1)])) rfl (by rw [hml]; rfl) (argsL := []) (rest := []) (lenOf pd7b rfl) rfl (by show 2 * 0 + _ ≤ _; exact Nat.le_of_eq rfl) (hb hby at_103)
    obtain ⟨rfl, e10, rfl⟩ := hQ10
    rw [List.append_nil] at X10'
    have X10 : Stand p l e room_1 _ m args below meth c T10 _ 8 48 := X10'
    refine OwnOutW.go (fun t k => st10 _ k) ?_
    show OwnOutW p e s below 16 2176 _ (T10.setTop (mkF m 106 #[.val (.long x0), .second, .val (.long x2), .second, .val (.int x4), .val (.long x5), .second, .val (.long x7), .second, .val (.long x9), .second, .val (.long (x0 &&& (9223372036854775807 : Int64))), .second, .val (.long (x2 &&& (9223372036854775807 : Int64))), .second, .val (.long ((x4 &&& (65535 : Int32)).toInt64)), .second, .val (.long (x5 &&& (1099511627775 : Int64))), .second, .val (.long (x7 &&& (1099511627775 : Int64))), .second, .val (.long (x9 &&& (1099511627775 : Int64))), .second, .val (.ref c1), .val (.ref c4), .val (.int o7.1), .val (.int o8.1), .val (.int o9), .unset, .unset, .unset, .unset, .unset, .unset, .unset, .unset, .unset, .unset] [(.int o10)]))
    refine OwnOutW.go (fun t k => XS.istore X10.here hx rfl (hb hby at_106) rfl (l' := #[.val (.long x0), .second, .val (.long x2), .second, .val (.int x4), .val (.long x5), .second, .val (.long x7), .second, .val (.long x9), .second, .val (.long (x0 &&& (9223372036854775807 : Int64))), .second, .val (.long (x2 &&& (9223372036854775807 : Int64))), .second, .val (.long ((x4 &&& (65535 : Int32)).toInt64)), .second, .val (.long (x5 &&& (1099511627775 : Int64))), .second, .val (.long (x7 &&& (1099511627775 : Int64))), .second, .val (.long (x9 &&& (1099511627775 : Int64))), .second, .val (.ref c1), .val (.ref c4), .val (.int o7.1), .val (.int o8.1), .val (.int o9), .val (.int o10), .unset, .unset, .unset, .unset, .unset, .unset, .unset, .unset, .unset]) rfl k) ?_
    show OwnOutW p e s below 16 2176 _ (T10.setTop (mkF m 108 #[.val (.long x0), .second, .val (.long x2), .second, .val (.int x4), .val (.long x5), .second, .val (.long x7), .second, .val (.long x9), .second, .val (.long (x0 &&& (9223372036854775807 : Int64))), .second, .val (.long (x2 &&& (9223372036854775807 : Int64))), .second, .val (.long ((x4 &&& (65535 : Int32)).toInt64)), .second, .val (.long (x5 &&& (1099511627775 : Int64))), .second, .val (.long (x7 &&& (1099511627775 : Int64))), .second, .val (.long (x9 &&& (1099511627775 : Int64))), .second, .val (.ref c1), .val (.ref c4), .val (.int o7.1), .val (.int o8.1), .val (.int o9), .val (.int o10), .unset, .unset, .unset, .unset, .unset, .unset, .unset, .unset, .unset] []))
    refine OwnOutW.go (fun t k => XS.aload X10.here hx rfl (hb hby at_108) rfl rfl k) ?_
    show OwnOutW p e s below 16 2176 _ (T10.setTop (mkF m 110 #[.val (.long x0), .second, .val (.long x2), .second, .val (.int x4), .val (.long x5), .second, .val (.long x7), .second, .val (.long x9), .second, .val (.long (x0 &&& (9223372036854775807 : Int64))), .second, .val (.long (x2 &&& (9223372036854775807 : Int64))), .second, .val (.long ((x4 &&& (65535 : Int32)).toInt64)), .second, .val (.long (x5 &&& (1099511627775 : Int64))), .second, .val (.long (x7 &&& (1099511627775 : Int64))), .second, .val (.long (x9 &&& (1099511627775 : Int64))), .second, .val (.ref c1), .val (.ref c4), .val (.int o7.1), .val (.int o8.1), .val (.int o9), .val (.int o10), .unset, .unset, .unset, .unset, .unset, .unset, .unset, .unset, .unset] [(.ref c1)]))
    refine OwnOutW.go (fun t k => XS.lload X10.here hx rfl (hb hby at_110) rfl k) ?_
    show OwnOutW p e s below 16 2176 _ (T10.setTop (mkF m 112 #[.val (.long x0), .second, .val (.long x2), .second, .val (.int x4), .val (.long x5), .second, .val (.long x7), .second, .val (.long x9), .second, .val (.long (x0 &&& (9223372036854775807 : Int64))), .second, .val (.long (x2 &&& (9223372036854775807 : Int64))), .second, .val (.long ((x4 &&& (65535 : Int32)).toInt64)), .second, .val (.long (x5 &&& (1099511627775 : Int64))), .second, .val (.long (x7 &&& (1099511627775 : Int64))), .second, .val (.long (x9 &&& (1099511627775 : Int64))), .second, .val (.ref c1), .val (.ref c4), .val (.int o7.1), .val (.int o8.1), .val (.int o9), .val (.int o10), .unset, .unset, .unset, .unset, .unset, .unset, .unset, .unset, .unset] [(.long (x9 &&& (1099511627775 : Int64))), (.ref c1)]))
    obtain ⟨o11, ho11, hr⟩ := Option.bind_eq_some_iff.mp hr
    obtain ⟨r11, T11, L11, X11', hQ11, st11⟩ := callV (W := 0) (rm := rx6b) X10 hx hZ (y := (⟨(site_54.cls), "take", "(J)Z"⟩ : MethodName)) hown (hw _ (List.mem_of_getElem? (i := 39) rfl)) (hw _ (List.mem_of_getElem? (i := 40) rfl)) (hw _ (List.mem_of_getElem? (i := 42) rfl)) (hw _ (List.mem_of_getElem? (i := 41) rfl)) (hw _ (List.mem_of_getElem? (i := 5) rfl)) (hw _ (List.mem_of_getElem? (i := 43) rfl)) (by decide) (rm6b l Z a0 hw [] (x9 &&& (1099511627775 : Int64)) c1 o3.1 o3.2 o8.2.2 T8.heap n0 o11 ho11 O_8 E0_8 F0_limit_8 F0_whole_8 F0_weight_8 F0_spent_8 g_1) (by decide) (by decide) (by decide) (by decide) e10 E0_8 (g := (mkF m 112 #[.val (.long x0), .second, .val (.long x2), .second, .val (.int x4), .val (.long x5), .second, .val (.long x7), .second, .val (.long x9), .second, .val (.long (x0 &&& (9223372036854775807 : Int64))), .second, .val (.long (x2 &&& (9223372036854775807 : Int64))), .second, .val (.long ((x4 &&& (65535 : Int32)).toInt64)), .second, .val (.long (x5 &&& (1099511627775 : Int64))), .second, .val (.long (x7 &&& (1099511627775 : Int64))), .second, .val (.long (x9 &&& (1099511627775 : Int64))), .second, .val (.ref c1), .val (.ref c4), .val (.int o7.1), .val (.int o8.1), .val (.int o9), .val (.int o10), .unset, .unset, .unset, .unset, .unset, .unset, .unset, .unset, .unset] [(.long (x9 &&& (1099511627775 : Int64))), (.ref c1)])) rfl (by rw [hml]; rfl) (argsL := [(.long (x9 &&& (1099511627775 : Int64)))]) (rest := []) (lenOf pd6b rfl) rfl (by show 2 * 0 + _ ≤ _; exact Nat.le_of_eq rfl) (hb hby at_112)
    obtain ⟨rfl, Nq11, Kq11, F0_limit_11, F0_whole_11, F0_weight_11, F0_spent_11⟩ := hQ11
    have X11 : Stand p l e room_1 _ m args below meth c T11 _ 8 48 := X11'
    have hk_11 := Nat.le_trans hk_8 Kq11.1
    have E0_11 := E0_8.keep Kq11
    have E1_11 := E1_8.keep Kq11
    have F1_limit_11 := F1_limit_8.keep Kq11 (ninS (Ne.symm ne0_1_4) nin0)
    have F1_whole_11 := F1_whole_8.keep Kq11 (ninS (Ne.symm ne0_1_4) nin0)
    have F1_weight_11 := F1_weight_8.keep Kq11 (ninS (Ne.symm ne0_1_4) nin0)
    have F1_spent_11 := F1_spent_8.keep Kq11 (ninS (Ne.symm ne0_1_4) nin0)
    have N_11 := Fr.app N_8 Nq11
    have O_11 := O_8.keep Kq11 (allS g_1 all0)
    have K_11 := K_8.trans Kq11 (allS (Or.inr z_1) all0)
    refine OwnOutW.go (fun t k => st11 _ k) ?_
    show OwnOutW p e s below 16 2176 _ (T11.setTop (mkF m 115 #[.val (.long x0), .second, .val (.long x2), .second, .val (.int x4), .val (.long x5), .second, .val (.long x7), .second, .val (.long x9), .second, .val (.long (x0 &&& (9223372036854775807 : Int64))), .second, .val (.long (x2 &&& (9223372036854775807 : Int64))), .second, .val (.long ((x4 &&& (65535 : Int32)).toInt64)), .second, .val (.long (x5 &&& (1099511627775 : Int64))), .second, .val (.long (x7 &&& (1099511627775 : Int64))), .second, .val (.long (x9 &&& (1099511627775 : Int64))), .second, .val (.ref c1), .val (.ref c4), .val (.int o7.1), .val (.int o8.1), .val (.int o9), .val (.int o10), .unset, .unset, .unset, .unset, .unset, .unset, .unset, .unset, .unset] [(.int o11.1)]))
    refine OwnOutW.go (fun t k => XS.istore X11.here hx rfl (hb hby at_115) rfl (l' := #[.val (.long x0), .second, .val (.long x2), .second, .val (.int x4), .val (.long x5), .second, .val (.long x7), .second, .val (.long x9), .second, .val (.long (x0 &&& (9223372036854775807 : Int64))), .second, .val (.long (x2 &&& (9223372036854775807 : Int64))), .second, .val (.long ((x4 &&& (65535 : Int32)).toInt64)), .second, .val (.long (x5 &&& (1099511627775 : Int64))), .second, .val (.long (x7 &&& (1099511627775 : Int64))), .second, .val (.long (x9 &&& (1099511627775 : Int64))), .second, .val (.ref c1), .val (.ref c4), .val (.int o7.1), .val (.int o8.1), .val (.int o9), .val (.int o10), .val (.int o11.1), .unset, .unset, .unset, .unset, .unset, .unset, .unset, .unset]) rfl k) ?_
    show OwnOutW p e s below 16 2176 _ (T11.setTop (mkF m 117 #[.val (.long x0), .second, .val (.long x2), .second, .val (.int x4), .val (.long x5), .second, .val (.long x7), .second, .val (.long x9), .second, .val (.long (x0 &&& (9223372036854775807 : Int64))), .second, .val (.long (x2 &&& (9223372036854775807 : Int64))), .second, .val (.long ((x4 &&& (65535 : Int32)).toInt64)), .second, .val (.long (x5 &&& (1099511627775 : Int64))), .second, .val (.long (x7 &&& (1099511627775 : Int64))), .second, .val (.long (x9 &&& (1099511627775 : Int64))), .second, .val (.ref c1), .val (.ref c4), .val (.int o7.1), .val (.int o8.1), .val (.int o9), .val (.int o10), .val (.int o11.1), .unset, .unset, .unset, .unset, .unset, .unset, .unset, .unset] []))
    refine OwnOutW.go (fun t k => XS.aload X11.here hx rfl (hb hby at_117) rfl rfl k) ?_
    show OwnOutW p e s below 16 2176 _ (T11.setTop (mkF m 119 #[.val (.long x0), .second, .val (.long x2), .second, .val (.int x4), .val (.long x5), .second, .val (.long x7), .second, .val (.long x9), .second, .val (.long (x0 &&& (9223372036854775807 : Int64))), .second, .val (.long (x2 &&& (9223372036854775807 : Int64))), .second, .val (.long ((x4 &&& (65535 : Int32)).toInt64)), .second, .val (.long (x5 &&& (1099511627775 : Int64))), .second, .val (.long (x7 &&& (1099511627775 : Int64))), .second, .val (.long (x9 &&& (1099511627775 : Int64))), .second, .val (.ref c1), .val (.ref c4), .val (.int o7.1), .val (.int o8.1), .val (.int o9), .val (.int o10), .val (.int o11.1), .unset, .unset, .unset, .unset, .unset, .unset, .unset, .unset] [(.ref c1)]))
    obtain ⟨o12, ho12, hr⟩ := Option.bind_eq_some_iff.mp hr
    obtain ⟨r12, T12, L12, X12', hQ12, st12⟩ := callV (W := 0) (rm := rx7b) X11 hx hZ (y := (⟨(site_54.cls), "isSpent", "()Z"⟩ : MethodName)) hown (hw _ (List.mem_of_getElem? (i := 47) rfl)) (hw _ (List.mem_of_getElem? (i := 48) rfl)) (hw _ (List.mem_of_getElem? (i := 50) rfl)) (hw _ (List.mem_of_getElem? (i := 49) rfl)) (hw _ (List.mem_of_getElem? (i := 5) rfl)) (hw _ (List.mem_of_getElem? (i := 51) rfl)) (by decide) (rm7b l Z a0 hw [] c1 o3.1 o3.2 o11.2 T11.heap o12 ho12 E0_11 F0_limit_11 F0_whole_11 F0_weight_11 F0_spent_11) (by decide) (by decide) (by decide) (by decide) rfl E0_11 (g := (mkF m 119 #[.val (.long x0), .second, .val (.long x2), .second, .val (.int x4), .val (.long x5), .second, .val (.long x7), .second, .val (.long x9), .second, .val (.long (x0 &&& (9223372036854775807 : Int64))), .second, .val (.long (x2 &&& (9223372036854775807 : Int64))), .second, .val (.long ((x4 &&& (65535 : Int32)).toInt64)), .second, .val (.long (x5 &&& (1099511627775 : Int64))), .second, .val (.long (x7 &&& (1099511627775 : Int64))), .second, .val (.long (x9 &&& (1099511627775 : Int64))), .second, .val (.ref c1), .val (.ref c4), .val (.int o7.1), .val (.int o8.1), .val (.int o9), .val (.int o10), .val (.int o11.1), .unset, .unset, .unset, .unset, .unset, .unset, .unset, .unset] [(.ref c1)])) rfl (by rw [hml]; rfl) (argsL := []) (rest := []) (lenOf pd7b rfl) rfl (by show 2 * 0 + _ ≤ _; exact Nat.le_of_eq rfl) (hb hby at_119)
    obtain ⟨rfl, e12, rfl⟩ := hQ12
    rw [List.append_nil] at X12'
    have X12 : Stand p l e room_1 _ m args below meth c T12 _ 8 48 := X12'
    refine OwnOutW.go (fun t k => st12 _ k) ?_
    show OwnOutW p e s below 16 2176 _ (T12.setTop (mkF m 122 #[.val (.long x0), .second, .val (.long x2), .second, .val (.int x4), .val (.long x5), .second, .val (.long x7), .second, .val (.long x9), .second, .val (.long (x0 &&& (9223372036854775807 : Int64))), .second, .val (.long (x2 &&& (9223372036854775807 : Int64))), .second, .val (.long ((x4 &&& (65535 : Int32)).toInt64)), .second, .val (.long (x5 &&& (1099511627775 : Int64))), .second, .val (.long (x7 &&& (1099511627775 : Int64))), .second, .val (.long (x9 &&& (1099511627775 : Int64))), .second, .val (.ref c1), .val (.ref c4), .val (.int o7.1), .val (.int o8.1), .val (.int o9), .val (.int o10), .val (.int o11.1), .unset, .unset, .unset, .unset, .unset, .unset, .unset, .unset] [(.int o12)]))
    refine OwnOutW.go (fun t k => XS.istore X12.here hx rfl (hb hby at_122) rfl (l' := #[.val (.long x0), .second, .val (.long x2), .second, .val (.int x4), .val (.long x5), .second, .val (.long x7), .second, .val (.long x9), .second, .val (.long (x0 &&& (9223372036854775807 : Int64))), .second, .val (.long (x2 &&& (9223372036854775807 : Int64))), .second, .val (.long ((x4 &&& (65535 : Int32)).toInt64)), .second, .val (.long (x5 &&& (1099511627775 : Int64))), .second, .val (.long (x7 &&& (1099511627775 : Int64))), .second, .val (.long (x9 &&& (1099511627775 : Int64))), .second, .val (.ref c1), .val (.ref c4), .val (.int o7.1), .val (.int o8.1), .val (.int o9), .val (.int o10), .val (.int o11.1), .val (.int o12), .unset, .unset, .unset, .unset, .unset, .unset, .unset]) rfl k) ?_
    show OwnOutW p e s below 16 2176 _ (T12.setTop (mkF m 124 #[.val (.long x0), .second, .val (.long x2), .second, .val (.int x4), .val (.long x5), .second, .val (.long x7), .second, .val (.long x9), .second, .val (.long (x0 &&& (9223372036854775807 : Int64))), .second, .val (.long (x2 &&& (9223372036854775807 : Int64))), .second, .val (.long ((x4 &&& (65535 : Int32)).toInt64)), .second, .val (.long (x5 &&& (1099511627775 : Int64))), .second, .val (.long (x7 &&& (1099511627775 : Int64))), .second, .val (.long (x9 &&& (1099511627775 : Int64))), .second, .val (.ref c1), .val (.ref c4), .val (.int o7.1), .val (.int o8.1), .val (.int o9), .val (.int o10), .val (.int o11.1), .val (.int o12), .unset, .unset, .unset, .unset, .unset, .unset, .unset] []))
    refine OwnOutW.go (fun t k => XS.lload X12.here hx rfl (hb hby at_124) rfl k) ?_
    show OwnOutW p e s below 16 2176 _ (T12.setTop (mkF m 126 #[.val (.long x0), .second, .val (.long x2), .second, .val (.int x4), .val (.long x5), .second, .val (.long x7), .second, .val (.long x9), .second, .val (.long (x0 &&& (9223372036854775807 : Int64))), .second, .val (.long (x2 &&& (9223372036854775807 : Int64))), .second, .val (.long ((x4 &&& (65535 : Int32)).toInt64)), .second, .val (.long (x5 &&& (1099511627775 : Int64))), .second, .val (.long (x7 &&& (1099511627775 : Int64))), .second, .val (.long (x9 &&& (1099511627775 : Int64))), .second, .val (.ref c1), .val (.ref c4), .val (.int o7.1), .val (.int o8.1), .val (.int o9), .val (.int o10), .val (.int o11.1), .val (.int o12), .unset, .unset, .unset, .unset, .unset, .unset, .unset] [(.long (x5 &&& (1099511627775 : Int64)))]))
    refine OwnOutW.go (fun t k => XS.lload X12.here hx rfl (hb hby at_126) rfl k) ?_
    show OwnOutW p e s below 16 2176 _ (T12.setTop (mkF m 128 #[.val (.long x0), .second, .val (.long x2), .second, .val (.int x4), .val (.long x5), .second, .val (.long x7), .second, .val (.long x9), .second, .val (.long (x0 &&& (9223372036854775807 : Int64))), .second, .val (.long (x2 &&& (9223372036854775807 : Int64))), .second, .val (.long ((x4 &&& (65535 : Int32)).toInt64)), .second, .val (.long (x5 &&& (1099511627775 : Int64))), .second, .val (.long (x7 &&& (1099511627775 : Int64))), .second, .val (.long (x9 &&& (1099511627775 : Int64))), .second, .val (.ref c1), .val (.ref c4), .val (.int o7.1), .val (.int o8.1), .val (.int o9), .val (.int o10), .val (.int o11.1), .val (.int o12), .unset, .unset, .unset, .unset, .unset, .unset, .unset] [(.long (x7 &&& (1099511627775 : Int64))), (.long (x5 &&& (1099511627775 : Int64)))]))
    refine OwnOutW.go (fun t k => XS.ladd X12.here hx rfl (hb hby at_128) rfl k) ?_
    show OwnOutW p e s below 16 2176 _ (T12.setTop (mkF m 129 #[.val (.long x0), .second, .val (.long x2), .second, .val (.int x4), .val (.long x5), .second, .val (.long x7), .second, .val (.long x9), .second, .val (.long (x0 &&& (9223372036854775807 : Int64))), .second, .val (.long (x2 &&& (9223372036854775807 : Int64))), .second, .val (.long ((x4 &&& (65535 : Int32)).toInt64)), .second, .val (.long (x5 &&& (1099511627775 : Int64))), .second, .val (.long (x7 &&& (1099511627775 : Int64))), .second, .val (.long (x9 &&& (1099511627775 : Int64))), .second, .val (.ref c1), .val (.ref c4), .val (.int o7.1), .val (.int o8.1), .val (.int o9), .val (.int o10), .val (.int o11.1), .val (.int o12), .unset, .unset, .unset, .unset, .unset, .unset, .unset] [(.long ((x5 &&& (1099511627775 : Int64)) + (x7 &&& (1099511627775 : Int64))))]))
    refine OwnOutW.go (fun t k => XS.lstore X12.here hx rfl (hb hby at_129) rfl (l' := #[.val (.long x0), .second, .val (.long x2), .second, .val (.int x4), .val (.long x5), .second, .val (.long x7), .second, .val (.long x9), .second, .val (.long (x0 &&& (9223372036854775807 : Int64))), .second, .val (.long (x2 &&& (9223372036854775807 : Int64))), .second, .val (.long ((x4 &&& (65535 : Int32)).toInt64)), .second, .val (.long (x5 &&& (1099511627775 : Int64))), .second, .val (.long (x7 &&& (1099511627775 : Int64))), .second, .val (.long (x9 &&& (1099511627775 : Int64))), .second, .val (.ref c1), .val (.ref c4), .val (.int o7.1), .val (.int o8.1), .val (.int o9), .val (.int o10), .val (.int o11.1), .val (.int o12), .val (.long ((x5 &&& (1099511627775 : Int64)) + (x7 &&& (1099511627775 : Int64)))), .second, .unset, .unset, .unset, .unset, .unset]) rfl k) ?_
    show OwnOutW p e s below 16 2176 _ (T12.setTop (mkF m 131 #[.val (.long x0), .second, .val (.long x2), .second, .val (.int x4), .val (.long x5), .second, .val (.long x7), .second, .val (.long x9), .second, .val (.long (x0 &&& (9223372036854775807 : Int64))), .second, .val (.long (x2 &&& (9223372036854775807 : Int64))), .second, .val (.long ((x4 &&& (65535 : Int32)).toInt64)), .second, .val (.long (x5 &&& (1099511627775 : Int64))), .second, .val (.long (x7 &&& (1099511627775 : Int64))), .second, .val (.long (x9 &&& (1099511627775 : Int64))), .second, .val (.ref c1), .val (.ref c4), .val (.int o7.1), .val (.int o8.1), .val (.int o9), .val (.int o10), .val (.int o11.1), .val (.int o12), .val (.long ((x5 &&& (1099511627775 : Int64)) + (x7 &&& (1099511627775 : Int64)))), .second, .unset, .unset, .unset, .unset, .unset] []))
    exact w0_131 ⟨hx, hw, hby, hml, hret, hlk, hnm⟩  _ _ _ _ _ x0 x2 x4 x5 x7 x9 (x0 &&& (9223372036854775807 : Int64)) (x2 &&& (9223372036854775807 : Int64)) ((x4 &&& (65535 : Int32)).toInt64) (x5 &&& (1099511627775 : Int64)) (x7 &&& (1099511627775 : Int64)) (x9 &&& (1099511627775 : Int64)) o7.1 o8.1 o9 o10 o11.1 o12 ((x5 &&& (1099511627775 : Int64)) + (x7 &&& (1099511627775 : Int64))) c1 o3.1 o3.2 o11.2 c4 o6.1 o6.2 o8.2.1 _ hr X12 e12 N_11 O_11 K_11 hZ hown hS6 hk_11 E0_11 F0_limit_11 F0_whole_11 F0_weight_11 F0_spent_11 E1_11 F1_limit_11 F1_whole_11 F1_weight_11 F1_spent_11 g_1 z_1 g_4 z_4 ne0_1_4
set_option maxRecDepth 65536 in
set_option maxHeartbeats 40000000 in
theorem rm0 (l : Launch) (Z : State) (a0 : Array Value) (hw : ∀ d ∈ tables_1, d.before a0 Z = true) (ws : List Jvm.Cond) (x0 : Int64) (x2 : Int64) (x4 : Int32) (x5 : Int64) (x7 : Int64) (x9 : Int64) (h0 : Heap) (n0 : Nat) (o : Int32) (hr : f0 x0 x2 x4 x5 x7 x9 = some o) (O0 : Old Z n0 h0) :
    MetFree l x (head1 (Jvm.Cond.code x code maxLocals ret :: ws) room_1) (fun a U => a = #[(.long x0), (.long x2), (.int x4), (.long x5), (.long x7), (.long x9)] ∧ Z.Warmed39 U.vm ∧ U.heap = h0) (fun _ _ _ _ _ => True) (fun _ U o' U' => ∃ v L, o' = .returned v ∧ Q0 Z x0 x2 x4 x5 x7 x9 h0 n0 o v U'.heap L ∧ ReturnedEndW U o' U' L 16 2176) := by
  refine MetFree.of_bodySF (plainFor_of_name pn0) hisR ?_
  intro p e s m args below meth c s₁ Bd hml0 hP hK
  obtain ⟨rfl, hZ, hh⟩ := hP
  have X0 : Stand p l e room_1 s m #[(.long x0), (.long x2), (.int x4), (.long x5), (.long x7), (.long x9)] below meth c s₁ [] 0 0 := Stand.of_body Bd
  have e0 : s₁.heap = h0 := by rw [← hh, Bd.state]; rfl
  have hfc := findClass_of_methodNamed Bd.named
  exact OwnOutW.at (ef0 m x0 x2 x4 x5 x7 x9) (w0_0 ⟨Bd.exec, hw, Bd.bytes, hml0, Bd.returns, Bd.notSynchronized, (name_of_methodNamed Bd.named Bd.method).1⟩ _ _ _ _ _ x0 x2 x4 x5 x7 x9 o hr X0 e0 (Fr.nil n0) O0 (Keep.refl _ _) hZ hfc ((State.WarmedH.refl s).since 0) (Nat.zero_le _) )
theorem own_nn (x : Int64) : ¬ (x &&& (9223372036854775807 : Int64)) < 0 := by
  rw [Int64.lt_iff_toInt_lt, c_maskL x (9223372036854775807 : Int64) 63 (by decide) (by decide)]
  have : (0 : Int64).toInt = 0 := by decide
  rw [this]; omega
theorem own_w16 (x : Int32) : ¬ ((x &&& (65535 : Int32)).toInt64) < 0 := by
  rw [Int64.lt_iff_toInt_lt, c_i2l, c_mask x (65535 : Int32) 16 (by decide) (by decide)]
  have : (0 : Int64).toInt = 0 := by decide
  rw [this]; omega
theorem law_core (l1 l2 w a b c : Int64) (h1 : ¬ l1 < 0) (h2 : ¬ l2 < 0) (hw : ¬ w < 0) :
    ((f1 l2 (0 : Int64) (0 : Int64) (0 : Int64)).bind fun o3 => ((f4 l1 w (0 : Int64) (0 : Int64) (0 : Int64) o3.1 o3.2 (0 : Int64)).bind fun o6 => ((f6 a o6.1 o6.2 (0 : Int64) o3.1 o3.2 (0 : Int64)).bind fun o7 => ((f6 b o6.1 o6.2 o7.2.1 o3.1 o3.2 o7.2.2).bind fun o8 => ((f7 o6.1 o6.2 o8.2.1 o3.1 o3.2 o8.2.2).bind fun o9 => ((f7b o3.1 o3.2 o8.2.2).bind fun o10 => ((f6b c o3.1 o3.2 o8.2.2).bind fun o11 => ((f7b o3.1 o3.2 o11.2).bind fun o12 => (f0_131 l1 l2 w a c o7.1 o8.1 o9 o10 o11.1 o12 (a + b))))))))))
    = some 1 := by
  have e1 : f1 l2 0 0 0 = some (l2, 0) := by rw [f1, f3, if_neg h2]; rfl
  have e4 : f4 l1 w 0 0 0 l2 0 0 = some (l1, w) := by rw [f4, if_neg hw, f3, if_neg h1]; rfl
  have ez : (0 : Int64) + a = a := Int64.zero_add a
  have ez2 : (0 : Int64) + a * w = a * w := Int64.zero_add _
  have em : (a + b) * w = a * w + b * w := Int64.add_mul
  rw [e1]; dsimp only [Option.bind_some]
  rw [e4]; dsimp only [Option.bind_some]
  by_cases p1 : l1 < a <;> by_cases p2 : l2 < a * w <;> by_cases p3 : l1 < a + b <;> by_cases p4 : l2 < a * w + b * w <;> by_cases p5 : l2 < a * w + b * w + c <;>
    simp [f6, f6_27, f6b, f6b_27, f7, f7b, f0_131, f0_161, f0_162, f0_184, f0_185, f0_203, f0_234, f0_252, f0_280, ez, ez2, em, p1, p2, p3, p4, p5]
theorem law_ok (x0 : Int64) (x2 : Int64) (x4 : Int32) (x5 : Int64) (x7 : Int64) (x9 : Int64) : f0 x0 x2 x4 x5 x7 x9 = some 1 := by
  rw [f0]
  exact law_core _ _ _ _ _ _ (own_nn x0) (own_nn x2) (own_w16 x4)
set_option maxRecDepth 65536 in
set_option maxHeartbeats 40000000 in
theorem comes_1 {Post : Tables → Env → Array Value → State → Outcome → State → Prop} (hpost : ∀ tb e args s v u, (limb_1_1.after args s (.returned v) u = true ∧ limb_1_2.after args s (.returned v) u = true ∧ True) → ReturnedEndW s (.returned v) u (Jvm.fieldLocs frame_1_writes args s ++ Jvm.arrayLocs frame_1_arrays args s ++ Jvm.staticLocs frame_1_statics s) 16 2176 → Post tb e args s (.returned v) u) :
    ArmFor flags0 classFile x code maxLocals ret World_1 tables_1 room_1 Calls_1 rest_1 Pre_1 Post := by
  intro l hfl _ _ p e ha hc hk s m args below hf hA hF happ hP
  obtain ⟨hcalls, hrest, hpre⟩ := hP
  obtain ⟨-, -, -, hnamed, -, -, -, hat⟩ := (Spec.applies_iff hf).mp happ
  obtain ⟨hg, hn⟩ := and_e (Cond.before_iff.mp (show (Jvm.Cond.and given_1 narrow_1).before args s = true from hpre))
  obtain ⟨g1, g2⟩ := and_e hg
  obtain ⟨g3, g4⟩ := and_e g2
  obtain ⟨g5, g6⟩ := and_e g4
  obtain ⟨g7, g8⟩ := and_e g6
  obtain ⟨g9, g10⟩ := and_e g8
  obtain ⟨g11, g12⟩ := and_e g10
  obtain ⟨w0, w1, w2, w3, w4, w5, rfl⟩ : ∃ w0 w1 w2 w3 w4 w5 : Value, args = #[w0, w1, w2, w3, w4, w5] := by
    have hs : args.size = 6 := by simpa [Cond.value, given_1] using g1
    obtain ⟨L⟩ := args
    match L, hs with
    | [w0, w1, w2, w3, w4, w5], _ => exact ⟨w0, w1, w2, w3, w4, w5, rfl⟩
  have hw := fun d (hd : d ∈ tables_1) => atoms_spec (ws := Jvm.Cond.code x code maxLocals ret :: tables_1) hat d (List.mem_cons_of_mem _ hd)
  obtain ⟨i0, ei0⟩ := isL_v g3
  obtain rfl : w0 = (.long i0) := Option.some.inj ei0
  obtain ⟨i1, ei1⟩ := isL_v g5
  obtain rfl : w1 = (.long i1) := Option.some.inj ei1
  obtain ⟨i2, ei2⟩ := is_v g7
  obtain rfl : w2 = (.int i2) := Option.some.inj ei2
  obtain ⟨i3, ei3⟩ := isL_v g9
  obtain rfl : w3 = (.long i3) := Option.some.inj ei3
  obtain ⟨i4, ei4⟩ := isL_v g11
  obtain rfl : w4 = (.long i4) := Option.some.inj ei4
  obtain ⟨i5, ei5⟩ := isL_v g12
  obtain rfl : w5 = (.long i5) := Option.some.inj ei5
  obtain ⟨n, o, h1, h2, h3, _, L, rfl, ⟨rfl, N⟩, hq⟩ := rm0 l s _ hw tables_1 i0 i1 i2 i3 i4 i5 s.heap s.heap.size 1 (law_ok i0 i1 i2 i3 i4 i5) (Old.start s) p e ha hc hk s m _ below hf ((Spec.applies_iff_loose hf).mp happ).1 ⟨rfl, State.Warmed39.refl s, rfl⟩ trivial
  have hv : (1 : Int32) = 1 := rfl
  refine ⟨n, _, h1, h2, h3, hpost _ _ _ _ _ _ ⟨Cond.after_iff.mpr rfl, Cond.after_iff.mpr (eq_i res_at (Term.int_eval (1)) (congrArg Value.int hv)), trivial⟩ ⟨hq.1, hq.2.1, hq.2.2.1, (hq.2.2.2.sift fun y hy => Or.inr (N y hy)).mono (by decide) (by decide)⟩⟩
theorem main_1_1 : Claimed_1_1 := comes_1 fun _ _ _ _ _ _ h hF => ⟨h.1, hF⟩
theorem main_1_2 : Claimed_1_2 := comes_1 fun _ _ _ _ _ _ h hF => ⟨h.2.1, hF⟩
end Jvm.Pilot.@@N@@
namespace Jvm.Pilot.@@N@@
open Jvm Jvm.ClassFile Sem Op Lib Jvm.Free Jvm.Stand Jvm.Pilot.@@N@@.Jvm.D
/-! MADE BY PROGRAM (witnessworld.py) out of the Statement's table words and the real class files: 15 classes; the members and pool entries that the words name. The judged class is class 1, her method 1. -/
namespace start1
open Jvm.ClassFile
def u (s : String) : CpInfo := .utf8 (stringToUtf16 s)
/-- a pool by its gaps: so many unusable entries, then the entry; so many at the end -/
def gap : Nat → List CpInfo → List CpInfo
  | 0, r => r
  | n + 1, r => .unusable :: gap n r
def poolList (es : List (Nat × CpInfo)) (last : Nat) : List CpInfo := es.foldr (fun e r => gap e.1 (e.2 :: r)) (gap last [])
def pool (es : List (Nat × CpInfo)) (last : Nat) : Array CpInfo := ⟨poolList es last⟩
def fileOf (pool : Array CpInfo) (this : Nat) (attrs : Array Attribute := #[]) (ms : Array MethodInfo := #[]) (fl : Nat := 33) (sup : Nat := 0) (ifs : Array Nat := #[]) (fds : Array FieldInfo := #[]) : ClassFile where
  minorVersion := 0
  majorVersion := 65
  constantPool := pool
  accessFlags := fl
  thisClass := this
  superClass := sup
  interfaces := ifs
  fields := fds
  methods := ms
  attributes := attrs
def plain (name : String) (sup : Option ClassId) : Class where
  name := name
  kind := .ordinary
  loader := none
  accessFlags := 33
  super := sup
  interfaces := #[]
  cf := none
  fields := #[]
  methods := #[]
  instanceTypes := #[]
  staticTypes := #[]
  resolved := #[]
  callSites := []
  init := .initialized
  statics := none
  mirror := none

def pool0 : Array CpInfo := pool [(5, u "<init>"), (0, u "()V"), (1, .class_ 10), (1, u "java/lang/Object")] 113

def k0c0 : Code := { maxStack := 0, maxLocals := 1, code := object_method_1_code, exceptionTable := #[], attributes := #[] }
def k0m0 : Method := { name := "<init>", desc := "()V", sig := { parameters := [], returnType := none }, accessFlags := 1, code := some k0c0 }
/-- java/lang/Object -/
def k0 : Class := { plain "java/lang/Object" none with
  accessFlags := 33
  interfaces := #[]
  cf := some (fileOf pool0 8 #[] #[{ accessFlags := 1, nameIndex := 5, descriptorIndex := 6, attributes := #[] }] 33 0 #[] #[])
  fields := #[]
  methods := #[k0m0]
  instanceTypes := #[]
  staticTypes := #[]
  resolved := Array.replicate 124 none
  statics := none }

def pool1 : Array CpInfo := pool [(2, .class_ 4), (1, u "java/lang/Object"), (0, u "<init>"), (0, u "()V"), (2, .long 9223372036854775807), (1, .integer 65535), (0, .long 1099511627775), (1, .class_ 15), (0, u (site_54.cls)), (0, .string 17), (0, u "u"), (0, .methodref 14 19), (0, .nameAndType 5 20), (0, u "(JLjava/lang/String;)V"), (0, .methodref 14 22), (0, .nameAndType 5 23), (0, u (site_71.desc)), (0, .methodref 14 25), (0, .nameAndType 26 27), (0, u "take"), (0, u "(J)Z"), (0, .methodref 14 29), (0, .nameAndType 30 31), (0, u "isSpent"), (0, u "()Z"), (0, .class_ 33), (0, u (x.cls)), (2, u "law"), (0, u "(JJIJJJ)Z")] 3

def k1m0 : Method := { name := "<init>", desc := "()V", sig := { parameters := [], returnType := none }, accessFlags := 1, code := none }
def k1c1 : Code := { maxStack := 8, maxLocals := 38, code := code, exceptionTable := #[], attributes := #[] }
def k1m1 : Method := { name := "law", desc := "(JJIJJJ)Z", sig := { parameters := [.long, .long, .int, .long, .long, .long], returnType := some .boolean }, accessFlags := 9, code := some k1c1 }
def k1 : Class := { plain (x.cls) (some 0) with
  accessFlags := 49
  interfaces := #[]
  cf := some (fileOf pool1 32 #[] #[{ accessFlags := 1, nameIndex := 5, descriptorIndex := 6, attributes := #[] }, { accessFlags := 9, nameIndex := 36, descriptorIndex := 37, attributes := #[] }] 49 2 #[] #[])
  fields := #[]
  methods := #[k1m0, k1m1]
  instanceTypes := #[]
  staticTypes := #[]
  resolved := Array.replicate 41 none
  statics := none }

def pool2 : Array CpInfo := pool [(1, .methodref 2 3), (0, .class_ 4), (0, .nameAndType 5 6), (0, u "java/lang/Object"), (0, u "<init>"), (0, u "()V"), (0, .methodref 8 9), (0, .class_ 10), (0, .nameAndType 11 12), (0, u (site_54.cls)), (0, u "checked"), (0, u "(JLjava/lang/String;)J"), (0, .fieldref 8 14), (0, .nameAndType 15 16), (0, u "limit"), (0, u "J"), (0, .fieldref 8 18), (0, .nameAndType 19 20), (0, u "whole"), (0, u (own_wD)), (0, .fieldref 8 22), (0, .nameAndType 23 16), (0, u "weight"), (9, .string 19), (0, .methodref 35 36), (0, .class_ 37), (0, .nameAndType 38 39), (0, u "java/util/Objects"), (0, u "requireNonNull"), (0, u "(Ljava/lang/Object;Ljava/lang/String;)Ljava/lang/Object;"), (3, .fieldref 8 44), (0, .nameAndType 45 16), (0, u "spent"), (0, .methodref 8 47), (0, .nameAndType 48 49), (0, u "take"), (0, u "(J)Z"), (0, u "(JLjava/lang/String;)V"), (2, u (site_71.desc)), (4, u "isSpent"), (0, u "()Z")] 19

def k2c0 : Code := { maxStack := 4, maxLocals := 4, code := prog_1_method_1_code, exceptionTable := #[], attributes := #[] }
def k2m0 : Method := { name := "<init>", desc := "(JLjava/lang/String;)V", sig := { parameters := [.long, (.object "java/lang/String")], returnType := none }, accessFlags := 1, code := some k2c0 }
def k2c1 : Code := { maxStack := 4, maxLocals := 7, code := prog_1_method_2_code, exceptionTable := #[], attributes := #[] }
def k2m1 : Method := { name := "<init>", desc := (site_71.desc), sig := { parameters := [.long, (.object "java/lang/String"), (.object (site_54.cls)), .long], returnType := none }, accessFlags := 1, code := some k2c1 }
def k2c2 : Code := { maxStack := 5, maxLocals := 3, code := prog_1_method_3_code, exceptionTable := #[], attributes := #[] }
def k2m2 : Method := { name := "checked", desc := "(JLjava/lang/String;)J", sig := { parameters := [.long, (.object "java/lang/String")], returnType := some .long }, accessFlags := 10, code := some k2c2 }
def k2c3 : Code := { maxStack := 4, maxLocals := 1, code := prog_1_method_5_code, exceptionTable := #[], attributes := #[] }
def k2m3 : Method := { name := "isSpent", desc := "()Z", sig := { parameters := [], returnType := some .boolean }, accessFlags := 1, code := some k2c3 }
def k2c4 : Code := { maxStack := 5, maxLocals := 4, code := prog_1_method_6_code, exceptionTable := #[], attributes := #[] }
def k2m4 : Method := { name := "take", desc := "(J)Z", sig := { parameters := [.long], returnType := some .boolean }, accessFlags := 1, code := some k2c4 }
def k2 : Class := { plain (site_54.cls) (some 0) with
  accessFlags := 49
  interfaces := #[]
  cf := some (fileOf pool2 8 #[] #[{ accessFlags := 1, nameIndex := 5, descriptorIndex := 50, attributes := #[] }, { accessFlags := 1, nameIndex := 5, descriptorIndex := 53, attributes := #[] }, { accessFlags := 10, nameIndex := 11, descriptorIndex := 12, attributes := #[] }, { accessFlags := 1, nameIndex := 58, descriptorIndex := 59, attributes := #[] }, { accessFlags := 1, nameIndex := 48, descriptorIndex := 49, attributes := #[] }] 49 2 #[] #[{ accessFlags := 18, nameIndex := 15, descriptorIndex := 16, attributes := #[] }, { accessFlags := 18, nameIndex := 19, descriptorIndex := 20, attributes := #[] }, { accessFlags := 18, nameIndex := 23, descriptorIndex := 16, attributes := #[] }, { accessFlags := 2, nameIndex := 45, descriptorIndex := 16, attributes := #[] }])
  fields := #[{ name := "limit", type := .long, accessFlags := 18, slot := 0, constantValue := 0 }, { name := "whole", type := (.object (site_54.cls)), accessFlags := 18, slot := 1, constantValue := 0 }, { name := "weight", type := .long, accessFlags := 18, slot := 2, constantValue := 0 }, { name := "spent", type := .long, accessFlags := 2, slot := 3, constantValue := 0 }]
  methods := #[k2m0, k2m1, k2m2, k2m3, k2m4]
  instanceTypes := #[.long, (.object (site_54.cls)), .long, .long]
  staticTypes := #[]
  resolved := Array.replicate 79 none
  statics := none }

def pool3 : Array CpInfo := pool [(1, .class_ 2), (0, u "java/io/Serializable"), (0, .class_ 4), (0, u "java/lang/Object")] 2

/-- java/io/Serializable -/
def k3 : Class := { plain "java/io/Serializable" (some 0) with
  accessFlags := 1537
  interfaces := #[]
  cf := some (fileOf pool3 1 #[] #[] 1537 3 #[] #[])
  fields := #[]
  methods := #[]
  instanceTypes := #[]
  staticTypes := #[]
  resolved := Array.replicate 7 none
  statics := none }

def pool4 : Array CpInfo := pool [(1, .class_ 2), (0, u "java/lang/Comparable"), (0, .class_ 4), (0, u "java/lang/Object")] 7

/-- java/lang/Comparable -/
def k4 : Class := { plain "java/lang/Comparable" (some 0) with
  accessFlags := 1537
  interfaces := #[]
  cf := some (fileOf pool4 1 #[] #[] 1537 3 #[] #[])
  fields := #[]
  methods := #[]
  instanceTypes := #[]
  staticTypes := #[]
  resolved := Array.replicate 12 none
  statics := none }

def pool5 : Array CpInfo := pool [(2, .class_ 4), (1, u "java/lang/CharSequence"), (42, .class_ 48), (0, u "java/lang/CharSequence$1CodePointIterator"), (10, .class_ 60), (0, u "java/lang/CharSequence$1CharIterator"), (5, .class_ 67), (0, u "java/lang/Object")] 63

/-- java/lang/CharSequence -/
def k5 : Class := { plain "java/lang/CharSequence" (some 0) with
  accessFlags := 1537
  interfaces := #[]
  cf := some (fileOf pool5 2 #[.nestMembers #[47, 59]] #[] 1537 66 #[] #[])
  fields := #[]
  methods := #[]
  instanceTypes := #[]
  staticTypes := #[]
  resolved := Array.replicate 131 none
  statics := none }

def pool6 : Array CpInfo := pool [(1, .class_ 2), (0, u "java/lang/constant/Constable"), (0, .class_ 4), (0, u "java/lang/Object")] 6

/-- java/lang/constant/Constable -/
def k6 : Class := { plain "java/lang/constant/Constable" (some 0) with
  accessFlags := 1537
  interfaces := #[]
  cf := some (fileOf pool6 1 #[] #[] 1537 3 #[] #[])
  fields := #[]
  methods := #[]
  instanceTypes := #[]
  staticTypes := #[]
  resolved := Array.replicate 11 none
  statics := none }

def pool7 : Array CpInfo := pool [(1, .class_ 2), (0, u "java/lang/constant/ConstantDesc"), (0, .class_ 4), (0, u "java/lang/Object")] 32

/-- java/lang/constant/ConstantDesc -/
def k7 : Class := { plain "java/lang/constant/ConstantDesc" (some 0) with
  accessFlags := 1537
  interfaces := #[]
  cf := some (fileOf pool7 1 #[] #[] 1537 3 #[] #[])
  fields := #[]
  methods := #[]
  instanceTypes := #[]
  staticTypes := #[]
  resolved := Array.replicate 37 none
  statics := none }

def pool8 : Array CpInfo := pool [(2, .class_ 4), (1, u "java/lang/Object"), (0, u "<init>"), (0, u "()V"), (3, .class_ 12), (1, u "java/lang/String"), (0, u "value"), (0, u "[B"), (2, u "coder"), (0, u "B"), (2, u "hash"), (0, u "I"), (2, u "hashIsZero"), (0, u "Z"), (13, u "COMPACT_STRINGS"), (534, .class_ 576), (0, u "java/lang/CharSequence"), (22, u "CASE_INSENSITIVE_ORDER"), (0, u "Ljava/util/Comparator;"), (500, u "serialPersistentFields"), (0, u "[Ljava/io/ObjectStreamField;"), (0, .class_ 1104), (0, u "java/lang/String$CaseInsensitiveComparator"), (1, .class_ 1107), (0, u "java/io/Serializable"), (0, .class_ 1109), (0, u "java/lang/Comparable"), (0, .class_ 1111), (0, u "java/lang/constant/Constable"), (0, .class_ 1113), (0, u "java/lang/constant/ConstantDesc"), (2, u "serialVersionUID"), (0, u "J"), (3, u "REPL"), (0, u "C"), (2, u "LATIN1"), (1, u "UTF16")] 323

def k8m0 : Method := { name := "<init>", desc := "()V", sig := { parameters := [], returnType := none }, accessFlags := 1, code := none }
/-- java/lang/String -/
def k8 : Class := { plain "java/lang/String" (some 0) with
  accessFlags := 49
  interfaces := #[3, 4, 5, 6, 7]
  cf := some (fileOf pool8 10 #[.nestMembers #[1103]] #[{ accessFlags := 1, nameIndex := 5, descriptorIndex := 6, attributes := #[] }] 49 2 #[1106, 1108, 575, 1110, 1112] #[{ accessFlags := 18, nameIndex := 13, descriptorIndex := 14, attributes := #[] }, { accessFlags := 18, nameIndex := 17, descriptorIndex := 18, attributes := #[] }, { accessFlags := 2, nameIndex := 21, descriptorIndex := 22, attributes := #[] }, { accessFlags := 2, nameIndex := 25, descriptorIndex := 26, attributes := #[] }, { accessFlags := 26, nameIndex := 1116, descriptorIndex := 1117, attributes := #[] }, { accessFlags := 24, nameIndex := 40, descriptorIndex := 26, attributes := #[] }, { accessFlags := 26, nameIndex := 1101, descriptorIndex := 1102, attributes := #[] }, { accessFlags := 26, nameIndex := 1121, descriptorIndex := 1122, attributes := #[] }, { accessFlags := 25, nameIndex := 599, descriptorIndex := 600, attributes := #[] }, { accessFlags := 24, nameIndex := 1125, descriptorIndex := 18, attributes := #[] }, { accessFlags := 24, nameIndex := 1127, descriptorIndex := 18, attributes := #[] }])
  fields := #[{ name := "value", type := (.array .byte), accessFlags := 18, slot := 0, constantValue := 0 }, { name := "coder", type := .byte, accessFlags := 18, slot := 1, constantValue := 0 }, { name := "hash", type := .int, accessFlags := 2, slot := 2, constantValue := 0 }, { name := "hashIsZero", type := .boolean, accessFlags := 2, slot := 3, constantValue := 0 }, { name := "serialVersionUID", type := .long, accessFlags := 26, slot := 0, constantValue := 0 }, { name := "COMPACT_STRINGS", type := .boolean, accessFlags := 24, slot := 1, constantValue := 0 }, { name := "serialPersistentFields", type := (.array (.object "java/io/ObjectStreamField")), accessFlags := 26, slot := 2, constantValue := 0 }, { name := "REPL", type := .char, accessFlags := 26, slot := 3, constantValue := 0 }, { name := "CASE_INSENSITIVE_ORDER", type := (.object "java/util/Comparator"), accessFlags := 25, slot := 4, constantValue := 0 }, { name := "LATIN1", type := .byte, accessFlags := 24, slot := 5, constantValue := 0 }, { name := "UTF16", type := .byte, accessFlags := 24, slot := 6, constantValue := 0 }]
  methods := #[k8m0]
  instanceTypes := #[(.array .byte), .byte, .int, .boolean]
  staticTypes := #[.long, .boolean, (.array (.object "java/io/ObjectStreamField")), .char, (.object "java/util/Comparator"), .byte, .byte]
  resolved := Array.replicate 1451 none
  statics := none }

def pool9 : Array CpInfo := pool [(2, .class_ 4), (1, u "java/lang/Object"), (0, u "<init>"), (0, u "()V"), (35, .class_ 44), (1, u "java/util/Objects"), (0, u "requireNonNull"), (48, u "(Ljava/lang/Object;Ljava/lang/String;)Ljava/lang/Object;")] 89

def k9m0 : Method := { name := "<init>", desc := "()V", sig := { parameters := [], returnType := none }, accessFlags := 2, code := none }
def k9c1 : Code := { maxStack := 3, maxLocals := 2, code := jdk_31_method_11_code, exceptionTable := #[], attributes := #[] }
def k9m1 : Method := { name := "requireNonNull", desc := "(Ljava/lang/Object;Ljava/lang/String;)Ljava/lang/Object;", sig := { parameters := [(.object "java/lang/Object"), (.object "java/lang/String")], returnType := some (.object "java/lang/Object") }, accessFlags := 9, code := some k9c1 }
/-- java/util/Objects -/
def k9 : Class := { plain "java/util/Objects" (some 0) with
  accessFlags := 49
  interfaces := #[]
  cf := some (fileOf pool9 42 #[] #[{ accessFlags := 2, nameIndex := 5, descriptorIndex := 6, attributes := #[] }, { accessFlags := 9, nameIndex := 45, descriptorIndex := 94, attributes := #[] }] 49 2 #[] #[])
  fields := #[]
  methods := #[k9m0, k9m1]
  instanceTypes := #[]
  staticTypes := #[]
  resolved := Array.replicate 184 none
  statics := none }

def pool10 : Array CpInfo := pool [(1, u "java/lang/Cloneable"), (0, .class_ 1), (0, u "java/lang/Object"), (0, .class_ 3)] 3

/-- java/lang/Cloneable -/
def k10 : Class := { plain "java/lang/Cloneable" (some 0) with
  accessFlags := 1537
  interfaces := #[]
  cf := some (fileOf pool10 2 #[] #[] 1537 4 #[] #[])
  fields := #[]
  methods := #[]
  instanceTypes := #[]
  staticTypes := #[]
  resolved := Array.replicate 8 none
  statics := none }

/-- the primitive byte -/
def k11 : Class := { plain "byte" none with kind := .primitive 'B', accessFlags := 0x411 }
/-- [B -/
def k12 : Class := { plain "[B" (some 0) with kind := .array 11 .byte, interfaces := #[10, 3], accessFlags := 1041 }

/-- the primitive int -/
def k13 : Class := { plain "int" none with kind := .primitive 'I', accessFlags := 0x411 }
/-- [I -/
def k14 : Class := { plain "[I" (some 0) with kind := .array 13 .int, interfaces := #[10, 3], accessFlags := 1041 }

def heap : Heap := #[]
def classes : Array Class := #[k0, k1, k2, k3, k4, k5, k6, k7, k8, k9, k10, k11, k12, k13, k14]
def interned : List (Array UInt16 × Addr) := []
def slotsUsed : Nat := 0
def theMethod : MethodId := ⟨1, 1⟩
def args0 : Array Value := #[.long 5, .long 7, .int 3, .long 3, .long 9, .long 2]
def aboutOver (below : List Frame) : State where
  vm := { classes := classes, interned := interned.toArray }
  heap := heap
  slotsUsed := slotsUsed
  threads := #[{ frames := .invoking theMethod args0 :: below }]
def below0 : List Frame := [.native { method := ⟨0, 0⟩, args := #[] }]
def about1 : State := aboutOver below0
def p0 : Program := .bare "" "" ""
def e0 : Env := launch0.env 0 0 0
theorem w_frames : about1.frames = Frame.invoking theMethod args0 :: below0 := rfl
set_option maxRecDepth 65536 in
theorem w_args : argsFit about1.vm theMethod args0 = true := by decide +kernel
set_option maxRecDepth 65536 in
theorem w_heap : heapFits about1 = true := by decide +kernel
set_option maxRecDepth 65536 in
theorem w_runnable : about1.curStatus? = some .runnable := by decide +kernel
set_option maxRecDepth 65536 in
theorem w_alone : about1.alone = true := by decide +kernel
set_option maxRecDepth 65536 in
theorem w_named : about1.methodNamed? x = some theMethod := by decide +kernel
set_option maxRecDepth 65536 in
theorem w_hears : about1.hears theMethod below0 = true := by decide +kernel
set_option maxRecDepth 65536 in
theorem w_ripe : about1.ripe theMethod args0 below0 = true := by decide +kernel
theorem w_running : about1.status = .running := rfl
set_option maxRecDepth 65536 in
theorem w_room : about1.hasRoom e0.platform room_1 = true :=
  launch0.hasRoom_least _ room_1 (by decide +kernel) (by decide +kernel) (by decide +kernel) (by decide +kernel) (by decide +kernel) (by decide +kernel)
theorem allAtoms_all (ts : List Jvm.Cond) (a : Array Jvm.Value) (st : Jvm.State) : (allAtoms ts).before a st = ts.all (fun c => c.before a st) := by
  induction ts with
  | nil => rfl
  | cons c t ih =>
    show (Jvm.Cond.and c (allAtoms t)).before a st = _
    rw [Jvm.Cond.before_and, ih, List.all_cons]
def words1 : List Jvm.Cond := Jvm.Cond.code x code maxLocals ret :: tables_1
/-- a 'code' word, met by the world's own term for the bytes: nothing is compared byte by byte -/
theorem code_word {y : MethodName} {bytes : ByteArray} {mx : Nat} {rt : Option FieldType} {a : Array Value} {s : State} {m : MethodId} {meth : Method} {c : Code} (h1 : s.methodNamed? y = some m) (h2 : s.vm.method? m = some meth) (h3 : meth.code = some c) (h4 : c.code = bytes)
    (h5 : (c.maxLocals == mx && c.exceptionTable.isEmpty && decide (c.maxStack ≤ mostOperands) && decide (meth.sig.returnType = rt) && !meth.locks && decide (parseMethodDescriptor y.desc = some meth.sig)) = true) : (Jvm.Cond.code y bytes mx rt).before a s = true := by
  simp only [Bool.and_eq_true, beq_iff_eq, Bool.not_eq_true', decide_eq_true_eq] at h5
  obtain ⟨⟨⟨⟨⟨g1, g2⟩, g3⟩, g4⟩, g5⟩, g6⟩ := h5
  simp [Cond.before, Cond.holds, Cond.value, h1, h2, h3, h4, g1, g2, g3, g4, g5, g6]
def isCode : Jvm.Cond → Bool
  | .code _ _ _ _ => true
  | _ => false
theorem all_split {L : List Jvm.Cond} {P : Jvm.Cond → Bool} (h1 : L.all (fun c => isCode c || P c) = true) (h2 : ∀ c ∈ L.filter isCode, P c = true) : L.all P = true := by
  refine List.all_eq_true.mpr fun c hc => ?_
  have h := List.all_eq_true.mp h1 c hc
  rcases Bool.eq_false_or_eq_true (isCode c) with hi | hi
  · exact h2 c (List.mem_filter.mpr ⟨hc, hi⟩)
  · simpa [hi] using h
set_option maxRecDepth 65536 in
theorem w_c0 : (Jvm.Cond.code x code maxLocals ret).before args0 about1 = true := code_word (m := ⟨1, 1⟩) (meth := k1m1) (c := k1c1) (by decide +kernel) rfl rfl rfl (by decide +kernel)
set_option maxRecDepth 65536 in
theorem w_c1 : (Jvm.Cond.code ({ cls := (site_54.cls), name := "<init>", desc := "(JLjava/lang/String;)V" } : Jvm.MethodName) prog_1_method_1_code (4 : Nat) (Option.none : Option Jvm.ClassFile.FieldType)).before args0 about1 = true := code_word (m := ⟨2, 0⟩) (meth := k2m0) (c := k2c0) (by decide +kernel) rfl rfl rfl (by decide +kernel)
set_option maxRecDepth 65536 in
theorem w_c2 : (Jvm.Cond.code ({ cls := "java/lang/Object", name := "<init>", desc := "()V" } : Jvm.MethodName) object_method_1_code (1 : Nat) (Option.none : Option Jvm.ClassFile.FieldType)).before args0 about1 = true := code_word (m := ⟨0, 0⟩) (meth := k0m0) (c := k0c0) (by decide +kernel) rfl rfl rfl (by decide +kernel)
set_option maxRecDepth 65536 in
theorem w_c3 : (Jvm.Cond.code ({ cls := (site_54.cls), name := "checked", desc := "(JLjava/lang/String;)J" } : Jvm.MethodName) prog_1_method_3_code (3 : Nat) (Option.some Jvm.ClassFile.FieldType.long)).before args0 about1 = true := code_word (m := ⟨2, 2⟩) (meth := k2m2) (c := k2c2) (by decide +kernel) rfl rfl rfl (by decide +kernel)
set_option maxRecDepth 65536 in
theorem w_c4 : (Jvm.Cond.code ({ cls := (site_54.cls), name := "<init>", desc := (site_71.desc) } : Jvm.MethodName) prog_1_method_2_code (7 : Nat) (Option.none : Option Jvm.ClassFile.FieldType)).before args0 about1 = true := code_word (m := ⟨2, 1⟩) (meth := k2m1) (c := k2c1) (by decide +kernel) rfl rfl rfl (by decide +kernel)
set_option maxRecDepth 65536 in
theorem w_c5 : (Jvm.Cond.code ({ cls := "java/util/Objects", name := "requireNonNull", desc := "(Ljava/lang/Object;Ljava/lang/String;)Ljava/lang/Object;" } : Jvm.MethodName) jdk_31_method_11_code (2 : Nat) (Option.some (Jvm.ClassFile.FieldType.object "java/lang/Object"))).before args0 about1 = true := code_word (m := ⟨9, 1⟩) (meth := k9m1) (c := k9c1) (by decide +kernel) rfl rfl rfl (by decide +kernel)
set_option maxRecDepth 65536 in
theorem w_c6 : (Jvm.Cond.code ({ cls := (site_54.cls), name := "take", desc := "(J)Z" } : Jvm.MethodName) prog_1_method_6_code (4 : Nat) (Option.some Jvm.ClassFile.FieldType.boolean)).before args0 about1 = true := code_word (m := ⟨2, 4⟩) (meth := k2m4) (c := k2c4) (by decide +kernel) rfl rfl rfl (by decide +kernel)
set_option maxRecDepth 65536 in
theorem w_c7 : (Jvm.Cond.code ({ cls := (site_54.cls), name := "isSpent", desc := "()Z" } : Jvm.MethodName) prog_1_method_5_code (1 : Nat) (Option.some Jvm.ClassFile.FieldType.boolean)).before args0 about1 = true := code_word (m := ⟨2, 3⟩) (meth := k2m3) (c := k2c3) (by decide +kernel) rfl rfl rfl (by decide +kernel)
def codes1 : List Jvm.Cond := [Jvm.Cond.code x code maxLocals ret, Jvm.Cond.code ({ cls := (site_54.cls), name := "<init>", desc := "(JLjava/lang/String;)V" } : Jvm.MethodName) prog_1_method_1_code (4 : Nat) (Option.none : Option Jvm.ClassFile.FieldType), Jvm.Cond.code ({ cls := "java/lang/Object", name := "<init>", desc := "()V" } : Jvm.MethodName) object_method_1_code (1 : Nat) (Option.none : Option Jvm.ClassFile.FieldType), Jvm.Cond.code ({ cls := (site_54.cls), name := "checked", desc := "(JLjava/lang/String;)J" } : Jvm.MethodName) prog_1_method_3_code (3 : Nat) (Option.some Jvm.ClassFile.FieldType.long), Jvm.Cond.code ({ cls := (site_54.cls), name := "<init>", desc := (site_71.desc) } : Jvm.MethodName) prog_1_method_2_code (7 : Nat) (Option.none : Option Jvm.ClassFile.FieldType), Jvm.Cond.code ({ cls := "java/util/Objects", name := "requireNonNull", desc := "(Ljava/lang/Object;Ljava/lang/String;)Ljava/lang/Object;" } : Jvm.MethodName) jdk_31_method_11_code (2 : Nat) (Option.some (Jvm.ClassFile.FieldType.object "java/lang/Object")), Jvm.Cond.code ({ cls := (site_54.cls), name := "take", desc := "(J)Z" } : Jvm.MethodName) prog_1_method_6_code (4 : Nat) (Option.some Jvm.ClassFile.FieldType.boolean), Jvm.Cond.code ({ cls := (site_54.cls), name := "isSpent", desc := "()Z" } : Jvm.MethodName) prog_1_method_5_code (1 : Nat) (Option.some Jvm.ClassFile.FieldType.boolean)]
set_option maxRecDepth 65536 in
theorem codes_eq : words1.filter isCode = codes1 := rfl
theorem w_codes : ∀ c ∈ words1.filter isCode, c.before args0 about1 = true := by
  rw [codes_eq]
  intro c hc
  simp only [codes1, List.mem_cons, List.not_mem_nil, or_false] at hc
  rcases hc with rfl | rfl | rfl | rfl | rfl | rfl | rfl | rfl
  · exact w_c0
  · exact w_c1
  · exact w_c2
  · exact w_c3
  · exact w_c4
  · exact w_c5
  · exact w_c6
  · exact w_c7
set_option maxRecDepth 65536 in
theorem w_t1 : (words1.take 24).all (fun c => isCode c || c.before args0 about1) = true := by decide +kernel
set_option maxRecDepth 65536 in
theorem w_t2 : ((words1.drop 24).take 24).all (fun c => isCode c || c.before args0 about1) = true := by decide +kernel
set_option maxRecDepth 65536 in
theorem w_t3 : ((words1.drop 24).drop 24).all (fun c => isCode c || c.before args0 about1) = true := by decide +kernel
theorem w_tables : (allAtoms (Jvm.Cond.code x code maxLocals ret :: tables_1)).before args0 about1 = true := by
  rw [allAtoms_all]
  show words1.all (fun c => c.before args0 about1) = true
  refine all_split ?_ w_codes
  rw [← List.take_append_drop 24 words1, List.all_append, w_t1, ← List.take_append_drop 24 (words1.drop 24), List.all_append, w_t2, w_t3]
  rfl
set_option maxRecDepth 65536 in
theorem w_case : (Jvm.Cond.and given_1 narrow_1).before args0 about1 = true := by decide +kernel
theorem w_applies : (headSpec (Jvm.Cond.code x code maxLocals ret :: tables_1) room_1).applies x e0.platform about1 = true :=
  (Spec.applies_iff w_frames).mpr ⟨w_running, w_runnable, w_alone, w_named, w_hears, w_ripe, w_room, w_tables⟩
theorem atStart : AtStart classFile x code maxLocals ret World_1 tables_1 room_1 Calls_1 rest_1 Pre_1 launch0 p0 e0 about1 theMethod args0 below0 :=
  ⟨lists_1, trivial, launch0.admits_env _ _ _, launch0.least_env, fairChoices_fair.cas, fairChoices_fair.clock, w_frames, w_args, w_heap, w_applies, trivial, trivial, w_case⟩
end start1
theorem witness_1 : WitnessClaimed_1 := ⟨start1.p0, start1.e0, start1.about1, start1.theMethod, start1.args0, start1.below0, start1.atStart⟩
end Jvm.Pilot.@@N@@
