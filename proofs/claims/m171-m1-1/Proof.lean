import JvmDerived
import JvmDerived.Pilot.@@N@@Statement
import JvmDerived.Pilot.@@N@@Code
set_option linter.unusedVariables false
set_option linter.unusedSimpArgs false
namespace Jvm.RoadKit
open Sem ClassFile Op Lib Jvm.Stand Jvm.Free Jvm.LawKit
section Own
variable {p : Program} {l : Launch} {e : Env} {R : Room} {s : State} {m : MethodId} {args : Array Value} {below : List Frame} {meth : Method} {c : Code} {T : State} {locs : List Loc} {cells slots : Nat} {k n : Nat} {Q : Option Value → Heap → List Loc → Prop} {W W' : State} {Z : State} {a0 : Array Value} {h : Heap}
/-- the run from W comes back, with what Q says -/
def OwnOut (p : Program) (e : Env) (s : State) (below : List Frame) (k n : Nat) (Q : Option Value → Heap → List Loc → Prop) (W : State) : Prop :=
  ∃ s₂ o, Steps p.tables e below W s₂ ∧ s₂.status = .running ∧ Ended s₂ below o ∧ ∃ v L, o = .returned v ∧ Q v s₂.heap L ∧ FrameEnd s o s₂ L k n
theorem OwnOut.go (h : ∀ t, Steps p.tables e below W' t → Steps p.tables e below W t) (H : OwnOut p e s below k n Q W') : OwnOut p e s below k n Q W := by
  obtain ⟨s₂, o, h1, h2⟩ := H
  exact ⟨s₂, o, h _ h1, h2⟩
theorem OwnOut.at {g g' : JFrame} (q : g = g') (H : OwnOut p e s below k n Q (T.setTop g')) : OwnOut p e s below k n Q (T.setTop g) := q ▸ H
theorem OwnOut.imp {Q' : Option Value → Heap → List Loc → Prop} (q : ∀ v h L, Q' v h L → Q v h L) (H : OwnOut p e s below k n Q' W) : OwnOut p e s below k n Q W := by
  obtain ⟨s₂, o, h1, h2, h3, v, L, h4, h5, h6⟩ := H
  exact ⟨s₂, o, h1, h2, h3, v, L, h4, q _ _ _ h5, h6⟩
theorem outI (X : Stand p l e R s m args below meth c T locs cells slots) (hx : p.tables.exec = Jvm.exec) {pc : Nat} {Ls : Array Slot} {z : Int32} (hret : meth.sig.returnType = some .int) (hd : decode c.code pc = .ok (.ireturn, 1)) (hlk : meth.locks = false) (hk : cells ≤ k) (hn : slots ≤ n) (q : Q (some (.int z)) T.heap locs) :
    OwnOut p e s below k n Q (T.setTop (mkF m pc Ls [.int z])) := by
  obtain ⟨fs, hr, hrun, hended, hW, hsame⟩ := X.leave (v := some (.int z)) (fun h => by rw [hret] at h; cases h) hlk
  exact ⟨_, _, X.ireturnOut hx hret rfl (Or.inl rfl) hd hr, hrun, hended, _, _, rfl, q, ⟨_, rfl⟩, hW, hsame.mono hk hn⟩
theorem outZ (X : Stand p l e R s m args below meth c T locs cells slots) (hx : p.tables.exec = Jvm.exec) {pc : Nat} {Ls : Array Slot} {z : Int32} (hret : meth.sig.returnType = some .boolean) (hd : decode c.code pc = .ok (.ireturn, 1)) (hlk : meth.locks = false) (hk : cells ≤ k) (hn : slots ≤ n) (q : Q (some (.int (z &&& 1))) T.heap locs) :
    OwnOut p e s below k n Q (T.setTop (mkF m pc Ls [.int z])) := by
  obtain ⟨fs, hr, hrun, hended, hW, hsame⟩ := X.leave (v := some (.int (z &&& 1))) (fun h => by rw [hret] at h; cases h) hlk
  exact ⟨_, _, retN X hx (t := .boolean) hret (by simp) hd hr, hrun, hended, _, _, rfl, q, ⟨_, rfl⟩, hW, hsame.mono hk hn⟩
theorem outJ (X : Stand p l e R s m args below meth c T locs cells slots) (hx : p.tables.exec = Jvm.exec) {pc : Nat} {Ls : Array Slot} {z : Int64} (hret : meth.sig.returnType = some .long) (hd : decode c.code pc = .ok (.lreturn, 1)) (hlk : meth.locks = false) (hk : cells ≤ k) (hn : slots ≤ n) (q : Q (some (.long z)) T.heap locs) :
    OwnOut p e s below k n Q (T.setTop (mkF m pc Ls [.long z])) := by
  obtain ⟨fs, hr, hrun, hended, hW, hsame⟩ := X.leave (v := some (.long z)) (fun h => by rw [hret] at h; cases h) hlk
  exact ⟨_, _, X.lreturnOut hx hret hd hr, hrun, hended, _, _, rfl, q, ⟨_, rfl⟩, hW, hsame.mono hk hn⟩
theorem outA (X : Stand p l e R s m args below meth c T locs cells slots) (hx : p.tables.exec = Jvm.exec) {pc : Nat} {Ls : Array Slot} {w : Value} {t : FieldType} (hw : w.isRef = true) (hret : meth.sig.returnType = some t) (ht : t.isReference = true) (hd : decode c.code pc = .ok (.areturn, 1)) (hlk : meth.locks = false) (hk : cells ≤ k) (hn : slots ≤ n) (q : Q (some w) T.heap locs) :
    OwnOut p e s below k n Q (T.setTop (mkF m pc Ls [w])) := by
  obtain ⟨fs, hr, hrun, hended, hW, hsame⟩ := X.leave (v := some w) (fun h => by rw [hret] at h; cases h) hlk
  exact ⟨_, _, X.areturnOut hx hw hret ht hd hr, hrun, hended, _, _, rfl, q, ⟨_, rfl⟩, hW, hsame.mono hk hn⟩
theorem outV (X : Stand p l e R s m args below meth c T locs cells slots) (hx : p.tables.exec = Jvm.exec) {pc : Nat} {Ls : Array Slot} (hret : meth.sig.returnType = none) (hd : decode c.code pc = .ok (.return_, 1)) (hlk : meth.locks = false) (hk : cells ≤ k) (hn : slots ≤ n) (q : Q none T.heap locs) :
    OwnOut p e s below k n Q (T.setTop (mkF m pc Ls [])) := by
  obtain ⟨fs, hr, hrun, hended, hW, hsame⟩ := X.leave (v := none) (fun _ => rfl) hlk
  exact ⟨_, _, X.returnOut hx hret hd hr, hrun, hended, _, _, rfl, q, ⟨_, rfl⟩, hW, hsame.mono hk hn⟩
theorem lremM {g : JFrame} {target : State} (X : Stand p l e R s m args below meth c T locs cells slots) (hx : p.tables.exec = Jvm.exec) (hg : g.method = m) {x y : Int64} {rest : List Value} (hd : decode c.code g.pc = .ok (.lrem, 1)) (hs : g.stack = .long y :: .long x :: rest) (hy : y ≠ 0)
    (hr : Steps p.tables e below (T.setTop { g with pc := g.pc + 1, stack := .long (x % y) :: rest }) target) : Steps p.tables e below (T.setTop g) target :=
  XS.lrem X.here hx hg hd hs hy (by rw [lrem_mod]; exact hr)
/-- a body that touches nothing: what it returns, the heap as it was, nothing written -/
def QP (h0 : Heap) (w : Option Value) (v : Option Value) (h : Heap) (L : List Loc) : Prop := v = w ∧ h = h0 ∧ L = []
/-- a static call of such a body -/
theorem callP (X : Stand p l e R s m args below meth c T locs cells slots) (hx : p.tables.exec = Jvm.exec) (hZ : Z.Warmed39 s.vm) {own : String} {index : Nat} {y : MethodName} {bytes : ByteArray} {maxL : Nat} {ret : Option FieldType} {rm : Room} {as' : Array Value} {w : Option Value}
    (hown : s.vm.findClass own = some m.cls) (w1 : (Cond.methodLink own index y).before a0 Z = true) (w2 : (Cond.static y).before a0 Z = true) (w3 : (Cond.initialized y.cls).before a0 Z = true) (w4 : (Cond.code y bytes maxL ret).before a0 Z = true) (hy : y.cls ≠ "java/lang/invoke/MethodHandle" ∧ y.cls ≠ "java/lang/invoke/VarHandle")
    (hM : MetFree l y (head1 [Cond.code y bytes maxL ret] rm) (fun a U => a = as' ∧ Z.Warmed39 U.vm ∧ U.heap = h) (fun _ _ _ _ _ => True) (fun _ U o U' => ∃ v L, o = .returned v ∧ QP h w v U'.heap L ∧ FrameEnd U o U' L rm.cells rm.slots))
    {W : Nat} (hf : rm.frames + 1 ≤ R.frames) (hl : W + (maxL + 11) + rm.locals ≤ R.locals) (z1 : rm.cells = 0) (z2 : rm.slots = 0) (hc : cells ≤ R.cells) (hs' : slots ≤ R.slots) (eT : T.heap = h)
    {g : JFrame} (hg : g.method = m) (hsize : g.locals.size = c.maxLocals) {argsL rest : List Value} (hlen : ∀ sig, parseMethodDescriptor y.desc = some sig → argsL.length = sig.parameters.length)
    (hstack : g.stack = argsL.reverse ++ rest) (hW : 2 * g.monitorRoom + (rest.map fun v => v.category).sum ≤ W) (hdg : decode c.code g.pc = .ok (.invokestatic index, 3)) (has : argsL.toArray = as' := by rfl) :
    ∃ T', Stand p l e R s m args below meth c T' locs cells slots ∧ T'.heap = h ∧ ∀ target, Steps p.tables e below (T'.setTop { g with pc := g.pc + 3, stack := w.toList ++ rest }) target → Steps p.tables e below (T.setTop g) target := by
  obtain ⟨v, vm₁, ⟨T', L', k', n'⟩, -, X', ⟨Lc, ⟨rfl, q2, rfl⟩, l1, y1, z3⟩, st⟩ := Jvm.LawKit.callS X hx (y := y) hown (mvT hZ w1) (mvT hZ w2) (mvT hZ w3) (mvT hZ w4) hy (backOf (W := W) hM hZ w4 w3 hf hl) hg hsize hlen hstack hW hdg (fun _ _ => ⟨has, eT, by rw [z1]; exact hc, by rw [z2]; exact hs'⟩)
  dsimp only [Pt.U, Pt.locs, Pt.cells, Pt.slots] at X' l1 y1 z3 st q2
  rw [z1] at y1; rw [z2] at z3
  rw [List.append_nil] at l1
  subst l1 y1 z3
  exact ⟨T', X', q2, st⟩
end Own
end Jvm.RoadKit
namespace Jvm.Pilot.@@N@@
open Jvm Jvm.ClassFile Sem Op Lib Jvm.Free Jvm.Stand Jvm.LawKit Jvm.RoadKit Bundle Jvm.Pilot.@@N@@.Jvm.D
-- body 1: com/example/eigenmittel/eigenmittel/AsciiDigitsAllDigitsPinLaw.isDigitByte:(JI)Z
theorem d1_0 : decode method_5_code 0 = .ok (.lload_n 0, 1) := by decide +kernel
theorem d1_1 : decode method_5_code 1 = .ok (.bipush 8, 2) := by decide +kernel
theorem d1_3 : decode method_5_code 3 = .ok (.iload_n 2, 1) := by decide +kernel
theorem d1_4 : decode method_5_code 4 = .ok (.imul, 1) := by decide +kernel
theorem d1_5 : decode method_5_code 5 = .ok (.lushr, 1) := by decide +kernel
theorem d1_6 : decode method_5_code 6 = .ok (.ldc2_w 13, 3) := by decide +kernel
theorem d1_9 : decode method_5_code 9 = .ok (.land, 1) := by decide +kernel
theorem d1_10 : decode method_5_code 10 = .ok (.lstore_n 3, 1) := by decide +kernel
theorem d1_11 : decode method_5_code 11 = .ok (.lload_n 3, 1) := by decide +kernel
theorem d1_12 : decode method_5_code 12 = .ok (.ldc2_w 27, 3) := by decide +kernel
theorem d1_15 : decode method_5_code 15 = .ok (.lcmp, 1) := by decide +kernel
theorem d1_16 : decode method_5_code 16 = .ok (.ifCond .lt 15, 3) := by decide +kernel
theorem d1_19 : decode method_5_code 19 = .ok (.lload_n 3, 1) := by decide +kernel
theorem d1_20 : decode method_5_code 20 = .ok (.ldc2_w 35, 3) := by decide +kernel
theorem d1_23 : decode method_5_code 23 = .ok (.lcmp, 1) := by decide +kernel
theorem d1_24 : decode method_5_code 24 = .ok (.ifCond .gt 7, 3) := by decide +kernel
theorem d1_27 : decode method_5_code 27 = .ok (.iconst 1, 1) := by decide +kernel
theorem d1_28 : decode method_5_code 28 = .ok (.goto 4, 3) := by decide +kernel
theorem d1_31 : decode method_5_code 31 = .ok (.iconst 0, 1) := by decide +kernel
theorem d1_32 : decode method_5_code 32 = .ok (.ireturn, 1) := by decide +kernel
theorem pn1 : plainName "com/example/eigenmittel/eigenmittel/AsciiDigitsAllDigitsPinLaw" = true := by first | (simp [plainName, overriddenIn]; done) | decide +kernel
theorem pd1 : parseMethodDescriptor "(JI)Z" = some ⟨[.long, .int], some .boolean⟩ := by decide +kernel
theorem ef1 (m : MethodId) (x0 : Int64) (x2 : Int32) : entryFrame m #[(.long x0), (.int x2)] 5 = mkF m 0 #[.val (.long x0), .second, .val (.int x2), .unset, .unset] [] := by first | (simp [entryFrame, mkF, argsToLocals, Value.category]; done) | rfl
abbrev rx1 : Room := { frames := 0, cells := 0, slots := 0, locals := 0 }
abbrev Cx1 (Z : State) (a0 : Array Value) (p : Program) (s : State) (m : MethodId) (meth : Method) (c : Code) : Prop := p.tables.exec = Jvm.exec ∧ Z.Warmed39 s.vm ∧ (∀ d ∈ tables_1, d.before a0 Z = true) ∧ c.code = method_5_code ∧ c.maxLocals = 5 ∧ s.vm.findClass "com/example/eigenmittel/eigenmittel/AsciiDigitsAllDigitsPinLaw" = some m.cls ∧ meth.sig.returnType = (some .boolean) ∧ meth.locks = false ∧ meth.name = "isDigitByte"
def f1_11 (x3 : Int64) : Int32 := (if x3 < (48 : Int64) then (0 : Int32) else (if (57 : Int64) < x3 then (0 : Int32) else (1 : Int32)))
set_option maxRecDepth 65536 in
set_option maxHeartbeats 40000000 in
theorem w1_11 {p : Program} {l : Launch} {e : Env} {s : State} {m : MethodId} {args : Array Value} {below : List Frame} {meth : Method} {c : Code} {T Z : State} {a0 : Array Value} {h0 : Heap} (x0 : Int64) (x2 : Int32) (x3 : Int64)
    (X0 : Stand p l e rx1 s m args below meth c T [] 0 0) (C : Cx1 Z a0 p s m meth c) (e0 : T.heap = h0) :
    OwnOut p e s below 0 0 (QP h0 (some (.int (f1_11 x3)))) (T.setTop (mkF m 11 #[.val (.long x0), .second, .val (.int x2), .val (.long x3), .second] [])) := by
  obtain ⟨hx, hZ, hw, hby, hml, hown, hret, hlk, hnm⟩ := C
  rw [f1_11]
  refine OwnOut.go (fun t k => XS.lloadN X0.here hx rfl (hb hby d1_11) rfl k) ?_
  show OwnOut p e s below 0 0 _ (T.setTop (mkF m 12 #[.val (.long x0), .second, .val (.int x2), .val (.long x3), .second] [(.long x3)]))
  refine OwnOut.go (fun t k => X0.ldc2Long hx hown (mvT hZ (hw _ (List.mem_of_getElem? (i := 5) rfl))) (g := (mkF m 12 #[.val (.long x0), .second, .val (.int x2), .val (.long x3), .second] [(.long x3)])) rfl (hb hby d1_12) _ k) ?_
  show OwnOut p e s below 0 0 _ (T.setTop (mkF m 15 #[.val (.long x0), .second, .val (.int x2), .val (.long x3), .second] [(.long (48 : Int64)), (.long x3)]))
  refine OwnOut.go (fun t k => XS.lcmp X0.here hx rfl (hb hby d1_15) rfl k) ?_
  show OwnOut p e s below 0 0 _ (T.setTop (mkF m 16 #[.val (.long x0), .second, .val (.int x2), .val (.long x3), .second] [(.int (XT.cmpL x3 (48 : Int64)))]))
  by_cases hc16 : x3 < (48 : Int64)
  · rw [if_pos hc16]
    refine OwnOut.go (fun t k => XS.ifYes X0.here hx rfl (pc0 := 16) (pc' := 31) rfl (hb hby d1_16) rfl (XT.ll_lt_t hc16) (by decide) (by decide) k) ?_
    show OwnOut p e s below 0 0 _ (T.setTop (mkF m 31 #[.val (.long x0), .second, .val (.int x2), .val (.long x3), .second] []))
    refine OwnOut.go (fun t k => XT.iconstV X0.here hx rfl (0 : Int32) (hb hby d1_31) rfl k) ?_
    show OwnOut p e s below 0 0 _ (T.setTop (mkF m 32 #[.val (.long x0), .second, .val (.int x2), .val (.long x3), .second] [(.int (0 : Int32))]))
    exact outZ X0 hx hret (hb hby d1_32) hlk (by decide) (by decide) ⟨rfl, e0, rfl⟩
  · rw [if_neg hc16]
    refine OwnOut.go (fun t k => XS.ifNo X0.here hx rfl (hb hby d1_16) rfl (XT.ll_lt_f hc16) k) ?_
    show OwnOut p e s below 0 0 _ (T.setTop (mkF m 19 #[.val (.long x0), .second, .val (.int x2), .val (.long x3), .second] []))
    refine OwnOut.go (fun t k => XS.lloadN X0.here hx rfl (hb hby d1_19) rfl k) ?_
    show OwnOut p e s below 0 0 _ (T.setTop (mkF m 20 #[.val (.long x0), .second, .val (.int x2), .val (.long x3), .second] [(.long x3)]))
    refine OwnOut.go (fun t k => X0.ldc2Long hx hown (mvT hZ (hw _ (List.mem_of_getElem? (i := 21) rfl))) (g := (mkF m 20 #[.val (.long x0), .second, .val (.int x2), .val (.long x3), .second] [(.long x3)])) rfl (hb hby d1_20) _ k) ?_
    show OwnOut p e s below 0 0 _ (T.setTop (mkF m 23 #[.val (.long x0), .second, .val (.int x2), .val (.long x3), .second] [(.long (57 : Int64)), (.long x3)]))
    refine OwnOut.go (fun t k => XS.lcmp X0.here hx rfl (hb hby d1_23) rfl k) ?_
    show OwnOut p e s below 0 0 _ (T.setTop (mkF m 24 #[.val (.long x0), .second, .val (.int x2), .val (.long x3), .second] [(.int (XT.cmpL x3 (57 : Int64)))]))
    by_cases hc24 : (57 : Int64) < x3
    · rw [if_pos hc24]
      refine OwnOut.go (fun t k => XS.ifYes X0.here hx rfl (pc0 := 24) (pc' := 31) rfl (hb hby d1_24) rfl (XT.ll_gt_t hc24) (by decide) (by decide) k) ?_
      show OwnOut p e s below 0 0 _ (T.setTop (mkF m 31 #[.val (.long x0), .second, .val (.int x2), .val (.long x3), .second] []))
      refine OwnOut.go (fun t k => XT.iconstV X0.here hx rfl (0 : Int32) (hb hby d1_31) rfl k) ?_
      show OwnOut p e s below 0 0 _ (T.setTop (mkF m 32 #[.val (.long x0), .second, .val (.int x2), .val (.long x3), .second] [(.int (0 : Int32))]))
      exact outZ X0 hx hret (hb hby d1_32) hlk (by decide) (by decide) ⟨rfl, e0, rfl⟩
    · rw [if_neg hc24]
      refine OwnOut.go (fun t k => XS.ifNo X0.here hx rfl (hb hby d1_24) rfl (XT.ll_gt_f hc24) k) ?_
      show OwnOut p e s below 0 0 _ (T.setTop (mkF m 27 #[.val (.long x0), .second, .val (.int x2), .val (.long x3), .second] []))
      refine OwnOut.go (fun t k => XT.iconstV X0.here hx rfl (1 : Int32) (hb hby d1_27) rfl k) ?_
      show OwnOut p e s below 0 0 _ (T.setTop (mkF m 28 #[.val (.long x0), .second, .val (.int x2), .val (.long x3), .second] [(.int (1 : Int32))]))
      refine OwnOut.go (fun t k => XS.goto X0.here hx rfl (pc0 := 28) (pc' := 32) rfl (hb hby d1_28) (by decide) (by decide) k) ?_
      show OwnOut p e s below 0 0 _ (T.setTop (mkF m 32 #[.val (.long x0), .second, .val (.int x2), .val (.long x3), .second] [(.int (1 : Int32))]))
      exact outZ X0 hx hret (hb hby d1_32) hlk (by decide) (by decide) ⟨rfl, e0, rfl⟩
def f1 (x0 : Int64) (x2 : Int32) : Int32 := (f1_11 (((x0.toUInt64 >>> (((8 : Int32) * x2) &&& 0x3f).toInt64.toUInt64).toInt64) &&& (255 : Int64)))
set_option maxRecDepth 65536 in
set_option maxHeartbeats 40000000 in
theorem w1_0 {p : Program} {l : Launch} {e : Env} {s : State} {m : MethodId} {args : Array Value} {below : List Frame} {meth : Method} {c : Code} {T Z : State} {a0 : Array Value} {h0 : Heap} (x0 : Int64) (x2 : Int32)
    (X0 : Stand p l e rx1 s m args below meth c T [] 0 0) (C : Cx1 Z a0 p s m meth c) (e0 : T.heap = h0) :
    OwnOut p e s below 0 0 (QP h0 (some (.int (f1 x0 x2)))) (T.setTop (mkF m 0 #[.val (.long x0), .second, .val (.int x2), .unset, .unset] [])) := by
  obtain ⟨hx, hZ, hw, hby, hml, hown, hret, hlk, hnm⟩ := C
  rw [f1]
  refine OwnOut.go (fun t k => XS.lloadN X0.here hx rfl (hb hby d1_0) rfl k) ?_
  show OwnOut p e s below 0 0 _ (T.setTop (mkF m 1 #[.val (.long x0), .second, .val (.int x2), .unset, .unset] [(.long x0)]))
  refine OwnOut.go (fun t k => XT.bipushV X0.here hx rfl (8 : Int32) (hb hby d1_1) rfl k) ?_
  show OwnOut p e s below 0 0 _ (T.setTop (mkF m 3 #[.val (.long x0), .second, .val (.int x2), .unset, .unset] [(.int (8 : Int32)), (.long x0)]))
  refine OwnOut.go (fun t k => XS.iloadN X0.here hx rfl (hb hby d1_3) rfl k) ?_
  show OwnOut p e s below 0 0 _ (T.setTop (mkF m 4 #[.val (.long x0), .second, .val (.int x2), .unset, .unset] [(.int x2), (.int (8 : Int32)), (.long x0)]))
  refine OwnOut.go (fun t k => XS.imul X0.here hx rfl (hb hby d1_4) rfl k) ?_
  show OwnOut p e s below 0 0 _ (T.setTop (mkF m 5 #[.val (.long x0), .second, .val (.int x2), .unset, .unset] [(.int ((8 : Int32) * x2)), (.long x0)]))
  refine OwnOut.go (fun t k => XS.lushr X0.here hx rfl (hb hby d1_5) rfl k) ?_
  show OwnOut p e s below 0 0 _ (T.setTop (mkF m 6 #[.val (.long x0), .second, .val (.int x2), .unset, .unset] [(.long ((x0.toUInt64 >>> (((8 : Int32) * x2) &&& 0x3f).toInt64.toUInt64).toInt64))]))
  refine OwnOut.go (fun t k => X0.ldc2Long hx hown (mvT hZ (hw _ (List.mem_of_getElem? (i := 4) rfl))) (g := (mkF m 6 #[.val (.long x0), .second, .val (.int x2), .unset, .unset] [(.long ((x0.toUInt64 >>> (((8 : Int32) * x2) &&& 0x3f).toInt64.toUInt64).toInt64))])) rfl (hb hby d1_6) _ k) ?_
  show OwnOut p e s below 0 0 _ (T.setTop (mkF m 9 #[.val (.long x0), .second, .val (.int x2), .unset, .unset] [(.long (255 : Int64)), (.long ((x0.toUInt64 >>> (((8 : Int32) * x2) &&& 0x3f).toInt64.toUInt64).toInt64))]))
  refine OwnOut.go (fun t k => XS.land X0.here hx rfl (hb hby d1_9) rfl k) ?_
  show OwnOut p e s below 0 0 _ (T.setTop (mkF m 10 #[.val (.long x0), .second, .val (.int x2), .unset, .unset] [(.long (((x0.toUInt64 >>> (((8 : Int32) * x2) &&& 0x3f).toInt64.toUInt64).toInt64) &&& (255 : Int64)))]))
  refine OwnOut.go (fun t k => XS.lstoreN X0.here hx rfl (hb hby d1_10) rfl (l' := #[.val (.long x0), .second, .val (.int x2), .val (.long (((x0.toUInt64 >>> (((8 : Int32) * x2) &&& 0x3f).toInt64.toUInt64).toInt64) &&& (255 : Int64))), .second]) rfl k) ?_
  show OwnOut p e s below 0 0 _ (T.setTop (mkF m 11 #[.val (.long x0), .second, .val (.int x2), .val (.long (((x0.toUInt64 >>> (((8 : Int32) * x2) &&& 0x3f).toInt64.toUInt64).toInt64) &&& (255 : Int64))), .second] []))
  exact w1_11 x0 x2 (((x0.toUInt64 >>> (((8 : Int32) * x2) &&& 0x3f).toInt64.toUInt64).toInt64) &&& (255 : Int64)) X0 ⟨hx, hZ, hw, hby, hml, hown, hret, hlk, hnm⟩ e0
set_option maxRecDepth 65536 in
set_option maxHeartbeats 40000000 in
theorem rm1 (l : Launch) (Z : State) (a0 : Array Value) (hw : ∀ d ∈ tables_1, d.before a0 Z = true) (ws : List Jvm.Cond) (x0 : Int64) (x2 : Int32) (h0 : Heap) :
    MetFree l (⟨"com/example/eigenmittel/eigenmittel/AsciiDigitsAllDigitsPinLaw", "isDigitByte", "(JI)Z"⟩ : MethodName) (head1 (Jvm.Cond.code (⟨"com/example/eigenmittel/eigenmittel/AsciiDigitsAllDigitsPinLaw", "isDigitByte", "(JI)Z"⟩ : MethodName) method_5_code 5 (some .boolean) :: ws) rx1) (fun a U => a = #[(.long x0), (.int x2)] ∧ Z.Warmed39 U.vm ∧ U.heap = h0) (fun _ _ _ _ _ => True) (fun _ U o U' => ∃ v L, o = .returned v ∧ QP h0 (some (.int (f1 x0 x2))) v U'.heap L ∧ FrameEnd U o U' L rx1.cells rx1.slots) := by
  refine MetFree.of_bodySF (plainFor_of_name pn1) hisR ?_
  intro p e s m args below meth c s₁ Bd hml0 hP hK
  obtain ⟨rfl, hZ, hh⟩ := hP
  have X0 : Stand p l e rx1 s m #[(.long x0), (.int x2)] below meth c s₁ [] 0 0 := Stand.of_body Bd
  have e0 : s₁.heap = h0 := by rw [← hh, Bd.state]; rfl
  exact OwnOut.at (ef1 m x0 x2) (w1_0 x0 x2 X0 ⟨Bd.exec, hZ, hw, Bd.bytes, hml0, findClass_of_methodNamed Bd.named, Bd.returns, Bd.notSynchronized, (name_of_methodNamed Bd.named Bd.method).1⟩ e0)
-- body 2: com/example/eigenmittel/eigenmittel/AsciiDigits.allDigits:(J)Z
theorem d2_0 : decode prog_2_method_3_code 0 = .ok (.lload_n 0, 1) := by decide +kernel
theorem d2_1 : decode prog_2_method_3_code 1 = .ok (.ldc2_w 19, 3) := by decide +kernel
theorem d2_4 : decode prog_2_method_3_code 4 = .ok (.lsub, 1) := by decide +kernel
theorem d2_5 : decode prog_2_method_3_code 5 = .ok (.lstore_n 2, 1) := by decide +kernel
theorem d2_6 : decode prog_2_method_3_code 6 = .ok (.lload_n 2, 1) := by decide +kernel
theorem d2_7 : decode prog_2_method_3_code 7 = .ok (.lload_n 2, 1) := by decide +kernel
theorem d2_8 : decode prog_2_method_3_code 8 = .ok (.ldc2_w 21, 3) := by decide +kernel
theorem d2_11 : decode prog_2_method_3_code 11 = .ok (.ladd, 1) := by decide +kernel
theorem d2_12 : decode prog_2_method_3_code 12 = .ok (.lor, 1) := by decide +kernel
theorem d2_13 : decode prog_2_method_3_code 13 = .ok (.ldc2_w 23, 3) := by decide +kernel
theorem d2_16 : decode prog_2_method_3_code 16 = .ok (.land, 1) := by decide +kernel
theorem d2_17 : decode prog_2_method_3_code 17 = .ok (.lconst 0, 1) := by decide +kernel
theorem d2_18 : decode prog_2_method_3_code 18 = .ok (.lcmp, 1) := by decide +kernel
theorem d2_19 : decode prog_2_method_3_code 19 = .ok (.ifCond .ne 7, 3) := by decide +kernel
theorem d2_22 : decode prog_2_method_3_code 22 = .ok (.iconst 1, 1) := by decide +kernel
theorem d2_23 : decode prog_2_method_3_code 23 = .ok (.goto 4, 3) := by decide +kernel
theorem d2_26 : decode prog_2_method_3_code 26 = .ok (.iconst 0, 1) := by decide +kernel
theorem d2_27 : decode prog_2_method_3_code 27 = .ok (.ireturn, 1) := by decide +kernel
theorem pn2 : plainName "com/example/eigenmittel/eigenmittel/AsciiDigits" = true := by first | (simp [plainName, overriddenIn]; done) | decide +kernel
theorem pd2 : parseMethodDescriptor "(J)Z" = some ⟨[.long], some .boolean⟩ := by decide +kernel
theorem ef2 (m : MethodId) (x0 : Int64) : entryFrame m #[(.long x0)] 4 = mkF m 0 #[.val (.long x0), .second, .unset, .unset] [] := by first | (simp [entryFrame, mkF, argsToLocals, Value.category]; done) | rfl
abbrev rx2 : Room := { frames := 0, cells := 0, slots := 0, locals := 0 }
abbrev Cx2 (Z : State) (a0 : Array Value) (p : Program) (s : State) (m : MethodId) (meth : Method) (c : Code) : Prop := p.tables.exec = Jvm.exec ∧ Z.Warmed39 s.vm ∧ (∀ d ∈ tables_1, d.before a0 Z = true) ∧ c.code = prog_2_method_3_code ∧ c.maxLocals = 4 ∧ s.vm.findClass "com/example/eigenmittel/eigenmittel/AsciiDigits" = some m.cls ∧ meth.sig.returnType = (some .boolean) ∧ meth.locks = false ∧ meth.name = "allDigits"
def f2 (x0 : Int64) : Int32 := (if (((x0 - (3472328296227680304 : Int64)) ||| ((x0 - (3472328296227680304 : Int64)) + (8536140394893047414 : Int64))) &&& (-9187201950435737472 : Int64)) = (0 : Int64) then (1 : Int32) else (0 : Int32))
set_option maxRecDepth 65536 in
set_option maxHeartbeats 40000000 in
theorem w2_0 {p : Program} {l : Launch} {e : Env} {s : State} {m : MethodId} {args : Array Value} {below : List Frame} {meth : Method} {c : Code} {T Z : State} {a0 : Array Value} {h0 : Heap} (x0 : Int64)
    (X0 : Stand p l e rx2 s m args below meth c T [] 0 0) (C : Cx2 Z a0 p s m meth c) (e0 : T.heap = h0) :
    OwnOut p e s below 0 0 (QP h0 (some (.int (f2 x0)))) (T.setTop (mkF m 0 #[.val (.long x0), .second, .unset, .unset] [])) := by
  obtain ⟨hx, hZ, hw, hby, hml, hown, hret, hlk, hnm⟩ := C
  rw [f2]
  refine OwnOut.go (fun t k => XS.lloadN X0.here hx rfl (hb hby d2_0) rfl k) ?_
  show OwnOut p e s below 0 0 _ (T.setTop (mkF m 1 #[.val (.long x0), .second, .unset, .unset] [(.long x0)]))
  refine OwnOut.go (fun t k => X0.ldc2Long hx hown (mvT hZ (hw _ (List.mem_of_getElem? (i := 10) rfl))) (g := (mkF m 1 #[.val (.long x0), .second, .unset, .unset] [(.long x0)])) rfl (hb hby d2_1) _ k) ?_
  show OwnOut p e s below 0 0 _ (T.setTop (mkF m 4 #[.val (.long x0), .second, .unset, .unset] [(.long (3472328296227680304 : Int64)), (.long x0)]))
  refine OwnOut.go (fun t k => XS.lsub X0.here hx rfl (hb hby d2_4) rfl k) ?_
  show OwnOut p e s below 0 0 _ (T.setTop (mkF m 5 #[.val (.long x0), .second, .unset, .unset] [(.long (x0 - (3472328296227680304 : Int64)))]))
  refine OwnOut.go (fun t k => XS.lstoreN X0.here hx rfl (hb hby d2_5) rfl (l' := #[.val (.long x0), .second, .val (.long (x0 - (3472328296227680304 : Int64))), .second]) rfl k) ?_
  show OwnOut p e s below 0 0 _ (T.setTop (mkF m 6 #[.val (.long x0), .second, .val (.long (x0 - (3472328296227680304 : Int64))), .second] []))
  refine OwnOut.go (fun t k => XS.lloadN X0.here hx rfl (hb hby d2_6) rfl k) ?_
  show OwnOut p e s below 0 0 _ (T.setTop (mkF m 7 #[.val (.long x0), .second, .val (.long (x0 - (3472328296227680304 : Int64))), .second] [(.long (x0 - (3472328296227680304 : Int64)))]))
  refine OwnOut.go (fun t k => XS.lloadN X0.here hx rfl (hb hby d2_7) rfl k) ?_
  show OwnOut p e s below 0 0 _ (T.setTop (mkF m 8 #[.val (.long x0), .second, .val (.long (x0 - (3472328296227680304 : Int64))), .second] [(.long (x0 - (3472328296227680304 : Int64))), (.long (x0 - (3472328296227680304 : Int64)))]))
  refine OwnOut.go (fun t k => X0.ldc2Long hx hown (mvT hZ (hw _ (List.mem_of_getElem? (i := 11) rfl))) (g := (mkF m 8 #[.val (.long x0), .second, .val (.long (x0 - (3472328296227680304 : Int64))), .second] [(.long (x0 - (3472328296227680304 : Int64))), (.long (x0 - (3472328296227680304 : Int64)))])) rfl (hb hby d2_8) _ k) ?_
  show OwnOut p e s below 0 0 _ (T.setTop (mkF m 11 #[.val (.long x0), .second, .val (.long (x0 - (3472328296227680304 : Int64))), .second] [(.long (8536140394893047414 : Int64)), (.long (x0 - (3472328296227680304 : Int64))), (.long (x0 - (3472328296227680304 : Int64)))]))
  refine OwnOut.go (fun t k => XS.ladd X0.here hx rfl (hb hby d2_11) rfl k) ?_
  show OwnOut p e s below 0 0 _ (T.setTop (mkF m 12 #[.val (.long x0), .second, .val (.long (x0 - (3472328296227680304 : Int64))), .second] [(.long ((x0 - (3472328296227680304 : Int64)) + (8536140394893047414 : Int64))), (.long (x0 - (3472328296227680304 : Int64)))]))
  refine OwnOut.go (fun t k => XS.lor X0.here hx rfl (hb hby d2_12) rfl k) ?_
  show OwnOut p e s below 0 0 _ (T.setTop (mkF m 13 #[.val (.long x0), .second, .val (.long (x0 - (3472328296227680304 : Int64))), .second] [(.long ((x0 - (3472328296227680304 : Int64)) ||| ((x0 - (3472328296227680304 : Int64)) + (8536140394893047414 : Int64))))]))
  refine OwnOut.go (fun t k => X0.ldc2Long hx hown (mvT hZ (hw _ (List.mem_of_getElem? (i := 12) rfl))) (g := (mkF m 13 #[.val (.long x0), .second, .val (.long (x0 - (3472328296227680304 : Int64))), .second] [(.long ((x0 - (3472328296227680304 : Int64)) ||| ((x0 - (3472328296227680304 : Int64)) + (8536140394893047414 : Int64))))])) rfl (hb hby d2_13) _ k) ?_
  show OwnOut p e s below 0 0 _ (T.setTop (mkF m 16 #[.val (.long x0), .second, .val (.long (x0 - (3472328296227680304 : Int64))), .second] [(.long (-9187201950435737472 : Int64)), (.long ((x0 - (3472328296227680304 : Int64)) ||| ((x0 - (3472328296227680304 : Int64)) + (8536140394893047414 : Int64))))]))
  refine OwnOut.go (fun t k => XS.land X0.here hx rfl (hb hby d2_16) rfl k) ?_
  show OwnOut p e s below 0 0 _ (T.setTop (mkF m 17 #[.val (.long x0), .second, .val (.long (x0 - (3472328296227680304 : Int64))), .second] [(.long (((x0 - (3472328296227680304 : Int64)) ||| ((x0 - (3472328296227680304 : Int64)) + (8536140394893047414 : Int64))) &&& (-9187201950435737472 : Int64)))]))
  refine OwnOut.go (fun t k => XT.lconstV X0.here hx rfl (0 : Int64) (hb hby d2_17) rfl k) ?_
  show OwnOut p e s below 0 0 _ (T.setTop (mkF m 18 #[.val (.long x0), .second, .val (.long (x0 - (3472328296227680304 : Int64))), .second] [(.long (0 : Int64)), (.long (((x0 - (3472328296227680304 : Int64)) ||| ((x0 - (3472328296227680304 : Int64)) + (8536140394893047414 : Int64))) &&& (-9187201950435737472 : Int64)))]))
  refine OwnOut.go (fun t k => XS.lcmp X0.here hx rfl (hb hby d2_18) rfl k) ?_
  show OwnOut p e s below 0 0 _ (T.setTop (mkF m 19 #[.val (.long x0), .second, .val (.long (x0 - (3472328296227680304 : Int64))), .second] [(.int (XT.cmpL (((x0 - (3472328296227680304 : Int64)) ||| ((x0 - (3472328296227680304 : Int64)) + (8536140394893047414 : Int64))) &&& (-9187201950435737472 : Int64)) (0 : Int64)))]))
  by_cases hc19 : (((x0 - (3472328296227680304 : Int64)) ||| ((x0 - (3472328296227680304 : Int64)) + (8536140394893047414 : Int64))) &&& (-9187201950435737472 : Int64)) = (0 : Int64)
  · rw [if_pos hc19]
    refine OwnOut.go (fun t k => XS.ifNo X0.here hx rfl (hb hby d2_19) rfl (XT.ll_ne_f hc19) k) ?_
    show OwnOut p e s below 0 0 _ (T.setTop (mkF m 22 #[.val (.long x0), .second, .val (.long (x0 - (3472328296227680304 : Int64))), .second] []))
    refine OwnOut.go (fun t k => XT.iconstV X0.here hx rfl (1 : Int32) (hb hby d2_22) rfl k) ?_
    show OwnOut p e s below 0 0 _ (T.setTop (mkF m 23 #[.val (.long x0), .second, .val (.long (x0 - (3472328296227680304 : Int64))), .second] [(.int (1 : Int32))]))
    refine OwnOut.go (fun t k => XS.goto X0.here hx rfl (pc0 := 23) (pc' := 27) rfl (hb hby d2_23) (by decide) (by decide) k) ?_
    show OwnOut p e s below 0 0 _ (T.setTop (mkF m 27 #[.val (.long x0), .second, .val (.long (x0 - (3472328296227680304 : Int64))), .second] [(.int (1 : Int32))]))
    exact outZ X0 hx hret (hb hby d2_27) hlk (by decide) (by decide) ⟨rfl, e0, rfl⟩
  · rw [if_neg hc19]
    refine OwnOut.go (fun t k => XS.ifYes X0.here hx rfl (pc0 := 19) (pc' := 26) rfl (hb hby d2_19) rfl (XT.ll_ne_t hc19) (by decide) (by decide) k) ?_
    show OwnOut p e s below 0 0 _ (T.setTop (mkF m 26 #[.val (.long x0), .second, .val (.long (x0 - (3472328296227680304 : Int64))), .second] []))
    refine OwnOut.go (fun t k => XT.iconstV X0.here hx rfl (0 : Int32) (hb hby d2_26) rfl k) ?_
    show OwnOut p e s below 0 0 _ (T.setTop (mkF m 27 #[.val (.long x0), .second, .val (.long (x0 - (3472328296227680304 : Int64))), .second] [(.int (0 : Int32))]))
    exact outZ X0 hx hret (hb hby d2_27) hlk (by decide) (by decide) ⟨rfl, e0, rfl⟩
set_option maxRecDepth 65536 in
set_option maxHeartbeats 40000000 in
theorem rm2 (l : Launch) (Z : State) (a0 : Array Value) (hw : ∀ d ∈ tables_1, d.before a0 Z = true) (ws : List Jvm.Cond) (x0 : Int64) (h0 : Heap) :
    MetFree l (⟨"com/example/eigenmittel/eigenmittel/AsciiDigits", "allDigits", "(J)Z"⟩ : MethodName) (head1 (Jvm.Cond.code (⟨"com/example/eigenmittel/eigenmittel/AsciiDigits", "allDigits", "(J)Z"⟩ : MethodName) prog_2_method_3_code 4 (some .boolean) :: ws) rx2) (fun a U => a = #[(.long x0)] ∧ Z.Warmed39 U.vm ∧ U.heap = h0) (fun _ _ _ _ _ => True) (fun _ U o U' => ∃ v L, o = .returned v ∧ QP h0 (some (.int (f2 x0))) v U'.heap L ∧ FrameEnd U o U' L rx2.cells rx2.slots) := by
  refine MetFree.of_bodySF (plainFor_of_name pn2) hisR ?_
  intro p e s m args below meth c s₁ Bd hml0 hP hK
  obtain ⟨rfl, hZ, hh⟩ := hP
  have X0 : Stand p l e rx2 s m #[(.long x0)] below meth c s₁ [] 0 0 := Stand.of_body Bd
  have e0 : s₁.heap = h0 := by rw [← hh, Bd.state]; rfl
  exact OwnOut.at (ef2 m x0) (w2_0 x0 X0 ⟨Bd.exec, hZ, hw, Bd.bytes, hml0, findClass_of_methodNamed Bd.named, Bd.returns, Bd.notSynchronized, (name_of_methodNamed Bd.named Bd.method).1⟩ e0)
-- body 4: com/example/eigenmittel/eigenmittel/AsciiDigitsAllDigitsPinLaw.digitAt:(JI)J
theorem d4_0 : decode method_3_code 0 = .ok (.lload_n 0, 1) := by decide +kernel
theorem d4_1 : decode method_3_code 1 = .ok (.bipush 8, 2) := by decide +kernel
theorem d4_3 : decode method_3_code 3 = .ok (.iload_n 2, 1) := by decide +kernel
theorem d4_4 : decode method_3_code 4 = .ok (.imul, 1) := by decide +kernel
theorem d4_5 : decode method_3_code 5 = .ok (.lushr, 1) := by decide +kernel
theorem d4_6 : decode method_3_code 6 = .ok (.ldc2_w 13, 3) := by decide +kernel
theorem d4_9 : decode method_3_code 9 = .ok (.land, 1) := by decide +kernel
theorem d4_10 : decode method_3_code 10 = .ok (.lstore_n 3, 1) := by decide +kernel
theorem d4_11 : decode method_3_code 11 = .ok (.ldc2_w 27, 3) := by decide +kernel
theorem d4_14 : decode method_3_code 14 = .ok (.lload_n 3, 1) := by decide +kernel
theorem d4_15 : decode method_3_code 15 = .ok (.ldc2_w 29, 3) := by decide +kernel
theorem d4_18 : decode method_3_code 18 = .ok (.lrem, 1) := by decide +kernel
theorem d4_19 : decode method_3_code 19 = .ok (.ladd, 1) := by decide +kernel
theorem d4_20 : decode method_3_code 20 = .ok (.bipush 8, 2) := by decide +kernel
theorem d4_22 : decode method_3_code 22 = .ok (.iload_n 2, 1) := by decide +kernel
theorem d4_23 : decode method_3_code 23 = .ok (.imul, 1) := by decide +kernel
theorem d4_24 : decode method_3_code 24 = .ok (.lshl, 1) := by decide +kernel
theorem d4_25 : decode method_3_code 25 = .ok (.lreturn, 1) := by decide +kernel
theorem pn4 : plainName "com/example/eigenmittel/eigenmittel/AsciiDigitsAllDigitsPinLaw" = true := by first | (simp [plainName, overriddenIn]; done) | decide +kernel
theorem pd4 : parseMethodDescriptor "(JI)J" = some ⟨[.long, .int], some .long⟩ := by decide +kernel
theorem ef4 (m : MethodId) (x0 : Int64) (x2 : Int32) : entryFrame m #[(.long x0), (.int x2)] 5 = mkF m 0 #[.val (.long x0), .second, .val (.int x2), .unset, .unset] [] := by first | (simp [entryFrame, mkF, argsToLocals, Value.category]; done) | rfl
abbrev rx4 : Room := { frames := 0, cells := 0, slots := 0, locals := 0 }
abbrev Cx4 (Z : State) (a0 : Array Value) (p : Program) (s : State) (m : MethodId) (meth : Method) (c : Code) : Prop := p.tables.exec = Jvm.exec ∧ Z.Warmed39 s.vm ∧ (∀ d ∈ tables_1, d.before a0 Z = true) ∧ c.code = method_3_code ∧ c.maxLocals = 5 ∧ s.vm.findClass "com/example/eigenmittel/eigenmittel/AsciiDigitsAllDigitsPinLaw" = some m.cls ∧ meth.sig.returnType = (some .long) ∧ meth.locks = false ∧ meth.name = "digitAt"
def f4_11 (x2 : Int32) (x3 : Int64) : Int64 := (((48 : Int64) + (x3 % (10 : Int64))) <<< (((8 : Int32) * x2) &&& 0x3f).toInt64)
set_option maxRecDepth 65536 in
set_option maxHeartbeats 40000000 in
theorem w4_11 {p : Program} {l : Launch} {e : Env} {s : State} {m : MethodId} {args : Array Value} {below : List Frame} {meth : Method} {c : Code} {T Z : State} {a0 : Array Value} {h0 : Heap} (x0 : Int64) (x2 : Int32) (x3 : Int64)
    (X0 : Stand p l e rx4 s m args below meth c T [] 0 0) (C : Cx4 Z a0 p s m meth c) (e0 : T.heap = h0) :
    OwnOut p e s below 0 0 (QP h0 (some (.long (f4_11 x2 x3)))) (T.setTop (mkF m 11 #[.val (.long x0), .second, .val (.int x2), .val (.long x3), .second] [])) := by
  obtain ⟨hx, hZ, hw, hby, hml, hown, hret, hlk, hnm⟩ := C
  rw [f4_11]
  refine OwnOut.go (fun t k => X0.ldc2Long hx hown (mvT hZ (hw _ (List.mem_of_getElem? (i := 5) rfl))) (g := (mkF m 11 #[.val (.long x0), .second, .val (.int x2), .val (.long x3), .second] [])) rfl (hb hby d4_11) _ k) ?_
  show OwnOut p e s below 0 0 _ (T.setTop (mkF m 14 #[.val (.long x0), .second, .val (.int x2), .val (.long x3), .second] [(.long (48 : Int64))]))
  refine OwnOut.go (fun t k => XS.lloadN X0.here hx rfl (hb hby d4_14) rfl k) ?_
  show OwnOut p e s below 0 0 _ (T.setTop (mkF m 15 #[.val (.long x0), .second, .val (.int x2), .val (.long x3), .second] [(.long x3), (.long (48 : Int64))]))
  refine OwnOut.go (fun t k => X0.ldc2Long hx hown (mvT hZ (hw _ (List.mem_of_getElem? (i := 19) rfl))) (g := (mkF m 15 #[.val (.long x0), .second, .val (.int x2), .val (.long x3), .second] [(.long x3), (.long (48 : Int64))])) rfl (hb hby d4_15) _ k) ?_
  show OwnOut p e s below 0 0 _ (T.setTop (mkF m 18 #[.val (.long x0), .second, .val (.int x2), .val (.long x3), .second] [(.long (10 : Int64)), (.long x3), (.long (48 : Int64))]))
  refine OwnOut.go (fun t k => lremM X0 hx rfl (hb hby d4_18) rfl (by decide) k) ?_
  show OwnOut p e s below 0 0 _ (T.setTop (mkF m 19 #[.val (.long x0), .second, .val (.int x2), .val (.long x3), .second] [(.long (x3 % (10 : Int64))), (.long (48 : Int64))]))
  refine OwnOut.go (fun t k => XS.ladd X0.here hx rfl (hb hby d4_19) rfl k) ?_
  show OwnOut p e s below 0 0 _ (T.setTop (mkF m 20 #[.val (.long x0), .second, .val (.int x2), .val (.long x3), .second] [(.long ((48 : Int64) + (x3 % (10 : Int64))))]))
  refine OwnOut.go (fun t k => XT.bipushV X0.here hx rfl (8 : Int32) (hb hby d4_20) rfl k) ?_
  show OwnOut p e s below 0 0 _ (T.setTop (mkF m 22 #[.val (.long x0), .second, .val (.int x2), .val (.long x3), .second] [(.int (8 : Int32)), (.long ((48 : Int64) + (x3 % (10 : Int64))))]))
  refine OwnOut.go (fun t k => XS.iloadN X0.here hx rfl (hb hby d4_22) rfl k) ?_
  show OwnOut p e s below 0 0 _ (T.setTop (mkF m 23 #[.val (.long x0), .second, .val (.int x2), .val (.long x3), .second] [(.int x2), (.int (8 : Int32)), (.long ((48 : Int64) + (x3 % (10 : Int64))))]))
  refine OwnOut.go (fun t k => XS.imul X0.here hx rfl (hb hby d4_23) rfl k) ?_
  show OwnOut p e s below 0 0 _ (T.setTop (mkF m 24 #[.val (.long x0), .second, .val (.int x2), .val (.long x3), .second] [(.int ((8 : Int32) * x2)), (.long ((48 : Int64) + (x3 % (10 : Int64))))]))
  refine OwnOut.go (fun t k => XS.lshl X0.here hx rfl (hb hby d4_24) rfl k) ?_
  show OwnOut p e s below 0 0 _ (T.setTop (mkF m 25 #[.val (.long x0), .second, .val (.int x2), .val (.long x3), .second] [(.long (((48 : Int64) + (x3 % (10 : Int64))) <<< (((8 : Int32) * x2) &&& 0x3f).toInt64))]))
  exact outJ X0 hx hret (hb hby d4_25) hlk (by decide) (by decide) ⟨rfl, e0, rfl⟩
def f4 (x0 : Int64) (x2 : Int32) : Int64 := (f4_11 x2 (((x0.toUInt64 >>> (((8 : Int32) * x2) &&& 0x3f).toInt64.toUInt64).toInt64) &&& (255 : Int64)))
set_option maxRecDepth 65536 in
set_option maxHeartbeats 40000000 in
theorem w4_0 {p : Program} {l : Launch} {e : Env} {s : State} {m : MethodId} {args : Array Value} {below : List Frame} {meth : Method} {c : Code} {T Z : State} {a0 : Array Value} {h0 : Heap} (x0 : Int64) (x2 : Int32)
    (X0 : Stand p l e rx4 s m args below meth c T [] 0 0) (C : Cx4 Z a0 p s m meth c) (e0 : T.heap = h0) :
    OwnOut p e s below 0 0 (QP h0 (some (.long (f4 x0 x2)))) (T.setTop (mkF m 0 #[.val (.long x0), .second, .val (.int x2), .unset, .unset] [])) := by
  obtain ⟨hx, hZ, hw, hby, hml, hown, hret, hlk, hnm⟩ := C
  rw [f4]
  refine OwnOut.go (fun t k => XS.lloadN X0.here hx rfl (hb hby d4_0) rfl k) ?_
  show OwnOut p e s below 0 0 _ (T.setTop (mkF m 1 #[.val (.long x0), .second, .val (.int x2), .unset, .unset] [(.long x0)]))
  refine OwnOut.go (fun t k => XT.bipushV X0.here hx rfl (8 : Int32) (hb hby d4_1) rfl k) ?_
  show OwnOut p e s below 0 0 _ (T.setTop (mkF m 3 #[.val (.long x0), .second, .val (.int x2), .unset, .unset] [(.int (8 : Int32)), (.long x0)]))
  refine OwnOut.go (fun t k => XS.iloadN X0.here hx rfl (hb hby d4_3) rfl k) ?_
  show OwnOut p e s below 0 0 _ (T.setTop (mkF m 4 #[.val (.long x0), .second, .val (.int x2), .unset, .unset] [(.int x2), (.int (8 : Int32)), (.long x0)]))
  refine OwnOut.go (fun t k => XS.imul X0.here hx rfl (hb hby d4_4) rfl k) ?_
  show OwnOut p e s below 0 0 _ (T.setTop (mkF m 5 #[.val (.long x0), .second, .val (.int x2), .unset, .unset] [(.int ((8 : Int32) * x2)), (.long x0)]))
  refine OwnOut.go (fun t k => XS.lushr X0.here hx rfl (hb hby d4_5) rfl k) ?_
  show OwnOut p e s below 0 0 _ (T.setTop (mkF m 6 #[.val (.long x0), .second, .val (.int x2), .unset, .unset] [(.long ((x0.toUInt64 >>> (((8 : Int32) * x2) &&& 0x3f).toInt64.toUInt64).toInt64))]))
  refine OwnOut.go (fun t k => X0.ldc2Long hx hown (mvT hZ (hw _ (List.mem_of_getElem? (i := 4) rfl))) (g := (mkF m 6 #[.val (.long x0), .second, .val (.int x2), .unset, .unset] [(.long ((x0.toUInt64 >>> (((8 : Int32) * x2) &&& 0x3f).toInt64.toUInt64).toInt64))])) rfl (hb hby d4_6) _ k) ?_
  show OwnOut p e s below 0 0 _ (T.setTop (mkF m 9 #[.val (.long x0), .second, .val (.int x2), .unset, .unset] [(.long (255 : Int64)), (.long ((x0.toUInt64 >>> (((8 : Int32) * x2) &&& 0x3f).toInt64.toUInt64).toInt64))]))
  refine OwnOut.go (fun t k => XS.land X0.here hx rfl (hb hby d4_9) rfl k) ?_
  show OwnOut p e s below 0 0 _ (T.setTop (mkF m 10 #[.val (.long x0), .second, .val (.int x2), .unset, .unset] [(.long (((x0.toUInt64 >>> (((8 : Int32) * x2) &&& 0x3f).toInt64.toUInt64).toInt64) &&& (255 : Int64)))]))
  refine OwnOut.go (fun t k => XS.lstoreN X0.here hx rfl (hb hby d4_10) rfl (l' := #[.val (.long x0), .second, .val (.int x2), .val (.long (((x0.toUInt64 >>> (((8 : Int32) * x2) &&& 0x3f).toInt64.toUInt64).toInt64) &&& (255 : Int64))), .second]) rfl k) ?_
  show OwnOut p e s below 0 0 _ (T.setTop (mkF m 11 #[.val (.long x0), .second, .val (.int x2), .val (.long (((x0.toUInt64 >>> (((8 : Int32) * x2) &&& 0x3f).toInt64.toUInt64).toInt64) &&& (255 : Int64))), .second] []))
  exact w4_11 x0 x2 (((x0.toUInt64 >>> (((8 : Int32) * x2) &&& 0x3f).toInt64.toUInt64).toInt64) &&& (255 : Int64)) X0 ⟨hx, hZ, hw, hby, hml, hown, hret, hlk, hnm⟩ e0
set_option maxRecDepth 65536 in
set_option maxHeartbeats 40000000 in
theorem rm4 (l : Launch) (Z : State) (a0 : Array Value) (hw : ∀ d ∈ tables_1, d.before a0 Z = true) (ws : List Jvm.Cond) (x0 : Int64) (x2 : Int32) (h0 : Heap) :
    MetFree l (⟨"com/example/eigenmittel/eigenmittel/AsciiDigitsAllDigitsPinLaw", "digitAt", "(JI)J"⟩ : MethodName) (head1 (Jvm.Cond.code (⟨"com/example/eigenmittel/eigenmittel/AsciiDigitsAllDigitsPinLaw", "digitAt", "(JI)J"⟩ : MethodName) method_3_code 5 (some .long) :: ws) rx4) (fun a U => a = #[(.long x0), (.int x2)] ∧ Z.Warmed39 U.vm ∧ U.heap = h0) (fun _ _ _ _ _ => True) (fun _ U o U' => ∃ v L, o = .returned v ∧ QP h0 (some (.long (f4 x0 x2))) v U'.heap L ∧ FrameEnd U o U' L rx4.cells rx4.slots) := by
  refine MetFree.of_bodySF (plainFor_of_name pn4) hisR ?_
  intro p e s m args below meth c s₁ Bd hml0 hP hK
  obtain ⟨rfl, hZ, hh⟩ := hP
  have X0 : Stand p l e rx4 s m #[(.long x0), (.int x2)] below meth c s₁ [] 0 0 := Stand.of_body Bd
  have e0 : s₁.heap = h0 := by rw [← hh, Bd.state]; rfl
  exact OwnOut.at (ef4 m x0 x2) (w4_0 x0 x2 X0 ⟨Bd.exec, hZ, hw, Bd.bytes, hml0, findClass_of_methodNamed Bd.named, Bd.returns, Bd.notSynchronized, (name_of_methodNamed Bd.named Bd.method).1⟩ e0)
-- body 3: com/example/eigenmittel/eigenmittel/AsciiDigitsAllDigitsPinLaw.digitWord:(J)J
theorem d3_0 : decode method_4_code 0 = .ok (.lload_n 0, 1) := by decide +kernel
theorem d3_1 : decode method_4_code 1 = .ok (.iconst 0, 1) := by decide +kernel
theorem d3_2 : decode method_4_code 2 = .ok (.invokestatic 31, 3) := by decide +kernel
theorem d3_5 : decode method_4_code 5 = .ok (.lload_n 0, 1) := by decide +kernel
theorem d3_6 : decode method_4_code 6 = .ok (.iconst 1, 1) := by decide +kernel
theorem d3_7 : decode method_4_code 7 = .ok (.invokestatic 31, 3) := by decide +kernel
theorem d3_10 : decode method_4_code 10 = .ok (.lor, 1) := by decide +kernel
theorem d3_11 : decode method_4_code 11 = .ok (.lload_n 0, 1) := by decide +kernel
theorem d3_12 : decode method_4_code 12 = .ok (.iconst 2, 1) := by decide +kernel
theorem d3_13 : decode method_4_code 13 = .ok (.invokestatic 31, 3) := by decide +kernel
theorem d3_16 : decode method_4_code 16 = .ok (.lor, 1) := by decide +kernel
theorem d3_17 : decode method_4_code 17 = .ok (.lload_n 0, 1) := by decide +kernel
theorem d3_18 : decode method_4_code 18 = .ok (.iconst 3, 1) := by decide +kernel
theorem d3_19 : decode method_4_code 19 = .ok (.invokestatic 31, 3) := by decide +kernel
theorem d3_22 : decode method_4_code 22 = .ok (.lor, 1) := by decide +kernel
theorem d3_23 : decode method_4_code 23 = .ok (.lload_n 0, 1) := by decide +kernel
theorem d3_24 : decode method_4_code 24 = .ok (.iconst 4, 1) := by decide +kernel
theorem d3_25 : decode method_4_code 25 = .ok (.invokestatic 31, 3) := by decide +kernel
theorem d3_28 : decode method_4_code 28 = .ok (.lor, 1) := by decide +kernel
theorem d3_29 : decode method_4_code 29 = .ok (.lload_n 0, 1) := by decide +kernel
theorem d3_30 : decode method_4_code 30 = .ok (.iconst 5, 1) := by decide +kernel
theorem d3_31 : decode method_4_code 31 = .ok (.invokestatic 31, 3) := by decide +kernel
theorem d3_34 : decode method_4_code 34 = .ok (.lor, 1) := by decide +kernel
theorem d3_35 : decode method_4_code 35 = .ok (.lload_n 0, 1) := by decide +kernel
theorem d3_36 : decode method_4_code 36 = .ok (.bipush 6, 2) := by decide +kernel
theorem d3_38 : decode method_4_code 38 = .ok (.invokestatic 31, 3) := by decide +kernel
theorem d3_41 : decode method_4_code 41 = .ok (.lor, 1) := by decide +kernel
theorem d3_42 : decode method_4_code 42 = .ok (.lload_n 0, 1) := by decide +kernel
theorem d3_43 : decode method_4_code 43 = .ok (.bipush 7, 2) := by decide +kernel
theorem d3_45 : decode method_4_code 45 = .ok (.invokestatic 31, 3) := by decide +kernel
theorem d3_48 : decode method_4_code 48 = .ok (.lor, 1) := by decide +kernel
theorem d3_49 : decode method_4_code 49 = .ok (.lreturn, 1) := by decide +kernel
theorem pn3 : plainName "com/example/eigenmittel/eigenmittel/AsciiDigitsAllDigitsPinLaw" = true := by first | (simp [plainName, overriddenIn]; done) | decide +kernel
theorem pd3 : parseMethodDescriptor "(J)J" = some ⟨[.long], some .long⟩ := by decide +kernel
theorem ef3 (m : MethodId) (x0 : Int64) : entryFrame m #[(.long x0)] 2 = mkF m 0 #[.val (.long x0), .second] [] := by first | (simp [entryFrame, mkF, argsToLocals, Value.category]; done) | rfl
abbrev rx3 : Room := { frames := 1, cells := 0, slots := 0, locals := 18 }
abbrev Cx3 (Z : State) (a0 : Array Value) (p : Program) (s : State) (m : MethodId) (meth : Method) (c : Code) : Prop := p.tables.exec = Jvm.exec ∧ Z.Warmed39 s.vm ∧ (∀ d ∈ tables_1, d.before a0 Z = true) ∧ c.code = method_4_code ∧ c.maxLocals = 2 ∧ s.vm.findClass "com/example/eigenmittel/eigenmittel/AsciiDigitsAllDigitsPinLaw" = some m.cls ∧ meth.sig.returnType = (some .long) ∧ meth.locks = false ∧ meth.name = "digitWord"
def f3 (x0 : Int64) : Int64 := ((((((((f4 x0 (0 : Int32)) ||| (f4 x0 (1 : Int32))) ||| (f4 x0 (2 : Int32))) ||| (f4 x0 (3 : Int32))) ||| (f4 x0 (4 : Int32))) ||| (f4 x0 (5 : Int32))) ||| (f4 x0 (6 : Int32))) ||| (f4 x0 (7 : Int32)))
set_option maxRecDepth 65536 in
set_option maxHeartbeats 40000000 in
theorem w3_0 {p : Program} {l : Launch} {e : Env} {s : State} {m : MethodId} {args : Array Value} {below : List Frame} {meth : Method} {c : Code} {T Z : State} {a0 : Array Value} {h0 : Heap} (x0 : Int64)
    (X0 : Stand p l e rx3 s m args below meth c T [] 0 0) (C : Cx3 Z a0 p s m meth c) (e0 : T.heap = h0) :
    OwnOut p e s below 0 0 (QP h0 (some (.long (f3 x0)))) (T.setTop (mkF m 0 #[.val (.long x0), .second] [])) := by
  obtain ⟨hx, hZ, hw, hby, hml, hown, hret, hlk, hnm⟩ := C
  rw [f3]
  refine OwnOut.go (fun t k => XS.lloadN X0.here hx rfl (hb hby d3_0) rfl k) ?_
  show OwnOut p e s below 0 0 _ (T.setTop (mkF m 1 #[.val (.long x0), .second] [(.long x0)]))
  refine OwnOut.go (fun t k => XT.iconstV X0.here hx rfl (0 : Int32) (hb hby d3_1) rfl k) ?_
  show OwnOut p e s below 0 0 _ (T.setTop (mkF m 2 #[.val (.long x0), .second] [(.int (0 : Int32)), (.long x0)]))
  obtain ⟨T1, X1, e1, st1⟩ := callP (W := 0) (rm := rx4) X0 hx hZ (y := (⟨"com/example/eigenmittel/eigenmittel/AsciiDigitsAllDigitsPinLaw", "digitAt", "(JI)J"⟩ : MethodName)) hown (hw _ (List.mem_of_getElem? (i := 16) rfl)) (hw _ (List.mem_of_getElem? (i := 17) rfl)) (hw _ (List.mem_of_getElem? (i := 2) rfl)) (hw _ (List.mem_of_getElem? (i := 18) rfl)) (by decide) (rm4 l Z a0 hw [] x0 (0 : Int32) h0) (by decide) (by decide) rfl rfl (Nat.zero_le _) (Nat.zero_le _) e0 (g := (mkF m 2 #[.val (.long x0), .second] [(.int (0 : Int32)), (.long x0)])) rfl (by rw [hml]; rfl) (argsL := [(.long x0), (.int (0 : Int32))]) (rest := []) (lenOf pd4 rfl) rfl (by show 2 * 0 + _ ≤ _; exact Nat.le_of_eq rfl) (hb hby d3_2)
  refine OwnOut.go (fun t k => st1 _ k) ?_
  show OwnOut p e s below 0 0 _ (T1.setTop (mkF m 5 #[.val (.long x0), .second] [(.long (f4 x0 (0 : Int32)))]))
  refine OwnOut.go (fun t k => XS.lloadN X1.here hx rfl (hb hby d3_5) rfl k) ?_
  show OwnOut p e s below 0 0 _ (T1.setTop (mkF m 6 #[.val (.long x0), .second] [(.long x0), (.long (f4 x0 (0 : Int32)))]))
  refine OwnOut.go (fun t k => XT.iconstV X1.here hx rfl (1 : Int32) (hb hby d3_6) rfl k) ?_
  show OwnOut p e s below 0 0 _ (T1.setTop (mkF m 7 #[.val (.long x0), .second] [(.int (1 : Int32)), (.long x0), (.long (f4 x0 (0 : Int32)))]))
  obtain ⟨T2, X2, e2, st2⟩ := callP (W := 2) (rm := rx4) X1 hx hZ (y := (⟨"com/example/eigenmittel/eigenmittel/AsciiDigitsAllDigitsPinLaw", "digitAt", "(JI)J"⟩ : MethodName)) hown (hw _ (List.mem_of_getElem? (i := 16) rfl)) (hw _ (List.mem_of_getElem? (i := 17) rfl)) (hw _ (List.mem_of_getElem? (i := 2) rfl)) (hw _ (List.mem_of_getElem? (i := 18) rfl)) (by decide) (rm4 l Z a0 hw [] x0 (1 : Int32) h0) (by decide) (by decide) rfl rfl (Nat.zero_le _) (Nat.zero_le _) e1 (g := (mkF m 7 #[.val (.long x0), .second] [(.int (1 : Int32)), (.long x0), (.long (f4 x0 (0 : Int32)))])) rfl (by rw [hml]; rfl) (argsL := [(.long x0), (.int (1 : Int32))]) (rest := [(.long (f4 x0 (0 : Int32)))]) (lenOf pd4 rfl) rfl (by show 2 * 0 + _ ≤ _; exact Nat.le_of_eq rfl) (hb hby d3_7)
  refine OwnOut.go (fun t k => st2 _ k) ?_
  show OwnOut p e s below 0 0 _ (T2.setTop (mkF m 10 #[.val (.long x0), .second] [(.long (f4 x0 (1 : Int32))), (.long (f4 x0 (0 : Int32)))]))
  refine OwnOut.go (fun t k => XS.lor X2.here hx rfl (hb hby d3_10) rfl k) ?_
  show OwnOut p e s below 0 0 _ (T2.setTop (mkF m 11 #[.val (.long x0), .second] [(.long ((f4 x0 (0 : Int32)) ||| (f4 x0 (1 : Int32))))]))
  refine OwnOut.go (fun t k => XS.lloadN X2.here hx rfl (hb hby d3_11) rfl k) ?_
  show OwnOut p e s below 0 0 _ (T2.setTop (mkF m 12 #[.val (.long x0), .second] [(.long x0), (.long ((f4 x0 (0 : Int32)) ||| (f4 x0 (1 : Int32))))]))
  refine OwnOut.go (fun t k => XT.iconstV X2.here hx rfl (2 : Int32) (hb hby d3_12) rfl k) ?_
  show OwnOut p e s below 0 0 _ (T2.setTop (mkF m 13 #[.val (.long x0), .second] [(.int (2 : Int32)), (.long x0), (.long ((f4 x0 (0 : Int32)) ||| (f4 x0 (1 : Int32))))]))
  obtain ⟨T3, X3, e3, st3⟩ := callP (W := 2) (rm := rx4) X2 hx hZ (y := (⟨"com/example/eigenmittel/eigenmittel/AsciiDigitsAllDigitsPinLaw", "digitAt", "(JI)J"⟩ : MethodName)) hown (hw _ (List.mem_of_getElem? (i := 16) rfl)) (hw _ (List.mem_of_getElem? (i := 17) rfl)) (hw _ (List.mem_of_getElem? (i := 2) rfl)) (hw _ (List.mem_of_getElem? (i := 18) rfl)) (by decide) (rm4 l Z a0 hw [] x0 (2 : Int32) h0) (by decide) (by decide) rfl rfl (Nat.zero_le _) (Nat.zero_le _) e2 (g := (mkF m 13 #[.val (.long x0), .second] [(.int (2 : Int32)), (.long x0), (.long ((f4 x0 (0 : Int32)) ||| (f4 x0 (1 : Int32))))])) rfl (by rw [hml]; rfl) (argsL := [(.long x0), (.int (2 : Int32))]) (rest := [(.long ((f4 x0 (0 : Int32)) ||| (f4 x0 (1 : Int32))))]) (lenOf pd4 rfl) rfl (by show 2 * 0 + _ ≤ _; exact Nat.le_of_eq rfl) (hb hby d3_13)
  refine OwnOut.go (fun t k => st3 _ k) ?_
  show OwnOut p e s below 0 0 _ (T3.setTop (mkF m 16 #[.val (.long x0), .second] [(.long (f4 x0 (2 : Int32))), (.long ((f4 x0 (0 : Int32)) ||| (f4 x0 (1 : Int32))))]))
  refine OwnOut.go (fun t k => XS.lor X3.here hx rfl (hb hby d3_16) rfl k) ?_
  show OwnOut p e s below 0 0 _ (T3.setTop (mkF m 17 #[.val (.long x0), .second] [(.long (((f4 x0 (0 : Int32)) ||| (f4 x0 (1 : Int32))) ||| (f4 x0 (2 : Int32))))]))
  refine OwnOut.go (fun t k => XS.lloadN X3.here hx rfl (hb hby d3_17) rfl k) ?_
  show OwnOut p e s below 0 0 _ (T3.setTop (mkF m 18 #[.val (.long x0), .second] [(.long x0), (.long (((f4 x0 (0 : Int32)) ||| (f4 x0 (1 : Int32))) ||| (f4 x0 (2 : Int32))))]))
  refine OwnOut.go (fun t k => XT.iconstV X3.here hx rfl (3 : Int32) (hb hby d3_18) rfl k) ?_
  show OwnOut p e s below 0 0 _ (T3.setTop (mkF m 19 #[.val (.long x0), .second] [(.int (3 : Int32)), (.long x0), (.long (((f4 x0 (0 : Int32)) ||| (f4 x0 (1 : Int32))) ||| (f4 x0 (2 : Int32))))]))
  obtain ⟨T4, X4, e4, st4⟩ := callP (W := 2) (rm := rx4) X3 hx hZ (y := (⟨"com/example/eigenmittel/eigenmittel/AsciiDigitsAllDigitsPinLaw", "digitAt", "(JI)J"⟩ : MethodName)) hown (hw _ (List.mem_of_getElem? (i := 16) rfl)) (hw _ (List.mem_of_getElem? (i := 17) rfl)) (hw _ (List.mem_of_getElem? (i := 2) rfl)) (hw _ (List.mem_of_getElem? (i := 18) rfl)) (by decide) (rm4 l Z a0 hw [] x0 (3 : Int32) h0) (by decide) (by decide) rfl rfl (Nat.zero_le _) (Nat.zero_le _) e3 (g := (mkF m 19 #[.val (.long x0), .second] [(.int (3 : Int32)), (.long x0), (.long (((f4 x0 (0 : Int32)) ||| (f4 x0 (1 : Int32))) ||| (f4 x0 (2 : Int32))))])) rfl (by rw [hml]; rfl) (argsL := [(.long x0), (.int (3 : Int32))]) (rest := [(.long (((f4 x0 (0 : Int32)) ||| (f4 x0 (1 : Int32))) ||| (f4 x0 (2 : Int32))))]) (lenOf pd4 rfl) rfl (by show 2 * 0 + _ ≤ _; exact Nat.le_of_eq rfl) (hb hby d3_19)
  refine OwnOut.go (fun t k => st4 _ k) ?_
  show OwnOut p e s below 0 0 _ (T4.setTop (mkF m 22 #[.val (.long x0), .second] [(.long (f4 x0 (3 : Int32))), (.long (((f4 x0 (0 : Int32)) ||| (f4 x0 (1 : Int32))) ||| (f4 x0 (2 : Int32))))]))
  refine OwnOut.go (fun t k => XS.lor X4.here hx rfl (hb hby d3_22) rfl k) ?_
  show OwnOut p e s below 0 0 _ (T4.setTop (mkF m 23 #[.val (.long x0), .second] [(.long ((((f4 x0 (0 : Int32)) ||| (f4 x0 (1 : Int32))) ||| (f4 x0 (2 : Int32))) ||| (f4 x0 (3 : Int32))))]))
  refine OwnOut.go (fun t k => XS.lloadN X4.here hx rfl (hb hby d3_23) rfl k) ?_
  show OwnOut p e s below 0 0 _ (T4.setTop (mkF m 24 #[.val (.long x0), .second] [(.long x0), (.long ((((f4 x0 (0 : Int32)) ||| (f4 x0 (1 : Int32))) ||| (f4 x0 (2 : Int32))) ||| (f4 x0 (3 : Int32))))]))
  refine OwnOut.go (fun t k => XT.iconstV X4.here hx rfl (4 : Int32) (hb hby d3_24) rfl k) ?_
  show OwnOut p e s below 0 0 _ (T4.setTop (mkF m 25 #[.val (.long x0), .second] [(.int (4 : Int32)), (.long x0), (.long ((((f4 x0 (0 : Int32)) ||| (f4 x0 (1 : Int32))) ||| (f4 x0 (2 : Int32))) ||| (f4 x0 (3 : Int32))))]))
  obtain ⟨T5, X5, e5, st5⟩ := callP (W := 2) (rm := rx4) X4 hx hZ (y := (⟨"com/example/eigenmittel/eigenmittel/AsciiDigitsAllDigitsPinLaw", "digitAt", "(JI)J"⟩ : MethodName)) hown (hw _ (List.mem_of_getElem? (i := 16) rfl)) (hw _ (List.mem_of_getElem? (i := 17) rfl)) (hw _ (List.mem_of_getElem? (i := 2) rfl)) (hw _ (List.mem_of_getElem? (i := 18) rfl)) (by decide) (rm4 l Z a0 hw [] x0 (4 : Int32) h0) (by decide) (by decide) rfl rfl (Nat.zero_le _) (Nat.zero_le _) e4 (g := (mkF m 25 #[.val (.long x0), .second] [(.int (4 : Int32)), (.long x0), (.long ((((f4 x0 (0 : Int32)) ||| (f4 x0 (1 : Int32))) ||| (f4 x0 (2 : Int32))) ||| (f4 x0 (3 : Int32))))])) rfl (by rw [hml]; rfl) (argsL := [(.long x0), (.int (4 : Int32))]) (rest := [(.long ((((f4 x0 (0 : Int32)) ||| (f4 x0 (1 : Int32))) ||| (f4 x0 (2 : Int32))) ||| (f4 x0 (3 : Int32))))]) (lenOf pd4 rfl) rfl (by show 2 * 0 + _ ≤ _; exact Nat.le_of_eq rfl) (hb hby d3_25)
  refine OwnOut.go (fun t k => st5 _ k) ?_
  show OwnOut p e s below 0 0 _ (T5.setTop (mkF m 28 #[.val (.long x0), .second] [(.long (f4 x0 (4 : Int32))), (.long ((((f4 x0 (0 : Int32)) ||| (f4 x0 (1 : Int32))) ||| (f4 x0 (2 : Int32))) ||| (f4 x0 (3 : Int32))))]))
  refine OwnOut.go (fun t k => XS.lor X5.here hx rfl (hb hby d3_28) rfl k) ?_
  show OwnOut p e s below 0 0 _ (T5.setTop (mkF m 29 #[.val (.long x0), .second] [(.long (((((f4 x0 (0 : Int32)) ||| (f4 x0 (1 : Int32))) ||| (f4 x0 (2 : Int32))) ||| (f4 x0 (3 : Int32))) ||| (f4 x0 (4 : Int32))))]))
  refine OwnOut.go (fun t k => XS.lloadN X5.here hx rfl (hb hby d3_29) rfl k) ?_
  show OwnOut p e s below 0 0 _ (T5.setTop (mkF m 30 #[.val (.long x0), .second] [(.long x0), (.long (((((f4 x0 (0 : Int32)) ||| (f4 x0 (1 : Int32))) ||| (f4 x0 (2 : Int32))) ||| (f4 x0 (3 : Int32))) ||| (f4 x0 (4 : Int32))))]))
  refine OwnOut.go (fun t k => XT.iconstV X5.here hx rfl (5 : Int32) (hb hby d3_30) rfl k) ?_
  show OwnOut p e s below 0 0 _ (T5.setTop (mkF m 31 #[.val (.long x0), .second] [(.int (5 : Int32)), (.long x0), (.long (((((f4 x0 (0 : Int32)) ||| (f4 x0 (1 : Int32))) ||| (f4 x0 (2 : Int32))) ||| (f4 x0 (3 : Int32))) ||| (f4 x0 (4 : Int32))))]))
  obtain ⟨T6, X6, e6, st6⟩ := callP (W := 2) (rm := rx4) X5 hx hZ (y := (⟨"com/example/eigenmittel/eigenmittel/AsciiDigitsAllDigitsPinLaw", "digitAt", "(JI)J"⟩ : MethodName)) hown (hw _ (List.mem_of_getElem? (i := 16) rfl)) (hw _ (List.mem_of_getElem? (i := 17) rfl)) (hw _ (List.mem_of_getElem? (i := 2) rfl)) (hw _ (List.mem_of_getElem? (i := 18) rfl)) (by decide) (rm4 l Z a0 hw [] x0 (5 : Int32) h0) (by decide) (by decide) rfl rfl (Nat.zero_le _) (Nat.zero_le _) e5 (g := (mkF m 31 #[.val (.long x0), .second] [(.int (5 : Int32)), (.long x0), (.long (((((f4 x0 (0 : Int32)) ||| (f4 x0 (1 : Int32))) ||| (f4 x0 (2 : Int32))) ||| (f4 x0 (3 : Int32))) ||| (f4 x0 (4 : Int32))))])) rfl (by rw [hml]; rfl) (argsL := [(.long x0), (.int (5 : Int32))]) (rest := [(.long (((((f4 x0 (0 : Int32)) ||| (f4 x0 (1 : Int32))) ||| (f4 x0 (2 : Int32))) ||| (f4 x0 (3 : Int32))) ||| (f4 x0 (4 : Int32))))]) (lenOf pd4 rfl) rfl (by show 2 * 0 + _ ≤ _; exact Nat.le_of_eq rfl) (hb hby d3_31)
  refine OwnOut.go (fun t k => st6 _ k) ?_
  show OwnOut p e s below 0 0 _ (T6.setTop (mkF m 34 #[.val (.long x0), .second] [(.long (f4 x0 (5 : Int32))), (.long (((((f4 x0 (0 : Int32)) ||| (f4 x0 (1 : Int32))) ||| (f4 x0 (2 : Int32))) ||| (f4 x0 (3 : Int32))) ||| (f4 x0 (4 : Int32))))]))
  refine OwnOut.go (fun t k => XS.lor X6.here hx rfl (hb hby d3_34) rfl k) ?_
  show OwnOut p e s below 0 0 _ (T6.setTop (mkF m 35 #[.val (.long x0), .second] [(.long ((((((f4 x0 (0 : Int32)) ||| (f4 x0 (1 : Int32))) ||| (f4 x0 (2 : Int32))) ||| (f4 x0 (3 : Int32))) ||| (f4 x0 (4 : Int32))) ||| (f4 x0 (5 : Int32))))]))
  refine OwnOut.go (fun t k => XS.lloadN X6.here hx rfl (hb hby d3_35) rfl k) ?_
  show OwnOut p e s below 0 0 _ (T6.setTop (mkF m 36 #[.val (.long x0), .second] [(.long x0), (.long ((((((f4 x0 (0 : Int32)) ||| (f4 x0 (1 : Int32))) ||| (f4 x0 (2 : Int32))) ||| (f4 x0 (3 : Int32))) ||| (f4 x0 (4 : Int32))) ||| (f4 x0 (5 : Int32))))]))
  refine OwnOut.go (fun t k => XT.bipushV X6.here hx rfl (6 : Int32) (hb hby d3_36) rfl k) ?_
  show OwnOut p e s below 0 0 _ (T6.setTop (mkF m 38 #[.val (.long x0), .second] [(.int (6 : Int32)), (.long x0), (.long ((((((f4 x0 (0 : Int32)) ||| (f4 x0 (1 : Int32))) ||| (f4 x0 (2 : Int32))) ||| (f4 x0 (3 : Int32))) ||| (f4 x0 (4 : Int32))) ||| (f4 x0 (5 : Int32))))]))
  obtain ⟨T7, X7, e7, st7⟩ := callP (W := 2) (rm := rx4) X6 hx hZ (y := (⟨"com/example/eigenmittel/eigenmittel/AsciiDigitsAllDigitsPinLaw", "digitAt", "(JI)J"⟩ : MethodName)) hown (hw _ (List.mem_of_getElem? (i := 16) rfl)) (hw _ (List.mem_of_getElem? (i := 17) rfl)) (hw _ (List.mem_of_getElem? (i := 2) rfl)) (hw _ (List.mem_of_getElem? (i := 18) rfl)) (by decide) (rm4 l Z a0 hw [] x0 (6 : Int32) h0) (by decide) (by decide) rfl rfl (Nat.zero_le _) (Nat.zero_le _) e6 (g := (mkF m 38 #[.val (.long x0), .second] [(.int (6 : Int32)), (.long x0), (.long ((((((f4 x0 (0 : Int32)) ||| (f4 x0 (1 : Int32))) ||| (f4 x0 (2 : Int32))) ||| (f4 x0 (3 : Int32))) ||| (f4 x0 (4 : Int32))) ||| (f4 x0 (5 : Int32))))])) rfl (by rw [hml]; rfl) (argsL := [(.long x0), (.int (6 : Int32))]) (rest := [(.long ((((((f4 x0 (0 : Int32)) ||| (f4 x0 (1 : Int32))) ||| (f4 x0 (2 : Int32))) ||| (f4 x0 (3 : Int32))) ||| (f4 x0 (4 : Int32))) ||| (f4 x0 (5 : Int32))))]) (lenOf pd4 rfl) rfl (by show 2 * 0 + _ ≤ _; exact Nat.le_of_eq rfl) (hb hby d3_38)
  refine OwnOut.go (fun t k => st7 _ k) ?_
  show OwnOut p e s below 0 0 _ (T7.setTop (mkF m 41 #[.val (.long x0), .second] [(.long (f4 x0 (6 : Int32))), (.long ((((((f4 x0 (0 : Int32)) ||| (f4 x0 (1 : Int32))) ||| (f4 x0 (2 : Int32))) ||| (f4 x0 (3 : Int32))) ||| (f4 x0 (4 : Int32))) ||| (f4 x0 (5 : Int32))))]))
  refine OwnOut.go (fun t k => XS.lor X7.here hx rfl (hb hby d3_41) rfl k) ?_
  show OwnOut p e s below 0 0 _ (T7.setTop (mkF m 42 #[.val (.long x0), .second] [(.long (((((((f4 x0 (0 : Int32)) ||| (f4 x0 (1 : Int32))) ||| (f4 x0 (2 : Int32))) ||| (f4 x0 (3 : Int32))) ||| (f4 x0 (4 : Int32))) ||| (f4 x0 (5 : Int32))) ||| (f4 x0 (6 : Int32))))]))
  refine OwnOut.go (fun t k => XS.lloadN X7.here hx rfl (hb hby d3_42) rfl k) ?_
  show OwnOut p e s below 0 0 _ (T7.setTop (mkF m 43 #[.val (.long x0), .second] [(.long x0), (.long (((((((f4 x0 (0 : Int32)) ||| (f4 x0 (1 : Int32))) ||| (f4 x0 (2 : Int32))) ||| (f4 x0 (3 : Int32))) ||| (f4 x0 (4 : Int32))) ||| (f4 x0 (5 : Int32))) ||| (f4 x0 (6 : Int32))))]))
  refine OwnOut.go (fun t k => XT.bipushV X7.here hx rfl (7 : Int32) (hb hby d3_43) rfl k) ?_
  show OwnOut p e s below 0 0 _ (T7.setTop (mkF m 45 #[.val (.long x0), .second] [(.int (7 : Int32)), (.long x0), (.long (((((((f4 x0 (0 : Int32)) ||| (f4 x0 (1 : Int32))) ||| (f4 x0 (2 : Int32))) ||| (f4 x0 (3 : Int32))) ||| (f4 x0 (4 : Int32))) ||| (f4 x0 (5 : Int32))) ||| (f4 x0 (6 : Int32))))]))
  obtain ⟨T8, X8, e8, st8⟩ := callP (W := 2) (rm := rx4) X7 hx hZ (y := (⟨"com/example/eigenmittel/eigenmittel/AsciiDigitsAllDigitsPinLaw", "digitAt", "(JI)J"⟩ : MethodName)) hown (hw _ (List.mem_of_getElem? (i := 16) rfl)) (hw _ (List.mem_of_getElem? (i := 17) rfl)) (hw _ (List.mem_of_getElem? (i := 2) rfl)) (hw _ (List.mem_of_getElem? (i := 18) rfl)) (by decide) (rm4 l Z a0 hw [] x0 (7 : Int32) h0) (by decide) (by decide) rfl rfl (Nat.zero_le _) (Nat.zero_le _) e7 (g := (mkF m 45 #[.val (.long x0), .second] [(.int (7 : Int32)), (.long x0), (.long (((((((f4 x0 (0 : Int32)) ||| (f4 x0 (1 : Int32))) ||| (f4 x0 (2 : Int32))) ||| (f4 x0 (3 : Int32))) ||| (f4 x0 (4 : Int32))) ||| (f4 x0 (5 : Int32))) ||| (f4 x0 (6 : Int32))))])) rfl (by rw [hml]; rfl) (argsL := [(.long x0), (.int (7 : Int32))]) (rest := [(.long (((((((f4 x0 (0 : Int32)) ||| (f4 x0 (1 : Int32))) ||| (f4 x0 (2 : Int32))) ||| (f4 x0 (3 : Int32))) ||| (f4 x0 (4 : Int32))) ||| (f4 x0 (5 : Int32))) ||| (f4 x0 (6 : Int32))))]) (lenOf pd4 rfl) rfl (by show 2 * 0 + _ ≤ _; exact Nat.le_of_eq rfl) (hb hby d3_45)
  refine OwnOut.go (fun t k => st8 _ k) ?_
  show OwnOut p e s below 0 0 _ (T8.setTop (mkF m 48 #[.val (.long x0), .second] [(.long (f4 x0 (7 : Int32))), (.long (((((((f4 x0 (0 : Int32)) ||| (f4 x0 (1 : Int32))) ||| (f4 x0 (2 : Int32))) ||| (f4 x0 (3 : Int32))) ||| (f4 x0 (4 : Int32))) ||| (f4 x0 (5 : Int32))) ||| (f4 x0 (6 : Int32))))]))
  refine OwnOut.go (fun t k => XS.lor X8.here hx rfl (hb hby d3_48) rfl k) ?_
  show OwnOut p e s below 0 0 _ (T8.setTop (mkF m 49 #[.val (.long x0), .second] [(.long ((((((((f4 x0 (0 : Int32)) ||| (f4 x0 (1 : Int32))) ||| (f4 x0 (2 : Int32))) ||| (f4 x0 (3 : Int32))) ||| (f4 x0 (4 : Int32))) ||| (f4 x0 (5 : Int32))) ||| (f4 x0 (6 : Int32))) ||| (f4 x0 (7 : Int32))))]))
  exact outJ X8 hx hret (hb hby d3_49) hlk (by decide) (by decide) ⟨rfl, e8, rfl⟩
set_option maxRecDepth 65536 in
set_option maxHeartbeats 40000000 in
theorem rm3 (l : Launch) (Z : State) (a0 : Array Value) (hw : ∀ d ∈ tables_1, d.before a0 Z = true) (ws : List Jvm.Cond) (x0 : Int64) (h0 : Heap) :
    MetFree l (⟨"com/example/eigenmittel/eigenmittel/AsciiDigitsAllDigitsPinLaw", "digitWord", "(J)J"⟩ : MethodName) (head1 (Jvm.Cond.code (⟨"com/example/eigenmittel/eigenmittel/AsciiDigitsAllDigitsPinLaw", "digitWord", "(J)J"⟩ : MethodName) method_4_code 2 (some .long) :: ws) rx3) (fun a U => a = #[(.long x0)] ∧ Z.Warmed39 U.vm ∧ U.heap = h0) (fun _ _ _ _ _ => True) (fun _ U o U' => ∃ v L, o = .returned v ∧ QP h0 (some (.long (f3 x0))) v U'.heap L ∧ FrameEnd U o U' L rx3.cells rx3.slots) := by
  refine MetFree.of_bodySF (plainFor_of_name pn3) hisR ?_
  intro p e s m args below meth c s₁ Bd hml0 hP hK
  obtain ⟨rfl, hZ, hh⟩ := hP
  have X0 : Stand p l e rx3 s m #[(.long x0)] below meth c s₁ [] 0 0 := Stand.of_body Bd
  have e0 : s₁.heap = h0 := by rw [← hh, Bd.state]; rfl
  exact OwnOut.at (ef3 m x0) (w3_0 x0 X0 ⟨Bd.exec, hZ, hw, Bd.bytes, hml0, findClass_of_methodNamed Bd.named, Bd.returns, Bd.notSynchronized, (name_of_methodNamed Bd.named Bd.method).1⟩ e0)
-- body 0: com/example/eigenmittel/eigenmittel/AsciiDigitsAllDigitsPinLaw.law:(JJI)Z
theorem pn0 : plainName "com/example/eigenmittel/eigenmittel/AsciiDigitsAllDigitsPinLaw" = true := by first | (simp [plainName, overriddenIn]; done) | decide +kernel
theorem pd0 : parseMethodDescriptor "(JJI)Z" = some ⟨[.long, .long, .int], some .boolean⟩ := by decide +kernel
theorem ef0 (m : MethodId) (x0 : Int64) (x2 : Int64) (x4 : Int32) : entryFrame m #[(.long x0), (.long x2), (.int x4)] maxLocals = mkF m 0 #[.val (.long x0), .second, .val (.long x2), .second, .val (.int x4), .unset, .unset, .unset, .unset, .unset, .unset, .unset] [] := by first | (simp [entryFrame, mkF, argsToLocals, Value.category, maxLocals]; done) | rfl
abbrev Cx0 (Z : State) (a0 : Array Value) (p : Program) (s : State) (m : MethodId) (meth : Method) (c : Code) : Prop := p.tables.exec = Jvm.exec ∧ Z.Warmed39 s.vm ∧ (∀ d ∈ tables_1, d.before a0 Z = true) ∧ c.code = code ∧ c.maxLocals = 12 ∧ s.vm.findClass "com/example/eigenmittel/eigenmittel/AsciiDigitsAllDigitsPinLaw" = some m.cls ∧ meth.sig.returnType = (some .boolean) ∧ meth.locks = false ∧ meth.name = "law"
def f0_155 (x5 : Int64) (y0 : Int32) : Int32 := (if (f2 x5) = y0 then (1 : Int32) else (0 : Int32))
set_option maxRecDepth 65536 in
set_option maxHeartbeats 40000000 in
theorem w0_155 {p : Program} {l : Launch} {e : Env} {s : State} {m : MethodId} {args : Array Value} {below : List Frame} {meth : Method} {c : Code} {T Z : State} {a0 : Array Value} {h0 : Heap} (x0 : Int64) (x2 : Int64) (x4 : Int32) (x5 : Int64) (x7 : Int32) (y0 : Int32)
    (X0 : Stand p l e room_1 s m args below meth c T [] 0 0) (C : Cx0 Z a0 p s m meth c) (e0 : T.heap = h0) :
    OwnOut p e s below 0 0 (QP h0 (some (.int (f0_155 x5 y0)))) (T.setTop (mkF m 155 #[.val (.long x0), .second, .val (.long x2), .second, .val (.int x4), .val (.long x5), .second, .val (.int x7), .unset, .unset, .unset, .unset] [(.int y0)])) := by
  obtain ⟨hx, hZ, hw, hby, hml, hown, hret, hlk, hnm⟩ := C
  rw [f0_155]
  refine OwnOut.go (fun t k => XS.istore X0.here hx rfl (hb hby at_155) rfl (l' := #[.val (.long x0), .second, .val (.long x2), .second, .val (.int x4), .val (.long x5), .second, .val (.int x7), .val (.int y0), .unset, .unset, .unset]) rfl k) ?_
  show OwnOut p e s below 0 0 _ (T.setTop (mkF m 157 #[.val (.long x0), .second, .val (.long x2), .second, .val (.int x4), .val (.long x5), .second, .val (.int x7), .val (.int y0), .unset, .unset, .unset] []))
  refine OwnOut.go (fun t k => XS.lload X0.here hx rfl (hb hby at_157) rfl k) ?_
  show OwnOut p e s below 0 0 _ (T.setTop (mkF m 159 #[.val (.long x0), .second, .val (.long x2), .second, .val (.int x4), .val (.long x5), .second, .val (.int x7), .val (.int y0), .unset, .unset, .unset] [(.long x5)]))
  obtain ⟨T1, X1, e1, st1⟩ := callP (W := 0) (rm := rx2) X0 hx hZ (y := (⟨"com/example/eigenmittel/eigenmittel/AsciiDigits", "allDigits", "(J)Z"⟩ : MethodName)) hown (hw _ (List.mem_of_getElem? (i := 6) rfl)) (hw _ (List.mem_of_getElem? (i := 7) rfl)) (hw _ (List.mem_of_getElem? (i := 8) rfl)) (hw _ (List.mem_of_getElem? (i := 9) rfl)) (by decide) (rm2 l Z a0 hw [] x5 h0) (by decide) (by decide) rfl rfl (Nat.zero_le _) (Nat.zero_le _) e0 (g := (mkF m 159 #[.val (.long x0), .second, .val (.long x2), .second, .val (.int x4), .val (.long x5), .second, .val (.int x7), .val (.int y0), .unset, .unset, .unset] [(.long x5)])) rfl (by rw [hml]; rfl) (argsL := [(.long x5)]) (rest := []) (lenOf pd2 rfl) rfl (by show 2 * 0 + _ ≤ _; exact Nat.le_of_eq rfl) (hb hby at_159)
  refine OwnOut.go (fun t k => st1 _ k) ?_
  show OwnOut p e s below 0 0 _ (T1.setTop (mkF m 162 #[.val (.long x0), .second, .val (.long x2), .second, .val (.int x4), .val (.long x5), .second, .val (.int x7), .val (.int y0), .unset, .unset, .unset] [(.int (f2 x5))]))
  refine OwnOut.go (fun t k => XS.iload X1.here hx rfl (hb hby at_162) rfl k) ?_
  show OwnOut p e s below 0 0 _ (T1.setTop (mkF m 164 #[.val (.long x0), .second, .val (.long x2), .second, .val (.int x4), .val (.long x5), .second, .val (.int x7), .val (.int y0), .unset, .unset, .unset] [(.int y0), (.int (f2 x5))]))
  by_cases hc164 : (f2 x5) = y0
  · rw [if_pos hc164]
    refine OwnOut.go (fun t k => XS.icmpNo X1.here hx rfl (hb hby at_164) rfl (XT.ii_ne_f hc164) k) ?_
    show OwnOut p e s below 0 0 _ (T1.setTop (mkF m 167 #[.val (.long x0), .second, .val (.long x2), .second, .val (.int x4), .val (.long x5), .second, .val (.int x7), .val (.int y0), .unset, .unset, .unset] []))
    refine OwnOut.go (fun t k => XT.iconstV X1.here hx rfl (1 : Int32) (hb hby at_167) rfl k) ?_
    show OwnOut p e s below 0 0 _ (T1.setTop (mkF m 168 #[.val (.long x0), .second, .val (.long x2), .second, .val (.int x4), .val (.long x5), .second, .val (.int x7), .val (.int y0), .unset, .unset, .unset] [(.int (1 : Int32))]))
    refine OwnOut.go (fun t k => XS.goto X1.here hx rfl (pc0 := 168) (pc' := 172) rfl (hb hby at_168) (by decide) (by decide) k) ?_
    show OwnOut p e s below 0 0 _ (T1.setTop (mkF m 172 #[.val (.long x0), .second, .val (.long x2), .second, .val (.int x4), .val (.long x5), .second, .val (.int x7), .val (.int y0), .unset, .unset, .unset] [(.int (1 : Int32))]))
    exact outZ X1 hx hret (hb hby at_172) hlk (by decide) (by decide) ⟨rfl, e1, rfl⟩
  · rw [if_neg hc164]
    refine OwnOut.go (fun t k => XS.icmpYes X1.here hx rfl (pc0 := 164) (pc' := 171) rfl (hb hby at_164) rfl (XT.ii_ne_t hc164) (by decide) (by decide) k) ?_
    show OwnOut p e s below 0 0 _ (T1.setTop (mkF m 171 #[.val (.long x0), .second, .val (.long x2), .second, .val (.int x4), .val (.long x5), .second, .val (.int x7), .val (.int y0), .unset, .unset, .unset] []))
    refine OwnOut.go (fun t k => XT.iconstV X1.here hx rfl (0 : Int32) (hb hby at_171) rfl k) ?_
    show OwnOut p e s below 0 0 _ (T1.setTop (mkF m 172 #[.val (.long x0), .second, .val (.long x2), .second, .val (.int x4), .val (.long x5), .second, .val (.int x7), .val (.int y0), .unset, .unset, .unset] [(.int (0 : Int32))]))
    exact outZ X1 hx hret (hb hby at_172) hlk (by decide) (by decide) ⟨rfl, e1, rfl⟩
set_option maxRecDepth 65536 in
set_option maxHeartbeats 40000000 in
theorem w0_155a {p : Program} {l : Launch} {e : Env} {s : State} {m : MethodId} {args : Array Value} {below : List Frame} {meth : Method} {c : Code} {T Z : State} {a0 : Array Value} {h0 : Heap} (x0 : Int64) (x2 : Int64) (x4 : Int32) (x5 : Int64) (x7 : Int32) (x8 : Int64) (y0 : Int32)
    (X0 : Stand p l e room_1 s m args below meth c T [] 0 0) (C : Cx0 Z a0 p s m meth c) (e0 : T.heap = h0) :
    OwnOut p e s below 0 0 (QP h0 (some (.int (f0_155 x5 y0)))) (T.setTop (mkF m 155 #[.val (.long x0), .second, .val (.long x2), .second, .val (.int x4), .val (.long x5), .second, .val (.int x7), .val (.long x8), .second, .unset, .unset] [(.int y0)])) := by
  obtain ⟨hx, hZ, hw, hby, hml, hown, hret, hlk, hnm⟩ := C
  rw [f0_155]
  refine OwnOut.go (fun t k => XS.istore X0.here hx rfl (hb hby at_155) rfl (l' := #[.val (.long x0), .second, .val (.long x2), .second, .val (.int x4), .val (.long x5), .second, .val (.int x7), .val (.int y0), .unset, .unset, .unset]) rfl k) ?_
  show OwnOut p e s below 0 0 _ (T.setTop (mkF m 157 #[.val (.long x0), .second, .val (.long x2), .second, .val (.int x4), .val (.long x5), .second, .val (.int x7), .val (.int y0), .unset, .unset, .unset] []))
  refine OwnOut.go (fun t k => XS.lload X0.here hx rfl (hb hby at_157) rfl k) ?_
  show OwnOut p e s below 0 0 _ (T.setTop (mkF m 159 #[.val (.long x0), .second, .val (.long x2), .second, .val (.int x4), .val (.long x5), .second, .val (.int x7), .val (.int y0), .unset, .unset, .unset] [(.long x5)]))
  obtain ⟨T2, X2, e2, st2⟩ := callP (W := 0) (rm := rx2) X0 hx hZ (y := (⟨"com/example/eigenmittel/eigenmittel/AsciiDigits", "allDigits", "(J)Z"⟩ : MethodName)) hown (hw _ (List.mem_of_getElem? (i := 6) rfl)) (hw _ (List.mem_of_getElem? (i := 7) rfl)) (hw _ (List.mem_of_getElem? (i := 8) rfl)) (hw _ (List.mem_of_getElem? (i := 9) rfl)) (by decide) (rm2 l Z a0 hw [] x5 h0) (by decide) (by decide) rfl rfl (Nat.zero_le _) (Nat.zero_le _) e0 (g := (mkF m 159 #[.val (.long x0), .second, .val (.long x2), .second, .val (.int x4), .val (.long x5), .second, .val (.int x7), .val (.int y0), .unset, .unset, .unset] [(.long x5)])) rfl (by rw [hml]; rfl) (argsL := [(.long x5)]) (rest := []) (lenOf pd2 rfl) rfl (by show 2 * 0 + _ ≤ _; exact Nat.le_of_eq rfl) (hb hby at_159)
  refine OwnOut.go (fun t k => st2 _ k) ?_
  show OwnOut p e s below 0 0 _ (T2.setTop (mkF m 162 #[.val (.long x0), .second, .val (.long x2), .second, .val (.int x4), .val (.long x5), .second, .val (.int x7), .val (.int y0), .unset, .unset, .unset] [(.int (f2 x5))]))
  refine OwnOut.go (fun t k => XS.iload X2.here hx rfl (hb hby at_162) rfl k) ?_
  show OwnOut p e s below 0 0 _ (T2.setTop (mkF m 164 #[.val (.long x0), .second, .val (.long x2), .second, .val (.int x4), .val (.long x5), .second, .val (.int x7), .val (.int y0), .unset, .unset, .unset] [(.int y0), (.int (f2 x5))]))
  by_cases hc164 : (f2 x5) = y0
  · rw [if_pos hc164]
    refine OwnOut.go (fun t k => XS.icmpNo X2.here hx rfl (hb hby at_164) rfl (XT.ii_ne_f hc164) k) ?_
    show OwnOut p e s below 0 0 _ (T2.setTop (mkF m 167 #[.val (.long x0), .second, .val (.long x2), .second, .val (.int x4), .val (.long x5), .second, .val (.int x7), .val (.int y0), .unset, .unset, .unset] []))
    refine OwnOut.go (fun t k => XT.iconstV X2.here hx rfl (1 : Int32) (hb hby at_167) rfl k) ?_
    show OwnOut p e s below 0 0 _ (T2.setTop (mkF m 168 #[.val (.long x0), .second, .val (.long x2), .second, .val (.int x4), .val (.long x5), .second, .val (.int x7), .val (.int y0), .unset, .unset, .unset] [(.int (1 : Int32))]))
    refine OwnOut.go (fun t k => XS.goto X2.here hx rfl (pc0 := 168) (pc' := 172) rfl (hb hby at_168) (by decide) (by decide) k) ?_
    show OwnOut p e s below 0 0 _ (T2.setTop (mkF m 172 #[.val (.long x0), .second, .val (.long x2), .second, .val (.int x4), .val (.long x5), .second, .val (.int x7), .val (.int y0), .unset, .unset, .unset] [(.int (1 : Int32))]))
    exact outZ X2 hx hret (hb hby at_172) hlk (by decide) (by decide) ⟨rfl, e2, rfl⟩
  · rw [if_neg hc164]
    refine OwnOut.go (fun t k => XS.icmpYes X2.here hx rfl (pc0 := 164) (pc' := 171) rfl (hb hby at_164) rfl (XT.ii_ne_t hc164) (by decide) (by decide) k) ?_
    show OwnOut p e s below 0 0 _ (T2.setTop (mkF m 171 #[.val (.long x0), .second, .val (.long x2), .second, .val (.int x4), .val (.long x5), .second, .val (.int x7), .val (.int y0), .unset, .unset, .unset] []))
    refine OwnOut.go (fun t k => XT.iconstV X2.here hx rfl (0 : Int32) (hb hby at_171) rfl k) ?_
    show OwnOut p e s below 0 0 _ (T2.setTop (mkF m 172 #[.val (.long x0), .second, .val (.long x2), .second, .val (.int x4), .val (.long x5), .second, .val (.int x7), .val (.int y0), .unset, .unset, .unset] [(.int (0 : Int32))]))
    exact outZ X2 hx hret (hb hby at_172) hlk (by decide) (by decide) ⟨rfl, e2, rfl⟩
set_option maxRecDepth 65536 in
set_option maxHeartbeats 40000000 in
theorem w0_155b {p : Program} {l : Launch} {e : Env} {s : State} {m : MethodId} {args : Array Value} {below : List Frame} {meth : Method} {c : Code} {T Z : State} {a0 : Array Value} {h0 : Heap} (x0 : Int64) (x2 : Int64) (x4 : Int32) (x5 : Int64) (x7 : Int32) (x8 : Int64) (x10 : Int32) (x11 : Int32) (y0 : Int32)
    (X0 : Stand p l e room_1 s m args below meth c T [] 0 0) (C : Cx0 Z a0 p s m meth c) (e0 : T.heap = h0) :
    OwnOut p e s below 0 0 (QP h0 (some (.int (f0_155 x5 y0)))) (T.setTop (mkF m 155 #[.val (.long x0), .second, .val (.long x2), .second, .val (.int x4), .val (.long x5), .second, .val (.int x7), .val (.long x8), .second, .val (.int x10), .val (.int x11)] [(.int y0)])) := by
  obtain ⟨hx, hZ, hw, hby, hml, hown, hret, hlk, hnm⟩ := C
  rw [f0_155]
  refine OwnOut.go (fun t k => XS.istore X0.here hx rfl (hb hby at_155) rfl (l' := #[.val (.long x0), .second, .val (.long x2), .second, .val (.int x4), .val (.long x5), .second, .val (.int x7), .val (.int y0), .unset, .val (.int x10), .val (.int x11)]) rfl k) ?_
  show OwnOut p e s below 0 0 _ (T.setTop (mkF m 157 #[.val (.long x0), .second, .val (.long x2), .second, .val (.int x4), .val (.long x5), .second, .val (.int x7), .val (.int y0), .unset, .val (.int x10), .val (.int x11)] []))
  refine OwnOut.go (fun t k => XS.lload X0.here hx rfl (hb hby at_157) rfl k) ?_
  show OwnOut p e s below 0 0 _ (T.setTop (mkF m 159 #[.val (.long x0), .second, .val (.long x2), .second, .val (.int x4), .val (.long x5), .second, .val (.int x7), .val (.int y0), .unset, .val (.int x10), .val (.int x11)] [(.long x5)]))
  obtain ⟨T3, X3, e3, st3⟩ := callP (W := 0) (rm := rx2) X0 hx hZ (y := (⟨"com/example/eigenmittel/eigenmittel/AsciiDigits", "allDigits", "(J)Z"⟩ : MethodName)) hown (hw _ (List.mem_of_getElem? (i := 6) rfl)) (hw _ (List.mem_of_getElem? (i := 7) rfl)) (hw _ (List.mem_of_getElem? (i := 8) rfl)) (hw _ (List.mem_of_getElem? (i := 9) rfl)) (by decide) (rm2 l Z a0 hw [] x5 h0) (by decide) (by decide) rfl rfl (Nat.zero_le _) (Nat.zero_le _) e0 (g := (mkF m 159 #[.val (.long x0), .second, .val (.long x2), .second, .val (.int x4), .val (.long x5), .second, .val (.int x7), .val (.int y0), .unset, .val (.int x10), .val (.int x11)] [(.long x5)])) rfl (by rw [hml]; rfl) (argsL := [(.long x5)]) (rest := []) (lenOf pd2 rfl) rfl (by show 2 * 0 + _ ≤ _; exact Nat.le_of_eq rfl) (hb hby at_159)
  refine OwnOut.go (fun t k => st3 _ k) ?_
  show OwnOut p e s below 0 0 _ (T3.setTop (mkF m 162 #[.val (.long x0), .second, .val (.long x2), .second, .val (.int x4), .val (.long x5), .second, .val (.int x7), .val (.int y0), .unset, .val (.int x10), .val (.int x11)] [(.int (f2 x5))]))
  refine OwnOut.go (fun t k => XS.iload X3.here hx rfl (hb hby at_162) rfl k) ?_
  show OwnOut p e s below 0 0 _ (T3.setTop (mkF m 164 #[.val (.long x0), .second, .val (.long x2), .second, .val (.int x4), .val (.long x5), .second, .val (.int x7), .val (.int y0), .unset, .val (.int x10), .val (.int x11)] [(.int y0), (.int (f2 x5))]))
  by_cases hc164 : (f2 x5) = y0
  · rw [if_pos hc164]
    refine OwnOut.go (fun t k => XS.icmpNo X3.here hx rfl (hb hby at_164) rfl (XT.ii_ne_f hc164) k) ?_
    show OwnOut p e s below 0 0 _ (T3.setTop (mkF m 167 #[.val (.long x0), .second, .val (.long x2), .second, .val (.int x4), .val (.long x5), .second, .val (.int x7), .val (.int y0), .unset, .val (.int x10), .val (.int x11)] []))
    refine OwnOut.go (fun t k => XT.iconstV X3.here hx rfl (1 : Int32) (hb hby at_167) rfl k) ?_
    show OwnOut p e s below 0 0 _ (T3.setTop (mkF m 168 #[.val (.long x0), .second, .val (.long x2), .second, .val (.int x4), .val (.long x5), .second, .val (.int x7), .val (.int y0), .unset, .val (.int x10), .val (.int x11)] [(.int (1 : Int32))]))
    refine OwnOut.go (fun t k => XS.goto X3.here hx rfl (pc0 := 168) (pc' := 172) rfl (hb hby at_168) (by decide) (by decide) k) ?_
    show OwnOut p e s below 0 0 _ (T3.setTop (mkF m 172 #[.val (.long x0), .second, .val (.long x2), .second, .val (.int x4), .val (.long x5), .second, .val (.int x7), .val (.int y0), .unset, .val (.int x10), .val (.int x11)] [(.int (1 : Int32))]))
    exact outZ X3 hx hret (hb hby at_172) hlk (by decide) (by decide) ⟨rfl, e3, rfl⟩
  · rw [if_neg hc164]
    refine OwnOut.go (fun t k => XS.icmpYes X3.here hx rfl (pc0 := 164) (pc' := 171) rfl (hb hby at_164) rfl (XT.ii_ne_t hc164) (by decide) (by decide) k) ?_
    show OwnOut p e s below 0 0 _ (T3.setTop (mkF m 171 #[.val (.long x0), .second, .val (.long x2), .second, .val (.int x4), .val (.long x5), .second, .val (.int x7), .val (.int y0), .unset, .val (.int x10), .val (.int x11)] []))
    refine OwnOut.go (fun t k => XT.iconstV X3.here hx rfl (0 : Int32) (hb hby at_171) rfl k) ?_
    show OwnOut p e s below 0 0 _ (T3.setTop (mkF m 172 #[.val (.long x0), .second, .val (.long x2), .second, .val (.int x4), .val (.long x5), .second, .val (.int x7), .val (.int y0), .unset, .val (.int x10), .val (.int x11)] [(.int (0 : Int32))]))
    exact outZ X3 hx hret (hb hby at_172) hlk (by decide) (by decide) ⟨rfl, e3, rfl⟩
def f0_154 (x5 : Int64) : Int32 := (f0_155 x5 (0 : Int32))
set_option maxRecDepth 65536 in
set_option maxHeartbeats 40000000 in
theorem w0_154 {p : Program} {l : Launch} {e : Env} {s : State} {m : MethodId} {args : Array Value} {below : List Frame} {meth : Method} {c : Code} {T Z : State} {a0 : Array Value} {h0 : Heap} (x0 : Int64) (x2 : Int64) (x4 : Int32) (x5 : Int64) (x7 : Int32)
    (X0 : Stand p l e room_1 s m args below meth c T [] 0 0) (C : Cx0 Z a0 p s m meth c) (e0 : T.heap = h0) :
    OwnOut p e s below 0 0 (QP h0 (some (.int (f0_154 x5)))) (T.setTop (mkF m 154 #[.val (.long x0), .second, .val (.long x2), .second, .val (.int x4), .val (.long x5), .second, .val (.int x7), .unset, .unset, .unset, .unset] [])) := by
  obtain ⟨hx, hZ, hw, hby, hml, hown, hret, hlk, hnm⟩ := C
  rw [f0_154]
  refine OwnOut.go (fun t k => XT.iconstV X0.here hx rfl (0 : Int32) (hb hby at_154) rfl k) ?_
  show OwnOut p e s below 0 0 _ (T.setTop (mkF m 155 #[.val (.long x0), .second, .val (.long x2), .second, .val (.int x4), .val (.long x5), .second, .val (.int x7), .unset, .unset, .unset, .unset] [(.int (0 : Int32))]))
  exact w0_155 x0 x2 x4 x5 x7 (0 : Int32) X0 ⟨hx, hZ, hw, hby, hml, hown, hret, hlk, hnm⟩ e0
set_option maxRecDepth 65536 in
set_option maxHeartbeats 40000000 in
theorem w0_154a {p : Program} {l : Launch} {e : Env} {s : State} {m : MethodId} {args : Array Value} {below : List Frame} {meth : Method} {c : Code} {T Z : State} {a0 : Array Value} {h0 : Heap} (x0 : Int64) (x2 : Int64) (x4 : Int32) (x5 : Int64) (x7 : Int32) (x8 : Int64)
    (X0 : Stand p l e room_1 s m args below meth c T [] 0 0) (C : Cx0 Z a0 p s m meth c) (e0 : T.heap = h0) :
    OwnOut p e s below 0 0 (QP h0 (some (.int (f0_154 x5)))) (T.setTop (mkF m 154 #[.val (.long x0), .second, .val (.long x2), .second, .val (.int x4), .val (.long x5), .second, .val (.int x7), .val (.long x8), .second, .unset, .unset] [])) := by
  obtain ⟨hx, hZ, hw, hby, hml, hown, hret, hlk, hnm⟩ := C
  rw [f0_154]
  refine OwnOut.go (fun t k => XT.iconstV X0.here hx rfl (0 : Int32) (hb hby at_154) rfl k) ?_
  show OwnOut p e s below 0 0 _ (T.setTop (mkF m 155 #[.val (.long x0), .second, .val (.long x2), .second, .val (.int x4), .val (.long x5), .second, .val (.int x7), .val (.long x8), .second, .unset, .unset] [(.int (0 : Int32))]))
  exact w0_155a x0 x2 x4 x5 x7 x8 (0 : Int32) X0 ⟨hx, hZ, hw, hby, hml, hown, hret, hlk, hnm⟩ e0
set_option maxRecDepth 65536 in
set_option maxHeartbeats 40000000 in
theorem w0_154b {p : Program} {l : Launch} {e : Env} {s : State} {m : MethodId} {args : Array Value} {below : List Frame} {meth : Method} {c : Code} {T Z : State} {a0 : Array Value} {h0 : Heap} (x0 : Int64) (x2 : Int64) (x4 : Int32) (x5 : Int64) (x7 : Int32) (x8 : Int64) (x10 : Int32) (x11 : Int32)
    (X0 : Stand p l e room_1 s m args below meth c T [] 0 0) (C : Cx0 Z a0 p s m meth c) (e0 : T.heap = h0) :
    OwnOut p e s below 0 0 (QP h0 (some (.int (f0_154 x5)))) (T.setTop (mkF m 154 #[.val (.long x0), .second, .val (.long x2), .second, .val (.int x4), .val (.long x5), .second, .val (.int x7), .val (.long x8), .second, .val (.int x10), .val (.int x11)] [])) := by
  obtain ⟨hx, hZ, hw, hby, hml, hown, hret, hlk, hnm⟩ := C
  rw [f0_154]
  refine OwnOut.go (fun t k => XT.iconstV X0.here hx rfl (0 : Int32) (hb hby at_154) rfl k) ?_
  show OwnOut p e s below 0 0 _ (T.setTop (mkF m 155 #[.val (.long x0), .second, .val (.long x2), .second, .val (.int x4), .val (.long x5), .second, .val (.int x7), .val (.long x8), .second, .val (.int x10), .val (.int x11)] [(.int (0 : Int32))]))
  exact w0_155b x0 x2 x4 x5 x7 x8 x10 x11 (0 : Int32) X0 ⟨hx, hZ, hw, hby, hml, hown, hret, hlk, hnm⟩ e0
def f0_76 (x5 : Int64) : Int32 := (if (f1 x5 (0 : Int32)) = (0 : Int32) then (f0_154 x5) else (if (f1 x5 (1 : Int32)) = (0 : Int32) then (f0_154 x5) else (if (f1 x5 (2 : Int32)) = (0 : Int32) then (f0_154 x5) else (if (f1 x5 (3 : Int32)) = (0 : Int32) then (f0_154 x5) else (if (f1 x5 (4 : Int32)) = (0 : Int32) then (f0_154 x5) else (if (f1 x5 (5 : Int32)) = (0 : Int32) then (f0_154 x5) else (if (f1 x5 (6 : Int32)) = (0 : Int32) then (f0_154 x5) else (if (f1 x5 (7 : Int32)) = (0 : Int32) then (f0_154 x5) else (f0_155 x5 (1 : Int32))))))))))
set_option maxRecDepth 65536 in
set_option maxHeartbeats 40000000 in
theorem w0_76 {p : Program} {l : Launch} {e : Env} {s : State} {m : MethodId} {args : Array Value} {below : List Frame} {meth : Method} {c : Code} {T Z : State} {a0 : Array Value} {h0 : Heap} (x0 : Int64) (x2 : Int64) (x4 : Int32) (x5 : Int64) (x7 : Int32)
    (X0 : Stand p l e room_1 s m args below meth c T [] 0 0) (C : Cx0 Z a0 p s m meth c) (e0 : T.heap = h0) :
    OwnOut p e s below 0 0 (QP h0 (some (.int (f0_76 x5)))) (T.setTop (mkF m 76 #[.val (.long x0), .second, .val (.long x2), .second, .val (.int x4), .val (.long x5), .second, .val (.int x7), .unset, .unset, .unset, .unset] [])) := by
  obtain ⟨hx, hZ, hw, hby, hml, hown, hret, hlk, hnm⟩ := C
  rw [f0_76]
  refine OwnOut.go (fun t k => XS.lload X0.here hx rfl (hb hby at_76) rfl k) ?_
  show OwnOut p e s below 0 0 _ (T.setTop (mkF m 78 #[.val (.long x0), .second, .val (.long x2), .second, .val (.int x4), .val (.long x5), .second, .val (.int x7), .unset, .unset, .unset, .unset] [(.long x5)]))
  refine OwnOut.go (fun t k => XT.iconstV X0.here hx rfl (0 : Int32) (hb hby at_78) rfl k) ?_
  show OwnOut p e s below 0 0 _ (T.setTop (mkF m 79 #[.val (.long x0), .second, .val (.long x2), .second, .val (.int x4), .val (.long x5), .second, .val (.int x7), .unset, .unset, .unset, .unset] [(.int (0 : Int32)), (.long x5)]))
  obtain ⟨T4, X4, e4, st4⟩ := callP (W := 0) (rm := rx1) X0 hx hZ (y := (⟨"com/example/eigenmittel/eigenmittel/AsciiDigitsAllDigitsPinLaw", "isDigitByte", "(JI)Z"⟩ : MethodName)) hown (hw _ (List.mem_of_getElem? (i := 0) rfl)) (hw _ (List.mem_of_getElem? (i := 1) rfl)) (hw _ (List.mem_of_getElem? (i := 2) rfl)) (hw _ (List.mem_of_getElem? (i := 3) rfl)) (by decide) (rm1 l Z a0 hw [] x5 (0 : Int32) h0) (by decide) (by decide) rfl rfl (Nat.zero_le _) (Nat.zero_le _) e0 (g := (mkF m 79 #[.val (.long x0), .second, .val (.long x2), .second, .val (.int x4), .val (.long x5), .second, .val (.int x7), .unset, .unset, .unset, .unset] [(.int (0 : Int32)), (.long x5)])) rfl (by rw [hml]; rfl) (argsL := [(.long x5), (.int (0 : Int32))]) (rest := []) (lenOf pd1 rfl) rfl (by show 2 * 0 + _ ≤ _; exact Nat.le_of_eq rfl) (hb hby at_79)
  refine OwnOut.go (fun t k => st4 _ k) ?_
  show OwnOut p e s below 0 0 _ (T4.setTop (mkF m 82 #[.val (.long x0), .second, .val (.long x2), .second, .val (.int x4), .val (.long x5), .second, .val (.int x7), .unset, .unset, .unset, .unset] [(.int (f1 x5 (0 : Int32)))]))
  by_cases hc82 : (f1 x5 (0 : Int32)) = (0 : Int32)
  · rw [if_pos hc82]
    refine OwnOut.go (fun t k => XS.ifYes X4.here hx rfl (pc0 := 82) (pc' := 154) rfl (hb hby at_82) rfl (XT.i0_eq_t hc82) (by decide) (by decide) k) ?_
    show OwnOut p e s below 0 0 _ (T4.setTop (mkF m 154 #[.val (.long x0), .second, .val (.long x2), .second, .val (.int x4), .val (.long x5), .second, .val (.int x7), .unset, .unset, .unset, .unset] []))
    exact w0_154 x0 x2 x4 x5 x7 X4 ⟨hx, hZ, hw, hby, hml, hown, hret, hlk, hnm⟩ e4
  · rw [if_neg hc82]
    refine OwnOut.go (fun t k => XS.ifNo X4.here hx rfl (hb hby at_82) rfl (XT.i0_eq_f hc82) k) ?_
    show OwnOut p e s below 0 0 _ (T4.setTop (mkF m 85 #[.val (.long x0), .second, .val (.long x2), .second, .val (.int x4), .val (.long x5), .second, .val (.int x7), .unset, .unset, .unset, .unset] []))
    refine OwnOut.go (fun t k => XS.lload X4.here hx rfl (hb hby at_85) rfl k) ?_
    show OwnOut p e s below 0 0 _ (T4.setTop (mkF m 87 #[.val (.long x0), .second, .val (.long x2), .second, .val (.int x4), .val (.long x5), .second, .val (.int x7), .unset, .unset, .unset, .unset] [(.long x5)]))
    refine OwnOut.go (fun t k => XT.iconstV X4.here hx rfl (1 : Int32) (hb hby at_87) rfl k) ?_
    show OwnOut p e s below 0 0 _ (T4.setTop (mkF m 88 #[.val (.long x0), .second, .val (.long x2), .second, .val (.int x4), .val (.long x5), .second, .val (.int x7), .unset, .unset, .unset, .unset] [(.int (1 : Int32)), (.long x5)]))
    obtain ⟨T5, X5, e5, st5⟩ := callP (W := 0) (rm := rx1) X4 hx hZ (y := (⟨"com/example/eigenmittel/eigenmittel/AsciiDigitsAllDigitsPinLaw", "isDigitByte", "(JI)Z"⟩ : MethodName)) hown (hw _ (List.mem_of_getElem? (i := 0) rfl)) (hw _ (List.mem_of_getElem? (i := 1) rfl)) (hw _ (List.mem_of_getElem? (i := 2) rfl)) (hw _ (List.mem_of_getElem? (i := 3) rfl)) (by decide) (rm1 l Z a0 hw [] x5 (1 : Int32) h0) (by decide) (by decide) rfl rfl (Nat.zero_le _) (Nat.zero_le _) e4 (g := (mkF m 88 #[.val (.long x0), .second, .val (.long x2), .second, .val (.int x4), .val (.long x5), .second, .val (.int x7), .unset, .unset, .unset, .unset] [(.int (1 : Int32)), (.long x5)])) rfl (by rw [hml]; rfl) (argsL := [(.long x5), (.int (1 : Int32))]) (rest := []) (lenOf pd1 rfl) rfl (by show 2 * 0 + _ ≤ _; exact Nat.le_of_eq rfl) (hb hby at_88)
    refine OwnOut.go (fun t k => st5 _ k) ?_
    show OwnOut p e s below 0 0 _ (T5.setTop (mkF m 91 #[.val (.long x0), .second, .val (.long x2), .second, .val (.int x4), .val (.long x5), .second, .val (.int x7), .unset, .unset, .unset, .unset] [(.int (f1 x5 (1 : Int32)))]))
    by_cases hc91 : (f1 x5 (1 : Int32)) = (0 : Int32)
    · rw [if_pos hc91]
      refine OwnOut.go (fun t k => XS.ifYes X5.here hx rfl (pc0 := 91) (pc' := 154) rfl (hb hby at_91) rfl (XT.i0_eq_t hc91) (by decide) (by decide) k) ?_
      show OwnOut p e s below 0 0 _ (T5.setTop (mkF m 154 #[.val (.long x0), .second, .val (.long x2), .second, .val (.int x4), .val (.long x5), .second, .val (.int x7), .unset, .unset, .unset, .unset] []))
      exact w0_154 x0 x2 x4 x5 x7 X5 ⟨hx, hZ, hw, hby, hml, hown, hret, hlk, hnm⟩ e5
    · rw [if_neg hc91]
      refine OwnOut.go (fun t k => XS.ifNo X5.here hx rfl (hb hby at_91) rfl (XT.i0_eq_f hc91) k) ?_
      show OwnOut p e s below 0 0 _ (T5.setTop (mkF m 94 #[.val (.long x0), .second, .val (.long x2), .second, .val (.int x4), .val (.long x5), .second, .val (.int x7), .unset, .unset, .unset, .unset] []))
      refine OwnOut.go (fun t k => XS.lload X5.here hx rfl (hb hby at_94) rfl k) ?_
      show OwnOut p e s below 0 0 _ (T5.setTop (mkF m 96 #[.val (.long x0), .second, .val (.long x2), .second, .val (.int x4), .val (.long x5), .second, .val (.int x7), .unset, .unset, .unset, .unset] [(.long x5)]))
      refine OwnOut.go (fun t k => XT.iconstV X5.here hx rfl (2 : Int32) (hb hby at_96) rfl k) ?_
      show OwnOut p e s below 0 0 _ (T5.setTop (mkF m 97 #[.val (.long x0), .second, .val (.long x2), .second, .val (.int x4), .val (.long x5), .second, .val (.int x7), .unset, .unset, .unset, .unset] [(.int (2 : Int32)), (.long x5)]))
      obtain ⟨T6, X6, e6, st6⟩ := callP (W := 0) (rm := rx1) X5 hx hZ (y := (⟨"com/example/eigenmittel/eigenmittel/AsciiDigitsAllDigitsPinLaw", "isDigitByte", "(JI)Z"⟩ : MethodName)) hown (hw _ (List.mem_of_getElem? (i := 0) rfl)) (hw _ (List.mem_of_getElem? (i := 1) rfl)) (hw _ (List.mem_of_getElem? (i := 2) rfl)) (hw _ (List.mem_of_getElem? (i := 3) rfl)) (by decide) (rm1 l Z a0 hw [] x5 (2 : Int32) h0) (by decide) (by decide) rfl rfl (Nat.zero_le _) (Nat.zero_le _) e5 (g := (mkF m 97 #[.val (.long x0), .second, .val (.long x2), .second, .val (.int x4), .val (.long x5), .second, .val (.int x7), .unset, .unset, .unset, .unset] [(.int (2 : Int32)), (.long x5)])) rfl (by rw [hml]; rfl) (argsL := [(.long x5), (.int (2 : Int32))]) (rest := []) (lenOf pd1 rfl) rfl (by show 2 * 0 + _ ≤ _; exact Nat.le_of_eq rfl) (hb hby at_97)
      refine OwnOut.go (fun t k => st6 _ k) ?_
      show OwnOut p e s below 0 0 _ (T6.setTop (mkF m 100 #[.val (.long x0), .second, .val (.long x2), .second, .val (.int x4), .val (.long x5), .second, .val (.int x7), .unset, .unset, .unset, .unset] [(.int (f1 x5 (2 : Int32)))]))
      by_cases hc100 : (f1 x5 (2 : Int32)) = (0 : Int32)
      · rw [if_pos hc100]
        refine OwnOut.go (fun t k => XS.ifYes X6.here hx rfl (pc0 := 100) (pc' := 154) rfl (hb hby at_100) rfl (XT.i0_eq_t hc100) (by decide) (by decide) k) ?_
        show OwnOut p e s below 0 0 _ (T6.setTop (mkF m 154 #[.val (.long x0), .second, .val (.long x2), .second, .val (.int x4), .val (.long x5), .second, .val (.int x7), .unset, .unset, .unset, .unset] []))
        exact w0_154 x0 x2 x4 x5 x7 X6 ⟨hx, hZ, hw, hby, hml, hown, hret, hlk, hnm⟩ e6
      · rw [if_neg hc100]
        refine OwnOut.go (fun t k => XS.ifNo X6.here hx rfl (hb hby at_100) rfl (XT.i0_eq_f hc100) k) ?_
        show OwnOut p e s below 0 0 _ (T6.setTop (mkF m 103 #[.val (.long x0), .second, .val (.long x2), .second, .val (.int x4), .val (.long x5), .second, .val (.int x7), .unset, .unset, .unset, .unset] []))
        refine OwnOut.go (fun t k => XS.lload X6.here hx rfl (hb hby at_103) rfl k) ?_
        show OwnOut p e s below 0 0 _ (T6.setTop (mkF m 105 #[.val (.long x0), .second, .val (.long x2), .second, .val (.int x4), .val (.long x5), .second, .val (.int x7), .unset, .unset, .unset, .unset] [(.long x5)]))
        refine OwnOut.go (fun t k => XT.iconstV X6.here hx rfl (3 : Int32) (hb hby at_105) rfl k) ?_
        show OwnOut p e s below 0 0 _ (T6.setTop (mkF m 106 #[.val (.long x0), .second, .val (.long x2), .second, .val (.int x4), .val (.long x5), .second, .val (.int x7), .unset, .unset, .unset, .unset] [(.int (3 : Int32)), (.long x5)]))
        obtain ⟨T7, X7, e7, st7⟩ := callP (W := 0) (rm := rx1) X6 hx hZ (y := (⟨"com/example/eigenmittel/eigenmittel/AsciiDigitsAllDigitsPinLaw", "isDigitByte", "(JI)Z"⟩ : MethodName)) hown (hw _ (List.mem_of_getElem? (i := 0) rfl)) (hw _ (List.mem_of_getElem? (i := 1) rfl)) (hw _ (List.mem_of_getElem? (i := 2) rfl)) (hw _ (List.mem_of_getElem? (i := 3) rfl)) (by decide) (rm1 l Z a0 hw [] x5 (3 : Int32) h0) (by decide) (by decide) rfl rfl (Nat.zero_le _) (Nat.zero_le _) e6 (g := (mkF m 106 #[.val (.long x0), .second, .val (.long x2), .second, .val (.int x4), .val (.long x5), .second, .val (.int x7), .unset, .unset, .unset, .unset] [(.int (3 : Int32)), (.long x5)])) rfl (by rw [hml]; rfl) (argsL := [(.long x5), (.int (3 : Int32))]) (rest := []) (lenOf pd1 rfl) rfl (by show 2 * 0 + _ ≤ _; exact Nat.le_of_eq rfl) (hb hby at_106)
        refine OwnOut.go (fun t k => st7 _ k) ?_
        show OwnOut p e s below 0 0 _ (T7.setTop (mkF m 109 #[.val (.long x0), .second, .val (.long x2), .second, .val (.int x4), .val (.long x5), .second, .val (.int x7), .unset, .unset, .unset, .unset] [(.int (f1 x5 (3 : Int32)))]))
        by_cases hc109 : (f1 x5 (3 : Int32)) = (0 : Int32)
        · rw [if_pos hc109]
          refine OwnOut.go (fun t k => XS.ifYes X7.here hx rfl (pc0 := 109) (pc' := 154) rfl (hb hby at_109) rfl (XT.i0_eq_t hc109) (by decide) (by decide) k) ?_
          show OwnOut p e s below 0 0 _ (T7.setTop (mkF m 154 #[.val (.long x0), .second, .val (.long x2), .second, .val (.int x4), .val (.long x5), .second, .val (.int x7), .unset, .unset, .unset, .unset] []))
          exact w0_154 x0 x2 x4 x5 x7 X7 ⟨hx, hZ, hw, hby, hml, hown, hret, hlk, hnm⟩ e7
        · rw [if_neg hc109]
          refine OwnOut.go (fun t k => XS.ifNo X7.here hx rfl (hb hby at_109) rfl (XT.i0_eq_f hc109) k) ?_
          show OwnOut p e s below 0 0 _ (T7.setTop (mkF m 112 #[.val (.long x0), .second, .val (.long x2), .second, .val (.int x4), .val (.long x5), .second, .val (.int x7), .unset, .unset, .unset, .unset] []))
          refine OwnOut.go (fun t k => XS.lload X7.here hx rfl (hb hby at_112) rfl k) ?_
          show OwnOut p e s below 0 0 _ (T7.setTop (mkF m 114 #[.val (.long x0), .second, .val (.long x2), .second, .val (.int x4), .val (.long x5), .second, .val (.int x7), .unset, .unset, .unset, .unset] [(.long x5)]))
          refine OwnOut.go (fun t k => XT.iconstV X7.here hx rfl (4 : Int32) (hb hby at_114) rfl k) ?_
          show OwnOut p e s below 0 0 _ (T7.setTop (mkF m 115 #[.val (.long x0), .second, .val (.long x2), .second, .val (.int x4), .val (.long x5), .second, .val (.int x7), .unset, .unset, .unset, .unset] [(.int (4 : Int32)), (.long x5)]))
          obtain ⟨T8, X8, e8, st8⟩ := callP (W := 0) (rm := rx1) X7 hx hZ (y := (⟨"com/example/eigenmittel/eigenmittel/AsciiDigitsAllDigitsPinLaw", "isDigitByte", "(JI)Z"⟩ : MethodName)) hown (hw _ (List.mem_of_getElem? (i := 0) rfl)) (hw _ (List.mem_of_getElem? (i := 1) rfl)) (hw _ (List.mem_of_getElem? (i := 2) rfl)) (hw _ (List.mem_of_getElem? (i := 3) rfl)) (by decide) (rm1 l Z a0 hw [] x5 (4 : Int32) h0) (by decide) (by decide) rfl rfl (Nat.zero_le _) (Nat.zero_le _) e7 (g := (mkF m 115 #[.val (.long x0), .second, .val (.long x2), .second, .val (.int x4), .val (.long x5), .second, .val (.int x7), .unset, .unset, .unset, .unset] [(.int (4 : Int32)), (.long x5)])) rfl (by rw [hml]; rfl) (argsL := [(.long x5), (.int (4 : Int32))]) (rest := []) (lenOf pd1 rfl) rfl (by show 2 * 0 + _ ≤ _; exact Nat.le_of_eq rfl) (hb hby at_115)
          refine OwnOut.go (fun t k => st8 _ k) ?_
          show OwnOut p e s below 0 0 _ (T8.setTop (mkF m 118 #[.val (.long x0), .second, .val (.long x2), .second, .val (.int x4), .val (.long x5), .second, .val (.int x7), .unset, .unset, .unset, .unset] [(.int (f1 x5 (4 : Int32)))]))
          by_cases hc118 : (f1 x5 (4 : Int32)) = (0 : Int32)
          · rw [if_pos hc118]
            refine OwnOut.go (fun t k => XS.ifYes X8.here hx rfl (pc0 := 118) (pc' := 154) rfl (hb hby at_118) rfl (XT.i0_eq_t hc118) (by decide) (by decide) k) ?_
            show OwnOut p e s below 0 0 _ (T8.setTop (mkF m 154 #[.val (.long x0), .second, .val (.long x2), .second, .val (.int x4), .val (.long x5), .second, .val (.int x7), .unset, .unset, .unset, .unset] []))
            exact w0_154 x0 x2 x4 x5 x7 X8 ⟨hx, hZ, hw, hby, hml, hown, hret, hlk, hnm⟩ e8
          · rw [if_neg hc118]
            refine OwnOut.go (fun t k => XS.ifNo X8.here hx rfl (hb hby at_118) rfl (XT.i0_eq_f hc118) k) ?_
            show OwnOut p e s below 0 0 _ (T8.setTop (mkF m 121 #[.val (.long x0), .second, .val (.long x2), .second, .val (.int x4), .val (.long x5), .second, .val (.int x7), .unset, .unset, .unset, .unset] []))
            refine OwnOut.go (fun t k => XS.lload X8.here hx rfl (hb hby at_121) rfl k) ?_
            show OwnOut p e s below 0 0 _ (T8.setTop (mkF m 123 #[.val (.long x0), .second, .val (.long x2), .second, .val (.int x4), .val (.long x5), .second, .val (.int x7), .unset, .unset, .unset, .unset] [(.long x5)]))
            refine OwnOut.go (fun t k => XT.iconstV X8.here hx rfl (5 : Int32) (hb hby at_123) rfl k) ?_
            show OwnOut p e s below 0 0 _ (T8.setTop (mkF m 124 #[.val (.long x0), .second, .val (.long x2), .second, .val (.int x4), .val (.long x5), .second, .val (.int x7), .unset, .unset, .unset, .unset] [(.int (5 : Int32)), (.long x5)]))
            obtain ⟨T9, X9, e9, st9⟩ := callP (W := 0) (rm := rx1) X8 hx hZ (y := (⟨"com/example/eigenmittel/eigenmittel/AsciiDigitsAllDigitsPinLaw", "isDigitByte", "(JI)Z"⟩ : MethodName)) hown (hw _ (List.mem_of_getElem? (i := 0) rfl)) (hw _ (List.mem_of_getElem? (i := 1) rfl)) (hw _ (List.mem_of_getElem? (i := 2) rfl)) (hw _ (List.mem_of_getElem? (i := 3) rfl)) (by decide) (rm1 l Z a0 hw [] x5 (5 : Int32) h0) (by decide) (by decide) rfl rfl (Nat.zero_le _) (Nat.zero_le _) e8 (g := (mkF m 124 #[.val (.long x0), .second, .val (.long x2), .second, .val (.int x4), .val (.long x5), .second, .val (.int x7), .unset, .unset, .unset, .unset] [(.int (5 : Int32)), (.long x5)])) rfl (by rw [hml]; rfl) (argsL := [(.long x5), (.int (5 : Int32))]) (rest := []) (lenOf pd1 rfl) rfl (by show 2 * 0 + _ ≤ _; exact Nat.le_of_eq rfl) (hb hby at_124)
            refine OwnOut.go (fun t k => st9 _ k) ?_
            show OwnOut p e s below 0 0 _ (T9.setTop (mkF m 127 #[.val (.long x0), .second, .val (.long x2), .second, .val (.int x4), .val (.long x5), .second, .val (.int x7), .unset, .unset, .unset, .unset] [(.int (f1 x5 (5 : Int32)))]))
            by_cases hc127 : (f1 x5 (5 : Int32)) = (0 : Int32)
            · rw [if_pos hc127]
              refine OwnOut.go (fun t k => XS.ifYes X9.here hx rfl (pc0 := 127) (pc' := 154) rfl (hb hby at_127) rfl (XT.i0_eq_t hc127) (by decide) (by decide) k) ?_
              show OwnOut p e s below 0 0 _ (T9.setTop (mkF m 154 #[.val (.long x0), .second, .val (.long x2), .second, .val (.int x4), .val (.long x5), .second, .val (.int x7), .unset, .unset, .unset, .unset] []))
              exact w0_154 x0 x2 x4 x5 x7 X9 ⟨hx, hZ, hw, hby, hml, hown, hret, hlk, hnm⟩ e9
            · rw [if_neg hc127]
              refine OwnOut.go (fun t k => XS.ifNo X9.here hx rfl (hb hby at_127) rfl (XT.i0_eq_f hc127) k) ?_
              show OwnOut p e s below 0 0 _ (T9.setTop (mkF m 130 #[.val (.long x0), .second, .val (.long x2), .second, .val (.int x4), .val (.long x5), .second, .val (.int x7), .unset, .unset, .unset, .unset] []))
              refine OwnOut.go (fun t k => XS.lload X9.here hx rfl (hb hby at_130) rfl k) ?_
              show OwnOut p e s below 0 0 _ (T9.setTop (mkF m 132 #[.val (.long x0), .second, .val (.long x2), .second, .val (.int x4), .val (.long x5), .second, .val (.int x7), .unset, .unset, .unset, .unset] [(.long x5)]))
              refine OwnOut.go (fun t k => XT.bipushV X9.here hx rfl (6 : Int32) (hb hby at_132) rfl k) ?_
              show OwnOut p e s below 0 0 _ (T9.setTop (mkF m 134 #[.val (.long x0), .second, .val (.long x2), .second, .val (.int x4), .val (.long x5), .second, .val (.int x7), .unset, .unset, .unset, .unset] [(.int (6 : Int32)), (.long x5)]))
              obtain ⟨T10, X10, e10, st10⟩ := callP (W := 0) (rm := rx1) X9 hx hZ (y := (⟨"com/example/eigenmittel/eigenmittel/AsciiDigitsAllDigitsPinLaw", "isDigitByte", "(JI)Z"⟩ : MethodName)) hown (hw _ (List.mem_of_getElem? (i := 0) rfl)) (hw _ (List.mem_of_getElem? (i := 1) rfl)) (hw _ (List.mem_of_getElem? (i := 2) rfl)) (hw _ (List.mem_of_getElem? (i := 3) rfl)) (by decide) (rm1 l Z a0 hw [] x5 (6 : Int32) h0) (by decide) (by decide) rfl rfl (Nat.zero_le _) (Nat.zero_le _) e9 (g := (mkF m 134 #[.val (.long x0), .second, .val (.long x2), .second, .val (.int x4), .val (.long x5), .second, .val (.int x7), .unset, .unset, .unset, .unset] [(.int (6 : Int32)), (.long x5)])) rfl (by rw [hml]; rfl) (argsL := [(.long x5), (.int (6 : Int32))]) (rest := []) (lenOf pd1 rfl) rfl (by show 2 * 0 + _ ≤ _; exact Nat.le_of_eq rfl) (hb hby at_134)
              refine OwnOut.go (fun t k => st10 _ k) ?_
              show OwnOut p e s below 0 0 _ (T10.setTop (mkF m 137 #[.val (.long x0), .second, .val (.long x2), .second, .val (.int x4), .val (.long x5), .second, .val (.int x7), .unset, .unset, .unset, .unset] [(.int (f1 x5 (6 : Int32)))]))
              by_cases hc137 : (f1 x5 (6 : Int32)) = (0 : Int32)
              · rw [if_pos hc137]
                refine OwnOut.go (fun t k => XS.ifYes X10.here hx rfl (pc0 := 137) (pc' := 154) rfl (hb hby at_137) rfl (XT.i0_eq_t hc137) (by decide) (by decide) k) ?_
                show OwnOut p e s below 0 0 _ (T10.setTop (mkF m 154 #[.val (.long x0), .second, .val (.long x2), .second, .val (.int x4), .val (.long x5), .second, .val (.int x7), .unset, .unset, .unset, .unset] []))
                exact w0_154 x0 x2 x4 x5 x7 X10 ⟨hx, hZ, hw, hby, hml, hown, hret, hlk, hnm⟩ e10
              · rw [if_neg hc137]
                refine OwnOut.go (fun t k => XS.ifNo X10.here hx rfl (hb hby at_137) rfl (XT.i0_eq_f hc137) k) ?_
                show OwnOut p e s below 0 0 _ (T10.setTop (mkF m 140 #[.val (.long x0), .second, .val (.long x2), .second, .val (.int x4), .val (.long x5), .second, .val (.int x7), .unset, .unset, .unset, .unset] []))
                refine OwnOut.go (fun t k => XS.lload X10.here hx rfl (hb hby at_140) rfl k) ?_
                show OwnOut p e s below 0 0 _ (T10.setTop (mkF m 142 #[.val (.long x0), .second, .val (.long x2), .second, .val (.int x4), .val (.long x5), .second, .val (.int x7), .unset, .unset, .unset, .unset] [(.long x5)]))
                refine OwnOut.go (fun t k => XT.bipushV X10.here hx rfl (7 : Int32) (hb hby at_142) rfl k) ?_
                show OwnOut p e s below 0 0 _ (T10.setTop (mkF m 144 #[.val (.long x0), .second, .val (.long x2), .second, .val (.int x4), .val (.long x5), .second, .val (.int x7), .unset, .unset, .unset, .unset] [(.int (7 : Int32)), (.long x5)]))
                obtain ⟨T11, X11, e11, st11⟩ := callP (W := 0) (rm := rx1) X10 hx hZ (y := (⟨"com/example/eigenmittel/eigenmittel/AsciiDigitsAllDigitsPinLaw", "isDigitByte", "(JI)Z"⟩ : MethodName)) hown (hw _ (List.mem_of_getElem? (i := 0) rfl)) (hw _ (List.mem_of_getElem? (i := 1) rfl)) (hw _ (List.mem_of_getElem? (i := 2) rfl)) (hw _ (List.mem_of_getElem? (i := 3) rfl)) (by decide) (rm1 l Z a0 hw [] x5 (7 : Int32) h0) (by decide) (by decide) rfl rfl (Nat.zero_le _) (Nat.zero_le _) e10 (g := (mkF m 144 #[.val (.long x0), .second, .val (.long x2), .second, .val (.int x4), .val (.long x5), .second, .val (.int x7), .unset, .unset, .unset, .unset] [(.int (7 : Int32)), (.long x5)])) rfl (by rw [hml]; rfl) (argsL := [(.long x5), (.int (7 : Int32))]) (rest := []) (lenOf pd1 rfl) rfl (by show 2 * 0 + _ ≤ _; exact Nat.le_of_eq rfl) (hb hby at_144)
                refine OwnOut.go (fun t k => st11 _ k) ?_
                show OwnOut p e s below 0 0 _ (T11.setTop (mkF m 147 #[.val (.long x0), .second, .val (.long x2), .second, .val (.int x4), .val (.long x5), .second, .val (.int x7), .unset, .unset, .unset, .unset] [(.int (f1 x5 (7 : Int32)))]))
                by_cases hc147 : (f1 x5 (7 : Int32)) = (0 : Int32)
                · rw [if_pos hc147]
                  refine OwnOut.go (fun t k => XS.ifYes X11.here hx rfl (pc0 := 147) (pc' := 154) rfl (hb hby at_147) rfl (XT.i0_eq_t hc147) (by decide) (by decide) k) ?_
                  show OwnOut p e s below 0 0 _ (T11.setTop (mkF m 154 #[.val (.long x0), .second, .val (.long x2), .second, .val (.int x4), .val (.long x5), .second, .val (.int x7), .unset, .unset, .unset, .unset] []))
                  exact w0_154 x0 x2 x4 x5 x7 X11 ⟨hx, hZ, hw, hby, hml, hown, hret, hlk, hnm⟩ e11
                · rw [if_neg hc147]
                  refine OwnOut.go (fun t k => XS.ifNo X11.here hx rfl (hb hby at_147) rfl (XT.i0_eq_f hc147) k) ?_
                  show OwnOut p e s below 0 0 _ (T11.setTop (mkF m 150 #[.val (.long x0), .second, .val (.long x2), .second, .val (.int x4), .val (.long x5), .second, .val (.int x7), .unset, .unset, .unset, .unset] []))
                  refine OwnOut.go (fun t k => XT.iconstV X11.here hx rfl (1 : Int32) (hb hby at_150) rfl k) ?_
                  show OwnOut p e s below 0 0 _ (T11.setTop (mkF m 151 #[.val (.long x0), .second, .val (.long x2), .second, .val (.int x4), .val (.long x5), .second, .val (.int x7), .unset, .unset, .unset, .unset] [(.int (1 : Int32))]))
                  refine OwnOut.go (fun t k => XS.goto X11.here hx rfl (pc0 := 151) (pc' := 155) rfl (hb hby at_151) (by decide) (by decide) k) ?_
                  show OwnOut p e s below 0 0 _ (T11.setTop (mkF m 155 #[.val (.long x0), .second, .val (.long x2), .second, .val (.int x4), .val (.long x5), .second, .val (.int x7), .unset, .unset, .unset, .unset] [(.int (1 : Int32))]))
                  exact w0_155 x0 x2 x4 x5 x7 (1 : Int32) X11 ⟨hx, hZ, hw, hby, hml, hown, hret, hlk, hnm⟩ e11
set_option maxRecDepth 65536 in
set_option maxHeartbeats 40000000 in
theorem w0_76a {p : Program} {l : Launch} {e : Env} {s : State} {m : MethodId} {args : Array Value} {below : List Frame} {meth : Method} {c : Code} {T Z : State} {a0 : Array Value} {h0 : Heap} (x0 : Int64) (x2 : Int64) (x4 : Int32) (x5 : Int64) (x7 : Int32) (x8 : Int64)
    (X0 : Stand p l e room_1 s m args below meth c T [] 0 0) (C : Cx0 Z a0 p s m meth c) (e0 : T.heap = h0) :
    OwnOut p e s below 0 0 (QP h0 (some (.int (f0_76 x5)))) (T.setTop (mkF m 76 #[.val (.long x0), .second, .val (.long x2), .second, .val (.int x4), .val (.long x5), .second, .val (.int x7), .val (.long x8), .second, .unset, .unset] [])) := by
  obtain ⟨hx, hZ, hw, hby, hml, hown, hret, hlk, hnm⟩ := C
  rw [f0_76]
  refine OwnOut.go (fun t k => XS.lload X0.here hx rfl (hb hby at_76) rfl k) ?_
  show OwnOut p e s below 0 0 _ (T.setTop (mkF m 78 #[.val (.long x0), .second, .val (.long x2), .second, .val (.int x4), .val (.long x5), .second, .val (.int x7), .val (.long x8), .second, .unset, .unset] [(.long x5)]))
  refine OwnOut.go (fun t k => XT.iconstV X0.here hx rfl (0 : Int32) (hb hby at_78) rfl k) ?_
  show OwnOut p e s below 0 0 _ (T.setTop (mkF m 79 #[.val (.long x0), .second, .val (.long x2), .second, .val (.int x4), .val (.long x5), .second, .val (.int x7), .val (.long x8), .second, .unset, .unset] [(.int (0 : Int32)), (.long x5)]))
  obtain ⟨T12, X12, e12, st12⟩ := callP (W := 0) (rm := rx1) X0 hx hZ (y := (⟨"com/example/eigenmittel/eigenmittel/AsciiDigitsAllDigitsPinLaw", "isDigitByte", "(JI)Z"⟩ : MethodName)) hown (hw _ (List.mem_of_getElem? (i := 0) rfl)) (hw _ (List.mem_of_getElem? (i := 1) rfl)) (hw _ (List.mem_of_getElem? (i := 2) rfl)) (hw _ (List.mem_of_getElem? (i := 3) rfl)) (by decide) (rm1 l Z a0 hw [] x5 (0 : Int32) h0) (by decide) (by decide) rfl rfl (Nat.zero_le _) (Nat.zero_le _) e0 (g := (mkF m 79 #[.val (.long x0), .second, .val (.long x2), .second, .val (.int x4), .val (.long x5), .second, .val (.int x7), .val (.long x8), .second, .unset, .unset] [(.int (0 : Int32)), (.long x5)])) rfl (by rw [hml]; rfl) (argsL := [(.long x5), (.int (0 : Int32))]) (rest := []) (lenOf pd1 rfl) rfl (by show 2 * 0 + _ ≤ _; exact Nat.le_of_eq rfl) (hb hby at_79)
  refine OwnOut.go (fun t k => st12 _ k) ?_
  show OwnOut p e s below 0 0 _ (T12.setTop (mkF m 82 #[.val (.long x0), .second, .val (.long x2), .second, .val (.int x4), .val (.long x5), .second, .val (.int x7), .val (.long x8), .second, .unset, .unset] [(.int (f1 x5 (0 : Int32)))]))
  by_cases hc82 : (f1 x5 (0 : Int32)) = (0 : Int32)
  · rw [if_pos hc82]
    refine OwnOut.go (fun t k => XS.ifYes X12.here hx rfl (pc0 := 82) (pc' := 154) rfl (hb hby at_82) rfl (XT.i0_eq_t hc82) (by decide) (by decide) k) ?_
    show OwnOut p e s below 0 0 _ (T12.setTop (mkF m 154 #[.val (.long x0), .second, .val (.long x2), .second, .val (.int x4), .val (.long x5), .second, .val (.int x7), .val (.long x8), .second, .unset, .unset] []))
    exact w0_154a x0 x2 x4 x5 x7 x8 X12 ⟨hx, hZ, hw, hby, hml, hown, hret, hlk, hnm⟩ e12
  · rw [if_neg hc82]
    refine OwnOut.go (fun t k => XS.ifNo X12.here hx rfl (hb hby at_82) rfl (XT.i0_eq_f hc82) k) ?_
    show OwnOut p e s below 0 0 _ (T12.setTop (mkF m 85 #[.val (.long x0), .second, .val (.long x2), .second, .val (.int x4), .val (.long x5), .second, .val (.int x7), .val (.long x8), .second, .unset, .unset] []))
    refine OwnOut.go (fun t k => XS.lload X12.here hx rfl (hb hby at_85) rfl k) ?_
    show OwnOut p e s below 0 0 _ (T12.setTop (mkF m 87 #[.val (.long x0), .second, .val (.long x2), .second, .val (.int x4), .val (.long x5), .second, .val (.int x7), .val (.long x8), .second, .unset, .unset] [(.long x5)]))
    refine OwnOut.go (fun t k => XT.iconstV X12.here hx rfl (1 : Int32) (hb hby at_87) rfl k) ?_
    show OwnOut p e s below 0 0 _ (T12.setTop (mkF m 88 #[.val (.long x0), .second, .val (.long x2), .second, .val (.int x4), .val (.long x5), .second, .val (.int x7), .val (.long x8), .second, .unset, .unset] [(.int (1 : Int32)), (.long x5)]))
    obtain ⟨T13, X13, e13, st13⟩ := callP (W := 0) (rm := rx1) X12 hx hZ (y := (⟨"com/example/eigenmittel/eigenmittel/AsciiDigitsAllDigitsPinLaw", "isDigitByte", "(JI)Z"⟩ : MethodName)) hown (hw _ (List.mem_of_getElem? (i := 0) rfl)) (hw _ (List.mem_of_getElem? (i := 1) rfl)) (hw _ (List.mem_of_getElem? (i := 2) rfl)) (hw _ (List.mem_of_getElem? (i := 3) rfl)) (by decide) (rm1 l Z a0 hw [] x5 (1 : Int32) h0) (by decide) (by decide) rfl rfl (Nat.zero_le _) (Nat.zero_le _) e12 (g := (mkF m 88 #[.val (.long x0), .second, .val (.long x2), .second, .val (.int x4), .val (.long x5), .second, .val (.int x7), .val (.long x8), .second, .unset, .unset] [(.int (1 : Int32)), (.long x5)])) rfl (by rw [hml]; rfl) (argsL := [(.long x5), (.int (1 : Int32))]) (rest := []) (lenOf pd1 rfl) rfl (by show 2 * 0 + _ ≤ _; exact Nat.le_of_eq rfl) (hb hby at_88)
    refine OwnOut.go (fun t k => st13 _ k) ?_
    show OwnOut p e s below 0 0 _ (T13.setTop (mkF m 91 #[.val (.long x0), .second, .val (.long x2), .second, .val (.int x4), .val (.long x5), .second, .val (.int x7), .val (.long x8), .second, .unset, .unset] [(.int (f1 x5 (1 : Int32)))]))
    by_cases hc91 : (f1 x5 (1 : Int32)) = (0 : Int32)
    · rw [if_pos hc91]
      refine OwnOut.go (fun t k => XS.ifYes X13.here hx rfl (pc0 := 91) (pc' := 154) rfl (hb hby at_91) rfl (XT.i0_eq_t hc91) (by decide) (by decide) k) ?_
      show OwnOut p e s below 0 0 _ (T13.setTop (mkF m 154 #[.val (.long x0), .second, .val (.long x2), .second, .val (.int x4), .val (.long x5), .second, .val (.int x7), .val (.long x8), .second, .unset, .unset] []))
      exact w0_154a x0 x2 x4 x5 x7 x8 X13 ⟨hx, hZ, hw, hby, hml, hown, hret, hlk, hnm⟩ e13
    · rw [if_neg hc91]
      refine OwnOut.go (fun t k => XS.ifNo X13.here hx rfl (hb hby at_91) rfl (XT.i0_eq_f hc91) k) ?_
      show OwnOut p e s below 0 0 _ (T13.setTop (mkF m 94 #[.val (.long x0), .second, .val (.long x2), .second, .val (.int x4), .val (.long x5), .second, .val (.int x7), .val (.long x8), .second, .unset, .unset] []))
      refine OwnOut.go (fun t k => XS.lload X13.here hx rfl (hb hby at_94) rfl k) ?_
      show OwnOut p e s below 0 0 _ (T13.setTop (mkF m 96 #[.val (.long x0), .second, .val (.long x2), .second, .val (.int x4), .val (.long x5), .second, .val (.int x7), .val (.long x8), .second, .unset, .unset] [(.long x5)]))
      refine OwnOut.go (fun t k => XT.iconstV X13.here hx rfl (2 : Int32) (hb hby at_96) rfl k) ?_
      show OwnOut p e s below 0 0 _ (T13.setTop (mkF m 97 #[.val (.long x0), .second, .val (.long x2), .second, .val (.int x4), .val (.long x5), .second, .val (.int x7), .val (.long x8), .second, .unset, .unset] [(.int (2 : Int32)), (.long x5)]))
      obtain ⟨T14, X14, e14, st14⟩ := callP (W := 0) (rm := rx1) X13 hx hZ (y := (⟨"com/example/eigenmittel/eigenmittel/AsciiDigitsAllDigitsPinLaw", "isDigitByte", "(JI)Z"⟩ : MethodName)) hown (hw _ (List.mem_of_getElem? (i := 0) rfl)) (hw _ (List.mem_of_getElem? (i := 1) rfl)) (hw _ (List.mem_of_getElem? (i := 2) rfl)) (hw _ (List.mem_of_getElem? (i := 3) rfl)) (by decide) (rm1 l Z a0 hw [] x5 (2 : Int32) h0) (by decide) (by decide) rfl rfl (Nat.zero_le _) (Nat.zero_le _) e13 (g := (mkF m 97 #[.val (.long x0), .second, .val (.long x2), .second, .val (.int x4), .val (.long x5), .second, .val (.int x7), .val (.long x8), .second, .unset, .unset] [(.int (2 : Int32)), (.long x5)])) rfl (by rw [hml]; rfl) (argsL := [(.long x5), (.int (2 : Int32))]) (rest := []) (lenOf pd1 rfl) rfl (by show 2 * 0 + _ ≤ _; exact Nat.le_of_eq rfl) (hb hby at_97)
      refine OwnOut.go (fun t k => st14 _ k) ?_
      show OwnOut p e s below 0 0 _ (T14.setTop (mkF m 100 #[.val (.long x0), .second, .val (.long x2), .second, .val (.int x4), .val (.long x5), .second, .val (.int x7), .val (.long x8), .second, .unset, .unset] [(.int (f1 x5 (2 : Int32)))]))
      by_cases hc100 : (f1 x5 (2 : Int32)) = (0 : Int32)
      · rw [if_pos hc100]
        refine OwnOut.go (fun t k => XS.ifYes X14.here hx rfl (pc0 := 100) (pc' := 154) rfl (hb hby at_100) rfl (XT.i0_eq_t hc100) (by decide) (by decide) k) ?_
        show OwnOut p e s below 0 0 _ (T14.setTop (mkF m 154 #[.val (.long x0), .second, .val (.long x2), .second, .val (.int x4), .val (.long x5), .second, .val (.int x7), .val (.long x8), .second, .unset, .unset] []))
        exact w0_154a x0 x2 x4 x5 x7 x8 X14 ⟨hx, hZ, hw, hby, hml, hown, hret, hlk, hnm⟩ e14
      · rw [if_neg hc100]
        refine OwnOut.go (fun t k => XS.ifNo X14.here hx rfl (hb hby at_100) rfl (XT.i0_eq_f hc100) k) ?_
        show OwnOut p e s below 0 0 _ (T14.setTop (mkF m 103 #[.val (.long x0), .second, .val (.long x2), .second, .val (.int x4), .val (.long x5), .second, .val (.int x7), .val (.long x8), .second, .unset, .unset] []))
        refine OwnOut.go (fun t k => XS.lload X14.here hx rfl (hb hby at_103) rfl k) ?_
        show OwnOut p e s below 0 0 _ (T14.setTop (mkF m 105 #[.val (.long x0), .second, .val (.long x2), .second, .val (.int x4), .val (.long x5), .second, .val (.int x7), .val (.long x8), .second, .unset, .unset] [(.long x5)]))
        refine OwnOut.go (fun t k => XT.iconstV X14.here hx rfl (3 : Int32) (hb hby at_105) rfl k) ?_
        show OwnOut p e s below 0 0 _ (T14.setTop (mkF m 106 #[.val (.long x0), .second, .val (.long x2), .second, .val (.int x4), .val (.long x5), .second, .val (.int x7), .val (.long x8), .second, .unset, .unset] [(.int (3 : Int32)), (.long x5)]))
        obtain ⟨T15, X15, e15, st15⟩ := callP (W := 0) (rm := rx1) X14 hx hZ (y := (⟨"com/example/eigenmittel/eigenmittel/AsciiDigitsAllDigitsPinLaw", "isDigitByte", "(JI)Z"⟩ : MethodName)) hown (hw _ (List.mem_of_getElem? (i := 0) rfl)) (hw _ (List.mem_of_getElem? (i := 1) rfl)) (hw _ (List.mem_of_getElem? (i := 2) rfl)) (hw _ (List.mem_of_getElem? (i := 3) rfl)) (by decide) (rm1 l Z a0 hw [] x5 (3 : Int32) h0) (by decide) (by decide) rfl rfl (Nat.zero_le _) (Nat.zero_le _) e14 (g := (mkF m 106 #[.val (.long x0), .second, .val (.long x2), .second, .val (.int x4), .val (.long x5), .second, .val (.int x7), .val (.long x8), .second, .unset, .unset] [(.int (3 : Int32)), (.long x5)])) rfl (by rw [hml]; rfl) (argsL := [(.long x5), (.int (3 : Int32))]) (rest := []) (lenOf pd1 rfl) rfl (by show 2 * 0 + _ ≤ _; exact Nat.le_of_eq rfl) (hb hby at_106)
        refine OwnOut.go (fun t k => st15 _ k) ?_
        show OwnOut p e s below 0 0 _ (T15.setTop (mkF m 109 #[.val (.long x0), .second, .val (.long x2), .second, .val (.int x4), .val (.long x5), .second, .val (.int x7), .val (.long x8), .second, .unset, .unset] [(.int (f1 x5 (3 : Int32)))]))
        by_cases hc109 : (f1 x5 (3 : Int32)) = (0 : Int32)
        · rw [if_pos hc109]
          refine OwnOut.go (fun t k => XS.ifYes X15.here hx rfl (pc0 := 109) (pc' := 154) rfl (hb hby at_109) rfl (XT.i0_eq_t hc109) (by decide) (by decide) k) ?_
          show OwnOut p e s below 0 0 _ (T15.setTop (mkF m 154 #[.val (.long x0), .second, .val (.long x2), .second, .val (.int x4), .val (.long x5), .second, .val (.int x7), .val (.long x8), .second, .unset, .unset] []))
          exact w0_154a x0 x2 x4 x5 x7 x8 X15 ⟨hx, hZ, hw, hby, hml, hown, hret, hlk, hnm⟩ e15
        · rw [if_neg hc109]
          refine OwnOut.go (fun t k => XS.ifNo X15.here hx rfl (hb hby at_109) rfl (XT.i0_eq_f hc109) k) ?_
          show OwnOut p e s below 0 0 _ (T15.setTop (mkF m 112 #[.val (.long x0), .second, .val (.long x2), .second, .val (.int x4), .val (.long x5), .second, .val (.int x7), .val (.long x8), .second, .unset, .unset] []))
          refine OwnOut.go (fun t k => XS.lload X15.here hx rfl (hb hby at_112) rfl k) ?_
          show OwnOut p e s below 0 0 _ (T15.setTop (mkF m 114 #[.val (.long x0), .second, .val (.long x2), .second, .val (.int x4), .val (.long x5), .second, .val (.int x7), .val (.long x8), .second, .unset, .unset] [(.long x5)]))
          refine OwnOut.go (fun t k => XT.iconstV X15.here hx rfl (4 : Int32) (hb hby at_114) rfl k) ?_
          show OwnOut p e s below 0 0 _ (T15.setTop (mkF m 115 #[.val (.long x0), .second, .val (.long x2), .second, .val (.int x4), .val (.long x5), .second, .val (.int x7), .val (.long x8), .second, .unset, .unset] [(.int (4 : Int32)), (.long x5)]))
          obtain ⟨T16, X16, e16, st16⟩ := callP (W := 0) (rm := rx1) X15 hx hZ (y := (⟨"com/example/eigenmittel/eigenmittel/AsciiDigitsAllDigitsPinLaw", "isDigitByte", "(JI)Z"⟩ : MethodName)) hown (hw _ (List.mem_of_getElem? (i := 0) rfl)) (hw _ (List.mem_of_getElem? (i := 1) rfl)) (hw _ (List.mem_of_getElem? (i := 2) rfl)) (hw _ (List.mem_of_getElem? (i := 3) rfl)) (by decide) (rm1 l Z a0 hw [] x5 (4 : Int32) h0) (by decide) (by decide) rfl rfl (Nat.zero_le _) (Nat.zero_le _) e15 (g := (mkF m 115 #[.val (.long x0), .second, .val (.long x2), .second, .val (.int x4), .val (.long x5), .second, .val (.int x7), .val (.long x8), .second, .unset, .unset] [(.int (4 : Int32)), (.long x5)])) rfl (by rw [hml]; rfl) (argsL := [(.long x5), (.int (4 : Int32))]) (rest := []) (lenOf pd1 rfl) rfl (by show 2 * 0 + _ ≤ _; exact Nat.le_of_eq rfl) (hb hby at_115)
          refine OwnOut.go (fun t k => st16 _ k) ?_
          show OwnOut p e s below 0 0 _ (T16.setTop (mkF m 118 #[.val (.long x0), .second, .val (.long x2), .second, .val (.int x4), .val (.long x5), .second, .val (.int x7), .val (.long x8), .second, .unset, .unset] [(.int (f1 x5 (4 : Int32)))]))
          by_cases hc118 : (f1 x5 (4 : Int32)) = (0 : Int32)
          · rw [if_pos hc118]
            refine OwnOut.go (fun t k => XS.ifYes X16.here hx rfl (pc0 := 118) (pc' := 154) rfl (hb hby at_118) rfl (XT.i0_eq_t hc118) (by decide) (by decide) k) ?_
            show OwnOut p e s below 0 0 _ (T16.setTop (mkF m 154 #[.val (.long x0), .second, .val (.long x2), .second, .val (.int x4), .val (.long x5), .second, .val (.int x7), .val (.long x8), .second, .unset, .unset] []))
            exact w0_154a x0 x2 x4 x5 x7 x8 X16 ⟨hx, hZ, hw, hby, hml, hown, hret, hlk, hnm⟩ e16
          · rw [if_neg hc118]
            refine OwnOut.go (fun t k => XS.ifNo X16.here hx rfl (hb hby at_118) rfl (XT.i0_eq_f hc118) k) ?_
            show OwnOut p e s below 0 0 _ (T16.setTop (mkF m 121 #[.val (.long x0), .second, .val (.long x2), .second, .val (.int x4), .val (.long x5), .second, .val (.int x7), .val (.long x8), .second, .unset, .unset] []))
            refine OwnOut.go (fun t k => XS.lload X16.here hx rfl (hb hby at_121) rfl k) ?_
            show OwnOut p e s below 0 0 _ (T16.setTop (mkF m 123 #[.val (.long x0), .second, .val (.long x2), .second, .val (.int x4), .val (.long x5), .second, .val (.int x7), .val (.long x8), .second, .unset, .unset] [(.long x5)]))
            refine OwnOut.go (fun t k => XT.iconstV X16.here hx rfl (5 : Int32) (hb hby at_123) rfl k) ?_
            show OwnOut p e s below 0 0 _ (T16.setTop (mkF m 124 #[.val (.long x0), .second, .val (.long x2), .second, .val (.int x4), .val (.long x5), .second, .val (.int x7), .val (.long x8), .second, .unset, .unset] [(.int (5 : Int32)), (.long x5)]))
            obtain ⟨T17, X17, e17, st17⟩ := callP (W := 0) (rm := rx1) X16 hx hZ (y := (⟨"com/example/eigenmittel/eigenmittel/AsciiDigitsAllDigitsPinLaw", "isDigitByte", "(JI)Z"⟩ : MethodName)) hown (hw _ (List.mem_of_getElem? (i := 0) rfl)) (hw _ (List.mem_of_getElem? (i := 1) rfl)) (hw _ (List.mem_of_getElem? (i := 2) rfl)) (hw _ (List.mem_of_getElem? (i := 3) rfl)) (by decide) (rm1 l Z a0 hw [] x5 (5 : Int32) h0) (by decide) (by decide) rfl rfl (Nat.zero_le _) (Nat.zero_le _) e16 (g := (mkF m 124 #[.val (.long x0), .second, .val (.long x2), .second, .val (.int x4), .val (.long x5), .second, .val (.int x7), .val (.long x8), .second, .unset, .unset] [(.int (5 : Int32)), (.long x5)])) rfl (by rw [hml]; rfl) (argsL := [(.long x5), (.int (5 : Int32))]) (rest := []) (lenOf pd1 rfl) rfl (by show 2 * 0 + _ ≤ _; exact Nat.le_of_eq rfl) (hb hby at_124)
            refine OwnOut.go (fun t k => st17 _ k) ?_
            show OwnOut p e s below 0 0 _ (T17.setTop (mkF m 127 #[.val (.long x0), .second, .val (.long x2), .second, .val (.int x4), .val (.long x5), .second, .val (.int x7), .val (.long x8), .second, .unset, .unset] [(.int (f1 x5 (5 : Int32)))]))
            by_cases hc127 : (f1 x5 (5 : Int32)) = (0 : Int32)
            · rw [if_pos hc127]
              refine OwnOut.go (fun t k => XS.ifYes X17.here hx rfl (pc0 := 127) (pc' := 154) rfl (hb hby at_127) rfl (XT.i0_eq_t hc127) (by decide) (by decide) k) ?_
              show OwnOut p e s below 0 0 _ (T17.setTop (mkF m 154 #[.val (.long x0), .second, .val (.long x2), .second, .val (.int x4), .val (.long x5), .second, .val (.int x7), .val (.long x8), .second, .unset, .unset] []))
              exact w0_154a x0 x2 x4 x5 x7 x8 X17 ⟨hx, hZ, hw, hby, hml, hown, hret, hlk, hnm⟩ e17
            · rw [if_neg hc127]
              refine OwnOut.go (fun t k => XS.ifNo X17.here hx rfl (hb hby at_127) rfl (XT.i0_eq_f hc127) k) ?_
              show OwnOut p e s below 0 0 _ (T17.setTop (mkF m 130 #[.val (.long x0), .second, .val (.long x2), .second, .val (.int x4), .val (.long x5), .second, .val (.int x7), .val (.long x8), .second, .unset, .unset] []))
              refine OwnOut.go (fun t k => XS.lload X17.here hx rfl (hb hby at_130) rfl k) ?_
              show OwnOut p e s below 0 0 _ (T17.setTop (mkF m 132 #[.val (.long x0), .second, .val (.long x2), .second, .val (.int x4), .val (.long x5), .second, .val (.int x7), .val (.long x8), .second, .unset, .unset] [(.long x5)]))
              refine OwnOut.go (fun t k => XT.bipushV X17.here hx rfl (6 : Int32) (hb hby at_132) rfl k) ?_
              show OwnOut p e s below 0 0 _ (T17.setTop (mkF m 134 #[.val (.long x0), .second, .val (.long x2), .second, .val (.int x4), .val (.long x5), .second, .val (.int x7), .val (.long x8), .second, .unset, .unset] [(.int (6 : Int32)), (.long x5)]))
              obtain ⟨T18, X18, e18, st18⟩ := callP (W := 0) (rm := rx1) X17 hx hZ (y := (⟨"com/example/eigenmittel/eigenmittel/AsciiDigitsAllDigitsPinLaw", "isDigitByte", "(JI)Z"⟩ : MethodName)) hown (hw _ (List.mem_of_getElem? (i := 0) rfl)) (hw _ (List.mem_of_getElem? (i := 1) rfl)) (hw _ (List.mem_of_getElem? (i := 2) rfl)) (hw _ (List.mem_of_getElem? (i := 3) rfl)) (by decide) (rm1 l Z a0 hw [] x5 (6 : Int32) h0) (by decide) (by decide) rfl rfl (Nat.zero_le _) (Nat.zero_le _) e17 (g := (mkF m 134 #[.val (.long x0), .second, .val (.long x2), .second, .val (.int x4), .val (.long x5), .second, .val (.int x7), .val (.long x8), .second, .unset, .unset] [(.int (6 : Int32)), (.long x5)])) rfl (by rw [hml]; rfl) (argsL := [(.long x5), (.int (6 : Int32))]) (rest := []) (lenOf pd1 rfl) rfl (by show 2 * 0 + _ ≤ _; exact Nat.le_of_eq rfl) (hb hby at_134)
              refine OwnOut.go (fun t k => st18 _ k) ?_
              show OwnOut p e s below 0 0 _ (T18.setTop (mkF m 137 #[.val (.long x0), .second, .val (.long x2), .second, .val (.int x4), .val (.long x5), .second, .val (.int x7), .val (.long x8), .second, .unset, .unset] [(.int (f1 x5 (6 : Int32)))]))
              by_cases hc137 : (f1 x5 (6 : Int32)) = (0 : Int32)
              · rw [if_pos hc137]
                refine OwnOut.go (fun t k => XS.ifYes X18.here hx rfl (pc0 := 137) (pc' := 154) rfl (hb hby at_137) rfl (XT.i0_eq_t hc137) (by decide) (by decide) k) ?_
                show OwnOut p e s below 0 0 _ (T18.setTop (mkF m 154 #[.val (.long x0), .second, .val (.long x2), .second, .val (.int x4), .val (.long x5), .second, .val (.int x7), .val (.long x8), .second, .unset, .unset] []))
                exact w0_154a x0 x2 x4 x5 x7 x8 X18 ⟨hx, hZ, hw, hby, hml, hown, hret, hlk, hnm⟩ e18
              · rw [if_neg hc137]
                refine OwnOut.go (fun t k => XS.ifNo X18.here hx rfl (hb hby at_137) rfl (XT.i0_eq_f hc137) k) ?_
                show OwnOut p e s below 0 0 _ (T18.setTop (mkF m 140 #[.val (.long x0), .second, .val (.long x2), .second, .val (.int x4), .val (.long x5), .second, .val (.int x7), .val (.long x8), .second, .unset, .unset] []))
                refine OwnOut.go (fun t k => XS.lload X18.here hx rfl (hb hby at_140) rfl k) ?_
                show OwnOut p e s below 0 0 _ (T18.setTop (mkF m 142 #[.val (.long x0), .second, .val (.long x2), .second, .val (.int x4), .val (.long x5), .second, .val (.int x7), .val (.long x8), .second, .unset, .unset] [(.long x5)]))
                refine OwnOut.go (fun t k => XT.bipushV X18.here hx rfl (7 : Int32) (hb hby at_142) rfl k) ?_
                show OwnOut p e s below 0 0 _ (T18.setTop (mkF m 144 #[.val (.long x0), .second, .val (.long x2), .second, .val (.int x4), .val (.long x5), .second, .val (.int x7), .val (.long x8), .second, .unset, .unset] [(.int (7 : Int32)), (.long x5)]))
                obtain ⟨T19, X19, e19, st19⟩ := callP (W := 0) (rm := rx1) X18 hx hZ (y := (⟨"com/example/eigenmittel/eigenmittel/AsciiDigitsAllDigitsPinLaw", "isDigitByte", "(JI)Z"⟩ : MethodName)) hown (hw _ (List.mem_of_getElem? (i := 0) rfl)) (hw _ (List.mem_of_getElem? (i := 1) rfl)) (hw _ (List.mem_of_getElem? (i := 2) rfl)) (hw _ (List.mem_of_getElem? (i := 3) rfl)) (by decide) (rm1 l Z a0 hw [] x5 (7 : Int32) h0) (by decide) (by decide) rfl rfl (Nat.zero_le _) (Nat.zero_le _) e18 (g := (mkF m 144 #[.val (.long x0), .second, .val (.long x2), .second, .val (.int x4), .val (.long x5), .second, .val (.int x7), .val (.long x8), .second, .unset, .unset] [(.int (7 : Int32)), (.long x5)])) rfl (by rw [hml]; rfl) (argsL := [(.long x5), (.int (7 : Int32))]) (rest := []) (lenOf pd1 rfl) rfl (by show 2 * 0 + _ ≤ _; exact Nat.le_of_eq rfl) (hb hby at_144)
                refine OwnOut.go (fun t k => st19 _ k) ?_
                show OwnOut p e s below 0 0 _ (T19.setTop (mkF m 147 #[.val (.long x0), .second, .val (.long x2), .second, .val (.int x4), .val (.long x5), .second, .val (.int x7), .val (.long x8), .second, .unset, .unset] [(.int (f1 x5 (7 : Int32)))]))
                by_cases hc147 : (f1 x5 (7 : Int32)) = (0 : Int32)
                · rw [if_pos hc147]
                  refine OwnOut.go (fun t k => XS.ifYes X19.here hx rfl (pc0 := 147) (pc' := 154) rfl (hb hby at_147) rfl (XT.i0_eq_t hc147) (by decide) (by decide) k) ?_
                  show OwnOut p e s below 0 0 _ (T19.setTop (mkF m 154 #[.val (.long x0), .second, .val (.long x2), .second, .val (.int x4), .val (.long x5), .second, .val (.int x7), .val (.long x8), .second, .unset, .unset] []))
                  exact w0_154a x0 x2 x4 x5 x7 x8 X19 ⟨hx, hZ, hw, hby, hml, hown, hret, hlk, hnm⟩ e19
                · rw [if_neg hc147]
                  refine OwnOut.go (fun t k => XS.ifNo X19.here hx rfl (hb hby at_147) rfl (XT.i0_eq_f hc147) k) ?_
                  show OwnOut p e s below 0 0 _ (T19.setTop (mkF m 150 #[.val (.long x0), .second, .val (.long x2), .second, .val (.int x4), .val (.long x5), .second, .val (.int x7), .val (.long x8), .second, .unset, .unset] []))
                  refine OwnOut.go (fun t k => XT.iconstV X19.here hx rfl (1 : Int32) (hb hby at_150) rfl k) ?_
                  show OwnOut p e s below 0 0 _ (T19.setTop (mkF m 151 #[.val (.long x0), .second, .val (.long x2), .second, .val (.int x4), .val (.long x5), .second, .val (.int x7), .val (.long x8), .second, .unset, .unset] [(.int (1 : Int32))]))
                  refine OwnOut.go (fun t k => XS.goto X19.here hx rfl (pc0 := 151) (pc' := 155) rfl (hb hby at_151) (by decide) (by decide) k) ?_
                  show OwnOut p e s below 0 0 _ (T19.setTop (mkF m 155 #[.val (.long x0), .second, .val (.long x2), .second, .val (.int x4), .val (.long x5), .second, .val (.int x7), .val (.long x8), .second, .unset, .unset] [(.int (1 : Int32))]))
                  exact w0_155a x0 x2 x4 x5 x7 x8 (1 : Int32) X19 ⟨hx, hZ, hw, hby, hml, hown, hret, hlk, hnm⟩ e19
set_option maxRecDepth 65536 in
set_option maxHeartbeats 40000000 in
theorem w0_76b {p : Program} {l : Launch} {e : Env} {s : State} {m : MethodId} {args : Array Value} {below : List Frame} {meth : Method} {c : Code} {T Z : State} {a0 : Array Value} {h0 : Heap} (x0 : Int64) (x2 : Int64) (x4 : Int32) (x5 : Int64) (x7 : Int32) (x8 : Int64) (x10 : Int32) (x11 : Int32)
    (X0 : Stand p l e room_1 s m args below meth c T [] 0 0) (C : Cx0 Z a0 p s m meth c) (e0 : T.heap = h0) :
    OwnOut p e s below 0 0 (QP h0 (some (.int (f0_76 x5)))) (T.setTop (mkF m 76 #[.val (.long x0), .second, .val (.long x2), .second, .val (.int x4), .val (.long x5), .second, .val (.int x7), .val (.long x8), .second, .val (.int x10), .val (.int x11)] [])) := by
  obtain ⟨hx, hZ, hw, hby, hml, hown, hret, hlk, hnm⟩ := C
  rw [f0_76]
  refine OwnOut.go (fun t k => XS.lload X0.here hx rfl (hb hby at_76) rfl k) ?_
  show OwnOut p e s below 0 0 _ (T.setTop (mkF m 78 #[.val (.long x0), .second, .val (.long x2), .second, .val (.int x4), .val (.long x5), .second, .val (.int x7), .val (.long x8), .second, .val (.int x10), .val (.int x11)] [(.long x5)]))
  refine OwnOut.go (fun t k => XT.iconstV X0.here hx rfl (0 : Int32) (hb hby at_78) rfl k) ?_
  show OwnOut p e s below 0 0 _ (T.setTop (mkF m 79 #[.val (.long x0), .second, .val (.long x2), .second, .val (.int x4), .val (.long x5), .second, .val (.int x7), .val (.long x8), .second, .val (.int x10), .val (.int x11)] [(.int (0 : Int32)), (.long x5)]))
  obtain ⟨T20, X20, e20, st20⟩ := callP (W := 0) (rm := rx1) X0 hx hZ (y := (⟨"com/example/eigenmittel/eigenmittel/AsciiDigitsAllDigitsPinLaw", "isDigitByte", "(JI)Z"⟩ : MethodName)) hown (hw _ (List.mem_of_getElem? (i := 0) rfl)) (hw _ (List.mem_of_getElem? (i := 1) rfl)) (hw _ (List.mem_of_getElem? (i := 2) rfl)) (hw _ (List.mem_of_getElem? (i := 3) rfl)) (by decide) (rm1 l Z a0 hw [] x5 (0 : Int32) h0) (by decide) (by decide) rfl rfl (Nat.zero_le _) (Nat.zero_le _) e0 (g := (mkF m 79 #[.val (.long x0), .second, .val (.long x2), .second, .val (.int x4), .val (.long x5), .second, .val (.int x7), .val (.long x8), .second, .val (.int x10), .val (.int x11)] [(.int (0 : Int32)), (.long x5)])) rfl (by rw [hml]; rfl) (argsL := [(.long x5), (.int (0 : Int32))]) (rest := []) (lenOf pd1 rfl) rfl (by show 2 * 0 + _ ≤ _; exact Nat.le_of_eq rfl) (hb hby at_79)
  refine OwnOut.go (fun t k => st20 _ k) ?_
  show OwnOut p e s below 0 0 _ (T20.setTop (mkF m 82 #[.val (.long x0), .second, .val (.long x2), .second, .val (.int x4), .val (.long x5), .second, .val (.int x7), .val (.long x8), .second, .val (.int x10), .val (.int x11)] [(.int (f1 x5 (0 : Int32)))]))
  by_cases hc82 : (f1 x5 (0 : Int32)) = (0 : Int32)
  · rw [if_pos hc82]
    refine OwnOut.go (fun t k => XS.ifYes X20.here hx rfl (pc0 := 82) (pc' := 154) rfl (hb hby at_82) rfl (XT.i0_eq_t hc82) (by decide) (by decide) k) ?_
    show OwnOut p e s below 0 0 _ (T20.setTop (mkF m 154 #[.val (.long x0), .second, .val (.long x2), .second, .val (.int x4), .val (.long x5), .second, .val (.int x7), .val (.long x8), .second, .val (.int x10), .val (.int x11)] []))
    exact w0_154b x0 x2 x4 x5 x7 x8 x10 x11 X20 ⟨hx, hZ, hw, hby, hml, hown, hret, hlk, hnm⟩ e20
  · rw [if_neg hc82]
    refine OwnOut.go (fun t k => XS.ifNo X20.here hx rfl (hb hby at_82) rfl (XT.i0_eq_f hc82) k) ?_
    show OwnOut p e s below 0 0 _ (T20.setTop (mkF m 85 #[.val (.long x0), .second, .val (.long x2), .second, .val (.int x4), .val (.long x5), .second, .val (.int x7), .val (.long x8), .second, .val (.int x10), .val (.int x11)] []))
    refine OwnOut.go (fun t k => XS.lload X20.here hx rfl (hb hby at_85) rfl k) ?_
    show OwnOut p e s below 0 0 _ (T20.setTop (mkF m 87 #[.val (.long x0), .second, .val (.long x2), .second, .val (.int x4), .val (.long x5), .second, .val (.int x7), .val (.long x8), .second, .val (.int x10), .val (.int x11)] [(.long x5)]))
    refine OwnOut.go (fun t k => XT.iconstV X20.here hx rfl (1 : Int32) (hb hby at_87) rfl k) ?_
    show OwnOut p e s below 0 0 _ (T20.setTop (mkF m 88 #[.val (.long x0), .second, .val (.long x2), .second, .val (.int x4), .val (.long x5), .second, .val (.int x7), .val (.long x8), .second, .val (.int x10), .val (.int x11)] [(.int (1 : Int32)), (.long x5)]))
    obtain ⟨T21, X21, e21, st21⟩ := callP (W := 0) (rm := rx1) X20 hx hZ (y := (⟨"com/example/eigenmittel/eigenmittel/AsciiDigitsAllDigitsPinLaw", "isDigitByte", "(JI)Z"⟩ : MethodName)) hown (hw _ (List.mem_of_getElem? (i := 0) rfl)) (hw _ (List.mem_of_getElem? (i := 1) rfl)) (hw _ (List.mem_of_getElem? (i := 2) rfl)) (hw _ (List.mem_of_getElem? (i := 3) rfl)) (by decide) (rm1 l Z a0 hw [] x5 (1 : Int32) h0) (by decide) (by decide) rfl rfl (Nat.zero_le _) (Nat.zero_le _) e20 (g := (mkF m 88 #[.val (.long x0), .second, .val (.long x2), .second, .val (.int x4), .val (.long x5), .second, .val (.int x7), .val (.long x8), .second, .val (.int x10), .val (.int x11)] [(.int (1 : Int32)), (.long x5)])) rfl (by rw [hml]; rfl) (argsL := [(.long x5), (.int (1 : Int32))]) (rest := []) (lenOf pd1 rfl) rfl (by show 2 * 0 + _ ≤ _; exact Nat.le_of_eq rfl) (hb hby at_88)
    refine OwnOut.go (fun t k => st21 _ k) ?_
    show OwnOut p e s below 0 0 _ (T21.setTop (mkF m 91 #[.val (.long x0), .second, .val (.long x2), .second, .val (.int x4), .val (.long x5), .second, .val (.int x7), .val (.long x8), .second, .val (.int x10), .val (.int x11)] [(.int (f1 x5 (1 : Int32)))]))
    by_cases hc91 : (f1 x5 (1 : Int32)) = (0 : Int32)
    · rw [if_pos hc91]
      refine OwnOut.go (fun t k => XS.ifYes X21.here hx rfl (pc0 := 91) (pc' := 154) rfl (hb hby at_91) rfl (XT.i0_eq_t hc91) (by decide) (by decide) k) ?_
      show OwnOut p e s below 0 0 _ (T21.setTop (mkF m 154 #[.val (.long x0), .second, .val (.long x2), .second, .val (.int x4), .val (.long x5), .second, .val (.int x7), .val (.long x8), .second, .val (.int x10), .val (.int x11)] []))
      exact w0_154b x0 x2 x4 x5 x7 x8 x10 x11 X21 ⟨hx, hZ, hw, hby, hml, hown, hret, hlk, hnm⟩ e21
    · rw [if_neg hc91]
      refine OwnOut.go (fun t k => XS.ifNo X21.here hx rfl (hb hby at_91) rfl (XT.i0_eq_f hc91) k) ?_
      show OwnOut p e s below 0 0 _ (T21.setTop (mkF m 94 #[.val (.long x0), .second, .val (.long x2), .second, .val (.int x4), .val (.long x5), .second, .val (.int x7), .val (.long x8), .second, .val (.int x10), .val (.int x11)] []))
      refine OwnOut.go (fun t k => XS.lload X21.here hx rfl (hb hby at_94) rfl k) ?_
      show OwnOut p e s below 0 0 _ (T21.setTop (mkF m 96 #[.val (.long x0), .second, .val (.long x2), .second, .val (.int x4), .val (.long x5), .second, .val (.int x7), .val (.long x8), .second, .val (.int x10), .val (.int x11)] [(.long x5)]))
      refine OwnOut.go (fun t k => XT.iconstV X21.here hx rfl (2 : Int32) (hb hby at_96) rfl k) ?_
      show OwnOut p e s below 0 0 _ (T21.setTop (mkF m 97 #[.val (.long x0), .second, .val (.long x2), .second, .val (.int x4), .val (.long x5), .second, .val (.int x7), .val (.long x8), .second, .val (.int x10), .val (.int x11)] [(.int (2 : Int32)), (.long x5)]))
      obtain ⟨T22, X22, e22, st22⟩ := callP (W := 0) (rm := rx1) X21 hx hZ (y := (⟨"com/example/eigenmittel/eigenmittel/AsciiDigitsAllDigitsPinLaw", "isDigitByte", "(JI)Z"⟩ : MethodName)) hown (hw _ (List.mem_of_getElem? (i := 0) rfl)) (hw _ (List.mem_of_getElem? (i := 1) rfl)) (hw _ (List.mem_of_getElem? (i := 2) rfl)) (hw _ (List.mem_of_getElem? (i := 3) rfl)) (by decide) (rm1 l Z a0 hw [] x5 (2 : Int32) h0) (by decide) (by decide) rfl rfl (Nat.zero_le _) (Nat.zero_le _) e21 (g := (mkF m 97 #[.val (.long x0), .second, .val (.long x2), .second, .val (.int x4), .val (.long x5), .second, .val (.int x7), .val (.long x8), .second, .val (.int x10), .val (.int x11)] [(.int (2 : Int32)), (.long x5)])) rfl (by rw [hml]; rfl) (argsL := [(.long x5), (.int (2 : Int32))]) (rest := []) (lenOf pd1 rfl) rfl (by show 2 * 0 + _ ≤ _; exact Nat.le_of_eq rfl) (hb hby at_97)
      refine OwnOut.go (fun t k => st22 _ k) ?_
      show OwnOut p e s below 0 0 _ (T22.setTop (mkF m 100 #[.val (.long x0), .second, .val (.long x2), .second, .val (.int x4), .val (.long x5), .second, .val (.int x7), .val (.long x8), .second, .val (.int x10), .val (.int x11)] [(.int (f1 x5 (2 : Int32)))]))
      by_cases hc100 : (f1 x5 (2 : Int32)) = (0 : Int32)
      · rw [if_pos hc100]
        refine OwnOut.go (fun t k => XS.ifYes X22.here hx rfl (pc0 := 100) (pc' := 154) rfl (hb hby at_100) rfl (XT.i0_eq_t hc100) (by decide) (by decide) k) ?_
        show OwnOut p e s below 0 0 _ (T22.setTop (mkF m 154 #[.val (.long x0), .second, .val (.long x2), .second, .val (.int x4), .val (.long x5), .second, .val (.int x7), .val (.long x8), .second, .val (.int x10), .val (.int x11)] []))
        exact w0_154b x0 x2 x4 x5 x7 x8 x10 x11 X22 ⟨hx, hZ, hw, hby, hml, hown, hret, hlk, hnm⟩ e22
      · rw [if_neg hc100]
        refine OwnOut.go (fun t k => XS.ifNo X22.here hx rfl (hb hby at_100) rfl (XT.i0_eq_f hc100) k) ?_
        show OwnOut p e s below 0 0 _ (T22.setTop (mkF m 103 #[.val (.long x0), .second, .val (.long x2), .second, .val (.int x4), .val (.long x5), .second, .val (.int x7), .val (.long x8), .second, .val (.int x10), .val (.int x11)] []))
        refine OwnOut.go (fun t k => XS.lload X22.here hx rfl (hb hby at_103) rfl k) ?_
        show OwnOut p e s below 0 0 _ (T22.setTop (mkF m 105 #[.val (.long x0), .second, .val (.long x2), .second, .val (.int x4), .val (.long x5), .second, .val (.int x7), .val (.long x8), .second, .val (.int x10), .val (.int x11)] [(.long x5)]))
        refine OwnOut.go (fun t k => XT.iconstV X22.here hx rfl (3 : Int32) (hb hby at_105) rfl k) ?_
        show OwnOut p e s below 0 0 _ (T22.setTop (mkF m 106 #[.val (.long x0), .second, .val (.long x2), .second, .val (.int x4), .val (.long x5), .second, .val (.int x7), .val (.long x8), .second, .val (.int x10), .val (.int x11)] [(.int (3 : Int32)), (.long x5)]))
        obtain ⟨T23, X23, e23, st23⟩ := callP (W := 0) (rm := rx1) X22 hx hZ (y := (⟨"com/example/eigenmittel/eigenmittel/AsciiDigitsAllDigitsPinLaw", "isDigitByte", "(JI)Z"⟩ : MethodName)) hown (hw _ (List.mem_of_getElem? (i := 0) rfl)) (hw _ (List.mem_of_getElem? (i := 1) rfl)) (hw _ (List.mem_of_getElem? (i := 2) rfl)) (hw _ (List.mem_of_getElem? (i := 3) rfl)) (by decide) (rm1 l Z a0 hw [] x5 (3 : Int32) h0) (by decide) (by decide) rfl rfl (Nat.zero_le _) (Nat.zero_le _) e22 (g := (mkF m 106 #[.val (.long x0), .second, .val (.long x2), .second, .val (.int x4), .val (.long x5), .second, .val (.int x7), .val (.long x8), .second, .val (.int x10), .val (.int x11)] [(.int (3 : Int32)), (.long x5)])) rfl (by rw [hml]; rfl) (argsL := [(.long x5), (.int (3 : Int32))]) (rest := []) (lenOf pd1 rfl) rfl (by show 2 * 0 + _ ≤ _; exact Nat.le_of_eq rfl) (hb hby at_106)
        refine OwnOut.go (fun t k => st23 _ k) ?_
        show OwnOut p e s below 0 0 _ (T23.setTop (mkF m 109 #[.val (.long x0), .second, .val (.long x2), .second, .val (.int x4), .val (.long x5), .second, .val (.int x7), .val (.long x8), .second, .val (.int x10), .val (.int x11)] [(.int (f1 x5 (3 : Int32)))]))
        by_cases hc109 : (f1 x5 (3 : Int32)) = (0 : Int32)
        · rw [if_pos hc109]
          refine OwnOut.go (fun t k => XS.ifYes X23.here hx rfl (pc0 := 109) (pc' := 154) rfl (hb hby at_109) rfl (XT.i0_eq_t hc109) (by decide) (by decide) k) ?_
          show OwnOut p e s below 0 0 _ (T23.setTop (mkF m 154 #[.val (.long x0), .second, .val (.long x2), .second, .val (.int x4), .val (.long x5), .second, .val (.int x7), .val (.long x8), .second, .val (.int x10), .val (.int x11)] []))
          exact w0_154b x0 x2 x4 x5 x7 x8 x10 x11 X23 ⟨hx, hZ, hw, hby, hml, hown, hret, hlk, hnm⟩ e23
        · rw [if_neg hc109]
          refine OwnOut.go (fun t k => XS.ifNo X23.here hx rfl (hb hby at_109) rfl (XT.i0_eq_f hc109) k) ?_
          show OwnOut p e s below 0 0 _ (T23.setTop (mkF m 112 #[.val (.long x0), .second, .val (.long x2), .second, .val (.int x4), .val (.long x5), .second, .val (.int x7), .val (.long x8), .second, .val (.int x10), .val (.int x11)] []))
          refine OwnOut.go (fun t k => XS.lload X23.here hx rfl (hb hby at_112) rfl k) ?_
          show OwnOut p e s below 0 0 _ (T23.setTop (mkF m 114 #[.val (.long x0), .second, .val (.long x2), .second, .val (.int x4), .val (.long x5), .second, .val (.int x7), .val (.long x8), .second, .val (.int x10), .val (.int x11)] [(.long x5)]))
          refine OwnOut.go (fun t k => XT.iconstV X23.here hx rfl (4 : Int32) (hb hby at_114) rfl k) ?_
          show OwnOut p e s below 0 0 _ (T23.setTop (mkF m 115 #[.val (.long x0), .second, .val (.long x2), .second, .val (.int x4), .val (.long x5), .second, .val (.int x7), .val (.long x8), .second, .val (.int x10), .val (.int x11)] [(.int (4 : Int32)), (.long x5)]))
          obtain ⟨T24, X24, e24, st24⟩ := callP (W := 0) (rm := rx1) X23 hx hZ (y := (⟨"com/example/eigenmittel/eigenmittel/AsciiDigitsAllDigitsPinLaw", "isDigitByte", "(JI)Z"⟩ : MethodName)) hown (hw _ (List.mem_of_getElem? (i := 0) rfl)) (hw _ (List.mem_of_getElem? (i := 1) rfl)) (hw _ (List.mem_of_getElem? (i := 2) rfl)) (hw _ (List.mem_of_getElem? (i := 3) rfl)) (by decide) (rm1 l Z a0 hw [] x5 (4 : Int32) h0) (by decide) (by decide) rfl rfl (Nat.zero_le _) (Nat.zero_le _) e23 (g := (mkF m 115 #[.val (.long x0), .second, .val (.long x2), .second, .val (.int x4), .val (.long x5), .second, .val (.int x7), .val (.long x8), .second, .val (.int x10), .val (.int x11)] [(.int (4 : Int32)), (.long x5)])) rfl (by rw [hml]; rfl) (argsL := [(.long x5), (.int (4 : Int32))]) (rest := []) (lenOf pd1 rfl) rfl (by show 2 * 0 + _ ≤ _; exact Nat.le_of_eq rfl) (hb hby at_115)
          refine OwnOut.go (fun t k => st24 _ k) ?_
          show OwnOut p e s below 0 0 _ (T24.setTop (mkF m 118 #[.val (.long x0), .second, .val (.long x2), .second, .val (.int x4), .val (.long x5), .second, .val (.int x7), .val (.long x8), .second, .val (.int x10), .val (.int x11)] [(.int (f1 x5 (4 : Int32)))]))
          by_cases hc118 : (f1 x5 (4 : Int32)) = (0 : Int32)
          · rw [if_pos hc118]
            refine OwnOut.go (fun t k => XS.ifYes X24.here hx rfl (pc0 := 118) (pc' := 154) rfl (hb hby at_118) rfl (XT.i0_eq_t hc118) (by decide) (by decide) k) ?_
            show OwnOut p e s below 0 0 _ (T24.setTop (mkF m 154 #[.val (.long x0), .second, .val (.long x2), .second, .val (.int x4), .val (.long x5), .second, .val (.int x7), .val (.long x8), .second, .val (.int x10), .val (.int x11)] []))
            exact w0_154b x0 x2 x4 x5 x7 x8 x10 x11 X24 ⟨hx, hZ, hw, hby, hml, hown, hret, hlk, hnm⟩ e24
          · rw [if_neg hc118]
            refine OwnOut.go (fun t k => XS.ifNo X24.here hx rfl (hb hby at_118) rfl (XT.i0_eq_f hc118) k) ?_
            show OwnOut p e s below 0 0 _ (T24.setTop (mkF m 121 #[.val (.long x0), .second, .val (.long x2), .second, .val (.int x4), .val (.long x5), .second, .val (.int x7), .val (.long x8), .second, .val (.int x10), .val (.int x11)] []))
            refine OwnOut.go (fun t k => XS.lload X24.here hx rfl (hb hby at_121) rfl k) ?_
            show OwnOut p e s below 0 0 _ (T24.setTop (mkF m 123 #[.val (.long x0), .second, .val (.long x2), .second, .val (.int x4), .val (.long x5), .second, .val (.int x7), .val (.long x8), .second, .val (.int x10), .val (.int x11)] [(.long x5)]))
            refine OwnOut.go (fun t k => XT.iconstV X24.here hx rfl (5 : Int32) (hb hby at_123) rfl k) ?_
            show OwnOut p e s below 0 0 _ (T24.setTop (mkF m 124 #[.val (.long x0), .second, .val (.long x2), .second, .val (.int x4), .val (.long x5), .second, .val (.int x7), .val (.long x8), .second, .val (.int x10), .val (.int x11)] [(.int (5 : Int32)), (.long x5)]))
            obtain ⟨T25, X25, e25, st25⟩ := callP (W := 0) (rm := rx1) X24 hx hZ (y := (⟨"com/example/eigenmittel/eigenmittel/AsciiDigitsAllDigitsPinLaw", "isDigitByte", "(JI)Z"⟩ : MethodName)) hown (hw _ (List.mem_of_getElem? (i := 0) rfl)) (hw _ (List.mem_of_getElem? (i := 1) rfl)) (hw _ (List.mem_of_getElem? (i := 2) rfl)) (hw _ (List.mem_of_getElem? (i := 3) rfl)) (by decide) (rm1 l Z a0 hw [] x5 (5 : Int32) h0) (by decide) (by decide) rfl rfl (Nat.zero_le _) (Nat.zero_le _) e24 (g := (mkF m 124 #[.val (.long x0), .second, .val (.long x2), .second, .val (.int x4), .val (.long x5), .second, .val (.int x7), .val (.long x8), .second, .val (.int x10), .val (.int x11)] [(.int (5 : Int32)), (.long x5)])) rfl (by rw [hml]; rfl) (argsL := [(.long x5), (.int (5 : Int32))]) (rest := []) (lenOf pd1 rfl) rfl (by show 2 * 0 + _ ≤ _; exact Nat.le_of_eq rfl) (hb hby at_124)
            refine OwnOut.go (fun t k => st25 _ k) ?_
            show OwnOut p e s below 0 0 _ (T25.setTop (mkF m 127 #[.val (.long x0), .second, .val (.long x2), .second, .val (.int x4), .val (.long x5), .second, .val (.int x7), .val (.long x8), .second, .val (.int x10), .val (.int x11)] [(.int (f1 x5 (5 : Int32)))]))
            by_cases hc127 : (f1 x5 (5 : Int32)) = (0 : Int32)
            · rw [if_pos hc127]
              refine OwnOut.go (fun t k => XS.ifYes X25.here hx rfl (pc0 := 127) (pc' := 154) rfl (hb hby at_127) rfl (XT.i0_eq_t hc127) (by decide) (by decide) k) ?_
              show OwnOut p e s below 0 0 _ (T25.setTop (mkF m 154 #[.val (.long x0), .second, .val (.long x2), .second, .val (.int x4), .val (.long x5), .second, .val (.int x7), .val (.long x8), .second, .val (.int x10), .val (.int x11)] []))
              exact w0_154b x0 x2 x4 x5 x7 x8 x10 x11 X25 ⟨hx, hZ, hw, hby, hml, hown, hret, hlk, hnm⟩ e25
            · rw [if_neg hc127]
              refine OwnOut.go (fun t k => XS.ifNo X25.here hx rfl (hb hby at_127) rfl (XT.i0_eq_f hc127) k) ?_
              show OwnOut p e s below 0 0 _ (T25.setTop (mkF m 130 #[.val (.long x0), .second, .val (.long x2), .second, .val (.int x4), .val (.long x5), .second, .val (.int x7), .val (.long x8), .second, .val (.int x10), .val (.int x11)] []))
              refine OwnOut.go (fun t k => XS.lload X25.here hx rfl (hb hby at_130) rfl k) ?_
              show OwnOut p e s below 0 0 _ (T25.setTop (mkF m 132 #[.val (.long x0), .second, .val (.long x2), .second, .val (.int x4), .val (.long x5), .second, .val (.int x7), .val (.long x8), .second, .val (.int x10), .val (.int x11)] [(.long x5)]))
              refine OwnOut.go (fun t k => XT.bipushV X25.here hx rfl (6 : Int32) (hb hby at_132) rfl k) ?_
              show OwnOut p e s below 0 0 _ (T25.setTop (mkF m 134 #[.val (.long x0), .second, .val (.long x2), .second, .val (.int x4), .val (.long x5), .second, .val (.int x7), .val (.long x8), .second, .val (.int x10), .val (.int x11)] [(.int (6 : Int32)), (.long x5)]))
              obtain ⟨T26, X26, e26, st26⟩ := callP (W := 0) (rm := rx1) X25 hx hZ (y := (⟨"com/example/eigenmittel/eigenmittel/AsciiDigitsAllDigitsPinLaw", "isDigitByte", "(JI)Z"⟩ : MethodName)) hown (hw _ (List.mem_of_getElem? (i := 0) rfl)) (hw _ (List.mem_of_getElem? (i := 1) rfl)) (hw _ (List.mem_of_getElem? (i := 2) rfl)) (hw _ (List.mem_of_getElem? (i := 3) rfl)) (by decide) (rm1 l Z a0 hw [] x5 (6 : Int32) h0) (by decide) (by decide) rfl rfl (Nat.zero_le _) (Nat.zero_le _) e25 (g := (mkF m 134 #[.val (.long x0), .second, .val (.long x2), .second, .val (.int x4), .val (.long x5), .second, .val (.int x7), .val (.long x8), .second, .val (.int x10), .val (.int x11)] [(.int (6 : Int32)), (.long x5)])) rfl (by rw [hml]; rfl) (argsL := [(.long x5), (.int (6 : Int32))]) (rest := []) (lenOf pd1 rfl) rfl (by show 2 * 0 + _ ≤ _; exact Nat.le_of_eq rfl) (hb hby at_134)
              refine OwnOut.go (fun t k => st26 _ k) ?_
              show OwnOut p e s below 0 0 _ (T26.setTop (mkF m 137 #[.val (.long x0), .second, .val (.long x2), .second, .val (.int x4), .val (.long x5), .second, .val (.int x7), .val (.long x8), .second, .val (.int x10), .val (.int x11)] [(.int (f1 x5 (6 : Int32)))]))
              by_cases hc137 : (f1 x5 (6 : Int32)) = (0 : Int32)
              · rw [if_pos hc137]
                refine OwnOut.go (fun t k => XS.ifYes X26.here hx rfl (pc0 := 137) (pc' := 154) rfl (hb hby at_137) rfl (XT.i0_eq_t hc137) (by decide) (by decide) k) ?_
                show OwnOut p e s below 0 0 _ (T26.setTop (mkF m 154 #[.val (.long x0), .second, .val (.long x2), .second, .val (.int x4), .val (.long x5), .second, .val (.int x7), .val (.long x8), .second, .val (.int x10), .val (.int x11)] []))
                exact w0_154b x0 x2 x4 x5 x7 x8 x10 x11 X26 ⟨hx, hZ, hw, hby, hml, hown, hret, hlk, hnm⟩ e26
              · rw [if_neg hc137]
                refine OwnOut.go (fun t k => XS.ifNo X26.here hx rfl (hb hby at_137) rfl (XT.i0_eq_f hc137) k) ?_
                show OwnOut p e s below 0 0 _ (T26.setTop (mkF m 140 #[.val (.long x0), .second, .val (.long x2), .second, .val (.int x4), .val (.long x5), .second, .val (.int x7), .val (.long x8), .second, .val (.int x10), .val (.int x11)] []))
                refine OwnOut.go (fun t k => XS.lload X26.here hx rfl (hb hby at_140) rfl k) ?_
                show OwnOut p e s below 0 0 _ (T26.setTop (mkF m 142 #[.val (.long x0), .second, .val (.long x2), .second, .val (.int x4), .val (.long x5), .second, .val (.int x7), .val (.long x8), .second, .val (.int x10), .val (.int x11)] [(.long x5)]))
                refine OwnOut.go (fun t k => XT.bipushV X26.here hx rfl (7 : Int32) (hb hby at_142) rfl k) ?_
                show OwnOut p e s below 0 0 _ (T26.setTop (mkF m 144 #[.val (.long x0), .second, .val (.long x2), .second, .val (.int x4), .val (.long x5), .second, .val (.int x7), .val (.long x8), .second, .val (.int x10), .val (.int x11)] [(.int (7 : Int32)), (.long x5)]))
                obtain ⟨T27, X27, e27, st27⟩ := callP (W := 0) (rm := rx1) X26 hx hZ (y := (⟨"com/example/eigenmittel/eigenmittel/AsciiDigitsAllDigitsPinLaw", "isDigitByte", "(JI)Z"⟩ : MethodName)) hown (hw _ (List.mem_of_getElem? (i := 0) rfl)) (hw _ (List.mem_of_getElem? (i := 1) rfl)) (hw _ (List.mem_of_getElem? (i := 2) rfl)) (hw _ (List.mem_of_getElem? (i := 3) rfl)) (by decide) (rm1 l Z a0 hw [] x5 (7 : Int32) h0) (by decide) (by decide) rfl rfl (Nat.zero_le _) (Nat.zero_le _) e26 (g := (mkF m 144 #[.val (.long x0), .second, .val (.long x2), .second, .val (.int x4), .val (.long x5), .second, .val (.int x7), .val (.long x8), .second, .val (.int x10), .val (.int x11)] [(.int (7 : Int32)), (.long x5)])) rfl (by rw [hml]; rfl) (argsL := [(.long x5), (.int (7 : Int32))]) (rest := []) (lenOf pd1 rfl) rfl (by show 2 * 0 + _ ≤ _; exact Nat.le_of_eq rfl) (hb hby at_144)
                refine OwnOut.go (fun t k => st27 _ k) ?_
                show OwnOut p e s below 0 0 _ (T27.setTop (mkF m 147 #[.val (.long x0), .second, .val (.long x2), .second, .val (.int x4), .val (.long x5), .second, .val (.int x7), .val (.long x8), .second, .val (.int x10), .val (.int x11)] [(.int (f1 x5 (7 : Int32)))]))
                by_cases hc147 : (f1 x5 (7 : Int32)) = (0 : Int32)
                · rw [if_pos hc147]
                  refine OwnOut.go (fun t k => XS.ifYes X27.here hx rfl (pc0 := 147) (pc' := 154) rfl (hb hby at_147) rfl (XT.i0_eq_t hc147) (by decide) (by decide) k) ?_
                  show OwnOut p e s below 0 0 _ (T27.setTop (mkF m 154 #[.val (.long x0), .second, .val (.long x2), .second, .val (.int x4), .val (.long x5), .second, .val (.int x7), .val (.long x8), .second, .val (.int x10), .val (.int x11)] []))
                  exact w0_154b x0 x2 x4 x5 x7 x8 x10 x11 X27 ⟨hx, hZ, hw, hby, hml, hown, hret, hlk, hnm⟩ e27
                · rw [if_neg hc147]
                  refine OwnOut.go (fun t k => XS.ifNo X27.here hx rfl (hb hby at_147) rfl (XT.i0_eq_f hc147) k) ?_
                  show OwnOut p e s below 0 0 _ (T27.setTop (mkF m 150 #[.val (.long x0), .second, .val (.long x2), .second, .val (.int x4), .val (.long x5), .second, .val (.int x7), .val (.long x8), .second, .val (.int x10), .val (.int x11)] []))
                  refine OwnOut.go (fun t k => XT.iconstV X27.here hx rfl (1 : Int32) (hb hby at_150) rfl k) ?_
                  show OwnOut p e s below 0 0 _ (T27.setTop (mkF m 151 #[.val (.long x0), .second, .val (.long x2), .second, .val (.int x4), .val (.long x5), .second, .val (.int x7), .val (.long x8), .second, .val (.int x10), .val (.int x11)] [(.int (1 : Int32))]))
                  refine OwnOut.go (fun t k => XS.goto X27.here hx rfl (pc0 := 151) (pc' := 155) rfl (hb hby at_151) (by decide) (by decide) k) ?_
                  show OwnOut p e s below 0 0 _ (T27.setTop (mkF m 155 #[.val (.long x0), .second, .val (.long x2), .second, .val (.int x4), .val (.long x5), .second, .val (.int x7), .val (.long x8), .second, .val (.int x10), .val (.int x11)] [(.int (1 : Int32))]))
                  exact w0_155b x0 x2 x4 x5 x7 x8 x10 x11 (1 : Int32) X27 ⟨hx, hZ, hw, hby, hml, hown, hret, hlk, hnm⟩ e27
def f0_45 (x2 : Int64) (x8 : Int64) (x10 : Int32) : Int32 := (f0_76 ((x8 &&& (((255 : Int64) <<< (((8 : Int32) * x10) &&& 0x3f).toInt64) ^^^ (-1 : Int64))) ||| ((x2 &&& (255 : Int64)) <<< (((8 : Int32) * x10) &&& 0x3f).toInt64)))
set_option maxRecDepth 65536 in
set_option maxHeartbeats 40000000 in
theorem w0_45 {p : Program} {l : Launch} {e : Env} {s : State} {m : MethodId} {args : Array Value} {below : List Frame} {meth : Method} {c : Code} {T Z : State} {a0 : Array Value} {h0 : Heap} (x0 : Int64) (x2 : Int64) (x4 : Int32) (x7 : Int32) (x8 : Int64) (x10 : Int32)
    (X0 : Stand p l e room_1 s m args below meth c T [] 0 0) (C : Cx0 Z a0 p s m meth c) (e0 : T.heap = h0) :
    OwnOut p e s below 0 0 (QP h0 (some (.int (f0_45 x2 x8 x10)))) (T.setTop (mkF m 45 #[.val (.long x0), .second, .val (.long x2), .second, .val (.int x4), .unset, .unset, .val (.int x7), .val (.long x8), .second, .val (.int x10), .unset] [])) := by
  obtain ⟨hx, hZ, hw, hby, hml, hown, hret, hlk, hnm⟩ := C
  rw [f0_45]
  refine OwnOut.go (fun t k => XT.bipushV X0.here hx rfl (8 : Int32) (hb hby at_45) rfl k) ?_
  show OwnOut p e s below 0 0 _ (T.setTop (mkF m 47 #[.val (.long x0), .second, .val (.long x2), .second, .val (.int x4), .unset, .unset, .val (.int x7), .val (.long x8), .second, .val (.int x10), .unset] [(.int (8 : Int32))]))
  refine OwnOut.go (fun t k => XS.iload X0.here hx rfl (hb hby at_47) rfl k) ?_
  show OwnOut p e s below 0 0 _ (T.setTop (mkF m 49 #[.val (.long x0), .second, .val (.long x2), .second, .val (.int x4), .unset, .unset, .val (.int x7), .val (.long x8), .second, .val (.int x10), .unset] [(.int x10), (.int (8 : Int32))]))
  refine OwnOut.go (fun t k => XS.imul X0.here hx rfl (hb hby at_49) rfl k) ?_
  show OwnOut p e s below 0 0 _ (T.setTop (mkF m 50 #[.val (.long x0), .second, .val (.long x2), .second, .val (.int x4), .unset, .unset, .val (.int x7), .val (.long x8), .second, .val (.int x10), .unset] [(.int ((8 : Int32) * x10))]))
  refine OwnOut.go (fun t k => XS.istore X0.here hx rfl (hb hby at_50) rfl (l' := #[.val (.long x0), .second, .val (.long x2), .second, .val (.int x4), .unset, .unset, .val (.int x7), .val (.long x8), .second, .val (.int x10), .val (.int ((8 : Int32) * x10))]) rfl k) ?_
  show OwnOut p e s below 0 0 _ (T.setTop (mkF m 52 #[.val (.long x0), .second, .val (.long x2), .second, .val (.int x4), .unset, .unset, .val (.int x7), .val (.long x8), .second, .val (.int x10), .val (.int ((8 : Int32) * x10))] []))
  refine OwnOut.go (fun t k => XS.lload X0.here hx rfl (hb hby at_52) rfl k) ?_
  show OwnOut p e s below 0 0 _ (T.setTop (mkF m 54 #[.val (.long x0), .second, .val (.long x2), .second, .val (.int x4), .unset, .unset, .val (.int x7), .val (.long x8), .second, .val (.int x10), .val (.int ((8 : Int32) * x10))] [(.long x8)]))
  refine OwnOut.go (fun t k => X0.ldc2Long hx hown (mvT hZ (hw _ (List.mem_of_getElem? (i := 4) rfl))) (g := (mkF m 54 #[.val (.long x0), .second, .val (.long x2), .second, .val (.int x4), .unset, .unset, .val (.int x7), .val (.long x8), .second, .val (.int x10), .val (.int ((8 : Int32) * x10))] [(.long x8)])) rfl (hb hby at_54) _ k) ?_
  show OwnOut p e s below 0 0 _ (T.setTop (mkF m 57 #[.val (.long x0), .second, .val (.long x2), .second, .val (.int x4), .unset, .unset, .val (.int x7), .val (.long x8), .second, .val (.int x10), .val (.int ((8 : Int32) * x10))] [(.long (255 : Int64)), (.long x8)]))
  refine OwnOut.go (fun t k => XS.iload X0.here hx rfl (hb hby at_57) rfl k) ?_
  show OwnOut p e s below 0 0 _ (T.setTop (mkF m 59 #[.val (.long x0), .second, .val (.long x2), .second, .val (.int x4), .unset, .unset, .val (.int x7), .val (.long x8), .second, .val (.int x10), .val (.int ((8 : Int32) * x10))] [(.int ((8 : Int32) * x10)), (.long (255 : Int64)), (.long x8)]))
  refine OwnOut.go (fun t k => XS.lshl X0.here hx rfl (hb hby at_59) rfl k) ?_
  show OwnOut p e s below 0 0 _ (T.setTop (mkF m 60 #[.val (.long x0), .second, .val (.long x2), .second, .val (.int x4), .unset, .unset, .val (.int x7), .val (.long x8), .second, .val (.int x10), .val (.int ((8 : Int32) * x10))] [(.long ((255 : Int64) <<< (((8 : Int32) * x10) &&& 0x3f).toInt64)), (.long x8)]))
  refine OwnOut.go (fun t k => X0.ldc2Long hx hown (mvT hZ (hw _ (List.mem_of_getElem? (i := 20) rfl))) (g := (mkF m 60 #[.val (.long x0), .second, .val (.long x2), .second, .val (.int x4), .unset, .unset, .val (.int x7), .val (.long x8), .second, .val (.int x10), .val (.int ((8 : Int32) * x10))] [(.long ((255 : Int64) <<< (((8 : Int32) * x10) &&& 0x3f).toInt64)), (.long x8)])) rfl (hb hby at_60) _ k) ?_
  show OwnOut p e s below 0 0 _ (T.setTop (mkF m 63 #[.val (.long x0), .second, .val (.long x2), .second, .val (.int x4), .unset, .unset, .val (.int x7), .val (.long x8), .second, .val (.int x10), .val (.int ((8 : Int32) * x10))] [(.long (-1 : Int64)), (.long ((255 : Int64) <<< (((8 : Int32) * x10) &&& 0x3f).toInt64)), (.long x8)]))
  refine OwnOut.go (fun t k => XS.lxor X0.here hx rfl (hb hby at_63) rfl k) ?_
  show OwnOut p e s below 0 0 _ (T.setTop (mkF m 64 #[.val (.long x0), .second, .val (.long x2), .second, .val (.int x4), .unset, .unset, .val (.int x7), .val (.long x8), .second, .val (.int x10), .val (.int ((8 : Int32) * x10))] [(.long (((255 : Int64) <<< (((8 : Int32) * x10) &&& 0x3f).toInt64) ^^^ (-1 : Int64))), (.long x8)]))
  refine OwnOut.go (fun t k => XS.land X0.here hx rfl (hb hby at_64) rfl k) ?_
  show OwnOut p e s below 0 0 _ (T.setTop (mkF m 65 #[.val (.long x0), .second, .val (.long x2), .second, .val (.int x4), .unset, .unset, .val (.int x7), .val (.long x8), .second, .val (.int x10), .val (.int ((8 : Int32) * x10))] [(.long (x8 &&& (((255 : Int64) <<< (((8 : Int32) * x10) &&& 0x3f).toInt64) ^^^ (-1 : Int64))))]))
  refine OwnOut.go (fun t k => XS.lloadN X0.here hx rfl (hb hby at_65) rfl k) ?_
  show OwnOut p e s below 0 0 _ (T.setTop (mkF m 66 #[.val (.long x0), .second, .val (.long x2), .second, .val (.int x4), .unset, .unset, .val (.int x7), .val (.long x8), .second, .val (.int x10), .val (.int ((8 : Int32) * x10))] [(.long x2), (.long (x8 &&& (((255 : Int64) <<< (((8 : Int32) * x10) &&& 0x3f).toInt64) ^^^ (-1 : Int64))))]))
  refine OwnOut.go (fun t k => X0.ldc2Long hx hown (mvT hZ (hw _ (List.mem_of_getElem? (i := 4) rfl))) (g := (mkF m 66 #[.val (.long x0), .second, .val (.long x2), .second, .val (.int x4), .unset, .unset, .val (.int x7), .val (.long x8), .second, .val (.int x10), .val (.int ((8 : Int32) * x10))] [(.long x2), (.long (x8 &&& (((255 : Int64) <<< (((8 : Int32) * x10) &&& 0x3f).toInt64) ^^^ (-1 : Int64))))])) rfl (hb hby at_66) _ k) ?_
  show OwnOut p e s below 0 0 _ (T.setTop (mkF m 69 #[.val (.long x0), .second, .val (.long x2), .second, .val (.int x4), .unset, .unset, .val (.int x7), .val (.long x8), .second, .val (.int x10), .val (.int ((8 : Int32) * x10))] [(.long (255 : Int64)), (.long x2), (.long (x8 &&& (((255 : Int64) <<< (((8 : Int32) * x10) &&& 0x3f).toInt64) ^^^ (-1 : Int64))))]))
  refine OwnOut.go (fun t k => XS.land X0.here hx rfl (hb hby at_69) rfl k) ?_
  show OwnOut p e s below 0 0 _ (T.setTop (mkF m 70 #[.val (.long x0), .second, .val (.long x2), .second, .val (.int x4), .unset, .unset, .val (.int x7), .val (.long x8), .second, .val (.int x10), .val (.int ((8 : Int32) * x10))] [(.long (x2 &&& (255 : Int64))), (.long (x8 &&& (((255 : Int64) <<< (((8 : Int32) * x10) &&& 0x3f).toInt64) ^^^ (-1 : Int64))))]))
  refine OwnOut.go (fun t k => XS.iload X0.here hx rfl (hb hby at_70) rfl k) ?_
  show OwnOut p e s below 0 0 _ (T.setTop (mkF m 72 #[.val (.long x0), .second, .val (.long x2), .second, .val (.int x4), .unset, .unset, .val (.int x7), .val (.long x8), .second, .val (.int x10), .val (.int ((8 : Int32) * x10))] [(.int ((8 : Int32) * x10)), (.long (x2 &&& (255 : Int64))), (.long (x8 &&& (((255 : Int64) <<< (((8 : Int32) * x10) &&& 0x3f).toInt64) ^^^ (-1 : Int64))))]))
  refine OwnOut.go (fun t k => XS.lshl X0.here hx rfl (hb hby at_72) rfl k) ?_
  show OwnOut p e s below 0 0 _ (T.setTop (mkF m 73 #[.val (.long x0), .second, .val (.long x2), .second, .val (.int x4), .unset, .unset, .val (.int x7), .val (.long x8), .second, .val (.int x10), .val (.int ((8 : Int32) * x10))] [(.long ((x2 &&& (255 : Int64)) <<< (((8 : Int32) * x10) &&& 0x3f).toInt64)), (.long (x8 &&& (((255 : Int64) <<< (((8 : Int32) * x10) &&& 0x3f).toInt64) ^^^ (-1 : Int64))))]))
  refine OwnOut.go (fun t k => XS.lor X0.here hx rfl (hb hby at_73) rfl k) ?_
  show OwnOut p e s below 0 0 _ (T.setTop (mkF m 74 #[.val (.long x0), .second, .val (.long x2), .second, .val (.int x4), .unset, .unset, .val (.int x7), .val (.long x8), .second, .val (.int x10), .val (.int ((8 : Int32) * x10))] [(.long ((x8 &&& (((255 : Int64) <<< (((8 : Int32) * x10) &&& 0x3f).toInt64) ^^^ (-1 : Int64))) ||| ((x2 &&& (255 : Int64)) <<< (((8 : Int32) * x10) &&& 0x3f).toInt64)))]))
  refine OwnOut.go (fun t k => XS.lstore X0.here hx rfl (hb hby at_74) rfl (l' := #[.val (.long x0), .second, .val (.long x2), .second, .val (.int x4), .val (.long ((x8 &&& (((255 : Int64) <<< (((8 : Int32) * x10) &&& 0x3f).toInt64) ^^^ (-1 : Int64))) ||| ((x2 &&& (255 : Int64)) <<< (((8 : Int32) * x10) &&& 0x3f).toInt64))), .second, .val (.int x7), .val (.long x8), .second, .val (.int x10), .val (.int ((8 : Int32) * x10))]) rfl k) ?_
  show OwnOut p e s below 0 0 _ (T.setTop (mkF m 76 #[.val (.long x0), .second, .val (.long x2), .second, .val (.int x4), .val (.long ((x8 &&& (((255 : Int64) <<< (((8 : Int32) * x10) &&& 0x3f).toInt64) ^^^ (-1 : Int64))) ||| ((x2 &&& (255 : Int64)) <<< (((8 : Int32) * x10) &&& 0x3f).toInt64))), .second, .val (.int x7), .val (.long x8), .second, .val (.int x10), .val (.int ((8 : Int32) * x10))] []))
  exact w0_76b x0 x2 x4 ((x8 &&& (((255 : Int64) <<< (((8 : Int32) * x10) &&& 0x3f).toInt64) ^^^ (-1 : Int64))) ||| ((x2 &&& (255 : Int64)) <<< (((8 : Int32) * x10) &&& 0x3f).toInt64)) x7 x8 x10 ((8 : Int32) * x10) X0 ⟨hx, hZ, hw, hby, hml, hown, hret, hlk, hnm⟩ e0
def f0 (x0 : Int64) (x2 : Int64) (x4 : Int32) : Int32 := (if (x4 &&& (3 : Int32)) = (0 : Int32) then (f0_76 x0) else (if (x4 &&& (3 : Int32)) = (1 : Int32) then (f0_76 (f3 x0)) else (f0_45 x2 (f3 x0) (((x4.toUInt32 >>> ((2 : Int32) &&& 31).toUInt32).toInt32) &&& (7 : Int32)))))
set_option maxRecDepth 65536 in
set_option maxHeartbeats 40000000 in
theorem w0_0 {p : Program} {l : Launch} {e : Env} {s : State} {m : MethodId} {args : Array Value} {below : List Frame} {meth : Method} {c : Code} {T Z : State} {a0 : Array Value} {h0 : Heap} (x0 : Int64) (x2 : Int64) (x4 : Int32)
    (X0 : Stand p l e room_1 s m args below meth c T [] 0 0) (C : Cx0 Z a0 p s m meth c) (e0 : T.heap = h0) :
    OwnOut p e s below 0 0 (QP h0 (some (.int (f0 x0 x2 x4)))) (T.setTop (mkF m 0 #[.val (.long x0), .second, .val (.long x2), .second, .val (.int x4), .unset, .unset, .unset, .unset, .unset, .unset, .unset] [])) := by
  obtain ⟨hx, hZ, hw, hby, hml, hown, hret, hlk, hnm⟩ := C
  rw [f0]
  refine OwnOut.go (fun t k => XS.iload X0.here hx rfl (hb hby at_0) rfl k) ?_
  show OwnOut p e s below 0 0 _ (T.setTop (mkF m 2 #[.val (.long x0), .second, .val (.long x2), .second, .val (.int x4), .unset, .unset, .unset, .unset, .unset, .unset, .unset] [(.int x4)]))
  refine OwnOut.go (fun t k => XT.iconstV X0.here hx rfl (3 : Int32) (hb hby at_2) rfl k) ?_
  show OwnOut p e s below 0 0 _ (T.setTop (mkF m 3 #[.val (.long x0), .second, .val (.long x2), .second, .val (.int x4), .unset, .unset, .unset, .unset, .unset, .unset, .unset] [(.int (3 : Int32)), (.int x4)]))
  refine OwnOut.go (fun t k => XS.iand X0.here hx rfl (hb hby at_3) rfl k) ?_
  show OwnOut p e s below 0 0 _ (T.setTop (mkF m 4 #[.val (.long x0), .second, .val (.long x2), .second, .val (.int x4), .unset, .unset, .unset, .unset, .unset, .unset, .unset] [(.int (x4 &&& (3 : Int32)))]))
  refine OwnOut.go (fun t k => XS.istore X0.here hx rfl (hb hby at_4) rfl (l' := #[.val (.long x0), .second, .val (.long x2), .second, .val (.int x4), .unset, .unset, .val (.int (x4 &&& (3 : Int32))), .unset, .unset, .unset, .unset]) rfl k) ?_
  show OwnOut p e s below 0 0 _ (T.setTop (mkF m 6 #[.val (.long x0), .second, .val (.long x2), .second, .val (.int x4), .unset, .unset, .val (.int (x4 &&& (3 : Int32))), .unset, .unset, .unset, .unset] []))
  refine OwnOut.go (fun t k => XS.iload X0.here hx rfl (hb hby at_6) rfl k) ?_
  show OwnOut p e s below 0 0 _ (T.setTop (mkF m 8 #[.val (.long x0), .second, .val (.long x2), .second, .val (.int x4), .unset, .unset, .val (.int (x4 &&& (3 : Int32))), .unset, .unset, .unset, .unset] [(.int (x4 &&& (3 : Int32)))]))
  by_cases hc8 : (x4 &&& (3 : Int32)) = (0 : Int32)
  · rw [if_pos hc8]
    refine OwnOut.go (fun t k => XS.ifNo X0.here hx rfl (hb hby at_8) rfl (XT.i0_ne_f hc8) k) ?_
    show OwnOut p e s below 0 0 _ (T.setTop (mkF m 11 #[.val (.long x0), .second, .val (.long x2), .second, .val (.int x4), .unset, .unset, .val (.int (x4 &&& (3 : Int32))), .unset, .unset, .unset, .unset] []))
    refine OwnOut.go (fun t k => XS.lloadN X0.here hx rfl (hb hby at_11) rfl k) ?_
    show OwnOut p e s below 0 0 _ (T.setTop (mkF m 12 #[.val (.long x0), .second, .val (.long x2), .second, .val (.int x4), .unset, .unset, .val (.int (x4 &&& (3 : Int32))), .unset, .unset, .unset, .unset] [(.long x0)]))
    refine OwnOut.go (fun t k => XS.lstore X0.here hx rfl (hb hby at_12) rfl (l' := #[.val (.long x0), .second, .val (.long x2), .second, .val (.int x4), .val (.long x0), .second, .val (.int (x4 &&& (3 : Int32))), .unset, .unset, .unset, .unset]) rfl k) ?_
    show OwnOut p e s below 0 0 _ (T.setTop (mkF m 14 #[.val (.long x0), .second, .val (.long x2), .second, .val (.int x4), .val (.long x0), .second, .val (.int (x4 &&& (3 : Int32))), .unset, .unset, .unset, .unset] []))
    refine OwnOut.go (fun t k => XS.goto X0.here hx rfl (pc0 := 14) (pc' := 76) rfl (hb hby at_14) (by decide) (by decide) k) ?_
    show OwnOut p e s below 0 0 _ (T.setTop (mkF m 76 #[.val (.long x0), .second, .val (.long x2), .second, .val (.int x4), .val (.long x0), .second, .val (.int (x4 &&& (3 : Int32))), .unset, .unset, .unset, .unset] []))
    exact w0_76 x0 x2 x4 x0 (x4 &&& (3 : Int32)) X0 ⟨hx, hZ, hw, hby, hml, hown, hret, hlk, hnm⟩ e0
  · rw [if_neg hc8]
    refine OwnOut.go (fun t k => XS.ifYes X0.here hx rfl (pc0 := 8) (pc' := 17) rfl (hb hby at_8) rfl (XT.i0_ne_t hc8) (by decide) (by decide) k) ?_
    show OwnOut p e s below 0 0 _ (T.setTop (mkF m 17 #[.val (.long x0), .second, .val (.long x2), .second, .val (.int x4), .unset, .unset, .val (.int (x4 &&& (3 : Int32))), .unset, .unset, .unset, .unset] []))
    refine OwnOut.go (fun t k => XS.lloadN X0.here hx rfl (hb hby at_17) rfl k) ?_
    show OwnOut p e s below 0 0 _ (T.setTop (mkF m 18 #[.val (.long x0), .second, .val (.long x2), .second, .val (.int x4), .unset, .unset, .val (.int (x4 &&& (3 : Int32))), .unset, .unset, .unset, .unset] [(.long x0)]))
    obtain ⟨T28, X28, e28, st28⟩ := callP (W := 0) (rm := rx3) X0 hx hZ (y := (⟨"com/example/eigenmittel/eigenmittel/AsciiDigitsAllDigitsPinLaw", "digitWord", "(J)J"⟩ : MethodName)) hown (hw _ (List.mem_of_getElem? (i := 13) rfl)) (hw _ (List.mem_of_getElem? (i := 14) rfl)) (hw _ (List.mem_of_getElem? (i := 2) rfl)) (hw _ (List.mem_of_getElem? (i := 15) rfl)) (by decide) (rm3 l Z a0 hw [] x0 h0) (by decide) (by decide) rfl rfl (Nat.zero_le _) (Nat.zero_le _) e0 (g := (mkF m 18 #[.val (.long x0), .second, .val (.long x2), .second, .val (.int x4), .unset, .unset, .val (.int (x4 &&& (3 : Int32))), .unset, .unset, .unset, .unset] [(.long x0)])) rfl (by rw [hml]; rfl) (argsL := [(.long x0)]) (rest := []) (lenOf pd3 rfl) rfl (by show 2 * 0 + _ ≤ _; exact Nat.le_of_eq rfl) (hb hby at_18)
    refine OwnOut.go (fun t k => st28 _ k) ?_
    show OwnOut p e s below 0 0 _ (T28.setTop (mkF m 21 #[.val (.long x0), .second, .val (.long x2), .second, .val (.int x4), .unset, .unset, .val (.int (x4 &&& (3 : Int32))), .unset, .unset, .unset, .unset] [(.long (f3 x0))]))
    refine OwnOut.go (fun t k => XS.lstore X28.here hx rfl (hb hby at_21) rfl (l' := #[.val (.long x0), .second, .val (.long x2), .second, .val (.int x4), .unset, .unset, .val (.int (x4 &&& (3 : Int32))), .val (.long (f3 x0)), .second, .unset, .unset]) rfl k) ?_
    show OwnOut p e s below 0 0 _ (T28.setTop (mkF m 23 #[.val (.long x0), .second, .val (.long x2), .second, .val (.int x4), .unset, .unset, .val (.int (x4 &&& (3 : Int32))), .val (.long (f3 x0)), .second, .unset, .unset] []))
    refine OwnOut.go (fun t k => XS.iload X28.here hx rfl (hb hby at_23) rfl k) ?_
    show OwnOut p e s below 0 0 _ (T28.setTop (mkF m 25 #[.val (.long x0), .second, .val (.long x2), .second, .val (.int x4), .unset, .unset, .val (.int (x4 &&& (3 : Int32))), .val (.long (f3 x0)), .second, .unset, .unset] [(.int (x4 &&& (3 : Int32)))]))
    refine OwnOut.go (fun t k => XT.iconstV X28.here hx rfl (1 : Int32) (hb hby at_25) rfl k) ?_
    show OwnOut p e s below 0 0 _ (T28.setTop (mkF m 26 #[.val (.long x0), .second, .val (.long x2), .second, .val (.int x4), .unset, .unset, .val (.int (x4 &&& (3 : Int32))), .val (.long (f3 x0)), .second, .unset, .unset] [(.int (1 : Int32)), (.int (x4 &&& (3 : Int32)))]))
    by_cases hc26 : (x4 &&& (3 : Int32)) = (1 : Int32)
    · rw [if_pos hc26]
      refine OwnOut.go (fun t k => XS.icmpNo X28.here hx rfl (hb hby at_26) rfl (XT.ii_ne_f hc26) k) ?_
      show OwnOut p e s below 0 0 _ (T28.setTop (mkF m 29 #[.val (.long x0), .second, .val (.long x2), .second, .val (.int x4), .unset, .unset, .val (.int (x4 &&& (3 : Int32))), .val (.long (f3 x0)), .second, .unset, .unset] []))
      refine OwnOut.go (fun t k => XS.lload X28.here hx rfl (hb hby at_29) rfl k) ?_
      show OwnOut p e s below 0 0 _ (T28.setTop (mkF m 31 #[.val (.long x0), .second, .val (.long x2), .second, .val (.int x4), .unset, .unset, .val (.int (x4 &&& (3 : Int32))), .val (.long (f3 x0)), .second, .unset, .unset] [(.long (f3 x0))]))
      refine OwnOut.go (fun t k => XS.lstore X28.here hx rfl (hb hby at_31) rfl (l' := #[.val (.long x0), .second, .val (.long x2), .second, .val (.int x4), .val (.long (f3 x0)), .second, .val (.int (x4 &&& (3 : Int32))), .val (.long (f3 x0)), .second, .unset, .unset]) rfl k) ?_
      show OwnOut p e s below 0 0 _ (T28.setTop (mkF m 33 #[.val (.long x0), .second, .val (.long x2), .second, .val (.int x4), .val (.long (f3 x0)), .second, .val (.int (x4 &&& (3 : Int32))), .val (.long (f3 x0)), .second, .unset, .unset] []))
      refine OwnOut.go (fun t k => XS.goto X28.here hx rfl (pc0 := 33) (pc' := 76) rfl (hb hby at_33) (by decide) (by decide) k) ?_
      show OwnOut p e s below 0 0 _ (T28.setTop (mkF m 76 #[.val (.long x0), .second, .val (.long x2), .second, .val (.int x4), .val (.long (f3 x0)), .second, .val (.int (x4 &&& (3 : Int32))), .val (.long (f3 x0)), .second, .unset, .unset] []))
      exact w0_76a x0 x2 x4 (f3 x0) (x4 &&& (3 : Int32)) (f3 x0) X28 ⟨hx, hZ, hw, hby, hml, hown, hret, hlk, hnm⟩ e28
    · rw [if_neg hc26]
      refine OwnOut.go (fun t k => XS.icmpYes X28.here hx rfl (pc0 := 26) (pc' := 36) rfl (hb hby at_26) rfl (XT.ii_ne_t hc26) (by decide) (by decide) k) ?_
      show OwnOut p e s below 0 0 _ (T28.setTop (mkF m 36 #[.val (.long x0), .second, .val (.long x2), .second, .val (.int x4), .unset, .unset, .val (.int (x4 &&& (3 : Int32))), .val (.long (f3 x0)), .second, .unset, .unset] []))
      refine OwnOut.go (fun t k => XS.iload X28.here hx rfl (hb hby at_36) rfl k) ?_
      show OwnOut p e s below 0 0 _ (T28.setTop (mkF m 38 #[.val (.long x0), .second, .val (.long x2), .second, .val (.int x4), .unset, .unset, .val (.int (x4 &&& (3 : Int32))), .val (.long (f3 x0)), .second, .unset, .unset] [(.int x4)]))
      refine OwnOut.go (fun t k => XT.iconstV X28.here hx rfl (2 : Int32) (hb hby at_38) rfl k) ?_
      show OwnOut p e s below 0 0 _ (T28.setTop (mkF m 39 #[.val (.long x0), .second, .val (.long x2), .second, .val (.int x4), .unset, .unset, .val (.int (x4 &&& (3 : Int32))), .val (.long (f3 x0)), .second, .unset, .unset] [(.int (2 : Int32)), (.int x4)]))
      refine OwnOut.go (fun t k => XS.iushr X28.here hx rfl (hb hby at_39) rfl k) ?_
      show OwnOut p e s below 0 0 _ (T28.setTop (mkF m 40 #[.val (.long x0), .second, .val (.long x2), .second, .val (.int x4), .unset, .unset, .val (.int (x4 &&& (3 : Int32))), .val (.long (f3 x0)), .second, .unset, .unset] [(.int ((x4.toUInt32 >>> ((2 : Int32) &&& 31).toUInt32).toInt32))]))
      refine OwnOut.go (fun t k => XT.bipushV X28.here hx rfl (7 : Int32) (hb hby at_40) rfl k) ?_
      show OwnOut p e s below 0 0 _ (T28.setTop (mkF m 42 #[.val (.long x0), .second, .val (.long x2), .second, .val (.int x4), .unset, .unset, .val (.int (x4 &&& (3 : Int32))), .val (.long (f3 x0)), .second, .unset, .unset] [(.int (7 : Int32)), (.int ((x4.toUInt32 >>> ((2 : Int32) &&& 31).toUInt32).toInt32))]))
      refine OwnOut.go (fun t k => XS.iand X28.here hx rfl (hb hby at_42) rfl k) ?_
      show OwnOut p e s below 0 0 _ (T28.setTop (mkF m 43 #[.val (.long x0), .second, .val (.long x2), .second, .val (.int x4), .unset, .unset, .val (.int (x4 &&& (3 : Int32))), .val (.long (f3 x0)), .second, .unset, .unset] [(.int (((x4.toUInt32 >>> ((2 : Int32) &&& 31).toUInt32).toInt32) &&& (7 : Int32)))]))
      refine OwnOut.go (fun t k => XS.istore X28.here hx rfl (hb hby at_43) rfl (l' := #[.val (.long x0), .second, .val (.long x2), .second, .val (.int x4), .unset, .unset, .val (.int (x4 &&& (3 : Int32))), .val (.long (f3 x0)), .second, .val (.int (((x4.toUInt32 >>> ((2 : Int32) &&& 31).toUInt32).toInt32) &&& (7 : Int32))), .unset]) rfl k) ?_
      show OwnOut p e s below 0 0 _ (T28.setTop (mkF m 45 #[.val (.long x0), .second, .val (.long x2), .second, .val (.int x4), .unset, .unset, .val (.int (x4 &&& (3 : Int32))), .val (.long (f3 x0)), .second, .val (.int (((x4.toUInt32 >>> ((2 : Int32) &&& 31).toUInt32).toInt32) &&& (7 : Int32))), .unset] []))
      exact w0_45 x0 x2 x4 (x4 &&& (3 : Int32)) (f3 x0) (((x4.toUInt32 >>> ((2 : Int32) &&& 31).toUInt32).toInt32) &&& (7 : Int32)) X28 ⟨hx, hZ, hw, hby, hml, hown, hret, hlk, hnm⟩ e28
set_option maxRecDepth 65536 in
set_option maxHeartbeats 40000000 in
theorem rm0 (l : Launch) (Z : State) (a0 : Array Value) (hw : ∀ d ∈ tables_1, d.before a0 Z = true) (ws : List Jvm.Cond) (x0 : Int64) (x2 : Int64) (x4 : Int32) (h0 : Heap) :
    MetFree l x (head1 (Jvm.Cond.code x code maxLocals ret :: ws) room_1) (fun a U => a = #[(.long x0), (.long x2), (.int x4)] ∧ Z.Warmed39 U.vm ∧ U.heap = h0) (fun _ _ _ _ _ => True) (fun _ U o U' => ∃ v L, o = .returned v ∧ QP h0 (some (.int (f0 x0 x2 x4))) v U'.heap L ∧ FrameEnd U o U' L 0 0) := by
  refine MetFree.of_bodySF (plainFor_of_name pn0) hisR ?_
  intro p e s m args below meth c s₁ Bd hml0 hP hK
  obtain ⟨rfl, hZ, hh⟩ := hP
  have X0 : Stand p l e room_1 s m #[(.long x0), (.long x2), (.int x4)] below meth c s₁ [] 0 0 := Stand.of_body Bd
  have e0 : s₁.heap = h0 := by rw [← hh, Bd.state]; rfl
  exact OwnOut.at (ef0 m x0 x2 x4) (w0_0 x0 x2 x4 X0 ⟨Bd.exec, hZ, hw, Bd.bytes, hml0, findClass_of_methodNamed Bd.named, Bd.returns, Bd.notSynchronized, (name_of_methodNamed Bd.named Bd.method).1⟩ e0)
theorem own_land (k a X m M : Nat) (ha : a < 2 ^ k) (hm : m < 2 ^ k) : (a + 2 ^ k * X) &&& (m + 2 ^ k * M) = (a &&& m) + 2 ^ k * (X &&& M) := by
  apply Nat.eq_of_testBit_eq
  intro i
  have h1 : a &&& m < 2 ^ k := Nat.and_lt_two_pow _ hm
  rw [Nat.testBit_and, Nat.add_comm a, Nat.add_comm m, Nat.add_comm (a &&& m), Nat.testBit_two_pow_mul_add _ ha, Nat.testBit_two_pow_mul_add _ hm, Nat.testBit_two_pow_mul_add _ h1]
  split <;> simp [Nat.testBit_and]
theorem own_hi : ∀ a : Fin 256, (a.val &&& 128 = 0 ↔ a.val < 128) := by decide +kernel
theorem own_hi' (a : Nat) (h : a < 256) : a &&& 128 = 0 ↔ a < 128 := own_hi ⟨a, h⟩
theorem own_z (a X : Nat) : a + 2 ^ 8 * X = 0 ↔ a = 0 ∧ X = 0 := by omega
set_option maxHeartbeats 8000000 in
theorem own_mask (a0 a1 a2 a3 a4 a5 a6 a7 : Nat) (h0 : a0 < 256) (h1 : a1 < 256) (h2 : a2 < 256) (h3 : a3 < 256) (h4 : a4 < 256) (h5 : a5 < 256) (h6 : a6 < 256) (h7 : a7 < 256) :
    (a0 + 2 ^ 8 * (a1 + 2 ^ 8 * (a2 + 2 ^ 8 * (a3 + 2 ^ 8 * (a4 + 2 ^ 8 * (a5 + 2 ^ 8 * (a6 + 2 ^ 8 * a7))))))) &&& 9259542123273814144 = 0 ↔ a0 < 128 ∧ a1 < 128 ∧ a2 < 128 ∧ a3 < 128 ∧ a4 < 128 ∧ a5 < 128 ∧ a6 < 128 ∧ a7 < 128 := by
  rw [show (9259542123273814144 : Nat) = 128 + 2 ^ 8 * (128 + 2 ^ 8 * (128 + 2 ^ 8 * (128 + 2 ^ 8 * (128 + 2 ^ 8 * (128 + 2 ^ 8 * (128 + 2 ^ 8 * 128)))))) from by decide]
  rw [own_land 8 a0 _ _ _ h0 (by decide), own_land 8 a1 _ _ _ h1 (by decide), own_land 8 a2 _ _ _ h2 (by decide), own_land 8 a3 _ _ _ h3 (by decide), own_land 8 a4 _ _ _ h4 (by decide), own_land 8 a5 _ _ _ h5 (by decide), own_land 8 a6 _ _ _ h6 (by decide)]
  rw [← own_hi' a0 h0, ← own_hi' a1 h1, ← own_hi' a2 h2, ← own_hi' a3 h3, ← own_hi' a4 h4, ← own_hi' a5 h5, ← own_hi' a6 h6, ← own_hi' a7 h7]
  simp only [own_z]
set_option maxHeartbeats 8000000 in
theorem own_bytes (X : Nat) (h : X < 2 ^ 64) : ∃ b0 b1 b2 b3 b4 b5 b6 b7 : Nat, b0 < 256 ∧ b1 < 256 ∧ b2 < 256 ∧ b3 < 256 ∧ b4 < 256 ∧ b5 < 256 ∧ b6 < 256 ∧ b7 < 256 ∧
    X = b0 + 2 ^ 8 * (b1 + 2 ^ 8 * (b2 + 2 ^ 8 * (b3 + 2 ^ 8 * (b4 + 2 ^ 8 * (b5 + 2 ^ 8 * (b6 + 2 ^ 8 * b7)))))) ∧
    X % 256 = b0 ∧ X / 2 ^ 8 % 256 = b1 ∧ X / 2 ^ 16 % 256 = b2 ∧ X / 2 ^ 24 % 256 = b3 ∧ X / 2 ^ 32 % 256 = b4 ∧ X / 2 ^ 40 % 256 = b5 ∧ X / 2 ^ 48 % 256 = b6 ∧ X / 2 ^ 56 % 256 = b7 := by
  obtain ⟨q1, e1⟩ : ∃ q, q = X / 2 ^ 8 := ⟨_, rfl⟩
  obtain ⟨q2, e2⟩ : ∃ q, q = X / 2 ^ 16 := ⟨_, rfl⟩
  obtain ⟨q3, e3⟩ : ∃ q, q = X / 2 ^ 24 := ⟨_, rfl⟩
  obtain ⟨q4, e4⟩ : ∃ q, q = X / 2 ^ 32 := ⟨_, rfl⟩
  obtain ⟨q5, e5⟩ : ∃ q, q = X / 2 ^ 40 := ⟨_, rfl⟩
  obtain ⟨q6, e6⟩ : ∃ q, q = X / 2 ^ 48 := ⟨_, rfl⟩
  obtain ⟨q7, e7⟩ : ∃ q, q = X / 2 ^ 56 := ⟨_, rfl⟩
  have f2 : q2 = q1 / 2 ^ 8 := by rw [e1, e2, Nat.div_div_eq_div_mul]
  have f3 : q3 = q2 / 2 ^ 8 := by rw [e2, e3, Nat.div_div_eq_div_mul]
  have f4 : q4 = q3 / 2 ^ 8 := by rw [e3, e4, Nat.div_div_eq_div_mul]
  have f5 : q5 = q4 / 2 ^ 8 := by rw [e4, e5, Nat.div_div_eq_div_mul]
  have f6 : q6 = q5 / 2 ^ 8 := by rw [e5, e6, Nat.div_div_eq_div_mul]
  have f7 : q7 = q6 / 2 ^ 8 := by rw [e6, e7, Nat.div_div_eq_div_mul]
  have f8 : q7 < 256 := by rw [e7]; omega
  rw [← e1, ← e2, ← e3, ← e4, ← e5, ← e6, ← e7]
  clear e2 e3 e4 e5 e6 e7
  refine ⟨X % 256, q1 % 256, q2 % 256, q3 % 256, q4 % 256, q5 % 256, q6 % 256, q7 % 256, by omega, by omega, by omega, by omega, by omega, by omega, by omega, by omega, ?_, rfl, rfl, rfl, rfl, rfl, rfl, rfl, rfl⟩
  have g7 : q7 % 256 = q7 := by omega
  have g6 : q6 % 256 + 2 ^ 8 * (q7 % 256) = q6 := by omega
  have g5 : q5 % 256 + 2 ^ 8 * (q6 % 256 + 2 ^ 8 * (q7 % 256)) = q5 := by rw [g6]; omega
  have g4 : q4 % 256 + 2 ^ 8 * (q5 % 256 + 2 ^ 8 * (q6 % 256 + 2 ^ 8 * (q7 % 256))) = q4 := by rw [g5]; omega
  have g3 : q3 % 256 + 2 ^ 8 * (q4 % 256 + 2 ^ 8 * (q5 % 256 + 2 ^ 8 * (q6 % 256 + 2 ^ 8 * (q7 % 256)))) = q3 := by rw [g4]; omega
  have g2 : q2 % 256 + 2 ^ 8 * (q3 % 256 + 2 ^ 8 * (q4 % 256 + 2 ^ 8 * (q5 % 256 + 2 ^ 8 * (q6 % 256 + 2 ^ 8 * (q7 % 256))))) = q2 := by rw [g3]; omega
  have g1 : q1 % 256 + 2 ^ 8 * (q2 % 256 + 2 ^ 8 * (q3 % 256 + 2 ^ 8 * (q4 % 256 + 2 ^ 8 * (q5 % 256 + 2 ^ 8 * (q6 % 256 + 2 ^ 8 * (q7 % 256)))))) = q1 := by rw [g2]; omega
  rw [g1]; omega
theorem own_un (x : Int64) : x.toInt % 18446744073709551616 = (x.toBitVec.toNat : Int) := by
  have h2 := x.toBitVec.isLt
  have e : x.toInt = x.toBitVec.toInt := rfl
  rw [BitVec.toInt_eq_toNat_cond] at e
  split at e <;> omega
theorem own_f1 (x : Int64) (q : Int32) (k : Nat) (hk : (8 * q).toBitVec.toNat % 64 = k) (B : Nat) (hB : x.toBitVec.toNat / 2 ^ k % 256 = B) : f1 x q = if 48 ≤ B ∧ B ≤ 57 then 1 else 0 := by
  have hh : (((x.toUInt64 >>> ((8 * q) &&& 0x3f).toInt64.toUInt64).toInt64) &&& 255).toInt = B := by
    have h1 := c_maskL (((x.toUInt64 >>> ((8 * q) &&& 0x3f).toInt64.toUInt64).toInt64)) 255 8 (by decide) (by decide)
    rw [h1]
    by_cases z : k = 0
    · subst z
      have hz : ((8 * q) &&& 0x3f).toInt64 = 0 := by
        apply Int64.toBitVec_inj.mp
        rw [(sm64 (8 * q) 0 hk).1]; rfl
      rw [hz]
      have : (x.toUInt64 >>> (0 : Int64).toUInt64).toInt64 = x := by
        apply Int64.toBitVec_inj.mp
        show x.toBitVec >>> ((0 : Int64).toBitVec % 64) = _
        have : ((0 : Int64).toBitVec % 64) = 0#64 := by decide
        rw [this]; simp
      rw [this]
      have u := own_un x
      simp only [Nat.pow_zero, Nat.div_one] at hB
      omega
    · rw [c_lushr x (8 * q) k hk (by omega), own_un x]
      rw [← hB]
      exact_mod_cast rfl
  unfold f1
  generalize (((x.toUInt64 >>> ((8 * q) &&& 0x3f).toInt64.toUInt64).toInt64) &&& 255) = y at hh ⊢
  simp only [f1_11, Int64.lt_iff_toInt_lt, Int64.reduceToInt, hh]
  repeat' split
  all_goals first | rfl | (exfalso; omega)
theorem own_split (a b A B : Nat) (h : a + 2 ^ 8 * A = b + 2 ^ 8 * B) (ha : a < 256) (hb : b < 256) : a = b ∧ A = B := by omega
theorem own_back (X t : Nat) (hX : X < 2 ^ 64) (et : t = (2 ^ 64 - 3472328296227680304 + X) % 2 ^ 64) (h : t + 3472328296227680304 < 2 ^ 64) : X = t + 3472328296227680304 := by omega
theorem own_fwd (X t : Nat) (hX : X < 2 ^ 64) (et : t = (2 ^ 64 - 3472328296227680304 + X) % 2 ^ 64) (h : 3472328296227680304 ≤ X) : t = X - 3472328296227680304 := by omega
set_option maxHeartbeats 8000000 in
theorem own_f2 (x : Int64) (b0 b1 b2 b3 b4 b5 b6 b7 : Nat) (h0 : b0 < 256) (h1 : b1 < 256) (h2 : b2 < 256) (h3 : b3 < 256) (h4 : b4 < 256) (h5 : b5 < 256) (h6 : b6 < 256) (h7 : b7 < 256)
    (hX : x.toBitVec.toNat = b0 + 2 ^ 8 * (b1 + 2 ^ 8 * (b2 + 2 ^ 8 * (b3 + 2 ^ 8 * (b4 + 2 ^ 8 * (b5 + 2 ^ 8 * (b6 + 2 ^ 8 * b7))))))) :
    f2 x = if (48 ≤ b0 ∧ b0 ≤ 57) ∧ (48 ≤ b1 ∧ b1 ≤ 57) ∧ (48 ≤ b2 ∧ b2 ≤ 57) ∧ (48 ≤ b3 ∧ b3 ≤ 57) ∧ (48 ≤ b4 ∧ b4 ≤ 57) ∧ (48 ≤ b5 ∧ b5 ≤ 57) ∧ (48 ≤ b6 ∧ b6 ≤ 57) ∧ (48 ≤ b7 ∧ b7 ≤ 57) then 1 else 0 := by
  obtain ⟨t, ht⟩ : ∃ t, t = (x - 3472328296227680304).toBitVec.toNat := ⟨_, rfl⟩
  obtain ⟨u, hu⟩ : ∃ u, u = (x - 3472328296227680304 + 8536140394893047414).toBitVec.toNat := ⟨_, rfl⟩
  have tl : t < 2 ^ 64 := by rw [ht]; exact (x - 3472328296227680304).toBitVec.isLt
  have ul : u < 2 ^ 64 := by rw [hu]; exact (x - 3472328296227680304 + 8536140394893047414).toBitVec.isLt
  have et : t = (2 ^ 64 - 3472328296227680304 + x.toBitVec.toNat) % 2 ^ 64 := by rw [ht]; exact BitVec.toNat_sub ..
  have eu : u = (t + 8536140394893047414) % 2 ^ 64 := by rw [hu, ht]; exact BitVec.toNat_add ..
  have key : (((x - 3472328296227680304) ||| (x - 3472328296227680304 + 8536140394893047414)) &&& (-9187201950435737472)) = 0 ↔ t &&& 9259542123273814144 = 0 ∧ u &&& 9259542123273814144 = 0 := by
    rw [← Int64.toBitVec_inj]
    have e1 : (((x - 3472328296227680304) ||| (x - 3472328296227680304 + 8536140394893047414)) &&& (-9187201950435737472)).toBitVec.toNat = (t ||| u) &&& 9259542123273814144 := by
      rw [ht, hu]
      show ((((x - 3472328296227680304).toBitVec ||| (x - 3472328296227680304 + 8536140394893047414).toBitVec)) &&& (-9187201950435737472 : Int64).toBitVec).toNat = _
      rw [BitVec.toNat_and, BitVec.toNat_or, show (-9187201950435737472 : Int64).toBitVec.toNat = 9259542123273814144 from by decide]
    have e2 : (t ||| u) &&& 9259542123273814144 = (t &&& 9259542123273814144) ||| (u &&& 9259542123273814144) := Nat.and_or_distrib_right ..
    constructor
    · intro h
      have h' := congrArg BitVec.toNat h
      rw [e1, e2] at h'
      exact Nat.or_eq_zero_iff.mp h'
    · intro h
      apply BitVec.eq_of_toNat_eq
      rw [e1, e2, h.1, h.2]; rfl
  obtain ⟨t0, t1, t2, t3, t4, t5, t6, t7, k0, k1, k2, k3, k4, k5, k6, k7, eT, -⟩ := own_bytes t tl
  obtain ⟨u0, u1, u2, u3, u4, u5, u6, u7, l0, l1, l2, l3, l4, l5, l6, l7, eU, -⟩ := own_bytes u ul
  have m1 := own_mask t0 t1 t2 t3 t4 t5 t6 t7 k0 k1 k2 k3 k4 k5 k6 k7
  have m2 := own_mask u0 u1 u2 u3 u4 u5 u6 u7 l0 l1 l2 l3 l4 l5 l6 l7
  rw [← eT] at m1
  rw [← eU] at m2
  rw [m1, m2] at key
  clear m1 m2 ht hu
  have main : ((t0 < 128 ∧ t1 < 128 ∧ t2 < 128 ∧ t3 < 128 ∧ t4 < 128 ∧ t5 < 128 ∧ t6 < 128 ∧ t7 < 128) ∧ (u0 < 128 ∧ u1 < 128 ∧ u2 < 128 ∧ u3 < 128 ∧ u4 < 128 ∧ u5 < 128 ∧ u6 < 128 ∧ u7 < 128)) ↔ ((48 ≤ b0 ∧ b0 ≤ 57) ∧ (48 ≤ b1 ∧ b1 ≤ 57) ∧ (48 ≤ b2 ∧ b2 ≤ 57) ∧ (48 ≤ b3 ∧ b3 ≤ 57) ∧ (48 ≤ b4 ∧ b4 ≤ 57) ∧ (48 ≤ b5 ∧ b5 ≤ 57) ∧ (48 ≤ b6 ∧ b6 ≤ 57) ∧ (48 ≤ b7 ∧ b7 ≤ 57)) := by
    constructor
    · rintro ⟨⟨p0, p1, p2, p3, p4, p5, p6, p7⟩, r0, r1, r2, r3, r4, r5, r6, r7⟩
      have s1 : t + 8536140394893047414 = (t0 + 118) + 2 ^ 8 * ((t1 + 118) + 2 ^ 8 * ((t2 + 118) + 2 ^ 8 * ((t3 + 118) + 2 ^ 8 * ((t4 + 118) + 2 ^ 8 * ((t5 + 118) + 2 ^ 8 * ((t6 + 118) + 2 ^ 8 * ((t7 + 118)))))))) := by rw [eT]; clear eU eu et hX; omega
      have s2 : (t0 + 118) + 2 ^ 8 * ((t1 + 118) + 2 ^ 8 * ((t2 + 118) + 2 ^ 8 * ((t3 + 118) + 2 ^ 8 * ((t4 + 118) + 2 ^ 8 * ((t5 + 118) + 2 ^ 8 * ((t6 + 118) + 2 ^ 8 * ((t7 + 118)))))))) < 2 ^ 64 := by clear eU eu et hX eT s1; omega
      have v : u0 + 2 ^ 8 * (u1 + 2 ^ 8 * (u2 + 2 ^ 8 * (u3 + 2 ^ 8 * (u4 + 2 ^ 8 * (u5 + 2 ^ 8 * (u6 + 2 ^ 8 * (u7))))))) = (t0 + 118) + 2 ^ 8 * ((t1 + 118) + 2 ^ 8 * ((t2 + 118) + 2 ^ 8 * ((t3 + 118) + 2 ^ 8 * ((t4 + 118) + 2 ^ 8 * ((t5 + 118) + 2 ^ 8 * ((t6 + 118) + 2 ^ 8 * ((t7 + 118)))))))) := by rw [← eU, eu, s1, Nat.mod_eq_of_lt s2]
      clear s1 s2
      obtain ⟨v0, v⟩ := own_split _ _ _ _ v l0 (by clear v eT eU et eu hX; omega)
      obtain ⟨v1, v⟩ := own_split _ _ _ _ v l1 (by clear v eT eU et eu hX; omega)
      obtain ⟨v2, v⟩ := own_split _ _ _ _ v l2 (by clear v eT eU et eu hX; omega)
      obtain ⟨v3, v⟩ := own_split _ _ _ _ v l3 (by clear v eT eU et eu hX; omega)
      obtain ⟨v4, v⟩ := own_split _ _ _ _ v l4 (by clear v eT eU et eu hX; omega)
      obtain ⟨v5, v⟩ := own_split _ _ _ _ v l5 (by clear v eT eU et eu hX; omega)
      obtain ⟨v6, v⟩ := own_split _ _ _ _ v l6 (by clear v eT eU et eu hX; omega)
      have o0 : t0 ≤ 9 := by clear eT eU et eu hX v; omega
      have o1 : t1 ≤ 9 := by clear eT eU et eu hX v; omega
      have o2 : t2 ≤ 9 := by clear eT eU et eu hX v; omega
      have o3 : t3 ≤ 9 := by clear eT eU et eu hX v; omega
      have o4 : t4 ≤ 9 := by clear eT eU et eu hX v; omega
      have o5 : t5 ≤ 9 := by clear eT eU et eu hX v; omega
      have o6 : t6 ≤ 9 := by clear eT eU et eu hX v; omega
      have o7 : t7 ≤ 9 := by clear eT eU et eu hX; omega
      have s3 : t + 3472328296227680304 = (t0 + 48) + 2 ^ 8 * ((t1 + 48) + 2 ^ 8 * ((t2 + 48) + 2 ^ 8 * ((t3 + 48) + 2 ^ 8 * ((t4 + 48) + 2 ^ 8 * ((t5 + 48) + 2 ^ 8 * ((t6 + 48) + 2 ^ 8 * ((t7 + 48)))))))) := by rw [eT]; clear eU eu et hX v v0 v1 v2 v3 v4 v5 v6; omega
      have s4 : (t0 + 48) + 2 ^ 8 * ((t1 + 48) + 2 ^ 8 * ((t2 + 48) + 2 ^ 8 * ((t3 + 48) + 2 ^ 8 * ((t4 + 48) + 2 ^ 8 * ((t5 + 48) + 2 ^ 8 * ((t6 + 48) + 2 ^ 8 * ((t7 + 48)))))))) < 2 ^ 64 := by clear eU eu et hX eT s3 v v0 v1 v2 v3 v4 v5 v6; omega
      have w : b0 + 2 ^ 8 * (b1 + 2 ^ 8 * (b2 + 2 ^ 8 * (b3 + 2 ^ 8 * (b4 + 2 ^ 8 * (b5 + 2 ^ 8 * (b6 + 2 ^ 8 * (b7))))))) = (t0 + 48) + 2 ^ 8 * ((t1 + 48) + 2 ^ 8 * ((t2 + 48) + 2 ^ 8 * ((t3 + 48) + 2 ^ 8 * ((t4 + 48) + 2 ^ 8 * ((t5 + 48) + 2 ^ 8 * ((t6 + 48) + 2 ^ 8 * ((t7 + 48)))))))) := by rw [← hX, ← s3]; exact own_back _ _ x.toBitVec.isLt et (by rw [s3]; exact s4)
      clear s3 s4
      obtain ⟨w0, w⟩ := own_split _ _ _ _ w h0 (by clear w v eT eU et eu hX; omega)
      obtain ⟨w1, w⟩ := own_split _ _ _ _ w h1 (by clear w v eT eU et eu hX; omega)
      obtain ⟨w2, w⟩ := own_split _ _ _ _ w h2 (by clear w v eT eU et eu hX; omega)
      obtain ⟨w3, w⟩ := own_split _ _ _ _ w h3 (by clear w v eT eU et eu hX; omega)
      obtain ⟨w4, w⟩ := own_split _ _ _ _ w h4 (by clear w v eT eU et eu hX; omega)
      obtain ⟨w5, w⟩ := own_split _ _ _ _ w h5 (by clear w v eT eU et eu hX; omega)
      obtain ⟨w6, w⟩ := own_split _ _ _ _ w h6 (by clear w v eT eU et eu hX; omega)
      clear eT eU et eu hX v
      refine ⟨?_, ?_, ?_, ?_, ?_, ?_, ?_, ?_⟩ <;> omega
    · rintro ⟨p0, p1, p2, p3, p4, p5, p6, p7⟩
      obtain ⟨e0, rfl⟩ : ∃ e, b0 = e + 48 := ⟨b0 - 48, by clear eT eU et eu hX; omega⟩
      obtain ⟨e1, rfl⟩ : ∃ e, b1 = e + 48 := ⟨b1 - 48, by clear eT eU et eu hX; omega⟩
      obtain ⟨e2, rfl⟩ : ∃ e, b2 = e + 48 := ⟨b2 - 48, by clear eT eU et eu hX; omega⟩
      obtain ⟨e3, rfl⟩ : ∃ e, b3 = e + 48 := ⟨b3 - 48, by clear eT eU et eu hX; omega⟩
      obtain ⟨e4, rfl⟩ : ∃ e, b4 = e + 48 := ⟨b4 - 48, by clear eT eU et eu hX; omega⟩
      obtain ⟨e5, rfl⟩ : ∃ e, b5 = e + 48 := ⟨b5 - 48, by clear eT eU et eu hX; omega⟩
      obtain ⟨e6, rfl⟩ : ∃ e, b6 = e + 48 := ⟨b6 - 48, by clear eT eU et eu hX; omega⟩
      obtain ⟨e7, rfl⟩ : ∃ e, b7 = e + 48 := ⟨b7 - 48, by clear eT eU et eu hX; omega⟩
      have o0 : e0 ≤ 9 := by clear eT eU et eu hX; omega
      have o1 : e1 ≤ 9 := by clear eT eU et eu hX; omega
      have o2 : e2 ≤ 9 := by clear eT eU et eu hX; omega
      have o3 : e3 ≤ 9 := by clear eT eU et eu hX; omega
      have o4 : e4 ≤ 9 := by clear eT eU et eu hX; omega
      have o5 : e5 ≤ 9 := by clear eT eU et eu hX; omega
      have o6 : e6 ≤ 9 := by clear eT eU et eu hX; omega
      have o7 : e7 ≤ 9 := by clear eT eU et eu hX; omega
      have s1 : x.toBitVec.toNat = (e0 + 2 ^ 8 * (e1 + 2 ^ 8 * (e2 + 2 ^ 8 * (e3 + 2 ^ 8 * (e4 + 2 ^ 8 * (e5 + 2 ^ 8 * (e6 + 2 ^ 8 * (e7)))))))) + 3472328296227680304 := by rw [hX]; clear eT eU et eu hX; omega
      have s0 : t = e0 + 2 ^ 8 * (e1 + 2 ^ 8 * (e2 + 2 ^ 8 * (e3 + 2 ^ 8 * (e4 + 2 ^ 8 * (e5 + 2 ^ 8 * (e6 + 2 ^ 8 * (e7))))))) := by rw [own_fwd _ _ x.toBitVec.isLt et (by rw [s1]; exact Nat.le_add_left _ _), s1]; exact Nat.add_sub_cancel _ _
      have w : t0 + 2 ^ 8 * (t1 + 2 ^ 8 * (t2 + 2 ^ 8 * (t3 + 2 ^ 8 * (t4 + 2 ^ 8 * (t5 + 2 ^ 8 * (t6 + 2 ^ 8 * (t7))))))) = e0 + 2 ^ 8 * (e1 + 2 ^ 8 * (e2 + 2 ^ 8 * (e3 + 2 ^ 8 * (e4 + 2 ^ 8 * (e5 + 2 ^ 8 * (e6 + 2 ^ 8 * (e7))))))) := by rw [← eT]; exact s0
      have s2 : t + 8536140394893047414 = (e0 + 118) + 2 ^ 8 * ((e1 + 118) + 2 ^ 8 * ((e2 + 118) + 2 ^ 8 * ((e3 + 118) + 2 ^ 8 * ((e4 + 118) + 2 ^ 8 * ((e5 + 118) + 2 ^ 8 * ((e6 + 118) + 2 ^ 8 * ((e7 + 118)))))))) := by rw [s0]; clear eT eU et eu hX s0 s1 w; omega
      have s3 : (e0 + 118) + 2 ^ 8 * ((e1 + 118) + 2 ^ 8 * ((e2 + 118) + 2 ^ 8 * ((e3 + 118) + 2 ^ 8 * ((e4 + 118) + 2 ^ 8 * ((e5 + 118) + 2 ^ 8 * ((e6 + 118) + 2 ^ 8 * ((e7 + 118)))))))) < 2 ^ 64 := by clear eT eU et eu hX s0 s1 w s2; omega
      have v : u0 + 2 ^ 8 * (u1 + 2 ^ 8 * (u2 + 2 ^ 8 * (u3 + 2 ^ 8 * (u4 + 2 ^ 8 * (u5 + 2 ^ 8 * (u6 + 2 ^ 8 * (u7))))))) = (e0 + 118) + 2 ^ 8 * ((e1 + 118) + 2 ^ 8 * ((e2 + 118) + 2 ^ 8 * ((e3 + 118) + 2 ^ 8 * ((e4 + 118) + 2 ^ 8 * ((e5 + 118) + 2 ^ 8 * ((e6 + 118) + 2 ^ 8 * ((e7 + 118)))))))) := by rw [← eU, eu, s2, Nat.mod_eq_of_lt s3]
      clear s0 s1 s2 s3
      obtain ⟨w0, w⟩ := own_split _ _ _ _ w k0 (by clear w v eT eU et eu hX; omega)
      obtain ⟨w1, w⟩ := own_split _ _ _ _ w k1 (by clear w v eT eU et eu hX; omega)
      obtain ⟨w2, w⟩ := own_split _ _ _ _ w k2 (by clear w v eT eU et eu hX; omega)
      obtain ⟨w3, w⟩ := own_split _ _ _ _ w k3 (by clear w v eT eU et eu hX; omega)
      obtain ⟨w4, w⟩ := own_split _ _ _ _ w k4 (by clear w v eT eU et eu hX; omega)
      obtain ⟨w5, w⟩ := own_split _ _ _ _ w k5 (by clear w v eT eU et eu hX; omega)
      obtain ⟨w6, w⟩ := own_split _ _ _ _ w k6 (by clear w v eT eU et eu hX; omega)
      obtain ⟨v0, v⟩ := own_split _ _ _ _ v l0 (by clear w v eT eU et eu hX; omega)
      obtain ⟨v1, v⟩ := own_split _ _ _ _ v l1 (by clear w v eT eU et eu hX; omega)
      obtain ⟨v2, v⟩ := own_split _ _ _ _ v l2 (by clear w v eT eU et eu hX; omega)
      obtain ⟨v3, v⟩ := own_split _ _ _ _ v l3 (by clear w v eT eU et eu hX; omega)
      obtain ⟨v4, v⟩ := own_split _ _ _ _ v l4 (by clear w v eT eU et eu hX; omega)
      obtain ⟨v5, v⟩ := own_split _ _ _ _ v l5 (by clear w v eT eU et eu hX; omega)
      obtain ⟨v6, v⟩ := own_split _ _ _ _ v l6 (by clear w v eT eU et eu hX; omega)
      clear eT eU et eu hX
      refine ⟨⟨?_, ?_, ?_, ?_, ?_, ?_, ?_, ?_⟩, ?_, ?_, ?_, ?_, ?_, ?_, ?_, ?_⟩ <;> omega
  rw [main] at key
  unfold f2
  by_cases hc : (((x - 3472328296227680304) ||| (x - 3472328296227680304 + 8536140394893047414)) &&& (-9187201950435737472)) = 0
  · rw [if_pos hc, if_pos (key.mp hc)]
  · rw [if_neg hc, if_neg (fun q => hc (key.mpr q))]
theorem own_b (A : Prop) [Decidable A] : ((if A then (1 : Int32) else 0) = 0) = ¬ A := by
  by_cases h : A <;> simp [h]
set_option maxHeartbeats 8000000 in
theorem own_76 (x : Int64) : f0_76 x = 1 := by
  obtain ⟨b0, b1, b2, b3, b4, b5, b6, b7, h0, h1, h2, h3, h4, h5, h6, h7, eX, r0, r1, r2, r3, r4, r5, r6, r7⟩ := own_bytes x.toBitVec.toNat x.toBitVec.isLt
  have g := own_f2 x b0 b1 b2 b3 b4 b5 b6 b7 h0 h1 h2 h3 h4 h5 h6 h7 eX
  have i0 := own_f1 x 0 0 (by decide) b0 (by rw [Nat.pow_zero, Nat.div_one]; exact r0)
  have i1 := own_f1 x 1 8 (by decide) b1 r1
  have i2 := own_f1 x 2 16 (by decide) b2 r2
  have i3 := own_f1 x 3 24 (by decide) b3 r3
  have i4 := own_f1 x 4 32 (by decide) b4 r4
  have i5 := own_f1 x 5 40 (by decide) b5 r5
  have i6 := own_f1 x 6 48 (by decide) b6 r6
  have i7 := own_f1 x 7 56 (by decide) b7 r7
  simp only [f0_76, i0, i1, i2, i3, i4, i5, i6, i7, own_b, f0_154, f0_155, g]
  clear r0 r1 r2 r3 r4 r5 r6 r7 eX g i0 i1 i2 i3 i4 i5 i6 i7
  by_cases c0 : 48 ≤ b0 ∧ b0 ≤ 57
  · by_cases c1 : 48 ≤ b1 ∧ b1 ≤ 57
    · by_cases c2 : 48 ≤ b2 ∧ b2 ≤ 57
      · by_cases c3 : 48 ≤ b3 ∧ b3 ≤ 57
        · by_cases c4 : 48 ≤ b4 ∧ b4 ≤ 57
          · by_cases c5 : 48 ≤ b5 ∧ b5 ≤ 57
            · by_cases c6 : 48 ≤ b6 ∧ b6 ≤ 57
              · by_cases c7 : 48 ≤ b7 ∧ b7 ≤ 57
                · simp [c0, c1, c2, c3, c4, c5, c6, c7]
                · simp [c0, c1, c2, c3, c4, c5, c6, c7]
              · simp [c0, c1, c2, c3, c4, c5, c6]
            · simp [c0, c1, c2, c3, c4, c5]
          · simp [c0, c1, c2, c3, c4]
        · simp [c0, c1, c2, c3]
      · simp [c0, c1, c2]
    · simp [c0, c1]
  · simp [c0]
theorem law_ok (a b : Int64) (c : Int32) : f0 a b c = 1 := by
  simp only [f0, f0_45, own_76]
  repeat' split
  all_goals rfl
set_option maxRecDepth 65536 in
set_option maxHeartbeats 40000000 in
theorem comes_1 {Post : Tables → Env → Array Value → State → Outcome → State → Prop} (hpost : ∀ tb e args s v u, (limb_1_1.after args s (.returned v) u = true ∧ limb_1_2.after args s (.returned v) u = true ∧ True) → FrameEnd s (.returned v) u (Jvm.fieldLocs frame_1_writes args s ++ Jvm.arrayLocs frame_1_arrays args s ++ Jvm.staticLocs frame_1_statics s) 0 0 → Post tb e args s (.returned v) u) :
    ArmFor flags0 classFile x code maxLocals ret World_1 tables_1 room_1 Calls_1 rest_1 Pre_1 Post := by
  intro l hfl _ _ p e ha hc hk s m args below hf hA hF happ hP
  obtain ⟨hcalls, hrest, hpre⟩ := hP
  obtain ⟨-, -, -, hnamed, -, -, -, hat⟩ := (Spec.applies_iff hf).mp happ
  obtain ⟨hg, hn⟩ := and_e (Cond.before_iff.mp (show (Jvm.Cond.and given_1 narrow_1).before args s = true from hpre))
  obtain ⟨g1, g2⟩ := and_e hg
  obtain ⟨g3, g4⟩ := and_e g2
  obtain ⟨g5, g6⟩ := and_e g4
  obtain ⟨w0, w1, w2, rfl⟩ : ∃ w0 w1 w2 : Value, args = #[w0, w1, w2] := by
    have hs : args.size = 3 := by simpa [Cond.value, given_1] using g1
    obtain ⟨L⟩ := args
    match L, hs with
    | [w0, w1, w2], _ => exact ⟨w0, w1, w2, rfl⟩
  have hw := fun d (hd : d ∈ tables_1) => atoms_spec (ws := Jvm.Cond.code x code maxLocals ret :: tables_1) hat d (List.mem_cons_of_mem _ hd)
  obtain ⟨i0, ei0⟩ := isL_v g3
  obtain rfl : w0 = (.long i0) := Option.some.inj ei0
  obtain ⟨i1, ei1⟩ := isL_v g5
  obtain rfl : w1 = (.long i1) := Option.some.inj ei1
  obtain ⟨i2, ei2⟩ := is_v g6
  obtain rfl : w2 = (.int i2) := Option.some.inj ei2
  obtain ⟨n, o, h1, h2, h3, _, L, rfl, ⟨rfl, hh, rfl⟩, hq⟩ := rm0 l s _ hw tables_1 i0 i1 i2 s.heap p e ha hc hk s m _ below hf ((Spec.applies_iff_loose hf).mp happ).1 ⟨rfl, State.Warmed39.refl s, rfl⟩ trivial
  have hv := law_ok i0 i1 i2
  refine ⟨n, _, h1, h2, h3, hpost _ _ _ _ _ _ ⟨Cond.after_iff.mpr rfl, Cond.after_iff.mpr (eq_i res_at (Term.int_eval (1)) (congrArg Value.int hv)), trivial⟩ ⟨hq.1, hq.2.1, (hq.2.2.sift fun y hy => nomatch hy).mono (by decide) (by decide)⟩⟩
theorem main_1_1 : Claimed_1_1 := comes_1 fun _ _ _ _ _ _ h hF => ⟨h.1, hF⟩
theorem main_1_2 : Claimed_1_2 := comes_1 fun _ _ _ _ _ _ h hF => ⟨h.2.1, hF⟩
end Jvm.Pilot.@@N@@
namespace Jvm.Pilot.@@N@@
open Jvm Jvm.ClassFile Sem Op Lib Jvm.Free Jvm.Stand Jvm.Pilot.@@N@@.Jvm.D
/-! MADE BY PROGRAM (witnessworld.py) out of the Statement's table words and the real class files: 9 classes; the members and pool entries that the words name. The judged class is class 1, her method 1. -/
namespace start1
open Jvm.ClassFile
def u (s : String) : CpInfo := .utf8 (stringToUtf16 s)
/-- a pool by its gaps: so many unusable entries, then the entry; so many at the end -/
def gap : Nat → List CpInfo → List CpInfo
  | 0, r => r
  | n + 1, r => .unusable :: gap n r
def poolList (es : List (Nat × CpInfo)) (last : Nat) : List CpInfo := es.foldr (fun e r => gap e.1 (e.2 :: r)) (gap last [])
def pool (es : List (Nat × CpInfo)) (last : Nat) : Array CpInfo := ⟨poolList es last⟩
def fileOf (pool : Array CpInfo) (this : Nat) (attrs : Array Attribute := #[]) (ms : Array MethodInfo := #[]) (fl : Nat := 33) (sup : Nat := 0) (ifs : Array Nat := #[]) (fds : Array FieldInfo := #[]) : ClassFile where
  minorVersion := 0
  majorVersion := 65
  constantPool := pool
  accessFlags := fl
  thisClass := this
  superClass := sup
  interfaces := ifs
  fields := fds
  methods := ms
  attributes := attrs
def plain (name : String) (sup : Option ClassId) : Class where
  name := name
  kind := .ordinary
  loader := none
  accessFlags := 33
  super := sup
  interfaces := #[]
  cf := none
  fields := #[]
  methods := #[]
  instanceTypes := #[]
  staticTypes := #[]
  resolved := #[]
  callSites := []
  init := .initialized
  statics := none
  mirror := none

def pool0 : Array CpInfo := pool [(5, u "<init>"), (0, u "()V"), (1, .class_ 10), (1, u "java/lang/Object")] 113

def k0m0 : Method := { name := "<init>", desc := "()V", sig := { parameters := [], returnType := none }, accessFlags := 1, code := none }
/-- java/lang/Object -/
def k0 : Class := { plain "java/lang/Object" none with
  accessFlags := 33
  interfaces := #[]
  cf := some (fileOf pool0 8 #[] #[{ accessFlags := 1, nameIndex := 5, descriptorIndex := 6, attributes := #[] }] 33 0 #[] #[])
  fields := #[]
  methods := #[k0m0]
  instanceTypes := #[]
  staticTypes := #[]
  resolved := Array.replicate 124 none
  statics := none }

def pool1 : Array CpInfo := pool [(2, .class_ 4), (1, u "java/lang/Object"), (0, u "<init>"), (0, u "()V"), (0, .methodref 8 9), (0, .class_ 10), (0, .nameAndType 11 12), (0, u "com/example/eigenmittel/eigenmittel/AsciiDigitsAllDigitsPinLaw"), (0, u "digitWord"), (0, u "(J)J"), (0, .long 255), (1, .long 18446744073709551615), (1, .methodref 8 18), (0, .nameAndType 19 20), (0, u "isDigitByte"), (0, u "(JI)Z"), (0, .methodref 22 23), (0, .class_ 24), (0, .nameAndType 25 26), (0, u "com/example/eigenmittel/eigenmittel/AsciiDigits"), (0, u "allDigits"), (0, u "(J)Z"), (0, .long 48), (1, .long 10), (1, .methodref 8 32), (0, .nameAndType 33 34), (0, u "digitAt"), (0, u "(JI)J"), (0, .long 57), (3, u "law"), (0, u "(JJI)Z")] 3

def k1m0 : Method := { name := "<init>", desc := "()V", sig := { parameters := [], returnType := none }, accessFlags := 1, code := none }
def k1c1 : Code := { maxStack := 6, maxLocals := 12, code := code, exceptionTable := #[], attributes := #[] }
def k1m1 : Method := { name := "law", desc := "(JJI)Z", sig := { parameters := [.long, .long, .int], returnType := some .boolean }, accessFlags := 9, code := some k1c1 }
def k1c2 : Code := { maxStack := 6, maxLocals := 5, code := method_3_code, exceptionTable := #[], attributes := #[] }
def k1m2 : Method := { name := "digitAt", desc := "(JI)J", sig := { parameters := [.long, .int], returnType := some .long }, accessFlags := 10, code := some k1c2 }
def k1c3 : Code := { maxStack := 5, maxLocals := 2, code := method_4_code, exceptionTable := #[], attributes := #[] }
def k1m3 : Method := { name := "digitWord", desc := "(J)J", sig := { parameters := [.long], returnType := some .long }, accessFlags := 10, code := some k1c3 }
def k1c4 : Code := { maxStack := 4, maxLocals := 5, code := method_5_code, exceptionTable := #[], attributes := #[] }
def k1m4 : Method := { name := "isDigitByte", desc := "(JI)Z", sig := { parameters := [.long, .int], returnType := some .boolean }, accessFlags := 10, code := some k1c4 }
/-- com/example/eigenmittel/eigenmittel/AsciiDigitsAllDigitsPinLaw -/
def k1 : Class := { plain "com/example/eigenmittel/eigenmittel/AsciiDigitsAllDigitsPinLaw" (some 0) with
  accessFlags := 49
  interfaces := #[]
  cf := some (fileOf pool1 8 #[] #[{ accessFlags := 1, nameIndex := 5, descriptorIndex := 6, attributes := #[] }, { accessFlags := 9, nameIndex := 39, descriptorIndex := 40, attributes := #[] }, { accessFlags := 10, nameIndex := 33, descriptorIndex := 34, attributes := #[] }, { accessFlags := 10, nameIndex := 11, descriptorIndex := 12, attributes := #[] }, { accessFlags := 10, nameIndex := 19, descriptorIndex := 20, attributes := #[] }] 49 2 #[] #[])
  fields := #[]
  methods := #[k1m0, k1m1, k1m2, k1m3, k1m4]
  instanceTypes := #[]
  staticTypes := #[]
  resolved := Array.replicate 44 none
  statics := none }

def pool2 : Array CpInfo := pool [(2, .class_ 4), (1, u "java/lang/Object"), (0, u "<init>"), (0, u "()V"), (1, .class_ 10), (1, u "com/example/eigenmittel/eigenmittel/AsciiDigits"), (0, u "WORDS"), (0, u "Ljava/lang/invoke/VarHandle;"), (6, .long 3472328296227680304), (1, .long 8536140394893047414), (1, .long 9259542123273814144), (31, u "ZEROS"), (0, u "J"), (1, u "HIGH_BITS"), (0, u "ABOVE_NINE"), (3, u "allDigits"), (0, u "(J)Z")] 5

def k2m0 : Method := { name := "<init>", desc := "()V", sig := { parameters := [], returnType := none }, accessFlags := 2, code := none }
def k2c1 : Code := { maxStack := 6, maxLocals := 4, code := prog_2_method_3_code, exceptionTable := #[], attributes := #[] }
def k2m1 : Method := { name := "allDigits", desc := "(J)Z", sig := { parameters := [.long], returnType := some .boolean }, accessFlags := 8, code := some k2c1 }
/-- com/example/eigenmittel/eigenmittel/AsciiDigits -/
def k2 : Class := { plain "com/example/eigenmittel/eigenmittel/AsciiDigits" (some 0) with
  accessFlags := 32
  interfaces := #[]
  cf := some (fileOf pool2 8 #[] #[{ accessFlags := 2, nameIndex := 5, descriptorIndex := 6, attributes := #[] }, { accessFlags := 8, nameIndex := 63, descriptorIndex := 64, attributes := #[] }] 32 2 #[] #[{ accessFlags := 26, nameIndex := 11, descriptorIndex := 12, attributes := #[] }, { accessFlags := 24, nameIndex := 55, descriptorIndex := 56, attributes := #[] }, { accessFlags := 26, nameIndex := 58, descriptorIndex := 56, attributes := #[] }, { accessFlags := 26, nameIndex := 59, descriptorIndex := 56, attributes := #[] }])
  fields := #[{ name := "WORDS", type := (.object "java/lang/invoke/VarHandle"), accessFlags := 26, slot := 0, constantValue := 0 }, { name := "ZEROS", type := .long, accessFlags := 24, slot := 1, constantValue := 0 }, { name := "HIGH_BITS", type := .long, accessFlags := 26, slot := 2, constantValue := 0 }, { name := "ABOVE_NINE", type := .long, accessFlags := 26, slot := 3, constantValue := 0 }]
  methods := #[k2m0, k2m1]
  instanceTypes := #[]
  staticTypes := #[(.object "java/lang/invoke/VarHandle"), .long, .long, .long]
  resolved := Array.replicate 70 none
  statics := none }

def pool3 : Array CpInfo := pool [(1, u "java/lang/Cloneable"), (0, .class_ 1), (0, u "java/lang/Object"), (0, .class_ 3)] 3

/-- java/lang/Cloneable -/
def k3 : Class := { plain "java/lang/Cloneable" (some 0) with
  accessFlags := 1537
  interfaces := #[]
  cf := some (fileOf pool3 2 #[] #[] 1537 4 #[] #[])
  fields := #[]
  methods := #[]
  instanceTypes := #[]
  staticTypes := #[]
  resolved := Array.replicate 8 none
  statics := none }

def pool4 : Array CpInfo := pool [(1, u "java/io/Serializable"), (0, .class_ 1), (0, u "java/lang/Object"), (0, .class_ 3)] 3

/-- java/io/Serializable -/
def k4 : Class := { plain "java/io/Serializable" (some 0) with
  accessFlags := 1537
  interfaces := #[]
  cf := some (fileOf pool4 2 #[] #[] 1537 4 #[] #[])
  fields := #[]
  methods := #[]
  instanceTypes := #[]
  staticTypes := #[]
  resolved := Array.replicate 8 none
  statics := none }

/-- the primitive byte -/
def k5 : Class := { plain "byte" none with kind := .primitive 'B', accessFlags := 0x411 }
/-- [B -/
def k6 : Class := { plain "[B" (some 0) with kind := .array 5 .byte, interfaces := #[3, 4], accessFlags := 1041 }

/-- the primitive int -/
def k7 : Class := { plain "int" none with kind := .primitive 'I', accessFlags := 0x411 }
/-- [I -/
def k8 : Class := { plain "[I" (some 0) with kind := .array 7 .int, interfaces := #[3, 4], accessFlags := 1041 }

def heap : Heap := #[]
def classes : Array Class := #[k0, k1, k2, k3, k4, k5, k6, k7, k8]
def interned : List (Array UInt16 × Addr) := []
def slotsUsed : Nat := 0
def theMethod : MethodId := ⟨1, 1⟩
def args0 : Array Value := #[.long 5, .long 7, .int 3]
def aboutOver (below : List Frame) : State where
  vm := { classes := classes, interned := interned.toArray }
  heap := heap
  slotsUsed := slotsUsed
  threads := #[{ frames := .invoking theMethod args0 :: below }]
def below0 : List Frame := [.native { method := ⟨0, 0⟩, args := #[] }]
def about1 : State := aboutOver below0
def p0 : Program := .bare "" "" ""
def e0 : Env := launch0.env 0 0 0
theorem w_frames : about1.frames = Frame.invoking theMethod args0 :: below0 := rfl
set_option maxRecDepth 65536 in
theorem w_args : argsFit about1.vm theMethod args0 = true := by decide +kernel
set_option maxRecDepth 65536 in
theorem w_heap : heapFits about1 = true := by decide +kernel
set_option maxRecDepth 65536 in
theorem w_runnable : about1.curStatus? = some .runnable := by decide +kernel
set_option maxRecDepth 65536 in
theorem w_alone : about1.alone = true := by decide +kernel
set_option maxRecDepth 65536 in
theorem w_named : about1.methodNamed? x = some theMethod := by decide +kernel
set_option maxRecDepth 65536 in
theorem w_hears : about1.hears theMethod below0 = true := by decide +kernel
set_option maxRecDepth 65536 in
theorem w_ripe : about1.ripe theMethod args0 below0 = true := by decide +kernel
theorem w_running : about1.status = .running := rfl
set_option maxRecDepth 65536 in
theorem w_room : about1.hasRoom e0.platform room_1 = true :=
  launch0.hasRoom_least _ room_1 (by decide +kernel) (by decide +kernel) (by decide +kernel) (by decide +kernel) (by decide +kernel) (by decide +kernel)
theorem allAtoms_all (ts : List Jvm.Cond) (a : Array Jvm.Value) (st : Jvm.State) : (allAtoms ts).before a st = ts.all (fun c => c.before a st) := by
  induction ts with
  | nil => rfl
  | cons c t ih =>
    show (Jvm.Cond.and c (allAtoms t)).before a st = _
    rw [Jvm.Cond.before_and, ih, List.all_cons]
def words1 : List Jvm.Cond := Jvm.Cond.code x code maxLocals ret :: tables_1
/-- a 'code' word, met by the world's own term for the bytes: nothing is compared byte by byte -/
theorem code_word {y : MethodName} {bytes : ByteArray} {mx : Nat} {rt : Option FieldType} {a : Array Value} {s : State} {m : MethodId} {meth : Method} {c : Code} (h1 : s.methodNamed? y = some m) (h2 : s.vm.method? m = some meth) (h3 : meth.code = some c) (h4 : c.code = bytes)
    (h5 : (c.maxLocals == mx && c.exceptionTable.isEmpty && decide (c.maxStack ≤ mostOperands) && decide (meth.sig.returnType = rt) && !meth.locks && decide (parseMethodDescriptor y.desc = some meth.sig)) = true) : (Jvm.Cond.code y bytes mx rt).before a s = true := by
  simp only [Bool.and_eq_true, beq_iff_eq, Bool.not_eq_true', decide_eq_true_eq] at h5
  obtain ⟨⟨⟨⟨⟨g1, g2⟩, g3⟩, g4⟩, g5⟩, g6⟩ := h5
  simp [Cond.before, Cond.holds, Cond.value, h1, h2, h3, h4, g1, g2, g3, g4, g5, g6]
def isCode : Jvm.Cond → Bool
  | .code _ _ _ _ => true
  | _ => false
theorem all_split {L : List Jvm.Cond} {P : Jvm.Cond → Bool} (h1 : L.all (fun c => isCode c || P c) = true) (h2 : ∀ c ∈ L.filter isCode, P c = true) : L.all P = true := by
  refine List.all_eq_true.mpr fun c hc => ?_
  have h := List.all_eq_true.mp h1 c hc
  rcases Bool.eq_false_or_eq_true (isCode c) with hi | hi
  · exact h2 c (List.mem_filter.mpr ⟨hc, hi⟩)
  · simpa [hi] using h
set_option maxRecDepth 65536 in
theorem w_c0 : (Jvm.Cond.code x code maxLocals ret).before args0 about1 = true := code_word (m := ⟨1, 1⟩) (meth := k1m1) (c := k1c1) (by decide +kernel) rfl rfl rfl (by decide +kernel)
set_option maxRecDepth 65536 in
theorem w_c1 : (Jvm.Cond.code ({ cls := "com/example/eigenmittel/eigenmittel/AsciiDigitsAllDigitsPinLaw", name := "isDigitByte", desc := "(JI)Z" } : Jvm.MethodName) method_5_code (5 : Nat) (Option.some Jvm.ClassFile.FieldType.boolean)).before args0 about1 = true := code_word (m := ⟨1, 4⟩) (meth := k1m4) (c := k1c4) (by decide +kernel) rfl rfl rfl (by decide +kernel)
set_option maxRecDepth 65536 in
theorem w_c2 : (Jvm.Cond.code ({ cls := "com/example/eigenmittel/eigenmittel/AsciiDigits", name := "allDigits", desc := "(J)Z" } : Jvm.MethodName) prog_2_method_3_code (4 : Nat) (Option.some Jvm.ClassFile.FieldType.boolean)).before args0 about1 = true := code_word (m := ⟨2, 1⟩) (meth := k2m1) (c := k2c1) (by decide +kernel) rfl rfl rfl (by decide +kernel)
set_option maxRecDepth 65536 in
theorem w_c3 : (Jvm.Cond.code ({ cls := "com/example/eigenmittel/eigenmittel/AsciiDigitsAllDigitsPinLaw", name := "digitWord", desc := "(J)J" } : Jvm.MethodName) method_4_code (2 : Nat) (Option.some Jvm.ClassFile.FieldType.long)).before args0 about1 = true := code_word (m := ⟨1, 3⟩) (meth := k1m3) (c := k1c3) (by decide +kernel) rfl rfl rfl (by decide +kernel)
set_option maxRecDepth 65536 in
theorem w_c4 : (Jvm.Cond.code ({ cls := "com/example/eigenmittel/eigenmittel/AsciiDigitsAllDigitsPinLaw", name := "digitAt", desc := "(JI)J" } : Jvm.MethodName) method_3_code (5 : Nat) (Option.some Jvm.ClassFile.FieldType.long)).before args0 about1 = true := code_word (m := ⟨1, 2⟩) (meth := k1m2) (c := k1c2) (by decide +kernel) rfl rfl rfl (by decide +kernel)
def codes1 : List Jvm.Cond := [Jvm.Cond.code x code maxLocals ret, Jvm.Cond.code ({ cls := "com/example/eigenmittel/eigenmittel/AsciiDigitsAllDigitsPinLaw", name := "isDigitByte", desc := "(JI)Z" } : Jvm.MethodName) method_5_code (5 : Nat) (Option.some Jvm.ClassFile.FieldType.boolean), Jvm.Cond.code ({ cls := "com/example/eigenmittel/eigenmittel/AsciiDigits", name := "allDigits", desc := "(J)Z" } : Jvm.MethodName) prog_2_method_3_code (4 : Nat) (Option.some Jvm.ClassFile.FieldType.boolean), Jvm.Cond.code ({ cls := "com/example/eigenmittel/eigenmittel/AsciiDigitsAllDigitsPinLaw", name := "digitWord", desc := "(J)J" } : Jvm.MethodName) method_4_code (2 : Nat) (Option.some Jvm.ClassFile.FieldType.long), Jvm.Cond.code ({ cls := "com/example/eigenmittel/eigenmittel/AsciiDigitsAllDigitsPinLaw", name := "digitAt", desc := "(JI)J" } : Jvm.MethodName) method_3_code (5 : Nat) (Option.some Jvm.ClassFile.FieldType.long)]
set_option maxRecDepth 65536 in
theorem codes_eq : words1.filter isCode = codes1 := rfl
theorem w_codes : ∀ c ∈ words1.filter isCode, c.before args0 about1 = true := by
  rw [codes_eq]
  intro c hc
  simp only [codes1, List.mem_cons, List.not_mem_nil, or_false] at hc
  rcases hc with rfl | rfl | rfl | rfl | rfl
  · exact w_c0
  · exact w_c1
  · exact w_c2
  · exact w_c3
  · exact w_c4
set_option maxRecDepth 65536 in
theorem w_t1 : words1.all (fun c => isCode c || c.before args0 about1) = true := by decide +kernel
theorem w_tables : (allAtoms (Jvm.Cond.code x code maxLocals ret :: tables_1)).before args0 about1 = true := by
  rw [allAtoms_all]
  show words1.all (fun c => c.before args0 about1) = true
  refine all_split ?_ w_codes
  rw [w_t1]
set_option maxRecDepth 65536 in
theorem w_case : (Jvm.Cond.and given_1 narrow_1).before args0 about1 = true := by decide +kernel
theorem w_applies : (headSpec (Jvm.Cond.code x code maxLocals ret :: tables_1) room_1).applies x e0.platform about1 = true :=
  (Spec.applies_iff w_frames).mpr ⟨w_running, w_runnable, w_alone, w_named, w_hears, w_ripe, w_room, w_tables⟩
theorem atStart : AtStart classFile x code maxLocals ret World_1 tables_1 room_1 Calls_1 rest_1 Pre_1 launch0 p0 e0 about1 theMethod args0 below0 :=
  ⟨lists_1, trivial, launch0.admits_env _ _ _, launch0.least_env, fairChoices_fair.cas, fairChoices_fair.clock, w_frames, w_args, w_heap, w_applies, trivial, trivial, w_case⟩
end start1
theorem witness_1 : WitnessClaimed_1 := ⟨start1.p0, start1.e0, start1.about1, start1.theMethod, start1.args0, start1.below0, start1.atStart⟩
end Jvm.Pilot.@@N@@
