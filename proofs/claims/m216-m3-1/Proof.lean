import JvmDerived
import JvmDerived.Pilot.@@N@@Statement
import JvmDerived.Pilot.@@N@@Code
set_option linter.unusedVariables false
set_option linter.unusedSimpArgs false
namespace Jvm.RoadKit
open Sem ClassFile Op Lib Jvm.Stand Jvm.Free Jvm.LawKit
section Own
variable {p : Program} {l : Launch} {e : Env} {R : Room} {s : State} {m : MethodId} {args : Array Value} {below : List Frame} {meth : Method} {c : Code} {T : State} {locs : List Loc} {cells slots : Nat} {k n : Nat} {Q : Option Value → Heap → List Loc → Prop} {W W' : State} {Z : State} {a0 : Array Value} {h : Heap}
/-- the run from W comes back, with what Q says -/
def OwnOut (p : Program) (e : Env) (s : State) (below : List Frame) (k n : Nat) (Q : Option Value → Heap → List Loc → Prop) (W : State) : Prop :=
  ∃ s₂ o, Steps p.tables e below W s₂ ∧ s₂.status = .running ∧ Ended s₂ below o ∧ ∃ v L, o = .returned v ∧ Q v s₂.heap L ∧ FrameEnd s o s₂ L k n
theorem OwnOut.go (h : ∀ t, Steps p.tables e below W' t → Steps p.tables e below W t) (H : OwnOut p e s below k n Q W') : OwnOut p e s below k n Q W := by
  obtain ⟨s₂, o, h1, h2⟩ := H
  exact ⟨s₂, o, h _ h1, h2⟩
theorem OwnOut.at {g g' : JFrame} (q : g = g') (H : OwnOut p e s below k n Q (T.setTop g')) : OwnOut p e s below k n Q (T.setTop g) := q ▸ H
theorem OwnOut.imp {Q' : Option Value → Heap → List Loc → Prop} (q : ∀ v h L, Q' v h L → Q v h L) (H : OwnOut p e s below k n Q' W) : OwnOut p e s below k n Q W := by
  obtain ⟨s₂, o, h1, h2, h3, v, L, h4, h5, h6⟩ := H
  exact ⟨s₂, o, h1, h2, h3, v, L, h4, q _ _ _ h5, h6⟩
theorem outI (X : Stand p l e R s m args below meth c T locs cells slots) (hx : p.tables.exec = Jvm.exec) {pc : Nat} {Ls : Array Slot} {z : Int32} (hret : meth.sig.returnType = some .int) (hd : decode c.code pc = .ok (.ireturn, 1)) (hlk : meth.locks = false) (hk : cells ≤ k) (hn : slots ≤ n) (q : Q (some (.int z)) T.heap locs) :
    OwnOut p e s below k n Q (T.setTop (mkF m pc Ls [.int z])) := by
  obtain ⟨fs, hr, hrun, hended, hW, hsame⟩ := X.leave (v := some (.int z)) (fun h => by rw [hret] at h; cases h) hlk
  exact ⟨_, _, X.ireturnOut hx hret rfl (Or.inl rfl) hd hr, hrun, hended, _, _, rfl, q, ⟨_, rfl⟩, hW, hsame.mono hk hn⟩
theorem outZ (X : Stand p l e R s m args below meth c T locs cells slots) (hx : p.tables.exec = Jvm.exec) {pc : Nat} {Ls : Array Slot} {z : Int32} (hret : meth.sig.returnType = some .boolean) (hd : decode c.code pc = .ok (.ireturn, 1)) (hlk : meth.locks = false) (hk : cells ≤ k) (hn : slots ≤ n) (q : Q (some (.int (z &&& 1))) T.heap locs) :
    OwnOut p e s below k n Q (T.setTop (mkF m pc Ls [.int z])) := by
  obtain ⟨fs, hr, hrun, hended, hW, hsame⟩ := X.leave (v := some (.int (z &&& 1))) (fun h => by rw [hret] at h; cases h) hlk
  exact ⟨_, _, retN X hx (t := .boolean) hret (by simp) hd hr, hrun, hended, _, _, rfl, q, ⟨_, rfl⟩, hW, hsame.mono hk hn⟩
theorem outJ (X : Stand p l e R s m args below meth c T locs cells slots) (hx : p.tables.exec = Jvm.exec) {pc : Nat} {Ls : Array Slot} {z : Int64} (hret : meth.sig.returnType = some .long) (hd : decode c.code pc = .ok (.lreturn, 1)) (hlk : meth.locks = false) (hk : cells ≤ k) (hn : slots ≤ n) (q : Q (some (.long z)) T.heap locs) :
    OwnOut p e s below k n Q (T.setTop (mkF m pc Ls [.long z])) := by
  obtain ⟨fs, hr, hrun, hended, hW, hsame⟩ := X.leave (v := some (.long z)) (fun h => by rw [hret] at h; cases h) hlk
  exact ⟨_, _, X.lreturnOut hx hret hd hr, hrun, hended, _, _, rfl, q, ⟨_, rfl⟩, hW, hsame.mono hk hn⟩
theorem outA (X : Stand p l e R s m args below meth c T locs cells slots) (hx : p.tables.exec = Jvm.exec) {pc : Nat} {Ls : Array Slot} {w : Value} {t : FieldType} (hw : w.isRef = true) (hret : meth.sig.returnType = some t) (ht : t.isReference = true) (hd : decode c.code pc = .ok (.areturn, 1)) (hlk : meth.locks = false) (hk : cells ≤ k) (hn : slots ≤ n) (q : Q (some w) T.heap locs) :
    OwnOut p e s below k n Q (T.setTop (mkF m pc Ls [w])) := by
  obtain ⟨fs, hr, hrun, hended, hW, hsame⟩ := X.leave (v := some w) (fun h => by rw [hret] at h; cases h) hlk
  exact ⟨_, _, X.areturnOut hx hw hret ht hd hr, hrun, hended, _, _, rfl, q, ⟨_, rfl⟩, hW, hsame.mono hk hn⟩
theorem outV (X : Stand p l e R s m args below meth c T locs cells slots) (hx : p.tables.exec = Jvm.exec) {pc : Nat} {Ls : Array Slot} (hret : meth.sig.returnType = none) (hd : decode c.code pc = .ok (.return_, 1)) (hlk : meth.locks = false) (hk : cells ≤ k) (hn : slots ≤ n) (q : Q none T.heap locs) :
    OwnOut p e s below k n Q (T.setTop (mkF m pc Ls [])) := by
  obtain ⟨fs, hr, hrun, hended, hW, hsame⟩ := X.leave (v := none) (fun _ => rfl) hlk
  exact ⟨_, _, X.returnOut hx hret hd hr, hrun, hended, _, _, rfl, q, ⟨_, rfl⟩, hW, hsame.mono hk hn⟩
theorem lremM {g : JFrame} {target : State} (X : Stand p l e R s m args below meth c T locs cells slots) (hx : p.tables.exec = Jvm.exec) (hg : g.method = m) {x y : Int64} {rest : List Value} (hd : decode c.code g.pc = .ok (.lrem, 1)) (hs : g.stack = .long y :: .long x :: rest) (hy : y ≠ 0)
    (hr : Steps p.tables e below (T.setTop { g with pc := g.pc + 1, stack := .long (x % y) :: rest }) target) : Steps p.tables e below (T.setTop g) target :=
  XS.lrem X.here hx hg hd hs hy (by rw [lrem_mod]; exact hr)
/-- a body that touches nothing: what it returns, the heap as it was, nothing written -/
def QP (h0 : Heap) (w : Option Value) (v : Option Value) (h : Heap) (L : List Loc) : Prop := v = w ∧ h = h0 ∧ L = []
/-- a static call of such a body -/
theorem callP (X : Stand p l e R s m args below meth c T locs cells slots) (hx : p.tables.exec = Jvm.exec) (hZ : Z.Warmed39 s.vm) {own : String} {index : Nat} {y : MethodName} {bytes : ByteArray} {maxL : Nat} {ret : Option FieldType} {rm : Room} {as' : Array Value} {w : Option Value}
    (hown : s.vm.findClass own = some m.cls) (w1 : (Cond.methodLink own index y).before a0 Z = true) (w2 : (Cond.static y).before a0 Z = true) (w3 : (Cond.initialized y.cls).before a0 Z = true) (w4 : (Cond.code y bytes maxL ret).before a0 Z = true) (hy : y.cls ≠ "java/lang/invoke/MethodHandle" ∧ y.cls ≠ "java/lang/invoke/VarHandle")
    (hM : MetFree l y (head1 [Cond.code y bytes maxL ret] rm) (fun a U => a = as' ∧ Z.Warmed39 U.vm ∧ U.heap = h) (fun _ _ _ _ _ => True) (fun _ U o U' => ∃ v L, o = .returned v ∧ QP h w v U'.heap L ∧ FrameEnd U o U' L rm.cells rm.slots))
    {W : Nat} (hf : rm.frames + 1 ≤ R.frames) (hl : W + (maxL + 11) + rm.locals ≤ R.locals) (z1 : rm.cells = 0) (z2 : rm.slots = 0) (hc : cells ≤ R.cells) (hs' : slots ≤ R.slots) (eT : T.heap = h)
    {g : JFrame} (hg : g.method = m) (hsize : g.locals.size = c.maxLocals) {argsL rest : List Value} (hlen : ∀ sig, parseMethodDescriptor y.desc = some sig → argsL.length = sig.parameters.length)
    (hstack : g.stack = argsL.reverse ++ rest) (hW : 2 * g.monitorRoom + (rest.map fun v => v.category).sum ≤ W) (hdg : decode c.code g.pc = .ok (.invokestatic index, 3)) (has : argsL.toArray = as' := by rfl) :
    ∃ T', Stand p l e R s m args below meth c T' locs cells slots ∧ T'.heap = h ∧ ∀ target, Steps p.tables e below (T'.setTop { g with pc := g.pc + 3, stack := w.toList ++ rest }) target → Steps p.tables e below (T.setTop g) target := by
  obtain ⟨v, vm₁, ⟨T', L', k', n'⟩, -, X', ⟨Lc, ⟨rfl, q2, rfl⟩, l1, y1, z3⟩, st⟩ := Jvm.LawKit.callS X hx (y := y) hown (mvT hZ w1) (mvT hZ w2) (mvT hZ w3) (mvT hZ w4) hy (backOf (W := W) hM hZ w4 w3 hf hl) hg hsize hlen hstack hW hdg (fun _ _ => ⟨has, eT, by rw [z1]; exact hc, by rw [z2]; exact hs'⟩)
  dsimp only [Pt.U, Pt.locs, Pt.cells, Pt.slots] at X' l1 y1 z3 st q2
  rw [z1] at y1; rw [z2] at z3
  rw [List.append_nil] at l1
  subst l1 y1 z3
  exact ⟨T', X', q2, st⟩
end Own
end Jvm.RoadKit
namespace Jvm.Pilot.@@N@@
open Jvm Jvm.ClassFile Sem Op Lib Jvm.Free Jvm.Stand Jvm.LawKit Jvm.RoadKit Bundle Jvm.Pilot.@@N@@.Jvm.D
-- body 1: com/example/sinogrid/sinogrid/LuminanceGrid.fits:(JJ)Z
theorem d1_0 : decode prog_23_method_2_code 0 = .ok (.lload_n 0, 1) := by decide +kernel
theorem d1_1 : decode prog_23_method_2_code 1 = .ok (.lconst 1, 1) := by decide +kernel
theorem d1_2 : decode prog_23_method_2_code 2 = .ok (.lcmp, 1) := by decide +kernel
theorem d1_3 : decode prog_23_method_2_code 3 = .ok (.ifCond .lt 39, 3) := by decide +kernel
theorem d1_6 : decode prog_23_method_2_code 6 = .ok (.lload_n 0, 1) := by decide +kernel
theorem d1_7 : decode prog_23_method_2_code 7 = .ok (.ldc2_w 33, 3) := by decide +kernel
theorem d1_10 : decode prog_23_method_2_code 10 = .ok (.lcmp, 1) := by decide +kernel
theorem d1_11 : decode prog_23_method_2_code 11 = .ok (.ifCond .gt 31, 3) := by decide +kernel
theorem d1_14 : decode prog_23_method_2_code 14 = .ok (.lload_n 2, 1) := by decide +kernel
theorem d1_15 : decode prog_23_method_2_code 15 = .ok (.lconst 1, 1) := by decide +kernel
theorem d1_16 : decode prog_23_method_2_code 16 = .ok (.lcmp, 1) := by decide +kernel
theorem d1_17 : decode prog_23_method_2_code 17 = .ok (.ifCond .lt 25, 3) := by decide +kernel
theorem d1_20 : decode prog_23_method_2_code 20 = .ok (.lload_n 2, 1) := by decide +kernel
theorem d1_21 : decode prog_23_method_2_code 21 = .ok (.ldc2_w 33, 3) := by decide +kernel
theorem d1_24 : decode prog_23_method_2_code 24 = .ok (.lcmp, 1) := by decide +kernel
theorem d1_25 : decode prog_23_method_2_code 25 = .ok (.ifCond .gt 17, 3) := by decide +kernel
theorem d1_28 : decode prog_23_method_2_code 28 = .ok (.lload_n 0, 1) := by decide +kernel
theorem d1_29 : decode prog_23_method_2_code 29 = .ok (.lload_n 2, 1) := by decide +kernel
theorem d1_30 : decode prog_23_method_2_code 30 = .ok (.lmul, 1) := by decide +kernel
theorem d1_31 : decode prog_23_method_2_code 31 = .ok (.ldc2_w 35, 3) := by decide +kernel
theorem d1_34 : decode prog_23_method_2_code 34 = .ok (.lcmp, 1) := by decide +kernel
theorem d1_35 : decode prog_23_method_2_code 35 = .ok (.ifCond .gt 7, 3) := by decide +kernel
theorem d1_38 : decode prog_23_method_2_code 38 = .ok (.iconst 1, 1) := by decide +kernel
theorem d1_39 : decode prog_23_method_2_code 39 = .ok (.goto 4, 3) := by decide +kernel
theorem d1_42 : decode prog_23_method_2_code 42 = .ok (.iconst 0, 1) := by decide +kernel
theorem d1_43 : decode prog_23_method_2_code 43 = .ok (.ireturn, 1) := by decide +kernel
theorem pn1 : plainName "com/example/sinogrid/sinogrid/LuminanceGrid" = true := by first | (simp [plainName, overriddenIn]; done) | decide +kernel
theorem pd1 : parseMethodDescriptor "(JJ)Z" = some ⟨[.long, .long], some .boolean⟩ := by decide +kernel
theorem ef1 (m : MethodId) (x0 : Int64) (x2 : Int64) : entryFrame m #[(.long x0), (.long x2)] 4 = mkF m 0 #[.val (.long x0), .second, .val (.long x2), .second] [] := by first | (simp [entryFrame, mkF, argsToLocals, Value.category]; done) | rfl
abbrev rx1 : Room := { frames := 0, cells := 0, slots := 0, locals := 0 }
abbrev Cx1 (Z : State) (a0 : Array Value) (p : Program) (s : State) (m : MethodId) (meth : Method) (c : Code) : Prop := p.tables.exec = Jvm.exec ∧ Z.Warmed39 s.vm ∧ (∀ d ∈ tables_1, d.before a0 Z = true) ∧ c.code = prog_23_method_2_code ∧ c.maxLocals = 4 ∧ s.vm.findClass "com/example/sinogrid/sinogrid/LuminanceGrid" = some m.cls ∧ meth.sig.returnType = (some .boolean) ∧ meth.locks = false ∧ meth.name = "fits"
def f1 (x0 : Int64) (x2 : Int64) : Int32 := (if x0 < (1 : Int64) then (0 : Int32) else (if (32768 : Int64) < x0 then (0 : Int32) else (if x2 < (1 : Int64) then (0 : Int32) else (if (32768 : Int64) < x2 then (0 : Int32) else (if (67108864 : Int64) < (x0 * x2) then (0 : Int32) else (1 : Int32))))))
set_option maxRecDepth 65536 in
set_option maxHeartbeats 40000000 in
theorem w1_0 {p : Program} {l : Launch} {e : Env} {s : State} {m : MethodId} {args : Array Value} {below : List Frame} {meth : Method} {c : Code} {T Z : State} {a0 : Array Value} {h0 : Heap} (x0 : Int64) (x2 : Int64)
    (X0 : Stand p l e rx1 s m args below meth c T [] 0 0) (C : Cx1 Z a0 p s m meth c) (e0 : T.heap = h0) :
    OwnOut p e s below 0 0 (QP h0 (some (.int (f1 x0 x2)))) (T.setTop (mkF m 0 #[.val (.long x0), .second, .val (.long x2), .second] [])) := by
  obtain ⟨hx, hZ, hw, hby, hml, hown, hret, hlk, hnm⟩ := C
  rw [f1]
  refine OwnOut.go (fun t k => XS.lloadN X0.here hx rfl (hb hby d1_0) rfl k) ?_
  show OwnOut p e s below 0 0 _ (T.setTop (mkF m 1 #[.val (.long x0), .second, .val (.long x2), .second] [(.long x0)]))
  refine OwnOut.go (fun t k => XT.lconstV X0.here hx rfl (1 : Int64) (hb hby d1_1) rfl k) ?_
  show OwnOut p e s below 0 0 _ (T.setTop (mkF m 2 #[.val (.long x0), .second, .val (.long x2), .second] [(.long (1 : Int64)), (.long x0)]))
  refine OwnOut.go (fun t k => XS.lcmp X0.here hx rfl (hb hby d1_2) rfl k) ?_
  show OwnOut p e s below 0 0 _ (T.setTop (mkF m 3 #[.val (.long x0), .second, .val (.long x2), .second] [(.int (XT.cmpL x0 (1 : Int64)))]))
  by_cases hc3 : x0 < (1 : Int64)
  · rw [if_pos hc3]
    refine OwnOut.go (fun t k => XS.ifYes X0.here hx rfl (pc0 := 3) (pc' := 42) rfl (hb hby d1_3) rfl (XT.ll_lt_t hc3) (by decide) (by decide) k) ?_
    show OwnOut p e s below 0 0 _ (T.setTop (mkF m 42 #[.val (.long x0), .second, .val (.long x2), .second] []))
    refine OwnOut.go (fun t k => XT.iconstV X0.here hx rfl (0 : Int32) (hb hby d1_42) rfl k) ?_
    show OwnOut p e s below 0 0 _ (T.setTop (mkF m 43 #[.val (.long x0), .second, .val (.long x2), .second] [(.int (0 : Int32))]))
    exact outZ X0 hx hret (hb hby d1_43) hlk (by decide) (by decide) ⟨rfl, e0, rfl⟩
  · rw [if_neg hc3]
    refine OwnOut.go (fun t k => XS.ifNo X0.here hx rfl (hb hby d1_3) rfl (XT.ll_lt_f hc3) k) ?_
    show OwnOut p e s below 0 0 _ (T.setTop (mkF m 6 #[.val (.long x0), .second, .val (.long x2), .second] []))
    refine OwnOut.go (fun t k => XS.lloadN X0.here hx rfl (hb hby d1_6) rfl k) ?_
    show OwnOut p e s below 0 0 _ (T.setTop (mkF m 7 #[.val (.long x0), .second, .val (.long x2), .second] [(.long x0)]))
    refine OwnOut.go (fun t k => X0.ldc2Long hx hown (mvT hZ (hw _ (List.mem_of_getElem? (i := 4) rfl))) (g := (mkF m 7 #[.val (.long x0), .second, .val (.long x2), .second] [(.long x0)])) rfl (hb hby d1_7) _ k) ?_
    show OwnOut p e s below 0 0 _ (T.setTop (mkF m 10 #[.val (.long x0), .second, .val (.long x2), .second] [(.long (32768 : Int64)), (.long x0)]))
    refine OwnOut.go (fun t k => XS.lcmp X0.here hx rfl (hb hby d1_10) rfl k) ?_
    show OwnOut p e s below 0 0 _ (T.setTop (mkF m 11 #[.val (.long x0), .second, .val (.long x2), .second] [(.int (XT.cmpL x0 (32768 : Int64)))]))
    by_cases hc11 : (32768 : Int64) < x0
    · rw [if_pos hc11]
      refine OwnOut.go (fun t k => XS.ifYes X0.here hx rfl (pc0 := 11) (pc' := 42) rfl (hb hby d1_11) rfl (XT.ll_gt_t hc11) (by decide) (by decide) k) ?_
      show OwnOut p e s below 0 0 _ (T.setTop (mkF m 42 #[.val (.long x0), .second, .val (.long x2), .second] []))
      refine OwnOut.go (fun t k => XT.iconstV X0.here hx rfl (0 : Int32) (hb hby d1_42) rfl k) ?_
      show OwnOut p e s below 0 0 _ (T.setTop (mkF m 43 #[.val (.long x0), .second, .val (.long x2), .second] [(.int (0 : Int32))]))
      exact outZ X0 hx hret (hb hby d1_43) hlk (by decide) (by decide) ⟨rfl, e0, rfl⟩
    · rw [if_neg hc11]
      refine OwnOut.go (fun t k => XS.ifNo X0.here hx rfl (hb hby d1_11) rfl (XT.ll_gt_f hc11) k) ?_
      show OwnOut p e s below 0 0 _ (T.setTop (mkF m 14 #[.val (.long x0), .second, .val (.long x2), .second] []))
      refine OwnOut.go (fun t k => XS.lloadN X0.here hx rfl (hb hby d1_14) rfl k) ?_
      show OwnOut p e s below 0 0 _ (T.setTop (mkF m 15 #[.val (.long x0), .second, .val (.long x2), .second] [(.long x2)]))
      refine OwnOut.go (fun t k => XT.lconstV X0.here hx rfl (1 : Int64) (hb hby d1_15) rfl k) ?_
      show OwnOut p e s below 0 0 _ (T.setTop (mkF m 16 #[.val (.long x0), .second, .val (.long x2), .second] [(.long (1 : Int64)), (.long x2)]))
      refine OwnOut.go (fun t k => XS.lcmp X0.here hx rfl (hb hby d1_16) rfl k) ?_
      show OwnOut p e s below 0 0 _ (T.setTop (mkF m 17 #[.val (.long x0), .second, .val (.long x2), .second] [(.int (XT.cmpL x2 (1 : Int64)))]))
      by_cases hc17 : x2 < (1 : Int64)
      · rw [if_pos hc17]
        refine OwnOut.go (fun t k => XS.ifYes X0.here hx rfl (pc0 := 17) (pc' := 42) rfl (hb hby d1_17) rfl (XT.ll_lt_t hc17) (by decide) (by decide) k) ?_
        show OwnOut p e s below 0 0 _ (T.setTop (mkF m 42 #[.val (.long x0), .second, .val (.long x2), .second] []))
        refine OwnOut.go (fun t k => XT.iconstV X0.here hx rfl (0 : Int32) (hb hby d1_42) rfl k) ?_
        show OwnOut p e s below 0 0 _ (T.setTop (mkF m 43 #[.val (.long x0), .second, .val (.long x2), .second] [(.int (0 : Int32))]))
        exact outZ X0 hx hret (hb hby d1_43) hlk (by decide) (by decide) ⟨rfl, e0, rfl⟩
      · rw [if_neg hc17]
        refine OwnOut.go (fun t k => XS.ifNo X0.here hx rfl (hb hby d1_17) rfl (XT.ll_lt_f hc17) k) ?_
        show OwnOut p e s below 0 0 _ (T.setTop (mkF m 20 #[.val (.long x0), .second, .val (.long x2), .second] []))
        refine OwnOut.go (fun t k => XS.lloadN X0.here hx rfl (hb hby d1_20) rfl k) ?_
        show OwnOut p e s below 0 0 _ (T.setTop (mkF m 21 #[.val (.long x0), .second, .val (.long x2), .second] [(.long x2)]))
        refine OwnOut.go (fun t k => X0.ldc2Long hx hown (mvT hZ (hw _ (List.mem_of_getElem? (i := 4) rfl))) (g := (mkF m 21 #[.val (.long x0), .second, .val (.long x2), .second] [(.long x2)])) rfl (hb hby d1_21) _ k) ?_
        show OwnOut p e s below 0 0 _ (T.setTop (mkF m 24 #[.val (.long x0), .second, .val (.long x2), .second] [(.long (32768 : Int64)), (.long x2)]))
        refine OwnOut.go (fun t k => XS.lcmp X0.here hx rfl (hb hby d1_24) rfl k) ?_
        show OwnOut p e s below 0 0 _ (T.setTop (mkF m 25 #[.val (.long x0), .second, .val (.long x2), .second] [(.int (XT.cmpL x2 (32768 : Int64)))]))
        by_cases hc25 : (32768 : Int64) < x2
        · rw [if_pos hc25]
          refine OwnOut.go (fun t k => XS.ifYes X0.here hx rfl (pc0 := 25) (pc' := 42) rfl (hb hby d1_25) rfl (XT.ll_gt_t hc25) (by decide) (by decide) k) ?_
          show OwnOut p e s below 0 0 _ (T.setTop (mkF m 42 #[.val (.long x0), .second, .val (.long x2), .second] []))
          refine OwnOut.go (fun t k => XT.iconstV X0.here hx rfl (0 : Int32) (hb hby d1_42) rfl k) ?_
          show OwnOut p e s below 0 0 _ (T.setTop (mkF m 43 #[.val (.long x0), .second, .val (.long x2), .second] [(.int (0 : Int32))]))
          exact outZ X0 hx hret (hb hby d1_43) hlk (by decide) (by decide) ⟨rfl, e0, rfl⟩
        · rw [if_neg hc25]
          refine OwnOut.go (fun t k => XS.ifNo X0.here hx rfl (hb hby d1_25) rfl (XT.ll_gt_f hc25) k) ?_
          show OwnOut p e s below 0 0 _ (T.setTop (mkF m 28 #[.val (.long x0), .second, .val (.long x2), .second] []))
          refine OwnOut.go (fun t k => XS.lloadN X0.here hx rfl (hb hby d1_28) rfl k) ?_
          show OwnOut p e s below 0 0 _ (T.setTop (mkF m 29 #[.val (.long x0), .second, .val (.long x2), .second] [(.long x0)]))
          refine OwnOut.go (fun t k => XS.lloadN X0.here hx rfl (hb hby d1_29) rfl k) ?_
          show OwnOut p e s below 0 0 _ (T.setTop (mkF m 30 #[.val (.long x0), .second, .val (.long x2), .second] [(.long x2), (.long x0)]))
          refine OwnOut.go (fun t k => XS.lmul X0.here hx rfl (hb hby d1_30) rfl k) ?_
          show OwnOut p e s below 0 0 _ (T.setTop (mkF m 31 #[.val (.long x0), .second, .val (.long x2), .second] [(.long (x0 * x2))]))
          refine OwnOut.go (fun t k => X0.ldc2Long hx hown (mvT hZ (hw _ (List.mem_of_getElem? (i := 5) rfl))) (g := (mkF m 31 #[.val (.long x0), .second, .val (.long x2), .second] [(.long (x0 * x2))])) rfl (hb hby d1_31) _ k) ?_
          show OwnOut p e s below 0 0 _ (T.setTop (mkF m 34 #[.val (.long x0), .second, .val (.long x2), .second] [(.long (67108864 : Int64)), (.long (x0 * x2))]))
          refine OwnOut.go (fun t k => XS.lcmp X0.here hx rfl (hb hby d1_34) rfl k) ?_
          show OwnOut p e s below 0 0 _ (T.setTop (mkF m 35 #[.val (.long x0), .second, .val (.long x2), .second] [(.int (XT.cmpL (x0 * x2) (67108864 : Int64)))]))
          by_cases hc35 : (67108864 : Int64) < (x0 * x2)
          · rw [if_pos hc35]
            refine OwnOut.go (fun t k => XS.ifYes X0.here hx rfl (pc0 := 35) (pc' := 42) rfl (hb hby d1_35) rfl (XT.ll_gt_t hc35) (by decide) (by decide) k) ?_
            show OwnOut p e s below 0 0 _ (T.setTop (mkF m 42 #[.val (.long x0), .second, .val (.long x2), .second] []))
            refine OwnOut.go (fun t k => XT.iconstV X0.here hx rfl (0 : Int32) (hb hby d1_42) rfl k) ?_
            show OwnOut p e s below 0 0 _ (T.setTop (mkF m 43 #[.val (.long x0), .second, .val (.long x2), .second] [(.int (0 : Int32))]))
            exact outZ X0 hx hret (hb hby d1_43) hlk (by decide) (by decide) ⟨rfl, e0, rfl⟩
          · rw [if_neg hc35]
            refine OwnOut.go (fun t k => XS.ifNo X0.here hx rfl (hb hby d1_35) rfl (XT.ll_gt_f hc35) k) ?_
            show OwnOut p e s below 0 0 _ (T.setTop (mkF m 38 #[.val (.long x0), .second, .val (.long x2), .second] []))
            refine OwnOut.go (fun t k => XT.iconstV X0.here hx rfl (1 : Int32) (hb hby d1_38) rfl k) ?_
            show OwnOut p e s below 0 0 _ (T.setTop (mkF m 39 #[.val (.long x0), .second, .val (.long x2), .second] [(.int (1 : Int32))]))
            refine OwnOut.go (fun t k => XS.goto X0.here hx rfl (pc0 := 39) (pc' := 43) rfl (hb hby d1_39) (by decide) (by decide) k) ?_
            show OwnOut p e s below 0 0 _ (T.setTop (mkF m 43 #[.val (.long x0), .second, .val (.long x2), .second] [(.int (1 : Int32))]))
            exact outZ X0 hx hret (hb hby d1_43) hlk (by decide) (by decide) ⟨rfl, e0, rfl⟩
set_option maxRecDepth 65536 in
set_option maxHeartbeats 40000000 in
theorem rm1 (l : Launch) (Z : State) (a0 : Array Value) (hw : ∀ d ∈ tables_1, d.before a0 Z = true) (ws : List Jvm.Cond) (x0 : Int64) (x2 : Int64) (h0 : Heap) :
    MetFree l (⟨"com/example/sinogrid/sinogrid/LuminanceGrid", "fits", "(JJ)Z"⟩ : MethodName) (head1 (Jvm.Cond.code (⟨"com/example/sinogrid/sinogrid/LuminanceGrid", "fits", "(JJ)Z"⟩ : MethodName) prog_23_method_2_code 4 (some .boolean) :: ws) rx1) (fun a U => a = #[(.long x0), (.long x2)] ∧ Z.Warmed39 U.vm ∧ U.heap = h0) (fun _ _ _ _ _ => True) (fun _ U o U' => ∃ v L, o = .returned v ∧ QP h0 (some (.int (f1 x0 x2))) v U'.heap L ∧ FrameEnd U o U' L rx1.cells rx1.slots) := by
  refine MetFree.of_bodySF (plainFor_of_name pn1) hisR ?_
  intro p e s m args below meth c s₁ Bd hml0 hP hK
  obtain ⟨rfl, hZ, hh⟩ := hP
  have X0 : Stand p l e rx1 s m #[(.long x0), (.long x2)] below meth c s₁ [] 0 0 := Stand.of_body Bd
  have e0 : s₁.heap = h0 := by rw [← hh, Bd.state]; rfl
  exact OwnOut.at (ef1 m x0 x2) (w1_0 x0 x2 X0 ⟨Bd.exec, hZ, hw, Bd.bytes, hml0, findClass_of_methodNamed Bd.named, Bd.returns, Bd.notSynchronized, (name_of_methodNamed Bd.named Bd.method).1⟩ e0)
-- body 2: com/example/sinogrid/sinogrid/LuminanceGridFitsPinLaw.expected:(JJ)Z
theorem d2_0 : decode method_3_code 0 = .ok (.lload_n 0, 1) := by decide +kernel
theorem d2_1 : decode method_3_code 1 = .ok (.lconst 1, 1) := by decide +kernel
theorem d2_2 : decode method_3_code 2 = .ok (.lcmp, 1) := by decide +kernel
theorem d2_3 : decode method_3_code 3 = .ok (.ifCond .lt 11, 3) := by decide +kernel
theorem d2_6 : decode method_3_code 6 = .ok (.lload_n 0, 1) := by decide +kernel
theorem d2_7 : decode method_3_code 7 = .ok (.ldc2_w 20, 3) := by decide +kernel
theorem d2_10 : decode method_3_code 10 = .ok (.lcmp, 1) := by decide +kernel
theorem d2_11 : decode method_3_code 11 = .ok (.ifCond .le 5, 3) := by decide +kernel
theorem d2_14 : decode method_3_code 14 = .ok (.iconst 0, 1) := by decide +kernel
theorem d2_15 : decode method_3_code 15 = .ok (.ireturn, 1) := by decide +kernel
theorem d2_16 : decode method_3_code 16 = .ok (.lload_n 2, 1) := by decide +kernel
theorem d2_17 : decode method_3_code 17 = .ok (.lconst 1, 1) := by decide +kernel
theorem d2_18 : decode method_3_code 18 = .ok (.lcmp, 1) := by decide +kernel
theorem d2_19 : decode method_3_code 19 = .ok (.ifCond .lt 11, 3) := by decide +kernel
theorem d2_22 : decode method_3_code 22 = .ok (.lload_n 2, 1) := by decide +kernel
theorem d2_23 : decode method_3_code 23 = .ok (.ldc2_w 20, 3) := by decide +kernel
theorem d2_26 : decode method_3_code 26 = .ok (.lcmp, 1) := by decide +kernel
theorem d2_27 : decode method_3_code 27 = .ok (.ifCond .le 5, 3) := by decide +kernel
theorem d2_30 : decode method_3_code 30 = .ok (.iconst 0, 1) := by decide +kernel
theorem d2_31 : decode method_3_code 31 = .ok (.ireturn, 1) := by decide +kernel
theorem d2_32 : decode method_3_code 32 = .ok (.lload_n 2, 1) := by decide +kernel
theorem d2_33 : decode method_3_code 33 = .ok (.ldc2_w 22, 3) := by decide +kernel
theorem d2_36 : decode method_3_code 36 = .ok (.lload_n 0, 1) := by decide +kernel
theorem d2_37 : decode method_3_code 37 = .ok (.ldiv, 1) := by decide +kernel
theorem d2_38 : decode method_3_code 38 = .ok (.lcmp, 1) := by decide +kernel
theorem d2_39 : decode method_3_code 39 = .ok (.ifCond .gt 7, 3) := by decide +kernel
theorem d2_42 : decode method_3_code 42 = .ok (.iconst 1, 1) := by decide +kernel
theorem d2_43 : decode method_3_code 43 = .ok (.goto 4, 3) := by decide +kernel
theorem d2_46 : decode method_3_code 46 = .ok (.iconst 0, 1) := by decide +kernel
theorem d2_47 : decode method_3_code 47 = .ok (.ireturn, 1) := by decide +kernel
theorem pn2 : plainName "com/example/sinogrid/sinogrid/LuminanceGridFitsPinLaw" = true := by first | (simp [plainName, overriddenIn]; done) | decide +kernel
theorem pd2 : parseMethodDescriptor "(JJ)Z" = some ⟨[.long, .long], some .boolean⟩ := by decide +kernel
theorem ef2 (m : MethodId) (x0 : Int64) (x2 : Int64) : entryFrame m #[(.long x0), (.long x2)] 4 = mkF m 0 #[.val (.long x0), .second, .val (.long x2), .second] [] := by first | (simp [entryFrame, mkF, argsToLocals, Value.category]; done) | rfl
abbrev rx2 : Room := { frames := 0, cells := 0, slots := 0, locals := 0 }
abbrev Cx2 (Z : State) (a0 : Array Value) (p : Program) (s : State) (m : MethodId) (meth : Method) (c : Code) : Prop := p.tables.exec = Jvm.exec ∧ Z.Warmed39 s.vm ∧ (∀ d ∈ tables_1, d.before a0 Z = true) ∧ c.code = method_3_code ∧ c.maxLocals = 4 ∧ s.vm.findClass "com/example/sinogrid/sinogrid/LuminanceGridFitsPinLaw" = some m.cls ∧ meth.sig.returnType = (some .boolean) ∧ meth.locks = false ∧ meth.name = "expected"
def f2 (x0 : Int64) (x2 : Int64) : Int32 := (if x0 < (1 : Int64) then (0 : Int32) else (if (32768 : Int64) < x0 then (0 : Int32) else (if x2 < (1 : Int64) then (0 : Int32) else (if (32768 : Int64) < x2 then (0 : Int32) else (if ((67108864 : Int64) / x0) < x2 then (0 : Int32) else (1 : Int32))))))
set_option maxRecDepth 65536 in
set_option maxHeartbeats 40000000 in
theorem w2_0 {p : Program} {l : Launch} {e : Env} {s : State} {m : MethodId} {args : Array Value} {below : List Frame} {meth : Method} {c : Code} {T Z : State} {a0 : Array Value} {h0 : Heap} (x0 : Int64) (x2 : Int64)
    (X0 : Stand p l e rx2 s m args below meth c T [] 0 0) (C : Cx2 Z a0 p s m meth c) (e0 : T.heap = h0) :
    OwnOut p e s below 0 0 (QP h0 (some (.int (f2 x0 x2)))) (T.setTop (mkF m 0 #[.val (.long x0), .second, .val (.long x2), .second] [])) := by
  obtain ⟨hx, hZ, hw, hby, hml, hown, hret, hlk, hnm⟩ := C
  rw [f2]
  refine OwnOut.go (fun t k => XS.lloadN X0.here hx rfl (hb hby d2_0) rfl k) ?_
  show OwnOut p e s below 0 0 _ (T.setTop (mkF m 1 #[.val (.long x0), .second, .val (.long x2), .second] [(.long x0)]))
  refine OwnOut.go (fun t k => XT.lconstV X0.here hx rfl (1 : Int64) (hb hby d2_1) rfl k) ?_
  show OwnOut p e s below 0 0 _ (T.setTop (mkF m 2 #[.val (.long x0), .second, .val (.long x2), .second] [(.long (1 : Int64)), (.long x0)]))
  refine OwnOut.go (fun t k => XS.lcmp X0.here hx rfl (hb hby d2_2) rfl k) ?_
  show OwnOut p e s below 0 0 _ (T.setTop (mkF m 3 #[.val (.long x0), .second, .val (.long x2), .second] [(.int (XT.cmpL x0 (1 : Int64)))]))
  by_cases hc3 : x0 < (1 : Int64)
  · rw [if_pos hc3]
    refine OwnOut.go (fun t k => XS.ifYes X0.here hx rfl (pc0 := 3) (pc' := 14) rfl (hb hby d2_3) rfl (XT.ll_lt_t hc3) (by decide) (by decide) k) ?_
    show OwnOut p e s below 0 0 _ (T.setTop (mkF m 14 #[.val (.long x0), .second, .val (.long x2), .second] []))
    refine OwnOut.go (fun t k => XT.iconstV X0.here hx rfl (0 : Int32) (hb hby d2_14) rfl k) ?_
    show OwnOut p e s below 0 0 _ (T.setTop (mkF m 15 #[.val (.long x0), .second, .val (.long x2), .second] [(.int (0 : Int32))]))
    exact outZ X0 hx hret (hb hby d2_15) hlk (by decide) (by decide) ⟨rfl, e0, rfl⟩
  · rw [if_neg hc3]
    refine OwnOut.go (fun t k => XS.ifNo X0.here hx rfl (hb hby d2_3) rfl (XT.ll_lt_f hc3) k) ?_
    show OwnOut p e s below 0 0 _ (T.setTop (mkF m 6 #[.val (.long x0), .second, .val (.long x2), .second] []))
    refine OwnOut.go (fun t k => XS.lloadN X0.here hx rfl (hb hby d2_6) rfl k) ?_
    show OwnOut p e s below 0 0 _ (T.setTop (mkF m 7 #[.val (.long x0), .second, .val (.long x2), .second] [(.long x0)]))
    refine OwnOut.go (fun t k => X0.ldc2Long hx hown (mvT hZ (hw _ (List.mem_of_getElem? (i := 10) rfl))) (g := (mkF m 7 #[.val (.long x0), .second, .val (.long x2), .second] [(.long x0)])) rfl (hb hby d2_7) _ k) ?_
    show OwnOut p e s below 0 0 _ (T.setTop (mkF m 10 #[.val (.long x0), .second, .val (.long x2), .second] [(.long (32768 : Int64)), (.long x0)]))
    refine OwnOut.go (fun t k => XS.lcmp X0.here hx rfl (hb hby d2_10) rfl k) ?_
    show OwnOut p e s below 0 0 _ (T.setTop (mkF m 11 #[.val (.long x0), .second, .val (.long x2), .second] [(.int (XT.cmpL x0 (32768 : Int64)))]))
    by_cases hc11 : (32768 : Int64) < x0
    · rw [if_pos hc11]
      refine OwnOut.go (fun t k => XS.ifNo X0.here hx rfl (hb hby d2_11) rfl (XT.ll_le_f hc11) k) ?_
      show OwnOut p e s below 0 0 _ (T.setTop (mkF m 14 #[.val (.long x0), .second, .val (.long x2), .second] []))
      refine OwnOut.go (fun t k => XT.iconstV X0.here hx rfl (0 : Int32) (hb hby d2_14) rfl k) ?_
      show OwnOut p e s below 0 0 _ (T.setTop (mkF m 15 #[.val (.long x0), .second, .val (.long x2), .second] [(.int (0 : Int32))]))
      exact outZ X0 hx hret (hb hby d2_15) hlk (by decide) (by decide) ⟨rfl, e0, rfl⟩
    · rw [if_neg hc11]
      refine OwnOut.go (fun t k => XS.ifYes X0.here hx rfl (pc0 := 11) (pc' := 16) rfl (hb hby d2_11) rfl (XT.ll_le_t hc11) (by decide) (by decide) k) ?_
      show OwnOut p e s below 0 0 _ (T.setTop (mkF m 16 #[.val (.long x0), .second, .val (.long x2), .second] []))
      refine OwnOut.go (fun t k => XS.lloadN X0.here hx rfl (hb hby d2_16) rfl k) ?_
      show OwnOut p e s below 0 0 _ (T.setTop (mkF m 17 #[.val (.long x0), .second, .val (.long x2), .second] [(.long x2)]))
      refine OwnOut.go (fun t k => XT.lconstV X0.here hx rfl (1 : Int64) (hb hby d2_17) rfl k) ?_
      show OwnOut p e s below 0 0 _ (T.setTop (mkF m 18 #[.val (.long x0), .second, .val (.long x2), .second] [(.long (1 : Int64)), (.long x2)]))
      refine OwnOut.go (fun t k => XS.lcmp X0.here hx rfl (hb hby d2_18) rfl k) ?_
      show OwnOut p e s below 0 0 _ (T.setTop (mkF m 19 #[.val (.long x0), .second, .val (.long x2), .second] [(.int (XT.cmpL x2 (1 : Int64)))]))
      by_cases hc19 : x2 < (1 : Int64)
      · rw [if_pos hc19]
        refine OwnOut.go (fun t k => XS.ifYes X0.here hx rfl (pc0 := 19) (pc' := 30) rfl (hb hby d2_19) rfl (XT.ll_lt_t hc19) (by decide) (by decide) k) ?_
        show OwnOut p e s below 0 0 _ (T.setTop (mkF m 30 #[.val (.long x0), .second, .val (.long x2), .second] []))
        refine OwnOut.go (fun t k => XT.iconstV X0.here hx rfl (0 : Int32) (hb hby d2_30) rfl k) ?_
        show OwnOut p e s below 0 0 _ (T.setTop (mkF m 31 #[.val (.long x0), .second, .val (.long x2), .second] [(.int (0 : Int32))]))
        exact outZ X0 hx hret (hb hby d2_31) hlk (by decide) (by decide) ⟨rfl, e0, rfl⟩
      · rw [if_neg hc19]
        refine OwnOut.go (fun t k => XS.ifNo X0.here hx rfl (hb hby d2_19) rfl (XT.ll_lt_f hc19) k) ?_
        show OwnOut p e s below 0 0 _ (T.setTop (mkF m 22 #[.val (.long x0), .second, .val (.long x2), .second] []))
        refine OwnOut.go (fun t k => XS.lloadN X0.here hx rfl (hb hby d2_22) rfl k) ?_
        show OwnOut p e s below 0 0 _ (T.setTop (mkF m 23 #[.val (.long x0), .second, .val (.long x2), .second] [(.long x2)]))
        refine OwnOut.go (fun t k => X0.ldc2Long hx hown (mvT hZ (hw _ (List.mem_of_getElem? (i := 10) rfl))) (g := (mkF m 23 #[.val (.long x0), .second, .val (.long x2), .second] [(.long x2)])) rfl (hb hby d2_23) _ k) ?_
        show OwnOut p e s below 0 0 _ (T.setTop (mkF m 26 #[.val (.long x0), .second, .val (.long x2), .second] [(.long (32768 : Int64)), (.long x2)]))
        refine OwnOut.go (fun t k => XS.lcmp X0.here hx rfl (hb hby d2_26) rfl k) ?_
        show OwnOut p e s below 0 0 _ (T.setTop (mkF m 27 #[.val (.long x0), .second, .val (.long x2), .second] [(.int (XT.cmpL x2 (32768 : Int64)))]))
        by_cases hc27 : (32768 : Int64) < x2
        · rw [if_pos hc27]
          refine OwnOut.go (fun t k => XS.ifNo X0.here hx rfl (hb hby d2_27) rfl (XT.ll_le_f hc27) k) ?_
          show OwnOut p e s below 0 0 _ (T.setTop (mkF m 30 #[.val (.long x0), .second, .val (.long x2), .second] []))
          refine OwnOut.go (fun t k => XT.iconstV X0.here hx rfl (0 : Int32) (hb hby d2_30) rfl k) ?_
          show OwnOut p e s below 0 0 _ (T.setTop (mkF m 31 #[.val (.long x0), .second, .val (.long x2), .second] [(.int (0 : Int32))]))
          exact outZ X0 hx hret (hb hby d2_31) hlk (by decide) (by decide) ⟨rfl, e0, rfl⟩
        · rw [if_neg hc27]
          refine OwnOut.go (fun t k => XS.ifYes X0.here hx rfl (pc0 := 27) (pc' := 32) rfl (hb hby d2_27) rfl (XT.ll_le_t hc27) (by decide) (by decide) k) ?_
          show OwnOut p e s below 0 0 _ (T.setTop (mkF m 32 #[.val (.long x0), .second, .val (.long x2), .second] []))
          refine OwnOut.go (fun t k => XS.lloadN X0.here hx rfl (hb hby d2_32) rfl k) ?_
          show OwnOut p e s below 0 0 _ (T.setTop (mkF m 33 #[.val (.long x0), .second, .val (.long x2), .second] [(.long x2)]))
          refine OwnOut.go (fun t k => X0.ldc2Long hx hown (mvT hZ (hw _ (List.mem_of_getElem? (i := 11) rfl))) (g := (mkF m 33 #[.val (.long x0), .second, .val (.long x2), .second] [(.long x2)])) rfl (hb hby d2_33) _ k) ?_
          show OwnOut p e s below 0 0 _ (T.setTop (mkF m 36 #[.val (.long x0), .second, .val (.long x2), .second] [(.long (67108864 : Int64)), (.long x2)]))
          refine OwnOut.go (fun t k => XS.lloadN X0.here hx rfl (hb hby d2_36) rfl k) ?_
          show OwnOut p e s below 0 0 _ (T.setTop (mkF m 37 #[.val (.long x0), .second, .val (.long x2), .second] [(.long x0), (.long (67108864 : Int64)), (.long x2)]))
          refine OwnOut.go (fun t k => XS.ldiv X0.here hx rfl (hb hby d2_37) rfl (by intro h; rw [h] at hc3; exact hc3 (by decide)) k) ?_
          show OwnOut p e s below 0 0 _ (T.setTop (mkF m 38 #[.val (.long x0), .second, .val (.long x2), .second] [(.long ((67108864 : Int64) / x0)), (.long x2)]))
          refine OwnOut.go (fun t k => XS.lcmp X0.here hx rfl (hb hby d2_38) rfl k) ?_
          show OwnOut p e s below 0 0 _ (T.setTop (mkF m 39 #[.val (.long x0), .second, .val (.long x2), .second] [(.int (XT.cmpL x2 ((67108864 : Int64) / x0)))]))
          by_cases hc39 : ((67108864 : Int64) / x0) < x2
          · rw [if_pos hc39]
            refine OwnOut.go (fun t k => XS.ifYes X0.here hx rfl (pc0 := 39) (pc' := 46) rfl (hb hby d2_39) rfl (XT.ll_gt_t hc39) (by decide) (by decide) k) ?_
            show OwnOut p e s below 0 0 _ (T.setTop (mkF m 46 #[.val (.long x0), .second, .val (.long x2), .second] []))
            refine OwnOut.go (fun t k => XT.iconstV X0.here hx rfl (0 : Int32) (hb hby d2_46) rfl k) ?_
            show OwnOut p e s below 0 0 _ (T.setTop (mkF m 47 #[.val (.long x0), .second, .val (.long x2), .second] [(.int (0 : Int32))]))
            exact outZ X0 hx hret (hb hby d2_47) hlk (by decide) (by decide) ⟨rfl, e0, rfl⟩
          · rw [if_neg hc39]
            refine OwnOut.go (fun t k => XS.ifNo X0.here hx rfl (hb hby d2_39) rfl (XT.ll_gt_f hc39) k) ?_
            show OwnOut p e s below 0 0 _ (T.setTop (mkF m 42 #[.val (.long x0), .second, .val (.long x2), .second] []))
            refine OwnOut.go (fun t k => XT.iconstV X0.here hx rfl (1 : Int32) (hb hby d2_42) rfl k) ?_
            show OwnOut p e s below 0 0 _ (T.setTop (mkF m 43 #[.val (.long x0), .second, .val (.long x2), .second] [(.int (1 : Int32))]))
            refine OwnOut.go (fun t k => XS.goto X0.here hx rfl (pc0 := 43) (pc' := 47) rfl (hb hby d2_43) (by decide) (by decide) k) ?_
            show OwnOut p e s below 0 0 _ (T.setTop (mkF m 47 #[.val (.long x0), .second, .val (.long x2), .second] [(.int (1 : Int32))]))
            exact outZ X0 hx hret (hb hby d2_47) hlk (by decide) (by decide) ⟨rfl, e0, rfl⟩
set_option maxRecDepth 65536 in
set_option maxHeartbeats 40000000 in
theorem rm2 (l : Launch) (Z : State) (a0 : Array Value) (hw : ∀ d ∈ tables_1, d.before a0 Z = true) (ws : List Jvm.Cond) (x0 : Int64) (x2 : Int64) (h0 : Heap) :
    MetFree l (⟨"com/example/sinogrid/sinogrid/LuminanceGridFitsPinLaw", "expected", "(JJ)Z"⟩ : MethodName) (head1 (Jvm.Cond.code (⟨"com/example/sinogrid/sinogrid/LuminanceGridFitsPinLaw", "expected", "(JJ)Z"⟩ : MethodName) method_3_code 4 (some .boolean) :: ws) rx2) (fun a U => a = #[(.long x0), (.long x2)] ∧ Z.Warmed39 U.vm ∧ U.heap = h0) (fun _ _ _ _ _ => True) (fun _ U o U' => ∃ v L, o = .returned v ∧ QP h0 (some (.int (f2 x0 x2))) v U'.heap L ∧ FrameEnd U o U' L rx2.cells rx2.slots) := by
  refine MetFree.of_bodySF (plainFor_of_name pn2) hisR ?_
  intro p e s m args below meth c s₁ Bd hml0 hP hK
  obtain ⟨rfl, hZ, hh⟩ := hP
  have X0 : Stand p l e rx2 s m #[(.long x0), (.long x2)] below meth c s₁ [] 0 0 := Stand.of_body Bd
  have e0 : s₁.heap = h0 := by rw [← hh, Bd.state]; rfl
  exact OwnOut.at (ef2 m x0 x2) (w2_0 x0 x2 X0 ⟨Bd.exec, hZ, hw, Bd.bytes, hml0, findClass_of_methodNamed Bd.named, Bd.returns, Bd.notSynchronized, (name_of_methodNamed Bd.named Bd.method).1⟩ e0)
-- body 0: com/example/sinogrid/sinogrid/LuminanceGridFitsPinLaw.law:(JJI)Z
theorem pn0 : plainName "com/example/sinogrid/sinogrid/LuminanceGridFitsPinLaw" = true := by first | (simp [plainName, overriddenIn]; done) | decide +kernel
theorem pd0 : parseMethodDescriptor "(JJI)Z" = some ⟨[.long, .long, .int], some .boolean⟩ := by decide +kernel
theorem ef0 (m : MethodId) (x0 : Int64) (x2 : Int64) (x4 : Int32) : entryFrame m #[(.long x0), (.long x2), (.int x4)] maxLocals = mkF m 0 #[.val (.long x0), .second, .val (.long x2), .second, .val (.int x4), .unset, .unset, .unset, .unset] [] := by first | (simp [entryFrame, mkF, argsToLocals, Value.category, maxLocals]; done) | rfl
abbrev Cx0 (Z : State) (a0 : Array Value) (p : Program) (s : State) (m : MethodId) (meth : Method) (c : Code) : Prop := p.tables.exec = Jvm.exec ∧ Z.Warmed39 s.vm ∧ (∀ d ∈ tables_1, d.before a0 Z = true) ∧ c.code = code ∧ c.maxLocals = 9 ∧ s.vm.findClass "com/example/sinogrid/sinogrid/LuminanceGridFitsPinLaw" = some m.cls ∧ meth.sig.returnType = (some .boolean) ∧ meth.locks = false ∧ meth.name = "law"
def f0_38 (x5 : Int64) (y0 : Int64) : Int32 := (if (f1 x5 y0) = (f2 x5 y0) then (1 : Int32) else (0 : Int32))
set_option maxRecDepth 65536 in
set_option maxHeartbeats 40000000 in
theorem w0_38 {p : Program} {l : Launch} {e : Env} {s : State} {m : MethodId} {args : Array Value} {below : List Frame} {meth : Method} {c : Code} {T Z : State} {a0 : Array Value} {h0 : Heap} (x0 : Int64) (x2 : Int64) (x4 : Int32) (x5 : Int64) (y0 : Int64)
    (X0 : Stand p l e room_1 s m args below meth c T [] 0 0) (C : Cx0 Z a0 p s m meth c) (e0 : T.heap = h0) :
    OwnOut p e s below 0 0 (QP h0 (some (.int (f0_38 x5 y0)))) (T.setTop (mkF m 38 #[.val (.long x0), .second, .val (.long x2), .second, .val (.int x4), .val (.long x5), .second, .unset, .unset] [(.long y0)])) := by
  obtain ⟨hx, hZ, hw, hby, hml, hown, hret, hlk, hnm⟩ := C
  rw [f0_38]
  refine OwnOut.go (fun t k => XS.lstore X0.here hx rfl (hb hby at_38) rfl (l' := #[.val (.long x0), .second, .val (.long x2), .second, .val (.int x4), .val (.long x5), .second, .val (.long y0), .second]) rfl k) ?_
  show OwnOut p e s below 0 0 _ (T.setTop (mkF m 40 #[.val (.long x0), .second, .val (.long x2), .second, .val (.int x4), .val (.long x5), .second, .val (.long y0), .second] []))
  refine OwnOut.go (fun t k => XS.lload X0.here hx rfl (hb hby at_40) rfl k) ?_
  show OwnOut p e s below 0 0 _ (T.setTop (mkF m 42 #[.val (.long x0), .second, .val (.long x2), .second, .val (.int x4), .val (.long x5), .second, .val (.long y0), .second] [(.long x5)]))
  refine OwnOut.go (fun t k => XS.lload X0.here hx rfl (hb hby at_42) rfl k) ?_
  show OwnOut p e s below 0 0 _ (T.setTop (mkF m 44 #[.val (.long x0), .second, .val (.long x2), .second, .val (.int x4), .val (.long x5), .second, .val (.long y0), .second] [(.long y0), (.long x5)]))
  obtain ⟨T1, X1, e1, st1⟩ := callP (W := 0) (rm := rx1) X0 hx hZ (y := (⟨"com/example/sinogrid/sinogrid/LuminanceGrid", "fits", "(JJ)Z"⟩ : MethodName)) hown (hw _ (List.mem_of_getElem? (i := 0) rfl)) (hw _ (List.mem_of_getElem? (i := 1) rfl)) (hw _ (List.mem_of_getElem? (i := 2) rfl)) (hw _ (List.mem_of_getElem? (i := 3) rfl)) (by decide) (rm1 l Z a0 hw [] x5 y0 h0) (by decide) (by decide) rfl rfl (Nat.zero_le _) (Nat.zero_le _) e0 (g := (mkF m 44 #[.val (.long x0), .second, .val (.long x2), .second, .val (.int x4), .val (.long x5), .second, .val (.long y0), .second] [(.long y0), (.long x5)])) rfl (by rw [hml]; rfl) (argsL := [(.long x5), (.long y0)]) (rest := []) (lenOf pd1 rfl) rfl (by show 2 * 0 + _ ≤ _; exact Nat.le_of_eq rfl) (hb hby at_44)
  refine OwnOut.go (fun t k => st1 _ k) ?_
  show OwnOut p e s below 0 0 _ (T1.setTop (mkF m 47 #[.val (.long x0), .second, .val (.long x2), .second, .val (.int x4), .val (.long x5), .second, .val (.long y0), .second] [(.int (f1 x5 y0))]))
  refine OwnOut.go (fun t k => XS.lload X1.here hx rfl (hb hby at_47) rfl k) ?_
  show OwnOut p e s below 0 0 _ (T1.setTop (mkF m 49 #[.val (.long x0), .second, .val (.long x2), .second, .val (.int x4), .val (.long x5), .second, .val (.long y0), .second] [(.long x5), (.int (f1 x5 y0))]))
  refine OwnOut.go (fun t k => XS.lload X1.here hx rfl (hb hby at_49) rfl k) ?_
  show OwnOut p e s below 0 0 _ (T1.setTop (mkF m 51 #[.val (.long x0), .second, .val (.long x2), .second, .val (.int x4), .val (.long x5), .second, .val (.long y0), .second] [(.long y0), (.long x5), (.int (f1 x5 y0))]))
  obtain ⟨T2, X2, e2, st2⟩ := callP (W := 1) (rm := rx2) X1 hx hZ (y := (⟨"com/example/sinogrid/sinogrid/LuminanceGridFitsPinLaw", "expected", "(JJ)Z"⟩ : MethodName)) hown (hw _ (List.mem_of_getElem? (i := 6) rfl)) (hw _ (List.mem_of_getElem? (i := 7) rfl)) (hw _ (List.mem_of_getElem? (i := 8) rfl)) (hw _ (List.mem_of_getElem? (i := 9) rfl)) (by decide) (rm2 l Z a0 hw [] x5 y0 h0) (by decide) (by decide) rfl rfl (Nat.zero_le _) (Nat.zero_le _) e1 (g := (mkF m 51 #[.val (.long x0), .second, .val (.long x2), .second, .val (.int x4), .val (.long x5), .second, .val (.long y0), .second] [(.long y0), (.long x5), (.int (f1 x5 y0))])) rfl (by rw [hml]; rfl) (argsL := [(.long x5), (.long y0)]) (rest := [(.int (f1 x5 y0))]) (lenOf pd2 rfl) rfl (by show 2 * 0 + _ ≤ _; exact Nat.le_of_eq rfl) (hb hby at_51)
  refine OwnOut.go (fun t k => st2 _ k) ?_
  show OwnOut p e s below 0 0 _ (T2.setTop (mkF m 54 #[.val (.long x0), .second, .val (.long x2), .second, .val (.int x4), .val (.long x5), .second, .val (.long y0), .second] [(.int (f2 x5 y0)), (.int (f1 x5 y0))]))
  by_cases hc54 : (f1 x5 y0) = (f2 x5 y0)
  · rw [if_pos hc54]
    refine OwnOut.go (fun t k => XS.icmpNo X2.here hx rfl (hb hby at_54) rfl (XT.ii_ne_f hc54) k) ?_
    show OwnOut p e s below 0 0 _ (T2.setTop (mkF m 57 #[.val (.long x0), .second, .val (.long x2), .second, .val (.int x4), .val (.long x5), .second, .val (.long y0), .second] []))
    refine OwnOut.go (fun t k => XT.iconstV X2.here hx rfl (1 : Int32) (hb hby at_57) rfl k) ?_
    show OwnOut p e s below 0 0 _ (T2.setTop (mkF m 58 #[.val (.long x0), .second, .val (.long x2), .second, .val (.int x4), .val (.long x5), .second, .val (.long y0), .second] [(.int (1 : Int32))]))
    refine OwnOut.go (fun t k => XS.goto X2.here hx rfl (pc0 := 58) (pc' := 62) rfl (hb hby at_58) (by decide) (by decide) k) ?_
    show OwnOut p e s below 0 0 _ (T2.setTop (mkF m 62 #[.val (.long x0), .second, .val (.long x2), .second, .val (.int x4), .val (.long x5), .second, .val (.long y0), .second] [(.int (1 : Int32))]))
    exact outZ X2 hx hret (hb hby at_62) hlk (by decide) (by decide) ⟨rfl, e2, rfl⟩
  · rw [if_neg hc54]
    refine OwnOut.go (fun t k => XS.icmpYes X2.here hx rfl (pc0 := 54) (pc' := 61) rfl (hb hby at_54) rfl (XT.ii_ne_t hc54) (by decide) (by decide) k) ?_
    show OwnOut p e s below 0 0 _ (T2.setTop (mkF m 61 #[.val (.long x0), .second, .val (.long x2), .second, .val (.int x4), .val (.long x5), .second, .val (.long y0), .second] []))
    refine OwnOut.go (fun t k => XT.iconstV X2.here hx rfl (0 : Int32) (hb hby at_61) rfl k) ?_
    show OwnOut p e s below 0 0 _ (T2.setTop (mkF m 62 #[.val (.long x0), .second, .val (.long x2), .second, .val (.int x4), .val (.long x5), .second, .val (.long y0), .second] [(.int (0 : Int32))]))
    exact outZ X2 hx hret (hb hby at_62) hlk (by decide) (by decide) ⟨rfl, e2, rfl⟩
def f0_18 (x2 : Int64) (x4 : Int32) (y0 : Int64) : Int32 := (if (x4 &&& (2 : Int32)) = (0 : Int32) then (f0_38 y0 x2) else (f0_38 y0 ((x2 &&& (65535 : Int64)) - (1 : Int64))))
set_option maxRecDepth 65536 in
set_option maxHeartbeats 40000000 in
theorem w0_18 {p : Program} {l : Launch} {e : Env} {s : State} {m : MethodId} {args : Array Value} {below : List Frame} {meth : Method} {c : Code} {T Z : State} {a0 : Array Value} {h0 : Heap} (x0 : Int64) (x2 : Int64) (x4 : Int32) (y0 : Int64)
    (X0 : Stand p l e room_1 s m args below meth c T [] 0 0) (C : Cx0 Z a0 p s m meth c) (e0 : T.heap = h0) :
    OwnOut p e s below 0 0 (QP h0 (some (.int (f0_18 x2 x4 y0)))) (T.setTop (mkF m 18 #[.val (.long x0), .second, .val (.long x2), .second, .val (.int x4), .unset, .unset, .unset, .unset] [(.long y0)])) := by
  obtain ⟨hx, hZ, hw, hby, hml, hown, hret, hlk, hnm⟩ := C
  rw [f0_18]
  refine OwnOut.go (fun t k => XS.lstore X0.here hx rfl (hb hby at_18) rfl (l' := #[.val (.long x0), .second, .val (.long x2), .second, .val (.int x4), .val (.long y0), .second, .unset, .unset]) rfl k) ?_
  show OwnOut p e s below 0 0 _ (T.setTop (mkF m 20 #[.val (.long x0), .second, .val (.long x2), .second, .val (.int x4), .val (.long y0), .second, .unset, .unset] []))
  refine OwnOut.go (fun t k => XS.iload X0.here hx rfl (hb hby at_20) rfl k) ?_
  show OwnOut p e s below 0 0 _ (T.setTop (mkF m 22 #[.val (.long x0), .second, .val (.long x2), .second, .val (.int x4), .val (.long y0), .second, .unset, .unset] [(.int x4)]))
  refine OwnOut.go (fun t k => XT.iconstV X0.here hx rfl (2 : Int32) (hb hby at_22) rfl k) ?_
  show OwnOut p e s below 0 0 _ (T.setTop (mkF m 23 #[.val (.long x0), .second, .val (.long x2), .second, .val (.int x4), .val (.long y0), .second, .unset, .unset] [(.int (2 : Int32)), (.int x4)]))
  refine OwnOut.go (fun t k => XS.iand X0.here hx rfl (hb hby at_23) rfl k) ?_
  show OwnOut p e s below 0 0 _ (T.setTop (mkF m 24 #[.val (.long x0), .second, .val (.long x2), .second, .val (.int x4), .val (.long y0), .second, .unset, .unset] [(.int (x4 &&& (2 : Int32)))]))
  by_cases hc24 : (x4 &&& (2 : Int32)) = (0 : Int32)
  · rw [if_pos hc24]
    refine OwnOut.go (fun t k => XS.ifYes X0.here hx rfl (pc0 := 24) (pc' := 37) rfl (hb hby at_24) rfl (XT.i0_eq_t hc24) (by decide) (by decide) k) ?_
    show OwnOut p e s below 0 0 _ (T.setTop (mkF m 37 #[.val (.long x0), .second, .val (.long x2), .second, .val (.int x4), .val (.long y0), .second, .unset, .unset] []))
    refine OwnOut.go (fun t k => XS.lloadN X0.here hx rfl (hb hby at_37) rfl k) ?_
    show OwnOut p e s below 0 0 _ (T.setTop (mkF m 38 #[.val (.long x0), .second, .val (.long x2), .second, .val (.int x4), .val (.long y0), .second, .unset, .unset] [(.long x2)]))
    exact w0_38 x0 x2 x4 y0 x2 X0 ⟨hx, hZ, hw, hby, hml, hown, hret, hlk, hnm⟩ e0
  · rw [if_neg hc24]
    refine OwnOut.go (fun t k => XS.ifNo X0.here hx rfl (hb hby at_24) rfl (XT.i0_eq_f hc24) k) ?_
    show OwnOut p e s below 0 0 _ (T.setTop (mkF m 27 #[.val (.long x0), .second, .val (.long x2), .second, .val (.int x4), .val (.long y0), .second, .unset, .unset] []))
    refine OwnOut.go (fun t k => XS.lloadN X0.here hx rfl (hb hby at_27) rfl k) ?_
    show OwnOut p e s below 0 0 _ (T.setTop (mkF m 28 #[.val (.long x0), .second, .val (.long x2), .second, .val (.int x4), .val (.long y0), .second, .unset, .unset] [(.long x2)]))
    refine OwnOut.go (fun t k => X0.ldc2Long hx hown (mvT hZ (hw _ (List.mem_of_getElem? (i := 12) rfl))) (g := (mkF m 28 #[.val (.long x0), .second, .val (.long x2), .second, .val (.int x4), .val (.long y0), .second, .unset, .unset] [(.long x2)])) rfl (hb hby at_28) _ k) ?_
    show OwnOut p e s below 0 0 _ (T.setTop (mkF m 31 #[.val (.long x0), .second, .val (.long x2), .second, .val (.int x4), .val (.long y0), .second, .unset, .unset] [(.long (65535 : Int64)), (.long x2)]))
    refine OwnOut.go (fun t k => XS.land X0.here hx rfl (hb hby at_31) rfl k) ?_
    show OwnOut p e s below 0 0 _ (T.setTop (mkF m 32 #[.val (.long x0), .second, .val (.long x2), .second, .val (.int x4), .val (.long y0), .second, .unset, .unset] [(.long (x2 &&& (65535 : Int64)))]))
    refine OwnOut.go (fun t k => XT.lconstV X0.here hx rfl (1 : Int64) (hb hby at_32) rfl k) ?_
    show OwnOut p e s below 0 0 _ (T.setTop (mkF m 33 #[.val (.long x0), .second, .val (.long x2), .second, .val (.int x4), .val (.long y0), .second, .unset, .unset] [(.long (1 : Int64)), (.long (x2 &&& (65535 : Int64)))]))
    refine OwnOut.go (fun t k => XS.lsub X0.here hx rfl (hb hby at_33) rfl k) ?_
    show OwnOut p e s below 0 0 _ (T.setTop (mkF m 34 #[.val (.long x0), .second, .val (.long x2), .second, .val (.int x4), .val (.long y0), .second, .unset, .unset] [(.long ((x2 &&& (65535 : Int64)) - (1 : Int64)))]))
    refine OwnOut.go (fun t k => XS.goto X0.here hx rfl (pc0 := 34) (pc' := 38) rfl (hb hby at_34) (by decide) (by decide) k) ?_
    show OwnOut p e s below 0 0 _ (T.setTop (mkF m 38 #[.val (.long x0), .second, .val (.long x2), .second, .val (.int x4), .val (.long y0), .second, .unset, .unset] [(.long ((x2 &&& (65535 : Int64)) - (1 : Int64)))]))
    exact w0_38 x0 x2 x4 y0 ((x2 &&& (65535 : Int64)) - (1 : Int64)) X0 ⟨hx, hZ, hw, hby, hml, hown, hret, hlk, hnm⟩ e0
def f0 (x0 : Int64) (x2 : Int64) (x4 : Int32) : Int32 := (if (x4 &&& (1 : Int32)) = (0 : Int32) then (f0_18 x2 x4 x0) else (f0_18 x2 x4 ((x0 &&& (65535 : Int64)) - (1 : Int64))))
set_option maxRecDepth 65536 in
set_option maxHeartbeats 40000000 in
theorem w0_0 {p : Program} {l : Launch} {e : Env} {s : State} {m : MethodId} {args : Array Value} {below : List Frame} {meth : Method} {c : Code} {T Z : State} {a0 : Array Value} {h0 : Heap} (x0 : Int64) (x2 : Int64) (x4 : Int32)
    (X0 : Stand p l e room_1 s m args below meth c T [] 0 0) (C : Cx0 Z a0 p s m meth c) (e0 : T.heap = h0) :
    OwnOut p e s below 0 0 (QP h0 (some (.int (f0 x0 x2 x4)))) (T.setTop (mkF m 0 #[.val (.long x0), .second, .val (.long x2), .second, .val (.int x4), .unset, .unset, .unset, .unset] [])) := by
  obtain ⟨hx, hZ, hw, hby, hml, hown, hret, hlk, hnm⟩ := C
  rw [f0]
  refine OwnOut.go (fun t k => XS.iload X0.here hx rfl (hb hby at_0) rfl k) ?_
  show OwnOut p e s below 0 0 _ (T.setTop (mkF m 2 #[.val (.long x0), .second, .val (.long x2), .second, .val (.int x4), .unset, .unset, .unset, .unset] [(.int x4)]))
  refine OwnOut.go (fun t k => XT.iconstV X0.here hx rfl (1 : Int32) (hb hby at_2) rfl k) ?_
  show OwnOut p e s below 0 0 _ (T.setTop (mkF m 3 #[.val (.long x0), .second, .val (.long x2), .second, .val (.int x4), .unset, .unset, .unset, .unset] [(.int (1 : Int32)), (.int x4)]))
  refine OwnOut.go (fun t k => XS.iand X0.here hx rfl (hb hby at_3) rfl k) ?_
  show OwnOut p e s below 0 0 _ (T.setTop (mkF m 4 #[.val (.long x0), .second, .val (.long x2), .second, .val (.int x4), .unset, .unset, .unset, .unset] [(.int (x4 &&& (1 : Int32)))]))
  by_cases hc4 : (x4 &&& (1 : Int32)) = (0 : Int32)
  · rw [if_pos hc4]
    refine OwnOut.go (fun t k => XS.ifYes X0.here hx rfl (pc0 := 4) (pc' := 17) rfl (hb hby at_4) rfl (XT.i0_eq_t hc4) (by decide) (by decide) k) ?_
    show OwnOut p e s below 0 0 _ (T.setTop (mkF m 17 #[.val (.long x0), .second, .val (.long x2), .second, .val (.int x4), .unset, .unset, .unset, .unset] []))
    refine OwnOut.go (fun t k => XS.lloadN X0.here hx rfl (hb hby at_17) rfl k) ?_
    show OwnOut p e s below 0 0 _ (T.setTop (mkF m 18 #[.val (.long x0), .second, .val (.long x2), .second, .val (.int x4), .unset, .unset, .unset, .unset] [(.long x0)]))
    exact w0_18 x0 x2 x4 x0 X0 ⟨hx, hZ, hw, hby, hml, hown, hret, hlk, hnm⟩ e0
  · rw [if_neg hc4]
    refine OwnOut.go (fun t k => XS.ifNo X0.here hx rfl (hb hby at_4) rfl (XT.i0_eq_f hc4) k) ?_
    show OwnOut p e s below 0 0 _ (T.setTop (mkF m 7 #[.val (.long x0), .second, .val (.long x2), .second, .val (.int x4), .unset, .unset, .unset, .unset] []))
    refine OwnOut.go (fun t k => XS.lloadN X0.here hx rfl (hb hby at_7) rfl k) ?_
    show OwnOut p e s below 0 0 _ (T.setTop (mkF m 8 #[.val (.long x0), .second, .val (.long x2), .second, .val (.int x4), .unset, .unset, .unset, .unset] [(.long x0)]))
    refine OwnOut.go (fun t k => X0.ldc2Long hx hown (mvT hZ (hw _ (List.mem_of_getElem? (i := 12) rfl))) (g := (mkF m 8 #[.val (.long x0), .second, .val (.long x2), .second, .val (.int x4), .unset, .unset, .unset, .unset] [(.long x0)])) rfl (hb hby at_8) _ k) ?_
    show OwnOut p e s below 0 0 _ (T.setTop (mkF m 11 #[.val (.long x0), .second, .val (.long x2), .second, .val (.int x4), .unset, .unset, .unset, .unset] [(.long (65535 : Int64)), (.long x0)]))
    refine OwnOut.go (fun t k => XS.land X0.here hx rfl (hb hby at_11) rfl k) ?_
    show OwnOut p e s below 0 0 _ (T.setTop (mkF m 12 #[.val (.long x0), .second, .val (.long x2), .second, .val (.int x4), .unset, .unset, .unset, .unset] [(.long (x0 &&& (65535 : Int64)))]))
    refine OwnOut.go (fun t k => XT.lconstV X0.here hx rfl (1 : Int64) (hb hby at_12) rfl k) ?_
    show OwnOut p e s below 0 0 _ (T.setTop (mkF m 13 #[.val (.long x0), .second, .val (.long x2), .second, .val (.int x4), .unset, .unset, .unset, .unset] [(.long (1 : Int64)), (.long (x0 &&& (65535 : Int64)))]))
    refine OwnOut.go (fun t k => XS.lsub X0.here hx rfl (hb hby at_13) rfl k) ?_
    show OwnOut p e s below 0 0 _ (T.setTop (mkF m 14 #[.val (.long x0), .second, .val (.long x2), .second, .val (.int x4), .unset, .unset, .unset, .unset] [(.long ((x0 &&& (65535 : Int64)) - (1 : Int64)))]))
    refine OwnOut.go (fun t k => XS.goto X0.here hx rfl (pc0 := 14) (pc' := 18) rfl (hb hby at_14) (by decide) (by decide) k) ?_
    show OwnOut p e s below 0 0 _ (T.setTop (mkF m 18 #[.val (.long x0), .second, .val (.long x2), .second, .val (.int x4), .unset, .unset, .unset, .unset] [(.long ((x0 &&& (65535 : Int64)) - (1 : Int64)))]))
    exact w0_18 x0 x2 x4 ((x0 &&& (65535 : Int64)) - (1 : Int64)) X0 ⟨hx, hZ, hw, hby, hml, hown, hret, hlk, hnm⟩ e0
set_option maxRecDepth 65536 in
set_option maxHeartbeats 40000000 in
theorem rm0 (l : Launch) (Z : State) (a0 : Array Value) (hw : ∀ d ∈ tables_1, d.before a0 Z = true) (ws : List Jvm.Cond) (x0 : Int64) (x2 : Int64) (x4 : Int32) (h0 : Heap) :
    MetFree l x (head1 (Jvm.Cond.code x code maxLocals ret :: ws) room_1) (fun a U => a = #[(.long x0), (.long x2), (.int x4)] ∧ Z.Warmed39 U.vm ∧ U.heap = h0) (fun _ _ _ _ _ => True) (fun _ U o U' => ∃ v L, o = .returned v ∧ QP h0 (some (.int (f0 x0 x2 x4))) v U'.heap L ∧ FrameEnd U o U' L 0 0) := by
  refine MetFree.of_bodySF (plainFor_of_name pn0) hisR ?_
  intro p e s m args below meth c s₁ Bd hml0 hP hK
  obtain ⟨rfl, hZ, hh⟩ := hP
  have X0 : Stand p l e room_1 s m #[(.long x0), (.long x2), (.int x4)] below meth c s₁ [] 0 0 := Stand.of_body Bd
  have e0 : s₁.heap = h0 := by rw [← hh, Bd.state]; rfl
  exact OwnOut.at (ef0 m x0 x2 x4) (w0_0 x0 x2 x4 X0 ⟨Bd.exec, hZ, hw, Bd.bytes, hml0, findClass_of_methodNamed Bd.named, Bd.returns, Bd.notSynchronized, (name_of_methodNamed Bd.named Bd.method).1⟩ e0)
theorem own_key (a b : Int64) : f1 a b = f2 a b := by
  unfold f1 f2
  by_cases h1 : a < 1
  · simp only [if_pos h1]
  by_cases h2 : 32768 < a
  · simp only [if_neg h1, if_pos h2]
  by_cases h3 : b < 1
  · simp only [if_neg h1, if_neg h2, if_pos h3]
  by_cases h4 : 32768 < b
  · simp only [if_neg h1, if_neg h2, if_neg h3, if_pos h4]
  simp only [if_neg h1, if_neg h2, if_neg h3, if_neg h4]
  have e : (67108864 : Int64) < a * b ↔ (67108864 : Int64) / a < b := by
    simp only [Int64.lt_iff_toInt_lt, Int64.reduceToInt] at h1 h2 h3 h4 ⊢
    have hm : (a * b).toInt = a.toInt * b.toInt := by
      have q1 : 0 ≤ a.toInt * b.toInt := Int.mul_nonneg (by omega) (by omega)
      have q2 : a.toInt * b.toInt ≤ 32768 * 32768 := Int.mul_le_mul (by omega) (by omega) (by omega) (by omega)
      exact XT.mul64 ⟨by omega, by omega⟩
    have hd := (c_ldiv 67108864 a a.toInt rfl (by intro q; rw [q] at h1; exact h1 (by decide))).1 (by decide)
    rw [hm, hd]
    show 67108864 < a.toInt * b.toInt ↔ 67108864 / a.toInt < b.toInt
    rw [Int.ediv_lt_iff_lt_mul (by omega), Int.mul_comm]
  by_cases h5 : (67108864 : Int64) < a * b
  · rw [if_pos h5, if_pos (e.mp h5)]
  · rw [if_neg h5, if_neg (fun q => h5 (e.mpr q))]
theorem law_ok (a b : Int64) (c : Int32) : f0 a b c = 1 := by
  simp only [f0, f0_18, f0_38, own_key, if_true]
  repeat' split
  all_goals rfl
set_option maxRecDepth 65536 in
set_option maxHeartbeats 40000000 in
theorem comes_1 {Post : Tables → Env → Array Value → State → Outcome → State → Prop} (hpost : ∀ tb e args s v u, (limb_1_1.after args s (.returned v) u = true ∧ limb_1_2.after args s (.returned v) u = true ∧ True) → FrameEnd s (.returned v) u (Jvm.fieldLocs frame_1_writes args s ++ Jvm.arrayLocs frame_1_arrays args s ++ Jvm.staticLocs frame_1_statics s) 0 0 → Post tb e args s (.returned v) u) :
    ArmFor flags0 classFile x code maxLocals ret World_1 tables_1 room_1 Calls_1 rest_1 Pre_1 Post := by
  intro l hfl _ _ p e ha hc hk s m args below hf hA hF happ hP
  obtain ⟨hcalls, hrest, hpre⟩ := hP
  obtain ⟨-, -, -, hnamed, -, -, -, hat⟩ := (Spec.applies_iff hf).mp happ
  obtain ⟨hg, hn⟩ := and_e (Cond.before_iff.mp (show (Jvm.Cond.and given_1 narrow_1).before args s = true from hpre))
  obtain ⟨g1, g2⟩ := and_e hg
  obtain ⟨g3, g4⟩ := and_e g2
  obtain ⟨g5, g6⟩ := and_e g4
  obtain ⟨w0, w1, w2, rfl⟩ : ∃ w0 w1 w2 : Value, args = #[w0, w1, w2] := by
    have hs : args.size = 3 := by simpa [Cond.value, given_1] using g1
    obtain ⟨L⟩ := args
    match L, hs with
    | [w0, w1, w2], _ => exact ⟨w0, w1, w2, rfl⟩
  have hw := fun d (hd : d ∈ tables_1) => atoms_spec (ws := Jvm.Cond.code x code maxLocals ret :: tables_1) hat d (List.mem_cons_of_mem _ hd)
  obtain ⟨i0, ei0⟩ := isL_v g3
  obtain rfl : w0 = (.long i0) := Option.some.inj ei0
  obtain ⟨i1, ei1⟩ := isL_v g5
  obtain rfl : w1 = (.long i1) := Option.some.inj ei1
  obtain ⟨i2, ei2⟩ := is_v g6
  obtain rfl : w2 = (.int i2) := Option.some.inj ei2
  obtain ⟨n, o, h1, h2, h3, _, L, rfl, ⟨rfl, hh, rfl⟩, hq⟩ := rm0 l s _ hw tables_1 i0 i1 i2 s.heap p e ha hc hk s m _ below hf ((Spec.applies_iff_loose hf).mp happ).1 ⟨rfl, State.Warmed39.refl s, rfl⟩ trivial
  have hv := law_ok i0 i1 i2
  refine ⟨n, _, h1, h2, h3, hpost _ _ _ _ _ _ ⟨Cond.after_iff.mpr rfl, Cond.after_iff.mpr (eq_i res_at (Term.int_eval (1)) (congrArg Value.int hv)), trivial⟩ ⟨hq.1, hq.2.1, (hq.2.2.sift fun y hy => nomatch hy).mono (by decide) (by decide)⟩⟩
theorem main_1_1 : Claimed_1_1 := comes_1 fun _ _ _ _ _ _ h hF => ⟨h.1, hF⟩
theorem main_1_2 : Claimed_1_2 := comes_1 fun _ _ _ _ _ _ h hF => ⟨h.2.1, hF⟩
end Jvm.Pilot.@@N@@
namespace Jvm.Pilot.@@N@@
open Jvm Jvm.ClassFile Sem Op Lib Jvm.Free Jvm.Stand Jvm.Pilot.@@N@@.Jvm.D
/-! MADE BY PROGRAM (witnessworld.py) out of the Statement's table words and the real class files: 9 classes; the members and pool entries that the words name. The judged class is class 1, her method 1. -/
namespace start1
open Jvm.ClassFile
def u (s : String) : CpInfo := .utf8 (stringToUtf16 s)
/-- a pool by its gaps: so many unusable entries, then the entry; so many at the end -/
def gap : Nat → List CpInfo → List CpInfo
  | 0, r => r
  | n + 1, r => .unusable :: gap n r
def poolList (es : List (Nat × CpInfo)) (last : Nat) : List CpInfo := es.foldr (fun e r => gap e.1 (e.2 :: r)) (gap last [])
def pool (es : List (Nat × CpInfo)) (last : Nat) : Array CpInfo := ⟨poolList es last⟩
def fileOf (pool : Array CpInfo) (this : Nat) (attrs : Array Attribute := #[]) (ms : Array MethodInfo := #[]) (fl : Nat := 33) (sup : Nat := 0) (ifs : Array Nat := #[]) (fds : Array FieldInfo := #[]) : ClassFile where
  minorVersion := 0
  majorVersion := 65
  constantPool := pool
  accessFlags := fl
  thisClass := this
  superClass := sup
  interfaces := ifs
  fields := fds
  methods := ms
  attributes := attrs
def plain (name : String) (sup : Option ClassId) : Class where
  name := name
  kind := .ordinary
  loader := none
  accessFlags := 33
  super := sup
  interfaces := #[]
  cf := none
  fields := #[]
  methods := #[]
  instanceTypes := #[]
  staticTypes := #[]
  resolved := #[]
  callSites := []
  init := .initialized
  statics := none
  mirror := none

def pool0 : Array CpInfo := pool [(5, u "<init>"), (0, u "()V"), (1, .class_ 10), (1, u "java/lang/Object")] 113

def k0m0 : Method := { name := "<init>", desc := "()V", sig := { parameters := [], returnType := none }, accessFlags := 1, code := none }
/-- java/lang/Object -/
def k0 : Class := { plain "java/lang/Object" none with
  accessFlags := 33
  interfaces := #[]
  cf := some (fileOf pool0 8 #[] #[{ accessFlags := 1, nameIndex := 5, descriptorIndex := 6, attributes := #[] }] 33 0 #[] #[])
  fields := #[]
  methods := #[k0m0]
  instanceTypes := #[]
  staticTypes := #[]
  resolved := Array.replicate 124 none
  statics := none }

def pool1 : Array CpInfo := pool [(2, .class_ 4), (1, u "java/lang/Object"), (0, u "<init>"), (0, u "()V"), (0, .long 65535), (1, .methodref 10 11), (0, .class_ 12), (0, .nameAndType 13 14), (0, u "com/example/sinogrid/sinogrid/LuminanceGrid"), (0, u "fits"), (0, u "(JJ)Z"), (0, .methodref 16 17), (0, .class_ 18), (0, .nameAndType 19 14), (0, u "com/example/sinogrid/sinogrid/LuminanceGridFitsPinLaw"), (0, u "expected"), (0, .long 32768), (1, .long 67108864), (3, u "law"), (0, u "(JJI)Z")] 3

def k1m0 : Method := { name := "<init>", desc := "()V", sig := { parameters := [], returnType := none }, accessFlags := 1, code := none }
def k1c1 : Code := { maxStack := 5, maxLocals := 9, code := code, exceptionTable := #[], attributes := #[] }
def k1m1 : Method := { name := "law", desc := "(JJI)Z", sig := { parameters := [.long, .long, .int], returnType := some .boolean }, accessFlags := 9, code := some k1c1 }
def k1c2 : Code := { maxStack := 6, maxLocals := 4, code := method_3_code, exceptionTable := #[], attributes := #[] }
def k1m2 : Method := { name := "expected", desc := "(JJ)Z", sig := { parameters := [.long, .long], returnType := some .boolean }, accessFlags := 10, code := some k1c2 }
/-- com/example/sinogrid/sinogrid/LuminanceGridFitsPinLaw -/
def k1 : Class := { plain "com/example/sinogrid/sinogrid/LuminanceGridFitsPinLaw" (some 0) with
  accessFlags := 49
  interfaces := #[]
  cf := some (fileOf pool1 16 #[] #[{ accessFlags := 1, nameIndex := 5, descriptorIndex := 6, attributes := #[] }, { accessFlags := 9, nameIndex := 26, descriptorIndex := 27, attributes := #[] }, { accessFlags := 10, nameIndex := 19, descriptorIndex := 14, attributes := #[] }] 49 2 #[] #[])
  fields := #[]
  methods := #[k1m0, k1m1, k1m2]
  instanceTypes := #[]
  staticTypes := #[]
  resolved := Array.replicate 31 none
  statics := none }

def pool2 : Array CpInfo := pool [(2, .class_ 4), (1, u "java/lang/Object"), (3, .class_ 10), (1, u "com/example/sinogrid/sinogrid/LuminanceGrid"), (0, u "fits"), (0, u "(JJ)Z"), (11, u "width"), (0, u "I"), (2, u "height"), (2, u "values"), (0, u "[B"), (0, .long 32768), (1, .long 67108864), (25, u "MAX_SIDE"), (2, u "MAX_PIXELS")] 39

def k2c0 : Code := { maxStack := 4, maxLocals := 4, code := prog_23_method_2_code, exceptionTable := #[], attributes := #[] }
def k2m0 : Method := { name := "fits", desc := "(JJ)Z", sig := { parameters := [.long, .long], returnType := some .boolean }, accessFlags := 9, code := some k2c0 }
/-- com/example/sinogrid/sinogrid/LuminanceGrid -/
def k2 : Class := { plain "com/example/sinogrid/sinogrid/LuminanceGrid" (some 0) with
  accessFlags := 49
  interfaces := #[]
  cf := some (fileOf pool2 8 #[] #[{ accessFlags := 9, nameIndex := 11, descriptorIndex := 12, attributes := #[] }] 49 2 #[] #[{ accessFlags := 25, nameIndex := 61, descriptorIndex := 25, attributes := #[] }, { accessFlags := 25, nameIndex := 64, descriptorIndex := 25, attributes := #[] }, { accessFlags := 18, nameIndex := 24, descriptorIndex := 25, attributes := #[] }, { accessFlags := 18, nameIndex := 28, descriptorIndex := 25, attributes := #[] }, { accessFlags := 18, nameIndex := 31, descriptorIndex := 32, attributes := #[] }])
  fields := #[{ name := "MAX_SIDE", type := .int, accessFlags := 25, slot := 0, constantValue := 0 }, { name := "MAX_PIXELS", type := .int, accessFlags := 25, slot := 1, constantValue := 0 }, { name := "width", type := .int, accessFlags := 18, slot := 0, constantValue := 0 }, { name := "height", type := .int, accessFlags := 18, slot := 1, constantValue := 0 }, { name := "values", type := (.array .byte), accessFlags := 18, slot := 2, constantValue := 0 }]
  methods := #[k2m0]
  instanceTypes := #[.int, .int, (.array .byte)]
  staticTypes := #[.int, .int]
  resolved := Array.replicate 104 none
  statics := none }

def pool3 : Array CpInfo := pool [(1, u "java/lang/Cloneable"), (0, .class_ 1), (0, u "java/lang/Object"), (0, .class_ 3)] 3

/-- java/lang/Cloneable -/
def k3 : Class := { plain "java/lang/Cloneable" (some 0) with
  accessFlags := 1537
  interfaces := #[]
  cf := some (fileOf pool3 2 #[] #[] 1537 4 #[] #[])
  fields := #[]
  methods := #[]
  instanceTypes := #[]
  staticTypes := #[]
  resolved := Array.replicate 8 none
  statics := none }

def pool4 : Array CpInfo := pool [(1, u "java/io/Serializable"), (0, .class_ 1), (0, u "java/lang/Object"), (0, .class_ 3)] 3

/-- java/io/Serializable -/
def k4 : Class := { plain "java/io/Serializable" (some 0) with
  accessFlags := 1537
  interfaces := #[]
  cf := some (fileOf pool4 2 #[] #[] 1537 4 #[] #[])
  fields := #[]
  methods := #[]
  instanceTypes := #[]
  staticTypes := #[]
  resolved := Array.replicate 8 none
  statics := none }

/-- the primitive byte -/
def k5 : Class := { plain "byte" none with kind := .primitive 'B', accessFlags := 0x411 }
/-- [B -/
def k6 : Class := { plain "[B" (some 0) with kind := .array 5 .byte, interfaces := #[3, 4], accessFlags := 1041 }

/-- the primitive int -/
def k7 : Class := { plain "int" none with kind := .primitive 'I', accessFlags := 0x411 }
/-- [I -/
def k8 : Class := { plain "[I" (some 0) with kind := .array 7 .int, interfaces := #[3, 4], accessFlags := 1041 }

def heap : Heap := #[]
def classes : Array Class := #[k0, k1, k2, k3, k4, k5, k6, k7, k8]
def interned : List (Array UInt16 × Addr) := []
def slotsUsed : Nat := 0
def theMethod : MethodId := ⟨1, 1⟩
def args0 : Array Value := #[.long 5, .long 7, .int 3]
def aboutOver (below : List Frame) : State where
  vm := { classes := classes, interned := interned.toArray }
  heap := heap
  slotsUsed := slotsUsed
  threads := #[{ frames := .invoking theMethod args0 :: below }]
def below0 : List Frame := [.native { method := ⟨0, 0⟩, args := #[] }]
def about1 : State := aboutOver below0
def p0 : Program := .bare "" "" ""
def e0 : Env := launch0.env 0 0 0
theorem w_frames : about1.frames = Frame.invoking theMethod args0 :: below0 := rfl
set_option maxRecDepth 65536 in
theorem w_args : argsFit about1.vm theMethod args0 = true := by decide +kernel
set_option maxRecDepth 65536 in
theorem w_heap : heapFits about1 = true := by decide +kernel
set_option maxRecDepth 65536 in
theorem w_runnable : about1.curStatus? = some .runnable := by decide +kernel
set_option maxRecDepth 65536 in
theorem w_alone : about1.alone = true := by decide +kernel
set_option maxRecDepth 65536 in
theorem w_named : about1.methodNamed? x = some theMethod := by decide +kernel
set_option maxRecDepth 65536 in
theorem w_hears : about1.hears theMethod below0 = true := by decide +kernel
set_option maxRecDepth 65536 in
theorem w_ripe : about1.ripe theMethod args0 below0 = true := by decide +kernel
theorem w_running : about1.status = .running := rfl
set_option maxRecDepth 65536 in
theorem w_room : about1.hasRoom e0.platform room_1 = true :=
  launch0.hasRoom_least _ room_1 (by decide +kernel) (by decide +kernel) (by decide +kernel) (by decide +kernel) (by decide +kernel) (by decide +kernel)
theorem allAtoms_all (ts : List Jvm.Cond) (a : Array Jvm.Value) (st : Jvm.State) : (allAtoms ts).before a st = ts.all (fun c => c.before a st) := by
  induction ts with
  | nil => rfl
  | cons c t ih =>
    show (Jvm.Cond.and c (allAtoms t)).before a st = _
    rw [Jvm.Cond.before_and, ih, List.all_cons]
def words1 : List Jvm.Cond := Jvm.Cond.code x code maxLocals ret :: tables_1
/-- a 'code' word, met by the world's own term for the bytes: nothing is compared byte by byte -/
theorem code_word {y : MethodName} {bytes : ByteArray} {mx : Nat} {rt : Option FieldType} {a : Array Value} {s : State} {m : MethodId} {meth : Method} {c : Code} (h1 : s.methodNamed? y = some m) (h2 : s.vm.method? m = some meth) (h3 : meth.code = some c) (h4 : c.code = bytes)
    (h5 : (c.maxLocals == mx && c.exceptionTable.isEmpty && decide (c.maxStack ≤ mostOperands) && decide (meth.sig.returnType = rt) && !meth.locks && decide (parseMethodDescriptor y.desc = some meth.sig)) = true) : (Jvm.Cond.code y bytes mx rt).before a s = true := by
  simp only [Bool.and_eq_true, beq_iff_eq, Bool.not_eq_true', decide_eq_true_eq] at h5
  obtain ⟨⟨⟨⟨⟨g1, g2⟩, g3⟩, g4⟩, g5⟩, g6⟩ := h5
  simp [Cond.before, Cond.holds, Cond.value, h1, h2, h3, h4, g1, g2, g3, g4, g5, g6]
def isCode : Jvm.Cond → Bool
  | .code _ _ _ _ => true
  | _ => false
theorem all_split {L : List Jvm.Cond} {P : Jvm.Cond → Bool} (h1 : L.all (fun c => isCode c || P c) = true) (h2 : ∀ c ∈ L.filter isCode, P c = true) : L.all P = true := by
  refine List.all_eq_true.mpr fun c hc => ?_
  have h := List.all_eq_true.mp h1 c hc
  rcases Bool.eq_false_or_eq_true (isCode c) with hi | hi
  · exact h2 c (List.mem_filter.mpr ⟨hc, hi⟩)
  · simpa [hi] using h
set_option maxRecDepth 65536 in
theorem w_c0 : (Jvm.Cond.code x code maxLocals ret).before args0 about1 = true := code_word (m := ⟨1, 1⟩) (meth := k1m1) (c := k1c1) (by decide +kernel) rfl rfl rfl (by decide +kernel)
set_option maxRecDepth 65536 in
theorem w_c1 : (Jvm.Cond.code ({ cls := "com/example/sinogrid/sinogrid/LuminanceGrid", name := "fits", desc := "(JJ)Z" } : Jvm.MethodName) prog_23_method_2_code (4 : Nat) (Option.some Jvm.ClassFile.FieldType.boolean)).before args0 about1 = true := code_word (m := ⟨2, 0⟩) (meth := k2m0) (c := k2c0) (by decide +kernel) rfl rfl rfl (by decide +kernel)
set_option maxRecDepth 65536 in
theorem w_c2 : (Jvm.Cond.code ({ cls := "com/example/sinogrid/sinogrid/LuminanceGridFitsPinLaw", name := "expected", desc := "(JJ)Z" } : Jvm.MethodName) method_3_code (4 : Nat) (Option.some Jvm.ClassFile.FieldType.boolean)).before args0 about1 = true := code_word (m := ⟨1, 2⟩) (meth := k1m2) (c := k1c2) (by decide +kernel) rfl rfl rfl (by decide +kernel)
def codes1 : List Jvm.Cond := [Jvm.Cond.code x code maxLocals ret, Jvm.Cond.code ({ cls := "com/example/sinogrid/sinogrid/LuminanceGrid", name := "fits", desc := "(JJ)Z" } : Jvm.MethodName) prog_23_method_2_code (4 : Nat) (Option.some Jvm.ClassFile.FieldType.boolean), Jvm.Cond.code ({ cls := "com/example/sinogrid/sinogrid/LuminanceGridFitsPinLaw", name := "expected", desc := "(JJ)Z" } : Jvm.MethodName) method_3_code (4 : Nat) (Option.some Jvm.ClassFile.FieldType.boolean)]
set_option maxRecDepth 65536 in
theorem codes_eq : words1.filter isCode = codes1 := rfl
theorem w_codes : ∀ c ∈ words1.filter isCode, c.before args0 about1 = true := by
  rw [codes_eq]
  intro c hc
  simp only [codes1, List.mem_cons, List.not_mem_nil, or_false] at hc
  rcases hc with rfl | rfl | rfl
  · exact w_c0
  · exact w_c1
  · exact w_c2
set_option maxRecDepth 65536 in
theorem w_t1 : words1.all (fun c => isCode c || c.before args0 about1) = true := by decide +kernel
theorem w_tables : (allAtoms (Jvm.Cond.code x code maxLocals ret :: tables_1)).before args0 about1 = true := by
  rw [allAtoms_all]
  show words1.all (fun c => c.before args0 about1) = true
  refine all_split ?_ w_codes
  rw [w_t1]
set_option maxRecDepth 65536 in
theorem w_case : (Jvm.Cond.and given_1 narrow_1).before args0 about1 = true := by decide +kernel
theorem w_applies : (headSpec (Jvm.Cond.code x code maxLocals ret :: tables_1) room_1).applies x e0.platform about1 = true :=
  (Spec.applies_iff w_frames).mpr ⟨w_running, w_runnable, w_alone, w_named, w_hears, w_ripe, w_room, w_tables⟩
theorem atStart : AtStart classFile x code maxLocals ret World_1 tables_1 room_1 Calls_1 rest_1 Pre_1 launch0 p0 e0 about1 theMethod args0 below0 :=
  ⟨lists_1, trivial, launch0.admits_env _ _ _, launch0.least_env, fairChoices_fair.cas, fairChoices_fair.clock, w_frames, w_args, w_heap, w_applies, trivial, trivial, w_case⟩
end start1
theorem witness_1 : WitnessClaimed_1 := ⟨start1.p0, start1.e0, start1.about1, start1.theMethod, start1.args0, start1.below0, start1.atStart⟩
end Jvm.Pilot.@@N@@
