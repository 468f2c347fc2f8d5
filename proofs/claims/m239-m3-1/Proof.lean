import JvmDerived
import JvmDerived.Pilot.@@N@@Statement
import JvmDerived.Pilot.@@N@@Code
set_option linter.unusedVariables false
set_option linter.unusedSimpArgs false
namespace Jvm.RoadKit
open Sem ClassFile Op Lib Jvm.Stand Jvm.Free Jvm.LawKit
section Own
variable {p : Program} {l : Launch} {e : Env} {R : Room} {s : State} {m : MethodId} {args : Array Value} {below : List Frame} {meth : Method} {c : Code} {T : State} {locs : List Loc} {cells slots : Nat} {k n : Nat} {Q : Option Value → Heap → List Loc → Prop} {W W' : State} {Z : State} {a0 : Array Value} {h : Heap}
/-- the run from W comes back, with what Q says -/
def OwnOut (p : Program) (e : Env) (s : State) (below : List Frame) (k n : Nat) (Q : Option Value → Heap → List Loc → Prop) (W : State) : Prop :=
  ∃ s₂ o, Steps p.tables e below W s₂ ∧ s₂.status = .running ∧ Ended s₂ below o ∧ ∃ v L, o = .returned v ∧ Q v s₂.heap L ∧ FrameEnd s o s₂ L k n
theorem OwnOut.go (h : ∀ t, Steps p.tables e below W' t → Steps p.tables e below W t) (H : OwnOut p e s below k n Q W') : OwnOut p e s below k n Q W := by
  obtain ⟨s₂, o, h1, h2⟩ := H
  exact ⟨s₂, o, h _ h1, h2⟩
theorem OwnOut.at {g g' : JFrame} (q : g = g') (H : OwnOut p e s below k n Q (T.setTop g')) : OwnOut p e s below k n Q (T.setTop g) := q ▸ H
theorem OwnOut.imp {Q' : Option Value → Heap → List Loc → Prop} (q : ∀ v h L, Q' v h L → Q v h L) (H : OwnOut p e s below k n Q' W) : OwnOut p e s below k n Q W := by
  obtain ⟨s₂, o, h1, h2, h3, v, L, h4, h5, h6⟩ := H
  exact ⟨s₂, o, h1, h2, h3, v, L, h4, q _ _ _ h5, h6⟩
theorem outI (X : Stand p l e R s m args below meth c T locs cells slots) (hx : p.tables.exec = Jvm.exec) {pc : Nat} {Ls : Array Slot} {z : Int32} (hret : meth.sig.returnType = some .int) (hd : decode c.code pc = .ok (.ireturn, 1)) (hlk : meth.locks = false) (hk : cells ≤ k) (hn : slots ≤ n) (q : Q (some (.int z)) T.heap locs) :
    OwnOut p e s below k n Q (T.setTop (mkF m pc Ls [.int z])) := by
  obtain ⟨fs, hr, hrun, hended, hW, hsame⟩ := X.leave (v := some (.int z)) (fun h => by rw [hret] at h; cases h) hlk
  exact ⟨_, _, X.ireturnOut hx hret rfl (Or.inl rfl) hd hr, hrun, hended, _, _, rfl, q, ⟨_, rfl⟩, hW, hsame.mono hk hn⟩
theorem outZ (X : Stand p l e R s m args below meth c T locs cells slots) (hx : p.tables.exec = Jvm.exec) {pc : Nat} {Ls : Array Slot} {z : Int32} (hret : meth.sig.returnType = some .boolean) (hd : decode c.code pc = .ok (.ireturn, 1)) (hlk : meth.locks = false) (hk : cells ≤ k) (hn : slots ≤ n) (q : Q (some (.int (z &&& 1))) T.heap locs) :
    OwnOut p e s below k n Q (T.setTop (mkF m pc Ls [.int z])) := by
  obtain ⟨fs, hr, hrun, hended, hW, hsame⟩ := X.leave (v := some (.int (z &&& 1))) (fun h => by rw [hret] at h; cases h) hlk
  exact ⟨_, _, retN X hx (t := .boolean) hret (by simp) hd hr, hrun, hended, _, _, rfl, q, ⟨_, rfl⟩, hW, hsame.mono hk hn⟩
theorem outJ (X : Stand p l e R s m args below meth c T locs cells slots) (hx : p.tables.exec = Jvm.exec) {pc : Nat} {Ls : Array Slot} {z : Int64} (hret : meth.sig.returnType = some .long) (hd : decode c.code pc = .ok (.lreturn, 1)) (hlk : meth.locks = false) (hk : cells ≤ k) (hn : slots ≤ n) (q : Q (some (.long z)) T.heap locs) :
    OwnOut p e s below k n Q (T.setTop (mkF m pc Ls [.long z])) := by
  obtain ⟨fs, hr, hrun, hended, hW, hsame⟩ := X.leave (v := some (.long z)) (fun h => by rw [hret] at h; cases h) hlk
  exact ⟨_, _, X.lreturnOut hx hret hd hr, hrun, hended, _, _, rfl, q, ⟨_, rfl⟩, hW, hsame.mono hk hn⟩
theorem outA (X : Stand p l e R s m args below meth c T locs cells slots) (hx : p.tables.exec = Jvm.exec) {pc : Nat} {Ls : Array Slot} {w : Value} {t : FieldType} (hw : w.isRef = true) (hret : meth.sig.returnType = some t) (ht : t.isReference = true) (hd : decode c.code pc = .ok (.areturn, 1)) (hlk : meth.locks = false) (hk : cells ≤ k) (hn : slots ≤ n) (q : Q (some w) T.heap locs) :
    OwnOut p e s below k n Q (T.setTop (mkF m pc Ls [w])) := by
  obtain ⟨fs, hr, hrun, hended, hW, hsame⟩ := X.leave (v := some w) (fun h => by rw [hret] at h; cases h) hlk
  exact ⟨_, _, X.areturnOut hx hw hret ht hd hr, hrun, hended, _, _, rfl, q, ⟨_, rfl⟩, hW, hsame.mono hk hn⟩
theorem outV (X : Stand p l e R s m args below meth c T locs cells slots) (hx : p.tables.exec = Jvm.exec) {pc : Nat} {Ls : Array Slot} (hret : meth.sig.returnType = none) (hd : decode c.code pc = .ok (.return_, 1)) (hlk : meth.locks = false) (hk : cells ≤ k) (hn : slots ≤ n) (q : Q none T.heap locs) :
    OwnOut p e s below k n Q (T.setTop (mkF m pc Ls [])) := by
  obtain ⟨fs, hr, hrun, hended, hW, hsame⟩ := X.leave (v := none) (fun _ => rfl) hlk
  exact ⟨_, _, X.returnOut hx hret hd hr, hrun, hended, _, _, rfl, q, ⟨_, rfl⟩, hW, hsame.mono hk hn⟩
theorem lremM {g : JFrame} {target : State} (X : Stand p l e R s m args below meth c T locs cells slots) (hx : p.tables.exec = Jvm.exec) (hg : g.method = m) {x y : Int64} {rest : List Value} (hd : decode c.code g.pc = .ok (.lrem, 1)) (hs : g.stack = .long y :: .long x :: rest) (hy : y ≠ 0)
    (hr : Steps p.tables e below (T.setTop { g with pc := g.pc + 1, stack := .long (x % y) :: rest }) target) : Steps p.tables e below (T.setTop g) target :=
  XS.lrem X.here hx hg hd hs hy (by rw [lrem_mod]; exact hr)
/-- a body that touches nothing: what it returns, the heap as it was, nothing written -/
def QP (h0 : Heap) (w : Option Value) (v : Option Value) (h : Heap) (L : List Loc) : Prop := v = w ∧ h = h0 ∧ L = []
/-- a static call of such a body -/
theorem callP (X : Stand p l e R s m args below meth c T locs cells slots) (hx : p.tables.exec = Jvm.exec) (hZ : Z.Warmed39 s.vm) {own : String} {index : Nat} {y : MethodName} {bytes : ByteArray} {maxL : Nat} {ret : Option FieldType} {rm : Room} {as' : Array Value} {w : Option Value}
    (hown : s.vm.findClass own = some m.cls) (w1 : (Cond.methodLink own index y).before a0 Z = true) (w2 : (Cond.static y).before a0 Z = true) (w3 : (Cond.initialized y.cls).before a0 Z = true) (w4 : (Cond.code y bytes maxL ret).before a0 Z = true) (hy : y.cls ≠ "java/lang/invoke/MethodHandle" ∧ y.cls ≠ "java/lang/invoke/VarHandle")
    (hM : MetFree l y (head1 [Cond.code y bytes maxL ret] rm) (fun a U => a = as' ∧ Z.Warmed39 U.vm ∧ U.heap = h) (fun _ _ _ _ _ => True) (fun _ U o U' => ∃ v L, o = .returned v ∧ QP h w v U'.heap L ∧ FrameEnd U o U' L rm.cells rm.slots))
    {W : Nat} (hf : rm.frames + 1 ≤ R.frames) (hl : W + (maxL + 11) + rm.locals ≤ R.locals) (z1 : rm.cells = 0) (z2 : rm.slots = 0) (hc : cells ≤ R.cells) (hs' : slots ≤ R.slots) (eT : T.heap = h)
    {g : JFrame} (hg : g.method = m) (hsize : g.locals.size = c.maxLocals) {argsL rest : List Value} (hlen : ∀ sig, parseMethodDescriptor y.desc = some sig → argsL.length = sig.parameters.length)
    (hstack : g.stack = argsL.reverse ++ rest) (hW : 2 * g.monitorRoom + (rest.map fun v => v.category).sum ≤ W) (hdg : decode c.code g.pc = .ok (.invokestatic index, 3)) (has : argsL.toArray = as' := by rfl) :
    ∃ T', Stand p l e R s m args below meth c T' locs cells slots ∧ T'.heap = h ∧ ∀ target, Steps p.tables e below (T'.setTop { g with pc := g.pc + 3, stack := w.toList ++ rest }) target → Steps p.tables e below (T.setTop g) target := by
  obtain ⟨v, vm₁, ⟨T', L', k', n'⟩, -, X', ⟨Lc, ⟨rfl, q2, rfl⟩, l1, y1, z3⟩, st⟩ := Jvm.LawKit.callS X hx (y := y) hown (mvT hZ w1) (mvT hZ w2) (mvT hZ w3) (mvT hZ w4) hy (backOf (W := W) hM hZ w4 w3 hf hl) hg hsize hlen hstack hW hdg (fun _ _ => ⟨has, eT, by rw [z1]; exact hc, by rw [z2]; exact hs'⟩)
  dsimp only [Pt.U, Pt.locs, Pt.cells, Pt.slots] at X' l1 y1 z3 st q2
  rw [z1] at y1; rw [z2] at z3
  rw [List.append_nil] at l1
  subst l1 y1 z3
  exact ⟨T', X', q2, st⟩
end Own
end Jvm.RoadKit
namespace Jvm.Pilot.@@N@@
open Jvm Jvm.ClassFile Sem Op Lib Jvm.Free Jvm.Stand Jvm.LawKit Jvm.RoadKit Bundle Jvm.Pilot.@@N@@.Jvm.D
theorem d1_0 : decode prog_10_method_3_code 0 = .ok (.lload_n 0, 1) := by decide +kernel
theorem d1_1 : decode prog_10_method_3_code 1 = .ok (.bipush 32, 2) := by decide +kernel
theorem d1_3 : decode prog_10_method_3_code 3 = .ok (.lushr, 1) := by decide +kernel
theorem d1_4 : decode prog_10_method_3_code 4 = .ok (.lconst 0, 1) := by decide +kernel
theorem d1_5 : decode prog_10_method_3_code 5 = .ok (.lcmp, 1) := by decide +kernel
theorem d1_6 : decode prog_10_method_3_code 6 = .ok (.ifCond .ne 7, 3) := by decide +kernel
theorem d1_9 : decode prog_10_method_3_code 9 = .ok (.iconst 1, 1) := by decide +kernel
theorem d1_10 : decode prog_10_method_3_code 10 = .ok (.goto 4, 3) := by decide +kernel
theorem d1_13 : decode prog_10_method_3_code 13 = .ok (.iconst 0, 1) := by decide +kernel
theorem d1_14 : decode prog_10_method_3_code 14 = .ok (.ireturn, 1) := by decide +kernel
theorem pn1 : plainName (site_22.cls) = true := by first | (simp [plainName, overriddenIn]; done) | decide +kernel
theorem pd1 : parseMethodDescriptor "(J)Z" = some ⟨[.long], some .boolean⟩ := by decide +kernel
theorem ef1 (m : MethodId) (x0 : Int64) : entryFrame m #[(.long x0)] 2 = mkF m 0 #[.val (.long x0), .second] [] := by first | (simp [entryFrame, mkF, argsToLocals, Value.category]; done) | rfl
abbrev rx1 : Room := { frames := 0, cells := 0, slots := 0, locals := 0 }
abbrev Cx1 (Z : State) (a0 : Array Value) (p : Program) (s : State) (m : MethodId) (meth : Method) (c : Code) : Prop := p.tables.exec = Jvm.exec ∧ Z.Warmed39 s.vm ∧ (∀ d ∈ tables_1, d.before a0 Z = true) ∧ c.code = prog_10_method_3_code ∧ c.maxLocals = 2 ∧ s.vm.findClass (site_22.cls) = some m.cls ∧ meth.sig.returnType = (some .boolean) ∧ meth.locks = false ∧ meth.name = "isInDocument"
def f1 (x0 : Int64) : Int32 := (if ((x0.toUInt64 >>> ((32 : Int32) &&& 0x3f).toInt64.toUInt64).toInt64) = (0 : Int64) then (1 : Int32) else (0 : Int32))
set_option maxRecDepth 65536 in
set_option maxHeartbeats 40000000 in
theorem w1_0 {p : Program} {l : Launch} {e : Env} {s : State} {m : MethodId} {args : Array Value} {below : List Frame} {meth : Method} {c : Code} {T Z : State} {a0 : Array Value} {h0 : Heap} (x0 : Int64)
    (X0 : Stand p l e rx1 s m args below meth c T [] 0 0) (C : Cx1 Z a0 p s m meth c) (e0 : T.heap = h0) :
    OwnOut p e s below 0 0 (QP h0 (some (.int (f1 x0)))) (T.setTop (mkF m 0 #[.val (.long x0), .second] [])) := by
  obtain ⟨hx, hZ, hw, hby, hml, hown, hret, hlk, hnm⟩ := C
  rw [f1]
  refine OwnOut.go (fun t k => XS.lloadN X0.here hx rfl (hb hby d1_0) rfl k) ?_
  show OwnOut p e s below 0 0 _ (T.setTop (mkF m 1 #[.val (.long x0), .second] [(.long x0)]))
  refine OwnOut.go (fun t k => XT.bipushV X0.here hx rfl (32 : Int32) (hb hby d1_1) rfl k) ?_
  show OwnOut p e s below 0 0 _ (T.setTop (mkF m 3 #[.val (.long x0), .second] [(.int (32 : Int32)), (.long x0)]))
  refine OwnOut.go (fun t k => XS.lushr X0.here hx rfl (hb hby d1_3) rfl k) ?_
  show OwnOut p e s below 0 0 _ (T.setTop (mkF m 4 #[.val (.long x0), .second] [(.long ((x0.toUInt64 >>> ((32 : Int32) &&& 0x3f).toInt64.toUInt64).toInt64))]))
  refine OwnOut.go (fun t k => XT.lconstV X0.here hx rfl (0 : Int64) (hb hby d1_4) rfl k) ?_
  show OwnOut p e s below 0 0 _ (T.setTop (mkF m 5 #[.val (.long x0), .second] [(.long (0 : Int64)), (.long ((x0.toUInt64 >>> ((32 : Int32) &&& 0x3f).toInt64.toUInt64).toInt64))]))
  refine OwnOut.go (fun t k => XS.lcmp X0.here hx rfl (hb hby d1_5) rfl k) ?_
  show OwnOut p e s below 0 0 _ (T.setTop (mkF m 6 #[.val (.long x0), .second] [(.int (XT.cmpL ((x0.toUInt64 >>> ((32 : Int32) &&& 0x3f).toInt64.toUInt64).toInt64) (0 : Int64)))]))
  by_cases hc6 : ((x0.toUInt64 >>> ((32 : Int32) &&& 0x3f).toInt64.toUInt64).toInt64) = (0 : Int64)
  · rw [if_pos hc6]
    refine OwnOut.go (fun t k => XS.ifNo X0.here hx rfl (hb hby d1_6) rfl (XT.ll_ne_f hc6) k) ?_
    show OwnOut p e s below 0 0 _ (T.setTop (mkF m 9 #[.val (.long x0), .second] []))
    refine OwnOut.go (fun t k => XT.iconstV X0.here hx rfl (1 : Int32) (hb hby d1_9) rfl k) ?_
    show OwnOut p e s below 0 0 _ (T.setTop (mkF m 10 #[.val (.long x0), .second] [(.int (1 : Int32))]))
    refine OwnOut.go (fun t k => XS.goto X0.here hx rfl (pc0 := 10) (pc' := 14) rfl (hb hby d1_10) (by decide) (by decide) k) ?_
    show OwnOut p e s below 0 0 _ (T.setTop (mkF m 14 #[.val (.long x0), .second] [(.int (1 : Int32))]))
    exact outZ X0 hx hret (hb hby d1_14) hlk (by decide) (by decide) ⟨rfl, e0, rfl⟩
  · rw [if_neg hc6]
    refine OwnOut.go (fun t k => XS.ifYes X0.here hx rfl (pc0 := 6) (pc' := 13) rfl (hb hby d1_6) rfl (XT.ll_ne_t hc6) (by decide) (by decide) k) ?_
    show OwnOut p e s below 0 0 _ (T.setTop (mkF m 13 #[.val (.long x0), .second] []))
    refine OwnOut.go (fun t k => XT.iconstV X0.here hx rfl (0 : Int32) (hb hby d1_13) rfl k) ?_
    show OwnOut p e s below 0 0 _ (T.setTop (mkF m 14 #[.val (.long x0), .second] [(.int (0 : Int32))]))
    exact outZ X0 hx hret (hb hby d1_14) hlk (by decide) (by decide) ⟨rfl, e0, rfl⟩
set_option maxRecDepth 65536 in
set_option maxHeartbeats 40000000 in
theorem rm1 (l : Launch) (Z : State) (a0 : Array Value) (hw : ∀ d ∈ tables_1, d.before a0 Z = true) (ws : List Jvm.Cond) (x0 : Int64) (h0 : Heap) :
    MetFree l (⟨(site_22.cls), "isInDocument", "(J)Z"⟩ : MethodName) (head1 (Jvm.Cond.code (⟨(site_22.cls), "isInDocument", "(J)Z"⟩ : MethodName) prog_10_method_3_code 2 (some .boolean) :: ws) rx1) (fun a U => a = #[(.long x0)] ∧ Z.Warmed39 U.vm ∧ U.heap = h0) (fun _ _ _ _ _ => True) (fun _ U o U' => ∃ v L, o = .returned v ∧ QP h0 (some (.int (f1 x0))) v U'.heap L ∧ FrameEnd U o U' L rx1.cells rx1.slots) := by
  refine MetFree.of_bodySF (plainFor_of_name pn1) hisR ?_
  intro p e s m args below meth c s₁ Bd hml0 hP hK
  obtain ⟨rfl, hZ, hh⟩ := hP
  have X0 : Stand p l e rx1 s m #[(.long x0)] below meth c s₁ [] 0 0 := Stand.of_body Bd
  have e0 : s₁.heap = h0 := by rw [← hh, Bd.state]; rfl
  have hfc := findClass_of_methodNamed Bd.named
  exact OwnOut.at (ef1 m x0) (w1_0 x0 X0 ⟨Bd.exec, hZ, hw, Bd.bytes, hml0, hfc, Bd.returns, Bd.notSynchronized, (name_of_methodNamed Bd.named Bd.method).1⟩ e0)
theorem d2_0 : decode prog_10_method_4_code 0 = .ok (.lload_n 0, 1) := by decide +kernel
theorem d2_1 : decode prog_10_method_4_code 1 = .ok (.l2i, 1) := by decide +kernel
theorem d2_2 : decode prog_10_method_4_code 2 = .ok (.ireturn, 1) := by decide +kernel
theorem pn2 : plainName (site_22.cls) = true := by first | (simp [plainName, overriddenIn]; done) | decide +kernel
theorem pd2 : parseMethodDescriptor "(J)I" = some ⟨[.long], some .int⟩ := by decide +kernel
theorem ef2 (m : MethodId) (x0 : Int64) : entryFrame m #[(.long x0)] 2 = mkF m 0 #[.val (.long x0), .second] [] := by first | (simp [entryFrame, mkF, argsToLocals, Value.category]; done) | rfl
abbrev rx2 : Room := { frames := 0, cells := 0, slots := 0, locals := 0 }
abbrev Cx2 (Z : State) (a0 : Array Value) (p : Program) (s : State) (m : MethodId) (meth : Method) (c : Code) : Prop := p.tables.exec = Jvm.exec ∧ Z.Warmed39 s.vm ∧ (∀ d ∈ tables_1, d.before a0 Z = true) ∧ c.code = prog_10_method_4_code ∧ c.maxLocals = 2 ∧ s.vm.findClass (site_22.cls) = some m.cls ∧ meth.sig.returnType = (some .int) ∧ meth.locks = false ∧ meth.name = "positionInTree"
def f2 (x0 : Int64) : Int32 := (x0.toInt32)
set_option maxRecDepth 65536 in
set_option maxHeartbeats 40000000 in
theorem w2_0 {p : Program} {l : Launch} {e : Env} {s : State} {m : MethodId} {args : Array Value} {below : List Frame} {meth : Method} {c : Code} {T Z : State} {a0 : Array Value} {h0 : Heap} (x0 : Int64)
    (X0 : Stand p l e rx2 s m args below meth c T [] 0 0) (C : Cx2 Z a0 p s m meth c) (e0 : T.heap = h0) :
    OwnOut p e s below 0 0 (QP h0 (some (.int (f2 x0)))) (T.setTop (mkF m 0 #[.val (.long x0), .second] [])) := by
  obtain ⟨hx, hZ, hw, hby, hml, hown, hret, hlk, hnm⟩ := C
  rw [f2]
  refine OwnOut.go (fun t k => XS.lloadN X0.here hx rfl (hb hby d2_0) rfl k) ?_
  show OwnOut p e s below 0 0 _ (T.setTop (mkF m 1 #[.val (.long x0), .second] [(.long x0)]))
  refine OwnOut.go (fun t k => XS.l2i X0.here hx rfl (hb hby d2_1) rfl k) ?_
  show OwnOut p e s below 0 0 _ (T.setTop (mkF m 2 #[.val (.long x0), .second] [(.int (x0.toInt32))]))
  exact outI X0 hx hret (hb hby d2_2) hlk (by decide) (by decide) ⟨rfl, e0, rfl⟩
set_option maxRecDepth 65536 in
set_option maxHeartbeats 40000000 in
theorem rm2 (l : Launch) (Z : State) (a0 : Array Value) (hw : ∀ d ∈ tables_1, d.before a0 Z = true) (ws : List Jvm.Cond) (x0 : Int64) (h0 : Heap) :
    MetFree l (⟨(site_22.cls), "positionInTree", "(J)I"⟩ : MethodName) (head1 (Jvm.Cond.code (⟨(site_22.cls), "positionInTree", "(J)I"⟩ : MethodName) prog_10_method_4_code 2 (some .int) :: ws) rx2) (fun a U => a = #[(.long x0)] ∧ Z.Warmed39 U.vm ∧ U.heap = h0) (fun _ _ _ _ _ => True) (fun _ U o U' => ∃ v L, o = .returned v ∧ QP h0 (some (.int (f2 x0))) v U'.heap L ∧ FrameEnd U o U' L rx2.cells rx2.slots) := by
  refine MetFree.of_bodySF (plainFor_of_name pn2) hisR ?_
  intro p e s m args below meth c s₁ Bd hml0 hP hK
  obtain ⟨rfl, hZ, hh⟩ := hP
  have X0 : Stand p l e rx2 s m #[(.long x0)] below meth c s₁ [] 0 0 := Stand.of_body Bd
  have e0 : s₁.heap = h0 := by rw [← hh, Bd.state]; rfl
  have hfc := findClass_of_methodNamed Bd.named
  exact OwnOut.at (ef2 m x0) (w2_0 x0 X0 ⟨Bd.exec, hZ, hw, Bd.bytes, hml0, hfc, Bd.returns, Bd.notSynchronized, (name_of_methodNamed Bd.named Bd.method).1⟩ e0)
theorem pn0 : plainName (x.cls) = true := by first | (simp [plainName, overriddenIn]; done) | decide +kernel
theorem pd0 : parseMethodDescriptor "(JII)Z" = some ⟨[.long, .int, .int], some .boolean⟩ := by decide +kernel
theorem ef0 (m : MethodId) (x0 : Int64) (x2 : Int32) (x3 : Int32) : entryFrame m #[(.long x0), (.int x2), (.int x3)] maxLocals = mkF m 0 #[.val (.long x0), .second, .val (.int x2), .val (.int x3), .unset, .unset, .unset, .unset, .unset, .unset, .unset] [] := by first | (simp [entryFrame, mkF, argsToLocals, Value.category, maxLocals]; done) | rfl
abbrev Cx0 (Z : State) (a0 : Array Value) (p : Program) (s : State) (m : MethodId) (meth : Method) (c : Code) : Prop := p.tables.exec = Jvm.exec ∧ Z.Warmed39 s.vm ∧ (∀ d ∈ tables_1, d.before a0 Z = true) ∧ c.code = code ∧ c.maxLocals = 11 ∧ s.vm.findClass (x.cls) = some m.cls ∧ meth.sig.returnType = (some .boolean) ∧ meth.locks = false ∧ meth.name = "law"
def f0_116 (y0 : Int32) : Int32 := (y0 &&& 1)
set_option maxRecDepth 65536 in
set_option maxHeartbeats 40000000 in
theorem w0_116 {p : Program} {l : Launch} {e : Env} {s : State} {m : MethodId} {args : Array Value} {below : List Frame} {meth : Method} {c : Code} {T Z : State} {a0 : Array Value} {h0 : Heap} (x0 : Int64) (x2 : Int32) (x3 : Int32) (x4 : Int32) (x5 : Int32) (x6 : Int32) (x7 : Int32) (x8 : Int64) (x10 : Int32) (y0 : Int32)
    (X0 : Stand p l e room_1 s m args below meth c T [] 0 0) (C : Cx0 Z a0 p s m meth c) (e0 : T.heap = h0) :
    OwnOut p e s below 0 0 (QP h0 (some (.int (f0_116 y0)))) (T.setTop (mkF m 116 #[.val (.long x0), .second, .val (.int x2), .val (.int x3), .val (.int x4), .val (.int x5), .val (.int x6), .val (.int x7), .val (.long x8), .second, .val (.int x10)] [(.int y0)])) := by
  obtain ⟨hx, hZ, hw, hby, hml, hown, hret, hlk, hnm⟩ := C
  rw [f0_116]
  refine OwnOut.go (fun t k => XS.istore X0.here hx rfl (hb hby at_116) rfl (l' := #[.val (.long x0), .second, .val (.int x2), .val (.int x3), .val (.int x4), .val (.int y0), .val (.int x6), .val (.int x7), .val (.long x8), .second, .val (.int x10)]) rfl k) ?_
  show OwnOut p e s below 0 0 _ (T.setTop (mkF m 118 #[.val (.long x0), .second, .val (.int x2), .val (.int x3), .val (.int x4), .val (.int y0), .val (.int x6), .val (.int x7), .val (.long x8), .second, .val (.int x10)] []))
  refine OwnOut.go (fun t k => XS.iload X0.here hx rfl (hb hby at_118) rfl k) ?_
  show OwnOut p e s below 0 0 _ (T.setTop (mkF m 120 #[.val (.long x0), .second, .val (.int x2), .val (.int x3), .val (.int x4), .val (.int y0), .val (.int x6), .val (.int x7), .val (.long x8), .second, .val (.int x10)] [(.int y0)]))
  exact outZ X0 hx hret (hb hby at_120) hlk (by decide) (by decide) ⟨rfl, e0, rfl⟩
def f0_115  : Int32 := (f0_116 (0 : Int32))
set_option maxRecDepth 65536 in
set_option maxHeartbeats 40000000 in
theorem w0_115 {p : Program} {l : Launch} {e : Env} {s : State} {m : MethodId} {args : Array Value} {below : List Frame} {meth : Method} {c : Code} {T Z : State} {a0 : Array Value} {h0 : Heap} (x0 : Int64) (x2 : Int32) (x3 : Int32) (x4 : Int32) (x5 : Int32) (x6 : Int32) (x7 : Int32) (x8 : Int64) (x10 : Int32)
    (X0 : Stand p l e room_1 s m args below meth c T [] 0 0) (C : Cx0 Z a0 p s m meth c) (e0 : T.heap = h0) :
    OwnOut p e s below 0 0 (QP h0 (some (.int f0_115))) (T.setTop (mkF m 115 #[.val (.long x0), .second, .val (.int x2), .val (.int x3), .val (.int x4), .val (.int x5), .val (.int x6), .val (.int x7), .val (.long x8), .second, .val (.int x10)] [])) := by
  obtain ⟨hx, hZ, hw, hby, hml, hown, hret, hlk, hnm⟩ := C
  rw [f0_115]
  refine OwnOut.go (fun t k => XT.iconstV X0.here hx rfl (0 : Int32) (hb hby at_115) rfl k) ?_
  show OwnOut p e s below 0 0 _ (T.setTop (mkF m 116 #[.val (.long x0), .second, .val (.int x2), .val (.int x3), .val (.int x4), .val (.int x5), .val (.int x6), .val (.int x7), .val (.long x8), .second, .val (.int x10)] [(.int (0 : Int32))]))
  exact w0_116 x0 x2 x3 x4 x5 x6 x7 x8 x10 (0 : Int32) X0 ⟨hx, hZ, hw, hby, hml, hown, hret, hlk, hnm⟩ e0
def f0_94 (x7 : Int32) (x8 : Int64) (y0 : Int32) : Int32 := (if y0 = (0 : Int32) then (f0_115) else (if (f2 x8) = x7 then (f0_116 (1 : Int32)) else (f0_115)))
set_option maxRecDepth 65536 in
set_option maxHeartbeats 40000000 in
theorem w0_94 {p : Program} {l : Launch} {e : Env} {s : State} {m : MethodId} {args : Array Value} {below : List Frame} {meth : Method} {c : Code} {T Z : State} {a0 : Array Value} {h0 : Heap} (x0 : Int64) (x2 : Int32) (x3 : Int32) (x4 : Int32) (x5 : Int32) (x6 : Int32) (x7 : Int32) (x8 : Int64) (x10 : Int32) (y0 : Int32)
    (X0 : Stand p l e room_1 s m args below meth c T [] 0 0) (C : Cx0 Z a0 p s m meth c) (e0 : T.heap = h0) :
    OwnOut p e s below 0 0 (QP h0 (some (.int (f0_94 x7 x8 y0)))) (T.setTop (mkF m 94 #[.val (.long x0), .second, .val (.int x2), .val (.int x3), .val (.int x4), .val (.int x5), .val (.int x6), .val (.int x7), .val (.long x8), .second, .val (.int x10)] [(.int y0)])) := by
  obtain ⟨hx, hZ, hw, hby, hml, hown, hret, hlk, hnm⟩ := C
  rw [f0_94]
  refine OwnOut.go (fun t k => XS.istore X0.here hx rfl (hb hby at_94) rfl (l' := #[.val (.long x0), .second, .val (.int x2), .val (.int x3), .val (.int x4), .val (.int y0), .val (.int x6), .val (.int x7), .val (.long x8), .second, .val (.int x10)]) rfl k) ?_
  show OwnOut p e s below 0 0 _ (T.setTop (mkF m 96 #[.val (.long x0), .second, .val (.int x2), .val (.int x3), .val (.int x4), .val (.int y0), .val (.int x6), .val (.int x7), .val (.long x8), .second, .val (.int x10)] []))
  refine OwnOut.go (fun t k => XS.iload X0.here hx rfl (hb hby at_96) rfl k) ?_
  show OwnOut p e s below 0 0 _ (T.setTop (mkF m 98 #[.val (.long x0), .second, .val (.int x2), .val (.int x3), .val (.int x4), .val (.int y0), .val (.int x6), .val (.int x7), .val (.long x8), .second, .val (.int x10)] [(.int y0)]))
  by_cases hc98 : y0 = (0 : Int32)
  · rw [if_pos hc98]
    refine OwnOut.go (fun t k => XS.ifYes X0.here hx rfl (pc0 := 98) (pc' := 115) rfl (hb hby at_98) rfl (XT.i0_eq_t hc98) (by decide) (by decide) k) ?_
    show OwnOut p e s below 0 0 _ (T.setTop (mkF m 115 #[.val (.long x0), .second, .val (.int x2), .val (.int x3), .val (.int x4), .val (.int y0), .val (.int x6), .val (.int x7), .val (.long x8), .second, .val (.int x10)] []))
    exact w0_115 x0 x2 x3 x4 y0 x6 x7 x8 x10 X0 ⟨hx, hZ, hw, hby, hml, hown, hret, hlk, hnm⟩ e0
  · rw [if_neg hc98]
    refine OwnOut.go (fun t k => XS.ifNo X0.here hx rfl (hb hby at_98) rfl (XT.i0_eq_f hc98) k) ?_
    show OwnOut p e s below 0 0 _ (T.setTop (mkF m 101 #[.val (.long x0), .second, .val (.int x2), .val (.int x3), .val (.int x4), .val (.int y0), .val (.int x6), .val (.int x7), .val (.long x8), .second, .val (.int x10)] []))
    refine OwnOut.go (fun t k => XS.lload X0.here hx rfl (hb hby at_101) rfl k) ?_
    show OwnOut p e s below 0 0 _ (T.setTop (mkF m 103 #[.val (.long x0), .second, .val (.int x2), .val (.int x3), .val (.int x4), .val (.int y0), .val (.int x6), .val (.int x7), .val (.long x8), .second, .val (.int x10)] [(.long x8)]))
    obtain ⟨T1, X1, e1, st1⟩ := callP (W := 0) (rm := rx2) X0 hx hZ (y := (⟨(site_22.cls), "positionInTree", "(J)I"⟩ : MethodName)) hown (hw _ (List.mem_of_getElem? (i := 7) rfl)) (hw _ (List.mem_of_getElem? (i := 8) rfl)) (hw _ (List.mem_of_getElem? (i := 3) rfl)) (hw _ (List.mem_of_getElem? (i := 9) rfl)) (by decide) (rm2 l Z a0 hw [] x8 h0) (by decide) (by decide) rfl rfl (Nat.zero_le _) (Nat.zero_le _) e0 (g := (mkF m 103 #[.val (.long x0), .second, .val (.int x2), .val (.int x3), .val (.int x4), .val (.int y0), .val (.int x6), .val (.int x7), .val (.long x8), .second, .val (.int x10)] [(.long x8)])) rfl (by rw [hml]; rfl) (argsL := [(.long x8)]) (rest := []) (lenOf pd2 rfl) rfl (by show 2 * 0 + _ ≤ _; exact Nat.le_of_eq rfl) (hb hby at_103)
    refine OwnOut.go (fun t k => st1 _ k) ?_
    show OwnOut p e s below 0 0 _ (T1.setTop (mkF m 106 #[.val (.long x0), .second, .val (.int x2), .val (.int x3), .val (.int x4), .val (.int y0), .val (.int x6), .val (.int x7), .val (.long x8), .second, .val (.int x10)] [(.int (f2 x8))]))
    refine OwnOut.go (fun t k => XS.iload X1.here hx rfl (hb hby at_106) rfl k) ?_
    show OwnOut p e s below 0 0 _ (T1.setTop (mkF m 108 #[.val (.long x0), .second, .val (.int x2), .val (.int x3), .val (.int x4), .val (.int y0), .val (.int x6), .val (.int x7), .val (.long x8), .second, .val (.int x10)] [(.int x7), (.int (f2 x8))]))
    by_cases hc108 : (f2 x8) = x7
    · rw [if_pos hc108]
      refine OwnOut.go (fun t k => XS.icmpNo X1.here hx rfl (hb hby at_108) rfl (XT.ii_ne_f hc108) k) ?_
      show OwnOut p e s below 0 0 _ (T1.setTop (mkF m 111 #[.val (.long x0), .second, .val (.int x2), .val (.int x3), .val (.int x4), .val (.int y0), .val (.int x6), .val (.int x7), .val (.long x8), .second, .val (.int x10)] []))
      refine OwnOut.go (fun t k => XT.iconstV X1.here hx rfl (1 : Int32) (hb hby at_111) rfl k) ?_
      show OwnOut p e s below 0 0 _ (T1.setTop (mkF m 112 #[.val (.long x0), .second, .val (.int x2), .val (.int x3), .val (.int x4), .val (.int y0), .val (.int x6), .val (.int x7), .val (.long x8), .second, .val (.int x10)] [(.int (1 : Int32))]))
      refine OwnOut.go (fun t k => XS.goto X1.here hx rfl (pc0 := 112) (pc' := 116) rfl (hb hby at_112) (by decide) (by decide) k) ?_
      show OwnOut p e s below 0 0 _ (T1.setTop (mkF m 116 #[.val (.long x0), .second, .val (.int x2), .val (.int x3), .val (.int x4), .val (.int y0), .val (.int x6), .val (.int x7), .val (.long x8), .second, .val (.int x10)] [(.int (1 : Int32))]))
      exact w0_116 x0 x2 x3 x4 y0 x6 x7 x8 x10 (1 : Int32) X1 ⟨hx, hZ, hw, hby, hml, hown, hret, hlk, hnm⟩ e1
    · rw [if_neg hc108]
      refine OwnOut.go (fun t k => XS.icmpYes X1.here hx rfl (pc0 := 108) (pc' := 115) rfl (hb hby at_108) rfl (XT.ii_ne_t hc108) (by decide) (by decide) k) ?_
      show OwnOut p e s below 0 0 _ (T1.setTop (mkF m 115 #[.val (.long x0), .second, .val (.int x2), .val (.int x3), .val (.int x4), .val (.int y0), .val (.int x6), .val (.int x7), .val (.long x8), .second, .val (.int x10)] []))
      exact w0_115 x0 x2 x3 x4 y0 x6 x7 x8 x10 X1 ⟨hx, hZ, hw, hby, hml, hown, hret, hlk, hnm⟩ e1
def f0_93 (x7 : Int32) (x8 : Int64) : Int32 := (f0_94 x7 x8 (0 : Int32))
set_option maxRecDepth 65536 in
set_option maxHeartbeats 40000000 in
theorem w0_93 {p : Program} {l : Launch} {e : Env} {s : State} {m : MethodId} {args : Array Value} {below : List Frame} {meth : Method} {c : Code} {T Z : State} {a0 : Array Value} {h0 : Heap} (x0 : Int64) (x2 : Int32) (x3 : Int32) (x4 : Int32) (x5 : Int32) (x6 : Int32) (x7 : Int32) (x8 : Int64) (x10 : Int32)
    (X0 : Stand p l e room_1 s m args below meth c T [] 0 0) (C : Cx0 Z a0 p s m meth c) (e0 : T.heap = h0) :
    OwnOut p e s below 0 0 (QP h0 (some (.int (f0_93 x7 x8)))) (T.setTop (mkF m 93 #[.val (.long x0), .second, .val (.int x2), .val (.int x3), .val (.int x4), .val (.int x5), .val (.int x6), .val (.int x7), .val (.long x8), .second, .val (.int x10)] [])) := by
  obtain ⟨hx, hZ, hw, hby, hml, hown, hret, hlk, hnm⟩ := C
  rw [f0_93]
  refine OwnOut.go (fun t k => XT.iconstV X0.here hx rfl (0 : Int32) (hb hby at_93) rfl k) ?_
  show OwnOut p e s below 0 0 _ (T.setTop (mkF m 94 #[.val (.long x0), .second, .val (.int x2), .val (.int x3), .val (.int x4), .val (.int x5), .val (.int x6), .val (.int x7), .val (.long x8), .second, .val (.int x10)] [(.int (0 : Int32))]))
  exact w0_94 x0 x2 x3 x4 x5 x6 x7 x8 x10 (0 : Int32) X0 ⟨hx, hZ, hw, hby, hml, hown, hret, hlk, hnm⟩ e0
def f0_72 (x5 : Int32) (x7 : Int32) (x8 : Int64) (y0 : Int32) : Int32 := (if x5 = (0 : Int32) then (f0_93 x7 x8) else (if (f1 x8) = y0 then (f0_94 x7 x8 (1 : Int32)) else (f0_93 x7 x8)))
set_option maxRecDepth 65536 in
set_option maxHeartbeats 40000000 in
theorem w0_72 {p : Program} {l : Launch} {e : Env} {s : State} {m : MethodId} {args : Array Value} {below : List Frame} {meth : Method} {c : Code} {T Z : State} {a0 : Array Value} {h0 : Heap} (x0 : Int64) (x2 : Int32) (x3 : Int32) (x4 : Int32) (x5 : Int32) (x6 : Int32) (x7 : Int32) (x8 : Int64) (y0 : Int32)
    (X0 : Stand p l e room_1 s m args below meth c T [] 0 0) (C : Cx0 Z a0 p s m meth c) (e0 : T.heap = h0) :
    OwnOut p e s below 0 0 (QP h0 (some (.int (f0_72 x5 x7 x8 y0)))) (T.setTop (mkF m 72 #[.val (.long x0), .second, .val (.int x2), .val (.int x3), .val (.int x4), .val (.int x5), .val (.int x6), .val (.int x7), .val (.long x8), .second, .unset] [(.int y0)])) := by
  obtain ⟨hx, hZ, hw, hby, hml, hown, hret, hlk, hnm⟩ := C
  rw [f0_72]
  refine OwnOut.go (fun t k => XS.istore X0.here hx rfl (hb hby at_72) rfl (l' := #[.val (.long x0), .second, .val (.int x2), .val (.int x3), .val (.int x4), .val (.int x5), .val (.int x6), .val (.int x7), .val (.long x8), .second, .val (.int y0)]) rfl k) ?_
  show OwnOut p e s below 0 0 _ (T.setTop (mkF m 74 #[.val (.long x0), .second, .val (.int x2), .val (.int x3), .val (.int x4), .val (.int x5), .val (.int x6), .val (.int x7), .val (.long x8), .second, .val (.int y0)] []))
  refine OwnOut.go (fun t k => XS.iload X0.here hx rfl (hb hby at_74) rfl k) ?_
  show OwnOut p e s below 0 0 _ (T.setTop (mkF m 76 #[.val (.long x0), .second, .val (.int x2), .val (.int x3), .val (.int x4), .val (.int x5), .val (.int x6), .val (.int x7), .val (.long x8), .second, .val (.int y0)] [(.int x5)]))
  by_cases hc76 : x5 = (0 : Int32)
  · rw [if_pos hc76]
    refine OwnOut.go (fun t k => XS.ifYes X0.here hx rfl (pc0 := 76) (pc' := 93) rfl (hb hby at_76) rfl (XT.i0_eq_t hc76) (by decide) (by decide) k) ?_
    show OwnOut p e s below 0 0 _ (T.setTop (mkF m 93 #[.val (.long x0), .second, .val (.int x2), .val (.int x3), .val (.int x4), .val (.int x5), .val (.int x6), .val (.int x7), .val (.long x8), .second, .val (.int y0)] []))
    exact w0_93 x0 x2 x3 x4 x5 x6 x7 x8 y0 X0 ⟨hx, hZ, hw, hby, hml, hown, hret, hlk, hnm⟩ e0
  · rw [if_neg hc76]
    refine OwnOut.go (fun t k => XS.ifNo X0.here hx rfl (hb hby at_76) rfl (XT.i0_eq_f hc76) k) ?_
    show OwnOut p e s below 0 0 _ (T.setTop (mkF m 79 #[.val (.long x0), .second, .val (.int x2), .val (.int x3), .val (.int x4), .val (.int x5), .val (.int x6), .val (.int x7), .val (.long x8), .second, .val (.int y0)] []))
    refine OwnOut.go (fun t k => XS.lload X0.here hx rfl (hb hby at_79) rfl k) ?_
    show OwnOut p e s below 0 0 _ (T.setTop (mkF m 81 #[.val (.long x0), .second, .val (.int x2), .val (.int x3), .val (.int x4), .val (.int x5), .val (.int x6), .val (.int x7), .val (.long x8), .second, .val (.int y0)] [(.long x8)]))
    obtain ⟨T2, X2, e2, st2⟩ := callP (W := 0) (rm := rx1) X0 hx hZ (y := (⟨(site_22.cls), "isInDocument", "(J)Z"⟩ : MethodName)) hown (hw _ (List.mem_of_getElem? (i := 1) rfl)) (hw _ (List.mem_of_getElem? (i := 2) rfl)) (hw _ (List.mem_of_getElem? (i := 3) rfl)) (hw _ (List.mem_of_getElem? (i := 4) rfl)) (by decide) (rm1 l Z a0 hw [] x8 h0) (by decide) (by decide) rfl rfl (Nat.zero_le _) (Nat.zero_le _) e0 (g := (mkF m 81 #[.val (.long x0), .second, .val (.int x2), .val (.int x3), .val (.int x4), .val (.int x5), .val (.int x6), .val (.int x7), .val (.long x8), .second, .val (.int y0)] [(.long x8)])) rfl (by rw [hml]; rfl) (argsL := [(.long x8)]) (rest := []) (lenOf pd1 rfl) rfl (by show 2 * 0 + _ ≤ _; exact Nat.le_of_eq rfl) (hb hby at_81)
    refine OwnOut.go (fun t k => st2 _ k) ?_
    show OwnOut p e s below 0 0 _ (T2.setTop (mkF m 84 #[.val (.long x0), .second, .val (.int x2), .val (.int x3), .val (.int x4), .val (.int x5), .val (.int x6), .val (.int x7), .val (.long x8), .second, .val (.int y0)] [(.int (f1 x8))]))
    refine OwnOut.go (fun t k => XS.iload X2.here hx rfl (hb hby at_84) rfl k) ?_
    show OwnOut p e s below 0 0 _ (T2.setTop (mkF m 86 #[.val (.long x0), .second, .val (.int x2), .val (.int x3), .val (.int x4), .val (.int x5), .val (.int x6), .val (.int x7), .val (.long x8), .second, .val (.int y0)] [(.int y0), (.int (f1 x8))]))
    by_cases hc86 : (f1 x8) = y0
    · rw [if_pos hc86]
      refine OwnOut.go (fun t k => XS.icmpNo X2.here hx rfl (hb hby at_86) rfl (XT.ii_ne_f hc86) k) ?_
      show OwnOut p e s below 0 0 _ (T2.setTop (mkF m 89 #[.val (.long x0), .second, .val (.int x2), .val (.int x3), .val (.int x4), .val (.int x5), .val (.int x6), .val (.int x7), .val (.long x8), .second, .val (.int y0)] []))
      refine OwnOut.go (fun t k => XT.iconstV X2.here hx rfl (1 : Int32) (hb hby at_89) rfl k) ?_
      show OwnOut p e s below 0 0 _ (T2.setTop (mkF m 90 #[.val (.long x0), .second, .val (.int x2), .val (.int x3), .val (.int x4), .val (.int x5), .val (.int x6), .val (.int x7), .val (.long x8), .second, .val (.int y0)] [(.int (1 : Int32))]))
      refine OwnOut.go (fun t k => XS.goto X2.here hx rfl (pc0 := 90) (pc' := 94) rfl (hb hby at_90) (by decide) (by decide) k) ?_
      show OwnOut p e s below 0 0 _ (T2.setTop (mkF m 94 #[.val (.long x0), .second, .val (.int x2), .val (.int x3), .val (.int x4), .val (.int x5), .val (.int x6), .val (.int x7), .val (.long x8), .second, .val (.int y0)] [(.int (1 : Int32))]))
      exact w0_94 x0 x2 x3 x4 x5 x6 x7 x8 y0 (1 : Int32) X2 ⟨hx, hZ, hw, hby, hml, hown, hret, hlk, hnm⟩ e2
    · rw [if_neg hc86]
      refine OwnOut.go (fun t k => XS.icmpYes X2.here hx rfl (pc0 := 86) (pc' := 93) rfl (hb hby at_86) rfl (XT.ii_ne_t hc86) (by decide) (by decide) k) ?_
      show OwnOut p e s below 0 0 _ (T2.setTop (mkF m 93 #[.val (.long x0), .second, .val (.int x2), .val (.int x3), .val (.int x4), .val (.int x5), .val (.int x6), .val (.int x7), .val (.long x8), .second, .val (.int y0)] []))
      exact w0_93 x0 x2 x3 x4 x5 x6 x7 x8 y0 X2 ⟨hx, hZ, hw, hby, hml, hown, hret, hlk, hnm⟩ e2
def f0_62 (x5 : Int32) (x6 : Int32) (x7 : Int32) (x8 : Int64) : Int32 := (if x6 = (0 : Int32) then (f0_72 x5 x7 x8 (1 : Int32)) else (f0_72 x5 x7 x8 (0 : Int32)))
set_option maxRecDepth 65536 in
set_option maxHeartbeats 40000000 in
theorem w0_62 {p : Program} {l : Launch} {e : Env} {s : State} {m : MethodId} {args : Array Value} {below : List Frame} {meth : Method} {c : Code} {T Z : State} {a0 : Array Value} {h0 : Heap} (x0 : Int64) (x2 : Int32) (x3 : Int32) (x4 : Int32) (x5 : Int32) (x6 : Int32) (x7 : Int32) (x8 : Int64)
    (X0 : Stand p l e room_1 s m args below meth c T [] 0 0) (C : Cx0 Z a0 p s m meth c) (e0 : T.heap = h0) :
    OwnOut p e s below 0 0 (QP h0 (some (.int (f0_62 x5 x6 x7 x8)))) (T.setTop (mkF m 62 #[.val (.long x0), .second, .val (.int x2), .val (.int x3), .val (.int x4), .val (.int x5), .val (.int x6), .val (.int x7), .val (.long x8), .second, .unset] [])) := by
  obtain ⟨hx, hZ, hw, hby, hml, hown, hret, hlk, hnm⟩ := C
  rw [f0_62]
  refine OwnOut.go (fun t k => XS.iload X0.here hx rfl (hb hby at_62) rfl k) ?_
  show OwnOut p e s below 0 0 _ (T.setTop (mkF m 64 #[.val (.long x0), .second, .val (.int x2), .val (.int x3), .val (.int x4), .val (.int x5), .val (.int x6), .val (.int x7), .val (.long x8), .second, .unset] [(.int x6)]))
  by_cases hc64 : x6 = (0 : Int32)
  · rw [if_pos hc64]
    refine OwnOut.go (fun t k => XS.ifNo X0.here hx rfl (hb hby at_64) rfl (XT.i0_ne_f hc64) k) ?_
    show OwnOut p e s below 0 0 _ (T.setTop (mkF m 67 #[.val (.long x0), .second, .val (.int x2), .val (.int x3), .val (.int x4), .val (.int x5), .val (.int x6), .val (.int x7), .val (.long x8), .second, .unset] []))
    refine OwnOut.go (fun t k => XT.iconstV X0.here hx rfl (1 : Int32) (hb hby at_67) rfl k) ?_
    show OwnOut p e s below 0 0 _ (T.setTop (mkF m 68 #[.val (.long x0), .second, .val (.int x2), .val (.int x3), .val (.int x4), .val (.int x5), .val (.int x6), .val (.int x7), .val (.long x8), .second, .unset] [(.int (1 : Int32))]))
    refine OwnOut.go (fun t k => XS.goto X0.here hx rfl (pc0 := 68) (pc' := 72) rfl (hb hby at_68) (by decide) (by decide) k) ?_
    show OwnOut p e s below 0 0 _ (T.setTop (mkF m 72 #[.val (.long x0), .second, .val (.int x2), .val (.int x3), .val (.int x4), .val (.int x5), .val (.int x6), .val (.int x7), .val (.long x8), .second, .unset] [(.int (1 : Int32))]))
    exact w0_72 x0 x2 x3 x4 x5 x6 x7 x8 (1 : Int32) X0 ⟨hx, hZ, hw, hby, hml, hown, hret, hlk, hnm⟩ e0
  · rw [if_neg hc64]
    refine OwnOut.go (fun t k => XS.ifYes X0.here hx rfl (pc0 := 64) (pc' := 71) rfl (hb hby at_64) rfl (XT.i0_ne_t hc64) (by decide) (by decide) k) ?_
    show OwnOut p e s below 0 0 _ (T.setTop (mkF m 71 #[.val (.long x0), .second, .val (.int x2), .val (.int x3), .val (.int x4), .val (.int x5), .val (.int x6), .val (.int x7), .val (.long x8), .second, .unset] []))
    refine OwnOut.go (fun t k => XT.iconstV X0.here hx rfl (0 : Int32) (hb hby at_71) rfl k) ?_
    show OwnOut p e s below 0 0 _ (T.setTop (mkF m 72 #[.val (.long x0), .second, .val (.int x2), .val (.int x3), .val (.int x4), .val (.int x5), .val (.int x6), .val (.int x7), .val (.long x8), .second, .unset] [(.int (0 : Int32))]))
    exact w0_72 x0 x2 x3 x4 x5 x6 x7 x8 (0 : Int32) X0 ⟨hx, hZ, hw, hby, hml, hown, hret, hlk, hnm⟩ e0
def f0_35 (x2 : Int32) (x3 : Int32) (y0 : Int32) : Int32 := (f0_62 y0 (x2 &&& (2147483647 : Int32)) (x3 &&& (2147483647 : Int32)) ((((x2 &&& (2147483647 : Int32)).toInt64) * (4294967296 : Int64)) + ((x3 &&& (2147483647 : Int32)).toInt64)))
set_option maxRecDepth 65536 in
set_option maxHeartbeats 40000000 in
theorem w0_35 {p : Program} {l : Launch} {e : Env} {s : State} {m : MethodId} {args : Array Value} {below : List Frame} {meth : Method} {c : Code} {T Z : State} {a0 : Array Value} {h0 : Heap} (x0 : Int64) (x2 : Int32) (x3 : Int32) (x4 : Int32) (y0 : Int32)
    (X0 : Stand p l e room_1 s m args below meth c T [] 0 0) (C : Cx0 Z a0 p s m meth c) (e0 : T.heap = h0) :
    OwnOut p e s below 0 0 (QP h0 (some (.int (f0_35 x2 x3 y0)))) (T.setTop (mkF m 35 #[.val (.long x0), .second, .val (.int x2), .val (.int x3), .val (.int x4), .unset, .unset, .unset, .unset, .unset, .unset] [(.int y0)])) := by
  obtain ⟨hx, hZ, hw, hby, hml, hown, hret, hlk, hnm⟩ := C
  rw [f0_35]
  refine OwnOut.go (fun t k => XS.istore X0.here hx rfl (hb hby at_35) rfl (l' := #[.val (.long x0), .second, .val (.int x2), .val (.int x3), .val (.int x4), .val (.int y0), .unset, .unset, .unset, .unset, .unset]) rfl k) ?_
  show OwnOut p e s below 0 0 _ (T.setTop (mkF m 37 #[.val (.long x0), .second, .val (.int x2), .val (.int x3), .val (.int x4), .val (.int y0), .unset, .unset, .unset, .unset, .unset] []))
  refine OwnOut.go (fun t k => XS.iloadN X0.here hx rfl (hb hby at_37) rfl k) ?_
  show OwnOut p e s below 0 0 _ (T.setTop (mkF m 38 #[.val (.long x0), .second, .val (.int x2), .val (.int x3), .val (.int x4), .val (.int y0), .unset, .unset, .unset, .unset, .unset] [(.int x2)]))
  refine OwnOut.go (fun t k => X0.ldcInt hx hown (mvT hZ (hw _ (List.mem_of_getElem? (i := 5) rfl))) (g := (mkF m 38 #[.val (.long x0), .second, .val (.int x2), .val (.int x3), .val (.int x4), .val (.int y0), .unset, .unset, .unset, .unset, .unset] [(.int x2)])) rfl (hb hby at_38) _ k) ?_
  show OwnOut p e s below 0 0 _ (T.setTop (mkF m 40 #[.val (.long x0), .second, .val (.int x2), .val (.int x3), .val (.int x4), .val (.int y0), .unset, .unset, .unset, .unset, .unset] [(.int (2147483647 : Int32)), (.int x2)]))
  refine OwnOut.go (fun t k => XS.iand X0.here hx rfl (hb hby at_40) rfl k) ?_
  show OwnOut p e s below 0 0 _ (T.setTop (mkF m 41 #[.val (.long x0), .second, .val (.int x2), .val (.int x3), .val (.int x4), .val (.int y0), .unset, .unset, .unset, .unset, .unset] [(.int (x2 &&& (2147483647 : Int32)))]))
  refine OwnOut.go (fun t k => XS.istore X0.here hx rfl (hb hby at_41) rfl (l' := #[.val (.long x0), .second, .val (.int x2), .val (.int x3), .val (.int x4), .val (.int y0), .val (.int (x2 &&& (2147483647 : Int32))), .unset, .unset, .unset, .unset]) rfl k) ?_
  show OwnOut p e s below 0 0 _ (T.setTop (mkF m 43 #[.val (.long x0), .second, .val (.int x2), .val (.int x3), .val (.int x4), .val (.int y0), .val (.int (x2 &&& (2147483647 : Int32))), .unset, .unset, .unset, .unset] []))
  refine OwnOut.go (fun t k => XS.iloadN X0.here hx rfl (hb hby at_43) rfl k) ?_
  show OwnOut p e s below 0 0 _ (T.setTop (mkF m 44 #[.val (.long x0), .second, .val (.int x2), .val (.int x3), .val (.int x4), .val (.int y0), .val (.int (x2 &&& (2147483647 : Int32))), .unset, .unset, .unset, .unset] [(.int x3)]))
  refine OwnOut.go (fun t k => X0.ldcInt hx hown (mvT hZ (hw _ (List.mem_of_getElem? (i := 5) rfl))) (g := (mkF m 44 #[.val (.long x0), .second, .val (.int x2), .val (.int x3), .val (.int x4), .val (.int y0), .val (.int (x2 &&& (2147483647 : Int32))), .unset, .unset, .unset, .unset] [(.int x3)])) rfl (hb hby at_44) _ k) ?_
  show OwnOut p e s below 0 0 _ (T.setTop (mkF m 46 #[.val (.long x0), .second, .val (.int x2), .val (.int x3), .val (.int x4), .val (.int y0), .val (.int (x2 &&& (2147483647 : Int32))), .unset, .unset, .unset, .unset] [(.int (2147483647 : Int32)), (.int x3)]))
  refine OwnOut.go (fun t k => XS.iand X0.here hx rfl (hb hby at_46) rfl k) ?_
  show OwnOut p e s below 0 0 _ (T.setTop (mkF m 47 #[.val (.long x0), .second, .val (.int x2), .val (.int x3), .val (.int x4), .val (.int y0), .val (.int (x2 &&& (2147483647 : Int32))), .unset, .unset, .unset, .unset] [(.int (x3 &&& (2147483647 : Int32)))]))
  refine OwnOut.go (fun t k => XS.istore X0.here hx rfl (hb hby at_47) rfl (l' := #[.val (.long x0), .second, .val (.int x2), .val (.int x3), .val (.int x4), .val (.int y0), .val (.int (x2 &&& (2147483647 : Int32))), .val (.int (x3 &&& (2147483647 : Int32))), .unset, .unset, .unset]) rfl k) ?_
  show OwnOut p e s below 0 0 _ (T.setTop (mkF m 49 #[.val (.long x0), .second, .val (.int x2), .val (.int x3), .val (.int x4), .val (.int y0), .val (.int (x2 &&& (2147483647 : Int32))), .val (.int (x3 &&& (2147483647 : Int32))), .unset, .unset, .unset] []))
  refine OwnOut.go (fun t k => XS.iload X0.here hx rfl (hb hby at_49) rfl k) ?_
  show OwnOut p e s below 0 0 _ (T.setTop (mkF m 51 #[.val (.long x0), .second, .val (.int x2), .val (.int x3), .val (.int x4), .val (.int y0), .val (.int (x2 &&& (2147483647 : Int32))), .val (.int (x3 &&& (2147483647 : Int32))), .unset, .unset, .unset] [(.int (x2 &&& (2147483647 : Int32)))]))
  refine OwnOut.go (fun t k => XS.i2l X0.here hx rfl (hb hby at_51) rfl k) ?_
  show OwnOut p e s below 0 0 _ (T.setTop (mkF m 52 #[.val (.long x0), .second, .val (.int x2), .val (.int x3), .val (.int x4), .val (.int y0), .val (.int (x2 &&& (2147483647 : Int32))), .val (.int (x3 &&& (2147483647 : Int32))), .unset, .unset, .unset] [(.long ((x2 &&& (2147483647 : Int32)).toInt64))]))
  refine OwnOut.go (fun t k => X0.ldc2Long hx hown (mvT hZ (hw _ (List.mem_of_getElem? (i := 6) rfl))) (g := (mkF m 52 #[.val (.long x0), .second, .val (.int x2), .val (.int x3), .val (.int x4), .val (.int y0), .val (.int (x2 &&& (2147483647 : Int32))), .val (.int (x3 &&& (2147483647 : Int32))), .unset, .unset, .unset] [(.long ((x2 &&& (2147483647 : Int32)).toInt64))])) rfl (hb hby at_52) _ k) ?_
  show OwnOut p e s below 0 0 _ (T.setTop (mkF m 55 #[.val (.long x0), .second, .val (.int x2), .val (.int x3), .val (.int x4), .val (.int y0), .val (.int (x2 &&& (2147483647 : Int32))), .val (.int (x3 &&& (2147483647 : Int32))), .unset, .unset, .unset] [(.long (4294967296 : Int64)), (.long ((x2 &&& (2147483647 : Int32)).toInt64))]))
  refine OwnOut.go (fun t k => XS.lmul X0.here hx rfl (hb hby at_55) rfl k) ?_
  show OwnOut p e s below 0 0 _ (T.setTop (mkF m 56 #[.val (.long x0), .second, .val (.int x2), .val (.int x3), .val (.int x4), .val (.int y0), .val (.int (x2 &&& (2147483647 : Int32))), .val (.int (x3 &&& (2147483647 : Int32))), .unset, .unset, .unset] [(.long (((x2 &&& (2147483647 : Int32)).toInt64) * (4294967296 : Int64)))]))
  refine OwnOut.go (fun t k => XS.iload X0.here hx rfl (hb hby at_56) rfl k) ?_
  show OwnOut p e s below 0 0 _ (T.setTop (mkF m 58 #[.val (.long x0), .second, .val (.int x2), .val (.int x3), .val (.int x4), .val (.int y0), .val (.int (x2 &&& (2147483647 : Int32))), .val (.int (x3 &&& (2147483647 : Int32))), .unset, .unset, .unset] [(.int (x3 &&& (2147483647 : Int32))), (.long (((x2 &&& (2147483647 : Int32)).toInt64) * (4294967296 : Int64)))]))
  refine OwnOut.go (fun t k => XS.i2l X0.here hx rfl (hb hby at_58) rfl k) ?_
  show OwnOut p e s below 0 0 _ (T.setTop (mkF m 59 #[.val (.long x0), .second, .val (.int x2), .val (.int x3), .val (.int x4), .val (.int y0), .val (.int (x2 &&& (2147483647 : Int32))), .val (.int (x3 &&& (2147483647 : Int32))), .unset, .unset, .unset] [(.long ((x3 &&& (2147483647 : Int32)).toInt64)), (.long (((x2 &&& (2147483647 : Int32)).toInt64) * (4294967296 : Int64)))]))
  refine OwnOut.go (fun t k => XS.ladd X0.here hx rfl (hb hby at_59) rfl k) ?_
  show OwnOut p e s below 0 0 _ (T.setTop (mkF m 60 #[.val (.long x0), .second, .val (.int x2), .val (.int x3), .val (.int x4), .val (.int y0), .val (.int (x2 &&& (2147483647 : Int32))), .val (.int (x3 &&& (2147483647 : Int32))), .unset, .unset, .unset] [(.long ((((x2 &&& (2147483647 : Int32)).toInt64) * (4294967296 : Int64)) + ((x3 &&& (2147483647 : Int32)).toInt64)))]))
  refine OwnOut.go (fun t k => XS.lstore X0.here hx rfl (hb hby at_60) rfl (l' := #[.val (.long x0), .second, .val (.int x2), .val (.int x3), .val (.int x4), .val (.int y0), .val (.int (x2 &&& (2147483647 : Int32))), .val (.int (x3 &&& (2147483647 : Int32))), .val (.long ((((x2 &&& (2147483647 : Int32)).toInt64) * (4294967296 : Int64)) + ((x3 &&& (2147483647 : Int32)).toInt64))), .second, .unset]) rfl k) ?_
  show OwnOut p e s below 0 0 _ (T.setTop (mkF m 62 #[.val (.long x0), .second, .val (.int x2), .val (.int x3), .val (.int x4), .val (.int y0), .val (.int (x2 &&& (2147483647 : Int32))), .val (.int (x3 &&& (2147483647 : Int32))), .val (.long ((((x2 &&& (2147483647 : Int32)).toInt64) * (4294967296 : Int64)) + ((x3 &&& (2147483647 : Int32)).toInt64))), .second, .unset] []))
  exact w0_62 x0 x2 x3 x4 y0 (x2 &&& (2147483647 : Int32)) (x3 &&& (2147483647 : Int32)) ((((x2 &&& (2147483647 : Int32)).toInt64) * (4294967296 : Int64)) + ((x3 &&& (2147483647 : Int32)).toInt64)) X0 ⟨hx, hZ, hw, hby, hml, hown, hret, hlk, hnm⟩ e0
def f0_19 (x0 : Int64) (x2 : Int32) (x3 : Int32) (y0 : Int32) : Int32 := (if (f1 x0) = y0 then (f0_35 x2 x3 (1 : Int32)) else (f0_35 x2 x3 (0 : Int32)))
set_option maxRecDepth 65536 in
set_option maxHeartbeats 40000000 in
theorem w0_19 {p : Program} {l : Launch} {e : Env} {s : State} {m : MethodId} {args : Array Value} {below : List Frame} {meth : Method} {c : Code} {T Z : State} {a0 : Array Value} {h0 : Heap} (x0 : Int64) (x2 : Int32) (x3 : Int32) (y0 : Int32)
    (X0 : Stand p l e room_1 s m args below meth c T [] 0 0) (C : Cx0 Z a0 p s m meth c) (e0 : T.heap = h0) :
    OwnOut p e s below 0 0 (QP h0 (some (.int (f0_19 x0 x2 x3 y0)))) (T.setTop (mkF m 19 #[.val (.long x0), .second, .val (.int x2), .val (.int x3), .unset, .unset, .unset, .unset, .unset, .unset, .unset] [(.int y0)])) := by
  obtain ⟨hx, hZ, hw, hby, hml, hown, hret, hlk, hnm⟩ := C
  rw [f0_19]
  refine OwnOut.go (fun t k => XS.istore X0.here hx rfl (hb hby at_19) rfl (l' := #[.val (.long x0), .second, .val (.int x2), .val (.int x3), .val (.int y0), .unset, .unset, .unset, .unset, .unset, .unset]) rfl k) ?_
  show OwnOut p e s below 0 0 _ (T.setTop (mkF m 21 #[.val (.long x0), .second, .val (.int x2), .val (.int x3), .val (.int y0), .unset, .unset, .unset, .unset, .unset, .unset] []))
  refine OwnOut.go (fun t k => XS.lloadN X0.here hx rfl (hb hby at_21) rfl k) ?_
  show OwnOut p e s below 0 0 _ (T.setTop (mkF m 22 #[.val (.long x0), .second, .val (.int x2), .val (.int x3), .val (.int y0), .unset, .unset, .unset, .unset, .unset, .unset] [(.long x0)]))
  obtain ⟨T3, X3, e3, st3⟩ := callP (W := 0) (rm := rx1) X0 hx hZ (y := (⟨(site_22.cls), "isInDocument", "(J)Z"⟩ : MethodName)) hown (hw _ (List.mem_of_getElem? (i := 1) rfl)) (hw _ (List.mem_of_getElem? (i := 2) rfl)) (hw _ (List.mem_of_getElem? (i := 3) rfl)) (hw _ (List.mem_of_getElem? (i := 4) rfl)) (by decide) (rm1 l Z a0 hw [] x0 h0) (by decide) (by decide) rfl rfl (Nat.zero_le _) (Nat.zero_le _) e0 (g := (mkF m 22 #[.val (.long x0), .second, .val (.int x2), .val (.int x3), .val (.int y0), .unset, .unset, .unset, .unset, .unset, .unset] [(.long x0)])) rfl (by rw [hml]; rfl) (argsL := [(.long x0)]) (rest := []) (lenOf pd1 rfl) rfl (by show 2 * 0 + _ ≤ _; exact Nat.le_of_eq rfl) (hb hby at_22)
  refine OwnOut.go (fun t k => st3 _ k) ?_
  show OwnOut p e s below 0 0 _ (T3.setTop (mkF m 25 #[.val (.long x0), .second, .val (.int x2), .val (.int x3), .val (.int y0), .unset, .unset, .unset, .unset, .unset, .unset] [(.int (f1 x0))]))
  refine OwnOut.go (fun t k => XS.iload X3.here hx rfl (hb hby at_25) rfl k) ?_
  show OwnOut p e s below 0 0 _ (T3.setTop (mkF m 27 #[.val (.long x0), .second, .val (.int x2), .val (.int x3), .val (.int y0), .unset, .unset, .unset, .unset, .unset, .unset] [(.int y0), (.int (f1 x0))]))
  by_cases hc27 : (f1 x0) = y0
  · rw [if_pos hc27]
    refine OwnOut.go (fun t k => XS.icmpNo X3.here hx rfl (hb hby at_27) rfl (XT.ii_ne_f hc27) k) ?_
    show OwnOut p e s below 0 0 _ (T3.setTop (mkF m 30 #[.val (.long x0), .second, .val (.int x2), .val (.int x3), .val (.int y0), .unset, .unset, .unset, .unset, .unset, .unset] []))
    refine OwnOut.go (fun t k => XT.iconstV X3.here hx rfl (1 : Int32) (hb hby at_30) rfl k) ?_
    show OwnOut p e s below 0 0 _ (T3.setTop (mkF m 31 #[.val (.long x0), .second, .val (.int x2), .val (.int x3), .val (.int y0), .unset, .unset, .unset, .unset, .unset, .unset] [(.int (1 : Int32))]))
    refine OwnOut.go (fun t k => XS.goto X3.here hx rfl (pc0 := 31) (pc' := 35) rfl (hb hby at_31) (by decide) (by decide) k) ?_
    show OwnOut p e s below 0 0 _ (T3.setTop (mkF m 35 #[.val (.long x0), .second, .val (.int x2), .val (.int x3), .val (.int y0), .unset, .unset, .unset, .unset, .unset, .unset] [(.int (1 : Int32))]))
    exact w0_35 x0 x2 x3 y0 (1 : Int32) X3 ⟨hx, hZ, hw, hby, hml, hown, hret, hlk, hnm⟩ e3
  · rw [if_neg hc27]
    refine OwnOut.go (fun t k => XS.icmpYes X3.here hx rfl (pc0 := 27) (pc' := 34) rfl (hb hby at_27) rfl (XT.ii_ne_t hc27) (by decide) (by decide) k) ?_
    show OwnOut p e s below 0 0 _ (T3.setTop (mkF m 34 #[.val (.long x0), .second, .val (.int x2), .val (.int x3), .val (.int y0), .unset, .unset, .unset, .unset, .unset, .unset] []))
    refine OwnOut.go (fun t k => XT.iconstV X3.here hx rfl (0 : Int32) (hb hby at_34) rfl k) ?_
    show OwnOut p e s below 0 0 _ (T3.setTop (mkF m 35 #[.val (.long x0), .second, .val (.int x2), .val (.int x3), .val (.int y0), .unset, .unset, .unset, .unset, .unset, .unset] [(.int (0 : Int32))]))
    exact w0_35 x0 x2 x3 y0 (0 : Int32) X3 ⟨hx, hZ, hw, hby, hml, hown, hret, hlk, hnm⟩ e3
def f0_18 (x0 : Int64) (x2 : Int32) (x3 : Int32) : Int32 := (f0_19 x0 x2 x3 (0 : Int32))
set_option maxRecDepth 65536 in
set_option maxHeartbeats 40000000 in
theorem w0_18 {p : Program} {l : Launch} {e : Env} {s : State} {m : MethodId} {args : Array Value} {below : List Frame} {meth : Method} {c : Code} {T Z : State} {a0 : Array Value} {h0 : Heap} (x0 : Int64) (x2 : Int32) (x3 : Int32)
    (X0 : Stand p l e room_1 s m args below meth c T [] 0 0) (C : Cx0 Z a0 p s m meth c) (e0 : T.heap = h0) :
    OwnOut p e s below 0 0 (QP h0 (some (.int (f0_18 x0 x2 x3)))) (T.setTop (mkF m 18 #[.val (.long x0), .second, .val (.int x2), .val (.int x3), .unset, .unset, .unset, .unset, .unset, .unset, .unset] [])) := by
  obtain ⟨hx, hZ, hw, hby, hml, hown, hret, hlk, hnm⟩ := C
  rw [f0_18]
  refine OwnOut.go (fun t k => XT.iconstV X0.here hx rfl (0 : Int32) (hb hby at_18) rfl k) ?_
  show OwnOut p e s below 0 0 _ (T.setTop (mkF m 19 #[.val (.long x0), .second, .val (.int x2), .val (.int x3), .unset, .unset, .unset, .unset, .unset, .unset, .unset] [(.int (0 : Int32))]))
  exact w0_19 x0 x2 x3 (0 : Int32) X0 ⟨hx, hZ, hw, hby, hml, hown, hret, hlk, hnm⟩ e0
def f0 (x0 : Int64) (x2 : Int32) (x3 : Int32) : Int32 := (if x0 < (0 : Int64) then (f0_18 x0 x2 x3) else (if (4294967295 : Int64) < x0 then (f0_18 x0 x2 x3) else (f0_19 x0 x2 x3 (1 : Int32))))
set_option maxRecDepth 65536 in
set_option maxHeartbeats 40000000 in
theorem w0_0 {p : Program} {l : Launch} {e : Env} {s : State} {m : MethodId} {args : Array Value} {below : List Frame} {meth : Method} {c : Code} {T Z : State} {a0 : Array Value} {h0 : Heap} (x0 : Int64) (x2 : Int32) (x3 : Int32)
    (X0 : Stand p l e room_1 s m args below meth c T [] 0 0) (C : Cx0 Z a0 p s m meth c) (e0 : T.heap = h0) :
    OwnOut p e s below 0 0 (QP h0 (some (.int (f0 x0 x2 x3)))) (T.setTop (mkF m 0 #[.val (.long x0), .second, .val (.int x2), .val (.int x3), .unset, .unset, .unset, .unset, .unset, .unset, .unset] [])) := by
  obtain ⟨hx, hZ, hw, hby, hml, hown, hret, hlk, hnm⟩ := C
  rw [f0]
  refine OwnOut.go (fun t k => XS.lloadN X0.here hx rfl (hb hby at_0) rfl k) ?_
  show OwnOut p e s below 0 0 _ (T.setTop (mkF m 1 #[.val (.long x0), .second, .val (.int x2), .val (.int x3), .unset, .unset, .unset, .unset, .unset, .unset, .unset] [(.long x0)]))
  refine OwnOut.go (fun t k => XT.lconstV X0.here hx rfl (0 : Int64) (hb hby at_1) rfl k) ?_
  show OwnOut p e s below 0 0 _ (T.setTop (mkF m 2 #[.val (.long x0), .second, .val (.int x2), .val (.int x3), .unset, .unset, .unset, .unset, .unset, .unset, .unset] [(.long (0 : Int64)), (.long x0)]))
  refine OwnOut.go (fun t k => XS.lcmp X0.here hx rfl (hb hby at_2) rfl k) ?_
  show OwnOut p e s below 0 0 _ (T.setTop (mkF m 3 #[.val (.long x0), .second, .val (.int x2), .val (.int x3), .unset, .unset, .unset, .unset, .unset, .unset, .unset] [(.int (XT.cmpL x0 (0 : Int64)))]))
  by_cases hc3 : x0 < (0 : Int64)
  · rw [if_pos hc3]
    refine OwnOut.go (fun t k => XS.ifYes X0.here hx rfl (pc0 := 3) (pc' := 18) rfl (hb hby at_3) rfl (XT.ll_lt_t hc3) (by decide) (by decide) k) ?_
    show OwnOut p e s below 0 0 _ (T.setTop (mkF m 18 #[.val (.long x0), .second, .val (.int x2), .val (.int x3), .unset, .unset, .unset, .unset, .unset, .unset, .unset] []))
    exact w0_18 x0 x2 x3 X0 ⟨hx, hZ, hw, hby, hml, hown, hret, hlk, hnm⟩ e0
  · rw [if_neg hc3]
    refine OwnOut.go (fun t k => XS.ifNo X0.here hx rfl (hb hby at_3) rfl (XT.ll_lt_f hc3) k) ?_
    show OwnOut p e s below 0 0 _ (T.setTop (mkF m 6 #[.val (.long x0), .second, .val (.int x2), .val (.int x3), .unset, .unset, .unset, .unset, .unset, .unset, .unset] []))
    refine OwnOut.go (fun t k => XS.lloadN X0.here hx rfl (hb hby at_6) rfl k) ?_
    show OwnOut p e s below 0 0 _ (T.setTop (mkF m 7 #[.val (.long x0), .second, .val (.int x2), .val (.int x3), .unset, .unset, .unset, .unset, .unset, .unset, .unset] [(.long x0)]))
    refine OwnOut.go (fun t k => X0.ldc2Long hx hown (mvT hZ (hw _ (List.mem_of_getElem? (i := 0) rfl))) (g := (mkF m 7 #[.val (.long x0), .second, .val (.int x2), .val (.int x3), .unset, .unset, .unset, .unset, .unset, .unset, .unset] [(.long x0)])) rfl (hb hby at_7) _ k) ?_
    show OwnOut p e s below 0 0 _ (T.setTop (mkF m 10 #[.val (.long x0), .second, .val (.int x2), .val (.int x3), .unset, .unset, .unset, .unset, .unset, .unset, .unset] [(.long (4294967295 : Int64)), (.long x0)]))
    refine OwnOut.go (fun t k => XS.lcmp X0.here hx rfl (hb hby at_10) rfl k) ?_
    show OwnOut p e s below 0 0 _ (T.setTop (mkF m 11 #[.val (.long x0), .second, .val (.int x2), .val (.int x3), .unset, .unset, .unset, .unset, .unset, .unset, .unset] [(.int (XT.cmpL x0 (4294967295 : Int64)))]))
    by_cases hc11 : (4294967295 : Int64) < x0
    · rw [if_pos hc11]
      refine OwnOut.go (fun t k => XS.ifYes X0.here hx rfl (pc0 := 11) (pc' := 18) rfl (hb hby at_11) rfl (XT.ll_gt_t hc11) (by decide) (by decide) k) ?_
      show OwnOut p e s below 0 0 _ (T.setTop (mkF m 18 #[.val (.long x0), .second, .val (.int x2), .val (.int x3), .unset, .unset, .unset, .unset, .unset, .unset, .unset] []))
      exact w0_18 x0 x2 x3 X0 ⟨hx, hZ, hw, hby, hml, hown, hret, hlk, hnm⟩ e0
    · rw [if_neg hc11]
      refine OwnOut.go (fun t k => XS.ifNo X0.here hx rfl (hb hby at_11) rfl (XT.ll_gt_f hc11) k) ?_
      show OwnOut p e s below 0 0 _ (T.setTop (mkF m 14 #[.val (.long x0), .second, .val (.int x2), .val (.int x3), .unset, .unset, .unset, .unset, .unset, .unset, .unset] []))
      refine OwnOut.go (fun t k => XT.iconstV X0.here hx rfl (1 : Int32) (hb hby at_14) rfl k) ?_
      show OwnOut p e s below 0 0 _ (T.setTop (mkF m 15 #[.val (.long x0), .second, .val (.int x2), .val (.int x3), .unset, .unset, .unset, .unset, .unset, .unset, .unset] [(.int (1 : Int32))]))
      refine OwnOut.go (fun t k => XS.goto X0.here hx rfl (pc0 := 15) (pc' := 19) rfl (hb hby at_15) (by decide) (by decide) k) ?_
      show OwnOut p e s below 0 0 _ (T.setTop (mkF m 19 #[.val (.long x0), .second, .val (.int x2), .val (.int x3), .unset, .unset, .unset, .unset, .unset, .unset, .unset] [(.int (1 : Int32))]))
      exact w0_19 x0 x2 x3 (1 : Int32) X0 ⟨hx, hZ, hw, hby, hml, hown, hret, hlk, hnm⟩ e0
set_option maxRecDepth 65536 in
set_option maxHeartbeats 40000000 in
theorem rm0 (l : Launch) (Z : State) (a0 : Array Value) (hw : ∀ d ∈ tables_1, d.before a0 Z = true) (ws : List Jvm.Cond) (x0 : Int64) (x2 : Int32) (x3 : Int32) (h0 : Heap) :
    MetFree l x (head1 (Jvm.Cond.code x code maxLocals ret :: ws) room_1) (fun a U => a = #[(.long x0), (.int x2), (.int x3)] ∧ Z.Warmed39 U.vm ∧ U.heap = h0) (fun _ _ _ _ _ => True) (fun _ U o U' => ∃ v L, o = .returned v ∧ QP h0 (some (.int (f0 x0 x2 x3))) v U'.heap L ∧ FrameEnd U o U' L 0 0) := by
  refine MetFree.of_bodySF (plainFor_of_name pn0) hisR ?_
  intro p e s m args below meth c s₁ Bd hml0 hP hK
  obtain ⟨rfl, hZ, hh⟩ := hP
  have X0 : Stand p l e room_1 s m #[(.long x0), (.int x2), (.int x3)] below meth c s₁ [] 0 0 := Stand.of_body Bd
  have e0 : s₁.heap = h0 := by rw [← hh, Bd.state]; rfl
  have hfc := findClass_of_methodNamed Bd.named
  exact OwnOut.at (ef0 m x0 x2 x3) (w0_0 x0 x2 x3 X0 ⟨Bd.exec, hZ, hw, Bd.bytes, hml0, hfc, Bd.returns, Bd.notSynchronized, (name_of_methodNamed Bd.named Bd.method).1⟩ e0)
theorem own_f1 (x : Int64) : f1 x = if 0 ≤ x.toInt ∧ x.toInt ≤ 4294967295 then 1 else 0 := by
  have h := c_lushr x 32 32 (by decide) (by decide)
  have h1 := Int64.le_toInt x
  have h2 := Int64.toInt_lt x
  simp only [f1, ← Int64.toInt_inj, h, Int64.reduceToInt]
  repeat' split
  all_goals first | rfl | (exfalso; omega)
theorem own_b (A : Prop) [Decidable A] : ((if A then (1 : Int32) else 0) = 0) = ¬ A := by
  by_cases h : A <;> simp [h]
theorem own_b1 (A : Prop) [Decidable A] : ((if A then (1 : Int32) else 0) = 1) = A := by
  by_cases h : A <;> simp [h]
theorem own_94 (p : Int32) (z : Int64) (h : z.toInt32 = p) : f0_94 p z 1 = 1 := by
  simp only [f0_94, f2, f0_116, h, if_true]
  decide
theorem own_62 (t p : Int32) (z : Int64) (h : z.toInt32 = p) (hz : (0 ≤ z.toInt ∧ z.toInt ≤ 4294967295) ↔ t = 0) : f0_62 1 t p z = 1 := by
  have n1 : ¬ (1 : Int32) = 0 := by decide
  by_cases ht : t = 0
  · simp only [f0_62, if_pos ht, f0_72, if_neg n1, own_f1, own_b1, if_pos (hz.mpr ht)]
    exact own_94 p z h
  · simp only [f0_62, if_neg ht, f0_72, if_neg n1, own_f1, own_b, if_pos (show ¬ (0 ≤ z.toInt ∧ z.toInt ≤ 4294967295) from fun q => ht (hz.mp q))]
    exact own_94 p z h
theorem own_35 (a b : Int32) : f0_35 a b 1 = 1 := by
  have e1 : (a &&& 2147483647).toInt = a.toInt % (2 ^ 31 : Nat) := c_mask a 2147483647 31 (by decide) (by decide)
  have e2 : (b &&& 2147483647).toInt = b.toInt % (2 ^ 31 : Nat) := c_mask b 2147483647 31 (by decide) (by decide)
  unfold f0_35
  generalize a &&& 2147483647 = t at *
  generalize b &&& 2147483647 = p at *
  have e3 : (t.toInt64 * 4294967296).toInt = t.toInt * 4294967296 := (XT.mul64 ⟨by rw [c_i2l]; show _ ≤ _ * (4294967296 : Int); omega, by rw [c_i2l]; show _ * (4294967296 : Int) < _; omega⟩).trans (by rw [c_i2l]; rfl)
  have e4 : (t.toInt64 * 4294967296 + p.toInt64).toInt = t.toInt * 4294967296 + p.toInt := (XT.add64 ⟨by rw [e3, c_i2l]; omega, by rw [e3, c_i2l]; omega⟩).trans (by rw [e3, c_i2l])
  refine own_62 t p _ ?_ ?_
  · apply Int32.toInt_inj.mp
    have q := c_l2i (t.toInt64 * 4294967296 + p.toInt64)
    have q1 := Int32.le_toInt (t.toInt64 * 4294967296 + p.toInt64).toInt32
    have q2 := Int32.toInt_lt (t.toInt64 * 4294967296 + p.toInt64).toInt32
    rw [e4] at q
    omega
  · rw [e4, ← Int32.toInt_inj]
    have z : (0 : Int32).toInt = 0 := by decide
    omega
theorem law_ok (x : Int64) (a b : Int32) : f0 x a b = 1 := by
  have k1 : ∀ y, f1 x = y → f0_19 x a b y = 1 := by
    intro y h
    simp only [f0_19, if_pos h]
    exact own_35 a b
  have h := own_f1 x
  unfold f0
  split
  · rename_i q
    rw [Int64.lt_iff_toInt_lt] at q
    have z : (0 : Int64).toInt = 0 := by decide
    exact k1 0 (by rw [h, if_neg (by omega)])
  split
  · rename_i q
    rw [Int64.lt_iff_toInt_lt] at q
    have z : (4294967295 : Int64).toInt = 4294967295 := by decide
    exact k1 0 (by rw [h, if_neg (by omega)])
  · rename_i q r
    rw [Int64.lt_iff_toInt_lt] at q r
    have z0 : (0 : Int64).toInt = 0 := by decide
    have z : (4294967295 : Int64).toInt = 4294967295 := by decide
    exact k1 1 (by rw [h, if_pos (by omega)])
set_option maxRecDepth 65536 in
set_option maxHeartbeats 40000000 in
theorem comes_1 {Post : Tables → Env → Array Value → State → Outcome → State → Prop} (hpost : ∀ tb e args s v u, (limb_1_1.after args s (.returned v) u = true ∧ limb_1_2.after args s (.returned v) u = true ∧ True) → FrameEnd s (.returned v) u (Jvm.fieldLocs frame_1_writes args s ++ Jvm.arrayLocs frame_1_arrays args s ++ Jvm.staticLocs frame_1_statics s) 0 0 → Post tb e args s (.returned v) u) :
    ArmFor flags0 classFile x code maxLocals ret World_1 tables_1 room_1 Calls_1 rest_1 Pre_1 Post := by
  intro l hfl _ _ p e ha hc hk s m args below hf hA hF happ hP
  obtain ⟨hcalls, hrest, hpre⟩ := hP
  obtain ⟨-, -, -, hnamed, -, -, -, hat⟩ := (Spec.applies_iff hf).mp happ
  obtain ⟨hg, hn⟩ := and_e (Cond.before_iff.mp (show (Jvm.Cond.and given_1 narrow_1).before args s = true from hpre))
  obtain ⟨g1, g2⟩ := and_e hg
  obtain ⟨g3, g4⟩ := and_e g2
  obtain ⟨g5, g6⟩ := and_e g4
  obtain ⟨w0, w1, w2, rfl⟩ : ∃ w0 w1 w2 : Value, args = #[w0, w1, w2] := by
    have hs : args.size = 3 := by simpa [Cond.value, given_1] using g1
    obtain ⟨L⟩ := args
    match L, hs with
    | [w0, w1, w2], _ => exact ⟨w0, w1, w2, rfl⟩
  have hw := fun d (hd : d ∈ tables_1) => atoms_spec (ws := Jvm.Cond.code x code maxLocals ret :: tables_1) hat d (List.mem_cons_of_mem _ hd)
  obtain ⟨i0, ei0⟩ := isL_v g3
  obtain rfl : w0 = (.long i0) := Option.some.inj ei0
  obtain ⟨i1, ei1⟩ := is_v g5
  obtain rfl : w1 = (.int i1) := Option.some.inj ei1
  obtain ⟨i2, ei2⟩ := is_v g6
  obtain rfl : w2 = (.int i2) := Option.some.inj ei2
  obtain ⟨n, o, h1, h2, h3, _, L, rfl, ⟨rfl, hh, rfl⟩, hq⟩ := rm0 l s _ hw tables_1 i0 i1 i2 s.heap p e ha hc hk s m _ below hf ((Spec.applies_iff_loose hf).mp happ).1 ⟨rfl, State.Warmed39.refl s, rfl⟩ trivial
  have hv := law_ok i0 i1 i2
  refine ⟨n, _, h1, h2, h3, hpost _ _ _ _ _ _ ⟨Cond.after_iff.mpr rfl, Cond.after_iff.mpr (eq_i res_at (Term.int_eval (1)) (congrArg Value.int hv)), trivial⟩ ⟨hq.1, hq.2.1, (hq.2.2.sift fun y hy => nomatch hy).mono (by decide) (by decide)⟩⟩
theorem main_1_1 : Claimed_1_1 := comes_1 fun _ _ _ _ _ _ h hF => ⟨h.1, hF⟩
theorem main_1_2 : Claimed_1_2 := comes_1 fun _ _ _ _ _ _ h hF => ⟨h.2.1, hF⟩
end Jvm.Pilot.@@N@@
namespace Jvm.Pilot.@@N@@
open Jvm Jvm.ClassFile Sem Op Lib Jvm.Free Jvm.Stand Jvm.Pilot.@@N@@.Jvm.D
/-! MADE BY PROGRAM (witnessworld.py) out of the Statement's table words and the real class files: 9 classes; the members and pool entries that the words name. The judged class is class 1, her method 1. -/
namespace start1
open Jvm.ClassFile
def u (s : String) : CpInfo := .utf8 (stringToUtf16 s)
/-- a pool by its gaps: so many unusable entries, then the entry; so many at the end -/
def gap : Nat → List CpInfo → List CpInfo
  | 0, r => r
  | n + 1, r => .unusable :: gap n r
def poolList (es : List (Nat × CpInfo)) (last : Nat) : List CpInfo := es.foldr (fun e r => gap e.1 (e.2 :: r)) (gap last [])
def pool (es : List (Nat × CpInfo)) (last : Nat) : Array CpInfo := ⟨poolList es last⟩
def fileOf (pool : Array CpInfo) (this : Nat) (attrs : Array Attribute := #[]) (ms : Array MethodInfo := #[]) (fl : Nat := 33) (sup : Nat := 0) (ifs : Array Nat := #[]) (fds : Array FieldInfo := #[]) : ClassFile where
  minorVersion := 0
  majorVersion := 65
  constantPool := pool
  accessFlags := fl
  thisClass := this
  superClass := sup
  interfaces := ifs
  fields := fds
  methods := ms
  attributes := attrs
def plain (name : String) (sup : Option ClassId) : Class where
  name := name
  kind := .ordinary
  loader := none
  accessFlags := 33
  super := sup
  interfaces := #[]
  cf := none
  fields := #[]
  methods := #[]
  instanceTypes := #[]
  staticTypes := #[]
  resolved := #[]
  callSites := []
  init := .initialized
  statics := none
  mirror := none

def pool0 : Array CpInfo := pool [(5, u "<init>"), (0, u "()V"), (1, .class_ 10), (1, u "java/lang/Object")] 113

def k0m0 : Method := { name := "<init>", desc := "()V", sig := { parameters := [], returnType := none }, accessFlags := 1, code := none }
/-- java/lang/Object -/
def k0 : Class := { plain "java/lang/Object" none with
  accessFlags := 33
  interfaces := #[]
  cf := some (fileOf pool0 8 #[] #[{ accessFlags := 1, nameIndex := 5, descriptorIndex := 6, attributes := #[] }] 33 0 #[] #[])
  fields := #[]
  methods := #[k0m0]
  instanceTypes := #[]
  staticTypes := #[]
  resolved := Array.replicate 124 none
  statics := none }

def pool1 : Array CpInfo := pool [(2, .class_ 4), (1, u "java/lang/Object"), (0, u "<init>"), (0, u "()V"), (0, .long 4294967295), (1, .methodref 10 11), (0, .class_ 12), (0, .nameAndType 13 14), (0, u (site_22.cls)), (0, u "isInDocument"), (0, u "(J)Z"), (0, .integer 2147483647), (0, .long 4294967296), (1, .methodref 10 19), (0, .nameAndType 20 21), (0, u "positionInTree"), (0, u "(J)I"), (0, .class_ 23), (0, u (x.cls)), (2, u "law"), (0, u "(JII)Z")] 3

def k1m0 : Method := { name := "<init>", desc := "()V", sig := { parameters := [], returnType := none }, accessFlags := 2, code := none }
def k1c1 : Code := { maxStack := 4, maxLocals := 11, code := code, exceptionTable := #[], attributes := #[] }
def k1m1 : Method := { name := "law", desc := "(JII)Z", sig := { parameters := [.long, .int, .int], returnType := some .boolean }, accessFlags := 9, code := some k1c1 }
def k1 : Class := { plain (x.cls) (some 0) with
  accessFlags := 49
  interfaces := #[]
  cf := some (fileOf pool1 22 #[] #[{ accessFlags := 2, nameIndex := 5, descriptorIndex := 6, attributes := #[] }, { accessFlags := 9, nameIndex := 26, descriptorIndex := 27, attributes := #[] }] 49 2 #[] #[])
  fields := #[]
  methods := #[k1m0, k1m1]
  instanceTypes := #[]
  staticTypes := #[]
  resolved := Array.replicate 31 none
  statics := none }

def pool2 : Array CpInfo := pool [(2, .class_ 4), (1, u "java/lang/Object"), (8, .class_ 15), (1, u (site_22.cls)), (0, u "trees"), (0, u "Ljava/util/List;"), (2, u "lookedUp"), (0, u "[J"), (2, u "treeOf"), (0, u "Ljava/util/function/Function;"), (2, u "work"), (0, u "Ljava/util/function/LongConsumer;"), (18, u "numberedAgain"), (0, u "I"), (38, .class_ 89), (0, u (site_22.cls)), (78, .class_ 169), (0, u (site_22.cls)), (16, u "ATTRIBUTES"), (6, u "isInDocument"), (0, u "(J)Z"), (1, u "positionInTree"), (0, u "(J)I")] 35

def k2c0 : Code := { maxStack := 4, maxLocals := 2, code := prog_10_method_3_code, exceptionTable := #[], attributes := #[] }
def k2m0 : Method := { name := "isInDocument", desc := "(J)Z", sig := { parameters := [.long], returnType := some .boolean }, accessFlags := 8, code := some k2c0 }
def k2c1 : Code := { maxStack := 2, maxLocals := 2, code := prog_10_method_4_code, exceptionTable := #[], attributes := #[] }
def k2m1 : Method := { name := "positionInTree", desc := "(J)I", sig := { parameters := [.long], returnType := some .int }, accessFlags := 8, code := some k2c1 }
def k2 : Class := { plain (site_22.cls) (some 0) with
  accessFlags := 48
  interfaces := #[]
  cf := some (fileOf pool2 13 #[] #[{ accessFlags := 8, nameIndex := 193, descriptorIndex := 194, attributes := #[] }, { accessFlags := 8, nameIndex := 196, descriptorIndex := 197, attributes := #[] }] 48 2 #[] #[{ accessFlags := 18, nameIndex := 24, descriptorIndex := 25, attributes := #[] }, { accessFlags := 18, nameIndex := 28, descriptorIndex := 29, attributes := #[] }, { accessFlags := 18, nameIndex := 16, descriptorIndex := 17, attributes := #[] }, { accessFlags := 26, nameIndex := 186, descriptorIndex := 49, attributes := #[] }, { accessFlags := 2, nameIndex := 48, descriptorIndex := 49, attributes := #[] }, { accessFlags := 2, nameIndex := 20, descriptorIndex := 21, attributes := #[] }])
  fields := #[{ name := "treeOf", type := (.object "java/util/function/Function"), accessFlags := 18, slot := 0, constantValue := 0 }, { name := "work", type := (.object "java/util/function/LongConsumer"), accessFlags := 18, slot := 1, constantValue := 0 }, { name := "trees", type := (.object "java/util/List"), accessFlags := 18, slot := 2, constantValue := 0 }, { name := "ATTRIBUTES", type := .int, accessFlags := 26, slot := 0, constantValue := 0 }, { name := "numberedAgain", type := .int, accessFlags := 2, slot := 3, constantValue := 0 }, { name := "lookedUp", type := (.array .long), accessFlags := 2, slot := 4, constantValue := 0 }]
  methods := #[k2m0, k2m1]
  instanceTypes := #[(.object "java/util/function/Function"), (.object "java/util/function/LongConsumer"), (.object "java/util/List"), .int, (.array .long)]
  staticTypes := #[.int]
  resolved := Array.replicate 233 none
  statics := none }

def pool3 : Array CpInfo := pool [(1, u "java/lang/Cloneable"), (0, .class_ 1), (0, u "java/lang/Object"), (0, .class_ 3)] 3

/-- java/lang/Cloneable -/
def k3 : Class := { plain "java/lang/Cloneable" (some 0) with
  accessFlags := 1537
  interfaces := #[]
  cf := some (fileOf pool3 2 #[] #[] 1537 4 #[] #[])
  fields := #[]
  methods := #[]
  instanceTypes := #[]
  staticTypes := #[]
  resolved := Array.replicate 8 none
  statics := none }

def pool4 : Array CpInfo := pool [(1, u "java/io/Serializable"), (0, .class_ 1), (0, u "java/lang/Object"), (0, .class_ 3)] 3

/-- java/io/Serializable -/
def k4 : Class := { plain "java/io/Serializable" (some 0) with
  accessFlags := 1537
  interfaces := #[]
  cf := some (fileOf pool4 2 #[] #[] 1537 4 #[] #[])
  fields := #[]
  methods := #[]
  instanceTypes := #[]
  staticTypes := #[]
  resolved := Array.replicate 8 none
  statics := none }

/-- the primitive byte -/
def k5 : Class := { plain "byte" none with kind := .primitive 'B', accessFlags := 0x411 }
/-- [B -/
def k6 : Class := { plain "[B" (some 0) with kind := .array 5 .byte, interfaces := #[3, 4], accessFlags := 1041 }

/-- the primitive int -/
def k7 : Class := { plain "int" none with kind := .primitive 'I', accessFlags := 0x411 }
/-- [I -/
def k8 : Class := { plain "[I" (some 0) with kind := .array 7 .int, interfaces := #[3, 4], accessFlags := 1041 }

def heap : Heap := #[]
def classes : Array Class := #[k0, k1, k2, k3, k4, k5, k6, k7, k8]
def interned : List (Array UInt16 × Addr) := []
def slotsUsed : Nat := 0
def theMethod : MethodId := ⟨1, 1⟩
def args0 : Array Value := #[.long 5, .int 7, .int 3]
def aboutOver (below : List Frame) : State where
  vm := { classes := classes, interned := interned.toArray }
  heap := heap
  slotsUsed := slotsUsed
  threads := #[{ frames := .invoking theMethod args0 :: below }]
def below0 : List Frame := [.native { method := ⟨0, 0⟩, args := #[] }]
def about1 : State := aboutOver below0
def p0 : Program := .bare "" "" ""
def e0 : Env := launch0.env 0 0 0
theorem w_frames : about1.frames = Frame.invoking theMethod args0 :: below0 := rfl
set_option maxRecDepth 65536 in
theorem w_args : argsFit about1.vm theMethod args0 = true := by decide +kernel
set_option maxRecDepth 65536 in
theorem w_heap : heapFits about1 = true := by decide +kernel
set_option maxRecDepth 65536 in
theorem w_runnable : about1.curStatus? = some .runnable := by decide +kernel
set_option maxRecDepth 65536 in
theorem w_alone : about1.alone = true := by decide +kernel
set_option maxRecDepth 65536 in
theorem w_named : about1.methodNamed? x = some theMethod := by decide +kernel
set_option maxRecDepth 65536 in
theorem w_hears : about1.hears theMethod below0 = true := by decide +kernel
set_option maxRecDepth 65536 in
theorem w_ripe : about1.ripe theMethod args0 below0 = true := by decide +kernel
theorem w_running : about1.status = .running := rfl
set_option maxRecDepth 65536 in
theorem w_room : about1.hasRoom e0.platform room_1 = true :=
  launch0.hasRoom_least _ room_1 (by decide +kernel) (by decide +kernel) (by decide +kernel) (by decide +kernel) (by decide +kernel) (by decide +kernel)
theorem allAtoms_all (ts : List Jvm.Cond) (a : Array Jvm.Value) (st : Jvm.State) : (allAtoms ts).before a st = ts.all (fun c => c.before a st) := by
  induction ts with
  | nil => rfl
  | cons c t ih =>
    show (Jvm.Cond.and c (allAtoms t)).before a st = _
    rw [Jvm.Cond.before_and, ih, List.all_cons]
def words1 : List Jvm.Cond := Jvm.Cond.code x code maxLocals ret :: tables_1
/-- a 'code' word, met by the world's own term for the bytes: nothing is compared byte by byte -/
theorem code_word {y : MethodName} {bytes : ByteArray} {mx : Nat} {rt : Option FieldType} {a : Array Value} {s : State} {m : MethodId} {meth : Method} {c : Code} (h1 : s.methodNamed? y = some m) (h2 : s.vm.method? m = some meth) (h3 : meth.code = some c) (h4 : c.code = bytes)
    (h5 : (c.maxLocals == mx && c.exceptionTable.isEmpty && decide (c.maxStack ≤ mostOperands) && decide (meth.sig.returnType = rt) && !meth.locks && decide (parseMethodDescriptor y.desc = some meth.sig)) = true) : (Jvm.Cond.code y bytes mx rt).before a s = true := by
  simp only [Bool.and_eq_true, beq_iff_eq, Bool.not_eq_true', decide_eq_true_eq] at h5
  obtain ⟨⟨⟨⟨⟨g1, g2⟩, g3⟩, g4⟩, g5⟩, g6⟩ := h5
  simp [Cond.before, Cond.holds, Cond.value, h1, h2, h3, h4, g1, g2, g3, g4, g5, g6]
def isCode : Jvm.Cond → Bool
  | .code _ _ _ _ => true
  | _ => false
theorem all_split {L : List Jvm.Cond} {P : Jvm.Cond → Bool} (h1 : L.all (fun c => isCode c || P c) = true) (h2 : ∀ c ∈ L.filter isCode, P c = true) : L.all P = true := by
  refine List.all_eq_true.mpr fun c hc => ?_
  have h := List.all_eq_true.mp h1 c hc
  rcases Bool.eq_false_or_eq_true (isCode c) with hi | hi
  · exact h2 c (List.mem_filter.mpr ⟨hc, hi⟩)
  · simpa [hi] using h
set_option maxRecDepth 65536 in
theorem w_c0 : (Jvm.Cond.code x code maxLocals ret).before args0 about1 = true := code_word (m := ⟨1, 1⟩) (meth := k1m1) (c := k1c1) (by decide +kernel) rfl rfl rfl (by decide +kernel)
set_option maxRecDepth 65536 in
theorem w_c1 : (Jvm.Cond.code ({ cls := (site_22.cls), name := "isInDocument", desc := "(J)Z" } : Jvm.MethodName) prog_10_method_3_code (2 : Nat) (Option.some Jvm.ClassFile.FieldType.boolean)).before args0 about1 = true := code_word (m := ⟨2, 0⟩) (meth := k2m0) (c := k2c0) (by decide +kernel) rfl rfl rfl (by decide +kernel)
set_option maxRecDepth 65536 in
theorem w_c2 : (Jvm.Cond.code ({ cls := (site_22.cls), name := "positionInTree", desc := "(J)I" } : Jvm.MethodName) prog_10_method_4_code (2 : Nat) (Option.some Jvm.ClassFile.FieldType.int)).before args0 about1 = true := code_word (m := ⟨2, 1⟩) (meth := k2m1) (c := k2c1) (by decide +kernel) rfl rfl rfl (by decide +kernel)
def codes1 : List Jvm.Cond := [Jvm.Cond.code x code maxLocals ret, Jvm.Cond.code ({ cls := (site_22.cls), name := "isInDocument", desc := "(J)Z" } : Jvm.MethodName) prog_10_method_3_code (2 : Nat) (Option.some Jvm.ClassFile.FieldType.boolean), Jvm.Cond.code ({ cls := (site_22.cls), name := "positionInTree", desc := "(J)I" } : Jvm.MethodName) prog_10_method_4_code (2 : Nat) (Option.some Jvm.ClassFile.FieldType.int)]
set_option maxRecDepth 65536 in
theorem codes_eq : words1.filter isCode = codes1 := rfl
theorem w_codes : ∀ c ∈ words1.filter isCode, c.before args0 about1 = true := by
  rw [codes_eq]
  intro c hc
  simp only [codes1, List.mem_cons, List.not_mem_nil, or_false] at hc
  rcases hc with rfl | rfl | rfl
  · exact w_c0
  · exact w_c1
  · exact w_c2
set_option maxRecDepth 65536 in
theorem w_t1 : words1.all (fun c => isCode c || c.before args0 about1) = true := by decide +kernel
theorem w_tables : (allAtoms (Jvm.Cond.code x code maxLocals ret :: tables_1)).before args0 about1 = true := by
  rw [allAtoms_all]
  show words1.all (fun c => c.before args0 about1) = true
  refine all_split ?_ w_codes
  rw [w_t1]
set_option maxRecDepth 65536 in
theorem w_case : (Jvm.Cond.and given_1 narrow_1).before args0 about1 = true := by decide +kernel
theorem w_applies : (headSpec (Jvm.Cond.code x code maxLocals ret :: tables_1) room_1).applies x e0.platform about1 = true :=
  (Spec.applies_iff w_frames).mpr ⟨w_running, w_runnable, w_alone, w_named, w_hears, w_ripe, w_room, w_tables⟩
theorem atStart : AtStart classFile x code maxLocals ret World_1 tables_1 room_1 Calls_1 rest_1 Pre_1 launch0 p0 e0 about1 theMethod args0 below0 :=
  ⟨lists_1, trivial, launch0.admits_env _ _ _, launch0.least_env, fairChoices_fair.cas, fairChoices_fair.clock, w_frames, w_args, w_heap, w_applies, trivial, trivial, w_case⟩
end start1
theorem witness_1 : WitnessClaimed_1 := ⟨start1.p0, start1.e0, start1.about1, start1.theMethod, start1.args0, start1.below0, start1.atStart⟩
end Jvm.Pilot.@@N@@
