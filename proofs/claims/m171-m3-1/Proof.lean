import JvmDerived
import JvmDerived.Pilot.@@N@@Statement
import JvmDerived.Pilot.@@N@@Code
set_option linter.unusedVariables false
set_option linter.unusedSimpArgs false
namespace Jvm.RoadKit
open Sem ClassFile Op Lib Jvm.Stand Jvm.Free Jvm.LawKit
section Own
variable {p : Program} {l : Launch} {e : Env} {R : Room} {s : State} {m : MethodId} {args : Array Value} {below : List Frame} {meth : Method} {c : Code} {T : State} {locs : List Loc} {cells slots : Nat} {k n : Nat} {Q : Option Value → Heap → List Loc → Prop} {W W' : State} {Z : State} {a0 : Array Value} {h : Heap}
/-- the run from W comes back, with what Q says -/
def OwnOut (p : Program) (e : Env) (s : State) (below : List Frame) (k n : Nat) (Q : Option Value → Heap → List Loc → Prop) (W : State) : Prop :=
  ∃ s₂ o, Steps p.tables e below W s₂ ∧ s₂.status = .running ∧ Ended s₂ below o ∧ ∃ v L, o = .returned v ∧ Q v s₂.heap L ∧ FrameEnd s o s₂ L k n
theorem OwnOut.go (h : ∀ t, Steps p.tables e below W' t → Steps p.tables e below W t) (H : OwnOut p e s below k n Q W') : OwnOut p e s below k n Q W := by
  obtain ⟨s₂, o, h1, h2⟩ := H
  exact ⟨s₂, o, h _ h1, h2⟩
theorem OwnOut.at {g g' : JFrame} (q : g = g') (H : OwnOut p e s below k n Q (T.setTop g')) : OwnOut p e s below k n Q (T.setTop g) := q ▸ H
theorem OwnOut.imp {Q' : Option Value → Heap → List Loc → Prop} (q : ∀ v h L, Q' v h L → Q v h L) (H : OwnOut p e s below k n Q' W) : OwnOut p e s below k n Q W := by
  obtain ⟨s₂, o, h1, h2, h3, v, L, h4, h5, h6⟩ := H
  exact ⟨s₂, o, h1, h2, h3, v, L, h4, q _ _ _ h5, h6⟩
theorem outI (X : Stand p l e R s m args below meth c T locs cells slots) (hx : p.tables.exec = Jvm.exec) {pc : Nat} {Ls : Array Slot} {z : Int32} (hret : meth.sig.returnType = some .int) (hd : decode c.code pc = .ok (.ireturn, 1)) (hlk : meth.locks = false) (hk : cells ≤ k) (hn : slots ≤ n) (q : Q (some (.int z)) T.heap locs) :
    OwnOut p e s below k n Q (T.setTop (mkF m pc Ls [.int z])) := by
  obtain ⟨fs, hr, hrun, hended, hW, hsame⟩ := X.leave (v := some (.int z)) (fun h => by rw [hret] at h; cases h) hlk
  exact ⟨_, _, X.ireturnOut hx hret rfl (Or.inl rfl) hd hr, hrun, hended, _, _, rfl, q, ⟨_, rfl⟩, hW, hsame.mono hk hn⟩
theorem outZ (X : Stand p l e R s m args below meth c T locs cells slots) (hx : p.tables.exec = Jvm.exec) {pc : Nat} {Ls : Array Slot} {z : Int32} (hret : meth.sig.returnType = some .boolean) (hd : decode c.code pc = .ok (.ireturn, 1)) (hlk : meth.locks = false) (hk : cells ≤ k) (hn : slots ≤ n) (q : Q (some (.int (z &&& 1))) T.heap locs) :
    OwnOut p e s below k n Q (T.setTop (mkF m pc Ls [.int z])) := by
  obtain ⟨fs, hr, hrun, hended, hW, hsame⟩ := X.leave (v := some (.int (z &&& 1))) (fun h => by rw [hret] at h; cases h) hlk
  exact ⟨_, _, retN X hx (t := .boolean) hret (by simp) hd hr, hrun, hended, _, _, rfl, q, ⟨_, rfl⟩, hW, hsame.mono hk hn⟩
theorem outJ (X : Stand p l e R s m args below meth c T locs cells slots) (hx : p.tables.exec = Jvm.exec) {pc : Nat} {Ls : Array Slot} {z : Int64} (hret : meth.sig.returnType = some .long) (hd : decode c.code pc = .ok (.lreturn, 1)) (hlk : meth.locks = false) (hk : cells ≤ k) (hn : slots ≤ n) (q : Q (some (.long z)) T.heap locs) :
    OwnOut p e s below k n Q (T.setTop (mkF m pc Ls [.long z])) := by
  obtain ⟨fs, hr, hrun, hended, hW, hsame⟩ := X.leave (v := some (.long z)) (fun h => by rw [hret] at h; cases h) hlk
  exact ⟨_, _, X.lreturnOut hx hret hd hr, hrun, hended, _, _, rfl, q, ⟨_, rfl⟩, hW, hsame.mono hk hn⟩
theorem outA (X : Stand p l e R s m args below meth c T locs cells slots) (hx : p.tables.exec = Jvm.exec) {pc : Nat} {Ls : Array Slot} {w : Value} {t : FieldType} (hw : w.isRef = true) (hret : meth.sig.returnType = some t) (ht : t.isReference = true) (hd : decode c.code pc = .ok (.areturn, 1)) (hlk : meth.locks = false) (hk : cells ≤ k) (hn : slots ≤ n) (q : Q (some w) T.heap locs) :
    OwnOut p e s below k n Q (T.setTop (mkF m pc Ls [w])) := by
  obtain ⟨fs, hr, hrun, hended, hW, hsame⟩ := X.leave (v := some w) (fun h => by rw [hret] at h; cases h) hlk
  exact ⟨_, _, X.areturnOut hx hw hret ht hd hr, hrun, hended, _, _, rfl, q, ⟨_, rfl⟩, hW, hsame.mono hk hn⟩
theorem outV (X : Stand p l e R s m args below meth c T locs cells slots) (hx : p.tables.exec = Jvm.exec) {pc : Nat} {Ls : Array Slot} (hret : meth.sig.returnType = none) (hd : decode c.code pc = .ok (.return_, 1)) (hlk : meth.locks = false) (hk : cells ≤ k) (hn : slots ≤ n) (q : Q none T.heap locs) :
    OwnOut p e s below k n Q (T.setTop (mkF m pc Ls [])) := by
  obtain ⟨fs, hr, hrun, hended, hW, hsame⟩ := X.leave (v := none) (fun _ => rfl) hlk
  exact ⟨_, _, X.returnOut hx hret hd hr, hrun, hended, _, _, rfl, q, ⟨_, rfl⟩, hW, hsame.mono hk hn⟩
theorem lremM {g : JFrame} {target : State} (X : Stand p l e R s m args below meth c T locs cells slots) (hx : p.tables.exec = Jvm.exec) (hg : g.method = m) {x y : Int64} {rest : List Value} (hd : decode c.code g.pc = .ok (.lrem, 1)) (hs : g.stack = .long y :: .long x :: rest) (hy : y ≠ 0)
    (hr : Steps p.tables e below (T.setTop { g with pc := g.pc + 1, stack := .long (x % y) :: rest }) target) : Steps p.tables e below (T.setTop g) target :=
  XS.lrem X.here hx hg hd hs hy (by rw [lrem_mod]; exact hr)
/-- a body that touches nothing: what it returns, the heap as it was, nothing written -/
def QP (h0 : Heap) (w : Option Value) (v : Option Value) (h : Heap) (L : List Loc) : Prop := v = w ∧ h = h0 ∧ L = []
/-- a static call of such a body -/
theorem callP (X : Stand p l e R s m args below meth c T locs cells slots) (hx : p.tables.exec = Jvm.exec) (hZ : Z.Warmed39 s.vm) {own : String} {index : Nat} {y : MethodName} {bytes : ByteArray} {maxL : Nat} {ret : Option FieldType} {rm : Room} {as' : Array Value} {w : Option Value}
    (hown : s.vm.findClass own = some m.cls) (w1 : (Cond.methodLink own index y).before a0 Z = true) (w2 : (Cond.static y).before a0 Z = true) (w3 : (Cond.initialized y.cls).before a0 Z = true) (w4 : (Cond.code y bytes maxL ret).before a0 Z = true) (hy : y.cls ≠ "java/lang/invoke/MethodHandle" ∧ y.cls ≠ "java/lang/invoke/VarHandle")
    (hM : MetFree l y (head1 [Cond.code y bytes maxL ret] rm) (fun a U => a = as' ∧ Z.Warmed39 U.vm ∧ U.heap = h) (fun _ _ _ _ _ => True) (fun _ U o U' => ∃ v L, o = .returned v ∧ QP h w v U'.heap L ∧ FrameEnd U o U' L rm.cells rm.slots))
    {W : Nat} (hf : rm.frames + 1 ≤ R.frames) (hl : W + (maxL + 11) + rm.locals ≤ R.locals) (z1 : rm.cells = 0) (z2 : rm.slots = 0) (hc : cells ≤ R.cells) (hs' : slots ≤ R.slots) (eT : T.heap = h)
    {g : JFrame} (hg : g.method = m) (hsize : g.locals.size = c.maxLocals) {argsL rest : List Value} (hlen : ∀ sig, parseMethodDescriptor y.desc = some sig → argsL.length = sig.parameters.length)
    (hstack : g.stack = argsL.reverse ++ rest) (hW : 2 * g.monitorRoom + (rest.map fun v => v.category).sum ≤ W) (hdg : decode c.code g.pc = .ok (.invokestatic index, 3)) (has : argsL.toArray = as' := by rfl) :
    ∃ T', Stand p l e R s m args below meth c T' locs cells slots ∧ T'.heap = h ∧ ∀ target, Steps p.tables e below (T'.setTop { g with pc := g.pc + 3, stack := w.toList ++ rest }) target → Steps p.tables e below (T.setTop g) target := by
  obtain ⟨v, vm₁, ⟨T', L', k', n'⟩, -, X', ⟨Lc, ⟨rfl, q2, rfl⟩, l1, y1, z3⟩, st⟩ := Jvm.LawKit.callS X hx (y := y) hown (mvT hZ w1) (mvT hZ w2) (mvT hZ w3) (mvT hZ w4) hy (backOf (W := W) hM hZ w4 w3 hf hl) hg hsize hlen hstack hW hdg (fun _ _ => ⟨has, eT, by rw [z1]; exact hc, by rw [z2]; exact hs'⟩)
  dsimp only [Pt.U, Pt.locs, Pt.cells, Pt.slots] at X' l1 y1 z3 st q2
  rw [z1] at y1; rw [z2] at z3
  rw [List.append_nil] at l1
  subst l1 y1 z3
  exact ⟨T', X', q2, st⟩
end Own
end Jvm.RoadKit
namespace Jvm.Pilot.@@N@@
open Jvm Jvm.ClassFile Sem Op Lib Jvm.Free Jvm.Stand Jvm.LawKit Jvm.RoadKit Bundle Jvm.Pilot.@@N@@.Jvm.D
-- body 2: com/example/eigenmittel/eigenmittel/AsciiDigits.pairs:(J)J
theorem d2_0 : decode prog_2_method_4_code 0 = .ok (.lload_n 0, 1) := by decide +kernel
theorem d2_1 : decode prog_2_method_4_code 1 = .ok (.ldc2_w 19, 3) := by decide +kernel
theorem d2_4 : decode prog_2_method_4_code 4 = .ok (.lsub, 1) := by decide +kernel
theorem d2_5 : decode prog_2_method_4_code 5 = .ok (.lstore_n 2, 1) := by decide +kernel
theorem d2_6 : decode prog_2_method_4_code 6 = .ok (.lload_n 2, 1) := by decide +kernel
theorem d2_7 : decode prog_2_method_4_code 7 = .ok (.ldc2_w 25, 3) := by decide +kernel
theorem d2_10 : decode prog_2_method_4_code 10 = .ok (.lmul, 1) := by decide +kernel
theorem d2_11 : decode prog_2_method_4_code 11 = .ok (.lload_n 2, 1) := by decide +kernel
theorem d2_12 : decode prog_2_method_4_code 12 = .ok (.bipush 8, 2) := by decide +kernel
theorem d2_14 : decode prog_2_method_4_code 14 = .ok (.lushr, 1) := by decide +kernel
theorem d2_15 : decode prog_2_method_4_code 15 = .ok (.ladd, 1) := by decide +kernel
theorem d2_16 : decode prog_2_method_4_code 16 = .ok (.lreturn, 1) := by decide +kernel
theorem pn2 : plainName "com/example/eigenmittel/eigenmittel/AsciiDigits" = true := by first | (simp [plainName, overriddenIn]; done) | decide +kernel
theorem pd2 : parseMethodDescriptor "(J)J" = some ⟨[.long], some .long⟩ := by decide +kernel
theorem ef2 (m : MethodId) (x0 : Int64) : entryFrame m #[(.long x0)] 4 = mkF m 0 #[.val (.long x0), .second, .unset, .unset] [] := by first | (simp [entryFrame, mkF, argsToLocals, Value.category]; done) | rfl
abbrev rx2 : Room := { frames := 0, cells := 0, slots := 0, locals := 0 }
abbrev Cx2 (Z : State) (a0 : Array Value) (p : Program) (s : State) (m : MethodId) (meth : Method) (c : Code) : Prop := p.tables.exec = Jvm.exec ∧ Z.Warmed39 s.vm ∧ (∀ d ∈ tables_1, d.before a0 Z = true) ∧ c.code = prog_2_method_4_code ∧ c.maxLocals = 4 ∧ s.vm.findClass "com/example/eigenmittel/eigenmittel/AsciiDigits" = some m.cls ∧ meth.sig.returnType = (some .long) ∧ meth.locks = false ∧ meth.name = "pairs"
def f2 (x0 : Int64) : Int64 := (((x0 - (3472328296227680304 : Int64)) * (10 : Int64)) + (((x0 - (3472328296227680304 : Int64)).toUInt64 >>> ((8 : Int32) &&& 0x3f).toInt64.toUInt64).toInt64))
set_option maxRecDepth 65536 in
set_option maxHeartbeats 40000000 in
theorem w2_0 {p : Program} {l : Launch} {e : Env} {s : State} {m : MethodId} {args : Array Value} {below : List Frame} {meth : Method} {c : Code} {T Z : State} {a0 : Array Value} {h0 : Heap} (x0 : Int64)
    (X0 : Stand p l e rx2 s m args below meth c T [] 0 0) (C : Cx2 Z a0 p s m meth c) (e0 : T.heap = h0) :
    OwnOut p e s below 0 0 (QP h0 (some (.long (f2 x0)))) (T.setTop (mkF m 0 #[.val (.long x0), .second, .unset, .unset] [])) := by
  obtain ⟨hx, hZ, hw, hby, hml, hown, hret, hlk, hnm⟩ := C
  rw [f2]
  refine OwnOut.go (fun t k => XS.lloadN X0.here hx rfl (hb hby d2_0) rfl k) ?_
  show OwnOut p e s below 0 0 _ (T.setTop (mkF m 1 #[.val (.long x0), .second, .unset, .unset] [(.long x0)]))
  refine OwnOut.go (fun t k => X0.ldc2Long hx hown (mvT hZ (hw _ (List.mem_of_getElem? (i := 17) rfl))) (g := (mkF m 1 #[.val (.long x0), .second, .unset, .unset] [(.long x0)])) rfl (hb hby d2_1) _ k) ?_
  show OwnOut p e s below 0 0 _ (T.setTop (mkF m 4 #[.val (.long x0), .second, .unset, .unset] [(.long (3472328296227680304 : Int64)), (.long x0)]))
  refine OwnOut.go (fun t k => XS.lsub X0.here hx rfl (hb hby d2_4) rfl k) ?_
  show OwnOut p e s below 0 0 _ (T.setTop (mkF m 5 #[.val (.long x0), .second, .unset, .unset] [(.long (x0 - (3472328296227680304 : Int64)))]))
  refine OwnOut.go (fun t k => XS.lstoreN X0.here hx rfl (hb hby d2_5) rfl (l' := #[.val (.long x0), .second, .val (.long (x0 - (3472328296227680304 : Int64))), .second]) rfl k) ?_
  show OwnOut p e s below 0 0 _ (T.setTop (mkF m 6 #[.val (.long x0), .second, .val (.long (x0 - (3472328296227680304 : Int64))), .second] []))
  refine OwnOut.go (fun t k => XS.lloadN X0.here hx rfl (hb hby d2_6) rfl k) ?_
  show OwnOut p e s below 0 0 _ (T.setTop (mkF m 7 #[.val (.long x0), .second, .val (.long (x0 - (3472328296227680304 : Int64))), .second] [(.long (x0 - (3472328296227680304 : Int64)))]))
  refine OwnOut.go (fun t k => X0.ldc2Long hx hown (mvT hZ (hw _ (List.mem_of_getElem? (i := 18) rfl))) (g := (mkF m 7 #[.val (.long x0), .second, .val (.long (x0 - (3472328296227680304 : Int64))), .second] [(.long (x0 - (3472328296227680304 : Int64)))])) rfl (hb hby d2_7) _ k) ?_
  show OwnOut p e s below 0 0 _ (T.setTop (mkF m 10 #[.val (.long x0), .second, .val (.long (x0 - (3472328296227680304 : Int64))), .second] [(.long (10 : Int64)), (.long (x0 - (3472328296227680304 : Int64)))]))
  refine OwnOut.go (fun t k => XS.lmul X0.here hx rfl (hb hby d2_10) rfl k) ?_
  show OwnOut p e s below 0 0 _ (T.setTop (mkF m 11 #[.val (.long x0), .second, .val (.long (x0 - (3472328296227680304 : Int64))), .second] [(.long ((x0 - (3472328296227680304 : Int64)) * (10 : Int64)))]))
  refine OwnOut.go (fun t k => XS.lloadN X0.here hx rfl (hb hby d2_11) rfl k) ?_
  show OwnOut p e s below 0 0 _ (T.setTop (mkF m 12 #[.val (.long x0), .second, .val (.long (x0 - (3472328296227680304 : Int64))), .second] [(.long (x0 - (3472328296227680304 : Int64))), (.long ((x0 - (3472328296227680304 : Int64)) * (10 : Int64)))]))
  refine OwnOut.go (fun t k => XT.bipushV X0.here hx rfl (8 : Int32) (hb hby d2_12) rfl k) ?_
  show OwnOut p e s below 0 0 _ (T.setTop (mkF m 14 #[.val (.long x0), .second, .val (.long (x0 - (3472328296227680304 : Int64))), .second] [(.int (8 : Int32)), (.long (x0 - (3472328296227680304 : Int64))), (.long ((x0 - (3472328296227680304 : Int64)) * (10 : Int64)))]))
  refine OwnOut.go (fun t k => XS.lushr X0.here hx rfl (hb hby d2_14) rfl k) ?_
  show OwnOut p e s below 0 0 _ (T.setTop (mkF m 15 #[.val (.long x0), .second, .val (.long (x0 - (3472328296227680304 : Int64))), .second] [(.long (((x0 - (3472328296227680304 : Int64)).toUInt64 >>> ((8 : Int32) &&& 0x3f).toInt64.toUInt64).toInt64)), (.long ((x0 - (3472328296227680304 : Int64)) * (10 : Int64)))]))
  refine OwnOut.go (fun t k => XS.ladd X0.here hx rfl (hb hby d2_15) rfl k) ?_
  show OwnOut p e s below 0 0 _ (T.setTop (mkF m 16 #[.val (.long x0), .second, .val (.long (x0 - (3472328296227680304 : Int64))), .second] [(.long (((x0 - (3472328296227680304 : Int64)) * (10 : Int64)) + (((x0 - (3472328296227680304 : Int64)).toUInt64 >>> ((8 : Int32) &&& 0x3f).toInt64.toUInt64).toInt64)))]))
  exact outJ X0 hx hret (hb hby d2_16) hlk (by decide) (by decide) ⟨rfl, e0, rfl⟩
set_option maxRecDepth 65536 in
set_option maxHeartbeats 40000000 in
theorem rm2 (l : Launch) (Z : State) (a0 : Array Value) (hw : ∀ d ∈ tables_1, d.before a0 Z = true) (ws : List Jvm.Cond) (x0 : Int64) (h0 : Heap) :
    MetFree l (⟨"com/example/eigenmittel/eigenmittel/AsciiDigits", "pairs", "(J)J"⟩ : MethodName) (head1 (Jvm.Cond.code (⟨"com/example/eigenmittel/eigenmittel/AsciiDigits", "pairs", "(J)J"⟩ : MethodName) prog_2_method_4_code 4 (some .long) :: ws) rx2) (fun a U => a = #[(.long x0)] ∧ Z.Warmed39 U.vm ∧ U.heap = h0) (fun _ _ _ _ _ => True) (fun _ U o U' => ∃ v L, o = .returned v ∧ QP h0 (some (.long (f2 x0))) v U'.heap L ∧ FrameEnd U o U' L rx2.cells rx2.slots) := by
  refine MetFree.of_bodySF (plainFor_of_name pn2) hisR ?_
  intro p e s m args below meth c s₁ Bd hml0 hP hK
  obtain ⟨rfl, hZ, hh⟩ := hP
  have X0 : Stand p l e rx2 s m #[(.long x0)] below meth c s₁ [] 0 0 := Stand.of_body Bd
  have e0 : s₁.heap = h0 := by rw [← hh, Bd.state]; rfl
  exact OwnOut.at (ef2 m x0) (w2_0 x0 X0 ⟨Bd.exec, hZ, hw, Bd.bytes, hml0, findClass_of_methodNamed Bd.named, Bd.returns, Bd.notSynchronized, (name_of_methodNamed Bd.named Bd.method).1⟩ e0)
-- body 1: com/example/eigenmittel/eigenmittel/AsciiDigits.number:(J)J
theorem d1_0 : decode prog_2_method_5_code 0 = .ok (.lload_n 0, 1) := by decide +kernel
theorem d1_1 : decode prog_2_method_5_code 1 = .ok (.invokestatic 27, 3) := by decide +kernel
theorem d1_4 : decode prog_2_method_5_code 4 = .ok (.ldc2_w 31, 3) := by decide +kernel
theorem d1_7 : decode prog_2_method_5_code 7 = .ok (.land, 1) := by decide +kernel
theorem d1_8 : decode prog_2_method_5_code 8 = .ok (.lstore_n 2, 1) := by decide +kernel
theorem d1_9 : decode prog_2_method_5_code 9 = .ok (.lload_n 2, 1) := by decide +kernel
theorem d1_10 : decode prog_2_method_5_code 10 = .ok (.ldc2_w 33, 3) := by decide +kernel
theorem d1_13 : decode prog_2_method_5_code 13 = .ok (.lmul, 1) := by decide +kernel
theorem d1_14 : decode prog_2_method_5_code 14 = .ok (.lload_n 2, 1) := by decide +kernel
theorem d1_15 : decode prog_2_method_5_code 15 = .ok (.bipush 16, 2) := by decide +kernel
theorem d1_17 : decode prog_2_method_5_code 17 = .ok (.lushr, 1) := by decide +kernel
theorem d1_18 : decode prog_2_method_5_code 18 = .ok (.ladd, 1) := by decide +kernel
theorem d1_19 : decode prog_2_method_5_code 19 = .ok (.ldc2_w 35, 3) := by decide +kernel
theorem d1_22 : decode prog_2_method_5_code 22 = .ok (.land, 1) := by decide +kernel
theorem d1_23 : decode prog_2_method_5_code 23 = .ok (.lstore 4, 2) := by decide +kernel
theorem d1_25 : decode prog_2_method_5_code 25 = .ok (.lload 4, 2) := by decide +kernel
theorem d1_27 : decode prog_2_method_5_code 27 = .ok (.ldc2_w 37, 3) := by decide +kernel
theorem d1_30 : decode prog_2_method_5_code 30 = .ok (.lmul, 1) := by decide +kernel
theorem d1_31 : decode prog_2_method_5_code 31 = .ok (.lload 4, 2) := by decide +kernel
theorem d1_33 : decode prog_2_method_5_code 33 = .ok (.bipush 32, 2) := by decide +kernel
theorem d1_35 : decode prog_2_method_5_code 35 = .ok (.lushr, 1) := by decide +kernel
theorem d1_36 : decode prog_2_method_5_code 36 = .ok (.ladd, 1) := by decide +kernel
theorem d1_37 : decode prog_2_method_5_code 37 = .ok (.ldc2_w 39, 3) := by decide +kernel
theorem d1_40 : decode prog_2_method_5_code 40 = .ok (.land, 1) := by decide +kernel
theorem d1_41 : decode prog_2_method_5_code 41 = .ok (.lreturn, 1) := by decide +kernel
theorem pn1 : plainName "com/example/eigenmittel/eigenmittel/AsciiDigits" = true := by first | (simp [plainName, overriddenIn]; done) | decide +kernel
theorem pd1 : parseMethodDescriptor "(J)J" = some ⟨[.long], some .long⟩ := by decide +kernel
theorem ef1 (m : MethodId) (x0 : Int64) : entryFrame m #[(.long x0)] 6 = mkF m 0 #[.val (.long x0), .second, .unset, .unset, .unset, .unset] [] := by first | (simp [entryFrame, mkF, argsToLocals, Value.category]; done) | rfl
abbrev rx1 : Room := { frames := 1, cells := 0, slots := 0, locals := 15 }
abbrev Cx1 (Z : State) (a0 : Array Value) (p : Program) (s : State) (m : MethodId) (meth : Method) (c : Code) : Prop := p.tables.exec = Jvm.exec ∧ Z.Warmed39 s.vm ∧ (∀ d ∈ tables_1, d.before a0 Z = true) ∧ c.code = prog_2_method_5_code ∧ c.maxLocals = 6 ∧ s.vm.findClass "com/example/eigenmittel/eigenmittel/AsciiDigits" = some m.cls ∧ meth.sig.returnType = (some .long) ∧ meth.locks = false ∧ meth.name = "number"
def f1_25 (x4 : Int64) : Int64 := (((x4 * (10000 : Int64)) + ((x4.toUInt64 >>> ((32 : Int32) &&& 0x3f).toInt64.toUInt64).toInt64)) &&& (4294967295 : Int64))
set_option maxRecDepth 65536 in
set_option maxHeartbeats 40000000 in
theorem w1_25 {p : Program} {l : Launch} {e : Env} {s : State} {m : MethodId} {args : Array Value} {below : List Frame} {meth : Method} {c : Code} {T Z : State} {a0 : Array Value} {h0 : Heap} (x0 : Int64) (x2 : Int64) (x4 : Int64)
    (X0 : Stand p l e rx1 s m args below meth c T [] 0 0) (C : Cx1 Z a0 p s m meth c) (e0 : T.heap = h0) :
    OwnOut p e s below 0 0 (QP h0 (some (.long (f1_25 x4)))) (T.setTop (mkF m 25 #[.val (.long x0), .second, .val (.long x2), .second, .val (.long x4), .second] [])) := by
  obtain ⟨hx, hZ, hw, hby, hml, hown, hret, hlk, hnm⟩ := C
  rw [f1_25]
  refine OwnOut.go (fun t k => XS.lload X0.here hx rfl (hb hby d1_25) rfl k) ?_
  show OwnOut p e s below 0 0 _ (T.setTop (mkF m 27 #[.val (.long x0), .second, .val (.long x2), .second, .val (.long x4), .second] [(.long x4)]))
  refine OwnOut.go (fun t k => X0.ldc2Long hx hown (mvT hZ (hw _ (List.mem_of_getElem? (i := 22) rfl))) (g := (mkF m 27 #[.val (.long x0), .second, .val (.long x2), .second, .val (.long x4), .second] [(.long x4)])) rfl (hb hby d1_27) _ k) ?_
  show OwnOut p e s below 0 0 _ (T.setTop (mkF m 30 #[.val (.long x0), .second, .val (.long x2), .second, .val (.long x4), .second] [(.long (10000 : Int64)), (.long x4)]))
  refine OwnOut.go (fun t k => XS.lmul X0.here hx rfl (hb hby d1_30) rfl k) ?_
  show OwnOut p e s below 0 0 _ (T.setTop (mkF m 31 #[.val (.long x0), .second, .val (.long x2), .second, .val (.long x4), .second] [(.long (x4 * (10000 : Int64)))]))
  refine OwnOut.go (fun t k => XS.lload X0.here hx rfl (hb hby d1_31) rfl k) ?_
  show OwnOut p e s below 0 0 _ (T.setTop (mkF m 33 #[.val (.long x0), .second, .val (.long x2), .second, .val (.long x4), .second] [(.long x4), (.long (x4 * (10000 : Int64)))]))
  refine OwnOut.go (fun t k => XT.bipushV X0.here hx rfl (32 : Int32) (hb hby d1_33) rfl k) ?_
  show OwnOut p e s below 0 0 _ (T.setTop (mkF m 35 #[.val (.long x0), .second, .val (.long x2), .second, .val (.long x4), .second] [(.int (32 : Int32)), (.long x4), (.long (x4 * (10000 : Int64)))]))
  refine OwnOut.go (fun t k => XS.lushr X0.here hx rfl (hb hby d1_35) rfl k) ?_
  show OwnOut p e s below 0 0 _ (T.setTop (mkF m 36 #[.val (.long x0), .second, .val (.long x2), .second, .val (.long x4), .second] [(.long ((x4.toUInt64 >>> ((32 : Int32) &&& 0x3f).toInt64.toUInt64).toInt64)), (.long (x4 * (10000 : Int64)))]))
  refine OwnOut.go (fun t k => XS.ladd X0.here hx rfl (hb hby d1_36) rfl k) ?_
  show OwnOut p e s below 0 0 _ (T.setTop (mkF m 37 #[.val (.long x0), .second, .val (.long x2), .second, .val (.long x4), .second] [(.long ((x4 * (10000 : Int64)) + ((x4.toUInt64 >>> ((32 : Int32) &&& 0x3f).toInt64.toUInt64).toInt64)))]))
  refine OwnOut.go (fun t k => X0.ldc2Long hx hown (mvT hZ (hw _ (List.mem_of_getElem? (i := 23) rfl))) (g := (mkF m 37 #[.val (.long x0), .second, .val (.long x2), .second, .val (.long x4), .second] [(.long ((x4 * (10000 : Int64)) + ((x4.toUInt64 >>> ((32 : Int32) &&& 0x3f).toInt64.toUInt64).toInt64)))])) rfl (hb hby d1_37) _ k) ?_
  show OwnOut p e s below 0 0 _ (T.setTop (mkF m 40 #[.val (.long x0), .second, .val (.long x2), .second, .val (.long x4), .second] [(.long (4294967295 : Int64)), (.long ((x4 * (10000 : Int64)) + ((x4.toUInt64 >>> ((32 : Int32) &&& 0x3f).toInt64.toUInt64).toInt64)))]))
  refine OwnOut.go (fun t k => XS.land X0.here hx rfl (hb hby d1_40) rfl k) ?_
  show OwnOut p e s below 0 0 _ (T.setTop (mkF m 41 #[.val (.long x0), .second, .val (.long x2), .second, .val (.long x4), .second] [(.long (((x4 * (10000 : Int64)) + ((x4.toUInt64 >>> ((32 : Int32) &&& 0x3f).toInt64.toUInt64).toInt64)) &&& (4294967295 : Int64)))]))
  exact outJ X0 hx hret (hb hby d1_41) hlk (by decide) (by decide) ⟨rfl, e0, rfl⟩
def f1 (x0 : Int64) : Int64 := (f1_25 (((((f2 x0) &&& (71777214294589695 : Int64)) * (100 : Int64)) + ((((f2 x0) &&& (71777214294589695 : Int64)).toUInt64 >>> ((16 : Int32) &&& 0x3f).toInt64.toUInt64).toInt64)) &&& (281470681808895 : Int64)))
set_option maxRecDepth 65536 in
set_option maxHeartbeats 40000000 in
theorem w1_0 {p : Program} {l : Launch} {e : Env} {s : State} {m : MethodId} {args : Array Value} {below : List Frame} {meth : Method} {c : Code} {T Z : State} {a0 : Array Value} {h0 : Heap} (x0 : Int64)
    (X0 : Stand p l e rx1 s m args below meth c T [] 0 0) (C : Cx1 Z a0 p s m meth c) (e0 : T.heap = h0) :
    OwnOut p e s below 0 0 (QP h0 (some (.long (f1 x0)))) (T.setTop (mkF m 0 #[.val (.long x0), .second, .unset, .unset, .unset, .unset] [])) := by
  obtain ⟨hx, hZ, hw, hby, hml, hown, hret, hlk, hnm⟩ := C
  rw [f1]
  refine OwnOut.go (fun t k => XS.lloadN X0.here hx rfl (hb hby d1_0) rfl k) ?_
  show OwnOut p e s below 0 0 _ (T.setTop (mkF m 1 #[.val (.long x0), .second, .unset, .unset, .unset, .unset] [(.long x0)]))
  obtain ⟨T1, X1, e1, st1⟩ := callP (W := 0) (rm := rx2) X0 hx hZ (y := (⟨"com/example/eigenmittel/eigenmittel/AsciiDigits", "pairs", "(J)J"⟩ : MethodName)) hown (hw _ (List.mem_of_getElem? (i := 14) rfl)) (hw _ (List.mem_of_getElem? (i := 15) rfl)) (hw _ (List.mem_of_getElem? (i := 12) rfl)) (hw _ (List.mem_of_getElem? (i := 16) rfl)) (by decide) (rm2 l Z a0 hw [] x0 h0) (by decide) (by decide) rfl rfl (Nat.zero_le _) (Nat.zero_le _) e0 (g := (mkF m 1 #[.val (.long x0), .second, .unset, .unset, .unset, .unset] [(.long x0)])) rfl (by rw [hml]; rfl) (argsL := [(.long x0)]) (rest := []) (lenOf pd2 rfl) rfl (by show 2 * 0 + _ ≤ _; exact Nat.le_of_eq rfl) (hb hby d1_1)
  refine OwnOut.go (fun t k => st1 _ k) ?_
  show OwnOut p e s below 0 0 _ (T1.setTop (mkF m 4 #[.val (.long x0), .second, .unset, .unset, .unset, .unset] [(.long (f2 x0))]))
  refine OwnOut.go (fun t k => X1.ldc2Long hx hown (mvT hZ (hw _ (List.mem_of_getElem? (i := 19) rfl))) (g := (mkF m 4 #[.val (.long x0), .second, .unset, .unset, .unset, .unset] [(.long (f2 x0))])) rfl (hb hby d1_4) _ k) ?_
  show OwnOut p e s below 0 0 _ (T1.setTop (mkF m 7 #[.val (.long x0), .second, .unset, .unset, .unset, .unset] [(.long (71777214294589695 : Int64)), (.long (f2 x0))]))
  refine OwnOut.go (fun t k => XS.land X1.here hx rfl (hb hby d1_7) rfl k) ?_
  show OwnOut p e s below 0 0 _ (T1.setTop (mkF m 8 #[.val (.long x0), .second, .unset, .unset, .unset, .unset] [(.long ((f2 x0) &&& (71777214294589695 : Int64)))]))
  refine OwnOut.go (fun t k => XS.lstoreN X1.here hx rfl (hb hby d1_8) rfl (l' := #[.val (.long x0), .second, .val (.long ((f2 x0) &&& (71777214294589695 : Int64))), .second, .unset, .unset]) rfl k) ?_
  show OwnOut p e s below 0 0 _ (T1.setTop (mkF m 9 #[.val (.long x0), .second, .val (.long ((f2 x0) &&& (71777214294589695 : Int64))), .second, .unset, .unset] []))
  refine OwnOut.go (fun t k => XS.lloadN X1.here hx rfl (hb hby d1_9) rfl k) ?_
  show OwnOut p e s below 0 0 _ (T1.setTop (mkF m 10 #[.val (.long x0), .second, .val (.long ((f2 x0) &&& (71777214294589695 : Int64))), .second, .unset, .unset] [(.long ((f2 x0) &&& (71777214294589695 : Int64)))]))
  refine OwnOut.go (fun t k => X1.ldc2Long hx hown (mvT hZ (hw _ (List.mem_of_getElem? (i := 20) rfl))) (g := (mkF m 10 #[.val (.long x0), .second, .val (.long ((f2 x0) &&& (71777214294589695 : Int64))), .second, .unset, .unset] [(.long ((f2 x0) &&& (71777214294589695 : Int64)))])) rfl (hb hby d1_10) _ k) ?_
  show OwnOut p e s below 0 0 _ (T1.setTop (mkF m 13 #[.val (.long x0), .second, .val (.long ((f2 x0) &&& (71777214294589695 : Int64))), .second, .unset, .unset] [(.long (100 : Int64)), (.long ((f2 x0) &&& (71777214294589695 : Int64)))]))
  refine OwnOut.go (fun t k => XS.lmul X1.here hx rfl (hb hby d1_13) rfl k) ?_
  show OwnOut p e s below 0 0 _ (T1.setTop (mkF m 14 #[.val (.long x0), .second, .val (.long ((f2 x0) &&& (71777214294589695 : Int64))), .second, .unset, .unset] [(.long (((f2 x0) &&& (71777214294589695 : Int64)) * (100 : Int64)))]))
  refine OwnOut.go (fun t k => XS.lloadN X1.here hx rfl (hb hby d1_14) rfl k) ?_
  show OwnOut p e s below 0 0 _ (T1.setTop (mkF m 15 #[.val (.long x0), .second, .val (.long ((f2 x0) &&& (71777214294589695 : Int64))), .second, .unset, .unset] [(.long ((f2 x0) &&& (71777214294589695 : Int64))), (.long (((f2 x0) &&& (71777214294589695 : Int64)) * (100 : Int64)))]))
  refine OwnOut.go (fun t k => XT.bipushV X1.here hx rfl (16 : Int32) (hb hby d1_15) rfl k) ?_
  show OwnOut p e s below 0 0 _ (T1.setTop (mkF m 17 #[.val (.long x0), .second, .val (.long ((f2 x0) &&& (71777214294589695 : Int64))), .second, .unset, .unset] [(.int (16 : Int32)), (.long ((f2 x0) &&& (71777214294589695 : Int64))), (.long (((f2 x0) &&& (71777214294589695 : Int64)) * (100 : Int64)))]))
  refine OwnOut.go (fun t k => XS.lushr X1.here hx rfl (hb hby d1_17) rfl k) ?_
  show OwnOut p e s below 0 0 _ (T1.setTop (mkF m 18 #[.val (.long x0), .second, .val (.long ((f2 x0) &&& (71777214294589695 : Int64))), .second, .unset, .unset] [(.long ((((f2 x0) &&& (71777214294589695 : Int64)).toUInt64 >>> ((16 : Int32) &&& 0x3f).toInt64.toUInt64).toInt64)), (.long (((f2 x0) &&& (71777214294589695 : Int64)) * (100 : Int64)))]))
  refine OwnOut.go (fun t k => XS.ladd X1.here hx rfl (hb hby d1_18) rfl k) ?_
  show OwnOut p e s below 0 0 _ (T1.setTop (mkF m 19 #[.val (.long x0), .second, .val (.long ((f2 x0) &&& (71777214294589695 : Int64))), .second, .unset, .unset] [(.long ((((f2 x0) &&& (71777214294589695 : Int64)) * (100 : Int64)) + ((((f2 x0) &&& (71777214294589695 : Int64)).toUInt64 >>> ((16 : Int32) &&& 0x3f).toInt64.toUInt64).toInt64)))]))
  refine OwnOut.go (fun t k => X1.ldc2Long hx hown (mvT hZ (hw _ (List.mem_of_getElem? (i := 21) rfl))) (g := (mkF m 19 #[.val (.long x0), .second, .val (.long ((f2 x0) &&& (71777214294589695 : Int64))), .second, .unset, .unset] [(.long ((((f2 x0) &&& (71777214294589695 : Int64)) * (100 : Int64)) + ((((f2 x0) &&& (71777214294589695 : Int64)).toUInt64 >>> ((16 : Int32) &&& 0x3f).toInt64.toUInt64).toInt64)))])) rfl (hb hby d1_19) _ k) ?_
  show OwnOut p e s below 0 0 _ (T1.setTop (mkF m 22 #[.val (.long x0), .second, .val (.long ((f2 x0) &&& (71777214294589695 : Int64))), .second, .unset, .unset] [(.long (281470681808895 : Int64)), (.long ((((f2 x0) &&& (71777214294589695 : Int64)) * (100 : Int64)) + ((((f2 x0) &&& (71777214294589695 : Int64)).toUInt64 >>> ((16 : Int32) &&& 0x3f).toInt64.toUInt64).toInt64)))]))
  refine OwnOut.go (fun t k => XS.land X1.here hx rfl (hb hby d1_22) rfl k) ?_
  show OwnOut p e s below 0 0 _ (T1.setTop (mkF m 23 #[.val (.long x0), .second, .val (.long ((f2 x0) &&& (71777214294589695 : Int64))), .second, .unset, .unset] [(.long (((((f2 x0) &&& (71777214294589695 : Int64)) * (100 : Int64)) + ((((f2 x0) &&& (71777214294589695 : Int64)).toUInt64 >>> ((16 : Int32) &&& 0x3f).toInt64.toUInt64).toInt64)) &&& (281470681808895 : Int64)))]))
  refine OwnOut.go (fun t k => XS.lstore X1.here hx rfl (hb hby d1_23) rfl (l' := #[.val (.long x0), .second, .val (.long ((f2 x0) &&& (71777214294589695 : Int64))), .second, .val (.long (((((f2 x0) &&& (71777214294589695 : Int64)) * (100 : Int64)) + ((((f2 x0) &&& (71777214294589695 : Int64)).toUInt64 >>> ((16 : Int32) &&& 0x3f).toInt64.toUInt64).toInt64)) &&& (281470681808895 : Int64))), .second]) rfl k) ?_
  show OwnOut p e s below 0 0 _ (T1.setTop (mkF m 25 #[.val (.long x0), .second, .val (.long ((f2 x0) &&& (71777214294589695 : Int64))), .second, .val (.long (((((f2 x0) &&& (71777214294589695 : Int64)) * (100 : Int64)) + ((((f2 x0) &&& (71777214294589695 : Int64)).toUInt64 >>> ((16 : Int32) &&& 0x3f).toInt64.toUInt64).toInt64)) &&& (281470681808895 : Int64))), .second] []))
  exact w1_25 x0 ((f2 x0) &&& (71777214294589695 : Int64)) (((((f2 x0) &&& (71777214294589695 : Int64)) * (100 : Int64)) + ((((f2 x0) &&& (71777214294589695 : Int64)).toUInt64 >>> ((16 : Int32) &&& 0x3f).toInt64.toUInt64).toInt64)) &&& (281470681808895 : Int64)) X1 ⟨hx, hZ, hw, hby, hml, hown, hret, hlk, hnm⟩ e1
set_option maxRecDepth 65536 in
set_option maxHeartbeats 40000000 in
theorem rm1 (l : Launch) (Z : State) (a0 : Array Value) (hw : ∀ d ∈ tables_1, d.before a0 Z = true) (ws : List Jvm.Cond) (x0 : Int64) (h0 : Heap) :
    MetFree l (⟨"com/example/eigenmittel/eigenmittel/AsciiDigits", "number", "(J)J"⟩ : MethodName) (head1 (Jvm.Cond.code (⟨"com/example/eigenmittel/eigenmittel/AsciiDigits", "number", "(J)J"⟩ : MethodName) prog_2_method_5_code 6 (some .long) :: ws) rx1) (fun a U => a = #[(.long x0)] ∧ Z.Warmed39 U.vm ∧ U.heap = h0) (fun _ _ _ _ _ => True) (fun _ U o U' => ∃ v L, o = .returned v ∧ QP h0 (some (.long (f1 x0))) v U'.heap L ∧ FrameEnd U o U' L rx1.cells rx1.slots) := by
  refine MetFree.of_bodySF (plainFor_of_name pn1) hisR ?_
  intro p e s m args below meth c s₁ Bd hml0 hP hK
  obtain ⟨rfl, hZ, hh⟩ := hP
  have X0 : Stand p l e rx1 s m #[(.long x0)] below meth c s₁ [] 0 0 := Stand.of_body Bd
  have e0 : s₁.heap = h0 := by rw [← hh, Bd.state]; rfl
  exact OwnOut.at (ef1 m x0) (w1_0 x0 X0 ⟨Bd.exec, hZ, hw, Bd.bytes, hml0, findClass_of_methodNamed Bd.named, Bd.returns, Bd.notSynchronized, (name_of_methodNamed Bd.named Bd.method).1⟩ e0)
-- body 0: com/example/eigenmittel/eigenmittel/AsciiDigitsNumberPinLaw.law:(J)Z
theorem pn0 : plainName "com/example/eigenmittel/eigenmittel/AsciiDigitsNumberPinLaw" = true := by first | (simp [plainName, overriddenIn]; done) | decide +kernel
theorem pd0 : parseMethodDescriptor "(J)Z" = some ⟨[.long], some .boolean⟩ := by decide +kernel
theorem ef0 (m : MethodId) (x0 : Int64) : entryFrame m #[(.long x0)] maxLocals = mkF m 0 #[.val (.long x0), .second, .unset, .unset, .unset, .unset, .unset, .unset, .unset, .unset, .unset, .unset, .unset, .unset, .unset, .unset, .unset, .unset, .unset, .unset, .unset, .unset] [] := by first | (simp [entryFrame, mkF, argsToLocals, Value.category, maxLocals]; done) | rfl
abbrev Cx0 (Z : State) (a0 : Array Value) (p : Program) (s : State) (m : MethodId) (meth : Method) (c : Code) : Prop := p.tables.exec = Jvm.exec ∧ Z.Warmed39 s.vm ∧ (∀ d ∈ tables_1, d.before a0 Z = true) ∧ c.code = code ∧ c.maxLocals = 22 ∧ s.vm.findClass "com/example/eigenmittel/eigenmittel/AsciiDigitsNumberPinLaw" = some m.cls ∧ meth.sig.returnType = (some .boolean) ∧ meth.locks = false ∧ meth.name = "law"
def f0_172 (x2 : Int64) (x20 : Int64) : Int32 := (if (f1 x20) = x2 then (1 : Int32) else (0 : Int32))
set_option maxRecDepth 65536 in
set_option maxHeartbeats 40000000 in
theorem w0_172 {p : Program} {l : Launch} {e : Env} {s : State} {m : MethodId} {args : Array Value} {below : List Frame} {meth : Method} {c : Code} {T Z : State} {a0 : Array Value} {h0 : Heap} (x0 : Int64) (x2 : Int64) (x4 : Int64) (x6 : Int64) (x8 : Int64) (x10 : Int64) (x12 : Int64) (x14 : Int64) (x16 : Int64) (x18 : Int64) (x20 : Int64)
    (X0 : Stand p l e room_1 s m args below meth c T [] 0 0) (C : Cx0 Z a0 p s m meth c) (e0 : T.heap = h0) :
    OwnOut p e s below 0 0 (QP h0 (some (.int (f0_172 x2 x20)))) (T.setTop (mkF m 172 #[.val (.long x0), .second, .val (.long x2), .second, .val (.long x4), .second, .val (.long x6), .second, .val (.long x8), .second, .val (.long x10), .second, .val (.long x12), .second, .val (.long x14), .second, .val (.long x16), .second, .val (.long x18), .second, .val (.long x20), .second] [])) := by
  obtain ⟨hx, hZ, hw, hby, hml, hown, hret, hlk, hnm⟩ := C
  rw [f0_172]
  refine OwnOut.go (fun t k => XS.lload X0.here hx rfl (hb hby at_172) rfl k) ?_
  show OwnOut p e s below 0 0 _ (T.setTop (mkF m 174 #[.val (.long x0), .second, .val (.long x2), .second, .val (.long x4), .second, .val (.long x6), .second, .val (.long x8), .second, .val (.long x10), .second, .val (.long x12), .second, .val (.long x14), .second, .val (.long x16), .second, .val (.long x18), .second, .val (.long x20), .second] [(.long x20)]))
  obtain ⟨T1, X1, e1, st1⟩ := callP (W := 0) (rm := rx1) X0 hx hZ (y := (⟨"com/example/eigenmittel/eigenmittel/AsciiDigits", "number", "(J)J"⟩ : MethodName)) hown (hw _ (List.mem_of_getElem? (i := 10) rfl)) (hw _ (List.mem_of_getElem? (i := 11) rfl)) (hw _ (List.mem_of_getElem? (i := 12) rfl)) (hw _ (List.mem_of_getElem? (i := 13) rfl)) (by decide) (rm1 l Z a0 hw [] x20 h0) (by decide) (by decide) rfl rfl (Nat.zero_le _) (Nat.zero_le _) e0 (g := (mkF m 174 #[.val (.long x0), .second, .val (.long x2), .second, .val (.long x4), .second, .val (.long x6), .second, .val (.long x8), .second, .val (.long x10), .second, .val (.long x12), .second, .val (.long x14), .second, .val (.long x16), .second, .val (.long x18), .second, .val (.long x20), .second] [(.long x20)])) rfl (by rw [hml]; rfl) (argsL := [(.long x20)]) (rest := []) (lenOf pd1 rfl) rfl (by show 2 * 0 + _ ≤ _; exact Nat.le_of_eq rfl) (hb hby at_174)
  refine OwnOut.go (fun t k => st1 _ k) ?_
  show OwnOut p e s below 0 0 _ (T1.setTop (mkF m 177 #[.val (.long x0), .second, .val (.long x2), .second, .val (.long x4), .second, .val (.long x6), .second, .val (.long x8), .second, .val (.long x10), .second, .val (.long x12), .second, .val (.long x14), .second, .val (.long x16), .second, .val (.long x18), .second, .val (.long x20), .second] [(.long (f1 x20))]))
  refine OwnOut.go (fun t k => XS.lloadN X1.here hx rfl (hb hby at_177) rfl k) ?_
  show OwnOut p e s below 0 0 _ (T1.setTop (mkF m 178 #[.val (.long x0), .second, .val (.long x2), .second, .val (.long x4), .second, .val (.long x6), .second, .val (.long x8), .second, .val (.long x10), .second, .val (.long x12), .second, .val (.long x14), .second, .val (.long x16), .second, .val (.long x18), .second, .val (.long x20), .second] [(.long x2), (.long (f1 x20))]))
  refine OwnOut.go (fun t k => XS.lcmp X1.here hx rfl (hb hby at_178) rfl k) ?_
  show OwnOut p e s below 0 0 _ (T1.setTop (mkF m 179 #[.val (.long x0), .second, .val (.long x2), .second, .val (.long x4), .second, .val (.long x6), .second, .val (.long x8), .second, .val (.long x10), .second, .val (.long x12), .second, .val (.long x14), .second, .val (.long x16), .second, .val (.long x18), .second, .val (.long x20), .second] [(.int (XT.cmpL (f1 x20) x2))]))
  by_cases hc179 : (f1 x20) = x2
  · rw [if_pos hc179]
    refine OwnOut.go (fun t k => XS.ifNo X1.here hx rfl (hb hby at_179) rfl (XT.ll_ne_f hc179) k) ?_
    show OwnOut p e s below 0 0 _ (T1.setTop (mkF m 182 #[.val (.long x0), .second, .val (.long x2), .second, .val (.long x4), .second, .val (.long x6), .second, .val (.long x8), .second, .val (.long x10), .second, .val (.long x12), .second, .val (.long x14), .second, .val (.long x16), .second, .val (.long x18), .second, .val (.long x20), .second] []))
    refine OwnOut.go (fun t k => XT.iconstV X1.here hx rfl (1 : Int32) (hb hby at_182) rfl k) ?_
    show OwnOut p e s below 0 0 _ (T1.setTop (mkF m 183 #[.val (.long x0), .second, .val (.long x2), .second, .val (.long x4), .second, .val (.long x6), .second, .val (.long x8), .second, .val (.long x10), .second, .val (.long x12), .second, .val (.long x14), .second, .val (.long x16), .second, .val (.long x18), .second, .val (.long x20), .second] [(.int (1 : Int32))]))
    refine OwnOut.go (fun t k => XS.goto X1.here hx rfl (pc0 := 183) (pc' := 187) rfl (hb hby at_183) (by decide) (by decide) k) ?_
    show OwnOut p e s below 0 0 _ (T1.setTop (mkF m 187 #[.val (.long x0), .second, .val (.long x2), .second, .val (.long x4), .second, .val (.long x6), .second, .val (.long x8), .second, .val (.long x10), .second, .val (.long x12), .second, .val (.long x14), .second, .val (.long x16), .second, .val (.long x18), .second, .val (.long x20), .second] [(.int (1 : Int32))]))
    exact outZ X1 hx hret (hb hby at_187) hlk (by decide) (by decide) ⟨rfl, e1, rfl⟩
  · rw [if_neg hc179]
    refine OwnOut.go (fun t k => XS.ifYes X1.here hx rfl (pc0 := 179) (pc' := 186) rfl (hb hby at_179) rfl (XT.ll_ne_t hc179) (by decide) (by decide) k) ?_
    show OwnOut p e s below 0 0 _ (T1.setTop (mkF m 186 #[.val (.long x0), .second, .val (.long x2), .second, .val (.long x4), .second, .val (.long x6), .second, .val (.long x8), .second, .val (.long x10), .second, .val (.long x12), .second, .val (.long x14), .second, .val (.long x16), .second, .val (.long x18), .second, .val (.long x20), .second] []))
    refine OwnOut.go (fun t k => XT.iconstV X1.here hx rfl (0 : Int32) (hb hby at_186) rfl k) ?_
    show OwnOut p e s below 0 0 _ (T1.setTop (mkF m 187 #[.val (.long x0), .second, .val (.long x2), .second, .val (.long x4), .second, .val (.long x6), .second, .val (.long x8), .second, .val (.long x10), .second, .val (.long x12), .second, .val (.long x14), .second, .val (.long x16), .second, .val (.long x18), .second, .val (.long x20), .second] [(.int (0 : Int32))]))
    exact outZ X1 hx hret (hb hby at_187) hlk (by decide) (by decide) ⟨rfl, e1, rfl⟩
def f0_10 (x2 : Int64) : Int32 := (f0_172 x2 (((((((((48 : Int64) + ((x2 / (10000000 : Int64)) % (10 : Int64))) ||| (((48 : Int64) + ((x2 / (1000000 : Int64)) % (10 : Int64))) <<< ((8 : Int32) &&& 0x3f).toInt64)) ||| (((48 : Int64) + ((x2 / (100000 : Int64)) % (10 : Int64))) <<< ((16 : Int32) &&& 0x3f).toInt64)) ||| (((48 : Int64) + ((x2 / (10000 : Int64)) % (10 : Int64))) <<< ((24 : Int32) &&& 0x3f).toInt64)) ||| (((48 : Int64) + ((x2 / (1000 : Int64)) % (10 : Int64))) <<< ((32 : Int32) &&& 0x3f).toInt64)) ||| (((48 : Int64) + ((x2 / (100 : Int64)) % (10 : Int64))) <<< ((40 : Int32) &&& 0x3f).toInt64)) ||| (((48 : Int64) + ((x2 / (10 : Int64)) % (10 : Int64))) <<< ((48 : Int32) &&& 0x3f).toInt64)) ||| (((48 : Int64) + (x2 % (10 : Int64))) <<< ((56 : Int32) &&& 0x3f).toInt64)))
set_option maxRecDepth 65536 in
set_option maxHeartbeats 40000000 in
theorem w0_10 {p : Program} {l : Launch} {e : Env} {s : State} {m : MethodId} {args : Array Value} {below : List Frame} {meth : Method} {c : Code} {T Z : State} {a0 : Array Value} {h0 : Heap} (x0 : Int64) (x2 : Int64)
    (X0 : Stand p l e room_1 s m args below meth c T [] 0 0) (C : Cx0 Z a0 p s m meth c) (e0 : T.heap = h0) :
    OwnOut p e s below 0 0 (QP h0 (some (.int (f0_10 x2)))) (T.setTop (mkF m 10 #[.val (.long x0), .second, .val (.long x2), .second, .unset, .unset, .unset, .unset, .unset, .unset, .unset, .unset, .unset, .unset, .unset, .unset, .unset, .unset, .unset, .unset, .unset, .unset] [])) := by
  obtain ⟨hx, hZ, hw, hby, hml, hown, hret, hlk, hnm⟩ := C
  rw [f0_10]
  refine OwnOut.go (fun t k => XS.lloadN X0.here hx rfl (hb hby at_10) rfl k) ?_
  show OwnOut p e s below 0 0 _ (T.setTop (mkF m 11 #[.val (.long x0), .second, .val (.long x2), .second, .unset, .unset, .unset, .unset, .unset, .unset, .unset, .unset, .unset, .unset, .unset, .unset, .unset, .unset, .unset, .unset, .unset, .unset] [(.long x2)]))
  refine OwnOut.go (fun t k => X0.ldc2Long hx hown (mvT hZ (hw _ (List.mem_of_getElem? (i := 2) rfl))) (g := (mkF m 11 #[.val (.long x0), .second, .val (.long x2), .second, .unset, .unset, .unset, .unset, .unset, .unset, .unset, .unset, .unset, .unset, .unset, .unset, .unset, .unset, .unset, .unset, .unset, .unset] [(.long x2)])) rfl (hb hby at_11) _ k) ?_
  show OwnOut p e s below 0 0 _ (T.setTop (mkF m 14 #[.val (.long x0), .second, .val (.long x2), .second, .unset, .unset, .unset, .unset, .unset, .unset, .unset, .unset, .unset, .unset, .unset, .unset, .unset, .unset, .unset, .unset, .unset, .unset] [(.long (10000000 : Int64)), (.long x2)]))
  refine OwnOut.go (fun t k => XS.ldiv X0.here hx rfl (hb hby at_14) rfl (by decide) k) ?_
  show OwnOut p e s below 0 0 _ (T.setTop (mkF m 15 #[.val (.long x0), .second, .val (.long x2), .second, .unset, .unset, .unset, .unset, .unset, .unset, .unset, .unset, .unset, .unset, .unset, .unset, .unset, .unset, .unset, .unset, .unset, .unset] [(.long (x2 / (10000000 : Int64)))]))
  refine OwnOut.go (fun t k => X0.ldc2Long hx hown (mvT hZ (hw _ (List.mem_of_getElem? (i := 3) rfl))) (g := (mkF m 15 #[.val (.long x0), .second, .val (.long x2), .second, .unset, .unset, .unset, .unset, .unset, .unset, .unset, .unset, .unset, .unset, .unset, .unset, .unset, .unset, .unset, .unset, .unset, .unset] [(.long (x2 / (10000000 : Int64)))])) rfl (hb hby at_15) _ k) ?_
  show OwnOut p e s below 0 0 _ (T.setTop (mkF m 18 #[.val (.long x0), .second, .val (.long x2), .second, .unset, .unset, .unset, .unset, .unset, .unset, .unset, .unset, .unset, .unset, .unset, .unset, .unset, .unset, .unset, .unset, .unset, .unset] [(.long (10 : Int64)), (.long (x2 / (10000000 : Int64)))]))
  refine OwnOut.go (fun t k => lremM X0 hx rfl (hb hby at_18) rfl (by decide) k) ?_
  show OwnOut p e s below 0 0 _ (T.setTop (mkF m 19 #[.val (.long x0), .second, .val (.long x2), .second, .unset, .unset, .unset, .unset, .unset, .unset, .unset, .unset, .unset, .unset, .unset, .unset, .unset, .unset, .unset, .unset, .unset, .unset] [(.long ((x2 / (10000000 : Int64)) % (10 : Int64)))]))
  refine OwnOut.go (fun t k => XS.lstore X0.here hx rfl (hb hby at_19) rfl (l' := #[.val (.long x0), .second, .val (.long x2), .second, .val (.long ((x2 / (10000000 : Int64)) % (10 : Int64))), .second, .unset, .unset, .unset, .unset, .unset, .unset, .unset, .unset, .unset, .unset, .unset, .unset, .unset, .unset, .unset, .unset]) rfl k) ?_
  show OwnOut p e s below 0 0 _ (T.setTop (mkF m 21 #[.val (.long x0), .second, .val (.long x2), .second, .val (.long ((x2 / (10000000 : Int64)) % (10 : Int64))), .second, .unset, .unset, .unset, .unset, .unset, .unset, .unset, .unset, .unset, .unset, .unset, .unset, .unset, .unset, .unset, .unset] []))
  refine OwnOut.go (fun t k => XS.lloadN X0.here hx rfl (hb hby at_21) rfl k) ?_
  show OwnOut p e s below 0 0 _ (T.setTop (mkF m 22 #[.val (.long x0), .second, .val (.long x2), .second, .val (.long ((x2 / (10000000 : Int64)) % (10 : Int64))), .second, .unset, .unset, .unset, .unset, .unset, .unset, .unset, .unset, .unset, .unset, .unset, .unset, .unset, .unset, .unset, .unset] [(.long x2)]))
  refine OwnOut.go (fun t k => X0.ldc2Long hx hown (mvT hZ (hw _ (List.mem_of_getElem? (i := 4) rfl))) (g := (mkF m 22 #[.val (.long x0), .second, .val (.long x2), .second, .val (.long ((x2 / (10000000 : Int64)) % (10 : Int64))), .second, .unset, .unset, .unset, .unset, .unset, .unset, .unset, .unset, .unset, .unset, .unset, .unset, .unset, .unset, .unset, .unset] [(.long x2)])) rfl (hb hby at_22) _ k) ?_
  show OwnOut p e s below 0 0 _ (T.setTop (mkF m 25 #[.val (.long x0), .second, .val (.long x2), .second, .val (.long ((x2 / (10000000 : Int64)) % (10 : Int64))), .second, .unset, .unset, .unset, .unset, .unset, .unset, .unset, .unset, .unset, .unset, .unset, .unset, .unset, .unset, .unset, .unset] [(.long (1000000 : Int64)), (.long x2)]))
  refine OwnOut.go (fun t k => XS.ldiv X0.here hx rfl (hb hby at_25) rfl (by decide) k) ?_
  show OwnOut p e s below 0 0 _ (T.setTop (mkF m 26 #[.val (.long x0), .second, .val (.long x2), .second, .val (.long ((x2 / (10000000 : Int64)) % (10 : Int64))), .second, .unset, .unset, .unset, .unset, .unset, .unset, .unset, .unset, .unset, .unset, .unset, .unset, .unset, .unset, .unset, .unset] [(.long (x2 / (1000000 : Int64)))]))
  refine OwnOut.go (fun t k => X0.ldc2Long hx hown (mvT hZ (hw _ (List.mem_of_getElem? (i := 3) rfl))) (g := (mkF m 26 #[.val (.long x0), .second, .val (.long x2), .second, .val (.long ((x2 / (10000000 : Int64)) % (10 : Int64))), .second, .unset, .unset, .unset, .unset, .unset, .unset, .unset, .unset, .unset, .unset, .unset, .unset, .unset, .unset, .unset, .unset] [(.long (x2 / (1000000 : Int64)))])) rfl (hb hby at_26) _ k) ?_
  show OwnOut p e s below 0 0 _ (T.setTop (mkF m 29 #[.val (.long x0), .second, .val (.long x2), .second, .val (.long ((x2 / (10000000 : Int64)) % (10 : Int64))), .second, .unset, .unset, .unset, .unset, .unset, .unset, .unset, .unset, .unset, .unset, .unset, .unset, .unset, .unset, .unset, .unset] [(.long (10 : Int64)), (.long (x2 / (1000000 : Int64)))]))
  refine OwnOut.go (fun t k => lremM X0 hx rfl (hb hby at_29) rfl (by decide) k) ?_
  show OwnOut p e s below 0 0 _ (T.setTop (mkF m 30 #[.val (.long x0), .second, .val (.long x2), .second, .val (.long ((x2 / (10000000 : Int64)) % (10 : Int64))), .second, .unset, .unset, .unset, .unset, .unset, .unset, .unset, .unset, .unset, .unset, .unset, .unset, .unset, .unset, .unset, .unset] [(.long ((x2 / (1000000 : Int64)) % (10 : Int64)))]))
  refine OwnOut.go (fun t k => XS.lstore X0.here hx rfl (hb hby at_30) rfl (l' := #[.val (.long x0), .second, .val (.long x2), .second, .val (.long ((x2 / (10000000 : Int64)) % (10 : Int64))), .second, .val (.long ((x2 / (1000000 : Int64)) % (10 : Int64))), .second, .unset, .unset, .unset, .unset, .unset, .unset, .unset, .unset, .unset, .unset, .unset, .unset, .unset, .unset]) rfl k) ?_
  show OwnOut p e s below 0 0 _ (T.setTop (mkF m 32 #[.val (.long x0), .second, .val (.long x2), .second, .val (.long ((x2 / (10000000 : Int64)) % (10 : Int64))), .second, .val (.long ((x2 / (1000000 : Int64)) % (10 : Int64))), .second, .unset, .unset, .unset, .unset, .unset, .unset, .unset, .unset, .unset, .unset, .unset, .unset, .unset, .unset] []))
  refine OwnOut.go (fun t k => XS.lloadN X0.here hx rfl (hb hby at_32) rfl k) ?_
  show OwnOut p e s below 0 0 _ (T.setTop (mkF m 33 #[.val (.long x0), .second, .val (.long x2), .second, .val (.long ((x2 / (10000000 : Int64)) % (10 : Int64))), .second, .val (.long ((x2 / (1000000 : Int64)) % (10 : Int64))), .second, .unset, .unset, .unset, .unset, .unset, .unset, .unset, .unset, .unset, .unset, .unset, .unset, .unset, .unset] [(.long x2)]))
  refine OwnOut.go (fun t k => X0.ldc2Long hx hown (mvT hZ (hw _ (List.mem_of_getElem? (i := 5) rfl))) (g := (mkF m 33 #[.val (.long x0), .second, .val (.long x2), .second, .val (.long ((x2 / (10000000 : Int64)) % (10 : Int64))), .second, .val (.long ((x2 / (1000000 : Int64)) % (10 : Int64))), .second, .unset, .unset, .unset, .unset, .unset, .unset, .unset, .unset, .unset, .unset, .unset, .unset, .unset, .unset] [(.long x2)])) rfl (hb hby at_33) _ k) ?_
  show OwnOut p e s below 0 0 _ (T.setTop (mkF m 36 #[.val (.long x0), .second, .val (.long x2), .second, .val (.long ((x2 / (10000000 : Int64)) % (10 : Int64))), .second, .val (.long ((x2 / (1000000 : Int64)) % (10 : Int64))), .second, .unset, .unset, .unset, .unset, .unset, .unset, .unset, .unset, .unset, .unset, .unset, .unset, .unset, .unset] [(.long (100000 : Int64)), (.long x2)]))
  refine OwnOut.go (fun t k => XS.ldiv X0.here hx rfl (hb hby at_36) rfl (by decide) k) ?_
  show OwnOut p e s below 0 0 _ (T.setTop (mkF m 37 #[.val (.long x0), .second, .val (.long x2), .second, .val (.long ((x2 / (10000000 : Int64)) % (10 : Int64))), .second, .val (.long ((x2 / (1000000 : Int64)) % (10 : Int64))), .second, .unset, .unset, .unset, .unset, .unset, .unset, .unset, .unset, .unset, .unset, .unset, .unset, .unset, .unset] [(.long (x2 / (100000 : Int64)))]))
  refine OwnOut.go (fun t k => X0.ldc2Long hx hown (mvT hZ (hw _ (List.mem_of_getElem? (i := 3) rfl))) (g := (mkF m 37 #[.val (.long x0), .second, .val (.long x2), .second, .val (.long ((x2 / (10000000 : Int64)) % (10 : Int64))), .second, .val (.long ((x2 / (1000000 : Int64)) % (10 : Int64))), .second, .unset, .unset, .unset, .unset, .unset, .unset, .unset, .unset, .unset, .unset, .unset, .unset, .unset, .unset] [(.long (x2 / (100000 : Int64)))])) rfl (hb hby at_37) _ k) ?_
  show OwnOut p e s below 0 0 _ (T.setTop (mkF m 40 #[.val (.long x0), .second, .val (.long x2), .second, .val (.long ((x2 / (10000000 : Int64)) % (10 : Int64))), .second, .val (.long ((x2 / (1000000 : Int64)) % (10 : Int64))), .second, .unset, .unset, .unset, .unset, .unset, .unset, .unset, .unset, .unset, .unset, .unset, .unset, .unset, .unset] [(.long (10 : Int64)), (.long (x2 / (100000 : Int64)))]))
  refine OwnOut.go (fun t k => lremM X0 hx rfl (hb hby at_40) rfl (by decide) k) ?_
  show OwnOut p e s below 0 0 _ (T.setTop (mkF m 41 #[.val (.long x0), .second, .val (.long x2), .second, .val (.long ((x2 / (10000000 : Int64)) % (10 : Int64))), .second, .val (.long ((x2 / (1000000 : Int64)) % (10 : Int64))), .second, .unset, .unset, .unset, .unset, .unset, .unset, .unset, .unset, .unset, .unset, .unset, .unset, .unset, .unset] [(.long ((x2 / (100000 : Int64)) % (10 : Int64)))]))
  refine OwnOut.go (fun t k => XS.lstore X0.here hx rfl (hb hby at_41) rfl (l' := #[.val (.long x0), .second, .val (.long x2), .second, .val (.long ((x2 / (10000000 : Int64)) % (10 : Int64))), .second, .val (.long ((x2 / (1000000 : Int64)) % (10 : Int64))), .second, .val (.long ((x2 / (100000 : Int64)) % (10 : Int64))), .second, .unset, .unset, .unset, .unset, .unset, .unset, .unset, .unset, .unset, .unset, .unset, .unset]) rfl k) ?_
  show OwnOut p e s below 0 0 _ (T.setTop (mkF m 43 #[.val (.long x0), .second, .val (.long x2), .second, .val (.long ((x2 / (10000000 : Int64)) % (10 : Int64))), .second, .val (.long ((x2 / (1000000 : Int64)) % (10 : Int64))), .second, .val (.long ((x2 / (100000 : Int64)) % (10 : Int64))), .second, .unset, .unset, .unset, .unset, .unset, .unset, .unset, .unset, .unset, .unset, .unset, .unset] []))
  refine OwnOut.go (fun t k => XS.lloadN X0.here hx rfl (hb hby at_43) rfl k) ?_
  show OwnOut p e s below 0 0 _ (T.setTop (mkF m 44 #[.val (.long x0), .second, .val (.long x2), .second, .val (.long ((x2 / (10000000 : Int64)) % (10 : Int64))), .second, .val (.long ((x2 / (1000000 : Int64)) % (10 : Int64))), .second, .val (.long ((x2 / (100000 : Int64)) % (10 : Int64))), .second, .unset, .unset, .unset, .unset, .unset, .unset, .unset, .unset, .unset, .unset, .unset, .unset] [(.long x2)]))
  refine OwnOut.go (fun t k => X0.ldc2Long hx hown (mvT hZ (hw _ (List.mem_of_getElem? (i := 6) rfl))) (g := (mkF m 44 #[.val (.long x0), .second, .val (.long x2), .second, .val (.long ((x2 / (10000000 : Int64)) % (10 : Int64))), .second, .val (.long ((x2 / (1000000 : Int64)) % (10 : Int64))), .second, .val (.long ((x2 / (100000 : Int64)) % (10 : Int64))), .second, .unset, .unset, .unset, .unset, .unset, .unset, .unset, .unset, .unset, .unset, .unset, .unset] [(.long x2)])) rfl (hb hby at_44) _ k) ?_
  show OwnOut p e s below 0 0 _ (T.setTop (mkF m 47 #[.val (.long x0), .second, .val (.long x2), .second, .val (.long ((x2 / (10000000 : Int64)) % (10 : Int64))), .second, .val (.long ((x2 / (1000000 : Int64)) % (10 : Int64))), .second, .val (.long ((x2 / (100000 : Int64)) % (10 : Int64))), .second, .unset, .unset, .unset, .unset, .unset, .unset, .unset, .unset, .unset, .unset, .unset, .unset] [(.long (10000 : Int64)), (.long x2)]))
  refine OwnOut.go (fun t k => XS.ldiv X0.here hx rfl (hb hby at_47) rfl (by decide) k) ?_
  show OwnOut p e s below 0 0 _ (T.setTop (mkF m 48 #[.val (.long x0), .second, .val (.long x2), .second, .val (.long ((x2 / (10000000 : Int64)) % (10 : Int64))), .second, .val (.long ((x2 / (1000000 : Int64)) % (10 : Int64))), .second, .val (.long ((x2 / (100000 : Int64)) % (10 : Int64))), .second, .unset, .unset, .unset, .unset, .unset, .unset, .unset, .unset, .unset, .unset, .unset, .unset] [(.long (x2 / (10000 : Int64)))]))
  refine OwnOut.go (fun t k => X0.ldc2Long hx hown (mvT hZ (hw _ (List.mem_of_getElem? (i := 3) rfl))) (g := (mkF m 48 #[.val (.long x0), .second, .val (.long x2), .second, .val (.long ((x2 / (10000000 : Int64)) % (10 : Int64))), .second, .val (.long ((x2 / (1000000 : Int64)) % (10 : Int64))), .second, .val (.long ((x2 / (100000 : Int64)) % (10 : Int64))), .second, .unset, .unset, .unset, .unset, .unset, .unset, .unset, .unset, .unset, .unset, .unset, .unset] [(.long (x2 / (10000 : Int64)))])) rfl (hb hby at_48) _ k) ?_
  show OwnOut p e s below 0 0 _ (T.setTop (mkF m 51 #[.val (.long x0), .second, .val (.long x2), .second, .val (.long ((x2 / (10000000 : Int64)) % (10 : Int64))), .second, .val (.long ((x2 / (1000000 : Int64)) % (10 : Int64))), .second, .val (.long ((x2 / (100000 : Int64)) % (10 : Int64))), .second, .unset, .unset, .unset, .unset, .unset, .unset, .unset, .unset, .unset, .unset, .unset, .unset] [(.long (10 : Int64)), (.long (x2 / (10000 : Int64)))]))
  refine OwnOut.go (fun t k => lremM X0 hx rfl (hb hby at_51) rfl (by decide) k) ?_
  show OwnOut p e s below 0 0 _ (T.setTop (mkF m 52 #[.val (.long x0), .second, .val (.long x2), .second, .val (.long ((x2 / (10000000 : Int64)) % (10 : Int64))), .second, .val (.long ((x2 / (1000000 : Int64)) % (10 : Int64))), .second, .val (.long ((x2 / (100000 : Int64)) % (10 : Int64))), .second, .unset, .unset, .unset, .unset, .unset, .unset, .unset, .unset, .unset, .unset, .unset, .unset] [(.long ((x2 / (10000 : Int64)) % (10 : Int64)))]))
  refine OwnOut.go (fun t k => XS.lstore X0.here hx rfl (hb hby at_52) rfl (l' := #[.val (.long x0), .second, .val (.long x2), .second, .val (.long ((x2 / (10000000 : Int64)) % (10 : Int64))), .second, .val (.long ((x2 / (1000000 : Int64)) % (10 : Int64))), .second, .val (.long ((x2 / (100000 : Int64)) % (10 : Int64))), .second, .val (.long ((x2 / (10000 : Int64)) % (10 : Int64))), .second, .unset, .unset, .unset, .unset, .unset, .unset, .unset, .unset, .unset, .unset]) rfl k) ?_
  show OwnOut p e s below 0 0 _ (T.setTop (mkF m 54 #[.val (.long x0), .second, .val (.long x2), .second, .val (.long ((x2 / (10000000 : Int64)) % (10 : Int64))), .second, .val (.long ((x2 / (1000000 : Int64)) % (10 : Int64))), .second, .val (.long ((x2 / (100000 : Int64)) % (10 : Int64))), .second, .val (.long ((x2 / (10000 : Int64)) % (10 : Int64))), .second, .unset, .unset, .unset, .unset, .unset, .unset, .unset, .unset, .unset, .unset] []))
  refine OwnOut.go (fun t k => XS.lloadN X0.here hx rfl (hb hby at_54) rfl k) ?_
  show OwnOut p e s below 0 0 _ (T.setTop (mkF m 55 #[.val (.long x0), .second, .val (.long x2), .second, .val (.long ((x2 / (10000000 : Int64)) % (10 : Int64))), .second, .val (.long ((x2 / (1000000 : Int64)) % (10 : Int64))), .second, .val (.long ((x2 / (100000 : Int64)) % (10 : Int64))), .second, .val (.long ((x2 / (10000 : Int64)) % (10 : Int64))), .second, .unset, .unset, .unset, .unset, .unset, .unset, .unset, .unset, .unset, .unset] [(.long x2)]))
  refine OwnOut.go (fun t k => X0.ldc2Long hx hown (mvT hZ (hw _ (List.mem_of_getElem? (i := 7) rfl))) (g := (mkF m 55 #[.val (.long x0), .second, .val (.long x2), .second, .val (.long ((x2 / (10000000 : Int64)) % (10 : Int64))), .second, .val (.long ((x2 / (1000000 : Int64)) % (10 : Int64))), .second, .val (.long ((x2 / (100000 : Int64)) % (10 : Int64))), .second, .val (.long ((x2 / (10000 : Int64)) % (10 : Int64))), .second, .unset, .unset, .unset, .unset, .unset, .unset, .unset, .unset, .unset, .unset] [(.long x2)])) rfl (hb hby at_55) _ k) ?_
  show OwnOut p e s below 0 0 _ (T.setTop (mkF m 58 #[.val (.long x0), .second, .val (.long x2), .second, .val (.long ((x2 / (10000000 : Int64)) % (10 : Int64))), .second, .val (.long ((x2 / (1000000 : Int64)) % (10 : Int64))), .second, .val (.long ((x2 / (100000 : Int64)) % (10 : Int64))), .second, .val (.long ((x2 / (10000 : Int64)) % (10 : Int64))), .second, .unset, .unset, .unset, .unset, .unset, .unset, .unset, .unset, .unset, .unset] [(.long (1000 : Int64)), (.long x2)]))
  refine OwnOut.go (fun t k => XS.ldiv X0.here hx rfl (hb hby at_58) rfl (by decide) k) ?_
  show OwnOut p e s below 0 0 _ (T.setTop (mkF m 59 #[.val (.long x0), .second, .val (.long x2), .second, .val (.long ((x2 / (10000000 : Int64)) % (10 : Int64))), .second, .val (.long ((x2 / (1000000 : Int64)) % (10 : Int64))), .second, .val (.long ((x2 / (100000 : Int64)) % (10 : Int64))), .second, .val (.long ((x2 / (10000 : Int64)) % (10 : Int64))), .second, .unset, .unset, .unset, .unset, .unset, .unset, .unset, .unset, .unset, .unset] [(.long (x2 / (1000 : Int64)))]))
  refine OwnOut.go (fun t k => X0.ldc2Long hx hown (mvT hZ (hw _ (List.mem_of_getElem? (i := 3) rfl))) (g := (mkF m 59 #[.val (.long x0), .second, .val (.long x2), .second, .val (.long ((x2 / (10000000 : Int64)) % (10 : Int64))), .second, .val (.long ((x2 / (1000000 : Int64)) % (10 : Int64))), .second, .val (.long ((x2 / (100000 : Int64)) % (10 : Int64))), .second, .val (.long ((x2 / (10000 : Int64)) % (10 : Int64))), .second, .unset, .unset, .unset, .unset, .unset, .unset, .unset, .unset, .unset, .unset] [(.long (x2 / (1000 : Int64)))])) rfl (hb hby at_59) _ k) ?_
  show OwnOut p e s below 0 0 _ (T.setTop (mkF m 62 #[.val (.long x0), .second, .val (.long x2), .second, .val (.long ((x2 / (10000000 : Int64)) % (10 : Int64))), .second, .val (.long ((x2 / (1000000 : Int64)) % (10 : Int64))), .second, .val (.long ((x2 / (100000 : Int64)) % (10 : Int64))), .second, .val (.long ((x2 / (10000 : Int64)) % (10 : Int64))), .second, .unset, .unset, .unset, .unset, .unset, .unset, .unset, .unset, .unset, .unset] [(.long (10 : Int64)), (.long (x2 / (1000 : Int64)))]))
  refine OwnOut.go (fun t k => lremM X0 hx rfl (hb hby at_62) rfl (by decide) k) ?_
  show OwnOut p e s below 0 0 _ (T.setTop (mkF m 63 #[.val (.long x0), .second, .val (.long x2), .second, .val (.long ((x2 / (10000000 : Int64)) % (10 : Int64))), .second, .val (.long ((x2 / (1000000 : Int64)) % (10 : Int64))), .second, .val (.long ((x2 / (100000 : Int64)) % (10 : Int64))), .second, .val (.long ((x2 / (10000 : Int64)) % (10 : Int64))), .second, .unset, .unset, .unset, .unset, .unset, .unset, .unset, .unset, .unset, .unset] [(.long ((x2 / (1000 : Int64)) % (10 : Int64)))]))
  refine OwnOut.go (fun t k => XS.lstore X0.here hx rfl (hb hby at_63) rfl (l' := #[.val (.long x0), .second, .val (.long x2), .second, .val (.long ((x2 / (10000000 : Int64)) % (10 : Int64))), .second, .val (.long ((x2 / (1000000 : Int64)) % (10 : Int64))), .second, .val (.long ((x2 / (100000 : Int64)) % (10 : Int64))), .second, .val (.long ((x2 / (10000 : Int64)) % (10 : Int64))), .second, .val (.long ((x2 / (1000 : Int64)) % (10 : Int64))), .second, .unset, .unset, .unset, .unset, .unset, .unset, .unset, .unset]) rfl k) ?_
  show OwnOut p e s below 0 0 _ (T.setTop (mkF m 65 #[.val (.long x0), .second, .val (.long x2), .second, .val (.long ((x2 / (10000000 : Int64)) % (10 : Int64))), .second, .val (.long ((x2 / (1000000 : Int64)) % (10 : Int64))), .second, .val (.long ((x2 / (100000 : Int64)) % (10 : Int64))), .second, .val (.long ((x2 / (10000 : Int64)) % (10 : Int64))), .second, .val (.long ((x2 / (1000 : Int64)) % (10 : Int64))), .second, .unset, .unset, .unset, .unset, .unset, .unset, .unset, .unset] []))
  refine OwnOut.go (fun t k => XS.lloadN X0.here hx rfl (hb hby at_65) rfl k) ?_
  show OwnOut p e s below 0 0 _ (T.setTop (mkF m 66 #[.val (.long x0), .second, .val (.long x2), .second, .val (.long ((x2 / (10000000 : Int64)) % (10 : Int64))), .second, .val (.long ((x2 / (1000000 : Int64)) % (10 : Int64))), .second, .val (.long ((x2 / (100000 : Int64)) % (10 : Int64))), .second, .val (.long ((x2 / (10000 : Int64)) % (10 : Int64))), .second, .val (.long ((x2 / (1000 : Int64)) % (10 : Int64))), .second, .unset, .unset, .unset, .unset, .unset, .unset, .unset, .unset] [(.long x2)]))
  refine OwnOut.go (fun t k => X0.ldc2Long hx hown (mvT hZ (hw _ (List.mem_of_getElem? (i := 8) rfl))) (g := (mkF m 66 #[.val (.long x0), .second, .val (.long x2), .second, .val (.long ((x2 / (10000000 : Int64)) % (10 : Int64))), .second, .val (.long ((x2 / (1000000 : Int64)) % (10 : Int64))), .second, .val (.long ((x2 / (100000 : Int64)) % (10 : Int64))), .second, .val (.long ((x2 / (10000 : Int64)) % (10 : Int64))), .second, .val (.long ((x2 / (1000 : Int64)) % (10 : Int64))), .second, .unset, .unset, .unset, .unset, .unset, .unset, .unset, .unset] [(.long x2)])) rfl (hb hby at_66) _ k) ?_
  show OwnOut p e s below 0 0 _ (T.setTop (mkF m 69 #[.val (.long x0), .second, .val (.long x2), .second, .val (.long ((x2 / (10000000 : Int64)) % (10 : Int64))), .second, .val (.long ((x2 / (1000000 : Int64)) % (10 : Int64))), .second, .val (.long ((x2 / (100000 : Int64)) % (10 : Int64))), .second, .val (.long ((x2 / (10000 : Int64)) % (10 : Int64))), .second, .val (.long ((x2 / (1000 : Int64)) % (10 : Int64))), .second, .unset, .unset, .unset, .unset, .unset, .unset, .unset, .unset] [(.long (100 : Int64)), (.long x2)]))
  refine OwnOut.go (fun t k => XS.ldiv X0.here hx rfl (hb hby at_69) rfl (by decide) k) ?_
  show OwnOut p e s below 0 0 _ (T.setTop (mkF m 70 #[.val (.long x0), .second, .val (.long x2), .second, .val (.long ((x2 / (10000000 : Int64)) % (10 : Int64))), .second, .val (.long ((x2 / (1000000 : Int64)) % (10 : Int64))), .second, .val (.long ((x2 / (100000 : Int64)) % (10 : Int64))), .second, .val (.long ((x2 / (10000 : Int64)) % (10 : Int64))), .second, .val (.long ((x2 / (1000 : Int64)) % (10 : Int64))), .second, .unset, .unset, .unset, .unset, .unset, .unset, .unset, .unset] [(.long (x2 / (100 : Int64)))]))
  refine OwnOut.go (fun t k => X0.ldc2Long hx hown (mvT hZ (hw _ (List.mem_of_getElem? (i := 3) rfl))) (g := (mkF m 70 #[.val (.long x0), .second, .val (.long x2), .second, .val (.long ((x2 / (10000000 : Int64)) % (10 : Int64))), .second, .val (.long ((x2 / (1000000 : Int64)) % (10 : Int64))), .second, .val (.long ((x2 / (100000 : Int64)) % (10 : Int64))), .second, .val (.long ((x2 / (10000 : Int64)) % (10 : Int64))), .second, .val (.long ((x2 / (1000 : Int64)) % (10 : Int64))), .second, .unset, .unset, .unset, .unset, .unset, .unset, .unset, .unset] [(.long (x2 / (100 : Int64)))])) rfl (hb hby at_70) _ k) ?_
  show OwnOut p e s below 0 0 _ (T.setTop (mkF m 73 #[.val (.long x0), .second, .val (.long x2), .second, .val (.long ((x2 / (10000000 : Int64)) % (10 : Int64))), .second, .val (.long ((x2 / (1000000 : Int64)) % (10 : Int64))), .second, .val (.long ((x2 / (100000 : Int64)) % (10 : Int64))), .second, .val (.long ((x2 / (10000 : Int64)) % (10 : Int64))), .second, .val (.long ((x2 / (1000 : Int64)) % (10 : Int64))), .second, .unset, .unset, .unset, .unset, .unset, .unset, .unset, .unset] [(.long (10 : Int64)), (.long (x2 / (100 : Int64)))]))
  refine OwnOut.go (fun t k => lremM X0 hx rfl (hb hby at_73) rfl (by decide) k) ?_
  show OwnOut p e s below 0 0 _ (T.setTop (mkF m 74 #[.val (.long x0), .second, .val (.long x2), .second, .val (.long ((x2 / (10000000 : Int64)) % (10 : Int64))), .second, .val (.long ((x2 / (1000000 : Int64)) % (10 : Int64))), .second, .val (.long ((x2 / (100000 : Int64)) % (10 : Int64))), .second, .val (.long ((x2 / (10000 : Int64)) % (10 : Int64))), .second, .val (.long ((x2 / (1000 : Int64)) % (10 : Int64))), .second, .unset, .unset, .unset, .unset, .unset, .unset, .unset, .unset] [(.long ((x2 / (100 : Int64)) % (10 : Int64)))]))
  refine OwnOut.go (fun t k => XS.lstore X0.here hx rfl (hb hby at_74) rfl (l' := #[.val (.long x0), .second, .val (.long x2), .second, .val (.long ((x2 / (10000000 : Int64)) % (10 : Int64))), .second, .val (.long ((x2 / (1000000 : Int64)) % (10 : Int64))), .second, .val (.long ((x2 / (100000 : Int64)) % (10 : Int64))), .second, .val (.long ((x2 / (10000 : Int64)) % (10 : Int64))), .second, .val (.long ((x2 / (1000 : Int64)) % (10 : Int64))), .second, .val (.long ((x2 / (100 : Int64)) % (10 : Int64))), .second, .unset, .unset, .unset, .unset, .unset, .unset]) rfl k) ?_
  show OwnOut p e s below 0 0 _ (T.setTop (mkF m 76 #[.val (.long x0), .second, .val (.long x2), .second, .val (.long ((x2 / (10000000 : Int64)) % (10 : Int64))), .second, .val (.long ((x2 / (1000000 : Int64)) % (10 : Int64))), .second, .val (.long ((x2 / (100000 : Int64)) % (10 : Int64))), .second, .val (.long ((x2 / (10000 : Int64)) % (10 : Int64))), .second, .val (.long ((x2 / (1000 : Int64)) % (10 : Int64))), .second, .val (.long ((x2 / (100 : Int64)) % (10 : Int64))), .second, .unset, .unset, .unset, .unset, .unset, .unset] []))
  refine OwnOut.go (fun t k => XS.lloadN X0.here hx rfl (hb hby at_76) rfl k) ?_
  show OwnOut p e s below 0 0 _ (T.setTop (mkF m 77 #[.val (.long x0), .second, .val (.long x2), .second, .val (.long ((x2 / (10000000 : Int64)) % (10 : Int64))), .second, .val (.long ((x2 / (1000000 : Int64)) % (10 : Int64))), .second, .val (.long ((x2 / (100000 : Int64)) % (10 : Int64))), .second, .val (.long ((x2 / (10000 : Int64)) % (10 : Int64))), .second, .val (.long ((x2 / (1000 : Int64)) % (10 : Int64))), .second, .val (.long ((x2 / (100 : Int64)) % (10 : Int64))), .second, .unset, .unset, .unset, .unset, .unset, .unset] [(.long x2)]))
  refine OwnOut.go (fun t k => X0.ldc2Long hx hown (mvT hZ (hw _ (List.mem_of_getElem? (i := 3) rfl))) (g := (mkF m 77 #[.val (.long x0), .second, .val (.long x2), .second, .val (.long ((x2 / (10000000 : Int64)) % (10 : Int64))), .second, .val (.long ((x2 / (1000000 : Int64)) % (10 : Int64))), .second, .val (.long ((x2 / (100000 : Int64)) % (10 : Int64))), .second, .val (.long ((x2 / (10000 : Int64)) % (10 : Int64))), .second, .val (.long ((x2 / (1000 : Int64)) % (10 : Int64))), .second, .val (.long ((x2 / (100 : Int64)) % (10 : Int64))), .second, .unset, .unset, .unset, .unset, .unset, .unset] [(.long x2)])) rfl (hb hby at_77) _ k) ?_
  show OwnOut p e s below 0 0 _ (T.setTop (mkF m 80 #[.val (.long x0), .second, .val (.long x2), .second, .val (.long ((x2 / (10000000 : Int64)) % (10 : Int64))), .second, .val (.long ((x2 / (1000000 : Int64)) % (10 : Int64))), .second, .val (.long ((x2 / (100000 : Int64)) % (10 : Int64))), .second, .val (.long ((x2 / (10000 : Int64)) % (10 : Int64))), .second, .val (.long ((x2 / (1000 : Int64)) % (10 : Int64))), .second, .val (.long ((x2 / (100 : Int64)) % (10 : Int64))), .second, .unset, .unset, .unset, .unset, .unset, .unset] [(.long (10 : Int64)), (.long x2)]))
  refine OwnOut.go (fun t k => XS.ldiv X0.here hx rfl (hb hby at_80) rfl (by decide) k) ?_
  show OwnOut p e s below 0 0 _ (T.setTop (mkF m 81 #[.val (.long x0), .second, .val (.long x2), .second, .val (.long ((x2 / (10000000 : Int64)) % (10 : Int64))), .second, .val (.long ((x2 / (1000000 : Int64)) % (10 : Int64))), .second, .val (.long ((x2 / (100000 : Int64)) % (10 : Int64))), .second, .val (.long ((x2 / (10000 : Int64)) % (10 : Int64))), .second, .val (.long ((x2 / (1000 : Int64)) % (10 : Int64))), .second, .val (.long ((x2 / (100 : Int64)) % (10 : Int64))), .second, .unset, .unset, .unset, .unset, .unset, .unset] [(.long (x2 / (10 : Int64)))]))
  refine OwnOut.go (fun t k => X0.ldc2Long hx hown (mvT hZ (hw _ (List.mem_of_getElem? (i := 3) rfl))) (g := (mkF m 81 #[.val (.long x0), .second, .val (.long x2), .second, .val (.long ((x2 / (10000000 : Int64)) % (10 : Int64))), .second, .val (.long ((x2 / (1000000 : Int64)) % (10 : Int64))), .second, .val (.long ((x2 / (100000 : Int64)) % (10 : Int64))), .second, .val (.long ((x2 / (10000 : Int64)) % (10 : Int64))), .second, .val (.long ((x2 / (1000 : Int64)) % (10 : Int64))), .second, .val (.long ((x2 / (100 : Int64)) % (10 : Int64))), .second, .unset, .unset, .unset, .unset, .unset, .unset] [(.long (x2 / (10 : Int64)))])) rfl (hb hby at_81) _ k) ?_
  show OwnOut p e s below 0 0 _ (T.setTop (mkF m 84 #[.val (.long x0), .second, .val (.long x2), .second, .val (.long ((x2 / (10000000 : Int64)) % (10 : Int64))), .second, .val (.long ((x2 / (1000000 : Int64)) % (10 : Int64))), .second, .val (.long ((x2 / (100000 : Int64)) % (10 : Int64))), .second, .val (.long ((x2 / (10000 : Int64)) % (10 : Int64))), .second, .val (.long ((x2 / (1000 : Int64)) % (10 : Int64))), .second, .val (.long ((x2 / (100 : Int64)) % (10 : Int64))), .second, .unset, .unset, .unset, .unset, .unset, .unset] [(.long (10 : Int64)), (.long (x2 / (10 : Int64)))]))
  refine OwnOut.go (fun t k => lremM X0 hx rfl (hb hby at_84) rfl (by decide) k) ?_
  show OwnOut p e s below 0 0 _ (T.setTop (mkF m 85 #[.val (.long x0), .second, .val (.long x2), .second, .val (.long ((x2 / (10000000 : Int64)) % (10 : Int64))), .second, .val (.long ((x2 / (1000000 : Int64)) % (10 : Int64))), .second, .val (.long ((x2 / (100000 : Int64)) % (10 : Int64))), .second, .val (.long ((x2 / (10000 : Int64)) % (10 : Int64))), .second, .val (.long ((x2 / (1000 : Int64)) % (10 : Int64))), .second, .val (.long ((x2 / (100 : Int64)) % (10 : Int64))), .second, .unset, .unset, .unset, .unset, .unset, .unset] [(.long ((x2 / (10 : Int64)) % (10 : Int64)))]))
  refine OwnOut.go (fun t k => XS.lstore X0.here hx rfl (hb hby at_85) rfl (l' := #[.val (.long x0), .second, .val (.long x2), .second, .val (.long ((x2 / (10000000 : Int64)) % (10 : Int64))), .second, .val (.long ((x2 / (1000000 : Int64)) % (10 : Int64))), .second, .val (.long ((x2 / (100000 : Int64)) % (10 : Int64))), .second, .val (.long ((x2 / (10000 : Int64)) % (10 : Int64))), .second, .val (.long ((x2 / (1000 : Int64)) % (10 : Int64))), .second, .val (.long ((x2 / (100 : Int64)) % (10 : Int64))), .second, .val (.long ((x2 / (10 : Int64)) % (10 : Int64))), .second, .unset, .unset, .unset, .unset]) rfl k) ?_
  show OwnOut p e s below 0 0 _ (T.setTop (mkF m 87 #[.val (.long x0), .second, .val (.long x2), .second, .val (.long ((x2 / (10000000 : Int64)) % (10 : Int64))), .second, .val (.long ((x2 / (1000000 : Int64)) % (10 : Int64))), .second, .val (.long ((x2 / (100000 : Int64)) % (10 : Int64))), .second, .val (.long ((x2 / (10000 : Int64)) % (10 : Int64))), .second, .val (.long ((x2 / (1000 : Int64)) % (10 : Int64))), .second, .val (.long ((x2 / (100 : Int64)) % (10 : Int64))), .second, .val (.long ((x2 / (10 : Int64)) % (10 : Int64))), .second, .unset, .unset, .unset, .unset] []))
  refine OwnOut.go (fun t k => XS.lloadN X0.here hx rfl (hb hby at_87) rfl k) ?_
  show OwnOut p e s below 0 0 _ (T.setTop (mkF m 88 #[.val (.long x0), .second, .val (.long x2), .second, .val (.long ((x2 / (10000000 : Int64)) % (10 : Int64))), .second, .val (.long ((x2 / (1000000 : Int64)) % (10 : Int64))), .second, .val (.long ((x2 / (100000 : Int64)) % (10 : Int64))), .second, .val (.long ((x2 / (10000 : Int64)) % (10 : Int64))), .second, .val (.long ((x2 / (1000 : Int64)) % (10 : Int64))), .second, .val (.long ((x2 / (100 : Int64)) % (10 : Int64))), .second, .val (.long ((x2 / (10 : Int64)) % (10 : Int64))), .second, .unset, .unset, .unset, .unset] [(.long x2)]))
  refine OwnOut.go (fun t k => X0.ldc2Long hx hown (mvT hZ (hw _ (List.mem_of_getElem? (i := 3) rfl))) (g := (mkF m 88 #[.val (.long x0), .second, .val (.long x2), .second, .val (.long ((x2 / (10000000 : Int64)) % (10 : Int64))), .second, .val (.long ((x2 / (1000000 : Int64)) % (10 : Int64))), .second, .val (.long ((x2 / (100000 : Int64)) % (10 : Int64))), .second, .val (.long ((x2 / (10000 : Int64)) % (10 : Int64))), .second, .val (.long ((x2 / (1000 : Int64)) % (10 : Int64))), .second, .val (.long ((x2 / (100 : Int64)) % (10 : Int64))), .second, .val (.long ((x2 / (10 : Int64)) % (10 : Int64))), .second, .unset, .unset, .unset, .unset] [(.long x2)])) rfl (hb hby at_88) _ k) ?_
  show OwnOut p e s below 0 0 _ (T.setTop (mkF m 91 #[.val (.long x0), .second, .val (.long x2), .second, .val (.long ((x2 / (10000000 : Int64)) % (10 : Int64))), .second, .val (.long ((x2 / (1000000 : Int64)) % (10 : Int64))), .second, .val (.long ((x2 / (100000 : Int64)) % (10 : Int64))), .second, .val (.long ((x2 / (10000 : Int64)) % (10 : Int64))), .second, .val (.long ((x2 / (1000 : Int64)) % (10 : Int64))), .second, .val (.long ((x2 / (100 : Int64)) % (10 : Int64))), .second, .val (.long ((x2 / (10 : Int64)) % (10 : Int64))), .second, .unset, .unset, .unset, .unset] [(.long (10 : Int64)), (.long x2)]))
  refine OwnOut.go (fun t k => lremM X0 hx rfl (hb hby at_91) rfl (by decide) k) ?_
  show OwnOut p e s below 0 0 _ (T.setTop (mkF m 92 #[.val (.long x0), .second, .val (.long x2), .second, .val (.long ((x2 / (10000000 : Int64)) % (10 : Int64))), .second, .val (.long ((x2 / (1000000 : Int64)) % (10 : Int64))), .second, .val (.long ((x2 / (100000 : Int64)) % (10 : Int64))), .second, .val (.long ((x2 / (10000 : Int64)) % (10 : Int64))), .second, .val (.long ((x2 / (1000 : Int64)) % (10 : Int64))), .second, .val (.long ((x2 / (100 : Int64)) % (10 : Int64))), .second, .val (.long ((x2 / (10 : Int64)) % (10 : Int64))), .second, .unset, .unset, .unset, .unset] [(.long (x2 % (10 : Int64)))]))
  refine OwnOut.go (fun t k => XS.lstore X0.here hx rfl (hb hby at_92) rfl (l' := #[.val (.long x0), .second, .val (.long x2), .second, .val (.long ((x2 / (10000000 : Int64)) % (10 : Int64))), .second, .val (.long ((x2 / (1000000 : Int64)) % (10 : Int64))), .second, .val (.long ((x2 / (100000 : Int64)) % (10 : Int64))), .second, .val (.long ((x2 / (10000 : Int64)) % (10 : Int64))), .second, .val (.long ((x2 / (1000 : Int64)) % (10 : Int64))), .second, .val (.long ((x2 / (100 : Int64)) % (10 : Int64))), .second, .val (.long ((x2 / (10 : Int64)) % (10 : Int64))), .second, .val (.long (x2 % (10 : Int64))), .second, .unset, .unset]) rfl k) ?_
  show OwnOut p e s below 0 0 _ (T.setTop (mkF m 94 #[.val (.long x0), .second, .val (.long x2), .second, .val (.long ((x2 / (10000000 : Int64)) % (10 : Int64))), .second, .val (.long ((x2 / (1000000 : Int64)) % (10 : Int64))), .second, .val (.long ((x2 / (100000 : Int64)) % (10 : Int64))), .second, .val (.long ((x2 / (10000 : Int64)) % (10 : Int64))), .second, .val (.long ((x2 / (1000 : Int64)) % (10 : Int64))), .second, .val (.long ((x2 / (100 : Int64)) % (10 : Int64))), .second, .val (.long ((x2 / (10 : Int64)) % (10 : Int64))), .second, .val (.long (x2 % (10 : Int64))), .second, .unset, .unset] []))
  refine OwnOut.go (fun t k => X0.ldc2Long hx hown (mvT hZ (hw _ (List.mem_of_getElem? (i := 9) rfl))) (g := (mkF m 94 #[.val (.long x0), .second, .val (.long x2), .second, .val (.long ((x2 / (10000000 : Int64)) % (10 : Int64))), .second, .val (.long ((x2 / (1000000 : Int64)) % (10 : Int64))), .second, .val (.long ((x2 / (100000 : Int64)) % (10 : Int64))), .second, .val (.long ((x2 / (10000 : Int64)) % (10 : Int64))), .second, .val (.long ((x2 / (1000 : Int64)) % (10 : Int64))), .second, .val (.long ((x2 / (100 : Int64)) % (10 : Int64))), .second, .val (.long ((x2 / (10 : Int64)) % (10 : Int64))), .second, .val (.long (x2 % (10 : Int64))), .second, .unset, .unset] [])) rfl (hb hby at_94) _ k) ?_
  show OwnOut p e s below 0 0 _ (T.setTop (mkF m 97 #[.val (.long x0), .second, .val (.long x2), .second, .val (.long ((x2 / (10000000 : Int64)) % (10 : Int64))), .second, .val (.long ((x2 / (1000000 : Int64)) % (10 : Int64))), .second, .val (.long ((x2 / (100000 : Int64)) % (10 : Int64))), .second, .val (.long ((x2 / (10000 : Int64)) % (10 : Int64))), .second, .val (.long ((x2 / (1000 : Int64)) % (10 : Int64))), .second, .val (.long ((x2 / (100 : Int64)) % (10 : Int64))), .second, .val (.long ((x2 / (10 : Int64)) % (10 : Int64))), .second, .val (.long (x2 % (10 : Int64))), .second, .unset, .unset] [(.long (48 : Int64))]))
  refine OwnOut.go (fun t k => XS.lload X0.here hx rfl (hb hby at_97) rfl k) ?_
  show OwnOut p e s below 0 0 _ (T.setTop (mkF m 99 #[.val (.long x0), .second, .val (.long x2), .second, .val (.long ((x2 / (10000000 : Int64)) % (10 : Int64))), .second, .val (.long ((x2 / (1000000 : Int64)) % (10 : Int64))), .second, .val (.long ((x2 / (100000 : Int64)) % (10 : Int64))), .second, .val (.long ((x2 / (10000 : Int64)) % (10 : Int64))), .second, .val (.long ((x2 / (1000 : Int64)) % (10 : Int64))), .second, .val (.long ((x2 / (100 : Int64)) % (10 : Int64))), .second, .val (.long ((x2 / (10 : Int64)) % (10 : Int64))), .second, .val (.long (x2 % (10 : Int64))), .second, .unset, .unset] [(.long ((x2 / (10000000 : Int64)) % (10 : Int64))), (.long (48 : Int64))]))
  refine OwnOut.go (fun t k => XS.ladd X0.here hx rfl (hb hby at_99) rfl k) ?_
  show OwnOut p e s below 0 0 _ (T.setTop (mkF m 100 #[.val (.long x0), .second, .val (.long x2), .second, .val (.long ((x2 / (10000000 : Int64)) % (10 : Int64))), .second, .val (.long ((x2 / (1000000 : Int64)) % (10 : Int64))), .second, .val (.long ((x2 / (100000 : Int64)) % (10 : Int64))), .second, .val (.long ((x2 / (10000 : Int64)) % (10 : Int64))), .second, .val (.long ((x2 / (1000 : Int64)) % (10 : Int64))), .second, .val (.long ((x2 / (100 : Int64)) % (10 : Int64))), .second, .val (.long ((x2 / (10 : Int64)) % (10 : Int64))), .second, .val (.long (x2 % (10 : Int64))), .second, .unset, .unset] [(.long ((48 : Int64) + ((x2 / (10000000 : Int64)) % (10 : Int64))))]))
  refine OwnOut.go (fun t k => X0.ldc2Long hx hown (mvT hZ (hw _ (List.mem_of_getElem? (i := 9) rfl))) (g := (mkF m 100 #[.val (.long x0), .second, .val (.long x2), .second, .val (.long ((x2 / (10000000 : Int64)) % (10 : Int64))), .second, .val (.long ((x2 / (1000000 : Int64)) % (10 : Int64))), .second, .val (.long ((x2 / (100000 : Int64)) % (10 : Int64))), .second, .val (.long ((x2 / (10000 : Int64)) % (10 : Int64))), .second, .val (.long ((x2 / (1000 : Int64)) % (10 : Int64))), .second, .val (.long ((x2 / (100 : Int64)) % (10 : Int64))), .second, .val (.long ((x2 / (10 : Int64)) % (10 : Int64))), .second, .val (.long (x2 % (10 : Int64))), .second, .unset, .unset] [(.long ((48 : Int64) + ((x2 / (10000000 : Int64)) % (10 : Int64))))])) rfl (hb hby at_100) _ k) ?_
  show OwnOut p e s below 0 0 _ (T.setTop (mkF m 103 #[.val (.long x0), .second, .val (.long x2), .second, .val (.long ((x2 / (10000000 : Int64)) % (10 : Int64))), .second, .val (.long ((x2 / (1000000 : Int64)) % (10 : Int64))), .second, .val (.long ((x2 / (100000 : Int64)) % (10 : Int64))), .second, .val (.long ((x2 / (10000 : Int64)) % (10 : Int64))), .second, .val (.long ((x2 / (1000 : Int64)) % (10 : Int64))), .second, .val (.long ((x2 / (100 : Int64)) % (10 : Int64))), .second, .val (.long ((x2 / (10 : Int64)) % (10 : Int64))), .second, .val (.long (x2 % (10 : Int64))), .second, .unset, .unset] [(.long (48 : Int64)), (.long ((48 : Int64) + ((x2 / (10000000 : Int64)) % (10 : Int64))))]))
  refine OwnOut.go (fun t k => XS.lload X0.here hx rfl (hb hby at_103) rfl k) ?_
  show OwnOut p e s below 0 0 _ (T.setTop (mkF m 105 #[.val (.long x0), .second, .val (.long x2), .second, .val (.long ((x2 / (10000000 : Int64)) % (10 : Int64))), .second, .val (.long ((x2 / (1000000 : Int64)) % (10 : Int64))), .second, .val (.long ((x2 / (100000 : Int64)) % (10 : Int64))), .second, .val (.long ((x2 / (10000 : Int64)) % (10 : Int64))), .second, .val (.long ((x2 / (1000 : Int64)) % (10 : Int64))), .second, .val (.long ((x2 / (100 : Int64)) % (10 : Int64))), .second, .val (.long ((x2 / (10 : Int64)) % (10 : Int64))), .second, .val (.long (x2 % (10 : Int64))), .second, .unset, .unset] [(.long ((x2 / (1000000 : Int64)) % (10 : Int64))), (.long (48 : Int64)), (.long ((48 : Int64) + ((x2 / (10000000 : Int64)) % (10 : Int64))))]))
  refine OwnOut.go (fun t k => XS.ladd X0.here hx rfl (hb hby at_105) rfl k) ?_
  show OwnOut p e s below 0 0 _ (T.setTop (mkF m 106 #[.val (.long x0), .second, .val (.long x2), .second, .val (.long ((x2 / (10000000 : Int64)) % (10 : Int64))), .second, .val (.long ((x2 / (1000000 : Int64)) % (10 : Int64))), .second, .val (.long ((x2 / (100000 : Int64)) % (10 : Int64))), .second, .val (.long ((x2 / (10000 : Int64)) % (10 : Int64))), .second, .val (.long ((x2 / (1000 : Int64)) % (10 : Int64))), .second, .val (.long ((x2 / (100 : Int64)) % (10 : Int64))), .second, .val (.long ((x2 / (10 : Int64)) % (10 : Int64))), .second, .val (.long (x2 % (10 : Int64))), .second, .unset, .unset] [(.long ((48 : Int64) + ((x2 / (1000000 : Int64)) % (10 : Int64)))), (.long ((48 : Int64) + ((x2 / (10000000 : Int64)) % (10 : Int64))))]))
  refine OwnOut.go (fun t k => XT.bipushV X0.here hx rfl (8 : Int32) (hb hby at_106) rfl k) ?_
  show OwnOut p e s below 0 0 _ (T.setTop (mkF m 108 #[.val (.long x0), .second, .val (.long x2), .second, .val (.long ((x2 / (10000000 : Int64)) % (10 : Int64))), .second, .val (.long ((x2 / (1000000 : Int64)) % (10 : Int64))), .second, .val (.long ((x2 / (100000 : Int64)) % (10 : Int64))), .second, .val (.long ((x2 / (10000 : Int64)) % (10 : Int64))), .second, .val (.long ((x2 / (1000 : Int64)) % (10 : Int64))), .second, .val (.long ((x2 / (100 : Int64)) % (10 : Int64))), .second, .val (.long ((x2 / (10 : Int64)) % (10 : Int64))), .second, .val (.long (x2 % (10 : Int64))), .second, .unset, .unset] [(.int (8 : Int32)), (.long ((48 : Int64) + ((x2 / (1000000 : Int64)) % (10 : Int64)))), (.long ((48 : Int64) + ((x2 / (10000000 : Int64)) % (10 : Int64))))]))
  refine OwnOut.go (fun t k => XS.lshl X0.here hx rfl (hb hby at_108) rfl k) ?_
  show OwnOut p e s below 0 0 _ (T.setTop (mkF m 109 #[.val (.long x0), .second, .val (.long x2), .second, .val (.long ((x2 / (10000000 : Int64)) % (10 : Int64))), .second, .val (.long ((x2 / (1000000 : Int64)) % (10 : Int64))), .second, .val (.long ((x2 / (100000 : Int64)) % (10 : Int64))), .second, .val (.long ((x2 / (10000 : Int64)) % (10 : Int64))), .second, .val (.long ((x2 / (1000 : Int64)) % (10 : Int64))), .second, .val (.long ((x2 / (100 : Int64)) % (10 : Int64))), .second, .val (.long ((x2 / (10 : Int64)) % (10 : Int64))), .second, .val (.long (x2 % (10 : Int64))), .second, .unset, .unset] [(.long (((48 : Int64) + ((x2 / (1000000 : Int64)) % (10 : Int64))) <<< ((8 : Int32) &&& 0x3f).toInt64)), (.long ((48 : Int64) + ((x2 / (10000000 : Int64)) % (10 : Int64))))]))
  refine OwnOut.go (fun t k => XS.lor X0.here hx rfl (hb hby at_109) rfl k) ?_
  show OwnOut p e s below 0 0 _ (T.setTop (mkF m 110 #[.val (.long x0), .second, .val (.long x2), .second, .val (.long ((x2 / (10000000 : Int64)) % (10 : Int64))), .second, .val (.long ((x2 / (1000000 : Int64)) % (10 : Int64))), .second, .val (.long ((x2 / (100000 : Int64)) % (10 : Int64))), .second, .val (.long ((x2 / (10000 : Int64)) % (10 : Int64))), .second, .val (.long ((x2 / (1000 : Int64)) % (10 : Int64))), .second, .val (.long ((x2 / (100 : Int64)) % (10 : Int64))), .second, .val (.long ((x2 / (10 : Int64)) % (10 : Int64))), .second, .val (.long (x2 % (10 : Int64))), .second, .unset, .unset] [(.long (((48 : Int64) + ((x2 / (10000000 : Int64)) % (10 : Int64))) ||| (((48 : Int64) + ((x2 / (1000000 : Int64)) % (10 : Int64))) <<< ((8 : Int32) &&& 0x3f).toInt64)))]))
  refine OwnOut.go (fun t k => X0.ldc2Long hx hown (mvT hZ (hw _ (List.mem_of_getElem? (i := 9) rfl))) (g := (mkF m 110 #[.val (.long x0), .second, .val (.long x2), .second, .val (.long ((x2 / (10000000 : Int64)) % (10 : Int64))), .second, .val (.long ((x2 / (1000000 : Int64)) % (10 : Int64))), .second, .val (.long ((x2 / (100000 : Int64)) % (10 : Int64))), .second, .val (.long ((x2 / (10000 : Int64)) % (10 : Int64))), .second, .val (.long ((x2 / (1000 : Int64)) % (10 : Int64))), .second, .val (.long ((x2 / (100 : Int64)) % (10 : Int64))), .second, .val (.long ((x2 / (10 : Int64)) % (10 : Int64))), .second, .val (.long (x2 % (10 : Int64))), .second, .unset, .unset] [(.long (((48 : Int64) + ((x2 / (10000000 : Int64)) % (10 : Int64))) ||| (((48 : Int64) + ((x2 / (1000000 : Int64)) % (10 : Int64))) <<< ((8 : Int32) &&& 0x3f).toInt64)))])) rfl (hb hby at_110) _ k) ?_
  show OwnOut p e s below 0 0 _ (T.setTop (mkF m 113 #[.val (.long x0), .second, .val (.long x2), .second, .val (.long ((x2 / (10000000 : Int64)) % (10 : Int64))), .second, .val (.long ((x2 / (1000000 : Int64)) % (10 : Int64))), .second, .val (.long ((x2 / (100000 : Int64)) % (10 : Int64))), .second, .val (.long ((x2 / (10000 : Int64)) % (10 : Int64))), .second, .val (.long ((x2 / (1000 : Int64)) % (10 : Int64))), .second, .val (.long ((x2 / (100 : Int64)) % (10 : Int64))), .second, .val (.long ((x2 / (10 : Int64)) % (10 : Int64))), .second, .val (.long (x2 % (10 : Int64))), .second, .unset, .unset] [(.long (48 : Int64)), (.long (((48 : Int64) + ((x2 / (10000000 : Int64)) % (10 : Int64))) ||| (((48 : Int64) + ((x2 / (1000000 : Int64)) % (10 : Int64))) <<< ((8 : Int32) &&& 0x3f).toInt64)))]))
  refine OwnOut.go (fun t k => XS.lload X0.here hx rfl (hb hby at_113) rfl k) ?_
  show OwnOut p e s below 0 0 _ (T.setTop (mkF m 115 #[.val (.long x0), .second, .val (.long x2), .second, .val (.long ((x2 / (10000000 : Int64)) % (10 : Int64))), .second, .val (.long ((x2 / (1000000 : Int64)) % (10 : Int64))), .second, .val (.long ((x2 / (100000 : Int64)) % (10 : Int64))), .second, .val (.long ((x2 / (10000 : Int64)) % (10 : Int64))), .second, .val (.long ((x2 / (1000 : Int64)) % (10 : Int64))), .second, .val (.long ((x2 / (100 : Int64)) % (10 : Int64))), .second, .val (.long ((x2 / (10 : Int64)) % (10 : Int64))), .second, .val (.long (x2 % (10 : Int64))), .second, .unset, .unset] [(.long ((x2 / (100000 : Int64)) % (10 : Int64))), (.long (48 : Int64)), (.long (((48 : Int64) + ((x2 / (10000000 : Int64)) % (10 : Int64))) ||| (((48 : Int64) + ((x2 / (1000000 : Int64)) % (10 : Int64))) <<< ((8 : Int32) &&& 0x3f).toInt64)))]))
  refine OwnOut.go (fun t k => XS.ladd X0.here hx rfl (hb hby at_115) rfl k) ?_
  show OwnOut p e s below 0 0 _ (T.setTop (mkF m 116 #[.val (.long x0), .second, .val (.long x2), .second, .val (.long ((x2 / (10000000 : Int64)) % (10 : Int64))), .second, .val (.long ((x2 / (1000000 : Int64)) % (10 : Int64))), .second, .val (.long ((x2 / (100000 : Int64)) % (10 : Int64))), .second, .val (.long ((x2 / (10000 : Int64)) % (10 : Int64))), .second, .val (.long ((x2 / (1000 : Int64)) % (10 : Int64))), .second, .val (.long ((x2 / (100 : Int64)) % (10 : Int64))), .second, .val (.long ((x2 / (10 : Int64)) % (10 : Int64))), .second, .val (.long (x2 % (10 : Int64))), .second, .unset, .unset] [(.long ((48 : Int64) + ((x2 / (100000 : Int64)) % (10 : Int64)))), (.long (((48 : Int64) + ((x2 / (10000000 : Int64)) % (10 : Int64))) ||| (((48 : Int64) + ((x2 / (1000000 : Int64)) % (10 : Int64))) <<< ((8 : Int32) &&& 0x3f).toInt64)))]))
  refine OwnOut.go (fun t k => XT.bipushV X0.here hx rfl (16 : Int32) (hb hby at_116) rfl k) ?_
  show OwnOut p e s below 0 0 _ (T.setTop (mkF m 118 #[.val (.long x0), .second, .val (.long x2), .second, .val (.long ((x2 / (10000000 : Int64)) % (10 : Int64))), .second, .val (.long ((x2 / (1000000 : Int64)) % (10 : Int64))), .second, .val (.long ((x2 / (100000 : Int64)) % (10 : Int64))), .second, .val (.long ((x2 / (10000 : Int64)) % (10 : Int64))), .second, .val (.long ((x2 / (1000 : Int64)) % (10 : Int64))), .second, .val (.long ((x2 / (100 : Int64)) % (10 : Int64))), .second, .val (.long ((x2 / (10 : Int64)) % (10 : Int64))), .second, .val (.long (x2 % (10 : Int64))), .second, .unset, .unset] [(.int (16 : Int32)), (.long ((48 : Int64) + ((x2 / (100000 : Int64)) % (10 : Int64)))), (.long (((48 : Int64) + ((x2 / (10000000 : Int64)) % (10 : Int64))) ||| (((48 : Int64) + ((x2 / (1000000 : Int64)) % (10 : Int64))) <<< ((8 : Int32) &&& 0x3f).toInt64)))]))
  refine OwnOut.go (fun t k => XS.lshl X0.here hx rfl (hb hby at_118) rfl k) ?_
  show OwnOut p e s below 0 0 _ (T.setTop (mkF m 119 #[.val (.long x0), .second, .val (.long x2), .second, .val (.long ((x2 / (10000000 : Int64)) % (10 : Int64))), .second, .val (.long ((x2 / (1000000 : Int64)) % (10 : Int64))), .second, .val (.long ((x2 / (100000 : Int64)) % (10 : Int64))), .second, .val (.long ((x2 / (10000 : Int64)) % (10 : Int64))), .second, .val (.long ((x2 / (1000 : Int64)) % (10 : Int64))), .second, .val (.long ((x2 / (100 : Int64)) % (10 : Int64))), .second, .val (.long ((x2 / (10 : Int64)) % (10 : Int64))), .second, .val (.long (x2 % (10 : Int64))), .second, .unset, .unset] [(.long (((48 : Int64) + ((x2 / (100000 : Int64)) % (10 : Int64))) <<< ((16 : Int32) &&& 0x3f).toInt64)), (.long (((48 : Int64) + ((x2 / (10000000 : Int64)) % (10 : Int64))) ||| (((48 : Int64) + ((x2 / (1000000 : Int64)) % (10 : Int64))) <<< ((8 : Int32) &&& 0x3f).toInt64)))]))
  refine OwnOut.go (fun t k => XS.lor X0.here hx rfl (hb hby at_119) rfl k) ?_
  show OwnOut p e s below 0 0 _ (T.setTop (mkF m 120 #[.val (.long x0), .second, .val (.long x2), .second, .val (.long ((x2 / (10000000 : Int64)) % (10 : Int64))), .second, .val (.long ((x2 / (1000000 : Int64)) % (10 : Int64))), .second, .val (.long ((x2 / (100000 : Int64)) % (10 : Int64))), .second, .val (.long ((x2 / (10000 : Int64)) % (10 : Int64))), .second, .val (.long ((x2 / (1000 : Int64)) % (10 : Int64))), .second, .val (.long ((x2 / (100 : Int64)) % (10 : Int64))), .second, .val (.long ((x2 / (10 : Int64)) % (10 : Int64))), .second, .val (.long (x2 % (10 : Int64))), .second, .unset, .unset] [(.long ((((48 : Int64) + ((x2 / (10000000 : Int64)) % (10 : Int64))) ||| (((48 : Int64) + ((x2 / (1000000 : Int64)) % (10 : Int64))) <<< ((8 : Int32) &&& 0x3f).toInt64)) ||| (((48 : Int64) + ((x2 / (100000 : Int64)) % (10 : Int64))) <<< ((16 : Int32) &&& 0x3f).toInt64)))]))
  refine OwnOut.go (fun t k => X0.ldc2Long hx hown (mvT hZ (hw _ (List.mem_of_getElem? (i := 9) rfl))) (g := (mkF m 120 #[.val (.long x0), .second, .val (.long x2), .second, .val (.long ((x2 / (10000000 : Int64)) % (10 : Int64))), .second, .val (.long ((x2 / (1000000 : Int64)) % (10 : Int64))), .second, .val (.long ((x2 / (100000 : Int64)) % (10 : Int64))), .second, .val (.long ((x2 / (10000 : Int64)) % (10 : Int64))), .second, .val (.long ((x2 / (1000 : Int64)) % (10 : Int64))), .second, .val (.long ((x2 / (100 : Int64)) % (10 : Int64))), .second, .val (.long ((x2 / (10 : Int64)) % (10 : Int64))), .second, .val (.long (x2 % (10 : Int64))), .second, .unset, .unset] [(.long ((((48 : Int64) + ((x2 / (10000000 : Int64)) % (10 : Int64))) ||| (((48 : Int64) + ((x2 / (1000000 : Int64)) % (10 : Int64))) <<< ((8 : Int32) &&& 0x3f).toInt64)) ||| (((48 : Int64) + ((x2 / (100000 : Int64)) % (10 : Int64))) <<< ((16 : Int32) &&& 0x3f).toInt64)))])) rfl (hb hby at_120) _ k) ?_
  show OwnOut p e s below 0 0 _ (T.setTop (mkF m 123 #[.val (.long x0), .second, .val (.long x2), .second, .val (.long ((x2 / (10000000 : Int64)) % (10 : Int64))), .second, .val (.long ((x2 / (1000000 : Int64)) % (10 : Int64))), .second, .val (.long ((x2 / (100000 : Int64)) % (10 : Int64))), .second, .val (.long ((x2 / (10000 : Int64)) % (10 : Int64))), .second, .val (.long ((x2 / (1000 : Int64)) % (10 : Int64))), .second, .val (.long ((x2 / (100 : Int64)) % (10 : Int64))), .second, .val (.long ((x2 / (10 : Int64)) % (10 : Int64))), .second, .val (.long (x2 % (10 : Int64))), .second, .unset, .unset] [(.long (48 : Int64)), (.long ((((48 : Int64) + ((x2 / (10000000 : Int64)) % (10 : Int64))) ||| (((48 : Int64) + ((x2 / (1000000 : Int64)) % (10 : Int64))) <<< ((8 : Int32) &&& 0x3f).toInt64)) ||| (((48 : Int64) + ((x2 / (100000 : Int64)) % (10 : Int64))) <<< ((16 : Int32) &&& 0x3f).toInt64)))]))
  refine OwnOut.go (fun t k => XS.lload X0.here hx rfl (hb hby at_123) rfl k) ?_
  show OwnOut p e s below 0 0 _ (T.setTop (mkF m 125 #[.val (.long x0), .second, .val (.long x2), .second, .val (.long ((x2 / (10000000 : Int64)) % (10 : Int64))), .second, .val (.long ((x2 / (1000000 : Int64)) % (10 : Int64))), .second, .val (.long ((x2 / (100000 : Int64)) % (10 : Int64))), .second, .val (.long ((x2 / (10000 : Int64)) % (10 : Int64))), .second, .val (.long ((x2 / (1000 : Int64)) % (10 : Int64))), .second, .val (.long ((x2 / (100 : Int64)) % (10 : Int64))), .second, .val (.long ((x2 / (10 : Int64)) % (10 : Int64))), .second, .val (.long (x2 % (10 : Int64))), .second, .unset, .unset] [(.long ((x2 / (10000 : Int64)) % (10 : Int64))), (.long (48 : Int64)), (.long ((((48 : Int64) + ((x2 / (10000000 : Int64)) % (10 : Int64))) ||| (((48 : Int64) + ((x2 / (1000000 : Int64)) % (10 : Int64))) <<< ((8 : Int32) &&& 0x3f).toInt64)) ||| (((48 : Int64) + ((x2 / (100000 : Int64)) % (10 : Int64))) <<< ((16 : Int32) &&& 0x3f).toInt64)))]))
  refine OwnOut.go (fun t k => XS.ladd X0.here hx rfl (hb hby at_125) rfl k) ?_
  show OwnOut p e s below 0 0 _ (T.setTop (mkF m 126 #[.val (.long x0), .second, .val (.long x2), .second, .val (.long ((x2 / (10000000 : Int64)) % (10 : Int64))), .second, .val (.long ((x2 / (1000000 : Int64)) % (10 : Int64))), .second, .val (.long ((x2 / (100000 : Int64)) % (10 : Int64))), .second, .val (.long ((x2 / (10000 : Int64)) % (10 : Int64))), .second, .val (.long ((x2 / (1000 : Int64)) % (10 : Int64))), .second, .val (.long ((x2 / (100 : Int64)) % (10 : Int64))), .second, .val (.long ((x2 / (10 : Int64)) % (10 : Int64))), .second, .val (.long (x2 % (10 : Int64))), .second, .unset, .unset] [(.long ((48 : Int64) + ((x2 / (10000 : Int64)) % (10 : Int64)))), (.long ((((48 : Int64) + ((x2 / (10000000 : Int64)) % (10 : Int64))) ||| (((48 : Int64) + ((x2 / (1000000 : Int64)) % (10 : Int64))) <<< ((8 : Int32) &&& 0x3f).toInt64)) ||| (((48 : Int64) + ((x2 / (100000 : Int64)) % (10 : Int64))) <<< ((16 : Int32) &&& 0x3f).toInt64)))]))
  refine OwnOut.go (fun t k => XT.bipushV X0.here hx rfl (24 : Int32) (hb hby at_126) rfl k) ?_
  show OwnOut p e s below 0 0 _ (T.setTop (mkF m 128 #[.val (.long x0), .second, .val (.long x2), .second, .val (.long ((x2 / (10000000 : Int64)) % (10 : Int64))), .second, .val (.long ((x2 / (1000000 : Int64)) % (10 : Int64))), .second, .val (.long ((x2 / (100000 : Int64)) % (10 : Int64))), .second, .val (.long ((x2 / (10000 : Int64)) % (10 : Int64))), .second, .val (.long ((x2 / (1000 : Int64)) % (10 : Int64))), .second, .val (.long ((x2 / (100 : Int64)) % (10 : Int64))), .second, .val (.long ((x2 / (10 : Int64)) % (10 : Int64))), .second, .val (.long (x2 % (10 : Int64))), .second, .unset, .unset] [(.int (24 : Int32)), (.long ((48 : Int64) + ((x2 / (10000 : Int64)) % (10 : Int64)))), (.long ((((48 : Int64) + ((x2 / (10000000 : Int64)) % (10 : Int64))) ||| (((48 : Int64) + ((x2 / (1000000 : Int64)) % (10 : Int64))) <<< ((8 : Int32) &&& 0x3f).toInt64)) ||| (((48 : Int64) + ((x2 / (100000 : Int64)) % (10 : Int64))) <<< ((16 : Int32) &&& 0x3f).toInt64)))]))
  refine OwnOut.go (fun t k => XS.lshl X0.here hx rfl (hb hby at_128) rfl k) ?_
  show OwnOut p e s below 0 0 _ (T.setTop (mkF m 129 #[.val (.long x0), .second, .val (.long x2), .second, .val (.long ((x2 / (10000000 : Int64)) % (10 : Int64))), .second, .val (.long ((x2 / (1000000 : Int64)) % (10 : Int64))), .second, .val (.long ((x2 / (100000 : Int64)) % (10 : Int64))), .second, .val (.long ((x2 / (10000 : Int64)) % (10 : Int64))), .second, .val (.long ((x2 / (1000 : Int64)) % (10 : Int64))), .second, .val (.long ((x2 / (100 : Int64)) % (10 : Int64))), .second, .val (.long ((x2 / (10 : Int64)) % (10 : Int64))), .second, .val (.long (x2 % (10 : Int64))), .second, .unset, .unset] [(.long (((48 : Int64) + ((x2 / (10000 : Int64)) % (10 : Int64))) <<< ((24 : Int32) &&& 0x3f).toInt64)), (.long ((((48 : Int64) + ((x2 / (10000000 : Int64)) % (10 : Int64))) ||| (((48 : Int64) + ((x2 / (1000000 : Int64)) % (10 : Int64))) <<< ((8 : Int32) &&& 0x3f).toInt64)) ||| (((48 : Int64) + ((x2 / (100000 : Int64)) % (10 : Int64))) <<< ((16 : Int32) &&& 0x3f).toInt64)))]))
  refine OwnOut.go (fun t k => XS.lor X0.here hx rfl (hb hby at_129) rfl k) ?_
  show OwnOut p e s below 0 0 _ (T.setTop (mkF m 130 #[.val (.long x0), .second, .val (.long x2), .second, .val (.long ((x2 / (10000000 : Int64)) % (10 : Int64))), .second, .val (.long ((x2 / (1000000 : Int64)) % (10 : Int64))), .second, .val (.long ((x2 / (100000 : Int64)) % (10 : Int64))), .second, .val (.long ((x2 / (10000 : Int64)) % (10 : Int64))), .second, .val (.long ((x2 / (1000 : Int64)) % (10 : Int64))), .second, .val (.long ((x2 / (100 : Int64)) % (10 : Int64))), .second, .val (.long ((x2 / (10 : Int64)) % (10 : Int64))), .second, .val (.long (x2 % (10 : Int64))), .second, .unset, .unset] [(.long (((((48 : Int64) + ((x2 / (10000000 : Int64)) % (10 : Int64))) ||| (((48 : Int64) + ((x2 / (1000000 : Int64)) % (10 : Int64))) <<< ((8 : Int32) &&& 0x3f).toInt64)) ||| (((48 : Int64) + ((x2 / (100000 : Int64)) % (10 : Int64))) <<< ((16 : Int32) &&& 0x3f).toInt64)) ||| (((48 : Int64) + ((x2 / (10000 : Int64)) % (10 : Int64))) <<< ((24 : Int32) &&& 0x3f).toInt64)))]))
  refine OwnOut.go (fun t k => X0.ldc2Long hx hown (mvT hZ (hw _ (List.mem_of_getElem? (i := 9) rfl))) (g := (mkF m 130 #[.val (.long x0), .second, .val (.long x2), .second, .val (.long ((x2 / (10000000 : Int64)) % (10 : Int64))), .second, .val (.long ((x2 / (1000000 : Int64)) % (10 : Int64))), .second, .val (.long ((x2 / (100000 : Int64)) % (10 : Int64))), .second, .val (.long ((x2 / (10000 : Int64)) % (10 : Int64))), .second, .val (.long ((x2 / (1000 : Int64)) % (10 : Int64))), .second, .val (.long ((x2 / (100 : Int64)) % (10 : Int64))), .second, .val (.long ((x2 / (10 : Int64)) % (10 : Int64))), .second, .val (.long (x2 % (10 : Int64))), .second, .unset, .unset] [(.long (((((48 : Int64) + ((x2 / (10000000 : Int64)) % (10 : Int64))) ||| (((48 : Int64) + ((x2 / (1000000 : Int64)) % (10 : Int64))) <<< ((8 : Int32) &&& 0x3f).toInt64)) ||| (((48 : Int64) + ((x2 / (100000 : Int64)) % (10 : Int64))) <<< ((16 : Int32) &&& 0x3f).toInt64)) ||| (((48 : Int64) + ((x2 / (10000 : Int64)) % (10 : Int64))) <<< ((24 : Int32) &&& 0x3f).toInt64)))])) rfl (hb hby at_130) _ k) ?_
  show OwnOut p e s below 0 0 _ (T.setTop (mkF m 133 #[.val (.long x0), .second, .val (.long x2), .second, .val (.long ((x2 / (10000000 : Int64)) % (10 : Int64))), .second, .val (.long ((x2 / (1000000 : Int64)) % (10 : Int64))), .second, .val (.long ((x2 / (100000 : Int64)) % (10 : Int64))), .second, .val (.long ((x2 / (10000 : Int64)) % (10 : Int64))), .second, .val (.long ((x2 / (1000 : Int64)) % (10 : Int64))), .second, .val (.long ((x2 / (100 : Int64)) % (10 : Int64))), .second, .val (.long ((x2 / (10 : Int64)) % (10 : Int64))), .second, .val (.long (x2 % (10 : Int64))), .second, .unset, .unset] [(.long (48 : Int64)), (.long (((((48 : Int64) + ((x2 / (10000000 : Int64)) % (10 : Int64))) ||| (((48 : Int64) + ((x2 / (1000000 : Int64)) % (10 : Int64))) <<< ((8 : Int32) &&& 0x3f).toInt64)) ||| (((48 : Int64) + ((x2 / (100000 : Int64)) % (10 : Int64))) <<< ((16 : Int32) &&& 0x3f).toInt64)) ||| (((48 : Int64) + ((x2 / (10000 : Int64)) % (10 : Int64))) <<< ((24 : Int32) &&& 0x3f).toInt64)))]))
  refine OwnOut.go (fun t k => XS.lload X0.here hx rfl (hb hby at_133) rfl k) ?_
  show OwnOut p e s below 0 0 _ (T.setTop (mkF m 135 #[.val (.long x0), .second, .val (.long x2), .second, .val (.long ((x2 / (10000000 : Int64)) % (10 : Int64))), .second, .val (.long ((x2 / (1000000 : Int64)) % (10 : Int64))), .second, .val (.long ((x2 / (100000 : Int64)) % (10 : Int64))), .second, .val (.long ((x2 / (10000 : Int64)) % (10 : Int64))), .second, .val (.long ((x2 / (1000 : Int64)) % (10 : Int64))), .second, .val (.long ((x2 / (100 : Int64)) % (10 : Int64))), .second, .val (.long ((x2 / (10 : Int64)) % (10 : Int64))), .second, .val (.long (x2 % (10 : Int64))), .second, .unset, .unset] [(.long ((x2 / (1000 : Int64)) % (10 : Int64))), (.long (48 : Int64)), (.long (((((48 : Int64) + ((x2 / (10000000 : Int64)) % (10 : Int64))) ||| (((48 : Int64) + ((x2 / (1000000 : Int64)) % (10 : Int64))) <<< ((8 : Int32) &&& 0x3f).toInt64)) ||| (((48 : Int64) + ((x2 / (100000 : Int64)) % (10 : Int64))) <<< ((16 : Int32) &&& 0x3f).toInt64)) ||| (((48 : Int64) + ((x2 / (10000 : Int64)) % (10 : Int64))) <<< ((24 : Int32) &&& 0x3f).toInt64)))]))
  refine OwnOut.go (fun t k => XS.ladd X0.here hx rfl (hb hby at_135) rfl k) ?_
  show OwnOut p e s below 0 0 _ (T.setTop (mkF m 136 #[.val (.long x0), .second, .val (.long x2), .second, .val (.long ((x2 / (10000000 : Int64)) % (10 : Int64))), .second, .val (.long ((x2 / (1000000 : Int64)) % (10 : Int64))), .second, .val (.long ((x2 / (100000 : Int64)) % (10 : Int64))), .second, .val (.long ((x2 / (10000 : Int64)) % (10 : Int64))), .second, .val (.long ((x2 / (1000 : Int64)) % (10 : Int64))), .second, .val (.long ((x2 / (100 : Int64)) % (10 : Int64))), .second, .val (.long ((x2 / (10 : Int64)) % (10 : Int64))), .second, .val (.long (x2 % (10 : Int64))), .second, .unset, .unset] [(.long ((48 : Int64) + ((x2 / (1000 : Int64)) % (10 : Int64)))), (.long (((((48 : Int64) + ((x2 / (10000000 : Int64)) % (10 : Int64))) ||| (((48 : Int64) + ((x2 / (1000000 : Int64)) % (10 : Int64))) <<< ((8 : Int32) &&& 0x3f).toInt64)) ||| (((48 : Int64) + ((x2 / (100000 : Int64)) % (10 : Int64))) <<< ((16 : Int32) &&& 0x3f).toInt64)) ||| (((48 : Int64) + ((x2 / (10000 : Int64)) % (10 : Int64))) <<< ((24 : Int32) &&& 0x3f).toInt64)))]))
  refine OwnOut.go (fun t k => XT.bipushV X0.here hx rfl (32 : Int32) (hb hby at_136) rfl k) ?_
  show OwnOut p e s below 0 0 _ (T.setTop (mkF m 138 #[.val (.long x0), .second, .val (.long x2), .second, .val (.long ((x2 / (10000000 : Int64)) % (10 : Int64))), .second, .val (.long ((x2 / (1000000 : Int64)) % (10 : Int64))), .second, .val (.long ((x2 / (100000 : Int64)) % (10 : Int64))), .second, .val (.long ((x2 / (10000 : Int64)) % (10 : Int64))), .second, .val (.long ((x2 / (1000 : Int64)) % (10 : Int64))), .second, .val (.long ((x2 / (100 : Int64)) % (10 : Int64))), .second, .val (.long ((x2 / (10 : Int64)) % (10 : Int64))), .second, .val (.long (x2 % (10 : Int64))), .second, .unset, .unset] [(.int (32 : Int32)), (.long ((48 : Int64) + ((x2 / (1000 : Int64)) % (10 : Int64)))), (.long (((((48 : Int64) + ((x2 / (10000000 : Int64)) % (10 : Int64))) ||| (((48 : Int64) + ((x2 / (1000000 : Int64)) % (10 : Int64))) <<< ((8 : Int32) &&& 0x3f).toInt64)) ||| (((48 : Int64) + ((x2 / (100000 : Int64)) % (10 : Int64))) <<< ((16 : Int32) &&& 0x3f).toInt64)) ||| (((48 : Int64) + ((x2 / (10000 : Int64)) % (10 : Int64))) <<< ((24 : Int32) &&& 0x3f).toInt64)))]))
  refine OwnOut.go (fun t k => XS.lshl X0.here hx rfl (hb hby at_138) rfl k) ?_
  show OwnOut p e s below 0 0 _ (T.setTop (mkF m 139 #[.val (.long x0), .second, .val (.long x2), .second, .val (.long ((x2 / (10000000 : Int64)) % (10 : Int64))), .second, .val (.long ((x2 / (1000000 : Int64)) % (10 : Int64))), .second, .val (.long ((x2 / (100000 : Int64)) % (10 : Int64))), .second, .val (.long ((x2 / (10000 : Int64)) % (10 : Int64))), .second, .val (.long ((x2 / (1000 : Int64)) % (10 : Int64))), .second, .val (.long ((x2 / (100 : Int64)) % (10 : Int64))), .second, .val (.long ((x2 / (10 : Int64)) % (10 : Int64))), .second, .val (.long (x2 % (10 : Int64))), .second, .unset, .unset] [(.long (((48 : Int64) + ((x2 / (1000 : Int64)) % (10 : Int64))) <<< ((32 : Int32) &&& 0x3f).toInt64)), (.long (((((48 : Int64) + ((x2 / (10000000 : Int64)) % (10 : Int64))) ||| (((48 : Int64) + ((x2 / (1000000 : Int64)) % (10 : Int64))) <<< ((8 : Int32) &&& 0x3f).toInt64)) ||| (((48 : Int64) + ((x2 / (100000 : Int64)) % (10 : Int64))) <<< ((16 : Int32) &&& 0x3f).toInt64)) ||| (((48 : Int64) + ((x2 / (10000 : Int64)) % (10 : Int64))) <<< ((24 : Int32) &&& 0x3f).toInt64)))]))
  refine OwnOut.go (fun t k => XS.lor X0.here hx rfl (hb hby at_139) rfl k) ?_
  show OwnOut p e s below 0 0 _ (T.setTop (mkF m 140 #[.val (.long x0), .second, .val (.long x2), .second, .val (.long ((x2 / (10000000 : Int64)) % (10 : Int64))), .second, .val (.long ((x2 / (1000000 : Int64)) % (10 : Int64))), .second, .val (.long ((x2 / (100000 : Int64)) % (10 : Int64))), .second, .val (.long ((x2 / (10000 : Int64)) % (10 : Int64))), .second, .val (.long ((x2 / (1000 : Int64)) % (10 : Int64))), .second, .val (.long ((x2 / (100 : Int64)) % (10 : Int64))), .second, .val (.long ((x2 / (10 : Int64)) % (10 : Int64))), .second, .val (.long (x2 % (10 : Int64))), .second, .unset, .unset] [(.long ((((((48 : Int64) + ((x2 / (10000000 : Int64)) % (10 : Int64))) ||| (((48 : Int64) + ((x2 / (1000000 : Int64)) % (10 : Int64))) <<< ((8 : Int32) &&& 0x3f).toInt64)) ||| (((48 : Int64) + ((x2 / (100000 : Int64)) % (10 : Int64))) <<< ((16 : Int32) &&& 0x3f).toInt64)) ||| (((48 : Int64) + ((x2 / (10000 : Int64)) % (10 : Int64))) <<< ((24 : Int32) &&& 0x3f).toInt64)) ||| (((48 : Int64) + ((x2 / (1000 : Int64)) % (10 : Int64))) <<< ((32 : Int32) &&& 0x3f).toInt64)))]))
  refine OwnOut.go (fun t k => X0.ldc2Long hx hown (mvT hZ (hw _ (List.mem_of_getElem? (i := 9) rfl))) (g := (mkF m 140 #[.val (.long x0), .second, .val (.long x2), .second, .val (.long ((x2 / (10000000 : Int64)) % (10 : Int64))), .second, .val (.long ((x2 / (1000000 : Int64)) % (10 : Int64))), .second, .val (.long ((x2 / (100000 : Int64)) % (10 : Int64))), .second, .val (.long ((x2 / (10000 : Int64)) % (10 : Int64))), .second, .val (.long ((x2 / (1000 : Int64)) % (10 : Int64))), .second, .val (.long ((x2 / (100 : Int64)) % (10 : Int64))), .second, .val (.long ((x2 / (10 : Int64)) % (10 : Int64))), .second, .val (.long (x2 % (10 : Int64))), .second, .unset, .unset] [(.long ((((((48 : Int64) + ((x2 / (10000000 : Int64)) % (10 : Int64))) ||| (((48 : Int64) + ((x2 / (1000000 : Int64)) % (10 : Int64))) <<< ((8 : Int32) &&& 0x3f).toInt64)) ||| (((48 : Int64) + ((x2 / (100000 : Int64)) % (10 : Int64))) <<< ((16 : Int32) &&& 0x3f).toInt64)) ||| (((48 : Int64) + ((x2 / (10000 : Int64)) % (10 : Int64))) <<< ((24 : Int32) &&& 0x3f).toInt64)) ||| (((48 : Int64) + ((x2 / (1000 : Int64)) % (10 : Int64))) <<< ((32 : Int32) &&& 0x3f).toInt64)))])) rfl (hb hby at_140) _ k) ?_
  show OwnOut p e s below 0 0 _ (T.setTop (mkF m 143 #[.val (.long x0), .second, .val (.long x2), .second, .val (.long ((x2 / (10000000 : Int64)) % (10 : Int64))), .second, .val (.long ((x2 / (1000000 : Int64)) % (10 : Int64))), .second, .val (.long ((x2 / (100000 : Int64)) % (10 : Int64))), .second, .val (.long ((x2 / (10000 : Int64)) % (10 : Int64))), .second, .val (.long ((x2 / (1000 : Int64)) % (10 : Int64))), .second, .val (.long ((x2 / (100 : Int64)) % (10 : Int64))), .second, .val (.long ((x2 / (10 : Int64)) % (10 : Int64))), .second, .val (.long (x2 % (10 : Int64))), .second, .unset, .unset] [(.long (48 : Int64)), (.long ((((((48 : Int64) + ((x2 / (10000000 : Int64)) % (10 : Int64))) ||| (((48 : Int64) + ((x2 / (1000000 : Int64)) % (10 : Int64))) <<< ((8 : Int32) &&& 0x3f).toInt64)) ||| (((48 : Int64) + ((x2 / (100000 : Int64)) % (10 : Int64))) <<< ((16 : Int32) &&& 0x3f).toInt64)) ||| (((48 : Int64) + ((x2 / (10000 : Int64)) % (10 : Int64))) <<< ((24 : Int32) &&& 0x3f).toInt64)) ||| (((48 : Int64) + ((x2 / (1000 : Int64)) % (10 : Int64))) <<< ((32 : Int32) &&& 0x3f).toInt64)))]))
  refine OwnOut.go (fun t k => XS.lload X0.here hx rfl (hb hby at_143) rfl k) ?_
  show OwnOut p e s below 0 0 _ (T.setTop (mkF m 145 #[.val (.long x0), .second, .val (.long x2), .second, .val (.long ((x2 / (10000000 : Int64)) % (10 : Int64))), .second, .val (.long ((x2 / (1000000 : Int64)) % (10 : Int64))), .second, .val (.long ((x2 / (100000 : Int64)) % (10 : Int64))), .second, .val (.long ((x2 / (10000 : Int64)) % (10 : Int64))), .second, .val (.long ((x2 / (1000 : Int64)) % (10 : Int64))), .second, .val (.long ((x2 / (100 : Int64)) % (10 : Int64))), .second, .val (.long ((x2 / (10 : Int64)) % (10 : Int64))), .second, .val (.long (x2 % (10 : Int64))), .second, .unset, .unset] [(.long ((x2 / (100 : Int64)) % (10 : Int64))), (.long (48 : Int64)), (.long ((((((48 : Int64) + ((x2 / (10000000 : Int64)) % (10 : Int64))) ||| (((48 : Int64) + ((x2 / (1000000 : Int64)) % (10 : Int64))) <<< ((8 : Int32) &&& 0x3f).toInt64)) ||| (((48 : Int64) + ((x2 / (100000 : Int64)) % (10 : Int64))) <<< ((16 : Int32) &&& 0x3f).toInt64)) ||| (((48 : Int64) + ((x2 / (10000 : Int64)) % (10 : Int64))) <<< ((24 : Int32) &&& 0x3f).toInt64)) ||| (((48 : Int64) + ((x2 / (1000 : Int64)) % (10 : Int64))) <<< ((32 : Int32) &&& 0x3f).toInt64)))]))
  refine OwnOut.go (fun t k => XS.ladd X0.here hx rfl (hb hby at_145) rfl k) ?_
  show OwnOut p e s below 0 0 _ (T.setTop (mkF m 146 #[.val (.long x0), .second, .val (.long x2), .second, .val (.long ((x2 / (10000000 : Int64)) % (10 : Int64))), .second, .val (.long ((x2 / (1000000 : Int64)) % (10 : Int64))), .second, .val (.long ((x2 / (100000 : Int64)) % (10 : Int64))), .second, .val (.long ((x2 / (10000 : Int64)) % (10 : Int64))), .second, .val (.long ((x2 / (1000 : Int64)) % (10 : Int64))), .second, .val (.long ((x2 / (100 : Int64)) % (10 : Int64))), .second, .val (.long ((x2 / (10 : Int64)) % (10 : Int64))), .second, .val (.long (x2 % (10 : Int64))), .second, .unset, .unset] [(.long ((48 : Int64) + ((x2 / (100 : Int64)) % (10 : Int64)))), (.long ((((((48 : Int64) + ((x2 / (10000000 : Int64)) % (10 : Int64))) ||| (((48 : Int64) + ((x2 / (1000000 : Int64)) % (10 : Int64))) <<< ((8 : Int32) &&& 0x3f).toInt64)) ||| (((48 : Int64) + ((x2 / (100000 : Int64)) % (10 : Int64))) <<< ((16 : Int32) &&& 0x3f).toInt64)) ||| (((48 : Int64) + ((x2 / (10000 : Int64)) % (10 : Int64))) <<< ((24 : Int32) &&& 0x3f).toInt64)) ||| (((48 : Int64) + ((x2 / (1000 : Int64)) % (10 : Int64))) <<< ((32 : Int32) &&& 0x3f).toInt64)))]))
  refine OwnOut.go (fun t k => XT.bipushV X0.here hx rfl (40 : Int32) (hb hby at_146) rfl k) ?_
  show OwnOut p e s below 0 0 _ (T.setTop (mkF m 148 #[.val (.long x0), .second, .val (.long x2), .second, .val (.long ((x2 / (10000000 : Int64)) % (10 : Int64))), .second, .val (.long ((x2 / (1000000 : Int64)) % (10 : Int64))), .second, .val (.long ((x2 / (100000 : Int64)) % (10 : Int64))), .second, .val (.long ((x2 / (10000 : Int64)) % (10 : Int64))), .second, .val (.long ((x2 / (1000 : Int64)) % (10 : Int64))), .second, .val (.long ((x2 / (100 : Int64)) % (10 : Int64))), .second, .val (.long ((x2 / (10 : Int64)) % (10 : Int64))), .second, .val (.long (x2 % (10 : Int64))), .second, .unset, .unset] [(.int (40 : Int32)), (.long ((48 : Int64) + ((x2 / (100 : Int64)) % (10 : Int64)))), (.long ((((((48 : Int64) + ((x2 / (10000000 : Int64)) % (10 : Int64))) ||| (((48 : Int64) + ((x2 / (1000000 : Int64)) % (10 : Int64))) <<< ((8 : Int32) &&& 0x3f).toInt64)) ||| (((48 : Int64) + ((x2 / (100000 : Int64)) % (10 : Int64))) <<< ((16 : Int32) &&& 0x3f).toInt64)) ||| (((48 : Int64) + ((x2 / (10000 : Int64)) % (10 : Int64))) <<< ((24 : Int32) &&& 0x3f).toInt64)) ||| (((48 : Int64) + ((x2 / (1000 : Int64)) % (10 : Int64))) <<< ((32 : Int32) &&& 0x3f).toInt64)))]))
  refine OwnOut.go (fun t k => XS.lshl X0.here hx rfl (hb hby at_148) rfl k) ?_
  show OwnOut p e s below 0 0 _ (T.setTop (mkF m 149 #[.val (.long x0), .second, .val (.long x2), .second, .val (.long ((x2 / (10000000 : Int64)) % (10 : Int64))), .second, .val (.long ((x2 / (1000000 : Int64)) % (10 : Int64))), .second, .val (.long ((x2 / (100000 : Int64)) % (10 : Int64))), .second, .val (.long ((x2 / (10000 : Int64)) % (10 : Int64))), .second, .val (.long ((x2 / (1000 : Int64)) % (10 : Int64))), .second, .val (.long ((x2 / (100 : Int64)) % (10 : Int64))), .second, .val (.long ((x2 / (10 : Int64)) % (10 : Int64))), .second, .val (.long (x2 % (10 : Int64))), .second, .unset, .unset] [(.long (((48 : Int64) + ((x2 / (100 : Int64)) % (10 : Int64))) <<< ((40 : Int32) &&& 0x3f).toInt64)), (.long ((((((48 : Int64) + ((x2 / (10000000 : Int64)) % (10 : Int64))) ||| (((48 : Int64) + ((x2 / (1000000 : Int64)) % (10 : Int64))) <<< ((8 : Int32) &&& 0x3f).toInt64)) ||| (((48 : Int64) + ((x2 / (100000 : Int64)) % (10 : Int64))) <<< ((16 : Int32) &&& 0x3f).toInt64)) ||| (((48 : Int64) + ((x2 / (10000 : Int64)) % (10 : Int64))) <<< ((24 : Int32) &&& 0x3f).toInt64)) ||| (((48 : Int64) + ((x2 / (1000 : Int64)) % (10 : Int64))) <<< ((32 : Int32) &&& 0x3f).toInt64)))]))
  refine OwnOut.go (fun t k => XS.lor X0.here hx rfl (hb hby at_149) rfl k) ?_
  show OwnOut p e s below 0 0 _ (T.setTop (mkF m 150 #[.val (.long x0), .second, .val (.long x2), .second, .val (.long ((x2 / (10000000 : Int64)) % (10 : Int64))), .second, .val (.long ((x2 / (1000000 : Int64)) % (10 : Int64))), .second, .val (.long ((x2 / (100000 : Int64)) % (10 : Int64))), .second, .val (.long ((x2 / (10000 : Int64)) % (10 : Int64))), .second, .val (.long ((x2 / (1000 : Int64)) % (10 : Int64))), .second, .val (.long ((x2 / (100 : Int64)) % (10 : Int64))), .second, .val (.long ((x2 / (10 : Int64)) % (10 : Int64))), .second, .val (.long (x2 % (10 : Int64))), .second, .unset, .unset] [(.long (((((((48 : Int64) + ((x2 / (10000000 : Int64)) % (10 : Int64))) ||| (((48 : Int64) + ((x2 / (1000000 : Int64)) % (10 : Int64))) <<< ((8 : Int32) &&& 0x3f).toInt64)) ||| (((48 : Int64) + ((x2 / (100000 : Int64)) % (10 : Int64))) <<< ((16 : Int32) &&& 0x3f).toInt64)) ||| (((48 : Int64) + ((x2 / (10000 : Int64)) % (10 : Int64))) <<< ((24 : Int32) &&& 0x3f).toInt64)) ||| (((48 : Int64) + ((x2 / (1000 : Int64)) % (10 : Int64))) <<< ((32 : Int32) &&& 0x3f).toInt64)) ||| (((48 : Int64) + ((x2 / (100 : Int64)) % (10 : Int64))) <<< ((40 : Int32) &&& 0x3f).toInt64)))]))
  refine OwnOut.go (fun t k => X0.ldc2Long hx hown (mvT hZ (hw _ (List.mem_of_getElem? (i := 9) rfl))) (g := (mkF m 150 #[.val (.long x0), .second, .val (.long x2), .second, .val (.long ((x2 / (10000000 : Int64)) % (10 : Int64))), .second, .val (.long ((x2 / (1000000 : Int64)) % (10 : Int64))), .second, .val (.long ((x2 / (100000 : Int64)) % (10 : Int64))), .second, .val (.long ((x2 / (10000 : Int64)) % (10 : Int64))), .second, .val (.long ((x2 / (1000 : Int64)) % (10 : Int64))), .second, .val (.long ((x2 / (100 : Int64)) % (10 : Int64))), .second, .val (.long ((x2 / (10 : Int64)) % (10 : Int64))), .second, .val (.long (x2 % (10 : Int64))), .second, .unset, .unset] [(.long (((((((48 : Int64) + ((x2 / (10000000 : Int64)) % (10 : Int64))) ||| (((48 : Int64) + ((x2 / (1000000 : Int64)) % (10 : Int64))) <<< ((8 : Int32) &&& 0x3f).toInt64)) ||| (((48 : Int64) + ((x2 / (100000 : Int64)) % (10 : Int64))) <<< ((16 : Int32) &&& 0x3f).toInt64)) ||| (((48 : Int64) + ((x2 / (10000 : Int64)) % (10 : Int64))) <<< ((24 : Int32) &&& 0x3f).toInt64)) ||| (((48 : Int64) + ((x2 / (1000 : Int64)) % (10 : Int64))) <<< ((32 : Int32) &&& 0x3f).toInt64)) ||| (((48 : Int64) + ((x2 / (100 : Int64)) % (10 : Int64))) <<< ((40 : Int32) &&& 0x3f).toInt64)))])) rfl (hb hby at_150) _ k) ?_
  show OwnOut p e s below 0 0 _ (T.setTop (mkF m 153 #[.val (.long x0), .second, .val (.long x2), .second, .val (.long ((x2 / (10000000 : Int64)) % (10 : Int64))), .second, .val (.long ((x2 / (1000000 : Int64)) % (10 : Int64))), .second, .val (.long ((x2 / (100000 : Int64)) % (10 : Int64))), .second, .val (.long ((x2 / (10000 : Int64)) % (10 : Int64))), .second, .val (.long ((x2 / (1000 : Int64)) % (10 : Int64))), .second, .val (.long ((x2 / (100 : Int64)) % (10 : Int64))), .second, .val (.long ((x2 / (10 : Int64)) % (10 : Int64))), .second, .val (.long (x2 % (10 : Int64))), .second, .unset, .unset] [(.long (48 : Int64)), (.long (((((((48 : Int64) + ((x2 / (10000000 : Int64)) % (10 : Int64))) ||| (((48 : Int64) + ((x2 / (1000000 : Int64)) % (10 : Int64))) <<< ((8 : Int32) &&& 0x3f).toInt64)) ||| (((48 : Int64) + ((x2 / (100000 : Int64)) % (10 : Int64))) <<< ((16 : Int32) &&& 0x3f).toInt64)) ||| (((48 : Int64) + ((x2 / (10000 : Int64)) % (10 : Int64))) <<< ((24 : Int32) &&& 0x3f).toInt64)) ||| (((48 : Int64) + ((x2 / (1000 : Int64)) % (10 : Int64))) <<< ((32 : Int32) &&& 0x3f).toInt64)) ||| (((48 : Int64) + ((x2 / (100 : Int64)) % (10 : Int64))) <<< ((40 : Int32) &&& 0x3f).toInt64)))]))
  refine OwnOut.go (fun t k => XS.lload X0.here hx rfl (hb hby at_153) rfl k) ?_
  show OwnOut p e s below 0 0 _ (T.setTop (mkF m 155 #[.val (.long x0), .second, .val (.long x2), .second, .val (.long ((x2 / (10000000 : Int64)) % (10 : Int64))), .second, .val (.long ((x2 / (1000000 : Int64)) % (10 : Int64))), .second, .val (.long ((x2 / (100000 : Int64)) % (10 : Int64))), .second, .val (.long ((x2 / (10000 : Int64)) % (10 : Int64))), .second, .val (.long ((x2 / (1000 : Int64)) % (10 : Int64))), .second, .val (.long ((x2 / (100 : Int64)) % (10 : Int64))), .second, .val (.long ((x2 / (10 : Int64)) % (10 : Int64))), .second, .val (.long (x2 % (10 : Int64))), .second, .unset, .unset] [(.long ((x2 / (10 : Int64)) % (10 : Int64))), (.long (48 : Int64)), (.long (((((((48 : Int64) + ((x2 / (10000000 : Int64)) % (10 : Int64))) ||| (((48 : Int64) + ((x2 / (1000000 : Int64)) % (10 : Int64))) <<< ((8 : Int32) &&& 0x3f).toInt64)) ||| (((48 : Int64) + ((x2 / (100000 : Int64)) % (10 : Int64))) <<< ((16 : Int32) &&& 0x3f).toInt64)) ||| (((48 : Int64) + ((x2 / (10000 : Int64)) % (10 : Int64))) <<< ((24 : Int32) &&& 0x3f).toInt64)) ||| (((48 : Int64) + ((x2 / (1000 : Int64)) % (10 : Int64))) <<< ((32 : Int32) &&& 0x3f).toInt64)) ||| (((48 : Int64) + ((x2 / (100 : Int64)) % (10 : Int64))) <<< ((40 : Int32) &&& 0x3f).toInt64)))]))
  refine OwnOut.go (fun t k => XS.ladd X0.here hx rfl (hb hby at_155) rfl k) ?_
  show OwnOut p e s below 0 0 _ (T.setTop (mkF m 156 #[.val (.long x0), .second, .val (.long x2), .second, .val (.long ((x2 / (10000000 : Int64)) % (10 : Int64))), .second, .val (.long ((x2 / (1000000 : Int64)) % (10 : Int64))), .second, .val (.long ((x2 / (100000 : Int64)) % (10 : Int64))), .second, .val (.long ((x2 / (10000 : Int64)) % (10 : Int64))), .second, .val (.long ((x2 / (1000 : Int64)) % (10 : Int64))), .second, .val (.long ((x2 / (100 : Int64)) % (10 : Int64))), .second, .val (.long ((x2 / (10 : Int64)) % (10 : Int64))), .second, .val (.long (x2 % (10 : Int64))), .second, .unset, .unset] [(.long ((48 : Int64) + ((x2 / (10 : Int64)) % (10 : Int64)))), (.long (((((((48 : Int64) + ((x2 / (10000000 : Int64)) % (10 : Int64))) ||| (((48 : Int64) + ((x2 / (1000000 : Int64)) % (10 : Int64))) <<< ((8 : Int32) &&& 0x3f).toInt64)) ||| (((48 : Int64) + ((x2 / (100000 : Int64)) % (10 : Int64))) <<< ((16 : Int32) &&& 0x3f).toInt64)) ||| (((48 : Int64) + ((x2 / (10000 : Int64)) % (10 : Int64))) <<< ((24 : Int32) &&& 0x3f).toInt64)) ||| (((48 : Int64) + ((x2 / (1000 : Int64)) % (10 : Int64))) <<< ((32 : Int32) &&& 0x3f).toInt64)) ||| (((48 : Int64) + ((x2 / (100 : Int64)) % (10 : Int64))) <<< ((40 : Int32) &&& 0x3f).toInt64)))]))
  refine OwnOut.go (fun t k => XT.bipushV X0.here hx rfl (48 : Int32) (hb hby at_156) rfl k) ?_
  show OwnOut p e s below 0 0 _ (T.setTop (mkF m 158 #[.val (.long x0), .second, .val (.long x2), .second, .val (.long ((x2 / (10000000 : Int64)) % (10 : Int64))), .second, .val (.long ((x2 / (1000000 : Int64)) % (10 : Int64))), .second, .val (.long ((x2 / (100000 : Int64)) % (10 : Int64))), .second, .val (.long ((x2 / (10000 : Int64)) % (10 : Int64))), .second, .val (.long ((x2 / (1000 : Int64)) % (10 : Int64))), .second, .val (.long ((x2 / (100 : Int64)) % (10 : Int64))), .second, .val (.long ((x2 / (10 : Int64)) % (10 : Int64))), .second, .val (.long (x2 % (10 : Int64))), .second, .unset, .unset] [(.int (48 : Int32)), (.long ((48 : Int64) + ((x2 / (10 : Int64)) % (10 : Int64)))), (.long (((((((48 : Int64) + ((x2 / (10000000 : Int64)) % (10 : Int64))) ||| (((48 : Int64) + ((x2 / (1000000 : Int64)) % (10 : Int64))) <<< ((8 : Int32) &&& 0x3f).toInt64)) ||| (((48 : Int64) + ((x2 / (100000 : Int64)) % (10 : Int64))) <<< ((16 : Int32) &&& 0x3f).toInt64)) ||| (((48 : Int64) + ((x2 / (10000 : Int64)) % (10 : Int64))) <<< ((24 : Int32) &&& 0x3f).toInt64)) ||| (((48 : Int64) + ((x2 / (1000 : Int64)) % (10 : Int64))) <<< ((32 : Int32) &&& 0x3f).toInt64)) ||| (((48 : Int64) + ((x2 / (100 : Int64)) % (10 : Int64))) <<< ((40 : Int32) &&& 0x3f).toInt64)))]))
  refine OwnOut.go (fun t k => XS.lshl X0.here hx rfl (hb hby at_158) rfl k) ?_
  show OwnOut p e s below 0 0 _ (T.setTop (mkF m 159 #[.val (.long x0), .second, .val (.long x2), .second, .val (.long ((x2 / (10000000 : Int64)) % (10 : Int64))), .second, .val (.long ((x2 / (1000000 : Int64)) % (10 : Int64))), .second, .val (.long ((x2 / (100000 : Int64)) % (10 : Int64))), .second, .val (.long ((x2 / (10000 : Int64)) % (10 : Int64))), .second, .val (.long ((x2 / (1000 : Int64)) % (10 : Int64))), .second, .val (.long ((x2 / (100 : Int64)) % (10 : Int64))), .second, .val (.long ((x2 / (10 : Int64)) % (10 : Int64))), .second, .val (.long (x2 % (10 : Int64))), .second, .unset, .unset] [(.long (((48 : Int64) + ((x2 / (10 : Int64)) % (10 : Int64))) <<< ((48 : Int32) &&& 0x3f).toInt64)), (.long (((((((48 : Int64) + ((x2 / (10000000 : Int64)) % (10 : Int64))) ||| (((48 : Int64) + ((x2 / (1000000 : Int64)) % (10 : Int64))) <<< ((8 : Int32) &&& 0x3f).toInt64)) ||| (((48 : Int64) + ((x2 / (100000 : Int64)) % (10 : Int64))) <<< ((16 : Int32) &&& 0x3f).toInt64)) ||| (((48 : Int64) + ((x2 / (10000 : Int64)) % (10 : Int64))) <<< ((24 : Int32) &&& 0x3f).toInt64)) ||| (((48 : Int64) + ((x2 / (1000 : Int64)) % (10 : Int64))) <<< ((32 : Int32) &&& 0x3f).toInt64)) ||| (((48 : Int64) + ((x2 / (100 : Int64)) % (10 : Int64))) <<< ((40 : Int32) &&& 0x3f).toInt64)))]))
  refine OwnOut.go (fun t k => XS.lor X0.here hx rfl (hb hby at_159) rfl k) ?_
  show OwnOut p e s below 0 0 _ (T.setTop (mkF m 160 #[.val (.long x0), .second, .val (.long x2), .second, .val (.long ((x2 / (10000000 : Int64)) % (10 : Int64))), .second, .val (.long ((x2 / (1000000 : Int64)) % (10 : Int64))), .second, .val (.long ((x2 / (100000 : Int64)) % (10 : Int64))), .second, .val (.long ((x2 / (10000 : Int64)) % (10 : Int64))), .second, .val (.long ((x2 / (1000 : Int64)) % (10 : Int64))), .second, .val (.long ((x2 / (100 : Int64)) % (10 : Int64))), .second, .val (.long ((x2 / (10 : Int64)) % (10 : Int64))), .second, .val (.long (x2 % (10 : Int64))), .second, .unset, .unset] [(.long ((((((((48 : Int64) + ((x2 / (10000000 : Int64)) % (10 : Int64))) ||| (((48 : Int64) + ((x2 / (1000000 : Int64)) % (10 : Int64))) <<< ((8 : Int32) &&& 0x3f).toInt64)) ||| (((48 : Int64) + ((x2 / (100000 : Int64)) % (10 : Int64))) <<< ((16 : Int32) &&& 0x3f).toInt64)) ||| (((48 : Int64) + ((x2 / (10000 : Int64)) % (10 : Int64))) <<< ((24 : Int32) &&& 0x3f).toInt64)) ||| (((48 : Int64) + ((x2 / (1000 : Int64)) % (10 : Int64))) <<< ((32 : Int32) &&& 0x3f).toInt64)) ||| (((48 : Int64) + ((x2 / (100 : Int64)) % (10 : Int64))) <<< ((40 : Int32) &&& 0x3f).toInt64)) ||| (((48 : Int64) + ((x2 / (10 : Int64)) % (10 : Int64))) <<< ((48 : Int32) &&& 0x3f).toInt64)))]))
  refine OwnOut.go (fun t k => X0.ldc2Long hx hown (mvT hZ (hw _ (List.mem_of_getElem? (i := 9) rfl))) (g := (mkF m 160 #[.val (.long x0), .second, .val (.long x2), .second, .val (.long ((x2 / (10000000 : Int64)) % (10 : Int64))), .second, .val (.long ((x2 / (1000000 : Int64)) % (10 : Int64))), .second, .val (.long ((x2 / (100000 : Int64)) % (10 : Int64))), .second, .val (.long ((x2 / (10000 : Int64)) % (10 : Int64))), .second, .val (.long ((x2 / (1000 : Int64)) % (10 : Int64))), .second, .val (.long ((x2 / (100 : Int64)) % (10 : Int64))), .second, .val (.long ((x2 / (10 : Int64)) % (10 : Int64))), .second, .val (.long (x2 % (10 : Int64))), .second, .unset, .unset] [(.long ((((((((48 : Int64) + ((x2 / (10000000 : Int64)) % (10 : Int64))) ||| (((48 : Int64) + ((x2 / (1000000 : Int64)) % (10 : Int64))) <<< ((8 : Int32) &&& 0x3f).toInt64)) ||| (((48 : Int64) + ((x2 / (100000 : Int64)) % (10 : Int64))) <<< ((16 : Int32) &&& 0x3f).toInt64)) ||| (((48 : Int64) + ((x2 / (10000 : Int64)) % (10 : Int64))) <<< ((24 : Int32) &&& 0x3f).toInt64)) ||| (((48 : Int64) + ((x2 / (1000 : Int64)) % (10 : Int64))) <<< ((32 : Int32) &&& 0x3f).toInt64)) ||| (((48 : Int64) + ((x2 / (100 : Int64)) % (10 : Int64))) <<< ((40 : Int32) &&& 0x3f).toInt64)) ||| (((48 : Int64) + ((x2 / (10 : Int64)) % (10 : Int64))) <<< ((48 : Int32) &&& 0x3f).toInt64)))])) rfl (hb hby at_160) _ k) ?_
  show OwnOut p e s below 0 0 _ (T.setTop (mkF m 163 #[.val (.long x0), .second, .val (.long x2), .second, .val (.long ((x2 / (10000000 : Int64)) % (10 : Int64))), .second, .val (.long ((x2 / (1000000 : Int64)) % (10 : Int64))), .second, .val (.long ((x2 / (100000 : Int64)) % (10 : Int64))), .second, .val (.long ((x2 / (10000 : Int64)) % (10 : Int64))), .second, .val (.long ((x2 / (1000 : Int64)) % (10 : Int64))), .second, .val (.long ((x2 / (100 : Int64)) % (10 : Int64))), .second, .val (.long ((x2 / (10 : Int64)) % (10 : Int64))), .second, .val (.long (x2 % (10 : Int64))), .second, .unset, .unset] [(.long (48 : Int64)), (.long ((((((((48 : Int64) + ((x2 / (10000000 : Int64)) % (10 : Int64))) ||| (((48 : Int64) + ((x2 / (1000000 : Int64)) % (10 : Int64))) <<< ((8 : Int32) &&& 0x3f).toInt64)) ||| (((48 : Int64) + ((x2 / (100000 : Int64)) % (10 : Int64))) <<< ((16 : Int32) &&& 0x3f).toInt64)) ||| (((48 : Int64) + ((x2 / (10000 : Int64)) % (10 : Int64))) <<< ((24 : Int32) &&& 0x3f).toInt64)) ||| (((48 : Int64) + ((x2 / (1000 : Int64)) % (10 : Int64))) <<< ((32 : Int32) &&& 0x3f).toInt64)) ||| (((48 : Int64) + ((x2 / (100 : Int64)) % (10 : Int64))) <<< ((40 : Int32) &&& 0x3f).toInt64)) ||| (((48 : Int64) + ((x2 / (10 : Int64)) % (10 : Int64))) <<< ((48 : Int32) &&& 0x3f).toInt64)))]))
  refine OwnOut.go (fun t k => XS.lload X0.here hx rfl (hb hby at_163) rfl k) ?_
  show OwnOut p e s below 0 0 _ (T.setTop (mkF m 165 #[.val (.long x0), .second, .val (.long x2), .second, .val (.long ((x2 / (10000000 : Int64)) % (10 : Int64))), .second, .val (.long ((x2 / (1000000 : Int64)) % (10 : Int64))), .second, .val (.long ((x2 / (100000 : Int64)) % (10 : Int64))), .second, .val (.long ((x2 / (10000 : Int64)) % (10 : Int64))), .second, .val (.long ((x2 / (1000 : Int64)) % (10 : Int64))), .second, .val (.long ((x2 / (100 : Int64)) % (10 : Int64))), .second, .val (.long ((x2 / (10 : Int64)) % (10 : Int64))), .second, .val (.long (x2 % (10 : Int64))), .second, .unset, .unset] [(.long (x2 % (10 : Int64))), (.long (48 : Int64)), (.long ((((((((48 : Int64) + ((x2 / (10000000 : Int64)) % (10 : Int64))) ||| (((48 : Int64) + ((x2 / (1000000 : Int64)) % (10 : Int64))) <<< ((8 : Int32) &&& 0x3f).toInt64)) ||| (((48 : Int64) + ((x2 / (100000 : Int64)) % (10 : Int64))) <<< ((16 : Int32) &&& 0x3f).toInt64)) ||| (((48 : Int64) + ((x2 / (10000 : Int64)) % (10 : Int64))) <<< ((24 : Int32) &&& 0x3f).toInt64)) ||| (((48 : Int64) + ((x2 / (1000 : Int64)) % (10 : Int64))) <<< ((32 : Int32) &&& 0x3f).toInt64)) ||| (((48 : Int64) + ((x2 / (100 : Int64)) % (10 : Int64))) <<< ((40 : Int32) &&& 0x3f).toInt64)) ||| (((48 : Int64) + ((x2 / (10 : Int64)) % (10 : Int64))) <<< ((48 : Int32) &&& 0x3f).toInt64)))]))
  refine OwnOut.go (fun t k => XS.ladd X0.here hx rfl (hb hby at_165) rfl k) ?_
  show OwnOut p e s below 0 0 _ (T.setTop (mkF m 166 #[.val (.long x0), .second, .val (.long x2), .second, .val (.long ((x2 / (10000000 : Int64)) % (10 : Int64))), .second, .val (.long ((x2 / (1000000 : Int64)) % (10 : Int64))), .second, .val (.long ((x2 / (100000 : Int64)) % (10 : Int64))), .second, .val (.long ((x2 / (10000 : Int64)) % (10 : Int64))), .second, .val (.long ((x2 / (1000 : Int64)) % (10 : Int64))), .second, .val (.long ((x2 / (100 : Int64)) % (10 : Int64))), .second, .val (.long ((x2 / (10 : Int64)) % (10 : Int64))), .second, .val (.long (x2 % (10 : Int64))), .second, .unset, .unset] [(.long ((48 : Int64) + (x2 % (10 : Int64)))), (.long ((((((((48 : Int64) + ((x2 / (10000000 : Int64)) % (10 : Int64))) ||| (((48 : Int64) + ((x2 / (1000000 : Int64)) % (10 : Int64))) <<< ((8 : Int32) &&& 0x3f).toInt64)) ||| (((48 : Int64) + ((x2 / (100000 : Int64)) % (10 : Int64))) <<< ((16 : Int32) &&& 0x3f).toInt64)) ||| (((48 : Int64) + ((x2 / (10000 : Int64)) % (10 : Int64))) <<< ((24 : Int32) &&& 0x3f).toInt64)) ||| (((48 : Int64) + ((x2 / (1000 : Int64)) % (10 : Int64))) <<< ((32 : Int32) &&& 0x3f).toInt64)) ||| (((48 : Int64) + ((x2 / (100 : Int64)) % (10 : Int64))) <<< ((40 : Int32) &&& 0x3f).toInt64)) ||| (((48 : Int64) + ((x2 / (10 : Int64)) % (10 : Int64))) <<< ((48 : Int32) &&& 0x3f).toInt64)))]))
  refine OwnOut.go (fun t k => XT.bipushV X0.here hx rfl (56 : Int32) (hb hby at_166) rfl k) ?_
  show OwnOut p e s below 0 0 _ (T.setTop (mkF m 168 #[.val (.long x0), .second, .val (.long x2), .second, .val (.long ((x2 / (10000000 : Int64)) % (10 : Int64))), .second, .val (.long ((x2 / (1000000 : Int64)) % (10 : Int64))), .second, .val (.long ((x2 / (100000 : Int64)) % (10 : Int64))), .second, .val (.long ((x2 / (10000 : Int64)) % (10 : Int64))), .second, .val (.long ((x2 / (1000 : Int64)) % (10 : Int64))), .second, .val (.long ((x2 / (100 : Int64)) % (10 : Int64))), .second, .val (.long ((x2 / (10 : Int64)) % (10 : Int64))), .second, .val (.long (x2 % (10 : Int64))), .second, .unset, .unset] [(.int (56 : Int32)), (.long ((48 : Int64) + (x2 % (10 : Int64)))), (.long ((((((((48 : Int64) + ((x2 / (10000000 : Int64)) % (10 : Int64))) ||| (((48 : Int64) + ((x2 / (1000000 : Int64)) % (10 : Int64))) <<< ((8 : Int32) &&& 0x3f).toInt64)) ||| (((48 : Int64) + ((x2 / (100000 : Int64)) % (10 : Int64))) <<< ((16 : Int32) &&& 0x3f).toInt64)) ||| (((48 : Int64) + ((x2 / (10000 : Int64)) % (10 : Int64))) <<< ((24 : Int32) &&& 0x3f).toInt64)) ||| (((48 : Int64) + ((x2 / (1000 : Int64)) % (10 : Int64))) <<< ((32 : Int32) &&& 0x3f).toInt64)) ||| (((48 : Int64) + ((x2 / (100 : Int64)) % (10 : Int64))) <<< ((40 : Int32) &&& 0x3f).toInt64)) ||| (((48 : Int64) + ((x2 / (10 : Int64)) % (10 : Int64))) <<< ((48 : Int32) &&& 0x3f).toInt64)))]))
  refine OwnOut.go (fun t k => XS.lshl X0.here hx rfl (hb hby at_168) rfl k) ?_
  show OwnOut p e s below 0 0 _ (T.setTop (mkF m 169 #[.val (.long x0), .second, .val (.long x2), .second, .val (.long ((x2 / (10000000 : Int64)) % (10 : Int64))), .second, .val (.long ((x2 / (1000000 : Int64)) % (10 : Int64))), .second, .val (.long ((x2 / (100000 : Int64)) % (10 : Int64))), .second, .val (.long ((x2 / (10000 : Int64)) % (10 : Int64))), .second, .val (.long ((x2 / (1000 : Int64)) % (10 : Int64))), .second, .val (.long ((x2 / (100 : Int64)) % (10 : Int64))), .second, .val (.long ((x2 / (10 : Int64)) % (10 : Int64))), .second, .val (.long (x2 % (10 : Int64))), .second, .unset, .unset] [(.long (((48 : Int64) + (x2 % (10 : Int64))) <<< ((56 : Int32) &&& 0x3f).toInt64)), (.long ((((((((48 : Int64) + ((x2 / (10000000 : Int64)) % (10 : Int64))) ||| (((48 : Int64) + ((x2 / (1000000 : Int64)) % (10 : Int64))) <<< ((8 : Int32) &&& 0x3f).toInt64)) ||| (((48 : Int64) + ((x2 / (100000 : Int64)) % (10 : Int64))) <<< ((16 : Int32) &&& 0x3f).toInt64)) ||| (((48 : Int64) + ((x2 / (10000 : Int64)) % (10 : Int64))) <<< ((24 : Int32) &&& 0x3f).toInt64)) ||| (((48 : Int64) + ((x2 / (1000 : Int64)) % (10 : Int64))) <<< ((32 : Int32) &&& 0x3f).toInt64)) ||| (((48 : Int64) + ((x2 / (100 : Int64)) % (10 : Int64))) <<< ((40 : Int32) &&& 0x3f).toInt64)) ||| (((48 : Int64) + ((x2 / (10 : Int64)) % (10 : Int64))) <<< ((48 : Int32) &&& 0x3f).toInt64)))]))
  refine OwnOut.go (fun t k => XS.lor X0.here hx rfl (hb hby at_169) rfl k) ?_
  show OwnOut p e s below 0 0 _ (T.setTop (mkF m 170 #[.val (.long x0), .second, .val (.long x2), .second, .val (.long ((x2 / (10000000 : Int64)) % (10 : Int64))), .second, .val (.long ((x2 / (1000000 : Int64)) % (10 : Int64))), .second, .val (.long ((x2 / (100000 : Int64)) % (10 : Int64))), .second, .val (.long ((x2 / (10000 : Int64)) % (10 : Int64))), .second, .val (.long ((x2 / (1000 : Int64)) % (10 : Int64))), .second, .val (.long ((x2 / (100 : Int64)) % (10 : Int64))), .second, .val (.long ((x2 / (10 : Int64)) % (10 : Int64))), .second, .val (.long (x2 % (10 : Int64))), .second, .unset, .unset] [(.long (((((((((48 : Int64) + ((x2 / (10000000 : Int64)) % (10 : Int64))) ||| (((48 : Int64) + ((x2 / (1000000 : Int64)) % (10 : Int64))) <<< ((8 : Int32) &&& 0x3f).toInt64)) ||| (((48 : Int64) + ((x2 / (100000 : Int64)) % (10 : Int64))) <<< ((16 : Int32) &&& 0x3f).toInt64)) ||| (((48 : Int64) + ((x2 / (10000 : Int64)) % (10 : Int64))) <<< ((24 : Int32) &&& 0x3f).toInt64)) ||| (((48 : Int64) + ((x2 / (1000 : Int64)) % (10 : Int64))) <<< ((32 : Int32) &&& 0x3f).toInt64)) ||| (((48 : Int64) + ((x2 / (100 : Int64)) % (10 : Int64))) <<< ((40 : Int32) &&& 0x3f).toInt64)) ||| (((48 : Int64) + ((x2 / (10 : Int64)) % (10 : Int64))) <<< ((48 : Int32) &&& 0x3f).toInt64)) ||| (((48 : Int64) + (x2 % (10 : Int64))) <<< ((56 : Int32) &&& 0x3f).toInt64)))]))
  refine OwnOut.go (fun t k => XS.lstore X0.here hx rfl (hb hby at_170) rfl (l' := #[.val (.long x0), .second, .val (.long x2), .second, .val (.long ((x2 / (10000000 : Int64)) % (10 : Int64))), .second, .val (.long ((x2 / (1000000 : Int64)) % (10 : Int64))), .second, .val (.long ((x2 / (100000 : Int64)) % (10 : Int64))), .second, .val (.long ((x2 / (10000 : Int64)) % (10 : Int64))), .second, .val (.long ((x2 / (1000 : Int64)) % (10 : Int64))), .second, .val (.long ((x2 / (100 : Int64)) % (10 : Int64))), .second, .val (.long ((x2 / (10 : Int64)) % (10 : Int64))), .second, .val (.long (x2 % (10 : Int64))), .second, .val (.long (((((((((48 : Int64) + ((x2 / (10000000 : Int64)) % (10 : Int64))) ||| (((48 : Int64) + ((x2 / (1000000 : Int64)) % (10 : Int64))) <<< ((8 : Int32) &&& 0x3f).toInt64)) ||| (((48 : Int64) + ((x2 / (100000 : Int64)) % (10 : Int64))) <<< ((16 : Int32) &&& 0x3f).toInt64)) ||| (((48 : Int64) + ((x2 / (10000 : Int64)) % (10 : Int64))) <<< ((24 : Int32) &&& 0x3f).toInt64)) ||| (((48 : Int64) + ((x2 / (1000 : Int64)) % (10 : Int64))) <<< ((32 : Int32) &&& 0x3f).toInt64)) ||| (((48 : Int64) + ((x2 / (100 : Int64)) % (10 : Int64))) <<< ((40 : Int32) &&& 0x3f).toInt64)) ||| (((48 : Int64) + ((x2 / (10 : Int64)) % (10 : Int64))) <<< ((48 : Int32) &&& 0x3f).toInt64)) ||| (((48 : Int64) + (x2 % (10 : Int64))) <<< ((56 : Int32) &&& 0x3f).toInt64))), .second]) rfl k) ?_
  show OwnOut p e s below 0 0 _ (T.setTop (mkF m 172 #[.val (.long x0), .second, .val (.long x2), .second, .val (.long ((x2 / (10000000 : Int64)) % (10 : Int64))), .second, .val (.long ((x2 / (1000000 : Int64)) % (10 : Int64))), .second, .val (.long ((x2 / (100000 : Int64)) % (10 : Int64))), .second, .val (.long ((x2 / (10000 : Int64)) % (10 : Int64))), .second, .val (.long ((x2 / (1000 : Int64)) % (10 : Int64))), .second, .val (.long ((x2 / (100 : Int64)) % (10 : Int64))), .second, .val (.long ((x2 / (10 : Int64)) % (10 : Int64))), .second, .val (.long (x2 % (10 : Int64))), .second, .val (.long (((((((((48 : Int64) + ((x2 / (10000000 : Int64)) % (10 : Int64))) ||| (((48 : Int64) + ((x2 / (1000000 : Int64)) % (10 : Int64))) <<< ((8 : Int32) &&& 0x3f).toInt64)) ||| (((48 : Int64) + ((x2 / (100000 : Int64)) % (10 : Int64))) <<< ((16 : Int32) &&& 0x3f).toInt64)) ||| (((48 : Int64) + ((x2 / (10000 : Int64)) % (10 : Int64))) <<< ((24 : Int32) &&& 0x3f).toInt64)) ||| (((48 : Int64) + ((x2 / (1000 : Int64)) % (10 : Int64))) <<< ((32 : Int32) &&& 0x3f).toInt64)) ||| (((48 : Int64) + ((x2 / (100 : Int64)) % (10 : Int64))) <<< ((40 : Int32) &&& 0x3f).toInt64)) ||| (((48 : Int64) + ((x2 / (10 : Int64)) % (10 : Int64))) <<< ((48 : Int32) &&& 0x3f).toInt64)) ||| (((48 : Int64) + (x2 % (10 : Int64))) <<< ((56 : Int32) &&& 0x3f).toInt64))), .second] []))
  exact w0_172 x0 x2 ((x2 / (10000000 : Int64)) % (10 : Int64)) ((x2 / (1000000 : Int64)) % (10 : Int64)) ((x2 / (100000 : Int64)) % (10 : Int64)) ((x2 / (10000 : Int64)) % (10 : Int64)) ((x2 / (1000 : Int64)) % (10 : Int64)) ((x2 / (100 : Int64)) % (10 : Int64)) ((x2 / (10 : Int64)) % (10 : Int64)) (x2 % (10 : Int64)) (((((((((48 : Int64) + ((x2 / (10000000 : Int64)) % (10 : Int64))) ||| (((48 : Int64) + ((x2 / (1000000 : Int64)) % (10 : Int64))) <<< ((8 : Int32) &&& 0x3f).toInt64)) ||| (((48 : Int64) + ((x2 / (100000 : Int64)) % (10 : Int64))) <<< ((16 : Int32) &&& 0x3f).toInt64)) ||| (((48 : Int64) + ((x2 / (10000 : Int64)) % (10 : Int64))) <<< ((24 : Int32) &&& 0x3f).toInt64)) ||| (((48 : Int64) + ((x2 / (1000 : Int64)) % (10 : Int64))) <<< ((32 : Int32) &&& 0x3f).toInt64)) ||| (((48 : Int64) + ((x2 / (100 : Int64)) % (10 : Int64))) <<< ((40 : Int32) &&& 0x3f).toInt64)) ||| (((48 : Int64) + ((x2 / (10 : Int64)) % (10 : Int64))) <<< ((48 : Int32) &&& 0x3f).toInt64)) ||| (((48 : Int64) + (x2 % (10 : Int64))) <<< ((56 : Int32) &&& 0x3f).toInt64)) X0 ⟨hx, hZ, hw, hby, hml, hown, hret, hlk, hnm⟩ e0
def f0 (x0 : Int64) : Int32 := (f0_10 ((x0 &&& (2147483647 : Int64)) % (100000000 : Int64)))
set_option maxRecDepth 65536 in
set_option maxHeartbeats 40000000 in
theorem w0_0 {p : Program} {l : Launch} {e : Env} {s : State} {m : MethodId} {args : Array Value} {below : List Frame} {meth : Method} {c : Code} {T Z : State} {a0 : Array Value} {h0 : Heap} (x0 : Int64)
    (X0 : Stand p l e room_1 s m args below meth c T [] 0 0) (C : Cx0 Z a0 p s m meth c) (e0 : T.heap = h0) :
    OwnOut p e s below 0 0 (QP h0 (some (.int (f0 x0)))) (T.setTop (mkF m 0 #[.val (.long x0), .second, .unset, .unset, .unset, .unset, .unset, .unset, .unset, .unset, .unset, .unset, .unset, .unset, .unset, .unset, .unset, .unset, .unset, .unset, .unset, .unset] [])) := by
  obtain ⟨hx, hZ, hw, hby, hml, hown, hret, hlk, hnm⟩ := C
  rw [f0]
  refine OwnOut.go (fun t k => XS.lloadN X0.here hx rfl (hb hby at_0) rfl k) ?_
  show OwnOut p e s below 0 0 _ (T.setTop (mkF m 1 #[.val (.long x0), .second, .unset, .unset, .unset, .unset, .unset, .unset, .unset, .unset, .unset, .unset, .unset, .unset, .unset, .unset, .unset, .unset, .unset, .unset, .unset, .unset] [(.long x0)]))
  refine OwnOut.go (fun t k => X0.ldc2Long hx hown (mvT hZ (hw _ (List.mem_of_getElem? (i := 0) rfl))) (g := (mkF m 1 #[.val (.long x0), .second, .unset, .unset, .unset, .unset, .unset, .unset, .unset, .unset, .unset, .unset, .unset, .unset, .unset, .unset, .unset, .unset, .unset, .unset, .unset, .unset] [(.long x0)])) rfl (hb hby at_1) _ k) ?_
  show OwnOut p e s below 0 0 _ (T.setTop (mkF m 4 #[.val (.long x0), .second, .unset, .unset, .unset, .unset, .unset, .unset, .unset, .unset, .unset, .unset, .unset, .unset, .unset, .unset, .unset, .unset, .unset, .unset, .unset, .unset] [(.long (2147483647 : Int64)), (.long x0)]))
  refine OwnOut.go (fun t k => XS.land X0.here hx rfl (hb hby at_4) rfl k) ?_
  show OwnOut p e s below 0 0 _ (T.setTop (mkF m 5 #[.val (.long x0), .second, .unset, .unset, .unset, .unset, .unset, .unset, .unset, .unset, .unset, .unset, .unset, .unset, .unset, .unset, .unset, .unset, .unset, .unset, .unset, .unset] [(.long (x0 &&& (2147483647 : Int64)))]))
  refine OwnOut.go (fun t k => X0.ldc2Long hx hown (mvT hZ (hw _ (List.mem_of_getElem? (i := 1) rfl))) (g := (mkF m 5 #[.val (.long x0), .second, .unset, .unset, .unset, .unset, .unset, .unset, .unset, .unset, .unset, .unset, .unset, .unset, .unset, .unset, .unset, .unset, .unset, .unset, .unset, .unset] [(.long (x0 &&& (2147483647 : Int64)))])) rfl (hb hby at_5) _ k) ?_
  show OwnOut p e s below 0 0 _ (T.setTop (mkF m 8 #[.val (.long x0), .second, .unset, .unset, .unset, .unset, .unset, .unset, .unset, .unset, .unset, .unset, .unset, .unset, .unset, .unset, .unset, .unset, .unset, .unset, .unset, .unset] [(.long (100000000 : Int64)), (.long (x0 &&& (2147483647 : Int64)))]))
  refine OwnOut.go (fun t k => lremM X0 hx rfl (hb hby at_8) rfl (by decide) k) ?_
  show OwnOut p e s below 0 0 _ (T.setTop (mkF m 9 #[.val (.long x0), .second, .unset, .unset, .unset, .unset, .unset, .unset, .unset, .unset, .unset, .unset, .unset, .unset, .unset, .unset, .unset, .unset, .unset, .unset, .unset, .unset] [(.long ((x0 &&& (2147483647 : Int64)) % (100000000 : Int64)))]))
  refine OwnOut.go (fun t k => XS.lstoreN X0.here hx rfl (hb hby at_9) rfl (l' := #[.val (.long x0), .second, .val (.long ((x0 &&& (2147483647 : Int64)) % (100000000 : Int64))), .second, .unset, .unset, .unset, .unset, .unset, .unset, .unset, .unset, .unset, .unset, .unset, .unset, .unset, .unset, .unset, .unset, .unset, .unset]) rfl k) ?_
  show OwnOut p e s below 0 0 _ (T.setTop (mkF m 10 #[.val (.long x0), .second, .val (.long ((x0 &&& (2147483647 : Int64)) % (100000000 : Int64))), .second, .unset, .unset, .unset, .unset, .unset, .unset, .unset, .unset, .unset, .unset, .unset, .unset, .unset, .unset, .unset, .unset, .unset, .unset] []))
  exact w0_10 x0 ((x0 &&& (2147483647 : Int64)) % (100000000 : Int64)) X0 ⟨hx, hZ, hw, hby, hml, hown, hret, hlk, hnm⟩ e0
set_option maxRecDepth 65536 in
set_option maxHeartbeats 40000000 in
theorem rm0 (l : Launch) (Z : State) (a0 : Array Value) (hw : ∀ d ∈ tables_1, d.before a0 Z = true) (ws : List Jvm.Cond) (x0 : Int64) (h0 : Heap) :
    MetFree l x (head1 (Jvm.Cond.code x code maxLocals ret :: ws) room_1) (fun a U => a = #[(.long x0)] ∧ Z.Warmed39 U.vm ∧ U.heap = h0) (fun _ _ _ _ _ => True) (fun _ U o U' => ∃ v L, o = .returned v ∧ QP h0 (some (.int (f0 x0))) v U'.heap L ∧ FrameEnd U o U' L 0 0) := by
  refine MetFree.of_bodySF (plainFor_of_name pn0) hisR ?_
  intro p e s m args below meth c s₁ Bd hml0 hP hK
  obtain ⟨rfl, hZ, hh⟩ := hP
  have X0 : Stand p l e room_1 s m #[(.long x0)] below meth c s₁ [] 0 0 := Stand.of_body Bd
  have e0 : s₁.heap = h0 := by rw [← hh, Bd.state]; rfl
  exact OwnOut.at (ef0 m x0) (w0_0 x0 X0 ⟨Bd.exec, hZ, hw, Bd.bytes, hml0, findClass_of_methodNamed Bd.named, Bd.returns, Bd.notSynchronized, (name_of_methodNamed Bd.named Bd.method).1⟩ e0)
theorem own_nn (x : Int64) (h : 0 ≤ x.toInt) : x.toInt = (x.toBitVec.toNat : Int) ∧ x.toBitVec.toNat < 2 ^ 63 := by
  have h2 := x.toBitVec.isLt
  have e : x.toInt = x.toBitVec.toInt := rfl
  rw [BitVec.toInt_eq_toNat_cond] at e
  split at e <;> omega
theorem own_andI (x m : Int64) (hx : 0 ≤ x.toInt) (hm : 0 ≤ m.toInt) : (x &&& m).toInt = ((x.toInt.toNat &&& m.toInt.toNat : Nat) : Int) := by
  have h1 := own_nn x hx
  have h2 := own_nn m hm
  have h3 : (x &&& m).toBitVec.toNat = x.toBitVec.toNat &&& m.toBitVec.toNat := BitVec.toNat_and ..
  have h4 : x.toBitVec.toNat &&& m.toBitVec.toNat < 2 ^ 63 := Nat.and_lt_two_pow _ h2.2
  have e : (x &&& m).toInt = (x &&& m).toBitVec.toInt := rfl
  rw [BitVec.toInt_eq_toNat_cond, h3, if_pos (by omega)] at e
  rw [e, h1.1, h2.1, Int.toNat_natCast, Int.toNat_natCast]
theorem own_land (k a X m M : Nat) (ha : a < 2 ^ k) (hm : m < 2 ^ k) : (a + 2 ^ k * X) &&& (m + 2 ^ k * M) = (a &&& m) + 2 ^ k * (X &&& M) := by
  apply Nat.eq_of_testBit_eq
  intro i
  have h1 : a &&& m < 2 ^ k := Nat.and_lt_two_pow _ hm
  rw [Nat.testBit_and, Nat.add_comm a, Nat.add_comm m, Nat.add_comm (a &&& m), Nat.testBit_two_pow_mul_add _ ha, Nat.testBit_two_pow_mul_add _ hm, Nat.testBit_two_pow_mul_add _ h1]
  split <;> simp [Nat.testBit_and]
theorem own_full (k a : Nat) (h : a < 2 ^ k) : a &&& (2 ^ k - 1) = a := by rw [Nat.and_two_pow_sub_one_eq_mod, Nat.mod_eq_of_lt h]
theorem own_m1 (a0 a1 a2 a3 a4 a5 a6 a7 : Nat) (h0 : a0 < 256) (h1 : a1 < 256) (h2 : a2 < 256) (h3 : a3 < 256) (h4 : a4 < 256) (h5 : a5 < 256) (h6 : a6 < 256) :
    (a0 + 2 ^ 8 * (a1 + 2 ^ 8 * (a2 + 2 ^ 8 * (a3 + 2 ^ 8 * (a4 + 2 ^ 8 * (a5 + 2 ^ 8 * (a6 + 2 ^ 8 * a7))))))) &&& 71777214294589695 = a0 + 65536 * a2 + 4294967296 * a4 + 281474976710656 * a6 := by
  rw [show (71777214294589695 : Nat) = (2 ^ 8 - 1) + 2 ^ 8 * (0 + 2 ^ 8 * ((2 ^ 8 - 1) + 2 ^ 8 * (0 + 2 ^ 8 * ((2 ^ 8 - 1) + 2 ^ 8 * (0 + 2 ^ 8 * ((2 ^ 8 - 1) + 2 ^ 8 * 0)))))) from by decide]
  rw [own_land 8 a0 _ _ _ h0 (by decide), own_land 8 a1 _ _ _ h1 (by decide), own_land 8 a2 _ _ _ h2 (by decide), own_land 8 a3 _ _ _ h3 (by decide), own_land 8 a4 _ _ _ h4 (by decide), own_land 8 a5 _ _ _ h5 (by decide), own_land 8 a6 _ _ _ h6 (by decide)]
  rw [own_full 8 a0 h0, own_full 8 a2 h2, own_full 8 a4 h4, own_full 8 a6 h6]
  simp only [Nat.and_zero]
  omega
theorem own_m2 (a0 a1 a2 a3 : Nat) (h0 : a0 < 65536) (h1 : a1 < 65536) (h2 : a2 < 65536) :
    (a0 + 2 ^ 16 * (a1 + 2 ^ 16 * (a2 + 2 ^ 16 * a3))) &&& 281470681808895 = a0 + 4294967296 * a2 := by
  rw [show (281470681808895 : Nat) = (2 ^ 16 - 1) + 2 ^ 16 * (0 + 2 ^ 16 * ((2 ^ 16 - 1) + 2 ^ 16 * 0)) from by decide]
  rw [own_land 16 a0 _ _ _ h0 (by decide), own_land 16 a1 _ _ _ h1 (by decide), own_land 16 a2 _ _ _ h2 (by decide)]
  rw [own_full 16 a0 h0, own_full 16 a2 h2]
  simp only [Nat.and_zero]
  omega
theorem own_or {b a : Int64} (k : Nat) (hk : k ≤ 63) (B A P : Int) (hP : P = (2 ^ k : Nat)) (hb : b.toInt = B) (ha : a.toInt = A) (h1 : A % P = 0) (h2 : 0 ≤ B) (h3 : B < P) (h4 : A + B < 9223372036854775808) (h5 : 0 ≤ A) : (b ||| a).toInt = A + B := by
  have e := c_orL' b a k hk P hP (by rw [ha]; exact h1) (by omega) (by omega)
  have e3 := Int64.le_toInt (b ||| a)
  have e4 := Int64.toInt_lt (b ||| a)
  omega
set_option maxHeartbeats 8000000 in
theorem own_f2 (w : Int64) (t : Int) (h : w.toInt = t + 3472328296227680304) (h0 : 0 ≤ t) (h1 : t ≤ 651061555542690057) : (f2 w).toInt = 10 * t + t / 256 := by
  have e1 : (w - 3472328296227680304).toInt = t := (XT.sub64 ⟨by rw [h]; show _ ≤ _ - (3472328296227680304 : Int); omega, by rw [h]; show _ - (3472328296227680304 : Int) < _; omega⟩).trans (by rw [h]; show _ - (3472328296227680304 : Int) = _; omega)
  have e2 : ((w - 3472328296227680304) * 10).toInt = 10 * t := (XT.mul64 ⟨by rw [e1]; show _ ≤ t * 10; omega, by rw [e1]; show t * 10 < _; omega⟩).trans (by rw [e1]; show t * 10 = _; omega)
  have e3 := c_lushr (w - 3472328296227680304) 8 8 (by decide) (by decide)
  rw [e1] at e3
  have e4 : t % 18446744073709551616 / ((2 ^ 8 : Nat) : Int) = t / 256 := by omega
  rw [e4] at e3
  unfold f2
  refine (XT.add64 ⟨by rw [e2, e3]; omega, by rw [e2, e3]; omega⟩).trans ?_
  rw [e2, e3]
theorem own_lo (R L Q M : Int) (h : R = L + M * Q) (h0 : 0 ≤ L) (h1 : L < M) : R / M = Q := by
  subst h
  rw [Int.add_mul_ediv_left _ _ (by omega), Int.ediv_eq_zero_of_lt h0 h1, Int.zero_add]
theorem own_dg (v p : Int64) (P : Int) (hp : p.toInt = P) (hn : p ≠ -1) (h0 : 0 ≤ v.toInt) (hP : 0 < P) : ((v / p) % 10).toInt = v.toInt / P % 10 := by
  have e1 := (c_ldiv v p P hp hn).1 h0
  have e2 := (c_lrem (v / p) 10 10 (by decide)).1 (by rw [e1]; exact Int.ediv_nonneg h0 (by omega))
  rw [lrem_mod, e1] at e2
  exact e2
theorem own_dg7 (v : Int64) (h0 : 0 ≤ v.toInt) : (v % 10).toInt = v.toInt % 10 := by
  have e2 := (c_lrem v 10 10 (by decide)).1 h0
  rw [lrem_mod] at e2
  exact e2
theorem own_48 (d : Int64) (h0 : 0 ≤ d.toInt) (h1 : d.toInt ≤ 9) : (48 + d).toInt = 48 + d.toInt := XT.add64 ⟨by show _ ≤ 48 + d.toInt; omega, by show 48 + d.toInt < _; omega⟩
theorem own_sh (d : Int64) (q : Int32) (k : Nat) (hk : q.toBitVec.toNat % 64 = k) (hk2 : k ≤ 56) (h0 : 0 ≤ d.toInt) (h1 : d.toInt ≤ 9) : ((48 + d) <<< (q &&& 0x3f).toInt64).toInt = (48 + d.toInt) * (2 ^ k : Nat) := by
  have e2 := c_lshl (48 + d) q k hk
  have e3 := Int64.le_toInt ((48 + d) <<< (q &&& 0x3f).toInt64)
  have e4 := Int64.toInt_lt ((48 + d) <<< (q &&& 0x3f).toInt64)
  rw [own_48 d h0 h1] at e2
  have e5 : ((2 ^ k : Nat) : Int) ≤ 2 ^ 56 := by exact_mod_cast Nat.pow_le_pow_right (by decide) hk2
  have e6 : (0 : Int) < ((2 ^ k : Nat) : Int) := by exact_mod_cast Nat.pow_pos (by decide)
  have e7 : 0 ≤ (48 + d.toInt) * ((2 ^ k : Nat) : Int) := Int.mul_nonneg (by omega) (by omega)
  have e8 : (48 + d.toInt) * ((2 ^ k : Nat) : Int) ≤ 57 * 2 ^ 56 := Int.mul_le_mul (by omega) e5 (by omega) (by omega)
  omega
set_option maxHeartbeats 8000000 in
theorem own_num (w : Int64) (v0 v1 v2 v3 v4 v5 v6 v7 : Nat) (h0 : v0 ≤ 99) (h1 : v1 ≤ 99) (h2 : v2 ≤ 99) (h3 : v3 ≤ 99) (h4 : v4 ≤ 99) (h5 : v5 ≤ 99) (h6 : v6 ≤ 99) (h7 : v7 ≤ 99)
    (hw : (f2 w).toInt = ((v0 + 2 ^ 8 * (v1 + 2 ^ 8 * (v2 + 2 ^ 8 * (v3 + 2 ^ 8 * (v4 + 2 ^ 8 * (v5 + 2 ^ 8 * (v6 + 2 ^ 8 * v7)))))) : Nat) : Int)) : (f1 w).toInt = 1000000 * v0 + 10000 * v2 + 100 * v4 + v6 := by
  have a1 : (f2 w &&& 71777214294589695).toInt = ((v0 + 65536 * v2 + 4294967296 * v4 + 281474976710656 * v6 : Nat) : Int) := by
    rw [own_andI _ _ (by rw [hw]; exact Int.natCast_nonneg _) (by decide), hw, Int.toNat_natCast]
    rw [show (71777214294589695 : Int64).toInt.toNat = 71777214294589695 from by decide, own_m1 v0 v1 v2 v3 v4 v5 v6 v7 (by omega) (by omega) (by omega) (by omega) (by omega) (by omega) (by omega)]
  have a2 : ((f2 w &&& 71777214294589695) * 100).toInt = 100 * ((v0 + 65536 * v2 + 4294967296 * v4 + 281474976710656 * v6 : Nat) : Int) := (XT.mul64 ⟨by rw [a1]; show _ ≤ _ * (100 : Int); omega, by rw [a1]; show _ * (100 : Int) < _; omega⟩).trans (by rw [a1]; show _ * (100 : Int) = _; omega)
  have a3 := c_lushr (f2 w &&& 71777214294589695) 16 16 (by decide) (by decide)
  rw [a1] at a3
  have a4 : ((v0 + 65536 * v2 + 4294967296 * v4 + 281474976710656 * v6 : Nat) : Int) % 18446744073709551616 / ((2 ^ 16 : Nat) : Int) = v2 + 65536 * v4 + 4294967296 * v6 := own_lo _ v0 _ _ (by omega) (by omega) (by omega)
  rw [a4] at a3
  have a5 : ((f2 w &&& 71777214294589695) * 100 + ((f2 w &&& 71777214294589695).toUInt64 >>> ((16 : Int32) &&& 0x3f).toInt64.toUInt64).toInt64).toInt = (((100 * v0 + v2) + 2 ^ 16 * ((100 * v2 + v4) + 2 ^ 16 * ((100 * v4 + v6) + 2 ^ 16 * (100 * v6))) : Nat) : Int) := (XT.add64 ⟨by rw [a2, a3]; omega, by rw [a2, a3]; omega⟩).trans (by rw [a2, a3]; omega)
  have a6 : (((f2 w &&& 71777214294589695) * 100 + ((f2 w &&& 71777214294589695).toUInt64 >>> ((16 : Int32) &&& 0x3f).toInt64.toUInt64).toInt64) &&& 281470681808895).toInt = (((100 * v0 + v2) + 4294967296 * (100 * v4 + v6) : Nat) : Int) := by
    rw [own_andI _ _ (by rw [a5]; exact Int.natCast_nonneg _) (by decide), a5, Int.toNat_natCast]
    rw [show (281470681808895 : Int64).toInt.toNat = 281470681808895 from by decide, own_m2 (100 * v0 + v2) (100 * v2 + v4) (100 * v4 + v6) (100 * v6) (by omega) (by omega) (by omega)]
  unfold f1
  generalize (((f2 w &&& 71777214294589695) * 100 + ((f2 w &&& 71777214294589695).toUInt64 >>> ((16 : Int32) &&& 0x3f).toInt64.toUInt64).toInt64) &&& 281470681808895) = y at a6 ⊢
  unfold f1_25
  have b1 : (y * 10000).toInt = 10000 * (((100 * v0 + v2) + 4294967296 * (100 * v4 + v6) : Nat) : Int) := (XT.mul64 ⟨by rw [a6]; show _ ≤ _ * (10000 : Int); omega, by rw [a6]; show _ * (10000 : Int) < _; omega⟩).trans (by rw [a6]; show _ * (10000 : Int) = _; omega)
  have b2 := c_lushr y 32 32 (by decide) (by decide)
  rw [a6] at b2
  have b3 : (((100 * v0 + v2) + 4294967296 * (100 * v4 + v6) : Nat) : Int) % 18446744073709551616 / ((2 ^ 32 : Nat) : Int) = 100 * v4 + v6 := own_lo _ (100 * v0 + v2) _ _ (by omega) (by omega) (by omega)
  rw [b3] at b2
  have b4 : (y * 10000 + (y.toUInt64 >>> ((32 : Int32) &&& 0x3f).toInt64.toUInt64).toInt64).toInt = 10000 * (((100 * v0 + v2) + 4294967296 * (100 * v4 + v6) : Nat) : Int) + (100 * v4 + v6) := (XT.add64 ⟨by rw [b1, b2]; omega, by rw [b1, b2]; omega⟩).trans (by rw [b1, b2])
  have b5 := c_maskL (y * 10000 + (y.toUInt64 >>> ((32 : Int32) &&& 0x3f).toInt64.toUInt64).toInt64) 4294967295 32 (by decide) (by decide)
  rw [b5, b4]
  omega
set_option maxHeartbeats 8000000 in
theorem own_10 (v : Int64) (h0 : 0 ≤ v.toInt) (h1 : v.toInt < 100000000) : f0_10 v = 1 := by
  unfold f0_10
  have q0 := own_dg v 10000000 10000000 (by decide) (by decide) h0 (by decide)
  have q1 := own_dg v 1000000 1000000 (by decide) (by decide) h0 (by decide)
  have q2 := own_dg v 100000 100000 (by decide) (by decide) h0 (by decide)
  have q3 := own_dg v 10000 10000 (by decide) (by decide) h0 (by decide)
  have q4 := own_dg v 1000 1000 (by decide) (by decide) h0 (by decide)
  have q5 := own_dg v 100 100 (by decide) (by decide) h0 (by decide)
  have q6 := own_dg v 10 10 (by decide) (by decide) h0 (by decide)
  have q7 := own_dg7 v h0
  generalize v / 10000000 % 10 = d0 at *
  generalize v / 1000000 % 10 = d1 at *
  generalize v / 100000 % 10 = d2 at *
  generalize v / 10000 % 10 = d3 at *
  generalize v / 1000 % 10 = d4 at *
  generalize v / 100 % 10 = d5 at *
  generalize v / 10 % 10 = d6 at *
  generalize v % 10 = d7 at *
  have b0 : 0 ≤ d0.toInt ∧ d0.toInt ≤ 9 := by omega
  have b1 : 0 ≤ d1.toInt ∧ d1.toInt ≤ 9 := by omega
  have b2 : 0 ≤ d2.toInt ∧ d2.toInt ≤ 9 := by omega
  have b3 : 0 ≤ d3.toInt ∧ d3.toInt ≤ 9 := by omega
  have b4 : 0 ≤ d4.toInt ∧ d4.toInt ≤ 9 := by omega
  have b5 : 0 ≤ d5.toInt ∧ d5.toInt ≤ 9 := by omega
  have b6 : 0 ≤ d6.toInt ∧ d6.toInt ≤ 9 := by omega
  have b7 : 0 ≤ d7.toInt ∧ d7.toInt ≤ 9 := by omega
  have hv : v.toInt = 10000000 * d0.toInt + 1000000 * d1.toInt + 100000 * d2.toInt + 10000 * d3.toInt + 1000 * d4.toInt + 100 * d5.toInt + 10 * d6.toInt + d7.toInt := by
    rw [q0, q1, q2, q3, q4, q5, q6, q7]; generalize v.toInt = n at *; omega
  clear q0 q1 q2 q3 q4 q5 q6 q7
  have p0 := own_48 d0 b0.1 b0.2
  have p1 := own_sh d1 8 8 (by decide) (by decide) b1.1 b1.2
  have p2 := own_sh d2 16 16 (by decide) (by decide) b2.1 b2.2
  have p3 := own_sh d3 24 24 (by decide) (by decide) b3.1 b3.2
  have p4 := own_sh d4 32 32 (by decide) (by decide) b4.1 b4.2
  have p5 := own_sh d5 40 40 (by decide) (by decide) b5.1 b5.2
  have p6 := own_sh d6 48 48 (by decide) (by decide) b6.1 b6.2
  have p7 := own_sh d7 56 56 (by decide) (by decide) b7.1 b7.2
  have w1 := own_or 8 (by decide) _ _ 256 (by decide) p0 p1 (by omega) (by omega) (by omega) (by omega) (by omega)
  have w2 := own_or 16 (by decide) _ _ 65536 (by decide) w1 p2 (by omega) (by omega) (by omega) (by omega) (by omega)
  have w3 := own_or 24 (by decide) _ _ 16777216 (by decide) w2 p3 (by omega) (by omega) (by omega) (by omega) (by omega)
  have w4 := own_or 32 (by decide) _ _ 4294967296 (by decide) w3 p4 (by omega) (by omega) (by omega) (by omega) (by omega)
  have w5 := own_or 40 (by decide) _ _ 1099511627776 (by decide) w4 p5 (by omega) (by omega) (by omega) (by omega) (by omega)
  have w6 := own_or 48 (by decide) _ _ 281474976710656 (by decide) w5 p6 (by omega) (by omega) (by omega) (by omega) (by omega)
  have w7 := own_or 56 (by decide) _ _ 72057594037927936 (by decide) w6 p7 (by omega) (by omega) (by omega) (by omega) (by omega)
  generalize ((48 + d0) ||| ((48 + d1) <<< ((8 : Int32) &&& 0x3f).toInt64) ||| ((48 + d2) <<< ((16 : Int32) &&& 0x3f).toInt64) ||| ((48 + d3) <<< ((24 : Int32) &&& 0x3f).toInt64) ||| ((48 + d4) <<< ((32 : Int32) &&& 0x3f).toInt64) ||| ((48 + d5) <<< ((40 : Int32) &&& 0x3f).toInt64) ||| ((48 + d6) <<< ((48 : Int32) &&& 0x3f).toInt64) ||| ((48 + d7) <<< ((56 : Int32) &&& 0x3f).toInt64)) = w at *
  clear w1 w2 w3 w4 w5 w6 p0 p1 p2 p3 p4 p5 p6 p7
  obtain ⟨t, ht⟩ : ∃ t : Int, t = d0.toInt + 256 * d1.toInt + 65536 * d2.toInt + 16777216 * d3.toInt + 4294967296 * d4.toInt + 1099511627776 * d5.toInt + 281474976710656 * d6.toInt + 72057594037927936 * d7.toInt := ⟨_, rfl⟩
  have hr := own_f2 w t (by omega) (by omega) (by omega)
  have hu : t / 256 = d1.toInt + 256 * d2.toInt + 65536 * d3.toInt + 16777216 * d4.toInt + 4294967296 * d5.toInt + 1099511627776 * d6.toInt + 281474976710656 * d7.toInt := own_lo t d0.toInt _ 256 (by omega) (by omega) (by omega)
  obtain ⟨v0, g0⟩ : ∃ v : Nat, (v : Int) = 10 * d0.toInt + d1.toInt := ⟨(10 * d0.toInt + d1.toInt).toNat, Int.toNat_of_nonneg (by omega)⟩
  obtain ⟨v1, g1⟩ : ∃ v : Nat, (v : Int) = 10 * d1.toInt + d2.toInt := ⟨(10 * d1.toInt + d2.toInt).toNat, Int.toNat_of_nonneg (by omega)⟩
  obtain ⟨v2, g2⟩ : ∃ v : Nat, (v : Int) = 10 * d2.toInt + d3.toInt := ⟨(10 * d2.toInt + d3.toInt).toNat, Int.toNat_of_nonneg (by omega)⟩
  obtain ⟨v3, g3⟩ : ∃ v : Nat, (v : Int) = 10 * d3.toInt + d4.toInt := ⟨(10 * d3.toInt + d4.toInt).toNat, Int.toNat_of_nonneg (by omega)⟩
  obtain ⟨v4, g4⟩ : ∃ v : Nat, (v : Int) = 10 * d4.toInt + d5.toInt := ⟨(10 * d4.toInt + d5.toInt).toNat, Int.toNat_of_nonneg (by omega)⟩
  obtain ⟨v5, g5⟩ : ∃ v : Nat, (v : Int) = 10 * d5.toInt + d6.toInt := ⟨(10 * d5.toInt + d6.toInt).toNat, Int.toNat_of_nonneg (by omega)⟩
  obtain ⟨v6, g6⟩ : ∃ v : Nat, (v : Int) = 10 * d6.toInt + d7.toInt := ⟨(10 * d6.toInt + d7.toInt).toNat, Int.toNat_of_nonneg (by omega)⟩
  obtain ⟨v7, g7⟩ : ∃ v : Nat, (v : Int) = 10 * d7.toInt := ⟨(10 * d7.toInt).toNat, Int.toNat_of_nonneg (by omega)⟩
  have n0 : v0 ≤ 99 := by omega
  have n1 : v1 ≤ 99 := by omega
  have n2 : v2 ≤ 99 := by omega
  have n3 : v3 ≤ 99 := by omega
  have n4 : v4 ≤ 99 := by omega
  have n5 : v5 ≤ 99 := by omega
  have n6 : v6 ≤ 99 := by omega
  have n7 : v7 ≤ 99 := by omega
  have hR : (f2 w).toInt = v0 + 256 * v1 + 65536 * v2 + 16777216 * v3 + 4294967296 * v4 + 1099511627776 * v5 + 281474976710656 * v6 + 72057594037927936 * v7 := by
    rw [hr, hu, ht, g0, g1, g2, g3, g4, g5, g6, g7]; omega
  clear hr hu ht w7
  have hn := own_num w v0 v1 v2 v3 v4 v5 v6 v7 n0 n1 n2 n3 n4 n5 n6 n7 (by rw [hR]; omega)
  unfold f0_172
  rw [if_pos (Int64.toInt_inj.mp (by rw [hn, hv]; omega))]
theorem law_ok (x : Int64) : f0 x = 1 := by
  have e1 : (x &&& 2147483647).toInt = x.toInt % (2 ^ 31 : Nat) := c_maskL x 2147483647 31 (by decide) (by decide)
  have e2 := (c_lrem (x &&& 2147483647) 100000000 100000000 (by decide)).1 (by omega)
  rw [lrem_mod] at e2
  exact own_10 _ (by omega) (by omega)
set_option maxRecDepth 65536 in
set_option maxHeartbeats 40000000 in
theorem comes_1 {Post : Tables → Env → Array Value → State → Outcome → State → Prop} (hpost : ∀ tb e args s v u, (limb_1_1.after args s (.returned v) u = true ∧ limb_1_2.after args s (.returned v) u = true ∧ True) → FrameEnd s (.returned v) u (Jvm.fieldLocs frame_1_writes args s ++ Jvm.arrayLocs frame_1_arrays args s ++ Jvm.staticLocs frame_1_statics s) 0 0 → Post tb e args s (.returned v) u) :
    ArmFor flags0 classFile x code maxLocals ret World_1 tables_1 room_1 Calls_1 rest_1 Pre_1 Post := by
  intro l hfl _ _ p e ha hc hk s m args below hf hA hF happ hP
  obtain ⟨hcalls, hrest, hpre⟩ := hP
  obtain ⟨-, -, -, hnamed, -, -, -, hat⟩ := (Spec.applies_iff hf).mp happ
  obtain ⟨hg, hn⟩ := and_e (Cond.before_iff.mp (show (Jvm.Cond.and given_1 narrow_1).before args s = true from hpre))
  obtain ⟨g1, g2⟩ := and_e hg
  obtain ⟨w0, rfl⟩ : ∃ w0 : Value, args = #[w0] := by
    have hs : args.size = 1 := by simpa [Cond.value, given_1] using g1
    obtain ⟨L⟩ := args
    match L, hs with
    | [w0], _ => exact ⟨w0, rfl⟩
  have hw := fun d (hd : d ∈ tables_1) => atoms_spec (ws := Jvm.Cond.code x code maxLocals ret :: tables_1) hat d (List.mem_cons_of_mem _ hd)
  obtain ⟨i0, ei0⟩ := isL_v g2
  obtain rfl : w0 = (.long i0) := Option.some.inj ei0
  obtain ⟨n, o, h1, h2, h3, _, L, rfl, ⟨rfl, hh, rfl⟩, hq⟩ := rm0 l s _ hw tables_1 i0 s.heap p e ha hc hk s m _ below hf ((Spec.applies_iff_loose hf).mp happ).1 ⟨rfl, State.Warmed39.refl s, rfl⟩ trivial
  have hv := law_ok i0
  refine ⟨n, _, h1, h2, h3, hpost _ _ _ _ _ _ ⟨Cond.after_iff.mpr rfl, Cond.after_iff.mpr (eq_i res_at (Term.int_eval (1)) (congrArg Value.int hv)), trivial⟩ ⟨hq.1, hq.2.1, (hq.2.2.sift fun y hy => nomatch hy).mono (by decide) (by decide)⟩⟩
theorem main_1_1 : Claimed_1_1 := comes_1 fun _ _ _ _ _ _ h hF => ⟨h.1, hF⟩
theorem main_1_2 : Claimed_1_2 := comes_1 fun _ _ _ _ _ _ h hF => ⟨h.2.1, hF⟩
end Jvm.Pilot.@@N@@
namespace Jvm.Pilot.@@N@@
open Jvm Jvm.ClassFile Sem Op Lib Jvm.Free Jvm.Stand Jvm.Pilot.@@N@@.Jvm.D
/-! MADE BY PROGRAM (witnessworld.py) out of the Statement's table words and the real class files: 9 classes; the members and pool entries that the words name. The judged class is class 1, her method 1. -/
namespace start1
open Jvm.ClassFile
def u (s : String) : CpInfo := .utf8 (stringToUtf16 s)
/-- a pool by its gaps: so many unusable entries, then the entry; so many at the end -/
def gap : Nat → List CpInfo → List CpInfo
  | 0, r => r
  | n + 1, r => .unusable :: gap n r
def poolList (es : List (Nat × CpInfo)) (last : Nat) : List CpInfo := es.foldr (fun e r => gap e.1 (e.2 :: r)) (gap last [])
def pool (es : List (Nat × CpInfo)) (last : Nat) : Array CpInfo := ⟨poolList es last⟩
def fileOf (pool : Array CpInfo) (this : Nat) (attrs : Array Attribute := #[]) (ms : Array MethodInfo := #[]) (fl : Nat := 33) (sup : Nat := 0) (ifs : Array Nat := #[]) (fds : Array FieldInfo := #[]) : ClassFile where
  minorVersion := 0
  majorVersion := 65
  constantPool := pool
  accessFlags := fl
  thisClass := this
  superClass := sup
  interfaces := ifs
  fields := fds
  methods := ms
  attributes := attrs
def plain (name : String) (sup : Option ClassId) : Class where
  name := name
  kind := .ordinary
  loader := none
  accessFlags := 33
  super := sup
  interfaces := #[]
  cf := none
  fields := #[]
  methods := #[]
  instanceTypes := #[]
  staticTypes := #[]
  resolved := #[]
  callSites := []
  init := .initialized
  statics := none
  mirror := none

def pool0 : Array CpInfo := pool [(5, u "<init>"), (0, u "()V"), (1, .class_ 10), (1, u "java/lang/Object")] 113

def k0m0 : Method := { name := "<init>", desc := "()V", sig := { parameters := [], returnType := none }, accessFlags := 1, code := none }
/-- java/lang/Object -/
def k0 : Class := { plain "java/lang/Object" none with
  accessFlags := 33
  interfaces := #[]
  cf := some (fileOf pool0 8 #[] #[{ accessFlags := 1, nameIndex := 5, descriptorIndex := 6, attributes := #[] }] 33 0 #[] #[])
  fields := #[]
  methods := #[k0m0]
  instanceTypes := #[]
  staticTypes := #[]
  resolved := Array.replicate 124 none
  statics := none }

def pool1 : Array CpInfo := pool [(2, .class_ 4), (1, u "java/lang/Object"), (0, u "<init>"), (0, u "()V"), (0, .long 2147483647), (1, .long 100000000), (1, .long 10000000), (1, .long 10), (1, .long 1000000), (1, .long 100000), (1, .long 10000), (1, .long 1000), (1, .long 100), (1, .long 48), (1, .methodref 28 29), (0, .class_ 30), (0, .nameAndType 31 32), (0, u "com/example/eigenmittel/eigenmittel/AsciiDigits"), (0, u "number"), (0, u "(J)J"), (0, .class_ 34), (0, u "com/example/eigenmittel/eigenmittel/AsciiDigitsNumberPinLaw"), (2, u "law"), (0, u "(J)Z")] 3

def k1m0 : Method := { name := "<init>", desc := "()V", sig := { parameters := [], returnType := none }, accessFlags := 2, code := none }
def k1c1 : Code := { maxStack := 6, maxLocals := 22, code := code, exceptionTable := #[], attributes := #[] }
def k1m1 : Method := { name := "law", desc := "(J)Z", sig := { parameters := [.long], returnType := some .boolean }, accessFlags := 9, code := some k1c1 }
/-- com/example/eigenmittel/eigenmittel/AsciiDigitsNumberPinLaw -/
def k1 : Class := { plain "com/example/eigenmittel/eigenmittel/AsciiDigitsNumberPinLaw" (some 0) with
  accessFlags := 49
  interfaces := #[]
  cf := some (fileOf pool1 33 #[] #[{ accessFlags := 2, nameIndex := 5, descriptorIndex := 6, attributes := #[] }, { accessFlags := 9, nameIndex := 37, descriptorIndex := 38, attributes := #[] }] 49 2 #[] #[])
  fields := #[]
  methods := #[k1m0, k1m1]
  instanceTypes := #[]
  staticTypes := #[]
  resolved := Array.replicate 42 none
  statics := none }

def pool2 : Array CpInfo := pool [(2, .class_ 4), (1, u "java/lang/Object"), (0, u "<init>"), (0, u "()V"), (1, .class_ 10), (1, u "com/example/eigenmittel/eigenmittel/AsciiDigits"), (0, u "WORDS"), (0, u "Ljava/lang/invoke/VarHandle;"), (6, .long 3472328296227680304), (5, .long 10), (1, .methodref 8 28), (0, .nameAndType 29 30), (0, u "pairs"), (0, u "(J)J"), (0, .long 71777214294589695), (1, .long 100), (1, .long 281470681808895), (1, .long 10000), (1, .long 4294967295), (15, u "ZEROS"), (0, u "J"), (1, u "HIGH_BITS"), (0, u "ABOVE_NINE"), (6, u "number")] 3

def k2m0 : Method := { name := "<init>", desc := "()V", sig := { parameters := [], returnType := none }, accessFlags := 2, code := none }
def k2c1 : Code := { maxStack := 5, maxLocals := 4, code := prog_2_method_4_code, exceptionTable := #[], attributes := #[] }
def k2m1 : Method := { name := "pairs", desc := "(J)J", sig := { parameters := [.long], returnType := some .long }, accessFlags := 8, code := some k2c1 }
def k2c2 : Code := { maxStack := 5, maxLocals := 6, code := prog_2_method_5_code, exceptionTable := #[], attributes := #[] }
def k2m2 : Method := { name := "number", desc := "(J)J", sig := { parameters := [.long], returnType := some .long }, accessFlags := 8, code := some k2c2 }
/-- com/example/eigenmittel/eigenmittel/AsciiDigits -/
def k2 : Class := { plain "com/example/eigenmittel/eigenmittel/AsciiDigits" (some 0) with
  accessFlags := 32
  interfaces := #[]
  cf := some (fileOf pool2 8 #[] #[{ accessFlags := 2, nameIndex := 5, descriptorIndex := 6, attributes := #[] }, { accessFlags := 8, nameIndex := 29, descriptorIndex := 30, attributes := #[] }, { accessFlags := 8, nameIndex := 66, descriptorIndex := 30, attributes := #[] }] 32 2 #[] #[{ accessFlags := 26, nameIndex := 11, descriptorIndex := 12, attributes := #[] }, { accessFlags := 24, nameIndex := 55, descriptorIndex := 56, attributes := #[] }, { accessFlags := 26, nameIndex := 58, descriptorIndex := 56, attributes := #[] }, { accessFlags := 26, nameIndex := 59, descriptorIndex := 56, attributes := #[] }])
  fields := #[{ name := "WORDS", type := (.object "java/lang/invoke/VarHandle"), accessFlags := 26, slot := 0, constantValue := 0 }, { name := "ZEROS", type := .long, accessFlags := 24, slot := 1, constantValue := 0 }, { name := "HIGH_BITS", type := .long, accessFlags := 26, slot := 2, constantValue := 0 }, { name := "ABOVE_NINE", type := .long, accessFlags := 26, slot := 3, constantValue := 0 }]
  methods := #[k2m0, k2m1, k2m2]
  instanceTypes := #[]
  staticTypes := #[(.object "java/lang/invoke/VarHandle"), .long, .long, .long]
  resolved := Array.replicate 70 none
  statics := none }

def pool3 : Array CpInfo := pool [(1, u "java/lang/Cloneable"), (0, .class_ 1), (0, u "java/lang/Object"), (0, .class_ 3)] 3

/-- java/lang/Cloneable -/
def k3 : Class := { plain "java/lang/Cloneable" (some 0) with
  accessFlags := 1537
  interfaces := #[]
  cf := some (fileOf pool3 2 #[] #[] 1537 4 #[] #[])
  fields := #[]
  methods := #[]
  instanceTypes := #[]
  staticTypes := #[]
  resolved := Array.replicate 8 none
  statics := none }

def pool4 : Array CpInfo := pool [(1, u "java/io/Serializable"), (0, .class_ 1), (0, u "java/lang/Object"), (0, .class_ 3)] 3

/-- java/io/Serializable -/
def k4 : Class := { plain "java/io/Serializable" (some 0) with
  accessFlags := 1537
  interfaces := #[]
  cf := some (fileOf pool4 2 #[] #[] 1537 4 #[] #[])
  fields := #[]
  methods := #[]
  instanceTypes := #[]
  staticTypes := #[]
  resolved := Array.replicate 8 none
  statics := none }

/-- the primitive byte -/
def k5 : Class := { plain "byte" none with kind := .primitive 'B', accessFlags := 0x411 }
/-- [B -/
def k6 : Class := { plain "[B" (some 0) with kind := .array 5 .byte, interfaces := #[3, 4], accessFlags := 1041 }

/-- the primitive int -/
def k7 : Class := { plain "int" none with kind := .primitive 'I', accessFlags := 0x411 }
/-- [I -/
def k8 : Class := { plain "[I" (some 0) with kind := .array 7 .int, interfaces := #[3, 4], accessFlags := 1041 }

def heap : Heap := #[]
def classes : Array Class := #[k0, k1, k2, k3, k4, k5, k6, k7, k8]
def interned : List (Array UInt16 × Addr) := []
def slotsUsed : Nat := 0
def theMethod : MethodId := ⟨1, 1⟩
def args0 : Array Value := #[.long 5]
def aboutOver (below : List Frame) : State where
  vm := { classes := classes, interned := interned.toArray }
  heap := heap
  slotsUsed := slotsUsed
  threads := #[{ frames := .invoking theMethod args0 :: below }]
def below0 : List Frame := [.native { method := ⟨0, 0⟩, args := #[] }]
def about1 : State := aboutOver below0
def p0 : Program := .bare "" "" ""
def e0 : Env := launch0.env 0 0 0
theorem w_frames : about1.frames = Frame.invoking theMethod args0 :: below0 := rfl
set_option maxRecDepth 65536 in
theorem w_args : argsFit about1.vm theMethod args0 = true := by decide +kernel
set_option maxRecDepth 65536 in
theorem w_heap : heapFits about1 = true := by decide +kernel
set_option maxRecDepth 65536 in
theorem w_runnable : about1.curStatus? = some .runnable := by decide +kernel
set_option maxRecDepth 65536 in
theorem w_alone : about1.alone = true := by decide +kernel
set_option maxRecDepth 65536 in
theorem w_named : about1.methodNamed? x = some theMethod := by decide +kernel
set_option maxRecDepth 65536 in
theorem w_hears : about1.hears theMethod below0 = true := by decide +kernel
set_option maxRecDepth 65536 in
theorem w_ripe : about1.ripe theMethod args0 below0 = true := by decide +kernel
theorem w_running : about1.status = .running := rfl
set_option maxRecDepth 65536 in
theorem w_room : about1.hasRoom e0.platform room_1 = true :=
  launch0.hasRoom_least _ room_1 (by decide +kernel) (by decide +kernel) (by decide +kernel) (by decide +kernel) (by decide +kernel) (by decide +kernel)
theorem allAtoms_all (ts : List Jvm.Cond) (a : Array Jvm.Value) (st : Jvm.State) : (allAtoms ts).before a st = ts.all (fun c => c.before a st) := by
  induction ts with
  | nil => rfl
  | cons c t ih =>
    show (Jvm.Cond.and c (allAtoms t)).before a st = _
    rw [Jvm.Cond.before_and, ih, List.all_cons]
def words1 : List Jvm.Cond := Jvm.Cond.code x code maxLocals ret :: tables_1
/-- a 'code' word, met by the world's own term for the bytes: nothing is compared byte by byte -/
theorem code_word {y : MethodName} {bytes : ByteArray} {mx : Nat} {rt : Option FieldType} {a : Array Value} {s : State} {m : MethodId} {meth : Method} {c : Code} (h1 : s.methodNamed? y = some m) (h2 : s.vm.method? m = some meth) (h3 : meth.code = some c) (h4 : c.code = bytes)
    (h5 : (c.maxLocals == mx && c.exceptionTable.isEmpty && decide (c.maxStack ≤ mostOperands) && decide (meth.sig.returnType = rt) && !meth.locks && decide (parseMethodDescriptor y.desc = some meth.sig)) = true) : (Jvm.Cond.code y bytes mx rt).before a s = true := by
  simp only [Bool.and_eq_true, beq_iff_eq, Bool.not_eq_true', decide_eq_true_eq] at h5
  obtain ⟨⟨⟨⟨⟨g1, g2⟩, g3⟩, g4⟩, g5⟩, g6⟩ := h5
  simp [Cond.before, Cond.holds, Cond.value, h1, h2, h3, h4, g1, g2, g3, g4, g5, g6]
def isCode : Jvm.Cond → Bool
  | .code _ _ _ _ => true
  | _ => false
theorem all_split {L : List Jvm.Cond} {P : Jvm.Cond → Bool} (h1 : L.all (fun c => isCode c || P c) = true) (h2 : ∀ c ∈ L.filter isCode, P c = true) : L.all P = true := by
  refine List.all_eq_true.mpr fun c hc => ?_
  have h := List.all_eq_true.mp h1 c hc
  rcases Bool.eq_false_or_eq_true (isCode c) with hi | hi
  · exact h2 c (List.mem_filter.mpr ⟨hc, hi⟩)
  · simpa [hi] using h
set_option maxRecDepth 65536 in
theorem w_c0 : (Jvm.Cond.code x code maxLocals ret).before args0 about1 = true := code_word (m := ⟨1, 1⟩) (meth := k1m1) (c := k1c1) (by decide +kernel) rfl rfl rfl (by decide +kernel)
set_option maxRecDepth 65536 in
theorem w_c1 : (Jvm.Cond.code ({ cls := "com/example/eigenmittel/eigenmittel/AsciiDigits", name := "number", desc := "(J)J" } : Jvm.MethodName) prog_2_method_5_code (6 : Nat) (Option.some Jvm.ClassFile.FieldType.long)).before args0 about1 = true := code_word (m := ⟨2, 2⟩) (meth := k2m2) (c := k2c2) (by decide +kernel) rfl rfl rfl (by decide +kernel)
set_option maxRecDepth 65536 in
theorem w_c2 : (Jvm.Cond.code ({ cls := "com/example/eigenmittel/eigenmittel/AsciiDigits", name := "pairs", desc := "(J)J" } : Jvm.MethodName) prog_2_method_4_code (4 : Nat) (Option.some Jvm.ClassFile.FieldType.long)).before args0 about1 = true := code_word (m := ⟨2, 1⟩) (meth := k2m1) (c := k2c1) (by decide +kernel) rfl rfl rfl (by decide +kernel)
def codes1 : List Jvm.Cond := [Jvm.Cond.code x code maxLocals ret, Jvm.Cond.code ({ cls := "com/example/eigenmittel/eigenmittel/AsciiDigits", name := "number", desc := "(J)J" } : Jvm.MethodName) prog_2_method_5_code (6 : Nat) (Option.some Jvm.ClassFile.FieldType.long), Jvm.Cond.code ({ cls := "com/example/eigenmittel/eigenmittel/AsciiDigits", name := "pairs", desc := "(J)J" } : Jvm.MethodName) prog_2_method_4_code (4 : Nat) (Option.some Jvm.ClassFile.FieldType.long)]
set_option maxRecDepth 65536 in
theorem codes_eq : words1.filter isCode = codes1 := rfl
theorem w_codes : ∀ c ∈ words1.filter isCode, c.before args0 about1 = true := by
  rw [codes_eq]
  intro c hc
  simp only [codes1, List.mem_cons, List.not_mem_nil, or_false] at hc
  rcases hc with rfl | rfl | rfl
  · exact w_c0
  · exact w_c1
  · exact w_c2
set_option maxRecDepth 65536 in
theorem w_t1 : (words1.take 24).all (fun c => isCode c || c.before args0 about1) = true := by decide +kernel
set_option maxRecDepth 65536 in
theorem w_t2 : (words1.drop 24).all (fun c => isCode c || c.before args0 about1) = true := by decide +kernel
theorem w_tables : (allAtoms (Jvm.Cond.code x code maxLocals ret :: tables_1)).before args0 about1 = true := by
  rw [allAtoms_all]
  show words1.all (fun c => c.before args0 about1) = true
  refine all_split ?_ w_codes
  rw [← List.take_append_drop 24 words1, List.all_append, w_t1, w_t2]
  rfl
set_option maxRecDepth 65536 in
theorem w_case : (Jvm.Cond.and given_1 narrow_1).before args0 about1 = true := by decide +kernel
theorem w_applies : (headSpec (Jvm.Cond.code x code maxLocals ret :: tables_1) room_1).applies x e0.platform about1 = true :=
  (Spec.applies_iff w_frames).mpr ⟨w_running, w_runnable, w_alone, w_named, w_hears, w_ripe, w_room, w_tables⟩
theorem atStart : AtStart classFile x code maxLocals ret World_1 tables_1 room_1 Calls_1 rest_1 Pre_1 launch0 p0 e0 about1 theMethod args0 below0 :=
  ⟨lists_1, trivial, launch0.admits_env _ _ _, launch0.least_env, fairChoices_fair.cas, fairChoices_fair.clock, w_frames, w_args, w_heap, w_applies, trivial, trivial, w_case⟩
end start1
theorem witness_1 : WitnessClaimed_1 := ⟨start1.p0, start1.e0, start1.about1, start1.theMethod, start1.args0, start1.below0, start1.atStart⟩
end Jvm.Pilot.@@N@@
