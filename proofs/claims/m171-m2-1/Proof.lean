import JvmDerived
import JvmDerived.Pilot.@@N@@Statement
import JvmDerived.Pilot.@@N@@Code
set_option linter.unusedVariables false
set_option linter.unusedSimpArgs false
namespace Jvm.RoadKit
open Sem ClassFile Op Lib Jvm.Stand Jvm.Free Jvm.LawKit
section Own
variable {p : Program} {l : Launch} {e : Env} {R : Room} {s : State} {m : MethodId} {args : Array Value} {below : List Frame} {meth : Method} {c : Code} {T : State} {locs : List Loc} {cells slots : Nat} {k n : Nat} {Q : Option Value → Heap → List Loc → Prop} {W W' : State} {Z : State} {a0 : Array Value} {h : Heap}
/-- the run from W comes back, with what Q says -/
def OwnOut (p : Program) (e : Env) (s : State) (below : List Frame) (k n : Nat) (Q : Option Value → Heap → List Loc → Prop) (W : State) : Prop :=
  ∃ s₂ o, Steps p.tables e below W s₂ ∧ s₂.status = .running ∧ Ended s₂ below o ∧ ∃ v L, o = .returned v ∧ Q v s₂.heap L ∧ FrameEnd s o s₂ L k n
theorem OwnOut.go (h : ∀ t, Steps p.tables e below W' t → Steps p.tables e below W t) (H : OwnOut p e s below k n Q W') : OwnOut p e s below k n Q W := by
  obtain ⟨s₂, o, h1, h2⟩ := H
  exact ⟨s₂, o, h _ h1, h2⟩
theorem OwnOut.at {g g' : JFrame} (q : g = g') (H : OwnOut p e s below k n Q (T.setTop g')) : OwnOut p e s below k n Q (T.setTop g) := q ▸ H
theorem OwnOut.imp {Q' : Option Value → Heap → List Loc → Prop} (q : ∀ v h L, Q' v h L → Q v h L) (H : OwnOut p e s below k n Q' W) : OwnOut p e s below k n Q W := by
  obtain ⟨s₂, o, h1, h2, h3, v, L, h4, h5, h6⟩ := H
  exact ⟨s₂, o, h1, h2, h3, v, L, h4, q _ _ _ h5, h6⟩
theorem outI (X : Stand p l e R s m args below meth c T locs cells slots) (hx : p.tables.exec = Jvm.exec) {pc : Nat} {Ls : Array Slot} {z : Int32} (hret : meth.sig.returnType = some .int) (hd : decode c.code pc = .ok (.ireturn, 1)) (hlk : meth.locks = false) (hk : cells ≤ k) (hn : slots ≤ n) (q : Q (some (.int z)) T.heap locs) :
    OwnOut p e s below k n Q (T.setTop (mkF m pc Ls [.int z])) := by
  obtain ⟨fs, hr, hrun, hended, hW, hsame⟩ := X.leave (v := some (.int z)) (fun h => by rw [hret] at h; cases h) hlk
  exact ⟨_, _, X.ireturnOut hx hret rfl (Or.inl rfl) hd hr, hrun, hended, _, _, rfl, q, ⟨_, rfl⟩, hW, hsame.mono hk hn⟩
theorem outZ (X : Stand p l e R s m args below meth c T locs cells slots) (hx : p.tables.exec = Jvm.exec) {pc : Nat} {Ls : Array Slot} {z : Int32} (hret : meth.sig.returnType = some .boolean) (hd : decode c.code pc = .ok (.ireturn, 1)) (hlk : meth.locks = false) (hk : cells ≤ k) (hn : slots ≤ n) (q : Q (some (.int (z &&& 1))) T.heap locs) :
    OwnOut p e s below k n Q (T.setTop (mkF m pc Ls [.int z])) := by
  obtain ⟨fs, hr, hrun, hended, hW, hsame⟩ := X.leave (v := some (.int (z &&& 1))) (fun h => by rw [hret] at h; cases h) hlk
  exact ⟨_, _, retN X hx (t := .boolean) hret (by simp) hd hr, hrun, hended, _, _, rfl, q, ⟨_, rfl⟩, hW, hsame.mono hk hn⟩
theorem outJ (X : Stand p l e R s m args below meth c T locs cells slots) (hx : p.tables.exec = Jvm.exec) {pc : Nat} {Ls : Array Slot} {z : Int64} (hret : meth.sig.returnType = some .long) (hd : decode c.code pc = .ok (.lreturn, 1)) (hlk : meth.locks = false) (hk : cells ≤ k) (hn : slots ≤ n) (q : Q (some (.long z)) T.heap locs) :
    OwnOut p e s below k n Q (T.setTop (mkF m pc Ls [.long z])) := by
  obtain ⟨fs, hr, hrun, hended, hW, hsame⟩ := X.leave (v := some (.long z)) (fun h => by rw [hret] at h; cases h) hlk
  exact ⟨_, _, X.lreturnOut hx hret hd hr, hrun, hended, _, _, rfl, q, ⟨_, rfl⟩, hW, hsame.mono hk hn⟩
theorem outA (X : Stand p l e R s m args below meth c T locs cells slots) (hx : p.tables.exec = Jvm.exec) {pc : Nat} {Ls : Array Slot} {w : Value} {t : FieldType} (hw : w.isRef = true) (hret : meth.sig.returnType = some t) (ht : t.isReference = true) (hd : decode c.code pc = .ok (.areturn, 1)) (hlk : meth.locks = false) (hk : cells ≤ k) (hn : slots ≤ n) (q : Q (some w) T.heap locs) :
    OwnOut p e s below k n Q (T.setTop (mkF m pc Ls [w])) := by
  obtain ⟨fs, hr, hrun, hended, hW, hsame⟩ := X.leave (v := some w) (fun h => by rw [hret] at h; cases h) hlk
  exact ⟨_, _, X.areturnOut hx hw hret ht hd hr, hrun, hended, _, _, rfl, q, ⟨_, rfl⟩, hW, hsame.mono hk hn⟩
theorem outV (X : Stand p l e R s m args below meth c T locs cells slots) (hx : p.tables.exec = Jvm.exec) {pc : Nat} {Ls : Array Slot} (hret : meth.sig.returnType = none) (hd : decode c.code pc = .ok (.return_, 1)) (hlk : meth.locks = false) (hk : cells ≤ k) (hn : slots ≤ n) (q : Q none T.heap locs) :
    OwnOut p e s below k n Q (T.setTop (mkF m pc Ls [])) := by
  obtain ⟨fs, hr, hrun, hended, hW, hsame⟩ := X.leave (v := none) (fun _ => rfl) hlk
  exact ⟨_, _, X.returnOut hx hret hd hr, hrun, hended, _, _, rfl, q, ⟨_, rfl⟩, hW, hsame.mono hk hn⟩
theorem lremM {g : JFrame} {target : State} (X : Stand p l e R s m args below meth c T locs cells slots) (hx : p.tables.exec = Jvm.exec) (hg : g.method = m) {x y : Int64} {rest : List Value} (hd : decode c.code g.pc = .ok (.lrem, 1)) (hs : g.stack = .long y :: .long x :: rest) (hy : y ≠ 0)
    (hr : Steps p.tables e below (T.setTop { g with pc := g.pc + 1, stack := .long (x % y) :: rest }) target) : Steps p.tables e below (T.setTop g) target :=
  XS.lrem X.here hx hg hd hs hy (by rw [lrem_mod]; exact hr)
/-- a body that touches nothing: what it returns, the heap as it was, nothing written -/
def QP (h0 : Heap) (w : Option Value) (v : Option Value) (h : Heap) (L : List Loc) : Prop := v = w ∧ h = h0 ∧ L = []
/-- a static call of such a body -/
theorem callP (X : Stand p l e R s m args below meth c T locs cells slots) (hx : p.tables.exec = Jvm.exec) (hZ : Z.Warmed39 s.vm) {own : String} {index : Nat} {y : MethodName} {bytes : ByteArray} {maxL : Nat} {ret : Option FieldType} {rm : Room} {as' : Array Value} {w : Option Value}
    (hown : s.vm.findClass own = some m.cls) (w1 : (Cond.methodLink own index y).before a0 Z = true) (w2 : (Cond.static y).before a0 Z = true) (w3 : (Cond.initialized y.cls).before a0 Z = true) (w4 : (Cond.code y bytes maxL ret).before a0 Z = true) (hy : y.cls ≠ "java/lang/invoke/MethodHandle" ∧ y.cls ≠ "java/lang/invoke/VarHandle")
    (hM : MetFree l y (head1 [Cond.code y bytes maxL ret] rm) (fun a U => a = as' ∧ Z.Warmed39 U.vm ∧ U.heap = h) (fun _ _ _ _ _ => True) (fun _ U o U' => ∃ v L, o = .returned v ∧ QP h w v U'.heap L ∧ FrameEnd U o U' L rm.cells rm.slots))
    {W : Nat} (hf : rm.frames + 1 ≤ R.frames) (hl : W + (maxL + 11) + rm.locals ≤ R.locals) (z1 : rm.cells = 0) (z2 : rm.slots = 0) (hc : cells ≤ R.cells) (hs' : slots ≤ R.slots) (eT : T.heap = h)
    {g : JFrame} (hg : g.method = m) (hsize : g.locals.size = c.maxLocals) {argsL rest : List Value} (hlen : ∀ sig, parseMethodDescriptor y.desc = some sig → argsL.length = sig.parameters.length)
    (hstack : g.stack = argsL.reverse ++ rest) (hW : 2 * g.monitorRoom + (rest.map fun v => v.category).sum ≤ W) (hdg : decode c.code g.pc = .ok (.invokestatic index, 3)) (has : argsL.toArray = as' := by rfl) :
    ∃ T', Stand p l e R s m args below meth c T' locs cells slots ∧ T'.heap = h ∧ ∀ target, Steps p.tables e below (T'.setTop { g with pc := g.pc + 3, stack := w.toList ++ rest }) target → Steps p.tables e below (T.setTop g) target := by
  obtain ⟨v, vm₁, ⟨T', L', k', n'⟩, -, X', ⟨Lc, ⟨rfl, q2, rfl⟩, l1, y1, z3⟩, st⟩ := Jvm.LawKit.callS X hx (y := y) hown (mvT hZ w1) (mvT hZ w2) (mvT hZ w3) (mvT hZ w4) hy (backOf (W := W) hM hZ w4 w3 hf hl) hg hsize hlen hstack hW hdg (fun _ _ => ⟨has, eT, by rw [z1]; exact hc, by rw [z2]; exact hs'⟩)
  dsimp only [Pt.U, Pt.locs, Pt.cells, Pt.slots] at X' l1 y1 z3 st q2
  rw [z1] at y1; rw [z2] at z3
  rw [List.append_nil] at l1
  subst l1 y1 z3
  exact ⟨T', X', q2, st⟩
end Own
end Jvm.RoadKit
namespace Jvm.Pilot.@@N@@
open Jvm Jvm.ClassFile Sem Op Lib Jvm.Free Jvm.Stand Jvm.LawKit Jvm.RoadKit Bundle Jvm.Pilot.@@N@@.Jvm.D
-- body 1: com/example/eigenmittel/eigenmittel/AsciiDigitsPairsPinLaw.digit:(JI)I
theorem d1_0 : decode method_2_code 0 = .ok (.lload_n 0, 1) := by decide +kernel
theorem d1_1 : decode method_2_code 1 = .ok (.bipush 8, 2) := by decide +kernel
theorem d1_3 : decode method_2_code 3 = .ok (.iload_n 2, 1) := by decide +kernel
theorem d1_4 : decode method_2_code 4 = .ok (.imul, 1) := by decide +kernel
theorem d1_5 : decode method_2_code 5 = .ok (.lushr, 1) := by decide +kernel
theorem d1_6 : decode method_2_code 6 = .ok (.ldc2_w 7, 3) := by decide +kernel
theorem d1_9 : decode method_2_code 9 = .ok (.land, 1) := by decide +kernel
theorem d1_10 : decode method_2_code 10 = .ok (.l2i, 1) := by decide +kernel
theorem d1_11 : decode method_2_code 11 = .ok (.bipush 10, 2) := by decide +kernel
theorem d1_13 : decode method_2_code 13 = .ok (.irem, 1) := by decide +kernel
theorem d1_14 : decode method_2_code 14 = .ok (.ireturn, 1) := by decide +kernel
theorem pn1 : plainName "com/example/eigenmittel/eigenmittel/AsciiDigitsPairsPinLaw" = true := by first | (simp [plainName, overriddenIn]; done) | decide +kernel
theorem pd1 : parseMethodDescriptor "(JI)I" = some ⟨[.long, .int], some .int⟩ := by decide +kernel
theorem ef1 (m : MethodId) (x0 : Int64) (x2 : Int32) : entryFrame m #[(.long x0), (.int x2)] 3 = mkF m 0 #[.val (.long x0), .second, .val (.int x2)] [] := by first | (simp [entryFrame, mkF, argsToLocals, Value.category]; done) | rfl
abbrev rx1 : Room := { frames := 0, cells := 0, slots := 0, locals := 0 }
abbrev Cx1 (Z : State) (a0 : Array Value) (p : Program) (s : State) (m : MethodId) (meth : Method) (c : Code) : Prop := p.tables.exec = Jvm.exec ∧ Z.Warmed39 s.vm ∧ (∀ d ∈ tables_1, d.before a0 Z = true) ∧ c.code = method_2_code ∧ c.maxLocals = 3 ∧ s.vm.findClass "com/example/eigenmittel/eigenmittel/AsciiDigitsPairsPinLaw" = some m.cls ∧ meth.sig.returnType = (some .int) ∧ meth.locks = false ∧ meth.name = "digit"
def f1 (x0 : Int64) (x2 : Int32) : Int32 := (((((x0.toUInt64 >>> (((8 : Int32) * x2) &&& 0x3f).toInt64.toUInt64).toInt64) &&& (255 : Int64)).toInt32) % (10 : Int32))
set_option maxRecDepth 65536 in
set_option maxHeartbeats 40000000 in
theorem w1_0 {p : Program} {l : Launch} {e : Env} {s : State} {m : MethodId} {args : Array Value} {below : List Frame} {meth : Method} {c : Code} {T Z : State} {a0 : Array Value} {h0 : Heap} (x0 : Int64) (x2 : Int32)
    (X0 : Stand p l e rx1 s m args below meth c T [] 0 0) (C : Cx1 Z a0 p s m meth c) (e0 : T.heap = h0) :
    OwnOut p e s below 0 0 (QP h0 (some (.int (f1 x0 x2)))) (T.setTop (mkF m 0 #[.val (.long x0), .second, .val (.int x2)] [])) := by
  obtain ⟨hx, hZ, hw, hby, hml, hown, hret, hlk, hnm⟩ := C
  rw [f1]
  refine OwnOut.go (fun t k => XS.lloadN X0.here hx rfl (hb hby d1_0) rfl k) ?_
  show OwnOut p e s below 0 0 _ (T.setTop (mkF m 1 #[.val (.long x0), .second, .val (.int x2)] [(.long x0)]))
  refine OwnOut.go (fun t k => XT.bipushV X0.here hx rfl (8 : Int32) (hb hby d1_1) rfl k) ?_
  show OwnOut p e s below 0 0 _ (T.setTop (mkF m 3 #[.val (.long x0), .second, .val (.int x2)] [(.int (8 : Int32)), (.long x0)]))
  refine OwnOut.go (fun t k => XS.iloadN X0.here hx rfl (hb hby d1_3) rfl k) ?_
  show OwnOut p e s below 0 0 _ (T.setTop (mkF m 4 #[.val (.long x0), .second, .val (.int x2)] [(.int x2), (.int (8 : Int32)), (.long x0)]))
  refine OwnOut.go (fun t k => XS.imul X0.here hx rfl (hb hby d1_4) rfl k) ?_
  show OwnOut p e s below 0 0 _ (T.setTop (mkF m 5 #[.val (.long x0), .second, .val (.int x2)] [(.int ((8 : Int32) * x2)), (.long x0)]))
  refine OwnOut.go (fun t k => XS.lushr X0.here hx rfl (hb hby d1_5) rfl k) ?_
  show OwnOut p e s below 0 0 _ (T.setTop (mkF m 6 #[.val (.long x0), .second, .val (.int x2)] [(.long ((x0.toUInt64 >>> (((8 : Int32) * x2) &&& 0x3f).toInt64.toUInt64).toInt64))]))
  refine OwnOut.go (fun t k => X0.ldc2Long hx hown (mvT hZ (hw _ (List.mem_of_getElem? (i := 4) rfl))) (g := (mkF m 6 #[.val (.long x0), .second, .val (.int x2)] [(.long ((x0.toUInt64 >>> (((8 : Int32) * x2) &&& 0x3f).toInt64.toUInt64).toInt64))])) rfl (hb hby d1_6) _ k) ?_
  show OwnOut p e s below 0 0 _ (T.setTop (mkF m 9 #[.val (.long x0), .second, .val (.int x2)] [(.long (255 : Int64)), (.long ((x0.toUInt64 >>> (((8 : Int32) * x2) &&& 0x3f).toInt64.toUInt64).toInt64))]))
  refine OwnOut.go (fun t k => XS.land X0.here hx rfl (hb hby d1_9) rfl k) ?_
  show OwnOut p e s below 0 0 _ (T.setTop (mkF m 10 #[.val (.long x0), .second, .val (.int x2)] [(.long (((x0.toUInt64 >>> (((8 : Int32) * x2) &&& 0x3f).toInt64.toUInt64).toInt64) &&& (255 : Int64)))]))
  refine OwnOut.go (fun t k => XS.l2i X0.here hx rfl (hb hby d1_10) rfl k) ?_
  show OwnOut p e s below 0 0 _ (T.setTop (mkF m 11 #[.val (.long x0), .second, .val (.int x2)] [(.int ((((x0.toUInt64 >>> (((8 : Int32) * x2) &&& 0x3f).toInt64.toUInt64).toInt64) &&& (255 : Int64)).toInt32))]))
  refine OwnOut.go (fun t k => XT.bipushV X0.here hx rfl (10 : Int32) (hb hby d1_11) rfl k) ?_
  show OwnOut p e s below 0 0 _ (T.setTop (mkF m 13 #[.val (.long x0), .second, .val (.int x2)] [(.int (10 : Int32)), (.int ((((x0.toUInt64 >>> (((8 : Int32) * x2) &&& 0x3f).toInt64.toUInt64).toInt64) &&& (255 : Int64)).toInt32))]))
  refine OwnOut.go (fun t k => iremM X0 hx rfl (hb hby d1_13) rfl (by decide) k) ?_
  show OwnOut p e s below 0 0 _ (T.setTop (mkF m 14 #[.val (.long x0), .second, .val (.int x2)] [(.int (((((x0.toUInt64 >>> (((8 : Int32) * x2) &&& 0x3f).toInt64.toUInt64).toInt64) &&& (255 : Int64)).toInt32) % (10 : Int32)))]))
  exact outI X0 hx hret (hb hby d1_14) hlk (by decide) (by decide) ⟨rfl, e0, rfl⟩
set_option maxRecDepth 65536 in
set_option maxHeartbeats 40000000 in
theorem rm1 (l : Launch) (Z : State) (a0 : Array Value) (hw : ∀ d ∈ tables_1, d.before a0 Z = true) (ws : List Jvm.Cond) (x0 : Int64) (x2 : Int32) (h0 : Heap) :
    MetFree l (⟨"com/example/eigenmittel/eigenmittel/AsciiDigitsPairsPinLaw", "digit", "(JI)I"⟩ : MethodName) (head1 (Jvm.Cond.code (⟨"com/example/eigenmittel/eigenmittel/AsciiDigitsPairsPinLaw", "digit", "(JI)I"⟩ : MethodName) method_2_code 3 (some .int) :: ws) rx1) (fun a U => a = #[(.long x0), (.int x2)] ∧ Z.Warmed39 U.vm ∧ U.heap = h0) (fun _ _ _ _ _ => True) (fun _ U o U' => ∃ v L, o = .returned v ∧ QP h0 (some (.int (f1 x0 x2))) v U'.heap L ∧ FrameEnd U o U' L rx1.cells rx1.slots) := by
  refine MetFree.of_bodySF (plainFor_of_name pn1) hisR ?_
  intro p e s m args below meth c s₁ Bd hml0 hP hK
  obtain ⟨rfl, hZ, hh⟩ := hP
  have X0 : Stand p l e rx1 s m #[(.long x0), (.int x2)] below meth c s₁ [] 0 0 := Stand.of_body Bd
  have e0 : s₁.heap = h0 := by rw [← hh, Bd.state]; rfl
  exact OwnOut.at (ef1 m x0 x2) (w1_0 x0 x2 X0 ⟨Bd.exec, hZ, hw, Bd.bytes, hml0, findClass_of_methodNamed Bd.named, Bd.returns, Bd.notSynchronized, (name_of_methodNamed Bd.named Bd.method).1⟩ e0)
-- body 2: com/example/eigenmittel/eigenmittel/AsciiDigitsPairsPinLaw.place:(II)J
theorem d2_0 : decode method_4_code 0 = .ok (.bipush 48, 2) := by decide +kernel
theorem d2_2 : decode method_4_code 2 = .ok (.iload_n 0, 1) := by decide +kernel
theorem d2_3 : decode method_4_code 3 = .ok (.iadd, 1) := by decide +kernel
theorem d2_4 : decode method_4_code 4 = .ok (.i2l, 1) := by decide +kernel
theorem d2_5 : decode method_4_code 5 = .ok (.bipush 8, 2) := by decide +kernel
theorem d2_7 : decode method_4_code 7 = .ok (.iload_n 1, 1) := by decide +kernel
theorem d2_8 : decode method_4_code 8 = .ok (.imul, 1) := by decide +kernel
theorem d2_9 : decode method_4_code 9 = .ok (.lshl, 1) := by decide +kernel
theorem d2_10 : decode method_4_code 10 = .ok (.lreturn, 1) := by decide +kernel
theorem pn2 : plainName "com/example/eigenmittel/eigenmittel/AsciiDigitsPairsPinLaw" = true := by first | (simp [plainName, overriddenIn]; done) | decide +kernel
theorem pd2 : parseMethodDescriptor "(II)J" = some ⟨[.int, .int], some .long⟩ := by decide +kernel
theorem ef2 (m : MethodId) (x0 : Int32) (x1 : Int32) : entryFrame m #[(.int x0), (.int x1)] 2 = mkF m 0 #[.val (.int x0), .val (.int x1)] [] := by first | (simp [entryFrame, mkF, argsToLocals, Value.category]; done) | rfl
abbrev rx2 : Room := { frames := 0, cells := 0, slots := 0, locals := 0 }
abbrev Cx2 (Z : State) (a0 : Array Value) (p : Program) (s : State) (m : MethodId) (meth : Method) (c : Code) : Prop := p.tables.exec = Jvm.exec ∧ Z.Warmed39 s.vm ∧ (∀ d ∈ tables_1, d.before a0 Z = true) ∧ c.code = method_4_code ∧ c.maxLocals = 2 ∧ s.vm.findClass "com/example/eigenmittel/eigenmittel/AsciiDigitsPairsPinLaw" = some m.cls ∧ meth.sig.returnType = (some .long) ∧ meth.locks = false ∧ meth.name = "place"
def f2 (x0 : Int32) (x1 : Int32) : Int64 := ((((48 : Int32) + x0).toInt64) <<< (((8 : Int32) * x1) &&& 0x3f).toInt64)
set_option maxRecDepth 65536 in
set_option maxHeartbeats 40000000 in
theorem w2_0 {p : Program} {l : Launch} {e : Env} {s : State} {m : MethodId} {args : Array Value} {below : List Frame} {meth : Method} {c : Code} {T Z : State} {a0 : Array Value} {h0 : Heap} (x0 : Int32) (x1 : Int32)
    (X0 : Stand p l e rx2 s m args below meth c T [] 0 0) (C : Cx2 Z a0 p s m meth c) (e0 : T.heap = h0) :
    OwnOut p e s below 0 0 (QP h0 (some (.long (f2 x0 x1)))) (T.setTop (mkF m 0 #[.val (.int x0), .val (.int x1)] [])) := by
  obtain ⟨hx, hZ, hw, hby, hml, hown, hret, hlk, hnm⟩ := C
  rw [f2]
  refine OwnOut.go (fun t k => XT.bipushV X0.here hx rfl (48 : Int32) (hb hby d2_0) rfl k) ?_
  show OwnOut p e s below 0 0 _ (T.setTop (mkF m 2 #[.val (.int x0), .val (.int x1)] [(.int (48 : Int32))]))
  refine OwnOut.go (fun t k => XS.iloadN X0.here hx rfl (hb hby d2_2) rfl k) ?_
  show OwnOut p e s below 0 0 _ (T.setTop (mkF m 3 #[.val (.int x0), .val (.int x1)] [(.int x0), (.int (48 : Int32))]))
  refine OwnOut.go (fun t k => XS.iadd X0.here hx rfl (hb hby d2_3) rfl k) ?_
  show OwnOut p e s below 0 0 _ (T.setTop (mkF m 4 #[.val (.int x0), .val (.int x1)] [(.int ((48 : Int32) + x0))]))
  refine OwnOut.go (fun t k => XS.i2l X0.here hx rfl (hb hby d2_4) rfl k) ?_
  show OwnOut p e s below 0 0 _ (T.setTop (mkF m 5 #[.val (.int x0), .val (.int x1)] [(.long (((48 : Int32) + x0).toInt64))]))
  refine OwnOut.go (fun t k => XT.bipushV X0.here hx rfl (8 : Int32) (hb hby d2_5) rfl k) ?_
  show OwnOut p e s below 0 0 _ (T.setTop (mkF m 7 #[.val (.int x0), .val (.int x1)] [(.int (8 : Int32)), (.long (((48 : Int32) + x0).toInt64))]))
  refine OwnOut.go (fun t k => XS.iloadN X0.here hx rfl (hb hby d2_7) rfl k) ?_
  show OwnOut p e s below 0 0 _ (T.setTop (mkF m 8 #[.val (.int x0), .val (.int x1)] [(.int x1), (.int (8 : Int32)), (.long (((48 : Int32) + x0).toInt64))]))
  refine OwnOut.go (fun t k => XS.imul X0.here hx rfl (hb hby d2_8) rfl k) ?_
  show OwnOut p e s below 0 0 _ (T.setTop (mkF m 9 #[.val (.int x0), .val (.int x1)] [(.int ((8 : Int32) * x1)), (.long (((48 : Int32) + x0).toInt64))]))
  refine OwnOut.go (fun t k => XS.lshl X0.here hx rfl (hb hby d2_9) rfl k) ?_
  show OwnOut p e s below 0 0 _ (T.setTop (mkF m 10 #[.val (.int x0), .val (.int x1)] [(.long ((((48 : Int32) + x0).toInt64) <<< (((8 : Int32) * x1) &&& 0x3f).toInt64))]))
  exact outJ X0 hx hret (hb hby d2_10) hlk (by decide) (by decide) ⟨rfl, e0, rfl⟩
set_option maxRecDepth 65536 in
set_option maxHeartbeats 40000000 in
theorem rm2 (l : Launch) (Z : State) (a0 : Array Value) (hw : ∀ d ∈ tables_1, d.before a0 Z = true) (ws : List Jvm.Cond) (x0 : Int32) (x1 : Int32) (h0 : Heap) :
    MetFree l (⟨"com/example/eigenmittel/eigenmittel/AsciiDigitsPairsPinLaw", "place", "(II)J"⟩ : MethodName) (head1 (Jvm.Cond.code (⟨"com/example/eigenmittel/eigenmittel/AsciiDigitsPairsPinLaw", "place", "(II)J"⟩ : MethodName) method_4_code 2 (some .long) :: ws) rx2) (fun a U => a = #[(.int x0), (.int x1)] ∧ Z.Warmed39 U.vm ∧ U.heap = h0) (fun _ _ _ _ _ => True) (fun _ U o U' => ∃ v L, o = .returned v ∧ QP h0 (some (.long (f2 x0 x1))) v U'.heap L ∧ FrameEnd U o U' L rx2.cells rx2.slots) := by
  refine MetFree.of_bodySF (plainFor_of_name pn2) hisR ?_
  intro p e s m args below meth c s₁ Bd hml0 hP hK
  obtain ⟨rfl, hZ, hh⟩ := hP
  have X0 : Stand p l e rx2 s m #[(.int x0), (.int x1)] below meth c s₁ [] 0 0 := Stand.of_body Bd
  have e0 : s₁.heap = h0 := by rw [← hh, Bd.state]; rfl
  exact OwnOut.at (ef2 m x0 x1) (w2_0 x0 x1 X0 ⟨Bd.exec, hZ, hw, Bd.bytes, hml0, findClass_of_methodNamed Bd.named, Bd.returns, Bd.notSynchronized, (name_of_methodNamed Bd.named Bd.method).1⟩ e0)
-- body 3: com/example/eigenmittel/eigenmittel/AsciiDigits.pairs:(J)J
theorem d3_0 : decode prog_2_method_4_code 0 = .ok (.lload_n 0, 1) := by decide +kernel
theorem d3_1 : decode prog_2_method_4_code 1 = .ok (.ldc2_w 19, 3) := by decide +kernel
theorem d3_4 : decode prog_2_method_4_code 4 = .ok (.lsub, 1) := by decide +kernel
theorem d3_5 : decode prog_2_method_4_code 5 = .ok (.lstore_n 2, 1) := by decide +kernel
theorem d3_6 : decode prog_2_method_4_code 6 = .ok (.lload_n 2, 1) := by decide +kernel
theorem d3_7 : decode prog_2_method_4_code 7 = .ok (.ldc2_w 25, 3) := by decide +kernel
theorem d3_10 : decode prog_2_method_4_code 10 = .ok (.lmul, 1) := by decide +kernel
theorem d3_11 : decode prog_2_method_4_code 11 = .ok (.lload_n 2, 1) := by decide +kernel
theorem d3_12 : decode prog_2_method_4_code 12 = .ok (.bipush 8, 2) := by decide +kernel
theorem d3_14 : decode prog_2_method_4_code 14 = .ok (.lushr, 1) := by decide +kernel
theorem d3_15 : decode prog_2_method_4_code 15 = .ok (.ladd, 1) := by decide +kernel
theorem d3_16 : decode prog_2_method_4_code 16 = .ok (.lreturn, 1) := by decide +kernel
theorem pn3 : plainName "com/example/eigenmittel/eigenmittel/AsciiDigits" = true := by first | (simp [plainName, overriddenIn]; done) | decide +kernel
theorem pd3 : parseMethodDescriptor "(J)J" = some ⟨[.long], some .long⟩ := by decide +kernel
theorem ef3 (m : MethodId) (x0 : Int64) : entryFrame m #[(.long x0)] 4 = mkF m 0 #[.val (.long x0), .second, .unset, .unset] [] := by first | (simp [entryFrame, mkF, argsToLocals, Value.category]; done) | rfl
abbrev rx3 : Room := { frames := 0, cells := 0, slots := 0, locals := 0 }
abbrev Cx3 (Z : State) (a0 : Array Value) (p : Program) (s : State) (m : MethodId) (meth : Method) (c : Code) : Prop := p.tables.exec = Jvm.exec ∧ Z.Warmed39 s.vm ∧ (∀ d ∈ tables_1, d.before a0 Z = true) ∧ c.code = prog_2_method_4_code ∧ c.maxLocals = 4 ∧ s.vm.findClass "com/example/eigenmittel/eigenmittel/AsciiDigits" = some m.cls ∧ meth.sig.returnType = (some .long) ∧ meth.locks = false ∧ meth.name = "pairs"
def f3 (x0 : Int64) : Int64 := (((x0 - (3472328296227680304 : Int64)) * (10 : Int64)) + (((x0 - (3472328296227680304 : Int64)).toUInt64 >>> ((8 : Int32) &&& 0x3f).toInt64.toUInt64).toInt64))
set_option maxRecDepth 65536 in
set_option maxHeartbeats 40000000 in
theorem w3_0 {p : Program} {l : Launch} {e : Env} {s : State} {m : MethodId} {args : Array Value} {below : List Frame} {meth : Method} {c : Code} {T Z : State} {a0 : Array Value} {h0 : Heap} (x0 : Int64)
    (X0 : Stand p l e rx3 s m args below meth c T [] 0 0) (C : Cx3 Z a0 p s m meth c) (e0 : T.heap = h0) :
    OwnOut p e s below 0 0 (QP h0 (some (.long (f3 x0)))) (T.setTop (mkF m 0 #[.val (.long x0), .second, .unset, .unset] [])) := by
  obtain ⟨hx, hZ, hw, hby, hml, hown, hret, hlk, hnm⟩ := C
  rw [f3]
  refine OwnOut.go (fun t k => XS.lloadN X0.here hx rfl (hb hby d3_0) rfl k) ?_
  show OwnOut p e s below 0 0 _ (T.setTop (mkF m 1 #[.val (.long x0), .second, .unset, .unset] [(.long x0)]))
  refine OwnOut.go (fun t k => X0.ldc2Long hx hown (mvT hZ (hw _ (List.mem_of_getElem? (i := 12) rfl))) (g := (mkF m 1 #[.val (.long x0), .second, .unset, .unset] [(.long x0)])) rfl (hb hby d3_1) _ k) ?_
  show OwnOut p e s below 0 0 _ (T.setTop (mkF m 4 #[.val (.long x0), .second, .unset, .unset] [(.long (3472328296227680304 : Int64)), (.long x0)]))
  refine OwnOut.go (fun t k => XS.lsub X0.here hx rfl (hb hby d3_4) rfl k) ?_
  show OwnOut p e s below 0 0 _ (T.setTop (mkF m 5 #[.val (.long x0), .second, .unset, .unset] [(.long (x0 - (3472328296227680304 : Int64)))]))
  refine OwnOut.go (fun t k => XS.lstoreN X0.here hx rfl (hb hby d3_5) rfl (l' := #[.val (.long x0), .second, .val (.long (x0 - (3472328296227680304 : Int64))), .second]) rfl k) ?_
  show OwnOut p e s below 0 0 _ (T.setTop (mkF m 6 #[.val (.long x0), .second, .val (.long (x0 - (3472328296227680304 : Int64))), .second] []))
  refine OwnOut.go (fun t k => XS.lloadN X0.here hx rfl (hb hby d3_6) rfl k) ?_
  show OwnOut p e s below 0 0 _ (T.setTop (mkF m 7 #[.val (.long x0), .second, .val (.long (x0 - (3472328296227680304 : Int64))), .second] [(.long (x0 - (3472328296227680304 : Int64)))]))
  refine OwnOut.go (fun t k => X0.ldc2Long hx hown (mvT hZ (hw _ (List.mem_of_getElem? (i := 13) rfl))) (g := (mkF m 7 #[.val (.long x0), .second, .val (.long (x0 - (3472328296227680304 : Int64))), .second] [(.long (x0 - (3472328296227680304 : Int64)))])) rfl (hb hby d3_7) _ k) ?_
  show OwnOut p e s below 0 0 _ (T.setTop (mkF m 10 #[.val (.long x0), .second, .val (.long (x0 - (3472328296227680304 : Int64))), .second] [(.long (10 : Int64)), (.long (x0 - (3472328296227680304 : Int64)))]))
  refine OwnOut.go (fun t k => XS.lmul X0.here hx rfl (hb hby d3_10) rfl k) ?_
  show OwnOut p e s below 0 0 _ (T.setTop (mkF m 11 #[.val (.long x0), .second, .val (.long (x0 - (3472328296227680304 : Int64))), .second] [(.long ((x0 - (3472328296227680304 : Int64)) * (10 : Int64)))]))
  refine OwnOut.go (fun t k => XS.lloadN X0.here hx rfl (hb hby d3_11) rfl k) ?_
  show OwnOut p e s below 0 0 _ (T.setTop (mkF m 12 #[.val (.long x0), .second, .val (.long (x0 - (3472328296227680304 : Int64))), .second] [(.long (x0 - (3472328296227680304 : Int64))), (.long ((x0 - (3472328296227680304 : Int64)) * (10 : Int64)))]))
  refine OwnOut.go (fun t k => XT.bipushV X0.here hx rfl (8 : Int32) (hb hby d3_12) rfl k) ?_
  show OwnOut p e s below 0 0 _ (T.setTop (mkF m 14 #[.val (.long x0), .second, .val (.long (x0 - (3472328296227680304 : Int64))), .second] [(.int (8 : Int32)), (.long (x0 - (3472328296227680304 : Int64))), (.long ((x0 - (3472328296227680304 : Int64)) * (10 : Int64)))]))
  refine OwnOut.go (fun t k => XS.lushr X0.here hx rfl (hb hby d3_14) rfl k) ?_
  show OwnOut p e s below 0 0 _ (T.setTop (mkF m 15 #[.val (.long x0), .second, .val (.long (x0 - (3472328296227680304 : Int64))), .second] [(.long (((x0 - (3472328296227680304 : Int64)).toUInt64 >>> ((8 : Int32) &&& 0x3f).toInt64.toUInt64).toInt64)), (.long ((x0 - (3472328296227680304 : Int64)) * (10 : Int64)))]))
  refine OwnOut.go (fun t k => XS.ladd X0.here hx rfl (hb hby d3_15) rfl k) ?_
  show OwnOut p e s below 0 0 _ (T.setTop (mkF m 16 #[.val (.long x0), .second, .val (.long (x0 - (3472328296227680304 : Int64))), .second] [(.long (((x0 - (3472328296227680304 : Int64)) * (10 : Int64)) + (((x0 - (3472328296227680304 : Int64)).toUInt64 >>> ((8 : Int32) &&& 0x3f).toInt64.toUInt64).toInt64)))]))
  exact outJ X0 hx hret (hb hby d3_16) hlk (by decide) (by decide) ⟨rfl, e0, rfl⟩
set_option maxRecDepth 65536 in
set_option maxHeartbeats 40000000 in
theorem rm3 (l : Launch) (Z : State) (a0 : Array Value) (hw : ∀ d ∈ tables_1, d.before a0 Z = true) (ws : List Jvm.Cond) (x0 : Int64) (h0 : Heap) :
    MetFree l (⟨"com/example/eigenmittel/eigenmittel/AsciiDigits", "pairs", "(J)J"⟩ : MethodName) (head1 (Jvm.Cond.code (⟨"com/example/eigenmittel/eigenmittel/AsciiDigits", "pairs", "(J)J"⟩ : MethodName) prog_2_method_4_code 4 (some .long) :: ws) rx3) (fun a U => a = #[(.long x0)] ∧ Z.Warmed39 U.vm ∧ U.heap = h0) (fun _ _ _ _ _ => True) (fun _ U o U' => ∃ v L, o = .returned v ∧ QP h0 (some (.long (f3 x0))) v U'.heap L ∧ FrameEnd U o U' L rx3.cells rx3.slots) := by
  refine MetFree.of_bodySF (plainFor_of_name pn3) hisR ?_
  intro p e s m args below meth c s₁ Bd hml0 hP hK
  obtain ⟨rfl, hZ, hh⟩ := hP
  have X0 : Stand p l e rx3 s m #[(.long x0)] below meth c s₁ [] 0 0 := Stand.of_body Bd
  have e0 : s₁.heap = h0 := by rw [← hh, Bd.state]; rfl
  exact OwnOut.at (ef3 m x0) (w3_0 x0 X0 ⟨Bd.exec, hZ, hw, Bd.bytes, hml0, findClass_of_methodNamed Bd.named, Bd.returns, Bd.notSynchronized, (name_of_methodNamed Bd.named Bd.method).1⟩ e0)
-- body 4: com/example/eigenmittel/eigenmittel/AsciiDigitsPairsPinLaw.byteAt:(JI)I
theorem d4_0 : decode method_3_code 0 = .ok (.lload_n 0, 1) := by decide +kernel
theorem d4_1 : decode method_3_code 1 = .ok (.bipush 8, 2) := by decide +kernel
theorem d4_3 : decode method_3_code 3 = .ok (.iload_n 2, 1) := by decide +kernel
theorem d4_4 : decode method_3_code 4 = .ok (.imul, 1) := by decide +kernel
theorem d4_5 : decode method_3_code 5 = .ok (.lushr, 1) := by decide +kernel
theorem d4_6 : decode method_3_code 6 = .ok (.ldc2_w 7, 3) := by decide +kernel
theorem d4_9 : decode method_3_code 9 = .ok (.land, 1) := by decide +kernel
theorem d4_10 : decode method_3_code 10 = .ok (.l2i, 1) := by decide +kernel
theorem d4_11 : decode method_3_code 11 = .ok (.ireturn, 1) := by decide +kernel
theorem pn4 : plainName "com/example/eigenmittel/eigenmittel/AsciiDigitsPairsPinLaw" = true := by first | (simp [plainName, overriddenIn]; done) | decide +kernel
theorem pd4 : parseMethodDescriptor "(JI)I" = some ⟨[.long, .int], some .int⟩ := by decide +kernel
theorem ef4 (m : MethodId) (x0 : Int64) (x2 : Int32) : entryFrame m #[(.long x0), (.int x2)] 3 = mkF m 0 #[.val (.long x0), .second, .val (.int x2)] [] := by first | (simp [entryFrame, mkF, argsToLocals, Value.category]; done) | rfl
abbrev rx4 : Room := { frames := 0, cells := 0, slots := 0, locals := 0 }
abbrev Cx4 (Z : State) (a0 : Array Value) (p : Program) (s : State) (m : MethodId) (meth : Method) (c : Code) : Prop := p.tables.exec = Jvm.exec ∧ Z.Warmed39 s.vm ∧ (∀ d ∈ tables_1, d.before a0 Z = true) ∧ c.code = method_3_code ∧ c.maxLocals = 3 ∧ s.vm.findClass "com/example/eigenmittel/eigenmittel/AsciiDigitsPairsPinLaw" = some m.cls ∧ meth.sig.returnType = (some .int) ∧ meth.locks = false ∧ meth.name = "byteAt"
def f4 (x0 : Int64) (x2 : Int32) : Int32 := ((((x0.toUInt64 >>> (((8 : Int32) * x2) &&& 0x3f).toInt64.toUInt64).toInt64) &&& (255 : Int64)).toInt32)
set_option maxRecDepth 65536 in
set_option maxHeartbeats 40000000 in
theorem w4_0 {p : Program} {l : Launch} {e : Env} {s : State} {m : MethodId} {args : Array Value} {below : List Frame} {meth : Method} {c : Code} {T Z : State} {a0 : Array Value} {h0 : Heap} (x0 : Int64) (x2 : Int32)
    (X0 : Stand p l e rx4 s m args below meth c T [] 0 0) (C : Cx4 Z a0 p s m meth c) (e0 : T.heap = h0) :
    OwnOut p e s below 0 0 (QP h0 (some (.int (f4 x0 x2)))) (T.setTop (mkF m 0 #[.val (.long x0), .second, .val (.int x2)] [])) := by
  obtain ⟨hx, hZ, hw, hby, hml, hown, hret, hlk, hnm⟩ := C
  rw [f4]
  refine OwnOut.go (fun t k => XS.lloadN X0.here hx rfl (hb hby d4_0) rfl k) ?_
  show OwnOut p e s below 0 0 _ (T.setTop (mkF m 1 #[.val (.long x0), .second, .val (.int x2)] [(.long x0)]))
  refine OwnOut.go (fun t k => XT.bipushV X0.here hx rfl (8 : Int32) (hb hby d4_1) rfl k) ?_
  show OwnOut p e s below 0 0 _ (T.setTop (mkF m 3 #[.val (.long x0), .second, .val (.int x2)] [(.int (8 : Int32)), (.long x0)]))
  refine OwnOut.go (fun t k => XS.iloadN X0.here hx rfl (hb hby d4_3) rfl k) ?_
  show OwnOut p e s below 0 0 _ (T.setTop (mkF m 4 #[.val (.long x0), .second, .val (.int x2)] [(.int x2), (.int (8 : Int32)), (.long x0)]))
  refine OwnOut.go (fun t k => XS.imul X0.here hx rfl (hb hby d4_4) rfl k) ?_
  show OwnOut p e s below 0 0 _ (T.setTop (mkF m 5 #[.val (.long x0), .second, .val (.int x2)] [(.int ((8 : Int32) * x2)), (.long x0)]))
  refine OwnOut.go (fun t k => XS.lushr X0.here hx rfl (hb hby d4_5) rfl k) ?_
  show OwnOut p e s below 0 0 _ (T.setTop (mkF m 6 #[.val (.long x0), .second, .val (.int x2)] [(.long ((x0.toUInt64 >>> (((8 : Int32) * x2) &&& 0x3f).toInt64.toUInt64).toInt64))]))
  refine OwnOut.go (fun t k => X0.ldc2Long hx hown (mvT hZ (hw _ (List.mem_of_getElem? (i := 4) rfl))) (g := (mkF m 6 #[.val (.long x0), .second, .val (.int x2)] [(.long ((x0.toUInt64 >>> (((8 : Int32) * x2) &&& 0x3f).toInt64.toUInt64).toInt64))])) rfl (hb hby d4_6) _ k) ?_
  show OwnOut p e s below 0 0 _ (T.setTop (mkF m 9 #[.val (.long x0), .second, .val (.int x2)] [(.long (255 : Int64)), (.long ((x0.toUInt64 >>> (((8 : Int32) * x2) &&& 0x3f).toInt64.toUInt64).toInt64))]))
  refine OwnOut.go (fun t k => XS.land X0.here hx rfl (hb hby d4_9) rfl k) ?_
  show OwnOut p e s below 0 0 _ (T.setTop (mkF m 10 #[.val (.long x0), .second, .val (.int x2)] [(.long (((x0.toUInt64 >>> (((8 : Int32) * x2) &&& 0x3f).toInt64.toUInt64).toInt64) &&& (255 : Int64)))]))
  refine OwnOut.go (fun t k => XS.l2i X0.here hx rfl (hb hby d4_10) rfl k) ?_
  show OwnOut p e s below 0 0 _ (T.setTop (mkF m 11 #[.val (.long x0), .second, .val (.int x2)] [(.int ((((x0.toUInt64 >>> (((8 : Int32) * x2) &&& 0x3f).toInt64.toUInt64).toInt64) &&& (255 : Int64)).toInt32))]))
  exact outI X0 hx hret (hb hby d4_11) hlk (by decide) (by decide) ⟨rfl, e0, rfl⟩
set_option maxRecDepth 65536 in
set_option maxHeartbeats 40000000 in
theorem rm4 (l : Launch) (Z : State) (a0 : Array Value) (hw : ∀ d ∈ tables_1, d.before a0 Z = true) (ws : List Jvm.Cond) (x0 : Int64) (x2 : Int32) (h0 : Heap) :
    MetFree l (⟨"com/example/eigenmittel/eigenmittel/AsciiDigitsPairsPinLaw", "byteAt", "(JI)I"⟩ : MethodName) (head1 (Jvm.Cond.code (⟨"com/example/eigenmittel/eigenmittel/AsciiDigitsPairsPinLaw", "byteAt", "(JI)I"⟩ : MethodName) method_3_code 3 (some .int) :: ws) rx4) (fun a U => a = #[(.long x0), (.int x2)] ∧ Z.Warmed39 U.vm ∧ U.heap = h0) (fun _ _ _ _ _ => True) (fun _ U o U' => ∃ v L, o = .returned v ∧ QP h0 (some (.int (f4 x0 x2))) v U'.heap L ∧ FrameEnd U o U' L rx4.cells rx4.slots) := by
  refine MetFree.of_bodySF (plainFor_of_name pn4) hisR ?_
  intro p e s m args below meth c s₁ Bd hml0 hP hK
  obtain ⟨rfl, hZ, hh⟩ := hP
  have X0 : Stand p l e rx4 s m #[(.long x0), (.int x2)] below meth c s₁ [] 0 0 := Stand.of_body Bd
  have e0 : s₁.heap = h0 := by rw [← hh, Bd.state]; rfl
  exact OwnOut.at (ef4 m x0 x2) (w4_0 x0 x2 X0 ⟨Bd.exec, hZ, hw, Bd.bytes, hml0, findClass_of_methodNamed Bd.named, Bd.returns, Bd.notSynchronized, (name_of_methodNamed Bd.named Bd.method).1⟩ e0)
-- body 0: com/example/eigenmittel/eigenmittel/AsciiDigitsPairsPinLaw.law:(J)Z
theorem pn0 : plainName "com/example/eigenmittel/eigenmittel/AsciiDigitsPairsPinLaw" = true := by first | (simp [plainName, overriddenIn]; done) | decide +kernel
theorem pd0 : parseMethodDescriptor "(J)Z" = some ⟨[.long], some .boolean⟩ := by decide +kernel
theorem ef0 (m : MethodId) (x0 : Int64) : entryFrame m #[(.long x0)] maxLocals = mkF m 0 #[.val (.long x0), .second, .unset, .unset, .unset, .unset, .unset, .unset, .unset, .unset, .unset, .unset, .unset, .unset] [] := by first | (simp [entryFrame, mkF, argsToLocals, Value.category, maxLocals]; done) | rfl
abbrev Cx0 (Z : State) (a0 : Array Value) (p : Program) (s : State) (m : MethodId) (meth : Method) (c : Code) : Prop := p.tables.exec = Jvm.exec ∧ Z.Warmed39 s.vm ∧ (∀ d ∈ tables_1, d.before a0 Z = true) ∧ c.code = code ∧ c.maxLocals = 14 ∧ s.vm.findClass "com/example/eigenmittel/eigenmittel/AsciiDigitsPairsPinLaw" = some m.cls ∧ meth.sig.returnType = (some .boolean) ∧ meth.locks = false ∧ meth.name = "law"
def f0_113 (x2 : Int32) (x3 : Int32) (x4 : Int32) (x5 : Int32) (x6 : Int32) (x7 : Int32) (x8 : Int32) (x9 : Int32) (x10 : Int64) : Int32 := (if (f4 (f3 x10) (0 : Int32)) = (((10 : Int32) * x2) + x3) then (if (f4 (f3 x10) (1 : Int32)) = (((10 : Int32) * x3) + x4) then (if (f4 (f3 x10) (2 : Int32)) = (((10 : Int32) * x4) + x5) then (if (f4 (f3 x10) (3 : Int32)) = (((10 : Int32) * x5) + x6) then (if (f4 (f3 x10) (4 : Int32)) = (((10 : Int32) * x6) + x7) then (if (f4 (f3 x10) (5 : Int32)) = (((10 : Int32) * x7) + x8) then (if (f4 (f3 x10) (6 : Int32)) = (((10 : Int32) * x8) + x9) then (1 : Int32) else (0 : Int32)) else (0 : Int32)) else (0 : Int32)) else (0 : Int32)) else (0 : Int32)) else (0 : Int32)) else (0 : Int32))
set_option maxRecDepth 65536 in
set_option maxHeartbeats 40000000 in
theorem w0_113 {p : Program} {l : Launch} {e : Env} {s : State} {m : MethodId} {args : Array Value} {below : List Frame} {meth : Method} {c : Code} {T Z : State} {a0 : Array Value} {h0 : Heap} (x0 : Int64) (x2 : Int32) (x3 : Int32) (x4 : Int32) (x5 : Int32) (x6 : Int32) (x7 : Int32) (x8 : Int32) (x9 : Int32) (x10 : Int64)
    (X0 : Stand p l e room_1 s m args below meth c T [] 0 0) (C : Cx0 Z a0 p s m meth c) (e0 : T.heap = h0) :
    OwnOut p e s below 0 0 (QP h0 (some (.int (f0_113 x2 x3 x4 x5 x6 x7 x8 x9 x10)))) (T.setTop (mkF m 113 #[.val (.long x0), .second, .val (.int x2), .val (.int x3), .val (.int x4), .val (.int x5), .val (.int x6), .val (.int x7), .val (.int x8), .val (.int x9), .val (.long x10), .second, .unset, .unset] [])) := by
  obtain ⟨hx, hZ, hw, hby, hml, hown, hret, hlk, hnm⟩ := C
  rw [f0_113]
  refine OwnOut.go (fun t k => XS.lload X0.here hx rfl (hb hby at_113) rfl k) ?_
  show OwnOut p e s below 0 0 _ (T.setTop (mkF m 115 #[.val (.long x0), .second, .val (.int x2), .val (.int x3), .val (.int x4), .val (.int x5), .val (.int x6), .val (.int x7), .val (.int x8), .val (.int x9), .val (.long x10), .second, .unset, .unset] [(.long x10)]))
  obtain ⟨T1, X1, e1, st1⟩ := callP (W := 0) (rm := rx3) X0 hx hZ (y := (⟨"com/example/eigenmittel/eigenmittel/AsciiDigits", "pairs", "(J)J"⟩ : MethodName)) hown (hw _ (List.mem_of_getElem? (i := 8) rfl)) (hw _ (List.mem_of_getElem? (i := 9) rfl)) (hw _ (List.mem_of_getElem? (i := 10) rfl)) (hw _ (List.mem_of_getElem? (i := 11) rfl)) (by decide) (rm3 l Z a0 hw [] x10 h0) (by decide) (by decide) rfl rfl (Nat.zero_le _) (Nat.zero_le _) e0 (g := (mkF m 115 #[.val (.long x0), .second, .val (.int x2), .val (.int x3), .val (.int x4), .val (.int x5), .val (.int x6), .val (.int x7), .val (.int x8), .val (.int x9), .val (.long x10), .second, .unset, .unset] [(.long x10)])) rfl (by rw [hml]; rfl) (argsL := [(.long x10)]) (rest := []) (lenOf pd3 rfl) rfl (by show 2 * 0 + _ ≤ _; exact Nat.le_of_eq rfl) (hb hby at_115)
  refine OwnOut.go (fun t k => st1 _ k) ?_
  show OwnOut p e s below 0 0 _ (T1.setTop (mkF m 118 #[.val (.long x0), .second, .val (.int x2), .val (.int x3), .val (.int x4), .val (.int x5), .val (.int x6), .val (.int x7), .val (.int x8), .val (.int x9), .val (.long x10), .second, .unset, .unset] [(.long (f3 x10))]))
  refine OwnOut.go (fun t k => XS.lstore X1.here hx rfl (hb hby at_118) rfl (l' := #[.val (.long x0), .second, .val (.int x2), .val (.int x3), .val (.int x4), .val (.int x5), .val (.int x6), .val (.int x7), .val (.int x8), .val (.int x9), .val (.long x10), .second, .val (.long (f3 x10)), .second]) rfl k) ?_
  show OwnOut p e s below 0 0 _ (T1.setTop (mkF m 120 #[.val (.long x0), .second, .val (.int x2), .val (.int x3), .val (.int x4), .val (.int x5), .val (.int x6), .val (.int x7), .val (.int x8), .val (.int x9), .val (.long x10), .second, .val (.long (f3 x10)), .second] []))
  refine OwnOut.go (fun t k => XS.lload X1.here hx rfl (hb hby at_120) rfl k) ?_
  show OwnOut p e s below 0 0 _ (T1.setTop (mkF m 122 #[.val (.long x0), .second, .val (.int x2), .val (.int x3), .val (.int x4), .val (.int x5), .val (.int x6), .val (.int x7), .val (.int x8), .val (.int x9), .val (.long x10), .second, .val (.long (f3 x10)), .second] [(.long (f3 x10))]))
  refine OwnOut.go (fun t k => XT.iconstV X1.here hx rfl (0 : Int32) (hb hby at_122) rfl k) ?_
  show OwnOut p e s below 0 0 _ (T1.setTop (mkF m 123 #[.val (.long x0), .second, .val (.int x2), .val (.int x3), .val (.int x4), .val (.int x5), .val (.int x6), .val (.int x7), .val (.int x8), .val (.int x9), .val (.long x10), .second, .val (.long (f3 x10)), .second] [(.int (0 : Int32)), (.long (f3 x10))]))
  obtain ⟨T2, X2, e2, st2⟩ := callP (W := 0) (rm := rx4) X1 hx hZ (y := (⟨"com/example/eigenmittel/eigenmittel/AsciiDigitsPairsPinLaw", "byteAt", "(JI)I"⟩ : MethodName)) hown (hw _ (List.mem_of_getElem? (i := 14) rfl)) (hw _ (List.mem_of_getElem? (i := 15) rfl)) (hw _ (List.mem_of_getElem? (i := 2) rfl)) (hw _ (List.mem_of_getElem? (i := 16) rfl)) (by decide) (rm4 l Z a0 hw [] (f3 x10) (0 : Int32) h0) (by decide) (by decide) rfl rfl (Nat.zero_le _) (Nat.zero_le _) e1 (g := (mkF m 123 #[.val (.long x0), .second, .val (.int x2), .val (.int x3), .val (.int x4), .val (.int x5), .val (.int x6), .val (.int x7), .val (.int x8), .val (.int x9), .val (.long x10), .second, .val (.long (f3 x10)), .second] [(.int (0 : Int32)), (.long (f3 x10))])) rfl (by rw [hml]; rfl) (argsL := [(.long (f3 x10)), (.int (0 : Int32))]) (rest := []) (lenOf pd4 rfl) rfl (by show 2 * 0 + _ ≤ _; exact Nat.le_of_eq rfl) (hb hby at_123)
  refine OwnOut.go (fun t k => st2 _ k) ?_
  show OwnOut p e s below 0 0 _ (T2.setTop (mkF m 126 #[.val (.long x0), .second, .val (.int x2), .val (.int x3), .val (.int x4), .val (.int x5), .val (.int x6), .val (.int x7), .val (.int x8), .val (.int x9), .val (.long x10), .second, .val (.long (f3 x10)), .second] [(.int (f4 (f3 x10) (0 : Int32)))]))
  refine OwnOut.go (fun t k => XT.bipushV X2.here hx rfl (10 : Int32) (hb hby at_126) rfl k) ?_
  show OwnOut p e s below 0 0 _ (T2.setTop (mkF m 128 #[.val (.long x0), .second, .val (.int x2), .val (.int x3), .val (.int x4), .val (.int x5), .val (.int x6), .val (.int x7), .val (.int x8), .val (.int x9), .val (.long x10), .second, .val (.long (f3 x10)), .second] [(.int (10 : Int32)), (.int (f4 (f3 x10) (0 : Int32)))]))
  refine OwnOut.go (fun t k => XS.iloadN X2.here hx rfl (hb hby at_128) rfl k) ?_
  show OwnOut p e s below 0 0 _ (T2.setTop (mkF m 129 #[.val (.long x0), .second, .val (.int x2), .val (.int x3), .val (.int x4), .val (.int x5), .val (.int x6), .val (.int x7), .val (.int x8), .val (.int x9), .val (.long x10), .second, .val (.long (f3 x10)), .second] [(.int x2), (.int (10 : Int32)), (.int (f4 (f3 x10) (0 : Int32)))]))
  refine OwnOut.go (fun t k => XS.imul X2.here hx rfl (hb hby at_129) rfl k) ?_
  show OwnOut p e s below 0 0 _ (T2.setTop (mkF m 130 #[.val (.long x0), .second, .val (.int x2), .val (.int x3), .val (.int x4), .val (.int x5), .val (.int x6), .val (.int x7), .val (.int x8), .val (.int x9), .val (.long x10), .second, .val (.long (f3 x10)), .second] [(.int ((10 : Int32) * x2)), (.int (f4 (f3 x10) (0 : Int32)))]))
  refine OwnOut.go (fun t k => XS.iloadN X2.here hx rfl (hb hby at_130) rfl k) ?_
  show OwnOut p e s below 0 0 _ (T2.setTop (mkF m 131 #[.val (.long x0), .second, .val (.int x2), .val (.int x3), .val (.int x4), .val (.int x5), .val (.int x6), .val (.int x7), .val (.int x8), .val (.int x9), .val (.long x10), .second, .val (.long (f3 x10)), .second] [(.int x3), (.int ((10 : Int32) * x2)), (.int (f4 (f3 x10) (0 : Int32)))]))
  refine OwnOut.go (fun t k => XS.iadd X2.here hx rfl (hb hby at_131) rfl k) ?_
  show OwnOut p e s below 0 0 _ (T2.setTop (mkF m 132 #[.val (.long x0), .second, .val (.int x2), .val (.int x3), .val (.int x4), .val (.int x5), .val (.int x6), .val (.int x7), .val (.int x8), .val (.int x9), .val (.long x10), .second, .val (.long (f3 x10)), .second] [(.int (((10 : Int32) * x2) + x3)), (.int (f4 (f3 x10) (0 : Int32)))]))
  by_cases hc132 : (f4 (f3 x10) (0 : Int32)) = (((10 : Int32) * x2) + x3)
  · rw [if_pos hc132]
    refine OwnOut.go (fun t k => XS.icmpNo X2.here hx rfl (hb hby at_132) rfl (XT.ii_ne_f hc132) k) ?_
    show OwnOut p e s below 0 0 _ (T2.setTop (mkF m 135 #[.val (.long x0), .second, .val (.int x2), .val (.int x3), .val (.int x4), .val (.int x5), .val (.int x6), .val (.int x7), .val (.int x8), .val (.int x9), .val (.long x10), .second, .val (.long (f3 x10)), .second] []))
    refine OwnOut.go (fun t k => XS.lload X2.here hx rfl (hb hby at_135) rfl k) ?_
    show OwnOut p e s below 0 0 _ (T2.setTop (mkF m 137 #[.val (.long x0), .second, .val (.int x2), .val (.int x3), .val (.int x4), .val (.int x5), .val (.int x6), .val (.int x7), .val (.int x8), .val (.int x9), .val (.long x10), .second, .val (.long (f3 x10)), .second] [(.long (f3 x10))]))
    refine OwnOut.go (fun t k => XT.iconstV X2.here hx rfl (1 : Int32) (hb hby at_137) rfl k) ?_
    show OwnOut p e s below 0 0 _ (T2.setTop (mkF m 138 #[.val (.long x0), .second, .val (.int x2), .val (.int x3), .val (.int x4), .val (.int x5), .val (.int x6), .val (.int x7), .val (.int x8), .val (.int x9), .val (.long x10), .second, .val (.long (f3 x10)), .second] [(.int (1 : Int32)), (.long (f3 x10))]))
    obtain ⟨T3, X3, e3, st3⟩ := callP (W := 0) (rm := rx4) X2 hx hZ (y := (⟨"com/example/eigenmittel/eigenmittel/AsciiDigitsPairsPinLaw", "byteAt", "(JI)I"⟩ : MethodName)) hown (hw _ (List.mem_of_getElem? (i := 14) rfl)) (hw _ (List.mem_of_getElem? (i := 15) rfl)) (hw _ (List.mem_of_getElem? (i := 2) rfl)) (hw _ (List.mem_of_getElem? (i := 16) rfl)) (by decide) (rm4 l Z a0 hw [] (f3 x10) (1 : Int32) h0) (by decide) (by decide) rfl rfl (Nat.zero_le _) (Nat.zero_le _) e2 (g := (mkF m 138 #[.val (.long x0), .second, .val (.int x2), .val (.int x3), .val (.int x4), .val (.int x5), .val (.int x6), .val (.int x7), .val (.int x8), .val (.int x9), .val (.long x10), .second, .val (.long (f3 x10)), .second] [(.int (1 : Int32)), (.long (f3 x10))])) rfl (by rw [hml]; rfl) (argsL := [(.long (f3 x10)), (.int (1 : Int32))]) (rest := []) (lenOf pd4 rfl) rfl (by show 2 * 0 + _ ≤ _; exact Nat.le_of_eq rfl) (hb hby at_138)
    refine OwnOut.go (fun t k => st3 _ k) ?_
    show OwnOut p e s below 0 0 _ (T3.setTop (mkF m 141 #[.val (.long x0), .second, .val (.int x2), .val (.int x3), .val (.int x4), .val (.int x5), .val (.int x6), .val (.int x7), .val (.int x8), .val (.int x9), .val (.long x10), .second, .val (.long (f3 x10)), .second] [(.int (f4 (f3 x10) (1 : Int32)))]))
    refine OwnOut.go (fun t k => XT.bipushV X3.here hx rfl (10 : Int32) (hb hby at_141) rfl k) ?_
    show OwnOut p e s below 0 0 _ (T3.setTop (mkF m 143 #[.val (.long x0), .second, .val (.int x2), .val (.int x3), .val (.int x4), .val (.int x5), .val (.int x6), .val (.int x7), .val (.int x8), .val (.int x9), .val (.long x10), .second, .val (.long (f3 x10)), .second] [(.int (10 : Int32)), (.int (f4 (f3 x10) (1 : Int32)))]))
    refine OwnOut.go (fun t k => XS.iloadN X3.here hx rfl (hb hby at_143) rfl k) ?_
    show OwnOut p e s below 0 0 _ (T3.setTop (mkF m 144 #[.val (.long x0), .second, .val (.int x2), .val (.int x3), .val (.int x4), .val (.int x5), .val (.int x6), .val (.int x7), .val (.int x8), .val (.int x9), .val (.long x10), .second, .val (.long (f3 x10)), .second] [(.int x3), (.int (10 : Int32)), (.int (f4 (f3 x10) (1 : Int32)))]))
    refine OwnOut.go (fun t k => XS.imul X3.here hx rfl (hb hby at_144) rfl k) ?_
    show OwnOut p e s below 0 0 _ (T3.setTop (mkF m 145 #[.val (.long x0), .second, .val (.int x2), .val (.int x3), .val (.int x4), .val (.int x5), .val (.int x6), .val (.int x7), .val (.int x8), .val (.int x9), .val (.long x10), .second, .val (.long (f3 x10)), .second] [(.int ((10 : Int32) * x3)), (.int (f4 (f3 x10) (1 : Int32)))]))
    refine OwnOut.go (fun t k => XS.iload X3.here hx rfl (hb hby at_145) rfl k) ?_
    show OwnOut p e s below 0 0 _ (T3.setTop (mkF m 147 #[.val (.long x0), .second, .val (.int x2), .val (.int x3), .val (.int x4), .val (.int x5), .val (.int x6), .val (.int x7), .val (.int x8), .val (.int x9), .val (.long x10), .second, .val (.long (f3 x10)), .second] [(.int x4), (.int ((10 : Int32) * x3)), (.int (f4 (f3 x10) (1 : Int32)))]))
    refine OwnOut.go (fun t k => XS.iadd X3.here hx rfl (hb hby at_147) rfl k) ?_
    show OwnOut p e s below 0 0 _ (T3.setTop (mkF m 148 #[.val (.long x0), .second, .val (.int x2), .val (.int x3), .val (.int x4), .val (.int x5), .val (.int x6), .val (.int x7), .val (.int x8), .val (.int x9), .val (.long x10), .second, .val (.long (f3 x10)), .second] [(.int (((10 : Int32) * x3) + x4)), (.int (f4 (f3 x10) (1 : Int32)))]))
    by_cases hc148 : (f4 (f3 x10) (1 : Int32)) = (((10 : Int32) * x3) + x4)
    · rw [if_pos hc148]
      refine OwnOut.go (fun t k => XS.icmpNo X3.here hx rfl (hb hby at_148) rfl (XT.ii_ne_f hc148) k) ?_
      show OwnOut p e s below 0 0 _ (T3.setTop (mkF m 151 #[.val (.long x0), .second, .val (.int x2), .val (.int x3), .val (.int x4), .val (.int x5), .val (.int x6), .val (.int x7), .val (.int x8), .val (.int x9), .val (.long x10), .second, .val (.long (f3 x10)), .second] []))
      refine OwnOut.go (fun t k => XS.lload X3.here hx rfl (hb hby at_151) rfl k) ?_
      show OwnOut p e s below 0 0 _ (T3.setTop (mkF m 153 #[.val (.long x0), .second, .val (.int x2), .val (.int x3), .val (.int x4), .val (.int x5), .val (.int x6), .val (.int x7), .val (.int x8), .val (.int x9), .val (.long x10), .second, .val (.long (f3 x10)), .second] [(.long (f3 x10))]))
      refine OwnOut.go (fun t k => XT.iconstV X3.here hx rfl (2 : Int32) (hb hby at_153) rfl k) ?_
      show OwnOut p e s below 0 0 _ (T3.setTop (mkF m 154 #[.val (.long x0), .second, .val (.int x2), .val (.int x3), .val (.int x4), .val (.int x5), .val (.int x6), .val (.int x7), .val (.int x8), .val (.int x9), .val (.long x10), .second, .val (.long (f3 x10)), .second] [(.int (2 : Int32)), (.long (f3 x10))]))
      obtain ⟨T4, X4, e4, st4⟩ := callP (W := 0) (rm := rx4) X3 hx hZ (y := (⟨"com/example/eigenmittel/eigenmittel/AsciiDigitsPairsPinLaw", "byteAt", "(JI)I"⟩ : MethodName)) hown (hw _ (List.mem_of_getElem? (i := 14) rfl)) (hw _ (List.mem_of_getElem? (i := 15) rfl)) (hw _ (List.mem_of_getElem? (i := 2) rfl)) (hw _ (List.mem_of_getElem? (i := 16) rfl)) (by decide) (rm4 l Z a0 hw [] (f3 x10) (2 : Int32) h0) (by decide) (by decide) rfl rfl (Nat.zero_le _) (Nat.zero_le _) e3 (g := (mkF m 154 #[.val (.long x0), .second, .val (.int x2), .val (.int x3), .val (.int x4), .val (.int x5), .val (.int x6), .val (.int x7), .val (.int x8), .val (.int x9), .val (.long x10), .second, .val (.long (f3 x10)), .second] [(.int (2 : Int32)), (.long (f3 x10))])) rfl (by rw [hml]; rfl) (argsL := [(.long (f3 x10)), (.int (2 : Int32))]) (rest := []) (lenOf pd4 rfl) rfl (by show 2 * 0 + _ ≤ _; exact Nat.le_of_eq rfl) (hb hby at_154)
      refine OwnOut.go (fun t k => st4 _ k) ?_
      show OwnOut p e s below 0 0 _ (T4.setTop (mkF m 157 #[.val (.long x0), .second, .val (.int x2), .val (.int x3), .val (.int x4), .val (.int x5), .val (.int x6), .val (.int x7), .val (.int x8), .val (.int x9), .val (.long x10), .second, .val (.long (f3 x10)), .second] [(.int (f4 (f3 x10) (2 : Int32)))]))
      refine OwnOut.go (fun t k => XT.bipushV X4.here hx rfl (10 : Int32) (hb hby at_157) rfl k) ?_
      show OwnOut p e s below 0 0 _ (T4.setTop (mkF m 159 #[.val (.long x0), .second, .val (.int x2), .val (.int x3), .val (.int x4), .val (.int x5), .val (.int x6), .val (.int x7), .val (.int x8), .val (.int x9), .val (.long x10), .second, .val (.long (f3 x10)), .second] [(.int (10 : Int32)), (.int (f4 (f3 x10) (2 : Int32)))]))
      refine OwnOut.go (fun t k => XS.iload X4.here hx rfl (hb hby at_159) rfl k) ?_
      show OwnOut p e s below 0 0 _ (T4.setTop (mkF m 161 #[.val (.long x0), .second, .val (.int x2), .val (.int x3), .val (.int x4), .val (.int x5), .val (.int x6), .val (.int x7), .val (.int x8), .val (.int x9), .val (.long x10), .second, .val (.long (f3 x10)), .second] [(.int x4), (.int (10 : Int32)), (.int (f4 (f3 x10) (2 : Int32)))]))
      refine OwnOut.go (fun t k => XS.imul X4.here hx rfl (hb hby at_161) rfl k) ?_
      show OwnOut p e s below 0 0 _ (T4.setTop (mkF m 162 #[.val (.long x0), .second, .val (.int x2), .val (.int x3), .val (.int x4), .val (.int x5), .val (.int x6), .val (.int x7), .val (.int x8), .val (.int x9), .val (.long x10), .second, .val (.long (f3 x10)), .second] [(.int ((10 : Int32) * x4)), (.int (f4 (f3 x10) (2 : Int32)))]))
      refine OwnOut.go (fun t k => XS.iload X4.here hx rfl (hb hby at_162) rfl k) ?_
      show OwnOut p e s below 0 0 _ (T4.setTop (mkF m 164 #[.val (.long x0), .second, .val (.int x2), .val (.int x3), .val (.int x4), .val (.int x5), .val (.int x6), .val (.int x7), .val (.int x8), .val (.int x9), .val (.long x10), .second, .val (.long (f3 x10)), .second] [(.int x5), (.int ((10 : Int32) * x4)), (.int (f4 (f3 x10) (2 : Int32)))]))
      refine OwnOut.go (fun t k => XS.iadd X4.here hx rfl (hb hby at_164) rfl k) ?_
      show OwnOut p e s below 0 0 _ (T4.setTop (mkF m 165 #[.val (.long x0), .second, .val (.int x2), .val (.int x3), .val (.int x4), .val (.int x5), .val (.int x6), .val (.int x7), .val (.int x8), .val (.int x9), .val (.long x10), .second, .val (.long (f3 x10)), .second] [(.int (((10 : Int32) * x4) + x5)), (.int (f4 (f3 x10) (2 : Int32)))]))
      by_cases hc165 : (f4 (f3 x10) (2 : Int32)) = (((10 : Int32) * x4) + x5)
      · rw [if_pos hc165]
        refine OwnOut.go (fun t k => XS.icmpNo X4.here hx rfl (hb hby at_165) rfl (XT.ii_ne_f hc165) k) ?_
        show OwnOut p e s below 0 0 _ (T4.setTop (mkF m 168 #[.val (.long x0), .second, .val (.int x2), .val (.int x3), .val (.int x4), .val (.int x5), .val (.int x6), .val (.int x7), .val (.int x8), .val (.int x9), .val (.long x10), .second, .val (.long (f3 x10)), .second] []))
        refine OwnOut.go (fun t k => XS.lload X4.here hx rfl (hb hby at_168) rfl k) ?_
        show OwnOut p e s below 0 0 _ (T4.setTop (mkF m 170 #[.val (.long x0), .second, .val (.int x2), .val (.int x3), .val (.int x4), .val (.int x5), .val (.int x6), .val (.int x7), .val (.int x8), .val (.int x9), .val (.long x10), .second, .val (.long (f3 x10)), .second] [(.long (f3 x10))]))
        refine OwnOut.go (fun t k => XT.iconstV X4.here hx rfl (3 : Int32) (hb hby at_170) rfl k) ?_
        show OwnOut p e s below 0 0 _ (T4.setTop (mkF m 171 #[.val (.long x0), .second, .val (.int x2), .val (.int x3), .val (.int x4), .val (.int x5), .val (.int x6), .val (.int x7), .val (.int x8), .val (.int x9), .val (.long x10), .second, .val (.long (f3 x10)), .second] [(.int (3 : Int32)), (.long (f3 x10))]))
        obtain ⟨T5, X5, e5, st5⟩ := callP (W := 0) (rm := rx4) X4 hx hZ (y := (⟨"com/example/eigenmittel/eigenmittel/AsciiDigitsPairsPinLaw", "byteAt", "(JI)I"⟩ : MethodName)) hown (hw _ (List.mem_of_getElem? (i := 14) rfl)) (hw _ (List.mem_of_getElem? (i := 15) rfl)) (hw _ (List.mem_of_getElem? (i := 2) rfl)) (hw _ (List.mem_of_getElem? (i := 16) rfl)) (by decide) (rm4 l Z a0 hw [] (f3 x10) (3 : Int32) h0) (by decide) (by decide) rfl rfl (Nat.zero_le _) (Nat.zero_le _) e4 (g := (mkF m 171 #[.val (.long x0), .second, .val (.int x2), .val (.int x3), .val (.int x4), .val (.int x5), .val (.int x6), .val (.int x7), .val (.int x8), .val (.int x9), .val (.long x10), .second, .val (.long (f3 x10)), .second] [(.int (3 : Int32)), (.long (f3 x10))])) rfl (by rw [hml]; rfl) (argsL := [(.long (f3 x10)), (.int (3 : Int32))]) (rest := []) (lenOf pd4 rfl) rfl (by show 2 * 0 + _ ≤ _; exact Nat.le_of_eq rfl) (hb hby at_171)
        refine OwnOut.go (fun t k => st5 _ k) ?_
        show OwnOut p e s below 0 0 _ (T5.setTop (mkF m 174 #[.val (.long x0), .second, .val (.int x2), .val (.int x3), .val (.int x4), .val (.int x5), .val (.int x6), .val (.int x7), .val (.int x8), .val (.int x9), .val (.long x10), .second, .val (.long (f3 x10)), .second] [(.int (f4 (f3 x10) (3 : Int32)))]))
        refine OwnOut.go (fun t k => XT.bipushV X5.here hx rfl (10 : Int32) (hb hby at_174) rfl k) ?_
        show OwnOut p e s below 0 0 _ (T5.setTop (mkF m 176 #[.val (.long x0), .second, .val (.int x2), .val (.int x3), .val (.int x4), .val (.int x5), .val (.int x6), .val (.int x7), .val (.int x8), .val (.int x9), .val (.long x10), .second, .val (.long (f3 x10)), .second] [(.int (10 : Int32)), (.int (f4 (f3 x10) (3 : Int32)))]))
        refine OwnOut.go (fun t k => XS.iload X5.here hx rfl (hb hby at_176) rfl k) ?_
        show OwnOut p e s below 0 0 _ (T5.setTop (mkF m 178 #[.val (.long x0), .second, .val (.int x2), .val (.int x3), .val (.int x4), .val (.int x5), .val (.int x6), .val (.int x7), .val (.int x8), .val (.int x9), .val (.long x10), .second, .val (.long (f3 x10)), .second] [(.int x5), (.int (10 : Int32)), (.int (f4 (f3 x10) (3 : Int32)))]))
        refine OwnOut.go (fun t k => XS.imul X5.here hx rfl (hb hby at_178) rfl k) ?_
        show OwnOut p e s below 0 0 _ (T5.setTop (mkF m 179 #[.val (.long x0), .second, .val (.int x2), .val (.int x3), .val (.int x4), .val (.int x5), .val (.int x6), .val (.int x7), .val (.int x8), .val (.int x9), .val (.long x10), .second, .val (.long (f3 x10)), .second] [(.int ((10 : Int32) * x5)), (.int (f4 (f3 x10) (3 : Int32)))]))
        refine OwnOut.go (fun t k => XS.iload X5.here hx rfl (hb hby at_179) rfl k) ?_
        show OwnOut p e s below 0 0 _ (T5.setTop (mkF m 181 #[.val (.long x0), .second, .val (.int x2), .val (.int x3), .val (.int x4), .val (.int x5), .val (.int x6), .val (.int x7), .val (.int x8), .val (.int x9), .val (.long x10), .second, .val (.long (f3 x10)), .second] [(.int x6), (.int ((10 : Int32) * x5)), (.int (f4 (f3 x10) (3 : Int32)))]))
        refine OwnOut.go (fun t k => XS.iadd X5.here hx rfl (hb hby at_181) rfl k) ?_
        show OwnOut p e s below 0 0 _ (T5.setTop (mkF m 182 #[.val (.long x0), .second, .val (.int x2), .val (.int x3), .val (.int x4), .val (.int x5), .val (.int x6), .val (.int x7), .val (.int x8), .val (.int x9), .val (.long x10), .second, .val (.long (f3 x10)), .second] [(.int (((10 : Int32) * x5) + x6)), (.int (f4 (f3 x10) (3 : Int32)))]))
        by_cases hc182 : (f4 (f3 x10) (3 : Int32)) = (((10 : Int32) * x5) + x6)
        · rw [if_pos hc182]
          refine OwnOut.go (fun t k => XS.icmpNo X5.here hx rfl (hb hby at_182) rfl (XT.ii_ne_f hc182) k) ?_
          show OwnOut p e s below 0 0 _ (T5.setTop (mkF m 185 #[.val (.long x0), .second, .val (.int x2), .val (.int x3), .val (.int x4), .val (.int x5), .val (.int x6), .val (.int x7), .val (.int x8), .val (.int x9), .val (.long x10), .second, .val (.long (f3 x10)), .second] []))
          refine OwnOut.go (fun t k => XS.lload X5.here hx rfl (hb hby at_185) rfl k) ?_
          show OwnOut p e s below 0 0 _ (T5.setTop (mkF m 187 #[.val (.long x0), .second, .val (.int x2), .val (.int x3), .val (.int x4), .val (.int x5), .val (.int x6), .val (.int x7), .val (.int x8), .val (.int x9), .val (.long x10), .second, .val (.long (f3 x10)), .second] [(.long (f3 x10))]))
          refine OwnOut.go (fun t k => XT.iconstV X5.here hx rfl (4 : Int32) (hb hby at_187) rfl k) ?_
          show OwnOut p e s below 0 0 _ (T5.setTop (mkF m 188 #[.val (.long x0), .second, .val (.int x2), .val (.int x3), .val (.int x4), .val (.int x5), .val (.int x6), .val (.int x7), .val (.int x8), .val (.int x9), .val (.long x10), .second, .val (.long (f3 x10)), .second] [(.int (4 : Int32)), (.long (f3 x10))]))
          obtain ⟨T6, X6, e6, st6⟩ := callP (W := 0) (rm := rx4) X5 hx hZ (y := (⟨"com/example/eigenmittel/eigenmittel/AsciiDigitsPairsPinLaw", "byteAt", "(JI)I"⟩ : MethodName)) hown (hw _ (List.mem_of_getElem? (i := 14) rfl)) (hw _ (List.mem_of_getElem? (i := 15) rfl)) (hw _ (List.mem_of_getElem? (i := 2) rfl)) (hw _ (List.mem_of_getElem? (i := 16) rfl)) (by decide) (rm4 l Z a0 hw [] (f3 x10) (4 : Int32) h0) (by decide) (by decide) rfl rfl (Nat.zero_le _) (Nat.zero_le _) e5 (g := (mkF m 188 #[.val (.long x0), .second, .val (.int x2), .val (.int x3), .val (.int x4), .val (.int x5), .val (.int x6), .val (.int x7), .val (.int x8), .val (.int x9), .val (.long x10), .second, .val (.long (f3 x10)), .second] [(.int (4 : Int32)), (.long (f3 x10))])) rfl (by rw [hml]; rfl) (argsL := [(.long (f3 x10)), (.int (4 : Int32))]) (rest := []) (lenOf pd4 rfl) rfl (by show 2 * 0 + _ ≤ _; exact Nat.le_of_eq rfl) (hb hby at_188)
          refine OwnOut.go (fun t k => st6 _ k) ?_
          show OwnOut p e s below 0 0 _ (T6.setTop (mkF m 191 #[.val (.long x0), .second, .val (.int x2), .val (.int x3), .val (.int x4), .val (.int x5), .val (.int x6), .val (.int x7), .val (.int x8), .val (.int x9), .val (.long x10), .second, .val (.long (f3 x10)), .second] [(.int (f4 (f3 x10) (4 : Int32)))]))
          refine OwnOut.go (fun t k => XT.bipushV X6.here hx rfl (10 : Int32) (hb hby at_191) rfl k) ?_
          show OwnOut p e s below 0 0 _ (T6.setTop (mkF m 193 #[.val (.long x0), .second, .val (.int x2), .val (.int x3), .val (.int x4), .val (.int x5), .val (.int x6), .val (.int x7), .val (.int x8), .val (.int x9), .val (.long x10), .second, .val (.long (f3 x10)), .second] [(.int (10 : Int32)), (.int (f4 (f3 x10) (4 : Int32)))]))
          refine OwnOut.go (fun t k => XS.iload X6.here hx rfl (hb hby at_193) rfl k) ?_
          show OwnOut p e s below 0 0 _ (T6.setTop (mkF m 195 #[.val (.long x0), .second, .val (.int x2), .val (.int x3), .val (.int x4), .val (.int x5), .val (.int x6), .val (.int x7), .val (.int x8), .val (.int x9), .val (.long x10), .second, .val (.long (f3 x10)), .second] [(.int x6), (.int (10 : Int32)), (.int (f4 (f3 x10) (4 : Int32)))]))
          refine OwnOut.go (fun t k => XS.imul X6.here hx rfl (hb hby at_195) rfl k) ?_
          show OwnOut p e s below 0 0 _ (T6.setTop (mkF m 196 #[.val (.long x0), .second, .val (.int x2), .val (.int x3), .val (.int x4), .val (.int x5), .val (.int x6), .val (.int x7), .val (.int x8), .val (.int x9), .val (.long x10), .second, .val (.long (f3 x10)), .second] [(.int ((10 : Int32) * x6)), (.int (f4 (f3 x10) (4 : Int32)))]))
          refine OwnOut.go (fun t k => XS.iload X6.here hx rfl (hb hby at_196) rfl k) ?_
          show OwnOut p e s below 0 0 _ (T6.setTop (mkF m 198 #[.val (.long x0), .second, .val (.int x2), .val (.int x3), .val (.int x4), .val (.int x5), .val (.int x6), .val (.int x7), .val (.int x8), .val (.int x9), .val (.long x10), .second, .val (.long (f3 x10)), .second] [(.int x7), (.int ((10 : Int32) * x6)), (.int (f4 (f3 x10) (4 : Int32)))]))
          refine OwnOut.go (fun t k => XS.iadd X6.here hx rfl (hb hby at_198) rfl k) ?_
          show OwnOut p e s below 0 0 _ (T6.setTop (mkF m 199 #[.val (.long x0), .second, .val (.int x2), .val (.int x3), .val (.int x4), .val (.int x5), .val (.int x6), .val (.int x7), .val (.int x8), .val (.int x9), .val (.long x10), .second, .val (.long (f3 x10)), .second] [(.int (((10 : Int32) * x6) + x7)), (.int (f4 (f3 x10) (4 : Int32)))]))
          by_cases hc199 : (f4 (f3 x10) (4 : Int32)) = (((10 : Int32) * x6) + x7)
          · rw [if_pos hc199]
            refine OwnOut.go (fun t k => XS.icmpNo X6.here hx rfl (hb hby at_199) rfl (XT.ii_ne_f hc199) k) ?_
            show OwnOut p e s below 0 0 _ (T6.setTop (mkF m 202 #[.val (.long x0), .second, .val (.int x2), .val (.int x3), .val (.int x4), .val (.int x5), .val (.int x6), .val (.int x7), .val (.int x8), .val (.int x9), .val (.long x10), .second, .val (.long (f3 x10)), .second] []))
            refine OwnOut.go (fun t k => XS.lload X6.here hx rfl (hb hby at_202) rfl k) ?_
            show OwnOut p e s below 0 0 _ (T6.setTop (mkF m 204 #[.val (.long x0), .second, .val (.int x2), .val (.int x3), .val (.int x4), .val (.int x5), .val (.int x6), .val (.int x7), .val (.int x8), .val (.int x9), .val (.long x10), .second, .val (.long (f3 x10)), .second] [(.long (f3 x10))]))
            refine OwnOut.go (fun t k => XT.iconstV X6.here hx rfl (5 : Int32) (hb hby at_204) rfl k) ?_
            show OwnOut p e s below 0 0 _ (T6.setTop (mkF m 205 #[.val (.long x0), .second, .val (.int x2), .val (.int x3), .val (.int x4), .val (.int x5), .val (.int x6), .val (.int x7), .val (.int x8), .val (.int x9), .val (.long x10), .second, .val (.long (f3 x10)), .second] [(.int (5 : Int32)), (.long (f3 x10))]))
            obtain ⟨T7, X7, e7, st7⟩ := callP (W := 0) (rm := rx4) X6 hx hZ (y := (⟨"com/example/eigenmittel/eigenmittel/AsciiDigitsPairsPinLaw", "byteAt", "(JI)I"⟩ : MethodName)) hown (hw _ (List.mem_of_getElem? (i := 14) rfl)) (hw _ (List.mem_of_getElem? (i := 15) rfl)) (hw _ (List.mem_of_getElem? (i := 2) rfl)) (hw _ (List.mem_of_getElem? (i := 16) rfl)) (by decide) (rm4 l Z a0 hw [] (f3 x10) (5 : Int32) h0) (by decide) (by decide) rfl rfl (Nat.zero_le _) (Nat.zero_le _) e6 (g := (mkF m 205 #[.val (.long x0), .second, .val (.int x2), .val (.int x3), .val (.int x4), .val (.int x5), .val (.int x6), .val (.int x7), .val (.int x8), .val (.int x9), .val (.long x10), .second, .val (.long (f3 x10)), .second] [(.int (5 : Int32)), (.long (f3 x10))])) rfl (by rw [hml]; rfl) (argsL := [(.long (f3 x10)), (.int (5 : Int32))]) (rest := []) (lenOf pd4 rfl) rfl (by show 2 * 0 + _ ≤ _; exact Nat.le_of_eq rfl) (hb hby at_205)
            refine OwnOut.go (fun t k => st7 _ k) ?_
            show OwnOut p e s below 0 0 _ (T7.setTop (mkF m 208 #[.val (.long x0), .second, .val (.int x2), .val (.int x3), .val (.int x4), .val (.int x5), .val (.int x6), .val (.int x7), .val (.int x8), .val (.int x9), .val (.long x10), .second, .val (.long (f3 x10)), .second] [(.int (f4 (f3 x10) (5 : Int32)))]))
            refine OwnOut.go (fun t k => XT.bipushV X7.here hx rfl (10 : Int32) (hb hby at_208) rfl k) ?_
            show OwnOut p e s below 0 0 _ (T7.setTop (mkF m 210 #[.val (.long x0), .second, .val (.int x2), .val (.int x3), .val (.int x4), .val (.int x5), .val (.int x6), .val (.int x7), .val (.int x8), .val (.int x9), .val (.long x10), .second, .val (.long (f3 x10)), .second] [(.int (10 : Int32)), (.int (f4 (f3 x10) (5 : Int32)))]))
            refine OwnOut.go (fun t k => XS.iload X7.here hx rfl (hb hby at_210) rfl k) ?_
            show OwnOut p e s below 0 0 _ (T7.setTop (mkF m 212 #[.val (.long x0), .second, .val (.int x2), .val (.int x3), .val (.int x4), .val (.int x5), .val (.int x6), .val (.int x7), .val (.int x8), .val (.int x9), .val (.long x10), .second, .val (.long (f3 x10)), .second] [(.int x7), (.int (10 : Int32)), (.int (f4 (f3 x10) (5 : Int32)))]))
            refine OwnOut.go (fun t k => XS.imul X7.here hx rfl (hb hby at_212) rfl k) ?_
            show OwnOut p e s below 0 0 _ (T7.setTop (mkF m 213 #[.val (.long x0), .second, .val (.int x2), .val (.int x3), .val (.int x4), .val (.int x5), .val (.int x6), .val (.int x7), .val (.int x8), .val (.int x9), .val (.long x10), .second, .val (.long (f3 x10)), .second] [(.int ((10 : Int32) * x7)), (.int (f4 (f3 x10) (5 : Int32)))]))
            refine OwnOut.go (fun t k => XS.iload X7.here hx rfl (hb hby at_213) rfl k) ?_
            show OwnOut p e s below 0 0 _ (T7.setTop (mkF m 215 #[.val (.long x0), .second, .val (.int x2), .val (.int x3), .val (.int x4), .val (.int x5), .val (.int x6), .val (.int x7), .val (.int x8), .val (.int x9), .val (.long x10), .second, .val (.long (f3 x10)), .second] [(.int x8), (.int ((10 : Int32) * x7)), (.int (f4 (f3 x10) (5 : Int32)))]))
            refine OwnOut.go (fun t k => XS.iadd X7.here hx rfl (hb hby at_215) rfl k) ?_
            show OwnOut p e s below 0 0 _ (T7.setTop (mkF m 216 #[.val (.long x0), .second, .val (.int x2), .val (.int x3), .val (.int x4), .val (.int x5), .val (.int x6), .val (.int x7), .val (.int x8), .val (.int x9), .val (.long x10), .second, .val (.long (f3 x10)), .second] [(.int (((10 : Int32) * x7) + x8)), (.int (f4 (f3 x10) (5 : Int32)))]))
            by_cases hc216 : (f4 (f3 x10) (5 : Int32)) = (((10 : Int32) * x7) + x8)
            · rw [if_pos hc216]
              refine OwnOut.go (fun t k => XS.icmpNo X7.here hx rfl (hb hby at_216) rfl (XT.ii_ne_f hc216) k) ?_
              show OwnOut p e s below 0 0 _ (T7.setTop (mkF m 219 #[.val (.long x0), .second, .val (.int x2), .val (.int x3), .val (.int x4), .val (.int x5), .val (.int x6), .val (.int x7), .val (.int x8), .val (.int x9), .val (.long x10), .second, .val (.long (f3 x10)), .second] []))
              refine OwnOut.go (fun t k => XS.lload X7.here hx rfl (hb hby at_219) rfl k) ?_
              show OwnOut p e s below 0 0 _ (T7.setTop (mkF m 221 #[.val (.long x0), .second, .val (.int x2), .val (.int x3), .val (.int x4), .val (.int x5), .val (.int x6), .val (.int x7), .val (.int x8), .val (.int x9), .val (.long x10), .second, .val (.long (f3 x10)), .second] [(.long (f3 x10))]))
              refine OwnOut.go (fun t k => XT.bipushV X7.here hx rfl (6 : Int32) (hb hby at_221) rfl k) ?_
              show OwnOut p e s below 0 0 _ (T7.setTop (mkF m 223 #[.val (.long x0), .second, .val (.int x2), .val (.int x3), .val (.int x4), .val (.int x5), .val (.int x6), .val (.int x7), .val (.int x8), .val (.int x9), .val (.long x10), .second, .val (.long (f3 x10)), .second] [(.int (6 : Int32)), (.long (f3 x10))]))
              obtain ⟨T8, X8, e8, st8⟩ := callP (W := 0) (rm := rx4) X7 hx hZ (y := (⟨"com/example/eigenmittel/eigenmittel/AsciiDigitsPairsPinLaw", "byteAt", "(JI)I"⟩ : MethodName)) hown (hw _ (List.mem_of_getElem? (i := 14) rfl)) (hw _ (List.mem_of_getElem? (i := 15) rfl)) (hw _ (List.mem_of_getElem? (i := 2) rfl)) (hw _ (List.mem_of_getElem? (i := 16) rfl)) (by decide) (rm4 l Z a0 hw [] (f3 x10) (6 : Int32) h0) (by decide) (by decide) rfl rfl (Nat.zero_le _) (Nat.zero_le _) e7 (g := (mkF m 223 #[.val (.long x0), .second, .val (.int x2), .val (.int x3), .val (.int x4), .val (.int x5), .val (.int x6), .val (.int x7), .val (.int x8), .val (.int x9), .val (.long x10), .second, .val (.long (f3 x10)), .second] [(.int (6 : Int32)), (.long (f3 x10))])) rfl (by rw [hml]; rfl) (argsL := [(.long (f3 x10)), (.int (6 : Int32))]) (rest := []) (lenOf pd4 rfl) rfl (by show 2 * 0 + _ ≤ _; exact Nat.le_of_eq rfl) (hb hby at_223)
              refine OwnOut.go (fun t k => st8 _ k) ?_
              show OwnOut p e s below 0 0 _ (T8.setTop (mkF m 226 #[.val (.long x0), .second, .val (.int x2), .val (.int x3), .val (.int x4), .val (.int x5), .val (.int x6), .val (.int x7), .val (.int x8), .val (.int x9), .val (.long x10), .second, .val (.long (f3 x10)), .second] [(.int (f4 (f3 x10) (6 : Int32)))]))
              refine OwnOut.go (fun t k => XT.bipushV X8.here hx rfl (10 : Int32) (hb hby at_226) rfl k) ?_
              show OwnOut p e s below 0 0 _ (T8.setTop (mkF m 228 #[.val (.long x0), .second, .val (.int x2), .val (.int x3), .val (.int x4), .val (.int x5), .val (.int x6), .val (.int x7), .val (.int x8), .val (.int x9), .val (.long x10), .second, .val (.long (f3 x10)), .second] [(.int (10 : Int32)), (.int (f4 (f3 x10) (6 : Int32)))]))
              refine OwnOut.go (fun t k => XS.iload X8.here hx rfl (hb hby at_228) rfl k) ?_
              show OwnOut p e s below 0 0 _ (T8.setTop (mkF m 230 #[.val (.long x0), .second, .val (.int x2), .val (.int x3), .val (.int x4), .val (.int x5), .val (.int x6), .val (.int x7), .val (.int x8), .val (.int x9), .val (.long x10), .second, .val (.long (f3 x10)), .second] [(.int x8), (.int (10 : Int32)), (.int (f4 (f3 x10) (6 : Int32)))]))
              refine OwnOut.go (fun t k => XS.imul X8.here hx rfl (hb hby at_230) rfl k) ?_
              show OwnOut p e s below 0 0 _ (T8.setTop (mkF m 231 #[.val (.long x0), .second, .val (.int x2), .val (.int x3), .val (.int x4), .val (.int x5), .val (.int x6), .val (.int x7), .val (.int x8), .val (.int x9), .val (.long x10), .second, .val (.long (f3 x10)), .second] [(.int ((10 : Int32) * x8)), (.int (f4 (f3 x10) (6 : Int32)))]))
              refine OwnOut.go (fun t k => XS.iload X8.here hx rfl (hb hby at_231) rfl k) ?_
              show OwnOut p e s below 0 0 _ (T8.setTop (mkF m 233 #[.val (.long x0), .second, .val (.int x2), .val (.int x3), .val (.int x4), .val (.int x5), .val (.int x6), .val (.int x7), .val (.int x8), .val (.int x9), .val (.long x10), .second, .val (.long (f3 x10)), .second] [(.int x9), (.int ((10 : Int32) * x8)), (.int (f4 (f3 x10) (6 : Int32)))]))
              refine OwnOut.go (fun t k => XS.iadd X8.here hx rfl (hb hby at_233) rfl k) ?_
              show OwnOut p e s below 0 0 _ (T8.setTop (mkF m 234 #[.val (.long x0), .second, .val (.int x2), .val (.int x3), .val (.int x4), .val (.int x5), .val (.int x6), .val (.int x7), .val (.int x8), .val (.int x9), .val (.long x10), .second, .val (.long (f3 x10)), .second] [(.int (((10 : Int32) * x8) + x9)), (.int (f4 (f3 x10) (6 : Int32)))]))
              by_cases hc234 : (f4 (f3 x10) (6 : Int32)) = (((10 : Int32) * x8) + x9)
              · rw [if_pos hc234]
                refine OwnOut.go (fun t k => XS.icmpNo X8.here hx rfl (hb hby at_234) rfl (XT.ii_ne_f hc234) k) ?_
                show OwnOut p e s below 0 0 _ (T8.setTop (mkF m 237 #[.val (.long x0), .second, .val (.int x2), .val (.int x3), .val (.int x4), .val (.int x5), .val (.int x6), .val (.int x7), .val (.int x8), .val (.int x9), .val (.long x10), .second, .val (.long (f3 x10)), .second] []))
                refine OwnOut.go (fun t k => XT.iconstV X8.here hx rfl (1 : Int32) (hb hby at_237) rfl k) ?_
                show OwnOut p e s below 0 0 _ (T8.setTop (mkF m 238 #[.val (.long x0), .second, .val (.int x2), .val (.int x3), .val (.int x4), .val (.int x5), .val (.int x6), .val (.int x7), .val (.int x8), .val (.int x9), .val (.long x10), .second, .val (.long (f3 x10)), .second] [(.int (1 : Int32))]))
                refine OwnOut.go (fun t k => XS.goto X8.here hx rfl (pc0 := 238) (pc' := 242) rfl (hb hby at_238) (by decide) (by decide) k) ?_
                show OwnOut p e s below 0 0 _ (T8.setTop (mkF m 242 #[.val (.long x0), .second, .val (.int x2), .val (.int x3), .val (.int x4), .val (.int x5), .val (.int x6), .val (.int x7), .val (.int x8), .val (.int x9), .val (.long x10), .second, .val (.long (f3 x10)), .second] [(.int (1 : Int32))]))
                exact outZ X8 hx hret (hb hby at_242) hlk (by decide) (by decide) ⟨rfl, e8, rfl⟩
              · rw [if_neg hc234]
                refine OwnOut.go (fun t k => XS.icmpYes X8.here hx rfl (pc0 := 234) (pc' := 241) rfl (hb hby at_234) rfl (XT.ii_ne_t hc234) (by decide) (by decide) k) ?_
                show OwnOut p e s below 0 0 _ (T8.setTop (mkF m 241 #[.val (.long x0), .second, .val (.int x2), .val (.int x3), .val (.int x4), .val (.int x5), .val (.int x6), .val (.int x7), .val (.int x8), .val (.int x9), .val (.long x10), .second, .val (.long (f3 x10)), .second] []))
                refine OwnOut.go (fun t k => XT.iconstV X8.here hx rfl (0 : Int32) (hb hby at_241) rfl k) ?_
                show OwnOut p e s below 0 0 _ (T8.setTop (mkF m 242 #[.val (.long x0), .second, .val (.int x2), .val (.int x3), .val (.int x4), .val (.int x5), .val (.int x6), .val (.int x7), .val (.int x8), .val (.int x9), .val (.long x10), .second, .val (.long (f3 x10)), .second] [(.int (0 : Int32))]))
                exact outZ X8 hx hret (hb hby at_242) hlk (by decide) (by decide) ⟨rfl, e8, rfl⟩
            · rw [if_neg hc216]
              refine OwnOut.go (fun t k => XS.icmpYes X7.here hx rfl (pc0 := 216) (pc' := 241) rfl (hb hby at_216) rfl (XT.ii_ne_t hc216) (by decide) (by decide) k) ?_
              show OwnOut p e s below 0 0 _ (T7.setTop (mkF m 241 #[.val (.long x0), .second, .val (.int x2), .val (.int x3), .val (.int x4), .val (.int x5), .val (.int x6), .val (.int x7), .val (.int x8), .val (.int x9), .val (.long x10), .second, .val (.long (f3 x10)), .second] []))
              refine OwnOut.go (fun t k => XT.iconstV X7.here hx rfl (0 : Int32) (hb hby at_241) rfl k) ?_
              show OwnOut p e s below 0 0 _ (T7.setTop (mkF m 242 #[.val (.long x0), .second, .val (.int x2), .val (.int x3), .val (.int x4), .val (.int x5), .val (.int x6), .val (.int x7), .val (.int x8), .val (.int x9), .val (.long x10), .second, .val (.long (f3 x10)), .second] [(.int (0 : Int32))]))
              exact outZ X7 hx hret (hb hby at_242) hlk (by decide) (by decide) ⟨rfl, e7, rfl⟩
          · rw [if_neg hc199]
            refine OwnOut.go (fun t k => XS.icmpYes X6.here hx rfl (pc0 := 199) (pc' := 241) rfl (hb hby at_199) rfl (XT.ii_ne_t hc199) (by decide) (by decide) k) ?_
            show OwnOut p e s below 0 0 _ (T6.setTop (mkF m 241 #[.val (.long x0), .second, .val (.int x2), .val (.int x3), .val (.int x4), .val (.int x5), .val (.int x6), .val (.int x7), .val (.int x8), .val (.int x9), .val (.long x10), .second, .val (.long (f3 x10)), .second] []))
            refine OwnOut.go (fun t k => XT.iconstV X6.here hx rfl (0 : Int32) (hb hby at_241) rfl k) ?_
            show OwnOut p e s below 0 0 _ (T6.setTop (mkF m 242 #[.val (.long x0), .second, .val (.int x2), .val (.int x3), .val (.int x4), .val (.int x5), .val (.int x6), .val (.int x7), .val (.int x8), .val (.int x9), .val (.long x10), .second, .val (.long (f3 x10)), .second] [(.int (0 : Int32))]))
            exact outZ X6 hx hret (hb hby at_242) hlk (by decide) (by decide) ⟨rfl, e6, rfl⟩
        · rw [if_neg hc182]
          refine OwnOut.go (fun t k => XS.icmpYes X5.here hx rfl (pc0 := 182) (pc' := 241) rfl (hb hby at_182) rfl (XT.ii_ne_t hc182) (by decide) (by decide) k) ?_
          show OwnOut p e s below 0 0 _ (T5.setTop (mkF m 241 #[.val (.long x0), .second, .val (.int x2), .val (.int x3), .val (.int x4), .val (.int x5), .val (.int x6), .val (.int x7), .val (.int x8), .val (.int x9), .val (.long x10), .second, .val (.long (f3 x10)), .second] []))
          refine OwnOut.go (fun t k => XT.iconstV X5.here hx rfl (0 : Int32) (hb hby at_241) rfl k) ?_
          show OwnOut p e s below 0 0 _ (T5.setTop (mkF m 242 #[.val (.long x0), .second, .val (.int x2), .val (.int x3), .val (.int x4), .val (.int x5), .val (.int x6), .val (.int x7), .val (.int x8), .val (.int x9), .val (.long x10), .second, .val (.long (f3 x10)), .second] [(.int (0 : Int32))]))
          exact outZ X5 hx hret (hb hby at_242) hlk (by decide) (by decide) ⟨rfl, e5, rfl⟩
      · rw [if_neg hc165]
        refine OwnOut.go (fun t k => XS.icmpYes X4.here hx rfl (pc0 := 165) (pc' := 241) rfl (hb hby at_165) rfl (XT.ii_ne_t hc165) (by decide) (by decide) k) ?_
        show OwnOut p e s below 0 0 _ (T4.setTop (mkF m 241 #[.val (.long x0), .second, .val (.int x2), .val (.int x3), .val (.int x4), .val (.int x5), .val (.int x6), .val (.int x7), .val (.int x8), .val (.int x9), .val (.long x10), .second, .val (.long (f3 x10)), .second] []))
        refine OwnOut.go (fun t k => XT.iconstV X4.here hx rfl (0 : Int32) (hb hby at_241) rfl k) ?_
        show OwnOut p e s below 0 0 _ (T4.setTop (mkF m 242 #[.val (.long x0), .second, .val (.int x2), .val (.int x3), .val (.int x4), .val (.int x5), .val (.int x6), .val (.int x7), .val (.int x8), .val (.int x9), .val (.long x10), .second, .val (.long (f3 x10)), .second] [(.int (0 : Int32))]))
        exact outZ X4 hx hret (hb hby at_242) hlk (by decide) (by decide) ⟨rfl, e4, rfl⟩
    · rw [if_neg hc148]
      refine OwnOut.go (fun t k => XS.icmpYes X3.here hx rfl (pc0 := 148) (pc' := 241) rfl (hb hby at_148) rfl (XT.ii_ne_t hc148) (by decide) (by decide) k) ?_
      show OwnOut p e s below 0 0 _ (T3.setTop (mkF m 241 #[.val (.long x0), .second, .val (.int x2), .val (.int x3), .val (.int x4), .val (.int x5), .val (.int x6), .val (.int x7), .val (.int x8), .val (.int x9), .val (.long x10), .second, .val (.long (f3 x10)), .second] []))
      refine OwnOut.go (fun t k => XT.iconstV X3.here hx rfl (0 : Int32) (hb hby at_241) rfl k) ?_
      show OwnOut p e s below 0 0 _ (T3.setTop (mkF m 242 #[.val (.long x0), .second, .val (.int x2), .val (.int x3), .val (.int x4), .val (.int x5), .val (.int x6), .val (.int x7), .val (.int x8), .val (.int x9), .val (.long x10), .second, .val (.long (f3 x10)), .second] [(.int (0 : Int32))]))
      exact outZ X3 hx hret (hb hby at_242) hlk (by decide) (by decide) ⟨rfl, e3, rfl⟩
  · rw [if_neg hc132]
    refine OwnOut.go (fun t k => XS.icmpYes X2.here hx rfl (pc0 := 132) (pc' := 241) rfl (hb hby at_132) rfl (XT.ii_ne_t hc132) (by decide) (by decide) k) ?_
    show OwnOut p e s below 0 0 _ (T2.setTop (mkF m 241 #[.val (.long x0), .second, .val (.int x2), .val (.int x3), .val (.int x4), .val (.int x5), .val (.int x6), .val (.int x7), .val (.int x8), .val (.int x9), .val (.long x10), .second, .val (.long (f3 x10)), .second] []))
    refine OwnOut.go (fun t k => XT.iconstV X2.here hx rfl (0 : Int32) (hb hby at_241) rfl k) ?_
    show OwnOut p e s below 0 0 _ (T2.setTop (mkF m 242 #[.val (.long x0), .second, .val (.int x2), .val (.int x3), .val (.int x4), .val (.int x5), .val (.int x6), .val (.int x7), .val (.int x8), .val (.int x9), .val (.long x10), .second, .val (.long (f3 x10)), .second] [(.int (0 : Int32))]))
    exact outZ X2 hx hret (hb hby at_242) hlk (by decide) (by decide) ⟨rfl, e2, rfl⟩
def f0 (x0 : Int64) : Int32 := (f0_113 (f1 x0 (0 : Int32)) (f1 x0 (1 : Int32)) (f1 x0 (2 : Int32)) (f1 x0 (3 : Int32)) (f1 x0 (4 : Int32)) (f1 x0 (5 : Int32)) (f1 x0 (6 : Int32)) (f1 x0 (7 : Int32)) ((((((((f2 (f1 x0 (0 : Int32)) (0 : Int32)) ||| (f2 (f1 x0 (1 : Int32)) (1 : Int32))) ||| (f2 (f1 x0 (2 : Int32)) (2 : Int32))) ||| (f2 (f1 x0 (3 : Int32)) (3 : Int32))) ||| (f2 (f1 x0 (4 : Int32)) (4 : Int32))) ||| (f2 (f1 x0 (5 : Int32)) (5 : Int32))) ||| (f2 (f1 x0 (6 : Int32)) (6 : Int32))) ||| (f2 (f1 x0 (7 : Int32)) (7 : Int32))))
set_option maxRecDepth 65536 in
set_option maxHeartbeats 40000000 in
theorem w0_0 {p : Program} {l : Launch} {e : Env} {s : State} {m : MethodId} {args : Array Value} {below : List Frame} {meth : Method} {c : Code} {T Z : State} {a0 : Array Value} {h0 : Heap} (x0 : Int64)
    (X0 : Stand p l e room_1 s m args below meth c T [] 0 0) (C : Cx0 Z a0 p s m meth c) (e0 : T.heap = h0) :
    OwnOut p e s below 0 0 (QP h0 (some (.int (f0 x0)))) (T.setTop (mkF m 0 #[.val (.long x0), .second, .unset, .unset, .unset, .unset, .unset, .unset, .unset, .unset, .unset, .unset, .unset, .unset] [])) := by
  obtain ⟨hx, hZ, hw, hby, hml, hown, hret, hlk, hnm⟩ := C
  rw [f0]
  refine OwnOut.go (fun t k => XS.lloadN X0.here hx rfl (hb hby at_0) rfl k) ?_
  show OwnOut p e s below 0 0 _ (T.setTop (mkF m 1 #[.val (.long x0), .second, .unset, .unset, .unset, .unset, .unset, .unset, .unset, .unset, .unset, .unset, .unset, .unset] [(.long x0)]))
  refine OwnOut.go (fun t k => XT.iconstV X0.here hx rfl (0 : Int32) (hb hby at_1) rfl k) ?_
  show OwnOut p e s below 0 0 _ (T.setTop (mkF m 2 #[.val (.long x0), .second, .unset, .unset, .unset, .unset, .unset, .unset, .unset, .unset, .unset, .unset, .unset, .unset] [(.int (0 : Int32)), (.long x0)]))
  obtain ⟨T9, X9, e9, st9⟩ := callP (W := 0) (rm := rx1) X0 hx hZ (y := (⟨"com/example/eigenmittel/eigenmittel/AsciiDigitsPairsPinLaw", "digit", "(JI)I"⟩ : MethodName)) hown (hw _ (List.mem_of_getElem? (i := 0) rfl)) (hw _ (List.mem_of_getElem? (i := 1) rfl)) (hw _ (List.mem_of_getElem? (i := 2) rfl)) (hw _ (List.mem_of_getElem? (i := 3) rfl)) (by decide) (rm1 l Z a0 hw [] x0 (0 : Int32) h0) (by decide) (by decide) rfl rfl (Nat.zero_le _) (Nat.zero_le _) e0 (g := (mkF m 2 #[.val (.long x0), .second, .unset, .unset, .unset, .unset, .unset, .unset, .unset, .unset, .unset, .unset, .unset, .unset] [(.int (0 : Int32)), (.long x0)])) rfl (by rw [hml]; rfl) (argsL := [(.long x0), (.int (0 : Int32))]) (rest := []) (lenOf pd1 rfl) rfl (by show 2 * 0 + _ ≤ _; exact Nat.le_of_eq rfl) (hb hby at_2)
  refine OwnOut.go (fun t k => st9 _ k) ?_
  show OwnOut p e s below 0 0 _ (T9.setTop (mkF m 5 #[.val (.long x0), .second, .unset, .unset, .unset, .unset, .unset, .unset, .unset, .unset, .unset, .unset, .unset, .unset] [(.int (f1 x0 (0 : Int32)))]))
  refine OwnOut.go (fun t k => XS.istoreN X9.here hx rfl (hb hby at_5) rfl (l' := #[.val (.long x0), .second, .val (.int (f1 x0 (0 : Int32))), .unset, .unset, .unset, .unset, .unset, .unset, .unset, .unset, .unset, .unset, .unset]) rfl k) ?_
  show OwnOut p e s below 0 0 _ (T9.setTop (mkF m 6 #[.val (.long x0), .second, .val (.int (f1 x0 (0 : Int32))), .unset, .unset, .unset, .unset, .unset, .unset, .unset, .unset, .unset, .unset, .unset] []))
  refine OwnOut.go (fun t k => XS.lloadN X9.here hx rfl (hb hby at_6) rfl k) ?_
  show OwnOut p e s below 0 0 _ (T9.setTop (mkF m 7 #[.val (.long x0), .second, .val (.int (f1 x0 (0 : Int32))), .unset, .unset, .unset, .unset, .unset, .unset, .unset, .unset, .unset, .unset, .unset] [(.long x0)]))
  refine OwnOut.go (fun t k => XT.iconstV X9.here hx rfl (1 : Int32) (hb hby at_7) rfl k) ?_
  show OwnOut p e s below 0 0 _ (T9.setTop (mkF m 8 #[.val (.long x0), .second, .val (.int (f1 x0 (0 : Int32))), .unset, .unset, .unset, .unset, .unset, .unset, .unset, .unset, .unset, .unset, .unset] [(.int (1 : Int32)), (.long x0)]))
  obtain ⟨T10, X10, e10, st10⟩ := callP (W := 0) (rm := rx1) X9 hx hZ (y := (⟨"com/example/eigenmittel/eigenmittel/AsciiDigitsPairsPinLaw", "digit", "(JI)I"⟩ : MethodName)) hown (hw _ (List.mem_of_getElem? (i := 0) rfl)) (hw _ (List.mem_of_getElem? (i := 1) rfl)) (hw _ (List.mem_of_getElem? (i := 2) rfl)) (hw _ (List.mem_of_getElem? (i := 3) rfl)) (by decide) (rm1 l Z a0 hw [] x0 (1 : Int32) h0) (by decide) (by decide) rfl rfl (Nat.zero_le _) (Nat.zero_le _) e9 (g := (mkF m 8 #[.val (.long x0), .second, .val (.int (f1 x0 (0 : Int32))), .unset, .unset, .unset, .unset, .unset, .unset, .unset, .unset, .unset, .unset, .unset] [(.int (1 : Int32)), (.long x0)])) rfl (by rw [hml]; rfl) (argsL := [(.long x0), (.int (1 : Int32))]) (rest := []) (lenOf pd1 rfl) rfl (by show 2 * 0 + _ ≤ _; exact Nat.le_of_eq rfl) (hb hby at_8)
  refine OwnOut.go (fun t k => st10 _ k) ?_
  show OwnOut p e s below 0 0 _ (T10.setTop (mkF m 11 #[.val (.long x0), .second, .val (.int (f1 x0 (0 : Int32))), .unset, .unset, .unset, .unset, .unset, .unset, .unset, .unset, .unset, .unset, .unset] [(.int (f1 x0 (1 : Int32)))]))
  refine OwnOut.go (fun t k => XS.istoreN X10.here hx rfl (hb hby at_11) rfl (l' := #[.val (.long x0), .second, .val (.int (f1 x0 (0 : Int32))), .val (.int (f1 x0 (1 : Int32))), .unset, .unset, .unset, .unset, .unset, .unset, .unset, .unset, .unset, .unset]) rfl k) ?_
  show OwnOut p e s below 0 0 _ (T10.setTop (mkF m 12 #[.val (.long x0), .second, .val (.int (f1 x0 (0 : Int32))), .val (.int (f1 x0 (1 : Int32))), .unset, .unset, .unset, .unset, .unset, .unset, .unset, .unset, .unset, .unset] []))
  refine OwnOut.go (fun t k => XS.lloadN X10.here hx rfl (hb hby at_12) rfl k) ?_
  show OwnOut p e s below 0 0 _ (T10.setTop (mkF m 13 #[.val (.long x0), .second, .val (.int (f1 x0 (0 : Int32))), .val (.int (f1 x0 (1 : Int32))), .unset, .unset, .unset, .unset, .unset, .unset, .unset, .unset, .unset, .unset] [(.long x0)]))
  refine OwnOut.go (fun t k => XT.iconstV X10.here hx rfl (2 : Int32) (hb hby at_13) rfl k) ?_
  show OwnOut p e s below 0 0 _ (T10.setTop (mkF m 14 #[.val (.long x0), .second, .val (.int (f1 x0 (0 : Int32))), .val (.int (f1 x0 (1 : Int32))), .unset, .unset, .unset, .unset, .unset, .unset, .unset, .unset, .unset, .unset] [(.int (2 : Int32)), (.long x0)]))
  obtain ⟨T11, X11, e11, st11⟩ := callP (W := 0) (rm := rx1) X10 hx hZ (y := (⟨"com/example/eigenmittel/eigenmittel/AsciiDigitsPairsPinLaw", "digit", "(JI)I"⟩ : MethodName)) hown (hw _ (List.mem_of_getElem? (i := 0) rfl)) (hw _ (List.mem_of_getElem? (i := 1) rfl)) (hw _ (List.mem_of_getElem? (i := 2) rfl)) (hw _ (List.mem_of_getElem? (i := 3) rfl)) (by decide) (rm1 l Z a0 hw [] x0 (2 : Int32) h0) (by decide) (by decide) rfl rfl (Nat.zero_le _) (Nat.zero_le _) e10 (g := (mkF m 14 #[.val (.long x0), .second, .val (.int (f1 x0 (0 : Int32))), .val (.int (f1 x0 (1 : Int32))), .unset, .unset, .unset, .unset, .unset, .unset, .unset, .unset, .unset, .unset] [(.int (2 : Int32)), (.long x0)])) rfl (by rw [hml]; rfl) (argsL := [(.long x0), (.int (2 : Int32))]) (rest := []) (lenOf pd1 rfl) rfl (by show 2 * 0 + _ ≤ _; exact Nat.le_of_eq rfl) (hb hby at_14)
  refine OwnOut.go (fun t k => st11 _ k) ?_
  show OwnOut p e s below 0 0 _ (T11.setTop (mkF m 17 #[.val (.long x0), .second, .val (.int (f1 x0 (0 : Int32))), .val (.int (f1 x0 (1 : Int32))), .unset, .unset, .unset, .unset, .unset, .unset, .unset, .unset, .unset, .unset] [(.int (f1 x0 (2 : Int32)))]))
  refine OwnOut.go (fun t k => XS.istore X11.here hx rfl (hb hby at_17) rfl (l' := #[.val (.long x0), .second, .val (.int (f1 x0 (0 : Int32))), .val (.int (f1 x0 (1 : Int32))), .val (.int (f1 x0 (2 : Int32))), .unset, .unset, .unset, .unset, .unset, .unset, .unset, .unset, .unset]) rfl k) ?_
  show OwnOut p e s below 0 0 _ (T11.setTop (mkF m 19 #[.val (.long x0), .second, .val (.int (f1 x0 (0 : Int32))), .val (.int (f1 x0 (1 : Int32))), .val (.int (f1 x0 (2 : Int32))), .unset, .unset, .unset, .unset, .unset, .unset, .unset, .unset, .unset] []))
  refine OwnOut.go (fun t k => XS.lloadN X11.here hx rfl (hb hby at_19) rfl k) ?_
  show OwnOut p e s below 0 0 _ (T11.setTop (mkF m 20 #[.val (.long x0), .second, .val (.int (f1 x0 (0 : Int32))), .val (.int (f1 x0 (1 : Int32))), .val (.int (f1 x0 (2 : Int32))), .unset, .unset, .unset, .unset, .unset, .unset, .unset, .unset, .unset] [(.long x0)]))
  refine OwnOut.go (fun t k => XT.iconstV X11.here hx rfl (3 : Int32) (hb hby at_20) rfl k) ?_
  show OwnOut p e s below 0 0 _ (T11.setTop (mkF m 21 #[.val (.long x0), .second, .val (.int (f1 x0 (0 : Int32))), .val (.int (f1 x0 (1 : Int32))), .val (.int (f1 x0 (2 : Int32))), .unset, .unset, .unset, .unset, .unset, .unset, .unset, .unset, .unset] [(.int (3 : Int32)), (.long x0)]))
  obtain ⟨T12, X12, e12, st12⟩ := callP (W := 0) (rm := rx1) X11 hx hZ (y := (⟨"com/example/eigenmittel/eigenmittel/AsciiDigitsPairsPinLaw", "digit", "(JI)I"⟩ : MethodName)) hown (hw _ (List.mem_of_getElem? (i := 0) rfl)) (hw _ (List.mem_of_getElem? (i := 1) rfl)) (hw _ (List.mem_of_getElem? (i := 2) rfl)) (hw _ (List.mem_of_getElem? (i := 3) rfl)) (by decide) (rm1 l Z a0 hw [] x0 (3 : Int32) h0) (by decide) (by decide) rfl rfl (Nat.zero_le _) (Nat.zero_le _) e11 (g := (mkF m 21 #[.val (.long x0), .second, .val (.int (f1 x0 (0 : Int32))), .val (.int (f1 x0 (1 : Int32))), .val (.int (f1 x0 (2 : Int32))), .unset, .unset, .unset, .unset, .unset, .unset, .unset, .unset, .unset] [(.int (3 : Int32)), (.long x0)])) rfl (by rw [hml]; rfl) (argsL := [(.long x0), (.int (3 : Int32))]) (rest := []) (lenOf pd1 rfl) rfl (by show 2 * 0 + _ ≤ _; exact Nat.le_of_eq rfl) (hb hby at_21)
  refine OwnOut.go (fun t k => st12 _ k) ?_
  show OwnOut p e s below 0 0 _ (T12.setTop (mkF m 24 #[.val (.long x0), .second, .val (.int (f1 x0 (0 : Int32))), .val (.int (f1 x0 (1 : Int32))), .val (.int (f1 x0 (2 : Int32))), .unset, .unset, .unset, .unset, .unset, .unset, .unset, .unset, .unset] [(.int (f1 x0 (3 : Int32)))]))
  refine OwnOut.go (fun t k => XS.istore X12.here hx rfl (hb hby at_24) rfl (l' := #[.val (.long x0), .second, .val (.int (f1 x0 (0 : Int32))), .val (.int (f1 x0 (1 : Int32))), .val (.int (f1 x0 (2 : Int32))), .val (.int (f1 x0 (3 : Int32))), .unset, .unset, .unset, .unset, .unset, .unset, .unset, .unset]) rfl k) ?_
  show OwnOut p e s below 0 0 _ (T12.setTop (mkF m 26 #[.val (.long x0), .second, .val (.int (f1 x0 (0 : Int32))), .val (.int (f1 x0 (1 : Int32))), .val (.int (f1 x0 (2 : Int32))), .val (.int (f1 x0 (3 : Int32))), .unset, .unset, .unset, .unset, .unset, .unset, .unset, .unset] []))
  refine OwnOut.go (fun t k => XS.lloadN X12.here hx rfl (hb hby at_26) rfl k) ?_
  show OwnOut p e s below 0 0 _ (T12.setTop (mkF m 27 #[.val (.long x0), .second, .val (.int (f1 x0 (0 : Int32))), .val (.int (f1 x0 (1 : Int32))), .val (.int (f1 x0 (2 : Int32))), .val (.int (f1 x0 (3 : Int32))), .unset, .unset, .unset, .unset, .unset, .unset, .unset, .unset] [(.long x0)]))
  refine OwnOut.go (fun t k => XT.iconstV X12.here hx rfl (4 : Int32) (hb hby at_27) rfl k) ?_
  show OwnOut p e s below 0 0 _ (T12.setTop (mkF m 28 #[.val (.long x0), .second, .val (.int (f1 x0 (0 : Int32))), .val (.int (f1 x0 (1 : Int32))), .val (.int (f1 x0 (2 : Int32))), .val (.int (f1 x0 (3 : Int32))), .unset, .unset, .unset, .unset, .unset, .unset, .unset, .unset] [(.int (4 : Int32)), (.long x0)]))
  obtain ⟨T13, X13, e13, st13⟩ := callP (W := 0) (rm := rx1) X12 hx hZ (y := (⟨"com/example/eigenmittel/eigenmittel/AsciiDigitsPairsPinLaw", "digit", "(JI)I"⟩ : MethodName)) hown (hw _ (List.mem_of_getElem? (i := 0) rfl)) (hw _ (List.mem_of_getElem? (i := 1) rfl)) (hw _ (List.mem_of_getElem? (i := 2) rfl)) (hw _ (List.mem_of_getElem? (i := 3) rfl)) (by decide) (rm1 l Z a0 hw [] x0 (4 : Int32) h0) (by decide) (by decide) rfl rfl (Nat.zero_le _) (Nat.zero_le _) e12 (g := (mkF m 28 #[.val (.long x0), .second, .val (.int (f1 x0 (0 : Int32))), .val (.int (f1 x0 (1 : Int32))), .val (.int (f1 x0 (2 : Int32))), .val (.int (f1 x0 (3 : Int32))), .unset, .unset, .unset, .unset, .unset, .unset, .unset, .unset] [(.int (4 : Int32)), (.long x0)])) rfl (by rw [hml]; rfl) (argsL := [(.long x0), (.int (4 : Int32))]) (rest := []) (lenOf pd1 rfl) rfl (by show 2 * 0 + _ ≤ _; exact Nat.le_of_eq rfl) (hb hby at_28)
  refine OwnOut.go (fun t k => st13 _ k) ?_
  show OwnOut p e s below 0 0 _ (T13.setTop (mkF m 31 #[.val (.long x0), .second, .val (.int (f1 x0 (0 : Int32))), .val (.int (f1 x0 (1 : Int32))), .val (.int (f1 x0 (2 : Int32))), .val (.int (f1 x0 (3 : Int32))), .unset, .unset, .unset, .unset, .unset, .unset, .unset, .unset] [(.int (f1 x0 (4 : Int32)))]))
  refine OwnOut.go (fun t k => XS.istore X13.here hx rfl (hb hby at_31) rfl (l' := #[.val (.long x0), .second, .val (.int (f1 x0 (0 : Int32))), .val (.int (f1 x0 (1 : Int32))), .val (.int (f1 x0 (2 : Int32))), .val (.int (f1 x0 (3 : Int32))), .val (.int (f1 x0 (4 : Int32))), .unset, .unset, .unset, .unset, .unset, .unset, .unset]) rfl k) ?_
  show OwnOut p e s below 0 0 _ (T13.setTop (mkF m 33 #[.val (.long x0), .second, .val (.int (f1 x0 (0 : Int32))), .val (.int (f1 x0 (1 : Int32))), .val (.int (f1 x0 (2 : Int32))), .val (.int (f1 x0 (3 : Int32))), .val (.int (f1 x0 (4 : Int32))), .unset, .unset, .unset, .unset, .unset, .unset, .unset] []))
  refine OwnOut.go (fun t k => XS.lloadN X13.here hx rfl (hb hby at_33) rfl k) ?_
  show OwnOut p e s below 0 0 _ (T13.setTop (mkF m 34 #[.val (.long x0), .second, .val (.int (f1 x0 (0 : Int32))), .val (.int (f1 x0 (1 : Int32))), .val (.int (f1 x0 (2 : Int32))), .val (.int (f1 x0 (3 : Int32))), .val (.int (f1 x0 (4 : Int32))), .unset, .unset, .unset, .unset, .unset, .unset, .unset] [(.long x0)]))
  refine OwnOut.go (fun t k => XT.iconstV X13.here hx rfl (5 : Int32) (hb hby at_34) rfl k) ?_
  show OwnOut p e s below 0 0 _ (T13.setTop (mkF m 35 #[.val (.long x0), .second, .val (.int (f1 x0 (0 : Int32))), .val (.int (f1 x0 (1 : Int32))), .val (.int (f1 x0 (2 : Int32))), .val (.int (f1 x0 (3 : Int32))), .val (.int (f1 x0 (4 : Int32))), .unset, .unset, .unset, .unset, .unset, .unset, .unset] [(.int (5 : Int32)), (.long x0)]))
  obtain ⟨T14, X14, e14, st14⟩ := callP (W := 0) (rm := rx1) X13 hx hZ (y := (⟨"com/example/eigenmittel/eigenmittel/AsciiDigitsPairsPinLaw", "digit", "(JI)I"⟩ : MethodName)) hown (hw _ (List.mem_of_getElem? (i := 0) rfl)) (hw _ (List.mem_of_getElem? (i := 1) rfl)) (hw _ (List.mem_of_getElem? (i := 2) rfl)) (hw _ (List.mem_of_getElem? (i := 3) rfl)) (by decide) (rm1 l Z a0 hw [] x0 (5 : Int32) h0) (by decide) (by decide) rfl rfl (Nat.zero_le _) (Nat.zero_le _) e13 (g := (mkF m 35 #[.val (.long x0), .second, .val (.int (f1 x0 (0 : Int32))), .val (.int (f1 x0 (1 : Int32))), .val (.int (f1 x0 (2 : Int32))), .val (.int (f1 x0 (3 : Int32))), .val (.int (f1 x0 (4 : Int32))), .unset, .unset, .unset, .unset, .unset, .unset, .unset] [(.int (5 : Int32)), (.long x0)])) rfl (by rw [hml]; rfl) (argsL := [(.long x0), (.int (5 : Int32))]) (rest := []) (lenOf pd1 rfl) rfl (by show 2 * 0 + _ ≤ _; exact Nat.le_of_eq rfl) (hb hby at_35)
  refine OwnOut.go (fun t k => st14 _ k) ?_
  show OwnOut p e s below 0 0 _ (T14.setTop (mkF m 38 #[.val (.long x0), .second, .val (.int (f1 x0 (0 : Int32))), .val (.int (f1 x0 (1 : Int32))), .val (.int (f1 x0 (2 : Int32))), .val (.int (f1 x0 (3 : Int32))), .val (.int (f1 x0 (4 : Int32))), .unset, .unset, .unset, .unset, .unset, .unset, .unset] [(.int (f1 x0 (5 : Int32)))]))
  refine OwnOut.go (fun t k => XS.istore X14.here hx rfl (hb hby at_38) rfl (l' := #[.val (.long x0), .second, .val (.int (f1 x0 (0 : Int32))), .val (.int (f1 x0 (1 : Int32))), .val (.int (f1 x0 (2 : Int32))), .val (.int (f1 x0 (3 : Int32))), .val (.int (f1 x0 (4 : Int32))), .val (.int (f1 x0 (5 : Int32))), .unset, .unset, .unset, .unset, .unset, .unset]) rfl k) ?_
  show OwnOut p e s below 0 0 _ (T14.setTop (mkF m 40 #[.val (.long x0), .second, .val (.int (f1 x0 (0 : Int32))), .val (.int (f1 x0 (1 : Int32))), .val (.int (f1 x0 (2 : Int32))), .val (.int (f1 x0 (3 : Int32))), .val (.int (f1 x0 (4 : Int32))), .val (.int (f1 x0 (5 : Int32))), .unset, .unset, .unset, .unset, .unset, .unset] []))
  refine OwnOut.go (fun t k => XS.lloadN X14.here hx rfl (hb hby at_40) rfl k) ?_
  show OwnOut p e s below 0 0 _ (T14.setTop (mkF m 41 #[.val (.long x0), .second, .val (.int (f1 x0 (0 : Int32))), .val (.int (f1 x0 (1 : Int32))), .val (.int (f1 x0 (2 : Int32))), .val (.int (f1 x0 (3 : Int32))), .val (.int (f1 x0 (4 : Int32))), .val (.int (f1 x0 (5 : Int32))), .unset, .unset, .unset, .unset, .unset, .unset] [(.long x0)]))
  refine OwnOut.go (fun t k => XT.bipushV X14.here hx rfl (6 : Int32) (hb hby at_41) rfl k) ?_
  show OwnOut p e s below 0 0 _ (T14.setTop (mkF m 43 #[.val (.long x0), .second, .val (.int (f1 x0 (0 : Int32))), .val (.int (f1 x0 (1 : Int32))), .val (.int (f1 x0 (2 : Int32))), .val (.int (f1 x0 (3 : Int32))), .val (.int (f1 x0 (4 : Int32))), .val (.int (f1 x0 (5 : Int32))), .unset, .unset, .unset, .unset, .unset, .unset] [(.int (6 : Int32)), (.long x0)]))
  obtain ⟨T15, X15, e15, st15⟩ := callP (W := 0) (rm := rx1) X14 hx hZ (y := (⟨"com/example/eigenmittel/eigenmittel/AsciiDigitsPairsPinLaw", "digit", "(JI)I"⟩ : MethodName)) hown (hw _ (List.mem_of_getElem? (i := 0) rfl)) (hw _ (List.mem_of_getElem? (i := 1) rfl)) (hw _ (List.mem_of_getElem? (i := 2) rfl)) (hw _ (List.mem_of_getElem? (i := 3) rfl)) (by decide) (rm1 l Z a0 hw [] x0 (6 : Int32) h0) (by decide) (by decide) rfl rfl (Nat.zero_le _) (Nat.zero_le _) e14 (g := (mkF m 43 #[.val (.long x0), .second, .val (.int (f1 x0 (0 : Int32))), .val (.int (f1 x0 (1 : Int32))), .val (.int (f1 x0 (2 : Int32))), .val (.int (f1 x0 (3 : Int32))), .val (.int (f1 x0 (4 : Int32))), .val (.int (f1 x0 (5 : Int32))), .unset, .unset, .unset, .unset, .unset, .unset] [(.int (6 : Int32)), (.long x0)])) rfl (by rw [hml]; rfl) (argsL := [(.long x0), (.int (6 : Int32))]) (rest := []) (lenOf pd1 rfl) rfl (by show 2 * 0 + _ ≤ _; exact Nat.le_of_eq rfl) (hb hby at_43)
  refine OwnOut.go (fun t k => st15 _ k) ?_
  show OwnOut p e s below 0 0 _ (T15.setTop (mkF m 46 #[.val (.long x0), .second, .val (.int (f1 x0 (0 : Int32))), .val (.int (f1 x0 (1 : Int32))), .val (.int (f1 x0 (2 : Int32))), .val (.int (f1 x0 (3 : Int32))), .val (.int (f1 x0 (4 : Int32))), .val (.int (f1 x0 (5 : Int32))), .unset, .unset, .unset, .unset, .unset, .unset] [(.int (f1 x0 (6 : Int32)))]))
  refine OwnOut.go (fun t k => XS.istore X15.here hx rfl (hb hby at_46) rfl (l' := #[.val (.long x0), .second, .val (.int (f1 x0 (0 : Int32))), .val (.int (f1 x0 (1 : Int32))), .val (.int (f1 x0 (2 : Int32))), .val (.int (f1 x0 (3 : Int32))), .val (.int (f1 x0 (4 : Int32))), .val (.int (f1 x0 (5 : Int32))), .val (.int (f1 x0 (6 : Int32))), .unset, .unset, .unset, .unset, .unset]) rfl k) ?_
  show OwnOut p e s below 0 0 _ (T15.setTop (mkF m 48 #[.val (.long x0), .second, .val (.int (f1 x0 (0 : Int32))), .val (.int (f1 x0 (1 : Int32))), .val (.int (f1 x0 (2 : Int32))), .val (.int (f1 x0 (3 : Int32))), .val (.int (f1 x0 (4 : Int32))), .val (.int (f1 x0 (5 : Int32))), .val (.int (f1 x0 (6 : Int32))), .unset, .unset, .unset, .unset, .unset] []))
  refine OwnOut.go (fun t k => XS.lloadN X15.here hx rfl (hb hby at_48) rfl k) ?_
  show OwnOut p e s below 0 0 _ (T15.setTop (mkF m 49 #[.val (.long x0), .second, .val (.int (f1 x0 (0 : Int32))), .val (.int (f1 x0 (1 : Int32))), .val (.int (f1 x0 (2 : Int32))), .val (.int (f1 x0 (3 : Int32))), .val (.int (f1 x0 (4 : Int32))), .val (.int (f1 x0 (5 : Int32))), .val (.int (f1 x0 (6 : Int32))), .unset, .unset, .unset, .unset, .unset] [(.long x0)]))
  refine OwnOut.go (fun t k => XT.bipushV X15.here hx rfl (7 : Int32) (hb hby at_49) rfl k) ?_
  show OwnOut p e s below 0 0 _ (T15.setTop (mkF m 51 #[.val (.long x0), .second, .val (.int (f1 x0 (0 : Int32))), .val (.int (f1 x0 (1 : Int32))), .val (.int (f1 x0 (2 : Int32))), .val (.int (f1 x0 (3 : Int32))), .val (.int (f1 x0 (4 : Int32))), .val (.int (f1 x0 (5 : Int32))), .val (.int (f1 x0 (6 : Int32))), .unset, .unset, .unset, .unset, .unset] [(.int (7 : Int32)), (.long x0)]))
  obtain ⟨T16, X16, e16, st16⟩ := callP (W := 0) (rm := rx1) X15 hx hZ (y := (⟨"com/example/eigenmittel/eigenmittel/AsciiDigitsPairsPinLaw", "digit", "(JI)I"⟩ : MethodName)) hown (hw _ (List.mem_of_getElem? (i := 0) rfl)) (hw _ (List.mem_of_getElem? (i := 1) rfl)) (hw _ (List.mem_of_getElem? (i := 2) rfl)) (hw _ (List.mem_of_getElem? (i := 3) rfl)) (by decide) (rm1 l Z a0 hw [] x0 (7 : Int32) h0) (by decide) (by decide) rfl rfl (Nat.zero_le _) (Nat.zero_le _) e15 (g := (mkF m 51 #[.val (.long x0), .second, .val (.int (f1 x0 (0 : Int32))), .val (.int (f1 x0 (1 : Int32))), .val (.int (f1 x0 (2 : Int32))), .val (.int (f1 x0 (3 : Int32))), .val (.int (f1 x0 (4 : Int32))), .val (.int (f1 x0 (5 : Int32))), .val (.int (f1 x0 (6 : Int32))), .unset, .unset, .unset, .unset, .unset] [(.int (7 : Int32)), (.long x0)])) rfl (by rw [hml]; rfl) (argsL := [(.long x0), (.int (7 : Int32))]) (rest := []) (lenOf pd1 rfl) rfl (by show 2 * 0 + _ ≤ _; exact Nat.le_of_eq rfl) (hb hby at_51)
  refine OwnOut.go (fun t k => st16 _ k) ?_
  show OwnOut p e s below 0 0 _ (T16.setTop (mkF m 54 #[.val (.long x0), .second, .val (.int (f1 x0 (0 : Int32))), .val (.int (f1 x0 (1 : Int32))), .val (.int (f1 x0 (2 : Int32))), .val (.int (f1 x0 (3 : Int32))), .val (.int (f1 x0 (4 : Int32))), .val (.int (f1 x0 (5 : Int32))), .val (.int (f1 x0 (6 : Int32))), .unset, .unset, .unset, .unset, .unset] [(.int (f1 x0 (7 : Int32)))]))
  refine OwnOut.go (fun t k => XS.istore X16.here hx rfl (hb hby at_54) rfl (l' := #[.val (.long x0), .second, .val (.int (f1 x0 (0 : Int32))), .val (.int (f1 x0 (1 : Int32))), .val (.int (f1 x0 (2 : Int32))), .val (.int (f1 x0 (3 : Int32))), .val (.int (f1 x0 (4 : Int32))), .val (.int (f1 x0 (5 : Int32))), .val (.int (f1 x0 (6 : Int32))), .val (.int (f1 x0 (7 : Int32))), .unset, .unset, .unset, .unset]) rfl k) ?_
  show OwnOut p e s below 0 0 _ (T16.setTop (mkF m 56 #[.val (.long x0), .second, .val (.int (f1 x0 (0 : Int32))), .val (.int (f1 x0 (1 : Int32))), .val (.int (f1 x0 (2 : Int32))), .val (.int (f1 x0 (3 : Int32))), .val (.int (f1 x0 (4 : Int32))), .val (.int (f1 x0 (5 : Int32))), .val (.int (f1 x0 (6 : Int32))), .val (.int (f1 x0 (7 : Int32))), .unset, .unset, .unset, .unset] []))
  refine OwnOut.go (fun t k => XS.iloadN X16.here hx rfl (hb hby at_56) rfl k) ?_
  show OwnOut p e s below 0 0 _ (T16.setTop (mkF m 57 #[.val (.long x0), .second, .val (.int (f1 x0 (0 : Int32))), .val (.int (f1 x0 (1 : Int32))), .val (.int (f1 x0 (2 : Int32))), .val (.int (f1 x0 (3 : Int32))), .val (.int (f1 x0 (4 : Int32))), .val (.int (f1 x0 (5 : Int32))), .val (.int (f1 x0 (6 : Int32))), .val (.int (f1 x0 (7 : Int32))), .unset, .unset, .unset, .unset] [(.int (f1 x0 (0 : Int32)))]))
  refine OwnOut.go (fun t k => XT.iconstV X16.here hx rfl (0 : Int32) (hb hby at_57) rfl k) ?_
  show OwnOut p e s below 0 0 _ (T16.setTop (mkF m 58 #[.val (.long x0), .second, .val (.int (f1 x0 (0 : Int32))), .val (.int (f1 x0 (1 : Int32))), .val (.int (f1 x0 (2 : Int32))), .val (.int (f1 x0 (3 : Int32))), .val (.int (f1 x0 (4 : Int32))), .val (.int (f1 x0 (5 : Int32))), .val (.int (f1 x0 (6 : Int32))), .val (.int (f1 x0 (7 : Int32))), .unset, .unset, .unset, .unset] [(.int (0 : Int32)), (.int (f1 x0 (0 : Int32)))]))
  obtain ⟨T17, X17, e17, st17⟩ := callP (W := 0) (rm := rx2) X16 hx hZ (y := (⟨"com/example/eigenmittel/eigenmittel/AsciiDigitsPairsPinLaw", "place", "(II)J"⟩ : MethodName)) hown (hw _ (List.mem_of_getElem? (i := 5) rfl)) (hw _ (List.mem_of_getElem? (i := 6) rfl)) (hw _ (List.mem_of_getElem? (i := 2) rfl)) (hw _ (List.mem_of_getElem? (i := 7) rfl)) (by decide) (rm2 l Z a0 hw [] (f1 x0 (0 : Int32)) (0 : Int32) h0) (by decide) (by decide) rfl rfl (Nat.zero_le _) (Nat.zero_le _) e16 (g := (mkF m 58 #[.val (.long x0), .second, .val (.int (f1 x0 (0 : Int32))), .val (.int (f1 x0 (1 : Int32))), .val (.int (f1 x0 (2 : Int32))), .val (.int (f1 x0 (3 : Int32))), .val (.int (f1 x0 (4 : Int32))), .val (.int (f1 x0 (5 : Int32))), .val (.int (f1 x0 (6 : Int32))), .val (.int (f1 x0 (7 : Int32))), .unset, .unset, .unset, .unset] [(.int (0 : Int32)), (.int (f1 x0 (0 : Int32)))])) rfl (by rw [hml]; rfl) (argsL := [(.int (f1 x0 (0 : Int32))), (.int (0 : Int32))]) (rest := []) (lenOf pd2 rfl) rfl (by show 2 * 0 + _ ≤ _; exact Nat.le_of_eq rfl) (hb hby at_58)
  refine OwnOut.go (fun t k => st17 _ k) ?_
  show OwnOut p e s below 0 0 _ (T17.setTop (mkF m 61 #[.val (.long x0), .second, .val (.int (f1 x0 (0 : Int32))), .val (.int (f1 x0 (1 : Int32))), .val (.int (f1 x0 (2 : Int32))), .val (.int (f1 x0 (3 : Int32))), .val (.int (f1 x0 (4 : Int32))), .val (.int (f1 x0 (5 : Int32))), .val (.int (f1 x0 (6 : Int32))), .val (.int (f1 x0 (7 : Int32))), .unset, .unset, .unset, .unset] [(.long (f2 (f1 x0 (0 : Int32)) (0 : Int32)))]))
  refine OwnOut.go (fun t k => XS.iloadN X17.here hx rfl (hb hby at_61) rfl k) ?_
  show OwnOut p e s below 0 0 _ (T17.setTop (mkF m 62 #[.val (.long x0), .second, .val (.int (f1 x0 (0 : Int32))), .val (.int (f1 x0 (1 : Int32))), .val (.int (f1 x0 (2 : Int32))), .val (.int (f1 x0 (3 : Int32))), .val (.int (f1 x0 (4 : Int32))), .val (.int (f1 x0 (5 : Int32))), .val (.int (f1 x0 (6 : Int32))), .val (.int (f1 x0 (7 : Int32))), .unset, .unset, .unset, .unset] [(.int (f1 x0 (1 : Int32))), (.long (f2 (f1 x0 (0 : Int32)) (0 : Int32)))]))
  refine OwnOut.go (fun t k => XT.iconstV X17.here hx rfl (1 : Int32) (hb hby at_62) rfl k) ?_
  show OwnOut p e s below 0 0 _ (T17.setTop (mkF m 63 #[.val (.long x0), .second, .val (.int (f1 x0 (0 : Int32))), .val (.int (f1 x0 (1 : Int32))), .val (.int (f1 x0 (2 : Int32))), .val (.int (f1 x0 (3 : Int32))), .val (.int (f1 x0 (4 : Int32))), .val (.int (f1 x0 (5 : Int32))), .val (.int (f1 x0 (6 : Int32))), .val (.int (f1 x0 (7 : Int32))), .unset, .unset, .unset, .unset] [(.int (1 : Int32)), (.int (f1 x0 (1 : Int32))), (.long (f2 (f1 x0 (0 : Int32)) (0 : Int32)))]))
  obtain ⟨T18, X18, e18, st18⟩ := callP (W := 2) (rm := rx2) X17 hx hZ (y := (⟨"com/example/eigenmittel/eigenmittel/AsciiDigitsPairsPinLaw", "place", "(II)J"⟩ : MethodName)) hown (hw _ (List.mem_of_getElem? (i := 5) rfl)) (hw _ (List.mem_of_getElem? (i := 6) rfl)) (hw _ (List.mem_of_getElem? (i := 2) rfl)) (hw _ (List.mem_of_getElem? (i := 7) rfl)) (by decide) (rm2 l Z a0 hw [] (f1 x0 (1 : Int32)) (1 : Int32) h0) (by decide) (by decide) rfl rfl (Nat.zero_le _) (Nat.zero_le _) e17 (g := (mkF m 63 #[.val (.long x0), .second, .val (.int (f1 x0 (0 : Int32))), .val (.int (f1 x0 (1 : Int32))), .val (.int (f1 x0 (2 : Int32))), .val (.int (f1 x0 (3 : Int32))), .val (.int (f1 x0 (4 : Int32))), .val (.int (f1 x0 (5 : Int32))), .val (.int (f1 x0 (6 : Int32))), .val (.int (f1 x0 (7 : Int32))), .unset, .unset, .unset, .unset] [(.int (1 : Int32)), (.int (f1 x0 (1 : Int32))), (.long (f2 (f1 x0 (0 : Int32)) (0 : Int32)))])) rfl (by rw [hml]; rfl) (argsL := [(.int (f1 x0 (1 : Int32))), (.int (1 : Int32))]) (rest := [(.long (f2 (f1 x0 (0 : Int32)) (0 : Int32)))]) (lenOf pd2 rfl) rfl (by show 2 * 0 + _ ≤ _; exact Nat.le_of_eq rfl) (hb hby at_63)
  refine OwnOut.go (fun t k => st18 _ k) ?_
  show OwnOut p e s below 0 0 _ (T18.setTop (mkF m 66 #[.val (.long x0), .second, .val (.int (f1 x0 (0 : Int32))), .val (.int (f1 x0 (1 : Int32))), .val (.int (f1 x0 (2 : Int32))), .val (.int (f1 x0 (3 : Int32))), .val (.int (f1 x0 (4 : Int32))), .val (.int (f1 x0 (5 : Int32))), .val (.int (f1 x0 (6 : Int32))), .val (.int (f1 x0 (7 : Int32))), .unset, .unset, .unset, .unset] [(.long (f2 (f1 x0 (1 : Int32)) (1 : Int32))), (.long (f2 (f1 x0 (0 : Int32)) (0 : Int32)))]))
  refine OwnOut.go (fun t k => XS.lor X18.here hx rfl (hb hby at_66) rfl k) ?_
  show OwnOut p e s below 0 0 _ (T18.setTop (mkF m 67 #[.val (.long x0), .second, .val (.int (f1 x0 (0 : Int32))), .val (.int (f1 x0 (1 : Int32))), .val (.int (f1 x0 (2 : Int32))), .val (.int (f1 x0 (3 : Int32))), .val (.int (f1 x0 (4 : Int32))), .val (.int (f1 x0 (5 : Int32))), .val (.int (f1 x0 (6 : Int32))), .val (.int (f1 x0 (7 : Int32))), .unset, .unset, .unset, .unset] [(.long ((f2 (f1 x0 (0 : Int32)) (0 : Int32)) ||| (f2 (f1 x0 (1 : Int32)) (1 : Int32))))]))
  refine OwnOut.go (fun t k => XS.iload X18.here hx rfl (hb hby at_67) rfl k) ?_
  show OwnOut p e s below 0 0 _ (T18.setTop (mkF m 69 #[.val (.long x0), .second, .val (.int (f1 x0 (0 : Int32))), .val (.int (f1 x0 (1 : Int32))), .val (.int (f1 x0 (2 : Int32))), .val (.int (f1 x0 (3 : Int32))), .val (.int (f1 x0 (4 : Int32))), .val (.int (f1 x0 (5 : Int32))), .val (.int (f1 x0 (6 : Int32))), .val (.int (f1 x0 (7 : Int32))), .unset, .unset, .unset, .unset] [(.int (f1 x0 (2 : Int32))), (.long ((f2 (f1 x0 (0 : Int32)) (0 : Int32)) ||| (f2 (f1 x0 (1 : Int32)) (1 : Int32))))]))
  refine OwnOut.go (fun t k => XT.iconstV X18.here hx rfl (2 : Int32) (hb hby at_69) rfl k) ?_
  show OwnOut p e s below 0 0 _ (T18.setTop (mkF m 70 #[.val (.long x0), .second, .val (.int (f1 x0 (0 : Int32))), .val (.int (f1 x0 (1 : Int32))), .val (.int (f1 x0 (2 : Int32))), .val (.int (f1 x0 (3 : Int32))), .val (.int (f1 x0 (4 : Int32))), .val (.int (f1 x0 (5 : Int32))), .val (.int (f1 x0 (6 : Int32))), .val (.int (f1 x0 (7 : Int32))), .unset, .unset, .unset, .unset] [(.int (2 : Int32)), (.int (f1 x0 (2 : Int32))), (.long ((f2 (f1 x0 (0 : Int32)) (0 : Int32)) ||| (f2 (f1 x0 (1 : Int32)) (1 : Int32))))]))
  obtain ⟨T19, X19, e19, st19⟩ := callP (W := 2) (rm := rx2) X18 hx hZ (y := (⟨"com/example/eigenmittel/eigenmittel/AsciiDigitsPairsPinLaw", "place", "(II)J"⟩ : MethodName)) hown (hw _ (List.mem_of_getElem? (i := 5) rfl)) (hw _ (List.mem_of_getElem? (i := 6) rfl)) (hw _ (List.mem_of_getElem? (i := 2) rfl)) (hw _ (List.mem_of_getElem? (i := 7) rfl)) (by decide) (rm2 l Z a0 hw [] (f1 x0 (2 : Int32)) (2 : Int32) h0) (by decide) (by decide) rfl rfl (Nat.zero_le _) (Nat.zero_le _) e18 (g := (mkF m 70 #[.val (.long x0), .second, .val (.int (f1 x0 (0 : Int32))), .val (.int (f1 x0 (1 : Int32))), .val (.int (f1 x0 (2 : Int32))), .val (.int (f1 x0 (3 : Int32))), .val (.int (f1 x0 (4 : Int32))), .val (.int (f1 x0 (5 : Int32))), .val (.int (f1 x0 (6 : Int32))), .val (.int (f1 x0 (7 : Int32))), .unset, .unset, .unset, .unset] [(.int (2 : Int32)), (.int (f1 x0 (2 : Int32))), (.long ((f2 (f1 x0 (0 : Int32)) (0 : Int32)) ||| (f2 (f1 x0 (1 : Int32)) (1 : Int32))))])) rfl (by rw [hml]; rfl) (argsL := [(.int (f1 x0 (2 : Int32))), (.int (2 : Int32))]) (rest := [(.long ((f2 (f1 x0 (0 : Int32)) (0 : Int32)) ||| (f2 (f1 x0 (1 : Int32)) (1 : Int32))))]) (lenOf pd2 rfl) rfl (by show 2 * 0 + _ ≤ _; exact Nat.le_of_eq rfl) (hb hby at_70)
  refine OwnOut.go (fun t k => st19 _ k) ?_
  show OwnOut p e s below 0 0 _ (T19.setTop (mkF m 73 #[.val (.long x0), .second, .val (.int (f1 x0 (0 : Int32))), .val (.int (f1 x0 (1 : Int32))), .val (.int (f1 x0 (2 : Int32))), .val (.int (f1 x0 (3 : Int32))), .val (.int (f1 x0 (4 : Int32))), .val (.int (f1 x0 (5 : Int32))), .val (.int (f1 x0 (6 : Int32))), .val (.int (f1 x0 (7 : Int32))), .unset, .unset, .unset, .unset] [(.long (f2 (f1 x0 (2 : Int32)) (2 : Int32))), (.long ((f2 (f1 x0 (0 : Int32)) (0 : Int32)) ||| (f2 (f1 x0 (1 : Int32)) (1 : Int32))))]))
  refine OwnOut.go (fun t k => XS.lor X19.here hx rfl (hb hby at_73) rfl k) ?_
  show OwnOut p e s below 0 0 _ (T19.setTop (mkF m 74 #[.val (.long x0), .second, .val (.int (f1 x0 (0 : Int32))), .val (.int (f1 x0 (1 : Int32))), .val (.int (f1 x0 (2 : Int32))), .val (.int (f1 x0 (3 : Int32))), .val (.int (f1 x0 (4 : Int32))), .val (.int (f1 x0 (5 : Int32))), .val (.int (f1 x0 (6 : Int32))), .val (.int (f1 x0 (7 : Int32))), .unset, .unset, .unset, .unset] [(.long (((f2 (f1 x0 (0 : Int32)) (0 : Int32)) ||| (f2 (f1 x0 (1 : Int32)) (1 : Int32))) ||| (f2 (f1 x0 (2 : Int32)) (2 : Int32))))]))
  refine OwnOut.go (fun t k => XS.iload X19.here hx rfl (hb hby at_74) rfl k) ?_
  show OwnOut p e s below 0 0 _ (T19.setTop (mkF m 76 #[.val (.long x0), .second, .val (.int (f1 x0 (0 : Int32))), .val (.int (f1 x0 (1 : Int32))), .val (.int (f1 x0 (2 : Int32))), .val (.int (f1 x0 (3 : Int32))), .val (.int (f1 x0 (4 : Int32))), .val (.int (f1 x0 (5 : Int32))), .val (.int (f1 x0 (6 : Int32))), .val (.int (f1 x0 (7 : Int32))), .unset, .unset, .unset, .unset] [(.int (f1 x0 (3 : Int32))), (.long (((f2 (f1 x0 (0 : Int32)) (0 : Int32)) ||| (f2 (f1 x0 (1 : Int32)) (1 : Int32))) ||| (f2 (f1 x0 (2 : Int32)) (2 : Int32))))]))
  refine OwnOut.go (fun t k => XT.iconstV X19.here hx rfl (3 : Int32) (hb hby at_76) rfl k) ?_
  show OwnOut p e s below 0 0 _ (T19.setTop (mkF m 77 #[.val (.long x0), .second, .val (.int (f1 x0 (0 : Int32))), .val (.int (f1 x0 (1 : Int32))), .val (.int (f1 x0 (2 : Int32))), .val (.int (f1 x0 (3 : Int32))), .val (.int (f1 x0 (4 : Int32))), .val (.int (f1 x0 (5 : Int32))), .val (.int (f1 x0 (6 : Int32))), .val (.int (f1 x0 (7 : Int32))), .unset, .unset, .unset, .unset] [(.int (3 : Int32)), (.int (f1 x0 (3 : Int32))), (.long (((f2 (f1 x0 (0 : Int32)) (0 : Int32)) ||| (f2 (f1 x0 (1 : Int32)) (1 : Int32))) ||| (f2 (f1 x0 (2 : Int32)) (2 : Int32))))]))
  obtain ⟨T20, X20, e20, st20⟩ := callP (W := 2) (rm := rx2) X19 hx hZ (y := (⟨"com/example/eigenmittel/eigenmittel/AsciiDigitsPairsPinLaw", "place", "(II)J"⟩ : MethodName)) hown (hw _ (List.mem_of_getElem? (i := 5) rfl)) (hw _ (List.mem_of_getElem? (i := 6) rfl)) (hw _ (List.mem_of_getElem? (i := 2) rfl)) (hw _ (List.mem_of_getElem? (i := 7) rfl)) (by decide) (rm2 l Z a0 hw [] (f1 x0 (3 : Int32)) (3 : Int32) h0) (by decide) (by decide) rfl rfl (Nat.zero_le _) (Nat.zero_le _) e19 (g := (mkF m 77 #[.val (.long x0), .second, .val (.int (f1 x0 (0 : Int32))), .val (.int (f1 x0 (1 : Int32))), .val (.int (f1 x0 (2 : Int32))), .val (.int (f1 x0 (3 : Int32))), .val (.int (f1 x0 (4 : Int32))), .val (.int (f1 x0 (5 : Int32))), .val (.int (f1 x0 (6 : Int32))), .val (.int (f1 x0 (7 : Int32))), .unset, .unset, .unset, .unset] [(.int (3 : Int32)), (.int (f1 x0 (3 : Int32))), (.long (((f2 (f1 x0 (0 : Int32)) (0 : Int32)) ||| (f2 (f1 x0 (1 : Int32)) (1 : Int32))) ||| (f2 (f1 x0 (2 : Int32)) (2 : Int32))))])) rfl (by rw [hml]; rfl) (argsL := [(.int (f1 x0 (3 : Int32))), (.int (3 : Int32))]) (rest := [(.long (((f2 (f1 x0 (0 : Int32)) (0 : Int32)) ||| (f2 (f1 x0 (1 : Int32)) (1 : Int32))) ||| (f2 (f1 x0 (2 : Int32)) (2 : Int32))))]) (lenOf pd2 rfl) rfl (by show 2 * 0 + _ ≤ _; exact Nat.le_of_eq rfl) (hb hby at_77)
  refine OwnOut.go (fun t k => st20 _ k) ?_
  show OwnOut p e s below 0 0 _ (T20.setTop (mkF m 80 #[.val (.long x0), .second, .val (.int (f1 x0 (0 : Int32))), .val (.int (f1 x0 (1 : Int32))), .val (.int (f1 x0 (2 : Int32))), .val (.int (f1 x0 (3 : Int32))), .val (.int (f1 x0 (4 : Int32))), .val (.int (f1 x0 (5 : Int32))), .val (.int (f1 x0 (6 : Int32))), .val (.int (f1 x0 (7 : Int32))), .unset, .unset, .unset, .unset] [(.long (f2 (f1 x0 (3 : Int32)) (3 : Int32))), (.long (((f2 (f1 x0 (0 : Int32)) (0 : Int32)) ||| (f2 (f1 x0 (1 : Int32)) (1 : Int32))) ||| (f2 (f1 x0 (2 : Int32)) (2 : Int32))))]))
  refine OwnOut.go (fun t k => XS.lor X20.here hx rfl (hb hby at_80) rfl k) ?_
  show OwnOut p e s below 0 0 _ (T20.setTop (mkF m 81 #[.val (.long x0), .second, .val (.int (f1 x0 (0 : Int32))), .val (.int (f1 x0 (1 : Int32))), .val (.int (f1 x0 (2 : Int32))), .val (.int (f1 x0 (3 : Int32))), .val (.int (f1 x0 (4 : Int32))), .val (.int (f1 x0 (5 : Int32))), .val (.int (f1 x0 (6 : Int32))), .val (.int (f1 x0 (7 : Int32))), .unset, .unset, .unset, .unset] [(.long ((((f2 (f1 x0 (0 : Int32)) (0 : Int32)) ||| (f2 (f1 x0 (1 : Int32)) (1 : Int32))) ||| (f2 (f1 x0 (2 : Int32)) (2 : Int32))) ||| (f2 (f1 x0 (3 : Int32)) (3 : Int32))))]))
  refine OwnOut.go (fun t k => XS.iload X20.here hx rfl (hb hby at_81) rfl k) ?_
  show OwnOut p e s below 0 0 _ (T20.setTop (mkF m 83 #[.val (.long x0), .second, .val (.int (f1 x0 (0 : Int32))), .val (.int (f1 x0 (1 : Int32))), .val (.int (f1 x0 (2 : Int32))), .val (.int (f1 x0 (3 : Int32))), .val (.int (f1 x0 (4 : Int32))), .val (.int (f1 x0 (5 : Int32))), .val (.int (f1 x0 (6 : Int32))), .val (.int (f1 x0 (7 : Int32))), .unset, .unset, .unset, .unset] [(.int (f1 x0 (4 : Int32))), (.long ((((f2 (f1 x0 (0 : Int32)) (0 : Int32)) ||| (f2 (f1 x0 (1 : Int32)) (1 : Int32))) ||| (f2 (f1 x0 (2 : Int32)) (2 : Int32))) ||| (f2 (f1 x0 (3 : Int32)) (3 : Int32))))]))
  refine OwnOut.go (fun t k => XT.iconstV X20.here hx rfl (4 : Int32) (hb hby at_83) rfl k) ?_
  show OwnOut p e s below 0 0 _ (T20.setTop (mkF m 84 #[.val (.long x0), .second, .val (.int (f1 x0 (0 : Int32))), .val (.int (f1 x0 (1 : Int32))), .val (.int (f1 x0 (2 : Int32))), .val (.int (f1 x0 (3 : Int32))), .val (.int (f1 x0 (4 : Int32))), .val (.int (f1 x0 (5 : Int32))), .val (.int (f1 x0 (6 : Int32))), .val (.int (f1 x0 (7 : Int32))), .unset, .unset, .unset, .unset] [(.int (4 : Int32)), (.int (f1 x0 (4 : Int32))), (.long ((((f2 (f1 x0 (0 : Int32)) (0 : Int32)) ||| (f2 (f1 x0 (1 : Int32)) (1 : Int32))) ||| (f2 (f1 x0 (2 : Int32)) (2 : Int32))) ||| (f2 (f1 x0 (3 : Int32)) (3 : Int32))))]))
  obtain ⟨T21, X21, e21, st21⟩ := callP (W := 2) (rm := rx2) X20 hx hZ (y := (⟨"com/example/eigenmittel/eigenmittel/AsciiDigitsPairsPinLaw", "place", "(II)J"⟩ : MethodName)) hown (hw _ (List.mem_of_getElem? (i := 5) rfl)) (hw _ (List.mem_of_getElem? (i := 6) rfl)) (hw _ (List.mem_of_getElem? (i := 2) rfl)) (hw _ (List.mem_of_getElem? (i := 7) rfl)) (by decide) (rm2 l Z a0 hw [] (f1 x0 (4 : Int32)) (4 : Int32) h0) (by decide) (by decide) rfl rfl (Nat.zero_le _) (Nat.zero_le _) e20 (g := (mkF m 84 #[.val (.long x0), .second, .val (.int (f1 x0 (0 : Int32))), .val (.int (f1 x0 (1 : Int32))), .val (.int (f1 x0 (2 : Int32))), .val (.int (f1 x0 (3 : Int32))), .val (.int (f1 x0 (4 : Int32))), .val (.int (f1 x0 (5 : Int32))), .val (.int (f1 x0 (6 : Int32))), .val (.int (f1 x0 (7 : Int32))), .unset, .unset, .unset, .unset] [(.int (4 : Int32)), (.int (f1 x0 (4 : Int32))), (.long ((((f2 (f1 x0 (0 : Int32)) (0 : Int32)) ||| (f2 (f1 x0 (1 : Int32)) (1 : Int32))) ||| (f2 (f1 x0 (2 : Int32)) (2 : Int32))) ||| (f2 (f1 x0 (3 : Int32)) (3 : Int32))))])) rfl (by rw [hml]; rfl) (argsL := [(.int (f1 x0 (4 : Int32))), (.int (4 : Int32))]) (rest := [(.long ((((f2 (f1 x0 (0 : Int32)) (0 : Int32)) ||| (f2 (f1 x0 (1 : Int32)) (1 : Int32))) ||| (f2 (f1 x0 (2 : Int32)) (2 : Int32))) ||| (f2 (f1 x0 (3 : Int32)) (3 : Int32))))]) (lenOf pd2 rfl) rfl (by show 2 * 0 + _ ≤ _; exact Nat.le_of_eq rfl) (hb hby at_84)
  refine OwnOut.go (fun t k => st21 _ k) ?_
  show OwnOut p e s below 0 0 _ (T21.setTop (mkF m 87 #[.val (.long x0), .second, .val (.int (f1 x0 (0 : Int32))), .val (.int (f1 x0 (1 : Int32))), .val (.int (f1 x0 (2 : Int32))), .val (.int (f1 x0 (3 : Int32))), .val (.int (f1 x0 (4 : Int32))), .val (.int (f1 x0 (5 : Int32))), .val (.int (f1 x0 (6 : Int32))), .val (.int (f1 x0 (7 : Int32))), .unset, .unset, .unset, .unset] [(.long (f2 (f1 x0 (4 : Int32)) (4 : Int32))), (.long ((((f2 (f1 x0 (0 : Int32)) (0 : Int32)) ||| (f2 (f1 x0 (1 : Int32)) (1 : Int32))) ||| (f2 (f1 x0 (2 : Int32)) (2 : Int32))) ||| (f2 (f1 x0 (3 : Int32)) (3 : Int32))))]))
  refine OwnOut.go (fun t k => XS.lor X21.here hx rfl (hb hby at_87) rfl k) ?_
  show OwnOut p e s below 0 0 _ (T21.setTop (mkF m 88 #[.val (.long x0), .second, .val (.int (f1 x0 (0 : Int32))), .val (.int (f1 x0 (1 : Int32))), .val (.int (f1 x0 (2 : Int32))), .val (.int (f1 x0 (3 : Int32))), .val (.int (f1 x0 (4 : Int32))), .val (.int (f1 x0 (5 : Int32))), .val (.int (f1 x0 (6 : Int32))), .val (.int (f1 x0 (7 : Int32))), .unset, .unset, .unset, .unset] [(.long (((((f2 (f1 x0 (0 : Int32)) (0 : Int32)) ||| (f2 (f1 x0 (1 : Int32)) (1 : Int32))) ||| (f2 (f1 x0 (2 : Int32)) (2 : Int32))) ||| (f2 (f1 x0 (3 : Int32)) (3 : Int32))) ||| (f2 (f1 x0 (4 : Int32)) (4 : Int32))))]))
  refine OwnOut.go (fun t k => XS.iload X21.here hx rfl (hb hby at_88) rfl k) ?_
  show OwnOut p e s below 0 0 _ (T21.setTop (mkF m 90 #[.val (.long x0), .second, .val (.int (f1 x0 (0 : Int32))), .val (.int (f1 x0 (1 : Int32))), .val (.int (f1 x0 (2 : Int32))), .val (.int (f1 x0 (3 : Int32))), .val (.int (f1 x0 (4 : Int32))), .val (.int (f1 x0 (5 : Int32))), .val (.int (f1 x0 (6 : Int32))), .val (.int (f1 x0 (7 : Int32))), .unset, .unset, .unset, .unset] [(.int (f1 x0 (5 : Int32))), (.long (((((f2 (f1 x0 (0 : Int32)) (0 : Int32)) ||| (f2 (f1 x0 (1 : Int32)) (1 : Int32))) ||| (f2 (f1 x0 (2 : Int32)) (2 : Int32))) ||| (f2 (f1 x0 (3 : Int32)) (3 : Int32))) ||| (f2 (f1 x0 (4 : Int32)) (4 : Int32))))]))
  refine OwnOut.go (fun t k => XT.iconstV X21.here hx rfl (5 : Int32) (hb hby at_90) rfl k) ?_
  show OwnOut p e s below 0 0 _ (T21.setTop (mkF m 91 #[.val (.long x0), .second, .val (.int (f1 x0 (0 : Int32))), .val (.int (f1 x0 (1 : Int32))), .val (.int (f1 x0 (2 : Int32))), .val (.int (f1 x0 (3 : Int32))), .val (.int (f1 x0 (4 : Int32))), .val (.int (f1 x0 (5 : Int32))), .val (.int (f1 x0 (6 : Int32))), .val (.int (f1 x0 (7 : Int32))), .unset, .unset, .unset, .unset] [(.int (5 : Int32)), (.int (f1 x0 (5 : Int32))), (.long (((((f2 (f1 x0 (0 : Int32)) (0 : Int32)) ||| (f2 (f1 x0 (1 : Int32)) (1 : Int32))) ||| (f2 (f1 x0 (2 : Int32)) (2 : Int32))) ||| (f2 (f1 x0 (3 : Int32)) (3 : Int32))) ||| (f2 (f1 x0 (4 : Int32)) (4 : Int32))))]))
  obtain ⟨T22, X22, e22, st22⟩ := callP (W := 2) (rm := rx2) X21 hx hZ (y := (⟨"com/example/eigenmittel/eigenmittel/AsciiDigitsPairsPinLaw", "place", "(II)J"⟩ : MethodName)) hown (hw _ (List.mem_of_getElem? (i := 5) rfl)) (hw _ (List.mem_of_getElem? (i := 6) rfl)) (hw _ (List.mem_of_getElem? (i := 2) rfl)) (hw _ (List.mem_of_getElem? (i := 7) rfl)) (by decide) (rm2 l Z a0 hw [] (f1 x0 (5 : Int32)) (5 : Int32) h0) (by decide) (by decide) rfl rfl (Nat.zero_le _) (Nat.zero_le _) e21 (g := (mkF m 91 #[.val (.long x0), .second, .val (.int (f1 x0 (0 : Int32))), .val (.int (f1 x0 (1 : Int32))), .val (.int (f1 x0 (2 : Int32))), .val (.int (f1 x0 (3 : Int32))), .val (.int (f1 x0 (4 : Int32))), .val (.int (f1 x0 (5 : Int32))), .val (.int (f1 x0 (6 : Int32))), .val (.int (f1 x0 (7 : Int32))), .unset, .unset, .unset, .unset] [(.int (5 : Int32)), (.int (f1 x0 (5 : Int32))), (.long (((((f2 (f1 x0 (0 : Int32)) (0 : Int32)) ||| (f2 (f1 x0 (1 : Int32)) (1 : Int32))) ||| (f2 (f1 x0 (2 : Int32)) (2 : Int32))) ||| (f2 (f1 x0 (3 : Int32)) (3 : Int32))) ||| (f2 (f1 x0 (4 : Int32)) (4 : Int32))))])) rfl (by rw [hml]; rfl) (argsL := [(.int (f1 x0 (5 : Int32))), (.int (5 : Int32))]) (rest := [(.long (((((f2 (f1 x0 (0 : Int32)) (0 : Int32)) ||| (f2 (f1 x0 (1 : Int32)) (1 : Int32))) ||| (f2 (f1 x0 (2 : Int32)) (2 : Int32))) ||| (f2 (f1 x0 (3 : Int32)) (3 : Int32))) ||| (f2 (f1 x0 (4 : Int32)) (4 : Int32))))]) (lenOf pd2 rfl) rfl (by show 2 * 0 + _ ≤ _; exact Nat.le_of_eq rfl) (hb hby at_91)
  refine OwnOut.go (fun t k => st22 _ k) ?_
  show OwnOut p e s below 0 0 _ (T22.setTop (mkF m 94 #[.val (.long x0), .second, .val (.int (f1 x0 (0 : Int32))), .val (.int (f1 x0 (1 : Int32))), .val (.int (f1 x0 (2 : Int32))), .val (.int (f1 x0 (3 : Int32))), .val (.int (f1 x0 (4 : Int32))), .val (.int (f1 x0 (5 : Int32))), .val (.int (f1 x0 (6 : Int32))), .val (.int (f1 x0 (7 : Int32))), .unset, .unset, .unset, .unset] [(.long (f2 (f1 x0 (5 : Int32)) (5 : Int32))), (.long (((((f2 (f1 x0 (0 : Int32)) (0 : Int32)) ||| (f2 (f1 x0 (1 : Int32)) (1 : Int32))) ||| (f2 (f1 x0 (2 : Int32)) (2 : Int32))) ||| (f2 (f1 x0 (3 : Int32)) (3 : Int32))) ||| (f2 (f1 x0 (4 : Int32)) (4 : Int32))))]))
  refine OwnOut.go (fun t k => XS.lor X22.here hx rfl (hb hby at_94) rfl k) ?_
  show OwnOut p e s below 0 0 _ (T22.setTop (mkF m 95 #[.val (.long x0), .second, .val (.int (f1 x0 (0 : Int32))), .val (.int (f1 x0 (1 : Int32))), .val (.int (f1 x0 (2 : Int32))), .val (.int (f1 x0 (3 : Int32))), .val (.int (f1 x0 (4 : Int32))), .val (.int (f1 x0 (5 : Int32))), .val (.int (f1 x0 (6 : Int32))), .val (.int (f1 x0 (7 : Int32))), .unset, .unset, .unset, .unset] [(.long ((((((f2 (f1 x0 (0 : Int32)) (0 : Int32)) ||| (f2 (f1 x0 (1 : Int32)) (1 : Int32))) ||| (f2 (f1 x0 (2 : Int32)) (2 : Int32))) ||| (f2 (f1 x0 (3 : Int32)) (3 : Int32))) ||| (f2 (f1 x0 (4 : Int32)) (4 : Int32))) ||| (f2 (f1 x0 (5 : Int32)) (5 : Int32))))]))
  refine OwnOut.go (fun t k => XS.iload X22.here hx rfl (hb hby at_95) rfl k) ?_
  show OwnOut p e s below 0 0 _ (T22.setTop (mkF m 97 #[.val (.long x0), .second, .val (.int (f1 x0 (0 : Int32))), .val (.int (f1 x0 (1 : Int32))), .val (.int (f1 x0 (2 : Int32))), .val (.int (f1 x0 (3 : Int32))), .val (.int (f1 x0 (4 : Int32))), .val (.int (f1 x0 (5 : Int32))), .val (.int (f1 x0 (6 : Int32))), .val (.int (f1 x0 (7 : Int32))), .unset, .unset, .unset, .unset] [(.int (f1 x0 (6 : Int32))), (.long ((((((f2 (f1 x0 (0 : Int32)) (0 : Int32)) ||| (f2 (f1 x0 (1 : Int32)) (1 : Int32))) ||| (f2 (f1 x0 (2 : Int32)) (2 : Int32))) ||| (f2 (f1 x0 (3 : Int32)) (3 : Int32))) ||| (f2 (f1 x0 (4 : Int32)) (4 : Int32))) ||| (f2 (f1 x0 (5 : Int32)) (5 : Int32))))]))
  refine OwnOut.go (fun t k => XT.bipushV X22.here hx rfl (6 : Int32) (hb hby at_97) rfl k) ?_
  show OwnOut p e s below 0 0 _ (T22.setTop (mkF m 99 #[.val (.long x0), .second, .val (.int (f1 x0 (0 : Int32))), .val (.int (f1 x0 (1 : Int32))), .val (.int (f1 x0 (2 : Int32))), .val (.int (f1 x0 (3 : Int32))), .val (.int (f1 x0 (4 : Int32))), .val (.int (f1 x0 (5 : Int32))), .val (.int (f1 x0 (6 : Int32))), .val (.int (f1 x0 (7 : Int32))), .unset, .unset, .unset, .unset] [(.int (6 : Int32)), (.int (f1 x0 (6 : Int32))), (.long ((((((f2 (f1 x0 (0 : Int32)) (0 : Int32)) ||| (f2 (f1 x0 (1 : Int32)) (1 : Int32))) ||| (f2 (f1 x0 (2 : Int32)) (2 : Int32))) ||| (f2 (f1 x0 (3 : Int32)) (3 : Int32))) ||| (f2 (f1 x0 (4 : Int32)) (4 : Int32))) ||| (f2 (f1 x0 (5 : Int32)) (5 : Int32))))]))
  obtain ⟨T23, X23, e23, st23⟩ := callP (W := 2) (rm := rx2) X22 hx hZ (y := (⟨"com/example/eigenmittel/eigenmittel/AsciiDigitsPairsPinLaw", "place", "(II)J"⟩ : MethodName)) hown (hw _ (List.mem_of_getElem? (i := 5) rfl)) (hw _ (List.mem_of_getElem? (i := 6) rfl)) (hw _ (List.mem_of_getElem? (i := 2) rfl)) (hw _ (List.mem_of_getElem? (i := 7) rfl)) (by decide) (rm2 l Z a0 hw [] (f1 x0 (6 : Int32)) (6 : Int32) h0) (by decide) (by decide) rfl rfl (Nat.zero_le _) (Nat.zero_le _) e22 (g := (mkF m 99 #[.val (.long x0), .second, .val (.int (f1 x0 (0 : Int32))), .val (.int (f1 x0 (1 : Int32))), .val (.int (f1 x0 (2 : Int32))), .val (.int (f1 x0 (3 : Int32))), .val (.int (f1 x0 (4 : Int32))), .val (.int (f1 x0 (5 : Int32))), .val (.int (f1 x0 (6 : Int32))), .val (.int (f1 x0 (7 : Int32))), .unset, .unset, .unset, .unset] [(.int (6 : Int32)), (.int (f1 x0 (6 : Int32))), (.long ((((((f2 (f1 x0 (0 : Int32)) (0 : Int32)) ||| (f2 (f1 x0 (1 : Int32)) (1 : Int32))) ||| (f2 (f1 x0 (2 : Int32)) (2 : Int32))) ||| (f2 (f1 x0 (3 : Int32)) (3 : Int32))) ||| (f2 (f1 x0 (4 : Int32)) (4 : Int32))) ||| (f2 (f1 x0 (5 : Int32)) (5 : Int32))))])) rfl (by rw [hml]; rfl) (argsL := [(.int (f1 x0 (6 : Int32))), (.int (6 : Int32))]) (rest := [(.long ((((((f2 (f1 x0 (0 : Int32)) (0 : Int32)) ||| (f2 (f1 x0 (1 : Int32)) (1 : Int32))) ||| (f2 (f1 x0 (2 : Int32)) (2 : Int32))) ||| (f2 (f1 x0 (3 : Int32)) (3 : Int32))) ||| (f2 (f1 x0 (4 : Int32)) (4 : Int32))) ||| (f2 (f1 x0 (5 : Int32)) (5 : Int32))))]) (lenOf pd2 rfl) rfl (by show 2 * 0 + _ ≤ _; exact Nat.le_of_eq rfl) (hb hby at_99)
  refine OwnOut.go (fun t k => st23 _ k) ?_
  show OwnOut p e s below 0 0 _ (T23.setTop (mkF m 102 #[.val (.long x0), .second, .val (.int (f1 x0 (0 : Int32))), .val (.int (f1 x0 (1 : Int32))), .val (.int (f1 x0 (2 : Int32))), .val (.int (f1 x0 (3 : Int32))), .val (.int (f1 x0 (4 : Int32))), .val (.int (f1 x0 (5 : Int32))), .val (.int (f1 x0 (6 : Int32))), .val (.int (f1 x0 (7 : Int32))), .unset, .unset, .unset, .unset] [(.long (f2 (f1 x0 (6 : Int32)) (6 : Int32))), (.long ((((((f2 (f1 x0 (0 : Int32)) (0 : Int32)) ||| (f2 (f1 x0 (1 : Int32)) (1 : Int32))) ||| (f2 (f1 x0 (2 : Int32)) (2 : Int32))) ||| (f2 (f1 x0 (3 : Int32)) (3 : Int32))) ||| (f2 (f1 x0 (4 : Int32)) (4 : Int32))) ||| (f2 (f1 x0 (5 : Int32)) (5 : Int32))))]))
  refine OwnOut.go (fun t k => XS.lor X23.here hx rfl (hb hby at_102) rfl k) ?_
  show OwnOut p e s below 0 0 _ (T23.setTop (mkF m 103 #[.val (.long x0), .second, .val (.int (f1 x0 (0 : Int32))), .val (.int (f1 x0 (1 : Int32))), .val (.int (f1 x0 (2 : Int32))), .val (.int (f1 x0 (3 : Int32))), .val (.int (f1 x0 (4 : Int32))), .val (.int (f1 x0 (5 : Int32))), .val (.int (f1 x0 (6 : Int32))), .val (.int (f1 x0 (7 : Int32))), .unset, .unset, .unset, .unset] [(.long (((((((f2 (f1 x0 (0 : Int32)) (0 : Int32)) ||| (f2 (f1 x0 (1 : Int32)) (1 : Int32))) ||| (f2 (f1 x0 (2 : Int32)) (2 : Int32))) ||| (f2 (f1 x0 (3 : Int32)) (3 : Int32))) ||| (f2 (f1 x0 (4 : Int32)) (4 : Int32))) ||| (f2 (f1 x0 (5 : Int32)) (5 : Int32))) ||| (f2 (f1 x0 (6 : Int32)) (6 : Int32))))]))
  refine OwnOut.go (fun t k => XS.iload X23.here hx rfl (hb hby at_103) rfl k) ?_
  show OwnOut p e s below 0 0 _ (T23.setTop (mkF m 105 #[.val (.long x0), .second, .val (.int (f1 x0 (0 : Int32))), .val (.int (f1 x0 (1 : Int32))), .val (.int (f1 x0 (2 : Int32))), .val (.int (f1 x0 (3 : Int32))), .val (.int (f1 x0 (4 : Int32))), .val (.int (f1 x0 (5 : Int32))), .val (.int (f1 x0 (6 : Int32))), .val (.int (f1 x0 (7 : Int32))), .unset, .unset, .unset, .unset] [(.int (f1 x0 (7 : Int32))), (.long (((((((f2 (f1 x0 (0 : Int32)) (0 : Int32)) ||| (f2 (f1 x0 (1 : Int32)) (1 : Int32))) ||| (f2 (f1 x0 (2 : Int32)) (2 : Int32))) ||| (f2 (f1 x0 (3 : Int32)) (3 : Int32))) ||| (f2 (f1 x0 (4 : Int32)) (4 : Int32))) ||| (f2 (f1 x0 (5 : Int32)) (5 : Int32))) ||| (f2 (f1 x0 (6 : Int32)) (6 : Int32))))]))
  refine OwnOut.go (fun t k => XT.bipushV X23.here hx rfl (7 : Int32) (hb hby at_105) rfl k) ?_
  show OwnOut p e s below 0 0 _ (T23.setTop (mkF m 107 #[.val (.long x0), .second, .val (.int (f1 x0 (0 : Int32))), .val (.int (f1 x0 (1 : Int32))), .val (.int (f1 x0 (2 : Int32))), .val (.int (f1 x0 (3 : Int32))), .val (.int (f1 x0 (4 : Int32))), .val (.int (f1 x0 (5 : Int32))), .val (.int (f1 x0 (6 : Int32))), .val (.int (f1 x0 (7 : Int32))), .unset, .unset, .unset, .unset] [(.int (7 : Int32)), (.int (f1 x0 (7 : Int32))), (.long (((((((f2 (f1 x0 (0 : Int32)) (0 : Int32)) ||| (f2 (f1 x0 (1 : Int32)) (1 : Int32))) ||| (f2 (f1 x0 (2 : Int32)) (2 : Int32))) ||| (f2 (f1 x0 (3 : Int32)) (3 : Int32))) ||| (f2 (f1 x0 (4 : Int32)) (4 : Int32))) ||| (f2 (f1 x0 (5 : Int32)) (5 : Int32))) ||| (f2 (f1 x0 (6 : Int32)) (6 : Int32))))]))
  obtain ⟨T24, X24, e24, st24⟩ := callP (W := 2) (rm := rx2) X23 hx hZ (y := (⟨"com/example/eigenmittel/eigenmittel/AsciiDigitsPairsPinLaw", "place", "(II)J"⟩ : MethodName)) hown (hw _ (List.mem_of_getElem? (i := 5) rfl)) (hw _ (List.mem_of_getElem? (i := 6) rfl)) (hw _ (List.mem_of_getElem? (i := 2) rfl)) (hw _ (List.mem_of_getElem? (i := 7) rfl)) (by decide) (rm2 l Z a0 hw [] (f1 x0 (7 : Int32)) (7 : Int32) h0) (by decide) (by decide) rfl rfl (Nat.zero_le _) (Nat.zero_le _) e23 (g := (mkF m 107 #[.val (.long x0), .second, .val (.int (f1 x0 (0 : Int32))), .val (.int (f1 x0 (1 : Int32))), .val (.int (f1 x0 (2 : Int32))), .val (.int (f1 x0 (3 : Int32))), .val (.int (f1 x0 (4 : Int32))), .val (.int (f1 x0 (5 : Int32))), .val (.int (f1 x0 (6 : Int32))), .val (.int (f1 x0 (7 : Int32))), .unset, .unset, .unset, .unset] [(.int (7 : Int32)), (.int (f1 x0 (7 : Int32))), (.long (((((((f2 (f1 x0 (0 : Int32)) (0 : Int32)) ||| (f2 (f1 x0 (1 : Int32)) (1 : Int32))) ||| (f2 (f1 x0 (2 : Int32)) (2 : Int32))) ||| (f2 (f1 x0 (3 : Int32)) (3 : Int32))) ||| (f2 (f1 x0 (4 : Int32)) (4 : Int32))) ||| (f2 (f1 x0 (5 : Int32)) (5 : Int32))) ||| (f2 (f1 x0 (6 : Int32)) (6 : Int32))))])) rfl (by rw [hml]; rfl) (argsL := [(.int (f1 x0 (7 : Int32))), (.int (7 : Int32))]) (rest := [(.long (((((((f2 (f1 x0 (0 : Int32)) (0 : Int32)) ||| (f2 (f1 x0 (1 : Int32)) (1 : Int32))) ||| (f2 (f1 x0 (2 : Int32)) (2 : Int32))) ||| (f2 (f1 x0 (3 : Int32)) (3 : Int32))) ||| (f2 (f1 x0 (4 : Int32)) (4 : Int32))) ||| (f2 (f1 x0 (5 : Int32)) (5 : Int32))) ||| (f2 (f1 x0 (6 : Int32)) (6 : Int32))))]) (lenOf pd2 rfl) rfl (by show 2 * 0 + _ ≤ _; exact Nat.le_of_eq rfl) (hb hby at_107)
  refine OwnOut.go (fun t k => st24 _ k) ?_
  show OwnOut p e s below 0 0 _ (T24.setTop (mkF m 110 #[.val (.long x0), .second, .val (.int (f1 x0 (0 : Int32))), .val (.int (f1 x0 (1 : Int32))), .val (.int (f1 x0 (2 : Int32))), .val (.int (f1 x0 (3 : Int32))), .val (.int (f1 x0 (4 : Int32))), .val (.int (f1 x0 (5 : Int32))), .val (.int (f1 x0 (6 : Int32))), .val (.int (f1 x0 (7 : Int32))), .unset, .unset, .unset, .unset] [(.long (f2 (f1 x0 (7 : Int32)) (7 : Int32))), (.long (((((((f2 (f1 x0 (0 : Int32)) (0 : Int32)) ||| (f2 (f1 x0 (1 : Int32)) (1 : Int32))) ||| (f2 (f1 x0 (2 : Int32)) (2 : Int32))) ||| (f2 (f1 x0 (3 : Int32)) (3 : Int32))) ||| (f2 (f1 x0 (4 : Int32)) (4 : Int32))) ||| (f2 (f1 x0 (5 : Int32)) (5 : Int32))) ||| (f2 (f1 x0 (6 : Int32)) (6 : Int32))))]))
  refine OwnOut.go (fun t k => XS.lor X24.here hx rfl (hb hby at_110) rfl k) ?_
  show OwnOut p e s below 0 0 _ (T24.setTop (mkF m 111 #[.val (.long x0), .second, .val (.int (f1 x0 (0 : Int32))), .val (.int (f1 x0 (1 : Int32))), .val (.int (f1 x0 (2 : Int32))), .val (.int (f1 x0 (3 : Int32))), .val (.int (f1 x0 (4 : Int32))), .val (.int (f1 x0 (5 : Int32))), .val (.int (f1 x0 (6 : Int32))), .val (.int (f1 x0 (7 : Int32))), .unset, .unset, .unset, .unset] [(.long ((((((((f2 (f1 x0 (0 : Int32)) (0 : Int32)) ||| (f2 (f1 x0 (1 : Int32)) (1 : Int32))) ||| (f2 (f1 x0 (2 : Int32)) (2 : Int32))) ||| (f2 (f1 x0 (3 : Int32)) (3 : Int32))) ||| (f2 (f1 x0 (4 : Int32)) (4 : Int32))) ||| (f2 (f1 x0 (5 : Int32)) (5 : Int32))) ||| (f2 (f1 x0 (6 : Int32)) (6 : Int32))) ||| (f2 (f1 x0 (7 : Int32)) (7 : Int32))))]))
  refine OwnOut.go (fun t k => XS.lstore X24.here hx rfl (hb hby at_111) rfl (l' := #[.val (.long x0), .second, .val (.int (f1 x0 (0 : Int32))), .val (.int (f1 x0 (1 : Int32))), .val (.int (f1 x0 (2 : Int32))), .val (.int (f1 x0 (3 : Int32))), .val (.int (f1 x0 (4 : Int32))), .val (.int (f1 x0 (5 : Int32))), .val (.int (f1 x0 (6 : Int32))), .val (.int (f1 x0 (7 : Int32))), .val (.long ((((((((f2 (f1 x0 (0 : Int32)) (0 : Int32)) ||| (f2 (f1 x0 (1 : Int32)) (1 : Int32))) ||| (f2 (f1 x0 (2 : Int32)) (2 : Int32))) ||| (f2 (f1 x0 (3 : Int32)) (3 : Int32))) ||| (f2 (f1 x0 (4 : Int32)) (4 : Int32))) ||| (f2 (f1 x0 (5 : Int32)) (5 : Int32))) ||| (f2 (f1 x0 (6 : Int32)) (6 : Int32))) ||| (f2 (f1 x0 (7 : Int32)) (7 : Int32)))), .second, .unset, .unset]) rfl k) ?_
  show OwnOut p e s below 0 0 _ (T24.setTop (mkF m 113 #[.val (.long x0), .second, .val (.int (f1 x0 (0 : Int32))), .val (.int (f1 x0 (1 : Int32))), .val (.int (f1 x0 (2 : Int32))), .val (.int (f1 x0 (3 : Int32))), .val (.int (f1 x0 (4 : Int32))), .val (.int (f1 x0 (5 : Int32))), .val (.int (f1 x0 (6 : Int32))), .val (.int (f1 x0 (7 : Int32))), .val (.long ((((((((f2 (f1 x0 (0 : Int32)) (0 : Int32)) ||| (f2 (f1 x0 (1 : Int32)) (1 : Int32))) ||| (f2 (f1 x0 (2 : Int32)) (2 : Int32))) ||| (f2 (f1 x0 (3 : Int32)) (3 : Int32))) ||| (f2 (f1 x0 (4 : Int32)) (4 : Int32))) ||| (f2 (f1 x0 (5 : Int32)) (5 : Int32))) ||| (f2 (f1 x0 (6 : Int32)) (6 : Int32))) ||| (f2 (f1 x0 (7 : Int32)) (7 : Int32)))), .second, .unset, .unset] []))
  exact w0_113 x0 (f1 x0 (0 : Int32)) (f1 x0 (1 : Int32)) (f1 x0 (2 : Int32)) (f1 x0 (3 : Int32)) (f1 x0 (4 : Int32)) (f1 x0 (5 : Int32)) (f1 x0 (6 : Int32)) (f1 x0 (7 : Int32)) ((((((((f2 (f1 x0 (0 : Int32)) (0 : Int32)) ||| (f2 (f1 x0 (1 : Int32)) (1 : Int32))) ||| (f2 (f1 x0 (2 : Int32)) (2 : Int32))) ||| (f2 (f1 x0 (3 : Int32)) (3 : Int32))) ||| (f2 (f1 x0 (4 : Int32)) (4 : Int32))) ||| (f2 (f1 x0 (5 : Int32)) (5 : Int32))) ||| (f2 (f1 x0 (6 : Int32)) (6 : Int32))) ||| (f2 (f1 x0 (7 : Int32)) (7 : Int32))) X24 ⟨hx, hZ, hw, hby, hml, hown, hret, hlk, hnm⟩ e24
set_option maxRecDepth 65536 in
set_option maxHeartbeats 40000000 in
theorem rm0 (l : Launch) (Z : State) (a0 : Array Value) (hw : ∀ d ∈ tables_1, d.before a0 Z = true) (ws : List Jvm.Cond) (x0 : Int64) (h0 : Heap) :
    MetFree l x (head1 (Jvm.Cond.code x code maxLocals ret :: ws) room_1) (fun a U => a = #[(.long x0)] ∧ Z.Warmed39 U.vm ∧ U.heap = h0) (fun _ _ _ _ _ => True) (fun _ U o U' => ∃ v L, o = .returned v ∧ QP h0 (some (.int (f0 x0))) v U'.heap L ∧ FrameEnd U o U' L 0 0) := by
  refine MetFree.of_bodySF (plainFor_of_name pn0) hisR ?_
  intro p e s m args below meth c s₁ Bd hml0 hP hK
  obtain ⟨rfl, hZ, hh⟩ := hP
  have X0 : Stand p l e room_1 s m #[(.long x0)] below meth c s₁ [] 0 0 := Stand.of_body Bd
  have e0 : s₁.heap = h0 := by rw [← hh, Bd.state]; rfl
  exact OwnOut.at (ef0 m x0) (w0_0 x0 X0 ⟨Bd.exec, hZ, hw, Bd.bytes, hml0, findClass_of_methodNamed Bd.named, Bd.returns, Bd.notSynchronized, (name_of_methodNamed Bd.named Bd.method).1⟩ e0)
theorem own_dig (y : Int64) : 0 ≤ ((y &&& 255).toInt32 % 10).toInt ∧ ((y &&& 255).toInt32 % 10).toInt ≤ 9 := by
  have h1 := c_maskL y 255 8 (by decide) (by decide)
  have h2 := c_l2i (y &&& 255)
  have h3 := Int32.le_toInt (y &&& 255).toInt32
  have h4 := Int32.toInt_lt (y &&& 255).toInt32
  have h5 := c_irem (y &&& 255).toInt32 10 10 (by decide)
  omega
theorem own_f1 (x : Int64) (k : Int32) : 0 ≤ (f1 x k).toInt ∧ (f1 x k).toInt ≤ 9 := own_dig _
theorem own_f2 (d q : Int32) (k : Nat) (hk : (8 * q).toBitVec.toNat % 64 = k) (hk2 : k ≤ 56) (h0 : 0 ≤ d.toInt) (h1 : d.toInt ≤ 9) : (f2 d q).toInt = (48 + d.toInt) * (2 ^ k : Nat) := by
  have e1 : (48 + d).toInt = 48 + d.toInt := XT.add32 ⟨by show _ ≤ 48 + d.toInt; omega, by show 48 + d.toInt < _; omega⟩
  have e2 := c_lshl ((48 + d).toInt64) (8 * q) k hk
  have e3 := Int64.le_toInt (f2 d q)
  have e4 := Int64.toInt_lt (f2 d q)
  rw [c_i2l, e1] at e2
  have e5 : ((2 ^ k : Nat) : Int) ≤ 2 ^ 56 := by exact_mod_cast Nat.pow_le_pow_right (by decide) hk2
  have e6 : (0 : Int) < ((2 ^ k : Nat) : Int) := by exact_mod_cast Nat.pow_pos (by decide)
  have e7 : 0 ≤ (48 + d.toInt) * ((2 ^ k : Nat) : Int) := Int.mul_nonneg (by omega) (by omega)
  have e8 : (48 + d.toInt) * ((2 ^ k : Nat) : Int) ≤ 57 * 2 ^ 56 := Int.mul_le_mul (by omega) e5 (by omega) (by omega)
  show (f2 d q).toInt = _
  change ((f2 d q).toInt - _) % _ = 0 at e2
  omega
theorem own_or {b a : Int64} (k : Nat) (hk : k ≤ 63) (B A P : Int) (hP : P = (2 ^ k : Nat)) (hb : b.toInt = B) (ha : a.toInt = A) (h1 : A % P = 0) (h2 : 0 ≤ B) (h3 : B < P) (h4 : A + B < 9223372036854775808) (h5 : 0 ≤ A) : (b ||| a).toInt = A + B := by
  have e := c_orL' b a k hk P hP (by rw [ha]; exact h1) (by omega) (by omega)
  have e3 := Int64.le_toInt (b ||| a)
  have e4 := Int64.toInt_lt (b ||| a)
  omega
theorem own_f3 (w : Int64) (t : Int) (h : w.toInt = t + 3472328296227680304) (h0 : 0 ≤ t) (h1 : t ≤ 651061555542690057) : (f3 w).toInt = 10 * t + t / 256 := by
  have e1 : (w - 3472328296227680304).toInt = t := (XT.sub64 ⟨by rw [h]; show _ ≤ _ - (3472328296227680304 : Int); omega, by rw [h]; show _ - (3472328296227680304 : Int) < _; omega⟩).trans (by rw [h]; show _ - (3472328296227680304 : Int) = _; omega)
  have e2 : ((w - 3472328296227680304) * 10).toInt = 10 * t := (XT.mul64 ⟨by rw [e1]; show _ ≤ t * 10; omega, by rw [e1]; show t * 10 < _; omega⟩).trans (by rw [e1]; show t * 10 = _; omega)
  have e3 := c_lushr (w - 3472328296227680304) 8 8 (by decide) (by decide)
  rw [e1] at e3
  have e4 : t % 18446744073709551616 / ((2 ^ 8 : Nat) : Int) = t / 256 := by omega
  rw [e4] at e3
  unfold f3
  refine (XT.add64 ⟨by rw [e2, e3]; omega, by rw [e2, e3]; omega⟩).trans ?_
  rw [e2, e3]
theorem own_f4 (r : Int64) (q : Int32) (k : Nat) (hk : (8 * q).toBitVec.toNat % 64 = k) (h0 : 0 ≤ r.toInt) : (f4 r q).toInt = r.toInt / (2 ^ k : Nat) % 256 := by
  have hh : (((r.toUInt64 >>> ((8 * q) &&& 0x3f).toInt64.toUInt64).toInt64)).toInt = r.toInt / (2 ^ k : Nat) := by
    by_cases z : k = 0
    · subst z
      have hz : ((8 * q) &&& 0x3f).toInt64 = 0 := by
        apply Int64.toBitVec_inj.mp
        rw [(sm64 (8 * q) 0 hk).1]; rfl
      rw [hz]
      have : (r.toUInt64 >>> (0 : Int64).toUInt64).toInt64 = r := by
        apply Int64.toBitVec_inj.mp
        show r.toBitVec >>> ((0 : Int64).toBitVec % 64) = _
        have : ((0 : Int64).toBitVec % 64) = 0#64 := by decide
        rw [this]; simp
      rw [this]; simp
    · have e := c_lushr r (8 * q) k hk (by omega)
      rw [e]
      have := Int64.toInt_lt r
      have : r.toInt % 18446744073709551616 = r.toInt := by omega
      rw [this]
  have h1 := c_maskL (((r.toUInt64 >>> ((8 * q) &&& 0x3f).toInt64.toUInt64).toInt64)) 255 8 (by decide) (by decide)
  rw [hh] at h1
  have h2 := c_l2i (((r.toUInt64 >>> ((8 * q) &&& 0x3f).toInt64.toUInt64).toInt64) &&& 255)
  have h3 := Int32.le_toInt (f4 r q)
  have h4 := Int32.toInt_lt (f4 r q)
  rw [h1] at h2
  change ((f4 r q).toInt - _) % _ = 0 at h2
  generalize r.toInt / ((2 ^ k : Nat) : Int) = z at *
  omega
theorem own_lo (R L Q M : Int) (h : R = L + M * Q) (h0 : 0 ≤ L) (h1 : L < M) : R / M = Q := by
  subst h
  rw [Int.add_mul_ediv_left _ _ (by omega), Int.ediv_eq_zero_of_lt h0 h1, Int.zero_add]
theorem own_sum (a b : Int32) (h0 : 0 ≤ a.toInt) (h1 : a.toInt ≤ 9) (h2 : 0 ≤ b.toInt) (h3 : b.toInt ≤ 9) : (10 * a + b).toInt = 10 * a.toInt + b.toInt := by
  have e1 : (10 * a).toInt = 10 * a.toInt := XT.mul32 ⟨by show _ ≤ 10 * a.toInt; omega, by show 10 * a.toInt < _; omega⟩
  exact (XT.add32 ⟨by rw [e1]; omega, by rw [e1]; omega⟩).trans (by rw [e1])
theorem law_ok (x : Int64) : f0 x = 1 := by
  unfold f0
  generalize e0 : f1 x 0 = d0
  generalize e1 : f1 x 1 = d1
  generalize e2 : f1 x 2 = d2
  generalize e3 : f1 x 3 = d3
  generalize e4 : f1 x 4 = d4
  generalize e5 : f1 x 5 = d5
  generalize e6 : f1 x 6 = d6
  generalize e7 : f1 x 7 = d7
  have b0 := e0 ▸ own_f1 x 0
  have b1 := e1 ▸ own_f1 x 1
  have b2 := e2 ▸ own_f1 x 2
  have b3 := e3 ▸ own_f1 x 3
  have b4 := e4 ▸ own_f1 x 4
  have b5 := e5 ▸ own_f1 x 5
  have b6 := e6 ▸ own_f1 x 6
  have b7 := e7 ▸ own_f1 x 7
  have p0 := own_f2 d0 0 0 (by decide) (by decide) b0.1 b0.2
  have p1 := own_f2 d1 1 8 (by decide) (by decide) b1.1 b1.2
  have p2 := own_f2 d2 2 16 (by decide) (by decide) b2.1 b2.2
  have p3 := own_f2 d3 3 24 (by decide) (by decide) b3.1 b3.2
  have p4 := own_f2 d4 4 32 (by decide) (by decide) b4.1 b4.2
  have p5 := own_f2 d5 5 40 (by decide) (by decide) b5.1 b5.2
  have p6 := own_f2 d6 6 48 (by decide) (by decide) b6.1 b6.2
  have p7 := own_f2 d7 7 56 (by decide) (by decide) b7.1 b7.2
  have w1 := own_or 8 (by decide) _ _ 256 (by decide) p0 p1 (by omega) (by omega) (by omega) (by omega) (by omega)
  have w2 := own_or 16 (by decide) _ _ 65536 (by decide) w1 p2 (by omega) (by omega) (by omega) (by omega) (by omega)
  have w3 := own_or 24 (by decide) _ _ 16777216 (by decide) w2 p3 (by omega) (by omega) (by omega) (by omega) (by omega)
  have w4 := own_or 32 (by decide) _ _ 4294967296 (by decide) w3 p4 (by omega) (by omega) (by omega) (by omega) (by omega)
  have w5 := own_or 40 (by decide) _ _ 1099511627776 (by decide) w4 p5 (by omega) (by omega) (by omega) (by omega) (by omega)
  have w6 := own_or 48 (by decide) _ _ 281474976710656 (by decide) w5 p6 (by omega) (by omega) (by omega) (by omega) (by omega)
  have w7 := own_or 56 (by decide) _ _ 72057594037927936 (by decide) w6 p7 (by omega) (by omega) (by omega) (by omega) (by omega)
  generalize (f2 d0 0 ||| f2 d1 1 ||| f2 d2 2 ||| f2 d3 3 ||| f2 d4 4 ||| f2 d5 5 ||| f2 d6 6 ||| f2 d7 7) = w at *
  clear w1 w2 w3 w4 w5 w6 p0 p1 p2 p3 p4 p5 p6 p7 e0 e1 e2 e3 e4 e5 e6 e7
  obtain ⟨t, ht⟩ : ∃ t : Int, t = d0.toInt + 256 * d1.toInt + 65536 * d2.toInt + 16777216 * d3.toInt + 4294967296 * d4.toInt + 1099511627776 * d5.toInt + 281474976710656 * d6.toInt + 72057594037927936 * d7.toInt := ⟨_, rfl⟩
  have hr := own_f3 w t (by omega) (by omega) (by omega)
  have hu : t / 256 = d1.toInt + 256 * d2.toInt + 65536 * d3.toInt + 16777216 * d4.toInt + 4294967296 * d5.toInt + 1099511627776 * d6.toInt + 281474976710656 * d7.toInt := own_lo t d0.toInt _ 256 (by omega) (by omega) (by omega)
  have s0 := own_sum d0 d1 b0.1 b0.2 b1.1 b1.2
  have s1 := own_sum d1 d2 b1.1 b1.2 b2.1 b2.2
  have s2 := own_sum d2 d3 b2.1 b2.2 b3.1 b3.2
  have s3 := own_sum d3 d4 b3.1 b3.2 b4.1 b4.2
  have s4 := own_sum d4 d5 b4.1 b4.2 b5.1 b5.2
  have s5 := own_sum d5 d6 b5.1 b5.2 b6.1 b6.2
  have s6 := own_sum d6 d7 b6.1 b6.2 b7.1 b7.2
  obtain ⟨v0, g0⟩ : ∃ z : Int, z = 10 * d0.toInt + d1.toInt := ⟨_, rfl⟩
  obtain ⟨v1, g1⟩ : ∃ z : Int, z = 10 * d1.toInt + d2.toInt := ⟨_, rfl⟩
  obtain ⟨v2, g2⟩ : ∃ z : Int, z = 10 * d2.toInt + d3.toInt := ⟨_, rfl⟩
  obtain ⟨v3, g3⟩ : ∃ z : Int, z = 10 * d3.toInt + d4.toInt := ⟨_, rfl⟩
  obtain ⟨v4, g4⟩ : ∃ z : Int, z = 10 * d4.toInt + d5.toInt := ⟨_, rfl⟩
  obtain ⟨v5, g5⟩ : ∃ z : Int, z = 10 * d5.toInt + d6.toInt := ⟨_, rfl⟩
  obtain ⟨v6, g6⟩ : ∃ z : Int, z = 10 * d6.toInt + d7.toInt := ⟨_, rfl⟩
  obtain ⟨v7, g7⟩ : ∃ z : Int, z = 10 * d7.toInt := ⟨_, rfl⟩
  have hR : (f3 w).toInt = v0 + 256 * v1 + 65536 * v2 + 16777216 * v3 + 4294967296 * v4 + 1099511627776 * v5 + 281474976710656 * v6 + 72057594037927936 * v7 := by omega
  have n0 : 0 ≤ v0 ∧ v0 ≤ 99 := by omega
  have n1 : 0 ≤ v1 ∧ v1 ≤ 99 := by omega
  have n2 : 0 ≤ v2 ∧ v2 ≤ 99 := by omega
  have n3 : 0 ≤ v3 ∧ v3 ≤ 99 := by omega
  have n4 : 0 ≤ v4 ∧ v4 ≤ 99 := by omega
  have n5 : 0 ≤ v5 ∧ v5 ≤ 99 := by omega
  have n6 : 0 ≤ v6 ∧ v6 ≤ 99 := by omega
  have n7 : 0 ≤ v7 ∧ v7 ≤ 99 := by omega
  rw [← g0] at s0; rw [← g1] at s1; rw [← g2] at s2; rw [← g3] at s3; rw [← g4] at s4; rw [← g5] at s5; rw [← g6] at s6
  clear g0 g1 g2 g3 g4 g5 g6 g7 ht hu hr w7
  have hp : 0 ≤ (f3 w).toInt := by omega
  have c0 : f4 (f3 w) 0 = 10 * d0 + d1 := Int32.toInt_inj.mp (by
    rw [own_f4 _ 0 0 (by decide) hp, s0, own_lo (f3 w).toInt 0 (v0 + 256 * (v1 + 256 * v2 + 65536 * v3 + 16777216 * v4 + 4294967296 * v5 + 1099511627776 * v6 + 281474976710656 * v7)) _ (by omega) (by omega) (by decide)]; omega)
  have c1 : f4 (f3 w) 1 = 10 * d1 + d2 := Int32.toInt_inj.mp (by
    rw [own_f4 _ 1 8 (by decide) hp, s1, own_lo (f3 w).toInt v0 (v1 + 256 * (v2 + 256 * v3 + 65536 * v4 + 16777216 * v5 + 4294967296 * v6 + 1099511627776 * v7)) _ (by omega) (by omega) (by omega)]; omega)
  have c2 : f4 (f3 w) 2 = 10 * d2 + d3 := Int32.toInt_inj.mp (by
    rw [own_f4 _ 2 16 (by decide) hp, s2, own_lo (f3 w).toInt (v0 + 256 * v1) (v2 + 256 * (v3 + 256 * v4 + 65536 * v5 + 16777216 * v6 + 4294967296 * v7)) _ (by omega) (by omega) (by omega)]; omega)
  have c3 : f4 (f3 w) 3 = 10 * d3 + d4 := Int32.toInt_inj.mp (by
    rw [own_f4 _ 3 24 (by decide) hp, s3, own_lo (f3 w).toInt (v0 + 256 * v1 + 65536 * v2) (v3 + 256 * (v4 + 256 * v5 + 65536 * v6 + 16777216 * v7)) _ (by omega) (by omega) (by omega)]; omega)
  have c4 : f4 (f3 w) 4 = 10 * d4 + d5 := Int32.toInt_inj.mp (by
    rw [own_f4 _ 4 32 (by decide) hp, s4, own_lo (f3 w).toInt (v0 + 256 * v1 + 65536 * v2 + 16777216 * v3) (v4 + 256 * (v5 + 256 * v6 + 65536 * v7)) _ (by omega) (by omega) (by omega)]; omega)
  have c5 : f4 (f3 w) 5 = 10 * d5 + d6 := Int32.toInt_inj.mp (by
    rw [own_f4 _ 5 40 (by decide) hp, s5, own_lo (f3 w).toInt (v0 + 256 * v1 + 65536 * v2 + 16777216 * v3 + 4294967296 * v4) (v5 + 256 * (v6 + 256 * v7)) _ (by omega) (by omega) (by omega)]; omega)
  have c6 : f4 (f3 w) 6 = 10 * d6 + d7 := Int32.toInt_inj.mp (by
    rw [own_f4 _ 6 48 (by decide) hp, s6, own_lo (f3 w).toInt (v0 + 256 * v1 + 65536 * v2 + 16777216 * v3 + 4294967296 * v4 + 1099511627776 * v5) (v6 + 256 * v7) _ (by omega) (by omega) (by omega)]; omega)
  unfold f0_113
  rw [if_pos c0, if_pos c1, if_pos c2, if_pos c3, if_pos c4, if_pos c5, if_pos c6]
set_option maxRecDepth 65536 in
set_option maxHeartbeats 40000000 in
theorem comes_1 {Post : Tables → Env → Array Value → State → Outcome → State → Prop} (hpost : ∀ tb e args s v u, (limb_1_1.after args s (.returned v) u = true ∧ limb_1_2.after args s (.returned v) u = true ∧ True) → FrameEnd s (.returned v) u (Jvm.fieldLocs frame_1_writes args s ++ Jvm.arrayLocs frame_1_arrays args s ++ Jvm.staticLocs frame_1_statics s) 0 0 → Post tb e args s (.returned v) u) :
    ArmFor flags0 classFile x code maxLocals ret World_1 tables_1 room_1 Calls_1 rest_1 Pre_1 Post := by
  intro l hfl _ _ p e ha hc hk s m args below hf hA hF happ hP
  obtain ⟨hcalls, hrest, hpre⟩ := hP
  obtain ⟨-, -, -, hnamed, -, -, -, hat⟩ := (Spec.applies_iff hf).mp happ
  obtain ⟨hg, hn⟩ := and_e (Cond.before_iff.mp (show (Jvm.Cond.and given_1 narrow_1).before args s = true from hpre))
  obtain ⟨g1, g2⟩ := and_e hg
  obtain ⟨w0, rfl⟩ : ∃ w0 : Value, args = #[w0] := by
    have hs : args.size = 1 := by simpa [Cond.value, given_1] using g1
    obtain ⟨L⟩ := args
    match L, hs with
    | [w0], _ => exact ⟨w0, rfl⟩
  have hw := fun d (hd : d ∈ tables_1) => atoms_spec (ws := Jvm.Cond.code x code maxLocals ret :: tables_1) hat d (List.mem_cons_of_mem _ hd)
  obtain ⟨i0, ei0⟩ := isL_v g2
  obtain rfl : w0 = (.long i0) := Option.some.inj ei0
  obtain ⟨n, o, h1, h2, h3, _, L, rfl, ⟨rfl, hh, rfl⟩, hq⟩ := rm0 l s _ hw tables_1 i0 s.heap p e ha hc hk s m _ below hf ((Spec.applies_iff_loose hf).mp happ).1 ⟨rfl, State.Warmed39.refl s, rfl⟩ trivial
  have hv := law_ok i0
  refine ⟨n, _, h1, h2, h3, hpost _ _ _ _ _ _ ⟨Cond.after_iff.mpr rfl, Cond.after_iff.mpr (eq_i res_at (Term.int_eval (1)) (congrArg Value.int hv)), trivial⟩ ⟨hq.1, hq.2.1, (hq.2.2.sift fun y hy => nomatch hy).mono (by decide) (by decide)⟩⟩
theorem main_1_1 : Claimed_1_1 := comes_1 fun _ _ _ _ _ _ h hF => ⟨h.1, hF⟩
theorem main_1_2 : Claimed_1_2 := comes_1 fun _ _ _ _ _ _ h hF => ⟨h.2.1, hF⟩
end Jvm.Pilot.@@N@@
namespace Jvm.Pilot.@@N@@
open Jvm Jvm.ClassFile Sem Op Lib Jvm.Free Jvm.Stand Jvm.Pilot.@@N@@.Jvm.D
/-! MADE BY PROGRAM (witnessworld.py) out of the Statement's table words and the real class files: 9 classes; the members and pool entries that the words name. The judged class is class 1, her method 4. -/
namespace start1
open Jvm.ClassFile
def u (s : String) : CpInfo := .utf8 (stringToUtf16 s)
/-- a pool by its gaps: so many unusable entries, then the entry; so many at the end -/
def gap : Nat → List CpInfo → List CpInfo
  | 0, r => r
  | n + 1, r => .unusable :: gap n r
def poolList (es : List (Nat × CpInfo)) (last : Nat) : List CpInfo := es.foldr (fun e r => gap e.1 (e.2 :: r)) (gap last [])
def pool (es : List (Nat × CpInfo)) (last : Nat) : Array CpInfo := ⟨poolList es last⟩
def fileOf (pool : Array CpInfo) (this : Nat) (attrs : Array Attribute := #[]) (ms : Array MethodInfo := #[]) (fl : Nat := 33) (sup : Nat := 0) (ifs : Array Nat := #[]) (fds : Array FieldInfo := #[]) : ClassFile where
  minorVersion := 0
  majorVersion := 65
  constantPool := pool
  accessFlags := fl
  thisClass := this
  superClass := sup
  interfaces := ifs
  fields := fds
  methods := ms
  attributes := attrs
def plain (name : String) (sup : Option ClassId) : Class where
  name := name
  kind := .ordinary
  loader := none
  accessFlags := 33
  super := sup
  interfaces := #[]
  cf := none
  fields := #[]
  methods := #[]
  instanceTypes := #[]
  staticTypes := #[]
  resolved := #[]
  callSites := []
  init := .initialized
  statics := none
  mirror := none

def pool0 : Array CpInfo := pool [(5, u "<init>"), (0, u "()V"), (1, .class_ 10), (1, u "java/lang/Object")] 113

def k0m0 : Method := { name := "<init>", desc := "()V", sig := { parameters := [], returnType := none }, accessFlags := 1, code := none }
/-- java/lang/Object -/
def k0 : Class := { plain "java/lang/Object" none with
  accessFlags := 33
  interfaces := #[]
  cf := some (fileOf pool0 8 #[] #[{ accessFlags := 1, nameIndex := 5, descriptorIndex := 6, attributes := #[] }] 33 0 #[] #[])
  fields := #[]
  methods := #[k0m0]
  instanceTypes := #[]
  staticTypes := #[]
  resolved := Array.replicate 124 none
  statics := none }

def pool1 : Array CpInfo := pool [(2, .class_ 4), (1, u "java/lang/Object"), (0, u "<init>"), (0, u "()V"), (0, .long 255), (1, .methodref 10 11), (0, .class_ 12), (0, .nameAndType 13 14), (0, u "com/example/eigenmittel/eigenmittel/AsciiDigitsPairsPinLaw"), (0, u "digit"), (0, u "(JI)I"), (0, .methodref 10 16), (0, .nameAndType 17 18), (0, u "place"), (0, u "(II)J"), (0, .methodref 20 21), (0, .class_ 22), (0, .nameAndType 23 24), (0, u "com/example/eigenmittel/eigenmittel/AsciiDigits"), (0, u "pairs"), (0, u "(J)J"), (0, .methodref 10 26), (0, .nameAndType 27 14), (0, u "byteAt"), (2, u "law"), (0, u "(J)Z")] 3

def k1m0 : Method := { name := "<init>", desc := "()V", sig := { parameters := [], returnType := none }, accessFlags := 2, code := none }
def k1c1 : Code := { maxStack := 4, maxLocals := 3, code := method_2_code, exceptionTable := #[], attributes := #[] }
def k1m1 : Method := { name := "digit", desc := "(JI)I", sig := { parameters := [.long, .int], returnType := some .int }, accessFlags := 10, code := some k1c1 }
def k1c2 : Code := { maxStack := 4, maxLocals := 3, code := method_3_code, exceptionTable := #[], attributes := #[] }
def k1m2 : Method := { name := "byteAt", desc := "(JI)I", sig := { parameters := [.long, .int], returnType := some .int }, accessFlags := 10, code := some k1c2 }
def k1c3 : Code := { maxStack := 4, maxLocals := 2, code := method_4_code, exceptionTable := #[], attributes := #[] }
def k1m3 : Method := { name := "place", desc := "(II)J", sig := { parameters := [.int, .int], returnType := some .long }, accessFlags := 10, code := some k1c3 }
def k1c4 : Code := { maxStack := 4, maxLocals := 14, code := code, exceptionTable := #[], attributes := #[] }
def k1m4 : Method := { name := "law", desc := "(J)Z", sig := { parameters := [.long], returnType := some .boolean }, accessFlags := 9, code := some k1c4 }
/-- com/example/eigenmittel/eigenmittel/AsciiDigitsPairsPinLaw -/
def k1 : Class := { plain "com/example/eigenmittel/eigenmittel/AsciiDigitsPairsPinLaw" (some 0) with
  accessFlags := 49
  interfaces := #[]
  cf := some (fileOf pool1 10 #[] #[{ accessFlags := 2, nameIndex := 5, descriptorIndex := 6, attributes := #[] }, { accessFlags := 10, nameIndex := 13, descriptorIndex := 14, attributes := #[] }, { accessFlags := 10, nameIndex := 27, descriptorIndex := 14, attributes := #[] }, { accessFlags := 10, nameIndex := 17, descriptorIndex := 18, attributes := #[] }, { accessFlags := 9, nameIndex := 30, descriptorIndex := 31, attributes := #[] }] 49 2 #[] #[])
  fields := #[]
  methods := #[k1m0, k1m1, k1m2, k1m3, k1m4]
  instanceTypes := #[]
  staticTypes := #[]
  resolved := Array.replicate 35 none
  statics := none }

def pool2 : Array CpInfo := pool [(2, .class_ 4), (1, u "java/lang/Object"), (0, u "<init>"), (0, u "()V"), (1, .class_ 10), (1, u "com/example/eigenmittel/eigenmittel/AsciiDigits"), (0, u "WORDS"), (0, u "Ljava/lang/invoke/VarHandle;"), (6, .long 3472328296227680304), (5, .long 10), (3, u "pairs"), (0, u "(J)J"), (24, u "ZEROS"), (0, u "J"), (1, u "HIGH_BITS"), (0, u "ABOVE_NINE")] 10

def k2m0 : Method := { name := "<init>", desc := "()V", sig := { parameters := [], returnType := none }, accessFlags := 2, code := none }
def k2c1 : Code := { maxStack := 5, maxLocals := 4, code := prog_2_method_4_code, exceptionTable := #[], attributes := #[] }
def k2m1 : Method := { name := "pairs", desc := "(J)J", sig := { parameters := [.long], returnType := some .long }, accessFlags := 8, code := some k2c1 }
/-- com/example/eigenmittel/eigenmittel/AsciiDigits -/
def k2 : Class := { plain "com/example/eigenmittel/eigenmittel/AsciiDigits" (some 0) with
  accessFlags := 32
  interfaces := #[]
  cf := some (fileOf pool2 8 #[] #[{ accessFlags := 2, nameIndex := 5, descriptorIndex := 6, attributes := #[] }, { accessFlags := 8, nameIndex := 29, descriptorIndex := 30, attributes := #[] }] 32 2 #[] #[{ accessFlags := 26, nameIndex := 11, descriptorIndex := 12, attributes := #[] }, { accessFlags := 24, nameIndex := 55, descriptorIndex := 56, attributes := #[] }, { accessFlags := 26, nameIndex := 58, descriptorIndex := 56, attributes := #[] }, { accessFlags := 26, nameIndex := 59, descriptorIndex := 56, attributes := #[] }])
  fields := #[{ name := "WORDS", type := (.object "java/lang/invoke/VarHandle"), accessFlags := 26, slot := 0, constantValue := 0 }, { name := "ZEROS", type := .long, accessFlags := 24, slot := 1, constantValue := 0 }, { name := "HIGH_BITS", type := .long, accessFlags := 26, slot := 2, constantValue := 0 }, { name := "ABOVE_NINE", type := .long, accessFlags := 26, slot := 3, constantValue := 0 }]
  methods := #[k2m0, k2m1]
  instanceTypes := #[]
  staticTypes := #[(.object "java/lang/invoke/VarHandle"), .long, .long, .long]
  resolved := Array.replicate 70 none
  statics := none }

def pool3 : Array CpInfo := pool [(1, u "java/lang/Cloneable"), (0, .class_ 1), (0, u "java/lang/Object"), (0, .class_ 3)] 3

/-- java/lang/Cloneable -/
def k3 : Class := { plain "java/lang/Cloneable" (some 0) with
  accessFlags := 1537
  interfaces := #[]
  cf := some (fileOf pool3 2 #[] #[] 1537 4 #[] #[])
  fields := #[]
  methods := #[]
  instanceTypes := #[]
  staticTypes := #[]
  resolved := Array.replicate 8 none
  statics := none }

def pool4 : Array CpInfo := pool [(1, u "java/io/Serializable"), (0, .class_ 1), (0, u "java/lang/Object"), (0, .class_ 3)] 3

/-- java/io/Serializable -/
def k4 : Class := { plain "java/io/Serializable" (some 0) with
  accessFlags := 1537
  interfaces := #[]
  cf := some (fileOf pool4 2 #[] #[] 1537 4 #[] #[])
  fields := #[]
  methods := #[]
  instanceTypes := #[]
  staticTypes := #[]
  resolved := Array.replicate 8 none
  statics := none }

/-- the primitive byte -/
def k5 : Class := { plain "byte" none with kind := .primitive 'B', accessFlags := 0x411 }
/-- [B -/
def k6 : Class := { plain "[B" (some 0) with kind := .array 5 .byte, interfaces := #[3, 4], accessFlags := 1041 }

/-- the primitive int -/
def k7 : Class := { plain "int" none with kind := .primitive 'I', accessFlags := 0x411 }
/-- [I -/
def k8 : Class := { plain "[I" (some 0) with kind := .array 7 .int, interfaces := #[3, 4], accessFlags := 1041 }

def heap : Heap := #[]
def classes : Array Class := #[k0, k1, k2, k3, k4, k5, k6, k7, k8]
def interned : List (Array UInt16 × Addr) := []
def slotsUsed : Nat := 0
def theMethod : MethodId := ⟨1, 4⟩
def args0 : Array Value := #[.long 5]
def aboutOver (below : List Frame) : State where
  vm := { classes := classes, interned := interned.toArray }
  heap := heap
  slotsUsed := slotsUsed
  threads := #[{ frames := .invoking theMethod args0 :: below }]
def below0 : List Frame := [.native { method := ⟨0, 0⟩, args := #[] }]
def about1 : State := aboutOver below0
def p0 : Program := .bare "" "" ""
def e0 : Env := launch0.env 0 0 0
theorem w_frames : about1.frames = Frame.invoking theMethod args0 :: below0 := rfl
set_option maxRecDepth 65536 in
theorem w_args : argsFit about1.vm theMethod args0 = true := by decide +kernel
set_option maxRecDepth 65536 in
theorem w_heap : heapFits about1 = true := by decide +kernel
set_option maxRecDepth 65536 in
theorem w_runnable : about1.curStatus? = some .runnable := by decide +kernel
set_option maxRecDepth 65536 in
theorem w_alone : about1.alone = true := by decide +kernel
set_option maxRecDepth 65536 in
theorem w_named : about1.methodNamed? x = some theMethod := by decide +kernel
set_option maxRecDepth 65536 in
theorem w_hears : about1.hears theMethod below0 = true := by decide +kernel
set_option maxRecDepth 65536 in
theorem w_ripe : about1.ripe theMethod args0 below0 = true := by decide +kernel
theorem w_running : about1.status = .running := rfl
set_option maxRecDepth 65536 in
theorem w_room : about1.hasRoom e0.platform room_1 = true :=
  launch0.hasRoom_least _ room_1 (by decide +kernel) (by decide +kernel) (by decide +kernel) (by decide +kernel) (by decide +kernel) (by decide +kernel)
theorem allAtoms_all (ts : List Jvm.Cond) (a : Array Jvm.Value) (st : Jvm.State) : (allAtoms ts).before a st = ts.all (fun c => c.before a st) := by
  induction ts with
  | nil => rfl
  | cons c t ih =>
    show (Jvm.Cond.and c (allAtoms t)).before a st = _
    rw [Jvm.Cond.before_and, ih, List.all_cons]
def words1 : List Jvm.Cond := Jvm.Cond.code x code maxLocals ret :: tables_1
/-- a 'code' word, met by the world's own term for the bytes: nothing is compared byte by byte -/
theorem code_word {y : MethodName} {bytes : ByteArray} {mx : Nat} {rt : Option FieldType} {a : Array Value} {s : State} {m : MethodId} {meth : Method} {c : Code} (h1 : s.methodNamed? y = some m) (h2 : s.vm.method? m = some meth) (h3 : meth.code = some c) (h4 : c.code = bytes)
    (h5 : (c.maxLocals == mx && c.exceptionTable.isEmpty && decide (c.maxStack ≤ mostOperands) && decide (meth.sig.returnType = rt) && !meth.locks && decide (parseMethodDescriptor y.desc = some meth.sig)) = true) : (Jvm.Cond.code y bytes mx rt).before a s = true := by
  simp only [Bool.and_eq_true, beq_iff_eq, Bool.not_eq_true', decide_eq_true_eq] at h5
  obtain ⟨⟨⟨⟨⟨g1, g2⟩, g3⟩, g4⟩, g5⟩, g6⟩ := h5
  simp [Cond.before, Cond.holds, Cond.value, h1, h2, h3, h4, g1, g2, g3, g4, g5, g6]
def isCode : Jvm.Cond → Bool
  | .code _ _ _ _ => true
  | _ => false
theorem all_split {L : List Jvm.Cond} {P : Jvm.Cond → Bool} (h1 : L.all (fun c => isCode c || P c) = true) (h2 : ∀ c ∈ L.filter isCode, P c = true) : L.all P = true := by
  refine List.all_eq_true.mpr fun c hc => ?_
  have h := List.all_eq_true.mp h1 c hc
  rcases Bool.eq_false_or_eq_true (isCode c) with hi | hi
  · exact h2 c (List.mem_filter.mpr ⟨hc, hi⟩)
  · simpa [hi] using h
set_option maxRecDepth 65536 in
theorem w_c0 : (Jvm.Cond.code x code maxLocals ret).before args0 about1 = true := code_word (m := ⟨1, 4⟩) (meth := k1m4) (c := k1c4) (by decide +kernel) rfl rfl rfl (by decide +kernel)
set_option maxRecDepth 65536 in
theorem w_c1 : (Jvm.Cond.code ({ cls := "com/example/eigenmittel/eigenmittel/AsciiDigitsPairsPinLaw", name := "digit", desc := "(JI)I" } : Jvm.MethodName) method_2_code (3 : Nat) (Option.some Jvm.ClassFile.FieldType.int)).before args0 about1 = true := code_word (m := ⟨1, 1⟩) (meth := k1m1) (c := k1c1) (by decide +kernel) rfl rfl rfl (by decide +kernel)
set_option maxRecDepth 65536 in
theorem w_c2 : (Jvm.Cond.code ({ cls := "com/example/eigenmittel/eigenmittel/AsciiDigitsPairsPinLaw", name := "place", desc := "(II)J" } : Jvm.MethodName) method_4_code (2 : Nat) (Option.some Jvm.ClassFile.FieldType.long)).before args0 about1 = true := code_word (m := ⟨1, 3⟩) (meth := k1m3) (c := k1c3) (by decide +kernel) rfl rfl rfl (by decide +kernel)
set_option maxRecDepth 65536 in
theorem w_c3 : (Jvm.Cond.code ({ cls := "com/example/eigenmittel/eigenmittel/AsciiDigits", name := "pairs", desc := "(J)J" } : Jvm.MethodName) prog_2_method_4_code (4 : Nat) (Option.some Jvm.ClassFile.FieldType.long)).before args0 about1 = true := code_word (m := ⟨2, 1⟩) (meth := k2m1) (c := k2c1) (by decide +kernel) rfl rfl rfl (by decide +kernel)
set_option maxRecDepth 65536 in
theorem w_c4 : (Jvm.Cond.code ({ cls := "com/example/eigenmittel/eigenmittel/AsciiDigitsPairsPinLaw", name := "byteAt", desc := "(JI)I" } : Jvm.MethodName) method_3_code (3 : Nat) (Option.some Jvm.ClassFile.FieldType.int)).before args0 about1 = true := code_word (m := ⟨1, 2⟩) (meth := k1m2) (c := k1c2) (by decide +kernel) rfl rfl rfl (by decide +kernel)
def codes1 : List Jvm.Cond := [Jvm.Cond.code x code maxLocals ret, Jvm.Cond.code ({ cls := "com/example/eigenmittel/eigenmittel/AsciiDigitsPairsPinLaw", name := "digit", desc := "(JI)I" } : Jvm.MethodName) method_2_code (3 : Nat) (Option.some Jvm.ClassFile.FieldType.int), Jvm.Cond.code ({ cls := "com/example/eigenmittel/eigenmittel/AsciiDigitsPairsPinLaw", name := "place", desc := "(II)J" } : Jvm.MethodName) method_4_code (2 : Nat) (Option.some Jvm.ClassFile.FieldType.long), Jvm.Cond.code ({ cls := "com/example/eigenmittel/eigenmittel/AsciiDigits", name := "pairs", desc := "(J)J" } : Jvm.MethodName) prog_2_method_4_code (4 : Nat) (Option.some Jvm.ClassFile.FieldType.long), Jvm.Cond.code ({ cls := "com/example/eigenmittel/eigenmittel/AsciiDigitsPairsPinLaw", name := "byteAt", desc := "(JI)I" } : Jvm.MethodName) method_3_code (3 : Nat) (Option.some Jvm.ClassFile.FieldType.int)]
set_option maxRecDepth 65536 in
theorem codes_eq : words1.filter isCode = codes1 := rfl
theorem w_codes : ∀ c ∈ words1.filter isCode, c.before args0 about1 = true := by
  rw [codes_eq]
  intro c hc
  simp only [codes1, List.mem_cons, List.not_mem_nil, or_false] at hc
  rcases hc with rfl | rfl | rfl | rfl | rfl
  · exact w_c0
  · exact w_c1
  · exact w_c2
  · exact w_c3
  · exact w_c4
set_option maxRecDepth 65536 in
theorem w_t1 : words1.all (fun c => isCode c || c.before args0 about1) = true := by decide +kernel
theorem w_tables : (allAtoms (Jvm.Cond.code x code maxLocals ret :: tables_1)).before args0 about1 = true := by
  rw [allAtoms_all]
  show words1.all (fun c => c.before args0 about1) = true
  refine all_split ?_ w_codes
  rw [w_t1]
set_option maxRecDepth 65536 in
theorem w_case : (Jvm.Cond.and given_1 narrow_1).before args0 about1 = true := by decide +kernel
theorem w_applies : (headSpec (Jvm.Cond.code x code maxLocals ret :: tables_1) room_1).applies x e0.platform about1 = true :=
  (Spec.applies_iff w_frames).mpr ⟨w_running, w_runnable, w_alone, w_named, w_hears, w_ripe, w_room, w_tables⟩
theorem atStart : AtStart classFile x code maxLocals ret World_1 tables_1 room_1 Calls_1 rest_1 Pre_1 launch0 p0 e0 about1 theMethod args0 below0 :=
  ⟨lists_1, trivial, launch0.admits_env _ _ _, launch0.least_env, fairChoices_fair.cas, fairChoices_fair.clock, w_frames, w_args, w_heap, w_applies, trivial, trivial, w_case⟩
end start1
theorem witness_1 : WitnessClaimed_1 := ⟨start1.p0, start1.e0, start1.about1, start1.theMethod, start1.args0, start1.below0, start1.atStart⟩
end Jvm.Pilot.@@N@@
