import JvmDerived
import JvmDerived.Pilot.@@N@@Statement
import JvmDerived.Pilot.@@N@@Code
set_option linter.unusedVariables false
set_option linter.unusedSimpArgs false
namespace Jvm.RoadKit
open Sem ClassFile Op Lib Jvm.Stand Jvm.Free Jvm.LawKit
section Own
variable {p : Program} {l : Launch} {e : Env} {R : Room} {s : State} {m : MethodId} {args : Array Value} {below : List Frame} {meth : Method} {c : Code} {T : State} {locs : List Loc} {cells slots : Nat} {k n : Nat} {Q : Option Value → Heap → List Loc → Prop} {W W' : State} {Z : State} {a0 : Array Value} {h : Heap}
/-- the run from W comes back, with what Q says -/
def OwnOut (p : Program) (e : Env) (s : State) (below : List Frame) (k n : Nat) (Q : Option Value → Heap → List Loc → Prop) (W : State) : Prop :=
  ∃ s₂ o, Steps p.tables e below W s₂ ∧ s₂.status = .running ∧ Ended s₂ below o ∧ ∃ v L, o = .returned v ∧ Q v s₂.heap L ∧ FrameEnd s o s₂ L k n
theorem OwnOut.go (h : ∀ t, Steps p.tables e below W' t → Steps p.tables e below W t) (H : OwnOut p e s below k n Q W') : OwnOut p e s below k n Q W := by
  obtain ⟨s₂, o, h1, h2⟩ := H
  exact ⟨s₂, o, h _ h1, h2⟩
theorem OwnOut.at {g g' : JFrame} (q : g = g') (H : OwnOut p e s below k n Q (T.setTop g')) : OwnOut p e s below k n Q (T.setTop g) := q ▸ H
theorem OwnOut.imp {Q' : Option Value → Heap → List Loc → Prop} (q : ∀ v h L, Q' v h L → Q v h L) (H : OwnOut p e s below k n Q' W) : OwnOut p e s below k n Q W := by
  obtain ⟨s₂, o, h1, h2, h3, v, L, h4, h5, h6⟩ := H
  exact ⟨s₂, o, h1, h2, h3, v, L, h4, q _ _ _ h5, h6⟩
theorem outI (X : Stand p l e R s m args below meth c T locs cells slots) (hx : p.tables.exec = Jvm.exec) {pc : Nat} {Ls : Array Slot} {z : Int32} (hret : meth.sig.returnType = some .int) (hd : decode c.code pc = .ok (.ireturn, 1)) (hlk : meth.locks = false) (hk : cells ≤ k) (hn : slots ≤ n) (q : Q (some (.int z)) T.heap locs) :
    OwnOut p e s below k n Q (T.setTop (mkF m pc Ls [.int z])) := by
  obtain ⟨fs, hr, hrun, hended, hW, hsame⟩ := X.leave (v := some (.int z)) (fun h => by rw [hret] at h; cases h) hlk
  exact ⟨_, _, X.ireturnOut hx hret rfl (Or.inl rfl) hd hr, hrun, hended, _, _, rfl, q, ⟨_, rfl⟩, hW, hsame.mono hk hn⟩
theorem outZ (X : Stand p l e R s m args below meth c T locs cells slots) (hx : p.tables.exec = Jvm.exec) {pc : Nat} {Ls : Array Slot} {z : Int32} (hret : meth.sig.returnType = some .boolean) (hd : decode c.code pc = .ok (.ireturn, 1)) (hlk : meth.locks = false) (hk : cells ≤ k) (hn : slots ≤ n) (q : Q (some (.int (z &&& 1))) T.heap locs) :
    OwnOut p e s below k n Q (T.setTop (mkF m pc Ls [.int z])) := by
  obtain ⟨fs, hr, hrun, hended, hW, hsame⟩ := X.leave (v := some (.int (z &&& 1))) (fun h => by rw [hret] at h; cases h) hlk
  exact ⟨_, _, retN X hx (t := .boolean) hret (by simp) hd hr, hrun, hended, _, _, rfl, q, ⟨_, rfl⟩, hW, hsame.mono hk hn⟩
theorem outJ (X : Stand p l e R s m args below meth c T locs cells slots) (hx : p.tables.exec = Jvm.exec) {pc : Nat} {Ls : Array Slot} {z : Int64} (hret : meth.sig.returnType = some .long) (hd : decode c.code pc = .ok (.lreturn, 1)) (hlk : meth.locks = false) (hk : cells ≤ k) (hn : slots ≤ n) (q : Q (some (.long z)) T.heap locs) :
    OwnOut p e s below k n Q (T.setTop (mkF m pc Ls [.long z])) := by
  obtain ⟨fs, hr, hrun, hended, hW, hsame⟩ := X.leave (v := some (.long z)) (fun h => by rw [hret] at h; cases h) hlk
  exact ⟨_, _, X.lreturnOut hx hret hd hr, hrun, hended, _, _, rfl, q, ⟨_, rfl⟩, hW, hsame.mono hk hn⟩
theorem outA (X : Stand p l e R s m args below meth c T locs cells slots) (hx : p.tables.exec = Jvm.exec) {pc : Nat} {Ls : Array Slot} {w : Value} {t : FieldType} (hw : w.isRef = true) (hret : meth.sig.returnType = some t) (ht : t.isReference = true) (hd : decode c.code pc = .ok (.areturn, 1)) (hlk : meth.locks = false) (hk : cells ≤ k) (hn : slots ≤ n) (q : Q (some w) T.heap locs) :
    OwnOut p e s below k n Q (T.setTop (mkF m pc Ls [w])) := by
  obtain ⟨fs, hr, hrun, hended, hW, hsame⟩ := X.leave (v := some w) (fun h => by rw [hret] at h; cases h) hlk
  exact ⟨_, _, X.areturnOut hx hw hret ht hd hr, hrun, hended, _, _, rfl, q, ⟨_, rfl⟩, hW, hsame.mono hk hn⟩
theorem outV (X : Stand p l e R s m args below meth c T locs cells slots) (hx : p.tables.exec = Jvm.exec) {pc : Nat} {Ls : Array Slot} (hret : meth.sig.returnType = none) (hd : decode c.code pc = .ok (.return_, 1)) (hlk : meth.locks = false) (hk : cells ≤ k) (hn : slots ≤ n) (q : Q none T.heap locs) :
    OwnOut p e s below k n Q (T.setTop (mkF m pc Ls [])) := by
  obtain ⟨fs, hr, hrun, hended, hW, hsame⟩ := X.leave (v := none) (fun _ => rfl) hlk
  exact ⟨_, _, X.returnOut hx hret hd hr, hrun, hended, _, _, rfl, q, ⟨_, rfl⟩, hW, hsame.mono hk hn⟩
theorem lremM {g : JFrame} {target : State} (X : Stand p l e R s m args below meth c T locs cells slots) (hx : p.tables.exec = Jvm.exec) (hg : g.method = m) {x y : Int64} {rest : List Value} (hd : decode c.code g.pc = .ok (.lrem, 1)) (hs : g.stack = .long y :: .long x :: rest) (hy : y ≠ 0)
    (hr : Steps p.tables e below (T.setTop { g with pc := g.pc + 1, stack := .long (x % y) :: rest }) target) : Steps p.tables e below (T.setTop g) target :=
  XS.lrem X.here hx hg hd hs hy (by rw [lrem_mod]; exact hr)
/-- a body that touches nothing: what it returns, the heap as it was, nothing written -/
def QP (h0 : Heap) (w : Option Value) (v : Option Value) (h : Heap) (L : List Loc) : Prop := v = w ∧ h = h0 ∧ L = []
/-- a static call of such a body -/
theorem callP (X : Stand p l e R s m args below meth c T locs cells slots) (hx : p.tables.exec = Jvm.exec) (hZ : Z.Warmed39 s.vm) {own : String} {index : Nat} {y : MethodName} {bytes : ByteArray} {maxL : Nat} {ret : Option FieldType} {rm : Room} {as' : Array Value} {w : Option Value}
    (hown : s.vm.findClass own = some m.cls) (w1 : (Cond.methodLink own index y).before a0 Z = true) (w2 : (Cond.static y).before a0 Z = true) (w3 : (Cond.initialized y.cls).before a0 Z = true) (w4 : (Cond.code y bytes maxL ret).before a0 Z = true) (hy : y.cls ≠ "java/lang/invoke/MethodHandle" ∧ y.cls ≠ "java/lang/invoke/VarHandle")
    (hM : MetFree l y (head1 [Cond.code y bytes maxL ret] rm) (fun a U => a = as' ∧ Z.Warmed39 U.vm ∧ U.heap = h) (fun _ _ _ _ _ => True) (fun _ U o U' => ∃ v L, o = .returned v ∧ QP h w v U'.heap L ∧ FrameEnd U o U' L rm.cells rm.slots))
    {W : Nat} (hf : rm.frames + 1 ≤ R.frames) (hl : W + (maxL + 11) + rm.locals ≤ R.locals) (z1 : rm.cells = 0) (z2 : rm.slots = 0) (hc : cells ≤ R.cells) (hs' : slots ≤ R.slots) (eT : T.heap = h)
    {g : JFrame} (hg : g.method = m) (hsize : g.locals.size = c.maxLocals) {argsL rest : List Value} (hlen : ∀ sig, parseMethodDescriptor y.desc = some sig → argsL.length = sig.parameters.length)
    (hstack : g.stack = argsL.reverse ++ rest) (hW : 2 * g.monitorRoom + (rest.map fun v => v.category).sum ≤ W) (hdg : decode c.code g.pc = .ok (.invokestatic index, 3)) (has : argsL.toArray = as' := by rfl) :
    ∃ T', Stand p l e R s m args below meth c T' locs cells slots ∧ T'.heap = h ∧ ∀ target, Steps p.tables e below (T'.setTop { g with pc := g.pc + 3, stack := w.toList ++ rest }) target → Steps p.tables e below (T.setTop g) target := by
  obtain ⟨v, vm₁, ⟨T', L', k', n'⟩, -, X', ⟨Lc, ⟨rfl, q2, rfl⟩, l1, y1, z3⟩, st⟩ := Jvm.LawKit.callS X hx (y := y) hown (mvT hZ w1) (mvT hZ w2) (mvT hZ w3) (mvT hZ w4) hy (backOf (W := W) hM hZ w4 w3 hf hl) hg hsize hlen hstack hW hdg (fun _ _ => ⟨has, eT, by rw [z1]; exact hc, by rw [z2]; exact hs'⟩)
  dsimp only [Pt.U, Pt.locs, Pt.cells, Pt.slots] at X' l1 y1 z3 st q2
  rw [z1] at y1; rw [z2] at z3
  rw [List.append_nil] at l1
  subst l1 y1 z3
  exact ⟨T', X', q2, st⟩
end Own
end Jvm.RoadKit
namespace Jvm.Pilot.@@N@@
open Jvm Jvm.ClassFile Sem Op Lib Jvm.Free Jvm.Stand Jvm.LawKit Jvm.RoadKit Bundle Jvm.Pilot.@@N@@.Jvm.D
-- body 1: com/example/libnodeset/libnodeset/tree/XmlCharacters.isXml11Restricted:(I)Z
theorem d1_0 : decode prog_200_method_5_code 0 = .ok (.iload_n 0, 1) := by decide +kernel
theorem d1_1 : decode prog_200_method_5_code 1 = .ok (.iconst 1, 1) := by decide +kernel
theorem d1_2 : decode prog_200_method_5_code 2 = .ok (.if_icmp .lt 9, 3) := by decide +kernel
theorem d1_5 : decode prog_200_method_5_code 5 = .ok (.iload_n 0, 1) := by decide +kernel
theorem d1_6 : decode prog_200_method_5_code 6 = .ok (.bipush 8, 2) := by decide +kernel
theorem d1_8 : decode prog_200_method_5_code 8 = .ok (.if_icmp .le 54, 3) := by decide +kernel
theorem d1_11 : decode prog_200_method_5_code 11 = .ok (.iload_n 0, 1) := by decide +kernel
theorem d1_12 : decode prog_200_method_5_code 12 = .ok (.bipush 11, 2) := by decide +kernel
theorem d1_14 : decode prog_200_method_5_code 14 = .ok (.if_icmp .lt 9, 3) := by decide +kernel
theorem d1_17 : decode prog_200_method_5_code 17 = .ok (.iload_n 0, 1) := by decide +kernel
theorem d1_18 : decode prog_200_method_5_code 18 = .ok (.bipush 12, 2) := by decide +kernel
theorem d1_20 : decode prog_200_method_5_code 20 = .ok (.if_icmp .le 42, 3) := by decide +kernel
theorem d1_23 : decode prog_200_method_5_code 23 = .ok (.iload_n 0, 1) := by decide +kernel
theorem d1_24 : decode prog_200_method_5_code 24 = .ok (.bipush 14, 2) := by decide +kernel
theorem d1_26 : decode prog_200_method_5_code 26 = .ok (.if_icmp .lt 9, 3) := by decide +kernel
theorem d1_29 : decode prog_200_method_5_code 29 = .ok (.iload_n 0, 1) := by decide +kernel
theorem d1_30 : decode prog_200_method_5_code 30 = .ok (.bipush 31, 2) := by decide +kernel
theorem d1_32 : decode prog_200_method_5_code 32 = .ok (.if_icmp .le 30, 3) := by decide +kernel
theorem d1_35 : decode prog_200_method_5_code 35 = .ok (.iload_n 0, 1) := by decide +kernel
theorem d1_36 : decode prog_200_method_5_code 36 = .ok (.bipush 127, 2) := by decide +kernel
theorem d1_38 : decode prog_200_method_5_code 38 = .ok (.if_icmp .lt 10, 3) := by decide +kernel
theorem d1_41 : decode prog_200_method_5_code 41 = .ok (.iload_n 0, 1) := by decide +kernel
theorem d1_42 : decode prog_200_method_5_code 42 = .ok (.sipush 132, 3) := by decide +kernel
theorem d1_45 : decode prog_200_method_5_code 45 = .ok (.if_icmp .le 17, 3) := by decide +kernel
theorem d1_48 : decode prog_200_method_5_code 48 = .ok (.iload_n 0, 1) := by decide +kernel
theorem d1_49 : decode prog_200_method_5_code 49 = .ok (.sipush 134, 3) := by decide +kernel
theorem d1_52 : decode prog_200_method_5_code 52 = .ok (.if_icmp .lt 14, 3) := by decide +kernel
theorem d1_55 : decode prog_200_method_5_code 55 = .ok (.iload_n 0, 1) := by decide +kernel
theorem d1_56 : decode prog_200_method_5_code 56 = .ok (.sipush 159, 3) := by decide +kernel
theorem d1_59 : decode prog_200_method_5_code 59 = .ok (.if_icmp .gt 7, 3) := by decide +kernel
theorem d1_62 : decode prog_200_method_5_code 62 = .ok (.iconst 1, 1) := by decide +kernel
theorem d1_63 : decode prog_200_method_5_code 63 = .ok (.goto 4, 3) := by decide +kernel
theorem d1_66 : decode prog_200_method_5_code 66 = .ok (.iconst 0, 1) := by decide +kernel
theorem d1_67 : decode prog_200_method_5_code 67 = .ok (.ireturn, 1) := by decide +kernel
theorem pn1 : plainName "com/example/libnodeset/libnodeset/tree/XmlCharacters" = true := by first | (simp [plainName, overriddenIn]; done) | decide +kernel
theorem pd1 : parseMethodDescriptor "(I)Z" = some ⟨[.int], some .boolean⟩ := by decide +kernel
theorem ef1 (m : MethodId) (x0 : Int32) : entryFrame m #[(.int x0)] 1 = mkF m 0 #[.val (.int x0)] [] := by first | (simp [entryFrame, mkF, argsToLocals, Value.category]; done) | rfl
abbrev rx1 : Room := { frames := 0, cells := 0, slots := 0, locals := 0 }
abbrev Cx1 (Z : State) (a0 : Array Value) (p : Program) (s : State) (m : MethodId) (meth : Method) (c : Code) : Prop := p.tables.exec = Jvm.exec ∧ Z.Warmed39 s.vm ∧ (∀ d ∈ tables_1, d.before a0 Z = true) ∧ c.code = prog_200_method_5_code ∧ c.maxLocals = 1 ∧ s.vm.findClass "com/example/libnodeset/libnodeset/tree/XmlCharacters" = some m.cls ∧ meth.sig.returnType = (some .boolean) ∧ meth.locks = false ∧ meth.name = "isXml11Restricted"
def f1_48 (x0 : Int32) : Int32 := (if x0 < (134 : Int32) then (0 : Int32) else (if (159 : Int32) < x0 then (0 : Int32) else (1 : Int32)))
set_option maxRecDepth 65536 in
set_option maxHeartbeats 40000000 in
theorem w1_48 {p : Program} {l : Launch} {e : Env} {s : State} {m : MethodId} {args : Array Value} {below : List Frame} {meth : Method} {c : Code} {T Z : State} {a0 : Array Value} {h0 : Heap} (x0 : Int32)
    (X0 : Stand p l e rx1 s m args below meth c T [] 0 0) (C : Cx1 Z a0 p s m meth c) (e0 : T.heap = h0) :
    OwnOut p e s below 0 0 (QP h0 (some (.int (f1_48 x0)))) (T.setTop (mkF m 48 #[.val (.int x0)] [])) := by
  obtain ⟨hx, hZ, hw, hby, hml, hown, hret, hlk, hnm⟩ := C
  rw [f1_48]
  refine OwnOut.go (fun t k => XS.iloadN X0.here hx rfl (hb hby d1_48) rfl k) ?_
  show OwnOut p e s below 0 0 _ (T.setTop (mkF m 49 #[.val (.int x0)] [(.int x0)]))
  refine OwnOut.go (fun t k => XT.sipushV X0.here hx rfl (134 : Int32) (hb hby d1_49) rfl k) ?_
  show OwnOut p e s below 0 0 _ (T.setTop (mkF m 52 #[.val (.int x0)] [(.int (134 : Int32)), (.int x0)]))
  by_cases hc52 : x0 < (134 : Int32)
  · rw [if_pos hc52]
    refine OwnOut.go (fun t k => XS.icmpYes X0.here hx rfl (pc0 := 52) (pc' := 66) rfl (hb hby d1_52) rfl (XT.ii_lt_t hc52) (by decide) (by decide) k) ?_
    show OwnOut p e s below 0 0 _ (T.setTop (mkF m 66 #[.val (.int x0)] []))
    refine OwnOut.go (fun t k => XT.iconstV X0.here hx rfl (0 : Int32) (hb hby d1_66) rfl k) ?_
    show OwnOut p e s below 0 0 _ (T.setTop (mkF m 67 #[.val (.int x0)] [(.int (0 : Int32))]))
    exact outZ X0 hx hret (hb hby d1_67) hlk (by decide) (by decide) ⟨rfl, e0, rfl⟩
  · rw [if_neg hc52]
    refine OwnOut.go (fun t k => XS.icmpNo X0.here hx rfl (hb hby d1_52) rfl (XT.ii_lt_f hc52) k) ?_
    show OwnOut p e s below 0 0 _ (T.setTop (mkF m 55 #[.val (.int x0)] []))
    refine OwnOut.go (fun t k => XS.iloadN X0.here hx rfl (hb hby d1_55) rfl k) ?_
    show OwnOut p e s below 0 0 _ (T.setTop (mkF m 56 #[.val (.int x0)] [(.int x0)]))
    refine OwnOut.go (fun t k => XT.sipushV X0.here hx rfl (159 : Int32) (hb hby d1_56) rfl k) ?_
    show OwnOut p e s below 0 0 _ (T.setTop (mkF m 59 #[.val (.int x0)] [(.int (159 : Int32)), (.int x0)]))
    by_cases hc59 : (159 : Int32) < x0
    · rw [if_pos hc59]
      refine OwnOut.go (fun t k => XS.icmpYes X0.here hx rfl (pc0 := 59) (pc' := 66) rfl (hb hby d1_59) rfl (XT.ii_gt_t hc59) (by decide) (by decide) k) ?_
      show OwnOut p e s below 0 0 _ (T.setTop (mkF m 66 #[.val (.int x0)] []))
      refine OwnOut.go (fun t k => XT.iconstV X0.here hx rfl (0 : Int32) (hb hby d1_66) rfl k) ?_
      show OwnOut p e s below 0 0 _ (T.setTop (mkF m 67 #[.val (.int x0)] [(.int (0 : Int32))]))
      exact outZ X0 hx hret (hb hby d1_67) hlk (by decide) (by decide) ⟨rfl, e0, rfl⟩
    · rw [if_neg hc59]
      refine OwnOut.go (fun t k => XS.icmpNo X0.here hx rfl (hb hby d1_59) rfl (XT.ii_gt_f hc59) k) ?_
      show OwnOut p e s below 0 0 _ (T.setTop (mkF m 62 #[.val (.int x0)] []))
      refine OwnOut.go (fun t k => XT.iconstV X0.here hx rfl (1 : Int32) (hb hby d1_62) rfl k) ?_
      show OwnOut p e s below 0 0 _ (T.setTop (mkF m 63 #[.val (.int x0)] [(.int (1 : Int32))]))
      refine OwnOut.go (fun t k => XS.goto X0.here hx rfl (pc0 := 63) (pc' := 67) rfl (hb hby d1_63) (by decide) (by decide) k) ?_
      show OwnOut p e s below 0 0 _ (T.setTop (mkF m 67 #[.val (.int x0)] [(.int (1 : Int32))]))
      exact outZ X0 hx hret (hb hby d1_67) hlk (by decide) (by decide) ⟨rfl, e0, rfl⟩
def f1_35 (x0 : Int32) : Int32 := (if x0 < (127 : Int32) then (f1_48 x0) else (if (132 : Int32) < x0 then (f1_48 x0) else (1 : Int32)))
set_option maxRecDepth 65536 in
set_option maxHeartbeats 40000000 in
theorem w1_35 {p : Program} {l : Launch} {e : Env} {s : State} {m : MethodId} {args : Array Value} {below : List Frame} {meth : Method} {c : Code} {T Z : State} {a0 : Array Value} {h0 : Heap} (x0 : Int32)
    (X0 : Stand p l e rx1 s m args below meth c T [] 0 0) (C : Cx1 Z a0 p s m meth c) (e0 : T.heap = h0) :
    OwnOut p e s below 0 0 (QP h0 (some (.int (f1_35 x0)))) (T.setTop (mkF m 35 #[.val (.int x0)] [])) := by
  obtain ⟨hx, hZ, hw, hby, hml, hown, hret, hlk, hnm⟩ := C
  rw [f1_35]
  refine OwnOut.go (fun t k => XS.iloadN X0.here hx rfl (hb hby d1_35) rfl k) ?_
  show OwnOut p e s below 0 0 _ (T.setTop (mkF m 36 #[.val (.int x0)] [(.int x0)]))
  refine OwnOut.go (fun t k => XT.bipushV X0.here hx rfl (127 : Int32) (hb hby d1_36) rfl k) ?_
  show OwnOut p e s below 0 0 _ (T.setTop (mkF m 38 #[.val (.int x0)] [(.int (127 : Int32)), (.int x0)]))
  by_cases hc38 : x0 < (127 : Int32)
  · rw [if_pos hc38]
    refine OwnOut.go (fun t k => XS.icmpYes X0.here hx rfl (pc0 := 38) (pc' := 48) rfl (hb hby d1_38) rfl (XT.ii_lt_t hc38) (by decide) (by decide) k) ?_
    show OwnOut p e s below 0 0 _ (T.setTop (mkF m 48 #[.val (.int x0)] []))
    exact w1_48 x0 X0 ⟨hx, hZ, hw, hby, hml, hown, hret, hlk, hnm⟩ e0
  · rw [if_neg hc38]
    refine OwnOut.go (fun t k => XS.icmpNo X0.here hx rfl (hb hby d1_38) rfl (XT.ii_lt_f hc38) k) ?_
    show OwnOut p e s below 0 0 _ (T.setTop (mkF m 41 #[.val (.int x0)] []))
    refine OwnOut.go (fun t k => XS.iloadN X0.here hx rfl (hb hby d1_41) rfl k) ?_
    show OwnOut p e s below 0 0 _ (T.setTop (mkF m 42 #[.val (.int x0)] [(.int x0)]))
    refine OwnOut.go (fun t k => XT.sipushV X0.here hx rfl (132 : Int32) (hb hby d1_42) rfl k) ?_
    show OwnOut p e s below 0 0 _ (T.setTop (mkF m 45 #[.val (.int x0)] [(.int (132 : Int32)), (.int x0)]))
    by_cases hc45 : (132 : Int32) < x0
    · rw [if_pos hc45]
      refine OwnOut.go (fun t k => XS.icmpNo X0.here hx rfl (hb hby d1_45) rfl (XT.ii_le_f hc45) k) ?_
      show OwnOut p e s below 0 0 _ (T.setTop (mkF m 48 #[.val (.int x0)] []))
      exact w1_48 x0 X0 ⟨hx, hZ, hw, hby, hml, hown, hret, hlk, hnm⟩ e0
    · rw [if_neg hc45]
      refine OwnOut.go (fun t k => XS.icmpYes X0.here hx rfl (pc0 := 45) (pc' := 62) rfl (hb hby d1_45) rfl (XT.ii_le_t hc45) (by decide) (by decide) k) ?_
      show OwnOut p e s below 0 0 _ (T.setTop (mkF m 62 #[.val (.int x0)] []))
      refine OwnOut.go (fun t k => XT.iconstV X0.here hx rfl (1 : Int32) (hb hby d1_62) rfl k) ?_
      show OwnOut p e s below 0 0 _ (T.setTop (mkF m 63 #[.val (.int x0)] [(.int (1 : Int32))]))
      refine OwnOut.go (fun t k => XS.goto X0.here hx rfl (pc0 := 63) (pc' := 67) rfl (hb hby d1_63) (by decide) (by decide) k) ?_
      show OwnOut p e s below 0 0 _ (T.setTop (mkF m 67 #[.val (.int x0)] [(.int (1 : Int32))]))
      exact outZ X0 hx hret (hb hby d1_67) hlk (by decide) (by decide) ⟨rfl, e0, rfl⟩
def f1_23 (x0 : Int32) : Int32 := (if x0 < (14 : Int32) then (f1_35 x0) else (if (31 : Int32) < x0 then (f1_35 x0) else (1 : Int32)))
set_option maxRecDepth 65536 in
set_option maxHeartbeats 40000000 in
theorem w1_23 {p : Program} {l : Launch} {e : Env} {s : State} {m : MethodId} {args : Array Value} {below : List Frame} {meth : Method} {c : Code} {T Z : State} {a0 : Array Value} {h0 : Heap} (x0 : Int32)
    (X0 : Stand p l e rx1 s m args below meth c T [] 0 0) (C : Cx1 Z a0 p s m meth c) (e0 : T.heap = h0) :
    OwnOut p e s below 0 0 (QP h0 (some (.int (f1_23 x0)))) (T.setTop (mkF m 23 #[.val (.int x0)] [])) := by
  obtain ⟨hx, hZ, hw, hby, hml, hown, hret, hlk, hnm⟩ := C
  rw [f1_23]
  refine OwnOut.go (fun t k => XS.iloadN X0.here hx rfl (hb hby d1_23) rfl k) ?_
  show OwnOut p e s below 0 0 _ (T.setTop (mkF m 24 #[.val (.int x0)] [(.int x0)]))
  refine OwnOut.go (fun t k => XT.bipushV X0.here hx rfl (14 : Int32) (hb hby d1_24) rfl k) ?_
  show OwnOut p e s below 0 0 _ (T.setTop (mkF m 26 #[.val (.int x0)] [(.int (14 : Int32)), (.int x0)]))
  by_cases hc26 : x0 < (14 : Int32)
  · rw [if_pos hc26]
    refine OwnOut.go (fun t k => XS.icmpYes X0.here hx rfl (pc0 := 26) (pc' := 35) rfl (hb hby d1_26) rfl (XT.ii_lt_t hc26) (by decide) (by decide) k) ?_
    show OwnOut p e s below 0 0 _ (T.setTop (mkF m 35 #[.val (.int x0)] []))
    exact w1_35 x0 X0 ⟨hx, hZ, hw, hby, hml, hown, hret, hlk, hnm⟩ e0
  · rw [if_neg hc26]
    refine OwnOut.go (fun t k => XS.icmpNo X0.here hx rfl (hb hby d1_26) rfl (XT.ii_lt_f hc26) k) ?_
    show OwnOut p e s below 0 0 _ (T.setTop (mkF m 29 #[.val (.int x0)] []))
    refine OwnOut.go (fun t k => XS.iloadN X0.here hx rfl (hb hby d1_29) rfl k) ?_
    show OwnOut p e s below 0 0 _ (T.setTop (mkF m 30 #[.val (.int x0)] [(.int x0)]))
    refine OwnOut.go (fun t k => XT.bipushV X0.here hx rfl (31 : Int32) (hb hby d1_30) rfl k) ?_
    show OwnOut p e s below 0 0 _ (T.setTop (mkF m 32 #[.val (.int x0)] [(.int (31 : Int32)), (.int x0)]))
    by_cases hc32 : (31 : Int32) < x0
    · rw [if_pos hc32]
      refine OwnOut.go (fun t k => XS.icmpNo X0.here hx rfl (hb hby d1_32) rfl (XT.ii_le_f hc32) k) ?_
      show OwnOut p e s below 0 0 _ (T.setTop (mkF m 35 #[.val (.int x0)] []))
      exact w1_35 x0 X0 ⟨hx, hZ, hw, hby, hml, hown, hret, hlk, hnm⟩ e0
    · rw [if_neg hc32]
      refine OwnOut.go (fun t k => XS.icmpYes X0.here hx rfl (pc0 := 32) (pc' := 62) rfl (hb hby d1_32) rfl (XT.ii_le_t hc32) (by decide) (by decide) k) ?_
      show OwnOut p e s below 0 0 _ (T.setTop (mkF m 62 #[.val (.int x0)] []))
      refine OwnOut.go (fun t k => XT.iconstV X0.here hx rfl (1 : Int32) (hb hby d1_62) rfl k) ?_
      show OwnOut p e s below 0 0 _ (T.setTop (mkF m 63 #[.val (.int x0)] [(.int (1 : Int32))]))
      refine OwnOut.go (fun t k => XS.goto X0.here hx rfl (pc0 := 63) (pc' := 67) rfl (hb hby d1_63) (by decide) (by decide) k) ?_
      show OwnOut p e s below 0 0 _ (T.setTop (mkF m 67 #[.val (.int x0)] [(.int (1 : Int32))]))
      exact outZ X0 hx hret (hb hby d1_67) hlk (by decide) (by decide) ⟨rfl, e0, rfl⟩
def f1_11 (x0 : Int32) : Int32 := (if x0 < (11 : Int32) then (f1_23 x0) else (if (12 : Int32) < x0 then (f1_23 x0) else (1 : Int32)))
set_option maxRecDepth 65536 in
set_option maxHeartbeats 40000000 in
theorem w1_11 {p : Program} {l : Launch} {e : Env} {s : State} {m : MethodId} {args : Array Value} {below : List Frame} {meth : Method} {c : Code} {T Z : State} {a0 : Array Value} {h0 : Heap} (x0 : Int32)
    (X0 : Stand p l e rx1 s m args below meth c T [] 0 0) (C : Cx1 Z a0 p s m meth c) (e0 : T.heap = h0) :
    OwnOut p e s below 0 0 (QP h0 (some (.int (f1_11 x0)))) (T.setTop (mkF m 11 #[.val (.int x0)] [])) := by
  obtain ⟨hx, hZ, hw, hby, hml, hown, hret, hlk, hnm⟩ := C
  rw [f1_11]
  refine OwnOut.go (fun t k => XS.iloadN X0.here hx rfl (hb hby d1_11) rfl k) ?_
  show OwnOut p e s below 0 0 _ (T.setTop (mkF m 12 #[.val (.int x0)] [(.int x0)]))
  refine OwnOut.go (fun t k => XT.bipushV X0.here hx rfl (11 : Int32) (hb hby d1_12) rfl k) ?_
  show OwnOut p e s below 0 0 _ (T.setTop (mkF m 14 #[.val (.int x0)] [(.int (11 : Int32)), (.int x0)]))
  by_cases hc14 : x0 < (11 : Int32)
  · rw [if_pos hc14]
    refine OwnOut.go (fun t k => XS.icmpYes X0.here hx rfl (pc0 := 14) (pc' := 23) rfl (hb hby d1_14) rfl (XT.ii_lt_t hc14) (by decide) (by decide) k) ?_
    show OwnOut p e s below 0 0 _ (T.setTop (mkF m 23 #[.val (.int x0)] []))
    exact w1_23 x0 X0 ⟨hx, hZ, hw, hby, hml, hown, hret, hlk, hnm⟩ e0
  · rw [if_neg hc14]
    refine OwnOut.go (fun t k => XS.icmpNo X0.here hx rfl (hb hby d1_14) rfl (XT.ii_lt_f hc14) k) ?_
    show OwnOut p e s below 0 0 _ (T.setTop (mkF m 17 #[.val (.int x0)] []))
    refine OwnOut.go (fun t k => XS.iloadN X0.here hx rfl (hb hby d1_17) rfl k) ?_
    show OwnOut p e s below 0 0 _ (T.setTop (mkF m 18 #[.val (.int x0)] [(.int x0)]))
    refine OwnOut.go (fun t k => XT.bipushV X0.here hx rfl (12 : Int32) (hb hby d1_18) rfl k) ?_
    show OwnOut p e s below 0 0 _ (T.setTop (mkF m 20 #[.val (.int x0)] [(.int (12 : Int32)), (.int x0)]))
    by_cases hc20 : (12 : Int32) < x0
    · rw [if_pos hc20]
      refine OwnOut.go (fun t k => XS.icmpNo X0.here hx rfl (hb hby d1_20) rfl (XT.ii_le_f hc20) k) ?_
      show OwnOut p e s below 0 0 _ (T.setTop (mkF m 23 #[.val (.int x0)] []))
      exact w1_23 x0 X0 ⟨hx, hZ, hw, hby, hml, hown, hret, hlk, hnm⟩ e0
    · rw [if_neg hc20]
      refine OwnOut.go (fun t k => XS.icmpYes X0.here hx rfl (pc0 := 20) (pc' := 62) rfl (hb hby d1_20) rfl (XT.ii_le_t hc20) (by decide) (by decide) k) ?_
      show OwnOut p e s below 0 0 _ (T.setTop (mkF m 62 #[.val (.int x0)] []))
      refine OwnOut.go (fun t k => XT.iconstV X0.here hx rfl (1 : Int32) (hb hby d1_62) rfl k) ?_
      show OwnOut p e s below 0 0 _ (T.setTop (mkF m 63 #[.val (.int x0)] [(.int (1 : Int32))]))
      refine OwnOut.go (fun t k => XS.goto X0.here hx rfl (pc0 := 63) (pc' := 67) rfl (hb hby d1_63) (by decide) (by decide) k) ?_
      show OwnOut p e s below 0 0 _ (T.setTop (mkF m 67 #[.val (.int x0)] [(.int (1 : Int32))]))
      exact outZ X0 hx hret (hb hby d1_67) hlk (by decide) (by decide) ⟨rfl, e0, rfl⟩
def f1 (x0 : Int32) : Int32 := (if x0 < (1 : Int32) then (f1_11 x0) else (if (8 : Int32) < x0 then (f1_11 x0) else (1 : Int32)))
set_option maxRecDepth 65536 in
set_option maxHeartbeats 40000000 in
theorem w1_0 {p : Program} {l : Launch} {e : Env} {s : State} {m : MethodId} {args : Array Value} {below : List Frame} {meth : Method} {c : Code} {T Z : State} {a0 : Array Value} {h0 : Heap} (x0 : Int32)
    (X0 : Stand p l e rx1 s m args below meth c T [] 0 0) (C : Cx1 Z a0 p s m meth c) (e0 : T.heap = h0) :
    OwnOut p e s below 0 0 (QP h0 (some (.int (f1 x0)))) (T.setTop (mkF m 0 #[.val (.int x0)] [])) := by
  obtain ⟨hx, hZ, hw, hby, hml, hown, hret, hlk, hnm⟩ := C
  rw [f1]
  refine OwnOut.go (fun t k => XS.iloadN X0.here hx rfl (hb hby d1_0) rfl k) ?_
  show OwnOut p e s below 0 0 _ (T.setTop (mkF m 1 #[.val (.int x0)] [(.int x0)]))
  refine OwnOut.go (fun t k => XT.iconstV X0.here hx rfl (1 : Int32) (hb hby d1_1) rfl k) ?_
  show OwnOut p e s below 0 0 _ (T.setTop (mkF m 2 #[.val (.int x0)] [(.int (1 : Int32)), (.int x0)]))
  by_cases hc2 : x0 < (1 : Int32)
  · rw [if_pos hc2]
    refine OwnOut.go (fun t k => XS.icmpYes X0.here hx rfl (pc0 := 2) (pc' := 11) rfl (hb hby d1_2) rfl (XT.ii_lt_t hc2) (by decide) (by decide) k) ?_
    show OwnOut p e s below 0 0 _ (T.setTop (mkF m 11 #[.val (.int x0)] []))
    exact w1_11 x0 X0 ⟨hx, hZ, hw, hby, hml, hown, hret, hlk, hnm⟩ e0
  · rw [if_neg hc2]
    refine OwnOut.go (fun t k => XS.icmpNo X0.here hx rfl (hb hby d1_2) rfl (XT.ii_lt_f hc2) k) ?_
    show OwnOut p e s below 0 0 _ (T.setTop (mkF m 5 #[.val (.int x0)] []))
    refine OwnOut.go (fun t k => XS.iloadN X0.here hx rfl (hb hby d1_5) rfl k) ?_
    show OwnOut p e s below 0 0 _ (T.setTop (mkF m 6 #[.val (.int x0)] [(.int x0)]))
    refine OwnOut.go (fun t k => XT.bipushV X0.here hx rfl (8 : Int32) (hb hby d1_6) rfl k) ?_
    show OwnOut p e s below 0 0 _ (T.setTop (mkF m 8 #[.val (.int x0)] [(.int (8 : Int32)), (.int x0)]))
    by_cases hc8 : (8 : Int32) < x0
    · rw [if_pos hc8]
      refine OwnOut.go (fun t k => XS.icmpNo X0.here hx rfl (hb hby d1_8) rfl (XT.ii_le_f hc8) k) ?_
      show OwnOut p e s below 0 0 _ (T.setTop (mkF m 11 #[.val (.int x0)] []))
      exact w1_11 x0 X0 ⟨hx, hZ, hw, hby, hml, hown, hret, hlk, hnm⟩ e0
    · rw [if_neg hc8]
      refine OwnOut.go (fun t k => XS.icmpYes X0.here hx rfl (pc0 := 8) (pc' := 62) rfl (hb hby d1_8) rfl (XT.ii_le_t hc8) (by decide) (by decide) k) ?_
      show OwnOut p e s below 0 0 _ (T.setTop (mkF m 62 #[.val (.int x0)] []))
      refine OwnOut.go (fun t k => XT.iconstV X0.here hx rfl (1 : Int32) (hb hby d1_62) rfl k) ?_
      show OwnOut p e s below 0 0 _ (T.setTop (mkF m 63 #[.val (.int x0)] [(.int (1 : Int32))]))
      refine OwnOut.go (fun t k => XS.goto X0.here hx rfl (pc0 := 63) (pc' := 67) rfl (hb hby d1_63) (by decide) (by decide) k) ?_
      show OwnOut p e s below 0 0 _ (T.setTop (mkF m 67 #[.val (.int x0)] [(.int (1 : Int32))]))
      exact outZ X0 hx hret (hb hby d1_67) hlk (by decide) (by decide) ⟨rfl, e0, rfl⟩
set_option maxRecDepth 65536 in
set_option maxHeartbeats 40000000 in
theorem rm1 (l : Launch) (Z : State) (a0 : Array Value) (hw : ∀ d ∈ tables_1, d.before a0 Z = true) (ws : List Jvm.Cond) (x0 : Int32) (h0 : Heap) :
    MetFree l (⟨"com/example/libnodeset/libnodeset/tree/XmlCharacters", "isXml11Restricted", "(I)Z"⟩ : MethodName) (head1 (Jvm.Cond.code (⟨"com/example/libnodeset/libnodeset/tree/XmlCharacters", "isXml11Restricted", "(I)Z"⟩ : MethodName) prog_200_method_5_code 1 (some .boolean) :: ws) rx1) (fun a U => a = #[(.int x0)] ∧ Z.Warmed39 U.vm ∧ U.heap = h0) (fun _ _ _ _ _ => True) (fun _ U o U' => ∃ v L, o = .returned v ∧ QP h0 (some (.int (f1 x0))) v U'.heap L ∧ FrameEnd U o U' L rx1.cells rx1.slots) := by
  refine MetFree.of_bodySF (plainFor_of_name pn1) hisR ?_
  intro p e s m args below meth c s₁ Bd hml0 hP hK
  obtain ⟨rfl, hZ, hh⟩ := hP
  have X0 : Stand p l e rx1 s m #[(.int x0)] below meth c s₁ [] 0 0 := Stand.of_body Bd
  have e0 : s₁.heap = h0 := by rw [← hh, Bd.state]; rfl
  exact OwnOut.at (ef1 m x0) (w1_0 x0 X0 ⟨Bd.exec, hZ, hw, Bd.bytes, hml0, findClass_of_methodNamed Bd.named, Bd.returns, Bd.notSynchronized, (name_of_methodNamed Bd.named Bd.method).1⟩ e0)
-- body 0: com/example/libnodeset/libnodeset/tree/XmlCharactersIsXml11RestrictedPinLaw.law:(II)Z
theorem pn0 : plainName "com/example/libnodeset/libnodeset/tree/XmlCharactersIsXml11RestrictedPinLaw" = true := by first | (simp [plainName, overriddenIn]; done) | decide +kernel
theorem pd0 : parseMethodDescriptor "(II)Z" = some ⟨[.int, .int], some .boolean⟩ := by decide +kernel
theorem ef0 (m : MethodId) (x0 : Int32) (x1 : Int32) : entryFrame m #[(.int x0), (.int x1)] maxLocals = mkF m 0 #[.val (.int x0), .val (.int x1), .unset, .unset, .unset, .unset] [] := by first | (simp [entryFrame, mkF, argsToLocals, Value.category, maxLocals]; done) | rfl
abbrev Cx0 (Z : State) (a0 : Array Value) (p : Program) (s : State) (m : MethodId) (meth : Method) (c : Code) : Prop := p.tables.exec = Jvm.exec ∧ Z.Warmed39 s.vm ∧ (∀ d ∈ tables_1, d.before a0 Z = true) ∧ c.code = code ∧ c.maxLocals = 6 ∧ s.vm.findClass "com/example/libnodeset/libnodeset/tree/XmlCharactersIsXml11RestrictedPinLaw" = some m.cls ∧ meth.sig.returnType = (some .boolean) ∧ meth.locks = false ∧ meth.name = "law"
def f0_138 (y0 : Int32) (y1 : Int32) : Int32 := (if y1 = y0 then (1 : Int32) else (0 : Int32))
set_option maxRecDepth 65536 in
set_option maxHeartbeats 40000000 in
theorem w0_138 {p : Program} {l : Launch} {e : Env} {s : State} {m : MethodId} {args : Array Value} {below : List Frame} {meth : Method} {c : Code} {T Z : State} {a0 : Array Value} {h0 : Heap} (x0 : Int32) (x1 : Int32) (x2 : Int32) (x3 : Int32) (x4 : Int32) (x5 : Int32) (y0 : Int32) (y1 : Int32)
    (X0 : Stand p l e room_1 s m args below meth c T [] 0 0) (C : Cx0 Z a0 p s m meth c) (e0 : T.heap = h0) :
    OwnOut p e s below 0 0 (QP h0 (some (.int (f0_138 y0 y1)))) (T.setTop (mkF m 138 #[.val (.int x0), .val (.int x1), .val (.int x2), .val (.int x3), .val (.int x4), .val (.int x5)] [(.int y0), (.int y1)])) := by
  obtain ⟨hx, hZ, hw, hby, hml, hown, hret, hlk, hnm⟩ := C
  rw [f0_138]
  by_cases hc138 : y1 = y0
  · rw [if_pos hc138]
    refine OwnOut.go (fun t k => XS.icmpNo X0.here hx rfl (hb hby at_138) rfl (XT.ii_ne_f hc138) k) ?_
    show OwnOut p e s below 0 0 _ (T.setTop (mkF m 141 #[.val (.int x0), .val (.int x1), .val (.int x2), .val (.int x3), .val (.int x4), .val (.int x5)] []))
    refine OwnOut.go (fun t k => XT.iconstV X0.here hx rfl (1 : Int32) (hb hby at_141) rfl k) ?_
    show OwnOut p e s below 0 0 _ (T.setTop (mkF m 142 #[.val (.int x0), .val (.int x1), .val (.int x2), .val (.int x3), .val (.int x4), .val (.int x5)] [(.int (1 : Int32))]))
    refine OwnOut.go (fun t k => XS.goto X0.here hx rfl (pc0 := 142) (pc' := 146) rfl (hb hby at_142) (by decide) (by decide) k) ?_
    show OwnOut p e s below 0 0 _ (T.setTop (mkF m 146 #[.val (.int x0), .val (.int x1), .val (.int x2), .val (.int x3), .val (.int x4), .val (.int x5)] [(.int (1 : Int32))]))
    exact outZ X0 hx hret (hb hby at_146) hlk (by decide) (by decide) ⟨rfl, e0, rfl⟩
  · rw [if_neg hc138]
    refine OwnOut.go (fun t k => XS.icmpYes X0.here hx rfl (pc0 := 138) (pc' := 145) rfl (hb hby at_138) rfl (XT.ii_ne_t hc138) (by decide) (by decide) k) ?_
    show OwnOut p e s below 0 0 _ (T.setTop (mkF m 145 #[.val (.int x0), .val (.int x1), .val (.int x2), .val (.int x3), .val (.int x4), .val (.int x5)] []))
    refine OwnOut.go (fun t k => XT.iconstV X0.here hx rfl (0 : Int32) (hb hby at_145) rfl k) ?_
    show OwnOut p e s below 0 0 _ (T.setTop (mkF m 146 #[.val (.int x0), .val (.int x1), .val (.int x2), .val (.int x3), .val (.int x4), .val (.int x5)] [(.int (0 : Int32))]))
    exact outZ X0 hx hret (hb hby at_146) hlk (by decide) (by decide) ⟨rfl, e0, rfl⟩
def f0_137 (y0 : Int32) : Int32 := (f0_138 (0 : Int32) y0)
set_option maxRecDepth 65536 in
set_option maxHeartbeats 40000000 in
theorem w0_137 {p : Program} {l : Launch} {e : Env} {s : State} {m : MethodId} {args : Array Value} {below : List Frame} {meth : Method} {c : Code} {T Z : State} {a0 : Array Value} {h0 : Heap} (x0 : Int32) (x1 : Int32) (x2 : Int32) (x3 : Int32) (x4 : Int32) (x5 : Int32) (y0 : Int32)
    (X0 : Stand p l e room_1 s m args below meth c T [] 0 0) (C : Cx0 Z a0 p s m meth c) (e0 : T.heap = h0) :
    OwnOut p e s below 0 0 (QP h0 (some (.int (f0_137 y0)))) (T.setTop (mkF m 137 #[.val (.int x0), .val (.int x1), .val (.int x2), .val (.int x3), .val (.int x4), .val (.int x5)] [(.int y0)])) := by
  obtain ⟨hx, hZ, hw, hby, hml, hown, hret, hlk, hnm⟩ := C
  rw [f0_137]
  refine OwnOut.go (fun t k => XT.iconstV X0.here hx rfl (0 : Int32) (hb hby at_137) rfl k) ?_
  show OwnOut p e s below 0 0 _ (T.setTop (mkF m 138 #[.val (.int x0), .val (.int x1), .val (.int x2), .val (.int x3), .val (.int x4), .val (.int x5)] [(.int (0 : Int32)), (.int y0)]))
  exact w0_138 x0 x1 x2 x3 x4 x5 (0 : Int32) y0 X0 ⟨hx, hZ, hw, hby, hml, hown, hret, hlk, hnm⟩ e0
def f0_117 (x3 : Int32) (x4 : Int32) (y0 : Int32) : Int32 := (if x4 = (0 : Int32) then (f0_137 (f1 x3)) else (if y0 = (0 : Int32) then (f0_138 (1 : Int32) (f1 x3)) else (f0_137 (f1 x3))))
set_option maxRecDepth 65536 in
set_option maxHeartbeats 40000000 in
theorem w0_117 {p : Program} {l : Launch} {e : Env} {s : State} {m : MethodId} {args : Array Value} {below : List Frame} {meth : Method} {c : Code} {T Z : State} {a0 : Array Value} {h0 : Heap} (x0 : Int32) (x1 : Int32) (x2 : Int32) (x3 : Int32) (x4 : Int32) (y0 : Int32)
    (X0 : Stand p l e room_1 s m args below meth c T [] 0 0) (C : Cx0 Z a0 p s m meth c) (e0 : T.heap = h0) :
    OwnOut p e s below 0 0 (QP h0 (some (.int (f0_117 x3 x4 y0)))) (T.setTop (mkF m 117 #[.val (.int x0), .val (.int x1), .val (.int x2), .val (.int x3), .val (.int x4), .unset] [(.int y0)])) := by
  obtain ⟨hx, hZ, hw, hby, hml, hown, hret, hlk, hnm⟩ := C
  rw [f0_117]
  refine OwnOut.go (fun t k => XS.istore X0.here hx rfl (hb hby at_117) rfl (l' := #[.val (.int x0), .val (.int x1), .val (.int x2), .val (.int x3), .val (.int x4), .val (.int y0)]) rfl k) ?_
  show OwnOut p e s below 0 0 _ (T.setTop (mkF m 119 #[.val (.int x0), .val (.int x1), .val (.int x2), .val (.int x3), .val (.int x4), .val (.int y0)] []))
  refine OwnOut.go (fun t k => XS.iloadN X0.here hx rfl (hb hby at_119) rfl k) ?_
  show OwnOut p e s below 0 0 _ (T.setTop (mkF m 120 #[.val (.int x0), .val (.int x1), .val (.int x2), .val (.int x3), .val (.int x4), .val (.int y0)] [(.int x3)]))
  obtain ⟨T1, X1, e1, st1⟩ := callP (W := 0) (rm := rx1) X0 hx hZ (y := (⟨"com/example/libnodeset/libnodeset/tree/XmlCharacters", "isXml11Restricted", "(I)Z"⟩ : MethodName)) hown (hw _ (List.mem_of_getElem? (i := 0) rfl)) (hw _ (List.mem_of_getElem? (i := 1) rfl)) (hw _ (List.mem_of_getElem? (i := 2) rfl)) (hw _ (List.mem_of_getElem? (i := 3) rfl)) (by decide) (rm1 l Z a0 hw [] x3 h0) (by decide) (by decide) rfl rfl (Nat.zero_le _) (Nat.zero_le _) e0 (g := (mkF m 120 #[.val (.int x0), .val (.int x1), .val (.int x2), .val (.int x3), .val (.int x4), .val (.int y0)] [(.int x3)])) rfl (by rw [hml]; rfl) (argsL := [(.int x3)]) (rest := []) (lenOf pd1 rfl) rfl (by show 2 * 0 + _ ≤ _; exact Nat.le_of_eq rfl) (hb hby at_120)
  refine OwnOut.go (fun t k => st1 _ k) ?_
  show OwnOut p e s below 0 0 _ (T1.setTop (mkF m 123 #[.val (.int x0), .val (.int x1), .val (.int x2), .val (.int x3), .val (.int x4), .val (.int y0)] [(.int (f1 x3))]))
  refine OwnOut.go (fun t k => XS.iload X1.here hx rfl (hb hby at_123) rfl k) ?_
  show OwnOut p e s below 0 0 _ (T1.setTop (mkF m 125 #[.val (.int x0), .val (.int x1), .val (.int x2), .val (.int x3), .val (.int x4), .val (.int y0)] [(.int x4), (.int (f1 x3))]))
  by_cases hc125 : x4 = (0 : Int32)
  · rw [if_pos hc125]
    refine OwnOut.go (fun t k => XS.ifYes X1.here hx rfl (pc0 := 125) (pc' := 137) rfl (hb hby at_125) rfl (XT.i0_eq_t hc125) (by decide) (by decide) k) ?_
    show OwnOut p e s below 0 0 _ (T1.setTop (mkF m 137 #[.val (.int x0), .val (.int x1), .val (.int x2), .val (.int x3), .val (.int x4), .val (.int y0)] [(.int (f1 x3))]))
    exact w0_137 x0 x1 x2 x3 x4 y0 (f1 x3) X1 ⟨hx, hZ, hw, hby, hml, hown, hret, hlk, hnm⟩ e1
  · rw [if_neg hc125]
    refine OwnOut.go (fun t k => XS.ifNo X1.here hx rfl (hb hby at_125) rfl (XT.i0_eq_f hc125) k) ?_
    show OwnOut p e s below 0 0 _ (T1.setTop (mkF m 128 #[.val (.int x0), .val (.int x1), .val (.int x2), .val (.int x3), .val (.int x4), .val (.int y0)] [(.int (f1 x3))]))
    refine OwnOut.go (fun t k => XS.iload X1.here hx rfl (hb hby at_128) rfl k) ?_
    show OwnOut p e s below 0 0 _ (T1.setTop (mkF m 130 #[.val (.int x0), .val (.int x1), .val (.int x2), .val (.int x3), .val (.int x4), .val (.int y0)] [(.int y0), (.int (f1 x3))]))
    by_cases hc130 : y0 = (0 : Int32)
    · rw [if_pos hc130]
      refine OwnOut.go (fun t k => XS.ifNo X1.here hx rfl (hb hby at_130) rfl (XT.i0_ne_f hc130) k) ?_
      show OwnOut p e s below 0 0 _ (T1.setTop (mkF m 133 #[.val (.int x0), .val (.int x1), .val (.int x2), .val (.int x3), .val (.int x4), .val (.int y0)] [(.int (f1 x3))]))
      refine OwnOut.go (fun t k => XT.iconstV X1.here hx rfl (1 : Int32) (hb hby at_133) rfl k) ?_
      show OwnOut p e s below 0 0 _ (T1.setTop (mkF m 134 #[.val (.int x0), .val (.int x1), .val (.int x2), .val (.int x3), .val (.int x4), .val (.int y0)] [(.int (1 : Int32)), (.int (f1 x3))]))
      refine OwnOut.go (fun t k => XS.goto X1.here hx rfl (pc0 := 134) (pc' := 138) rfl (hb hby at_134) (by decide) (by decide) k) ?_
      show OwnOut p e s below 0 0 _ (T1.setTop (mkF m 138 #[.val (.int x0), .val (.int x1), .val (.int x2), .val (.int x3), .val (.int x4), .val (.int y0)] [(.int (1 : Int32)), (.int (f1 x3))]))
      exact w0_138 x0 x1 x2 x3 x4 y0 (1 : Int32) (f1 x3) X1 ⟨hx, hZ, hw, hby, hml, hown, hret, hlk, hnm⟩ e1
    · rw [if_neg hc130]
      refine OwnOut.go (fun t k => XS.ifYes X1.here hx rfl (pc0 := 130) (pc' := 137) rfl (hb hby at_130) rfl (XT.i0_ne_t hc130) (by decide) (by decide) k) ?_
      show OwnOut p e s below 0 0 _ (T1.setTop (mkF m 137 #[.val (.int x0), .val (.int x1), .val (.int x2), .val (.int x3), .val (.int x4), .val (.int y0)] [(.int (f1 x3))]))
      exact w0_137 x0 x1 x2 x3 x4 y0 (f1 x3) X1 ⟨hx, hZ, hw, hby, hml, hown, hret, hlk, hnm⟩ e1
def f0_112 (x3 : Int32) (x4 : Int32) : Int32 := (f0_117 x3 x4 (1 : Int32))
set_option maxRecDepth 65536 in
set_option maxHeartbeats 40000000 in
theorem w0_112 {p : Program} {l : Launch} {e : Env} {s : State} {m : MethodId} {args : Array Value} {below : List Frame} {meth : Method} {c : Code} {T Z : State} {a0 : Array Value} {h0 : Heap} (x0 : Int32) (x1 : Int32) (x2 : Int32) (x3 : Int32) (x4 : Int32)
    (X0 : Stand p l e room_1 s m args below meth c T [] 0 0) (C : Cx0 Z a0 p s m meth c) (e0 : T.heap = h0) :
    OwnOut p e s below 0 0 (QP h0 (some (.int (f0_112 x3 x4)))) (T.setTop (mkF m 112 #[.val (.int x0), .val (.int x1), .val (.int x2), .val (.int x3), .val (.int x4), .unset] [])) := by
  obtain ⟨hx, hZ, hw, hby, hml, hown, hret, hlk, hnm⟩ := C
  rw [f0_112]
  refine OwnOut.go (fun t k => XT.iconstV X0.here hx rfl (1 : Int32) (hb hby at_112) rfl k) ?_
  show OwnOut p e s below 0 0 _ (T.setTop (mkF m 113 #[.val (.int x0), .val (.int x1), .val (.int x2), .val (.int x3), .val (.int x4), .unset] [(.int (1 : Int32))]))
  refine OwnOut.go (fun t k => XS.goto X0.here hx rfl (pc0 := 113) (pc' := 117) rfl (hb hby at_113) (by decide) (by decide) k) ?_
  show OwnOut p e s below 0 0 _ (T.setTop (mkF m 117 #[.val (.int x0), .val (.int x1), .val (.int x2), .val (.int x3), .val (.int x4), .unset] [(.int (1 : Int32))]))
  exact w0_117 x0 x1 x2 x3 x4 (1 : Int32) X0 ⟨hx, hZ, hw, hby, hml, hown, hret, hlk, hnm⟩ e0
def f0_81 (x3 : Int32) (y0 : Int32) : Int32 := (if x3 = (0 : Int32) then (f0_112 x3 y0) else (if x3 = (9 : Int32) then (f0_112 x3 y0) else (if x3 = (10 : Int32) then (f0_112 x3 y0) else (if x3 = (13 : Int32) then (f0_112 x3 y0) else (if x3 = (133 : Int32) then (f0_112 x3 y0) else (f0_117 x3 y0 (0 : Int32)))))))
set_option maxRecDepth 65536 in
set_option maxHeartbeats 40000000 in
theorem w0_81 {p : Program} {l : Launch} {e : Env} {s : State} {m : MethodId} {args : Array Value} {below : List Frame} {meth : Method} {c : Code} {T Z : State} {a0 : Array Value} {h0 : Heap} (x0 : Int32) (x1 : Int32) (x2 : Int32) (x3 : Int32) (y0 : Int32)
    (X0 : Stand p l e room_1 s m args below meth c T [] 0 0) (C : Cx0 Z a0 p s m meth c) (e0 : T.heap = h0) :
    OwnOut p e s below 0 0 (QP h0 (some (.int (f0_81 x3 y0)))) (T.setTop (mkF m 81 #[.val (.int x0), .val (.int x1), .val (.int x2), .val (.int x3), .unset, .unset] [(.int y0)])) := by
  obtain ⟨hx, hZ, hw, hby, hml, hown, hret, hlk, hnm⟩ := C
  rw [f0_81]
  refine OwnOut.go (fun t k => XS.istore X0.here hx rfl (hb hby at_81) rfl (l' := #[.val (.int x0), .val (.int x1), .val (.int x2), .val (.int x3), .val (.int y0), .unset]) rfl k) ?_
  show OwnOut p e s below 0 0 _ (T.setTop (mkF m 83 #[.val (.int x0), .val (.int x1), .val (.int x2), .val (.int x3), .val (.int y0), .unset] []))
  refine OwnOut.go (fun t k => XS.iloadN X0.here hx rfl (hb hby at_83) rfl k) ?_
  show OwnOut p e s below 0 0 _ (T.setTop (mkF m 84 #[.val (.int x0), .val (.int x1), .val (.int x2), .val (.int x3), .val (.int y0), .unset] [(.int x3)]))
  by_cases hc84 : x3 = (0 : Int32)
  · rw [if_pos hc84]
    refine OwnOut.go (fun t k => XS.ifYes X0.here hx rfl (pc0 := 84) (pc' := 112) rfl (hb hby at_84) rfl (XT.i0_eq_t hc84) (by decide) (by decide) k) ?_
    show OwnOut p e s below 0 0 _ (T.setTop (mkF m 112 #[.val (.int x0), .val (.int x1), .val (.int x2), .val (.int x3), .val (.int y0), .unset] []))
    exact w0_112 x0 x1 x2 x3 y0 X0 ⟨hx, hZ, hw, hby, hml, hown, hret, hlk, hnm⟩ e0
  · rw [if_neg hc84]
    refine OwnOut.go (fun t k => XS.ifNo X0.here hx rfl (hb hby at_84) rfl (XT.i0_eq_f hc84) k) ?_
    show OwnOut p e s below 0 0 _ (T.setTop (mkF m 87 #[.val (.int x0), .val (.int x1), .val (.int x2), .val (.int x3), .val (.int y0), .unset] []))
    refine OwnOut.go (fun t k => XS.iloadN X0.here hx rfl (hb hby at_87) rfl k) ?_
    show OwnOut p e s below 0 0 _ (T.setTop (mkF m 88 #[.val (.int x0), .val (.int x1), .val (.int x2), .val (.int x3), .val (.int y0), .unset] [(.int x3)]))
    refine OwnOut.go (fun t k => XT.bipushV X0.here hx rfl (9 : Int32) (hb hby at_88) rfl k) ?_
    show OwnOut p e s below 0 0 _ (T.setTop (mkF m 90 #[.val (.int x0), .val (.int x1), .val (.int x2), .val (.int x3), .val (.int y0), .unset] [(.int (9 : Int32)), (.int x3)]))
    by_cases hc90 : x3 = (9 : Int32)
    · rw [if_pos hc90]
      refine OwnOut.go (fun t k => XS.icmpYes X0.here hx rfl (pc0 := 90) (pc' := 112) rfl (hb hby at_90) rfl (XT.ii_eq_t hc90) (by decide) (by decide) k) ?_
      show OwnOut p e s below 0 0 _ (T.setTop (mkF m 112 #[.val (.int x0), .val (.int x1), .val (.int x2), .val (.int x3), .val (.int y0), .unset] []))
      exact w0_112 x0 x1 x2 x3 y0 X0 ⟨hx, hZ, hw, hby, hml, hown, hret, hlk, hnm⟩ e0
    · rw [if_neg hc90]
      refine OwnOut.go (fun t k => XS.icmpNo X0.here hx rfl (hb hby at_90) rfl (XT.ii_eq_f hc90) k) ?_
      show OwnOut p e s below 0 0 _ (T.setTop (mkF m 93 #[.val (.int x0), .val (.int x1), .val (.int x2), .val (.int x3), .val (.int y0), .unset] []))
      refine OwnOut.go (fun t k => XS.iloadN X0.here hx rfl (hb hby at_93) rfl k) ?_
      show OwnOut p e s below 0 0 _ (T.setTop (mkF m 94 #[.val (.int x0), .val (.int x1), .val (.int x2), .val (.int x3), .val (.int y0), .unset] [(.int x3)]))
      refine OwnOut.go (fun t k => XT.bipushV X0.here hx rfl (10 : Int32) (hb hby at_94) rfl k) ?_
      show OwnOut p e s below 0 0 _ (T.setTop (mkF m 96 #[.val (.int x0), .val (.int x1), .val (.int x2), .val (.int x3), .val (.int y0), .unset] [(.int (10 : Int32)), (.int x3)]))
      by_cases hc96 : x3 = (10 : Int32)
      · rw [if_pos hc96]
        refine OwnOut.go (fun t k => XS.icmpYes X0.here hx rfl (pc0 := 96) (pc' := 112) rfl (hb hby at_96) rfl (XT.ii_eq_t hc96) (by decide) (by decide) k) ?_
        show OwnOut p e s below 0 0 _ (T.setTop (mkF m 112 #[.val (.int x0), .val (.int x1), .val (.int x2), .val (.int x3), .val (.int y0), .unset] []))
        exact w0_112 x0 x1 x2 x3 y0 X0 ⟨hx, hZ, hw, hby, hml, hown, hret, hlk, hnm⟩ e0
      · rw [if_neg hc96]
        refine OwnOut.go (fun t k => XS.icmpNo X0.here hx rfl (hb hby at_96) rfl (XT.ii_eq_f hc96) k) ?_
        show OwnOut p e s below 0 0 _ (T.setTop (mkF m 99 #[.val (.int x0), .val (.int x1), .val (.int x2), .val (.int x3), .val (.int y0), .unset] []))
        refine OwnOut.go (fun t k => XS.iloadN X0.here hx rfl (hb hby at_99) rfl k) ?_
        show OwnOut p e s below 0 0 _ (T.setTop (mkF m 100 #[.val (.int x0), .val (.int x1), .val (.int x2), .val (.int x3), .val (.int y0), .unset] [(.int x3)]))
        refine OwnOut.go (fun t k => XT.bipushV X0.here hx rfl (13 : Int32) (hb hby at_100) rfl k) ?_
        show OwnOut p e s below 0 0 _ (T.setTop (mkF m 102 #[.val (.int x0), .val (.int x1), .val (.int x2), .val (.int x3), .val (.int y0), .unset] [(.int (13 : Int32)), (.int x3)]))
        by_cases hc102 : x3 = (13 : Int32)
        · rw [if_pos hc102]
          refine OwnOut.go (fun t k => XS.icmpYes X0.here hx rfl (pc0 := 102) (pc' := 112) rfl (hb hby at_102) rfl (XT.ii_eq_t hc102) (by decide) (by decide) k) ?_
          show OwnOut p e s below 0 0 _ (T.setTop (mkF m 112 #[.val (.int x0), .val (.int x1), .val (.int x2), .val (.int x3), .val (.int y0), .unset] []))
          exact w0_112 x0 x1 x2 x3 y0 X0 ⟨hx, hZ, hw, hby, hml, hown, hret, hlk, hnm⟩ e0
        · rw [if_neg hc102]
          refine OwnOut.go (fun t k => XS.icmpNo X0.here hx rfl (hb hby at_102) rfl (XT.ii_eq_f hc102) k) ?_
          show OwnOut p e s below 0 0 _ (T.setTop (mkF m 105 #[.val (.int x0), .val (.int x1), .val (.int x2), .val (.int x3), .val (.int y0), .unset] []))
          refine OwnOut.go (fun t k => XS.iloadN X0.here hx rfl (hb hby at_105) rfl k) ?_
          show OwnOut p e s below 0 0 _ (T.setTop (mkF m 106 #[.val (.int x0), .val (.int x1), .val (.int x2), .val (.int x3), .val (.int y0), .unset] [(.int x3)]))
          refine OwnOut.go (fun t k => XT.sipushV X0.here hx rfl (133 : Int32) (hb hby at_106) rfl k) ?_
          show OwnOut p e s below 0 0 _ (T.setTop (mkF m 109 #[.val (.int x0), .val (.int x1), .val (.int x2), .val (.int x3), .val (.int y0), .unset] [(.int (133 : Int32)), (.int x3)]))
          by_cases hc109 : x3 = (133 : Int32)
          · rw [if_pos hc109]
            refine OwnOut.go (fun t k => XS.icmpNo X0.here hx rfl (hb hby at_109) rfl (XT.ii_ne_f hc109) k) ?_
            show OwnOut p e s below 0 0 _ (T.setTop (mkF m 112 #[.val (.int x0), .val (.int x1), .val (.int x2), .val (.int x3), .val (.int y0), .unset] []))
            exact w0_112 x0 x1 x2 x3 y0 X0 ⟨hx, hZ, hw, hby, hml, hown, hret, hlk, hnm⟩ e0
          · rw [if_neg hc109]
            refine OwnOut.go (fun t k => XS.icmpYes X0.here hx rfl (pc0 := 109) (pc' := 116) rfl (hb hby at_109) rfl (XT.ii_ne_t hc109) (by decide) (by decide) k) ?_
            show OwnOut p e s below 0 0 _ (T.setTop (mkF m 116 #[.val (.int x0), .val (.int x1), .val (.int x2), .val (.int x3), .val (.int y0), .unset] []))
            refine OwnOut.go (fun t k => XT.iconstV X0.here hx rfl (0 : Int32) (hb hby at_116) rfl k) ?_
            show OwnOut p e s below 0 0 _ (T.setTop (mkF m 117 #[.val (.int x0), .val (.int x1), .val (.int x2), .val (.int x3), .val (.int y0), .unset] [(.int (0 : Int32))]))
            exact w0_117 x0 x1 x2 x3 y0 (0 : Int32) X0 ⟨hx, hZ, hw, hby, hml, hown, hret, hlk, hnm⟩ e0
def f0_80 (x3 : Int32) : Int32 := (f0_81 x3 (0 : Int32))
set_option maxRecDepth 65536 in
set_option maxHeartbeats 40000000 in
theorem w0_80 {p : Program} {l : Launch} {e : Env} {s : State} {m : MethodId} {args : Array Value} {below : List Frame} {meth : Method} {c : Code} {T Z : State} {a0 : Array Value} {h0 : Heap} (x0 : Int32) (x1 : Int32) (x2 : Int32) (x3 : Int32)
    (X0 : Stand p l e room_1 s m args below meth c T [] 0 0) (C : Cx0 Z a0 p s m meth c) (e0 : T.heap = h0) :
    OwnOut p e s below 0 0 (QP h0 (some (.int (f0_80 x3)))) (T.setTop (mkF m 80 #[.val (.int x0), .val (.int x1), .val (.int x2), .val (.int x3), .unset, .unset] [])) := by
  obtain ⟨hx, hZ, hw, hby, hml, hown, hret, hlk, hnm⟩ := C
  rw [f0_80]
  refine OwnOut.go (fun t k => XT.iconstV X0.here hx rfl (0 : Int32) (hb hby at_80) rfl k) ?_
  show OwnOut p e s below 0 0 _ (T.setTop (mkF m 81 #[.val (.int x0), .val (.int x1), .val (.int x2), .val (.int x3), .unset, .unset] [(.int (0 : Int32))]))
  exact w0_81 x0 x1 x2 x3 (0 : Int32) X0 ⟨hx, hZ, hw, hby, hml, hown, hret, hlk, hnm⟩ e0
def f0_76 (x3 : Int32) : Int32 := (f0_81 x3 (1 : Int32))
set_option maxRecDepth 65536 in
set_option maxHeartbeats 40000000 in
theorem w0_76 {p : Program} {l : Launch} {e : Env} {s : State} {m : MethodId} {args : Array Value} {below : List Frame} {meth : Method} {c : Code} {T Z : State} {a0 : Array Value} {h0 : Heap} (x0 : Int32) (x1 : Int32) (x2 : Int32) (x3 : Int32)
    (X0 : Stand p l e room_1 s m args below meth c T [] 0 0) (C : Cx0 Z a0 p s m meth c) (e0 : T.heap = h0) :
    OwnOut p e s below 0 0 (QP h0 (some (.int (f0_76 x3)))) (T.setTop (mkF m 76 #[.val (.int x0), .val (.int x1), .val (.int x2), .val (.int x3), .unset, .unset] [])) := by
  obtain ⟨hx, hZ, hw, hby, hml, hown, hret, hlk, hnm⟩ := C
  rw [f0_76]
  refine OwnOut.go (fun t k => XT.iconstV X0.here hx rfl (1 : Int32) (hb hby at_76) rfl k) ?_
  show OwnOut p e s below 0 0 _ (T.setTop (mkF m 77 #[.val (.int x0), .val (.int x1), .val (.int x2), .val (.int x3), .unset, .unset] [(.int (1 : Int32))]))
  refine OwnOut.go (fun t k => XS.goto X0.here hx rfl (pc0 := 77) (pc' := 81) rfl (hb hby at_77) (by decide) (by decide) k) ?_
  show OwnOut p e s below 0 0 _ (T.setTop (mkF m 81 #[.val (.int x0), .val (.int x1), .val (.int x2), .val (.int x3), .unset, .unset] [(.int (1 : Int32))]))
  exact w0_81 x0 x1 x2 x3 (1 : Int32) X0 ⟨hx, hZ, hw, hby, hml, hown, hret, hlk, hnm⟩ e0
def f0_63 (x3 : Int32) : Int32 := (if x3 < (127 : Int32) then (f0_80 x3) else (if x3 < (160 : Int32) then (f0_76 x3) else (f0_80 x3)))
set_option maxRecDepth 65536 in
set_option maxHeartbeats 40000000 in
theorem w0_63 {p : Program} {l : Launch} {e : Env} {s : State} {m : MethodId} {args : Array Value} {below : List Frame} {meth : Method} {c : Code} {T Z : State} {a0 : Array Value} {h0 : Heap} (x0 : Int32) (x1 : Int32) (x2 : Int32) (x3 : Int32)
    (X0 : Stand p l e room_1 s m args below meth c T [] 0 0) (C : Cx0 Z a0 p s m meth c) (e0 : T.heap = h0) :
    OwnOut p e s below 0 0 (QP h0 (some (.int (f0_63 x3)))) (T.setTop (mkF m 63 #[.val (.int x0), .val (.int x1), .val (.int x2), .val (.int x3), .unset, .unset] [])) := by
  obtain ⟨hx, hZ, hw, hby, hml, hown, hret, hlk, hnm⟩ := C
  rw [f0_63]
  refine OwnOut.go (fun t k => XS.iloadN X0.here hx rfl (hb hby at_63) rfl k) ?_
  show OwnOut p e s below 0 0 _ (T.setTop (mkF m 64 #[.val (.int x0), .val (.int x1), .val (.int x2), .val (.int x3), .unset, .unset] [(.int x3)]))
  refine OwnOut.go (fun t k => XT.bipushV X0.here hx rfl (127 : Int32) (hb hby at_64) rfl k) ?_
  show OwnOut p e s below 0 0 _ (T.setTop (mkF m 66 #[.val (.int x0), .val (.int x1), .val (.int x2), .val (.int x3), .unset, .unset] [(.int (127 : Int32)), (.int x3)]))
  by_cases hc66 : x3 < (127 : Int32)
  · rw [if_pos hc66]
    refine OwnOut.go (fun t k => XS.icmpYes X0.here hx rfl (pc0 := 66) (pc' := 80) rfl (hb hby at_66) rfl (XT.ii_lt_t hc66) (by decide) (by decide) k) ?_
    show OwnOut p e s below 0 0 _ (T.setTop (mkF m 80 #[.val (.int x0), .val (.int x1), .val (.int x2), .val (.int x3), .unset, .unset] []))
    exact w0_80 x0 x1 x2 x3 X0 ⟨hx, hZ, hw, hby, hml, hown, hret, hlk, hnm⟩ e0
  · rw [if_neg hc66]
    refine OwnOut.go (fun t k => XS.icmpNo X0.here hx rfl (hb hby at_66) rfl (XT.ii_lt_f hc66) k) ?_
    show OwnOut p e s below 0 0 _ (T.setTop (mkF m 69 #[.val (.int x0), .val (.int x1), .val (.int x2), .val (.int x3), .unset, .unset] []))
    refine OwnOut.go (fun t k => XS.iloadN X0.here hx rfl (hb hby at_69) rfl k) ?_
    show OwnOut p e s below 0 0 _ (T.setTop (mkF m 70 #[.val (.int x0), .val (.int x1), .val (.int x2), .val (.int x3), .unset, .unset] [(.int x3)]))
    refine OwnOut.go (fun t k => XT.sipushV X0.here hx rfl (160 : Int32) (hb hby at_70) rfl k) ?_
    show OwnOut p e s below 0 0 _ (T.setTop (mkF m 73 #[.val (.int x0), .val (.int x1), .val (.int x2), .val (.int x3), .unset, .unset] [(.int (160 : Int32)), (.int x3)]))
    by_cases hc73 : x3 < (160 : Int32)
    · rw [if_pos hc73]
      refine OwnOut.go (fun t k => XS.icmpNo X0.here hx rfl (hb hby at_73) rfl (XT.ii_ge_f hc73) k) ?_
      show OwnOut p e s below 0 0 _ (T.setTop (mkF m 76 #[.val (.int x0), .val (.int x1), .val (.int x2), .val (.int x3), .unset, .unset] []))
      exact w0_76 x0 x1 x2 x3 X0 ⟨hx, hZ, hw, hby, hml, hown, hret, hlk, hnm⟩ e0
    · rw [if_neg hc73]
      refine OwnOut.go (fun t k => XS.icmpYes X0.here hx rfl (pc0 := 73) (pc' := 80) rfl (hb hby at_73) rfl (XT.ii_ge_t hc73) (by decide) (by decide) k) ?_
      show OwnOut p e s below 0 0 _ (T.setTop (mkF m 80 #[.val (.int x0), .val (.int x1), .val (.int x2), .val (.int x3), .unset, .unset] []))
      exact w0_80 x0 x1 x2 x3 X0 ⟨hx, hZ, hw, hby, hml, hown, hret, hlk, hnm⟩ e0
def f0_53 (x3 : Int32) : Int32 := (if x3 < (0 : Int32) then (f0_63 x3) else (if x3 < (32 : Int32) then (f0_76 x3) else (f0_63 x3)))
set_option maxRecDepth 65536 in
set_option maxHeartbeats 40000000 in
theorem w0_53 {p : Program} {l : Launch} {e : Env} {s : State} {m : MethodId} {args : Array Value} {below : List Frame} {meth : Method} {c : Code} {T Z : State} {a0 : Array Value} {h0 : Heap} (x0 : Int32) (x1 : Int32) (x2 : Int32) (x3 : Int32)
    (X0 : Stand p l e room_1 s m args below meth c T [] 0 0) (C : Cx0 Z a0 p s m meth c) (e0 : T.heap = h0) :
    OwnOut p e s below 0 0 (QP h0 (some (.int (f0_53 x3)))) (T.setTop (mkF m 53 #[.val (.int x0), .val (.int x1), .val (.int x2), .val (.int x3), .unset, .unset] [])) := by
  obtain ⟨hx, hZ, hw, hby, hml, hown, hret, hlk, hnm⟩ := C
  rw [f0_53]
  refine OwnOut.go (fun t k => XS.iloadN X0.here hx rfl (hb hby at_53) rfl k) ?_
  show OwnOut p e s below 0 0 _ (T.setTop (mkF m 54 #[.val (.int x0), .val (.int x1), .val (.int x2), .val (.int x3), .unset, .unset] [(.int x3)]))
  by_cases hc54 : x3 < (0 : Int32)
  · rw [if_pos hc54]
    refine OwnOut.go (fun t k => XS.ifYes X0.here hx rfl (pc0 := 54) (pc' := 63) rfl (hb hby at_54) rfl (XT.i0_lt_t hc54) (by decide) (by decide) k) ?_
    show OwnOut p e s below 0 0 _ (T.setTop (mkF m 63 #[.val (.int x0), .val (.int x1), .val (.int x2), .val (.int x3), .unset, .unset] []))
    exact w0_63 x0 x1 x2 x3 X0 ⟨hx, hZ, hw, hby, hml, hown, hret, hlk, hnm⟩ e0
  · rw [if_neg hc54]
    refine OwnOut.go (fun t k => XS.ifNo X0.here hx rfl (hb hby at_54) rfl (XT.i0_lt_f hc54) k) ?_
    show OwnOut p e s below 0 0 _ (T.setTop (mkF m 57 #[.val (.int x0), .val (.int x1), .val (.int x2), .val (.int x3), .unset, .unset] []))
    refine OwnOut.go (fun t k => XS.iloadN X0.here hx rfl (hb hby at_57) rfl k) ?_
    show OwnOut p e s below 0 0 _ (T.setTop (mkF m 58 #[.val (.int x0), .val (.int x1), .val (.int x2), .val (.int x3), .unset, .unset] [(.int x3)]))
    refine OwnOut.go (fun t k => XT.bipushV X0.here hx rfl (32 : Int32) (hb hby at_58) rfl k) ?_
    show OwnOut p e s below 0 0 _ (T.setTop (mkF m 60 #[.val (.int x0), .val (.int x1), .val (.int x2), .val (.int x3), .unset, .unset] [(.int (32 : Int32)), (.int x3)]))
    by_cases hc60 : x3 < (32 : Int32)
    · rw [if_pos hc60]
      refine OwnOut.go (fun t k => XS.icmpYes X0.here hx rfl (pc0 := 60) (pc' := 76) rfl (hb hby at_60) rfl (XT.ii_lt_t hc60) (by decide) (by decide) k) ?_
      show OwnOut p e s below 0 0 _ (T.setTop (mkF m 76 #[.val (.int x0), .val (.int x1), .val (.int x2), .val (.int x3), .unset, .unset] []))
      exact w0_76 x0 x1 x2 x3 X0 ⟨hx, hZ, hw, hby, hml, hown, hret, hlk, hnm⟩ e0
    · rw [if_neg hc60]
      refine OwnOut.go (fun t k => XS.icmpNo X0.here hx rfl (hb hby at_60) rfl (XT.ii_lt_f hc60) k) ?_
      show OwnOut p e s below 0 0 _ (T.setTop (mkF m 63 #[.val (.int x0), .val (.int x1), .val (.int x2), .val (.int x3), .unset, .unset] []))
      exact w0_63 x0 x1 x2 x3 X0 ⟨hx, hZ, hw, hby, hml, hown, hret, hlk, hnm⟩ e0
def f0 (x0 : Int32) (x1 : Int32) : Int32 := (if (x1 &&& (3 : Int32)) = (0 : Int32) then (f0_53 x0) else (if (x1 &&& (3 : Int32)) = (1 : Int32) then (f0_53 (x0 &&& (255 : Int32))) else (if (x1 &&& (3 : Int32)) = (2 : Int32) then (f0_53 ((x0 &&& (255 : Int32)) - (128 : Int32))) else (f0_53 ((112 : Int32) + (x0 &&& (63 : Int32)))))))
set_option maxRecDepth 65536 in
set_option maxHeartbeats 40000000 in
theorem w0_0 {p : Program} {l : Launch} {e : Env} {s : State} {m : MethodId} {args : Array Value} {below : List Frame} {meth : Method} {c : Code} {T Z : State} {a0 : Array Value} {h0 : Heap} (x0 : Int32) (x1 : Int32)
    (X0 : Stand p l e room_1 s m args below meth c T [] 0 0) (C : Cx0 Z a0 p s m meth c) (e0 : T.heap = h0) :
    OwnOut p e s below 0 0 (QP h0 (some (.int (f0 x0 x1)))) (T.setTop (mkF m 0 #[.val (.int x0), .val (.int x1), .unset, .unset, .unset, .unset] [])) := by
  obtain ⟨hx, hZ, hw, hby, hml, hown, hret, hlk, hnm⟩ := C
  rw [f0]
  refine OwnOut.go (fun t k => XS.iloadN X0.here hx rfl (hb hby at_0) rfl k) ?_
  show OwnOut p e s below 0 0 _ (T.setTop (mkF m 1 #[.val (.int x0), .val (.int x1), .unset, .unset, .unset, .unset] [(.int x1)]))
  refine OwnOut.go (fun t k => XT.iconstV X0.here hx rfl (3 : Int32) (hb hby at_1) rfl k) ?_
  show OwnOut p e s below 0 0 _ (T.setTop (mkF m 2 #[.val (.int x0), .val (.int x1), .unset, .unset, .unset, .unset] [(.int (3 : Int32)), (.int x1)]))
  refine OwnOut.go (fun t k => XS.iand X0.here hx rfl (hb hby at_2) rfl k) ?_
  show OwnOut p e s below 0 0 _ (T.setTop (mkF m 3 #[.val (.int x0), .val (.int x1), .unset, .unset, .unset, .unset] [(.int (x1 &&& (3 : Int32)))]))
  refine OwnOut.go (fun t k => XS.istoreN X0.here hx rfl (hb hby at_3) rfl (l' := #[.val (.int x0), .val (.int x1), .val (.int (x1 &&& (3 : Int32))), .unset, .unset, .unset]) rfl k) ?_
  show OwnOut p e s below 0 0 _ (T.setTop (mkF m 4 #[.val (.int x0), .val (.int x1), .val (.int (x1 &&& (3 : Int32))), .unset, .unset, .unset] []))
  refine OwnOut.go (fun t k => XS.iloadN X0.here hx rfl (hb hby at_4) rfl k) ?_
  show OwnOut p e s below 0 0 _ (T.setTop (mkF m 5 #[.val (.int x0), .val (.int x1), .val (.int (x1 &&& (3 : Int32))), .unset, .unset, .unset] [(.int (x1 &&& (3 : Int32)))]))
  by_cases hc5 : (x1 &&& (3 : Int32)) = (0 : Int32)
  · rw [if_pos hc5]
    refine OwnOut.go (fun t k => XS.ifNo X0.here hx rfl (hb hby at_5) rfl (XT.i0_ne_f hc5) k) ?_
    show OwnOut p e s below 0 0 _ (T.setTop (mkF m 8 #[.val (.int x0), .val (.int x1), .val (.int (x1 &&& (3 : Int32))), .unset, .unset, .unset] []))
    refine OwnOut.go (fun t k => XS.iloadN X0.here hx rfl (hb hby at_8) rfl k) ?_
    show OwnOut p e s below 0 0 _ (T.setTop (mkF m 9 #[.val (.int x0), .val (.int x1), .val (.int (x1 &&& (3 : Int32))), .unset, .unset, .unset] [(.int x0)]))
    refine OwnOut.go (fun t k => XS.istoreN X0.here hx rfl (hb hby at_9) rfl (l' := #[.val (.int x0), .val (.int x1), .val (.int (x1 &&& (3 : Int32))), .val (.int x0), .unset, .unset]) rfl k) ?_
    show OwnOut p e s below 0 0 _ (T.setTop (mkF m 10 #[.val (.int x0), .val (.int x1), .val (.int (x1 &&& (3 : Int32))), .val (.int x0), .unset, .unset] []))
    refine OwnOut.go (fun t k => XS.goto X0.here hx rfl (pc0 := 10) (pc' := 53) rfl (hb hby at_10) (by decide) (by decide) k) ?_
    show OwnOut p e s below 0 0 _ (T.setTop (mkF m 53 #[.val (.int x0), .val (.int x1), .val (.int (x1 &&& (3 : Int32))), .val (.int x0), .unset, .unset] []))
    exact w0_53 x0 x1 (x1 &&& (3 : Int32)) x0 X0 ⟨hx, hZ, hw, hby, hml, hown, hret, hlk, hnm⟩ e0
  · rw [if_neg hc5]
    refine OwnOut.go (fun t k => XS.ifYes X0.here hx rfl (pc0 := 5) (pc' := 13) rfl (hb hby at_5) rfl (XT.i0_ne_t hc5) (by decide) (by decide) k) ?_
    show OwnOut p e s below 0 0 _ (T.setTop (mkF m 13 #[.val (.int x0), .val (.int x1), .val (.int (x1 &&& (3 : Int32))), .unset, .unset, .unset] []))
    refine OwnOut.go (fun t k => XS.iloadN X0.here hx rfl (hb hby at_13) rfl k) ?_
    show OwnOut p e s below 0 0 _ (T.setTop (mkF m 14 #[.val (.int x0), .val (.int x1), .val (.int (x1 &&& (3 : Int32))), .unset, .unset, .unset] [(.int (x1 &&& (3 : Int32)))]))
    refine OwnOut.go (fun t k => XT.iconstV X0.here hx rfl (1 : Int32) (hb hby at_14) rfl k) ?_
    show OwnOut p e s below 0 0 _ (T.setTop (mkF m 15 #[.val (.int x0), .val (.int x1), .val (.int (x1 &&& (3 : Int32))), .unset, .unset, .unset] [(.int (1 : Int32)), (.int (x1 &&& (3 : Int32)))]))
    by_cases hc15 : (x1 &&& (3 : Int32)) = (1 : Int32)
    · rw [if_pos hc15]
      refine OwnOut.go (fun t k => XS.icmpNo X0.here hx rfl (hb hby at_15) rfl (XT.ii_ne_f hc15) k) ?_
      show OwnOut p e s below 0 0 _ (T.setTop (mkF m 18 #[.val (.int x0), .val (.int x1), .val (.int (x1 &&& (3 : Int32))), .unset, .unset, .unset] []))
      refine OwnOut.go (fun t k => XS.iloadN X0.here hx rfl (hb hby at_18) rfl k) ?_
      show OwnOut p e s below 0 0 _ (T.setTop (mkF m 19 #[.val (.int x0), .val (.int x1), .val (.int (x1 &&& (3 : Int32))), .unset, .unset, .unset] [(.int x0)]))
      refine OwnOut.go (fun t k => XT.sipushV X0.here hx rfl (255 : Int32) (hb hby at_19) rfl k) ?_
      show OwnOut p e s below 0 0 _ (T.setTop (mkF m 22 #[.val (.int x0), .val (.int x1), .val (.int (x1 &&& (3 : Int32))), .unset, .unset, .unset] [(.int (255 : Int32)), (.int x0)]))
      refine OwnOut.go (fun t k => XS.iand X0.here hx rfl (hb hby at_22) rfl k) ?_
      show OwnOut p e s below 0 0 _ (T.setTop (mkF m 23 #[.val (.int x0), .val (.int x1), .val (.int (x1 &&& (3 : Int32))), .unset, .unset, .unset] [(.int (x0 &&& (255 : Int32)))]))
      refine OwnOut.go (fun t k => XS.istoreN X0.here hx rfl (hb hby at_23) rfl (l' := #[.val (.int x0), .val (.int x1), .val (.int (x1 &&& (3 : Int32))), .val (.int (x0 &&& (255 : Int32))), .unset, .unset]) rfl k) ?_
      show OwnOut p e s below 0 0 _ (T.setTop (mkF m 24 #[.val (.int x0), .val (.int x1), .val (.int (x1 &&& (3 : Int32))), .val (.int (x0 &&& (255 : Int32))), .unset, .unset] []))
      refine OwnOut.go (fun t k => XS.goto X0.here hx rfl (pc0 := 24) (pc' := 53) rfl (hb hby at_24) (by decide) (by decide) k) ?_
      show OwnOut p e s below 0 0 _ (T.setTop (mkF m 53 #[.val (.int x0), .val (.int x1), .val (.int (x1 &&& (3 : Int32))), .val (.int (x0 &&& (255 : Int32))), .unset, .unset] []))
      exact w0_53 x0 x1 (x1 &&& (3 : Int32)) (x0 &&& (255 : Int32)) X0 ⟨hx, hZ, hw, hby, hml, hown, hret, hlk, hnm⟩ e0
    · rw [if_neg hc15]
      refine OwnOut.go (fun t k => XS.icmpYes X0.here hx rfl (pc0 := 15) (pc' := 27) rfl (hb hby at_15) rfl (XT.ii_ne_t hc15) (by decide) (by decide) k) ?_
      show OwnOut p e s below 0 0 _ (T.setTop (mkF m 27 #[.val (.int x0), .val (.int x1), .val (.int (x1 &&& (3 : Int32))), .unset, .unset, .unset] []))
      refine OwnOut.go (fun t k => XS.iloadN X0.here hx rfl (hb hby at_27) rfl k) ?_
      show OwnOut p e s below 0 0 _ (T.setTop (mkF m 28 #[.val (.int x0), .val (.int x1), .val (.int (x1 &&& (3 : Int32))), .unset, .unset, .unset] [(.int (x1 &&& (3 : Int32)))]))
      refine OwnOut.go (fun t k => XT.iconstV X0.here hx rfl (2 : Int32) (hb hby at_28) rfl k) ?_
      show OwnOut p e s below 0 0 _ (T.setTop (mkF m 29 #[.val (.int x0), .val (.int x1), .val (.int (x1 &&& (3 : Int32))), .unset, .unset, .unset] [(.int (2 : Int32)), (.int (x1 &&& (3 : Int32)))]))
      by_cases hc29 : (x1 &&& (3 : Int32)) = (2 : Int32)
      · rw [if_pos hc29]
        refine OwnOut.go (fun t k => XS.icmpNo X0.here hx rfl (hb hby at_29) rfl (XT.ii_ne_f hc29) k) ?_
        show OwnOut p e s below 0 0 _ (T.setTop (mkF m 32 #[.val (.int x0), .val (.int x1), .val (.int (x1 &&& (3 : Int32))), .unset, .unset, .unset] []))
        refine OwnOut.go (fun t k => XS.iloadN X0.here hx rfl (hb hby at_32) rfl k) ?_
        show OwnOut p e s below 0 0 _ (T.setTop (mkF m 33 #[.val (.int x0), .val (.int x1), .val (.int (x1 &&& (3 : Int32))), .unset, .unset, .unset] [(.int x0)]))
        refine OwnOut.go (fun t k => XT.sipushV X0.here hx rfl (255 : Int32) (hb hby at_33) rfl k) ?_
        show OwnOut p e s below 0 0 _ (T.setTop (mkF m 36 #[.val (.int x0), .val (.int x1), .val (.int (x1 &&& (3 : Int32))), .unset, .unset, .unset] [(.int (255 : Int32)), (.int x0)]))
        refine OwnOut.go (fun t k => XS.iand X0.here hx rfl (hb hby at_36) rfl k) ?_
        show OwnOut p e s below 0 0 _ (T.setTop (mkF m 37 #[.val (.int x0), .val (.int x1), .val (.int (x1 &&& (3 : Int32))), .unset, .unset, .unset] [(.int (x0 &&& (255 : Int32)))]))
        refine OwnOut.go (fun t k => XT.sipushV X0.here hx rfl (128 : Int32) (hb hby at_37) rfl k) ?_
        show OwnOut p e s below 0 0 _ (T.setTop (mkF m 40 #[.val (.int x0), .val (.int x1), .val (.int (x1 &&& (3 : Int32))), .unset, .unset, .unset] [(.int (128 : Int32)), (.int (x0 &&& (255 : Int32)))]))
        refine OwnOut.go (fun t k => XS.isub X0.here hx rfl (hb hby at_40) rfl k) ?_
        show OwnOut p e s below 0 0 _ (T.setTop (mkF m 41 #[.val (.int x0), .val (.int x1), .val (.int (x1 &&& (3 : Int32))), .unset, .unset, .unset] [(.int ((x0 &&& (255 : Int32)) - (128 : Int32)))]))
        refine OwnOut.go (fun t k => XS.istoreN X0.here hx rfl (hb hby at_41) rfl (l' := #[.val (.int x0), .val (.int x1), .val (.int (x1 &&& (3 : Int32))), .val (.int ((x0 &&& (255 : Int32)) - (128 : Int32))), .unset, .unset]) rfl k) ?_
        show OwnOut p e s below 0 0 _ (T.setTop (mkF m 42 #[.val (.int x0), .val (.int x1), .val (.int (x1 &&& (3 : Int32))), .val (.int ((x0 &&& (255 : Int32)) - (128 : Int32))), .unset, .unset] []))
        refine OwnOut.go (fun t k => XS.goto X0.here hx rfl (pc0 := 42) (pc' := 53) rfl (hb hby at_42) (by decide) (by decide) k) ?_
        show OwnOut p e s below 0 0 _ (T.setTop (mkF m 53 #[.val (.int x0), .val (.int x1), .val (.int (x1 &&& (3 : Int32))), .val (.int ((x0 &&& (255 : Int32)) - (128 : Int32))), .unset, .unset] []))
        exact w0_53 x0 x1 (x1 &&& (3 : Int32)) ((x0 &&& (255 : Int32)) - (128 : Int32)) X0 ⟨hx, hZ, hw, hby, hml, hown, hret, hlk, hnm⟩ e0
      · rw [if_neg hc29]
        refine OwnOut.go (fun t k => XS.icmpYes X0.here hx rfl (pc0 := 29) (pc' := 45) rfl (hb hby at_29) rfl (XT.ii_ne_t hc29) (by decide) (by decide) k) ?_
        show OwnOut p e s below 0 0 _ (T.setTop (mkF m 45 #[.val (.int x0), .val (.int x1), .val (.int (x1 &&& (3 : Int32))), .unset, .unset, .unset] []))
        refine OwnOut.go (fun t k => XT.bipushV X0.here hx rfl (112 : Int32) (hb hby at_45) rfl k) ?_
        show OwnOut p e s below 0 0 _ (T.setTop (mkF m 47 #[.val (.int x0), .val (.int x1), .val (.int (x1 &&& (3 : Int32))), .unset, .unset, .unset] [(.int (112 : Int32))]))
        refine OwnOut.go (fun t k => XS.iloadN X0.here hx rfl (hb hby at_47) rfl k) ?_
        show OwnOut p e s below 0 0 _ (T.setTop (mkF m 48 #[.val (.int x0), .val (.int x1), .val (.int (x1 &&& (3 : Int32))), .unset, .unset, .unset] [(.int x0), (.int (112 : Int32))]))
        refine OwnOut.go (fun t k => XT.bipushV X0.here hx rfl (63 : Int32) (hb hby at_48) rfl k) ?_
        show OwnOut p e s below 0 0 _ (T.setTop (mkF m 50 #[.val (.int x0), .val (.int x1), .val (.int (x1 &&& (3 : Int32))), .unset, .unset, .unset] [(.int (63 : Int32)), (.int x0), (.int (112 : Int32))]))
        refine OwnOut.go (fun t k => XS.iand X0.here hx rfl (hb hby at_50) rfl k) ?_
        show OwnOut p e s below 0 0 _ (T.setTop (mkF m 51 #[.val (.int x0), .val (.int x1), .val (.int (x1 &&& (3 : Int32))), .unset, .unset, .unset] [(.int (x0 &&& (63 : Int32))), (.int (112 : Int32))]))
        refine OwnOut.go (fun t k => XS.iadd X0.here hx rfl (hb hby at_51) rfl k) ?_
        show OwnOut p e s below 0 0 _ (T.setTop (mkF m 52 #[.val (.int x0), .val (.int x1), .val (.int (x1 &&& (3 : Int32))), .unset, .unset, .unset] [(.int ((112 : Int32) + (x0 &&& (63 : Int32))))]))
        refine OwnOut.go (fun t k => XS.istoreN X0.here hx rfl (hb hby at_52) rfl (l' := #[.val (.int x0), .val (.int x1), .val (.int (x1 &&& (3 : Int32))), .val (.int ((112 : Int32) + (x0 &&& (63 : Int32)))), .unset, .unset]) rfl k) ?_
        show OwnOut p e s below 0 0 _ (T.setTop (mkF m 53 #[.val (.int x0), .val (.int x1), .val (.int (x1 &&& (3 : Int32))), .val (.int ((112 : Int32) + (x0 &&& (63 : Int32)))), .unset, .unset] []))
        exact w0_53 x0 x1 (x1 &&& (3 : Int32)) ((112 : Int32) + (x0 &&& (63 : Int32))) X0 ⟨hx, hZ, hw, hby, hml, hown, hret, hlk, hnm⟩ e0
set_option maxRecDepth 65536 in
set_option maxHeartbeats 40000000 in
theorem rm0 (l : Launch) (Z : State) (a0 : Array Value) (hw : ∀ d ∈ tables_1, d.before a0 Z = true) (ws : List Jvm.Cond) (x0 : Int32) (x1 : Int32) (h0 : Heap) :
    MetFree l x (head1 (Jvm.Cond.code x code maxLocals ret :: ws) room_1) (fun a U => a = #[(.int x0), (.int x1)] ∧ Z.Warmed39 U.vm ∧ U.heap = h0) (fun _ _ _ _ _ => True) (fun _ U o U' => ∃ v L, o = .returned v ∧ QP h0 (some (.int (f0 x0 x1))) v U'.heap L ∧ FrameEnd U o U' L 0 0) := by
  refine MetFree.of_bodySF (plainFor_of_name pn0) hisR ?_
  intro p e s m args below meth c s₁ Bd hml0 hP hK
  obtain ⟨rfl, hZ, hh⟩ := hP
  have X0 : Stand p l e room_1 s m #[(.int x0), (.int x1)] below meth c s₁ [] 0 0 := Stand.of_body Bd
  have e0 : s₁.heap = h0 := by rw [← hh, Bd.state]; rfl
  exact OwnOut.at (ef0 m x0 x1) (w0_0 x0 x1 X0 ⟨Bd.exec, hZ, hw, Bd.bytes, hml0, findClass_of_methodNamed Bd.named, Bd.returns, Bd.notSynchronized, (name_of_methodNamed Bd.named Bd.method).1⟩ e0)
theorem own_f1 (c : Int32) : f1 c = if (1 ≤ c.toInt ∧ c.toInt ≤ 8) ∨ (11 ≤ c.toInt ∧ c.toInt ≤ 12) ∨ (14 ≤ c.toInt ∧ c.toInt ≤ 31) ∨ (127 ≤ c.toInt ∧ c.toInt ≤ 132) ∨ (134 ≤ c.toInt ∧ c.toInt ≤ 159) then 1 else 0 := by
  simp only [f1, f1_11, f1_23, f1_35, f1_48, Int32.lt_iff_toInt_lt, Int32.reduceToInt]
  generalize c.toInt = n
  repeat' split
  all_goals first | rfl | (exfalso; omega)
theorem own_b (A : Prop) [Decidable A] : ((if A then (1 : Int32) else 0) = 0) = ¬ A := by
  by_cases h : A <;> simp [h]
theorem own_b1 (A : Prop) [Decidable A] : ((if A then (1 : Int32) else 0) = 1) = A := by
  by_cases h : A <;> simp [h]
theorem own_10 : ((1 : Int32) = 0) = False := by decide
theorem own_key (c : Int32) : f0_53 c = 1 := by
  simp only [f0_53, f0_63, f0_76, f0_80, f0_81, f0_112, f0_117, f0_137, f0_138, own_f1, own_b, own_b1, own_10, if_true, if_false]
  simp only [Int32.lt_iff_toInt_lt, ← Int32.toInt_inj (x := c), Int32.reduceToInt]
  generalize c.toInt = n
  have h : n < 0 ∨ n = 0 ∨ (1 ≤ n ∧ n ≤ 8) ∨ n = 9 ∨ n = 10 ∨ (11 ≤ n ∧ n ≤ 12) ∨ n = 13 ∨ (14 ≤ n ∧ n ≤ 31) ∨ (32 ≤ n ∧ n ≤ 126) ∨ (127 ≤ n ∧ n ≤ 132) ∨ n = 133 ∨ (134 ≤ n ∧ n ≤ 159) ∨ 160 ≤ n := by omega
  rcases h with h | h | h | h | h | h | h | h | h | h | h | h | h <;> simp (disch := omega) only [if_pos, if_neg]
theorem law_ok (a b : Int32) : f0 a b = 1 := by
  unfold f0
  repeat' split
  all_goals exact own_key _
set_option maxRecDepth 65536 in
set_option maxHeartbeats 40000000 in
theorem comes_1 {Post : Tables → Env → Array Value → State → Outcome → State → Prop} (hpost : ∀ tb e args s v u, (limb_1_1.after args s (.returned v) u = true ∧ limb_1_2.after args s (.returned v) u = true ∧ True) → FrameEnd s (.returned v) u (Jvm.fieldLocs frame_1_writes args s ++ Jvm.arrayLocs frame_1_arrays args s ++ Jvm.staticLocs frame_1_statics s) 0 0 → Post tb e args s (.returned v) u) :
    ArmFor flags0 classFile x code maxLocals ret World_1 tables_1 room_1 Calls_1 rest_1 Pre_1 Post := by
  intro l hfl _ _ p e ha hc hk s m args below hf hA hF happ hP
  obtain ⟨hcalls, hrest, hpre⟩ := hP
  obtain ⟨-, -, -, hnamed, -, -, -, hat⟩ := (Spec.applies_iff hf).mp happ
  obtain ⟨hg, hn⟩ := and_e (Cond.before_iff.mp (show (Jvm.Cond.and given_1 narrow_1).before args s = true from hpre))
  obtain ⟨g1, g2⟩ := and_e hg
  obtain ⟨g3, g4⟩ := and_e g2
  obtain ⟨w0, w1, rfl⟩ : ∃ w0 w1 : Value, args = #[w0, w1] := by
    have hs : args.size = 2 := by simpa [Cond.value, given_1] using g1
    obtain ⟨L⟩ := args
    match L, hs with
    | [w0, w1], _ => exact ⟨w0, w1, rfl⟩
  have hw := fun d (hd : d ∈ tables_1) => atoms_spec (ws := Jvm.Cond.code x code maxLocals ret :: tables_1) hat d (List.mem_cons_of_mem _ hd)
  obtain ⟨i0, ei0⟩ := is_v g3
  obtain rfl : w0 = (.int i0) := Option.some.inj ei0
  obtain ⟨i1, ei1⟩ := is_v g4
  obtain rfl : w1 = (.int i1) := Option.some.inj ei1
  obtain ⟨n, o, h1, h2, h3, _, L, rfl, ⟨rfl, hh, rfl⟩, hq⟩ := rm0 l s _ hw tables_1 i0 i1 s.heap p e ha hc hk s m _ below hf ((Spec.applies_iff_loose hf).mp happ).1 ⟨rfl, State.Warmed39.refl s, rfl⟩ trivial
  have hv := law_ok i0 i1
  refine ⟨n, _, h1, h2, h3, hpost _ _ _ _ _ _ ⟨Cond.after_iff.mpr rfl, Cond.after_iff.mpr (eq_i res_at (Term.int_eval (1)) (congrArg Value.int hv)), trivial⟩ ⟨hq.1, hq.2.1, (hq.2.2.sift fun y hy => nomatch hy).mono (by decide) (by decide)⟩⟩
theorem main_1_1 : Claimed_1_1 := comes_1 fun _ _ _ _ _ _ h hF => ⟨h.1, hF⟩
theorem main_1_2 : Claimed_1_2 := comes_1 fun _ _ _ _ _ _ h hF => ⟨h.2.1, hF⟩
end Jvm.Pilot.@@N@@
namespace Jvm.Pilot.@@N@@
open Jvm Jvm.ClassFile Sem Op Lib Jvm.Free Jvm.Stand Jvm.Pilot.@@N@@.Jvm.D
/-! MADE BY PROGRAM (witnessworld.py) out of the Statement's table words and the real class files: 9 classes; the members and pool entries that the words name. The judged class is class 1, her method 1. -/
namespace start1
open Jvm.ClassFile
def u (s : String) : CpInfo := .utf8 (stringToUtf16 s)
/-- a pool by its gaps: so many unusable entries, then the entry; so many at the end -/
def gap : Nat → List CpInfo → List CpInfo
  | 0, r => r
  | n + 1, r => .unusable :: gap n r
def poolList (es : List (Nat × CpInfo)) (last : Nat) : List CpInfo := es.foldr (fun e r => gap e.1 (e.2 :: r)) (gap last [])
def pool (es : List (Nat × CpInfo)) (last : Nat) : Array CpInfo := ⟨poolList es last⟩
def fileOf (pool : Array CpInfo) (this : Nat) (attrs : Array Attribute := #[]) (ms : Array MethodInfo := #[]) (fl : Nat := 33) (sup : Nat := 0) (ifs : Array Nat := #[]) (fds : Array FieldInfo := #[]) : ClassFile where
  minorVersion := 0
  majorVersion := 65
  constantPool := pool
  accessFlags := fl
  thisClass := this
  superClass := sup
  interfaces := ifs
  fields := fds
  methods := ms
  attributes := attrs
def plain (name : String) (sup : Option ClassId) : Class where
  name := name
  kind := .ordinary
  loader := none
  accessFlags := 33
  super := sup
  interfaces := #[]
  cf := none
  fields := #[]
  methods := #[]
  instanceTypes := #[]
  staticTypes := #[]
  resolved := #[]
  callSites := []
  init := .initialized
  statics := none
  mirror := none

def pool0 : Array CpInfo := pool [(5, u "<init>"), (0, u "()V"), (1, .class_ 10), (1, u "java/lang/Object")] 113

def k0m0 : Method := { name := "<init>", desc := "()V", sig := { parameters := [], returnType := none }, accessFlags := 1, code := none }
/-- java/lang/Object -/
def k0 : Class := { plain "java/lang/Object" none with
  accessFlags := 33
  interfaces := #[]
  cf := some (fileOf pool0 8 #[] #[{ accessFlags := 1, nameIndex := 5, descriptorIndex := 6, attributes := #[] }] 33 0 #[] #[])
  fields := #[]
  methods := #[k0m0]
  instanceTypes := #[]
  staticTypes := #[]
  resolved := Array.replicate 124 none
  statics := none }

def pool1 : Array CpInfo := pool [(2, .class_ 4), (1, u "java/lang/Object"), (0, u "<init>"), (0, u "()V"), (0, .methodref 8 9), (0, .class_ 10), (0, .nameAndType 11 12), (0, u "com/example/libnodeset/libnodeset/tree/XmlCharacters"), (0, u "isXml11Restricted"), (0, u "(I)Z"), (0, .class_ 14), (0, u "com/example/libnodeset/libnodeset/tree/XmlCharactersIsXml11RestrictedPinLaw"), (2, u "law"), (0, u "(II)Z")] 3

def k1m0 : Method := { name := "<init>", desc := "()V", sig := { parameters := [], returnType := none }, accessFlags := 2, code := none }
def k1c1 : Code := { maxStack := 3, maxLocals := 6, code := code, exceptionTable := #[], attributes := #[] }
def k1m1 : Method := { name := "law", desc := "(II)Z", sig := { parameters := [.int, .int], returnType := some .boolean }, accessFlags := 9, code := some k1c1 }
/-- com/example/libnodeset/libnodeset/tree/XmlCharactersIsXml11RestrictedPinLaw -/
def k1 : Class := { plain "com/example/libnodeset/libnodeset/tree/XmlCharactersIsXml11RestrictedPinLaw" (some 0) with
  accessFlags := 49
  interfaces := #[]
  cf := some (fileOf pool1 13 #[] #[{ accessFlags := 2, nameIndex := 5, descriptorIndex := 6, attributes := #[] }, { accessFlags := 9, nameIndex := 17, descriptorIndex := 18, attributes := #[] }] 49 2 #[] #[])
  fields := #[]
  methods := #[k1m0, k1m1]
  instanceTypes := #[]
  staticTypes := #[]
  resolved := Array.replicate 22 none
  statics := none }

def pool2 : Array CpInfo := pool [(2, .class_ 4), (1, u "java/lang/Object"), (0, u "<init>"), (0, u "()V"), (25, .class_ 34), (1, u "com/example/libnodeset/libnodeset/tree/XmlCharacters"), (1, u "(I)Z"), (13, u "isXml11Restricted")] 4

def k2m0 : Method := { name := "<init>", desc := "()V", sig := { parameters := [], returnType := none }, accessFlags := 2, code := none }
def k2c1 : Code := { maxStack := 2, maxLocals := 1, code := prog_200_method_5_code, exceptionTable := #[], attributes := #[] }
def k2m1 : Method := { name := "isXml11Restricted", desc := "(I)Z", sig := { parameters := [.int], returnType := some .boolean }, accessFlags := 9, code := some k2c1 }
/-- com/example/libnodeset/libnodeset/tree/XmlCharacters -/
def k2 : Class := { plain "com/example/libnodeset/libnodeset/tree/XmlCharacters" (some 0) with
  accessFlags := 33
  interfaces := #[]
  cf := some (fileOf pool2 32 #[] #[{ accessFlags := 2, nameIndex := 5, descriptorIndex := 6, attributes := #[] }, { accessFlags := 9, nameIndex := 50, descriptorIndex := 36, attributes := #[] }] 33 2 #[] #[])
  fields := #[]
  methods := #[k2m0, k2m1]
  instanceTypes := #[]
  staticTypes := #[]
  resolved := Array.replicate 55 none
  statics := none }

def pool3 : Array CpInfo := pool [(1, u "java/lang/Cloneable"), (0, .class_ 1), (0, u "java/lang/Object"), (0, .class_ 3)] 3

/-- java/lang/Cloneable -/
def k3 : Class := { plain "java/lang/Cloneable" (some 0) with
  accessFlags := 1537
  interfaces := #[]
  cf := some (fileOf pool3 2 #[] #[] 1537 4 #[] #[])
  fields := #[]
  methods := #[]
  instanceTypes := #[]
  staticTypes := #[]
  resolved := Array.replicate 8 none
  statics := none }

def pool4 : Array CpInfo := pool [(1, u "java/io/Serializable"), (0, .class_ 1), (0, u "java/lang/Object"), (0, .class_ 3)] 3

/-- java/io/Serializable -/
def k4 : Class := { plain "java/io/Serializable" (some 0) with
  accessFlags := 1537
  interfaces := #[]
  cf := some (fileOf pool4 2 #[] #[] 1537 4 #[] #[])
  fields := #[]
  methods := #[]
  instanceTypes := #[]
  staticTypes := #[]
  resolved := Array.replicate 8 none
  statics := none }

/-- the primitive byte -/
def k5 : Class := { plain "byte" none with kind := .primitive 'B', accessFlags := 0x411 }
/-- [B -/
def k6 : Class := { plain "[B" (some 0) with kind := .array 5 .byte, interfaces := #[3, 4], accessFlags := 1041 }

/-- the primitive int -/
def k7 : Class := { plain "int" none with kind := .primitive 'I', accessFlags := 0x411 }
/-- [I -/
def k8 : Class := { plain "[I" (some 0) with kind := .array 7 .int, interfaces := #[3, 4], accessFlags := 1041 }

def heap : Heap := #[]
def classes : Array Class := #[k0, k1, k2, k3, k4, k5, k6, k7, k8]
def interned : List (Array UInt16 × Addr) := []
def slotsUsed : Nat := 0
def theMethod : MethodId := ⟨1, 1⟩
def args0 : Array Value := #[.int 5, .int 7]
def aboutOver (below : List Frame) : State where
  vm := { classes := classes, interned := interned.toArray }
  heap := heap
  slotsUsed := slotsUsed
  threads := #[{ frames := .invoking theMethod args0 :: below }]
def below0 : List Frame := [.native { method := ⟨0, 0⟩, args := #[] }]
def about1 : State := aboutOver below0
def p0 : Program := .bare "" "" ""
def e0 : Env := launch0.env 0 0 0
theorem w_frames : about1.frames = Frame.invoking theMethod args0 :: below0 := rfl
set_option maxRecDepth 65536 in
theorem w_args : argsFit about1.vm theMethod args0 = true := by decide +kernel
set_option maxRecDepth 65536 in
theorem w_heap : heapFits about1 = true := by decide +kernel
set_option maxRecDepth 65536 in
theorem w_runnable : about1.curStatus? = some .runnable := by decide +kernel
set_option maxRecDepth 65536 in
theorem w_alone : about1.alone = true := by decide +kernel
set_option maxRecDepth 65536 in
theorem w_named : about1.methodNamed? x = some theMethod := by decide +kernel
set_option maxRecDepth 65536 in
theorem w_hears : about1.hears theMethod below0 = true := by decide +kernel
set_option maxRecDepth 65536 in
theorem w_ripe : about1.ripe theMethod args0 below0 = true := by decide +kernel
theorem w_running : about1.status = .running := rfl
set_option maxRecDepth 65536 in
theorem w_room : about1.hasRoom e0.platform room_1 = true :=
  launch0.hasRoom_least _ room_1 (by decide +kernel) (by decide +kernel) (by decide +kernel) (by decide +kernel) (by decide +kernel) (by decide +kernel)
theorem allAtoms_all (ts : List Jvm.Cond) (a : Array Jvm.Value) (st : Jvm.State) : (allAtoms ts).before a st = ts.all (fun c => c.before a st) := by
  induction ts with
  | nil => rfl
  | cons c t ih =>
    show (Jvm.Cond.and c (allAtoms t)).before a st = _
    rw [Jvm.Cond.before_and, ih, List.all_cons]
def words1 : List Jvm.Cond := Jvm.Cond.code x code maxLocals ret :: tables_1
/-- a 'code' word, met by the world's own term for the bytes: nothing is compared byte by byte -/
theorem code_word {y : MethodName} {bytes : ByteArray} {mx : Nat} {rt : Option FieldType} {a : Array Value} {s : State} {m : MethodId} {meth : Method} {c : Code} (h1 : s.methodNamed? y = some m) (h2 : s.vm.method? m = some meth) (h3 : meth.code = some c) (h4 : c.code = bytes)
    (h5 : (c.maxLocals == mx && c.exceptionTable.isEmpty && decide (c.maxStack ≤ mostOperands) && decide (meth.sig.returnType = rt) && !meth.locks && decide (parseMethodDescriptor y.desc = some meth.sig)) = true) : (Jvm.Cond.code y bytes mx rt).before a s = true := by
  simp only [Bool.and_eq_true, beq_iff_eq, Bool.not_eq_true', decide_eq_true_eq] at h5
  obtain ⟨⟨⟨⟨⟨g1, g2⟩, g3⟩, g4⟩, g5⟩, g6⟩ := h5
  simp [Cond.before, Cond.holds, Cond.value, h1, h2, h3, h4, g1, g2, g3, g4, g5, g6]
def isCode : Jvm.Cond → Bool
  | .code _ _ _ _ => true
  | _ => false
theorem all_split {L : List Jvm.Cond} {P : Jvm.Cond → Bool} (h1 : L.all (fun c => isCode c || P c) = true) (h2 : ∀ c ∈ L.filter isCode, P c = true) : L.all P = true := by
  refine List.all_eq_true.mpr fun c hc => ?_
  have h := List.all_eq_true.mp h1 c hc
  rcases Bool.eq_false_or_eq_true (isCode c) with hi | hi
  · exact h2 c (List.mem_filter.mpr ⟨hc, hi⟩)
  · simpa [hi] using h
set_option maxRecDepth 65536 in
theorem w_c0 : (Jvm.Cond.code x code maxLocals ret).before args0 about1 = true := code_word (m := ⟨1, 1⟩) (meth := k1m1) (c := k1c1) (by decide +kernel) rfl rfl rfl (by decide +kernel)
set_option maxRecDepth 65536 in
theorem w_c1 : (Jvm.Cond.code ({ cls := "com/example/libnodeset/libnodeset/tree/XmlCharacters", name := "isXml11Restricted", desc := "(I)Z" } : Jvm.MethodName) prog_200_method_5_code (1 : Nat) (Option.some Jvm.ClassFile.FieldType.boolean)).before args0 about1 = true := code_word (m := ⟨2, 1⟩) (meth := k2m1) (c := k2c1) (by decide +kernel) rfl rfl rfl (by decide +kernel)
def codes1 : List Jvm.Cond := [Jvm.Cond.code x code maxLocals ret, Jvm.Cond.code ({ cls := "com/example/libnodeset/libnodeset/tree/XmlCharacters", name := "isXml11Restricted", desc := "(I)Z" } : Jvm.MethodName) prog_200_method_5_code (1 : Nat) (Option.some Jvm.ClassFile.FieldType.boolean)]
set_option maxRecDepth 65536 in
theorem codes_eq : words1.filter isCode = codes1 := rfl
theorem w_codes : ∀ c ∈ words1.filter isCode, c.before args0 about1 = true := by
  rw [codes_eq]
  intro c hc
  simp only [codes1, List.mem_cons, List.not_mem_nil, or_false] at hc
  rcases hc with rfl | rfl
  · exact w_c0
  · exact w_c1
set_option maxRecDepth 65536 in
theorem w_t1 : words1.all (fun c => isCode c || c.before args0 about1) = true := by decide +kernel
theorem w_tables : (allAtoms (Jvm.Cond.code x code maxLocals ret :: tables_1)).before args0 about1 = true := by
  rw [allAtoms_all]
  show words1.all (fun c => c.before args0 about1) = true
  refine all_split ?_ w_codes
  rw [w_t1]
set_option maxRecDepth 65536 in
theorem w_case : (Jvm.Cond.and given_1 narrow_1).before args0 about1 = true := by decide +kernel
theorem w_applies : (headSpec (Jvm.Cond.code x code maxLocals ret :: tables_1) room_1).applies x e0.platform about1 = true :=
  (Spec.applies_iff w_frames).mpr ⟨w_running, w_runnable, w_alone, w_named, w_hears, w_ripe, w_room, w_tables⟩
theorem atStart : AtStart classFile x code maxLocals ret World_1 tables_1 room_1 Calls_1 rest_1 Pre_1 launch0 p0 e0 about1 theMethod args0 below0 :=
  ⟨lists_1, trivial, launch0.admits_env _ _ _, launch0.least_env, fairChoices_fair.cas, fairChoices_fair.clock, w_frames, w_args, w_heap, w_applies, trivial, trivial, w_case⟩
end start1
theorem witness_1 : WitnessClaimed_1 := ⟨start1.p0, start1.e0, start1.about1, start1.theMethod, start1.args0, start1.below0, start1.atStart⟩
end Jvm.Pilot.@@N@@
