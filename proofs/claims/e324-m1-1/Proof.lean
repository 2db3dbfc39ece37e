import JvmDerived
import JvmDerived.Pilot.@@N@@Statement
import JvmDerived.Pilot.@@N@@Code
set_option linter.unusedVariables false
set_option linter.unusedSimpArgs false
namespace Jvm.RoadKit
open Sem ClassFile Op Lib Jvm.Stand Jvm.Free Jvm.LawKit
section New
variable {p : Program} {l : Launch} {e : Env} {R : Room} {s : State} {m : MethodId} {args : Array Value} {below : List Frame} {meth : Method} {c : Code} {T : State} {locs : List Loc} {cells slots : Nat}
theorem retI (X : Stand p l e R s m args below meth c T locs cells slots) (hx : p.tables.exec = Jvm.exec) {pc : Nat} {Ls : Array Slot} {z : Int32} {rest : List Value} (hret : meth.sig.returnType = some .int) (hd : decode c.code pc = .ok (.ireturn, 1)) {fs : List Frame}
    (hl : ∀ (f : JFrame) (acts : List Action), f.method = m → f.locked = none → f.entered = [] → (doReturn e (T.setTop f) acts (some (.int z))).1 = T.setFrames fs) : Steps p.tables e below (T.setTop (mkF m pc Ls (.int z :: rest))) (T.setFrames fs) := by
  have hm' : T.vm.method? m = some meth := X.method'
  have hn : narrow .int (.int z) = .int z := rfl
  show Steps p.tables e below (T.setTop { method := m, pc := pc, locals := Ls, stack := _ :: rest, locked := none }) _
  jvm_step X.here [X.here.top, hx, hd, hm', hret, hn]
  first | (intro acts; rw [hl _ acts rfl rfl rfl]) | rw [hl _ _ rfl rfl rfl]
  exact Steps.refl _
end New
end Jvm.RoadKit
namespace Jvm.Pilot.@@N@@
open Jvm Jvm.ClassFile Sem Op Lib Jvm.Free Jvm.Stand Jvm.LawKit Jvm.RoadKit Bundle Jvm.Pilot.@@N@@.Jvm.D
section Own
variable {p : Program} {l : Launch} {e : Env} {R : Room} {s : State} {m : MethodId} {args : Array Value} {below : List Frame} {meth : Method} {c : Code} {T : State} {locs : List Loc} {cells slots : Nat}
/-- from the state A the run comes to an end of the invocation of which Q holds -/
def OGo (p : Program) (e : Env) (below : List Frame) (Q : Outcome → State → Prop) (A : State) : Prop :=
  ∃ s₂ o, Steps p.tables e below A s₂ ∧ s₂.status = .running ∧ Ended s₂ below o ∧ Q o s₂
theorem OGo.st {Q : Outcome → State → Prop} {A B : State} (h : ∀ t, Steps p.tables e below B t → Steps p.tables e below A t) (g : OGo p e below Q B) : OGo p e below Q A := by
  obtain ⟨s₂, o, k, r⟩ := g
  exact ⟨s₂, o, h _ k, r⟩
/-- what a contract says of the end -/
def Out (s : State) (cells slots : Nat) (Q : Option Value → Heap → List Loc → Prop) (o : Outcome) (U : State) : Prop :=
  ∃ v L, o = .returned v ∧ Q v U.heap L ∧ FrameEnd s o U L cells slots
/-- it returns the int z (the long z), and the heap is as it was -/
def PI (n0 : Nat) (h0 : Heap) (z : Int32) (v : Option Value) (h : Heap) (L : List Loc) : Prop := v = some (.int z) ∧ Fr n0 L ∧ h = h0
def PJ (n0 : Nat) (h0 : Heap) (z : Int64) (v : Option Value) (h : Heap) (L : List Loc) : Prop := v = some (.long z) ∧ Fr n0 L ∧ h = h0
def PF (n0 : Nat) (z : Int32) (v : Option Value) (h : Heap) (L : List Loc) : Prop := v = some (.int z) ∧ Fr n0 L
theorem OGo.eqvF {C S n0 : Nat} {z z' : Int32} {A : State} (q : z = z') (g : OGo p e below (Out s C S (PF n0 z')) A) : OGo p e below (Out s C S (PF n0 z)) A := q ▸ g
theorem OGo.eqvI {C S n0 : Nat} {h0 : Heap} {z z' : Int32} {A : State} (q : z = z') (g : OGo p e below (Out s C S (PI n0 h0 z')) A) : OGo p e below (Out s C S (PI n0 h0 z)) A := q ▸ g
theorem OGo.eqvJ {C S n0 : Nat} {h0 : Heap} {z z' : Int64} {A : State} (q : z = z') (g : OGo p e below (Out s C S (PJ n0 h0 z')) A) : OGo p e below (Out s C S (PJ n0 h0 z)) A := q ▸ g
theorem OGo.outI (X : Stand p l e R s m args below meth c T locs cells slots) (hx : p.tables.exec = Jvm.exec) (hret : meth.sig.returnType = some .int) (hlk : meth.locks = false) {pc : Nat} {Ls : Array Slot} {z : Int32} {rest : List Value} (hd : decode c.code pc = .ok (.ireturn, 1))
    {Q : Option Value → Heap → List Loc → Prop} {C S : Nat} (hq : Q (some (.int z)) T.heap locs) (hC : cells ≤ C) (hS : slots ≤ S) : OGo p e below (Out s C S Q) (T.setTop (mkF m pc Ls (.int z :: rest))) := by
  obtain ⟨fs, hr, hrun, hended, hW, hsame⟩ := X.leave (v := some (.int z)) (fun h => by rw [hret] at h; cases h) hlk
  exact ⟨_, _, retI X hx hret hd hr, hrun, hended, _, _, rfl, hq, ⟨_, rfl⟩, hW, hsame.mono hC hS⟩
theorem OGo.outN (X : Stand p l e R s m args below meth c T locs cells slots) (hx : p.tables.exec = Jvm.exec) {t : FieldType} (hret : meth.sig.returnType = some t) (ht : t = .boolean ∨ t = .byte ∨ t = .char ∨ t = .short) (hlk : meth.locks = false) {pc : Nat} {Ls : Array Slot} {z : Int32} {rest : List Value} (hd : decode c.code pc = .ok (.ireturn, 1))
    {Q : Option Value → Heap → List Loc → Prop} {C S : Nat} (hq : Q (some (.int (nar t z))) T.heap locs) (hC : cells ≤ C) (hS : slots ≤ S) : OGo p e below (Out s C S Q) (T.setTop (mkF m pc Ls (.int z :: rest))) := by
  obtain ⟨fs, hr, hrun, hended, hW, hsame⟩ := X.leave (v := some (.int (nar t z))) (fun h => by rw [hret] at h; cases h) hlk
  exact ⟨_, _, retN X hx hret ht hd hr, hrun, hended, _, _, rfl, hq, ⟨_, rfl⟩, hW, hsame.mono hC hS⟩
theorem OGo.outJ (X : Stand p l e R s m args below meth c T locs cells slots) (hx : p.tables.exec = Jvm.exec) (hret : meth.sig.returnType = some .long) (hlk : meth.locks = false) {pc : Nat} {Ls : Array Slot} {z : Int64} (hd : decode c.code pc = .ok (.lreturn, 1))
    {Q : Option Value → Heap → List Loc → Prop} {C S : Nat} (hq : Q (some (.long z)) T.heap locs) (hC : cells ≤ C) (hS : slots ≤ S) : OGo p e below (Out s C S Q) (T.setTop (mkF m pc Ls [.long z])) := by
  obtain ⟨fs, hr, hrun, hended, hW, hsame⟩ := X.leave (v := some (.long z)) (fun h => by rw [hret] at h; cases h) hlk
  exact ⟨_, _, X.lreturnOut hx hret hd hr, hrun, hended, _, _, rfl, hq, ⟨_, rfl⟩, hW, hsame.mono hC hS⟩
theorem OGo.outV (X : Stand p l e R s m args below meth c T locs cells slots) (hx : p.tables.exec = Jvm.exec) (hret : meth.sig.returnType = none) (hlk : meth.locks = false) {pc : Nat} {Ls : Array Slot} (hd : decode c.code pc = .ok (.return_, 1))
    {Q : Option Value → Heap → List Loc → Prop} {C S : Nat} (hq : Q none T.heap locs) (hC : cells ≤ C) (hS : slots ≤ S) : OGo p e below (Out s C S Q) (T.setTop (mkF m pc Ls [])) := by
  obtain ⟨fs, hr, hrun, hended, hW, hsame⟩ := X.leave (v := none) (fun _ => rfl) hlk
  exact ⟨_, _, X.returnOut hx hret hd hr, hrun, hended, _, _, rfl, hq, ⟨_, rfl⟩, hW, hsame.mono hC hS⟩
end Own
theorem d1_0 : decode method_2_code 0 = .ok (.iload_n 0, 1) := by decide +kernel
theorem d1_1 : decode method_2_code 1 = .ok (.iconst 5, 1) := by decide +kernel
theorem d1_2 : decode method_2_code 2 = .ok (.if_icmp .ge 5, 3) := by decide +kernel
theorem d1_5 : decode method_2_code 5 = .ok (.iconst 0, 1) := by decide +kernel
theorem d1_6 : decode method_2_code 6 = .ok (.ireturn, 1) := by decide +kernel
theorem d1_7 : decode method_2_code 7 = .ok (.iload_n 0, 1) := by decide +kernel
theorem d1_8 : decode method_2_code 8 = .ok (.bipush 10, 2) := by decide +kernel
theorem d1_10 : decode method_2_code 10 = .ok (.if_icmp .ge 5, 3) := by decide +kernel
theorem d1_13 : decode method_2_code 13 = .ok (.iconst 1, 1) := by decide +kernel
theorem d1_14 : decode method_2_code 14 = .ok (.ireturn, 1) := by decide +kernel
theorem d1_15 : decode method_2_code 15 = .ok (.iconst 2, 1) := by decide +kernel
theorem d1_16 : decode method_2_code 16 = .ok (.ireturn, 1) := by decide +kernel
theorem pn1 : plainName "com/example/tilewright/tilewright/kernel/BlocksWindowsTakeRegistersPinLaw" = true := by first | (simp [plainName, overriddenIn]; done) | decide +kernel
theorem ef1 (m : MethodId) (q1 : Int32) : entryFrame m #[(.int q1)] 1 = mkF m 0 #[.val (.int q1)] [] := by first | (simp [entryFrame, mkF, argsToLocals, Value.category]; done) | rfl
def g1_10_1 (q1 : Int32) : Int32 := if q1 < (10 : Int32) then (1 : Int32) else (2 : Int32)
def g1_2_2 (q1 : Int32) : Int32 := if q1 < (5 : Int32) then (0 : Int32) else (g1_10_1 q1)
def f1 (q1 : Int32) : Int32 := (g1_2_2 q1)
set_option maxRecDepth 65536 in
set_option maxHeartbeats 40000000 in
theorem rm1 (l : Launch) (Z : State) (a0 : Array Value) (hw : ∀ d ∈ tables_1, d.before a0 Z = true) (ws : List Jvm.Cond) (q1 : Int32) (h0 : Heap) (n0 : Nat) (Z0 : n0 ≤ h0.size) :
    MetFree l (⟨"com/example/tilewright/tilewright/kernel/BlocksWindowsTakeRegistersPinLaw", "rowBand", "(I)I"⟩ : MethodName) (head1 (Jvm.Cond.code (⟨"com/example/tilewright/tilewright/kernel/BlocksWindowsTakeRegistersPinLaw", "rowBand", "(I)I"⟩ : MethodName) method_2_code 1 (some .int) :: ws) ({ frames := 0, cells := 0, slots := 0, locals := 0 } : Room)) (fun a U => a = #[(.int q1)] ∧ Z.Warmed39 U.vm ∧ U.heap = h0) (fun _ _ _ _ _ => True) (fun _ U o U' => ∃ v L, o = .returned v ∧ PI n0 h0 (f1 q1) v U'.heap L ∧ FrameEnd U o U' L ({ frames := 0, cells := 0, slots := 0, locals := 0 } : Room).cells ({ frames := 0, cells := 0, slots := 0, locals := 0 } : Room).slots) := by
  refine MetFree.of_bodySF (plainFor_of_name pn1) hisR ?_
  intro p e s m args below meth c s₁ Bd hml0 hP hK
  obtain ⟨rfl, hZ, hh⟩ := hP
  have hx := Bd.exec
  have hby := Bd.bytes
  have hml : c.maxLocals = 1 := hml0
  have hown : s.vm.findClass "com/example/tilewright/tilewright/kernel/BlocksWindowsTakeRegistersPinLaw" = some m.cls := findClass_of_methodNamed Bd.named
  have X0 : Stand p l e ({ frames := 0, cells := 0, slots := 0, locals := 0 } : Room) s m #[(.int q1)] below meth c s₁ [] 0 0 := Stand.of_body Bd
  have e0 : s₁.heap = h0 := by rw [← hh, Bd.state]; rfl
  have N0 := Fr.nil n0
  show OGo p e below (Out s ({ frames := 0, cells := 0, slots := 0, locals := 0 } : Room).cells ({ frames := 0, cells := 0, slots := 0, locals := 0 } : Room).slots (PI n0 h0 (f1 q1))) (s₁.setTop (entryFrame m #[(.int q1)] 1))
  refine OGo.st (fun t k => castTop (ef1 m q1) k) ?_
  show OGo p e below (Out s ({ frames := 0, cells := 0, slots := 0, locals := 0 } : Room).cells ({ frames := 0, cells := 0, slots := 0, locals := 0 } : Room).slots (PI n0 h0 (g1_2_2 q1))) (s₁.setTop (mkF m 0 #[.val (.int q1)] []))
  refine OGo.st (fun t k => XS.iloadN X0.here hx rfl (hb hby d1_0) rfl k) ?_
  show OGo p e below _ (s₁.setTop (mkF m 1 #[.val (.int q1)] [(.int q1)]))
  refine OGo.st (fun t k => XS.iconst X0.here hx rfl (hb hby d1_1) k) ?_
  show OGo p e below _ (s₁.setTop (mkF m 2 #[.val (.int q1)] [(.int (5 : Int32)), (.int q1)]))
  by_cases hc2_1 : q1 < (5 : Int32)
  · refine OGo.eqvI (show (g1_2_2 q1) = (0 : Int32) from if_pos hc2_1) ?_
    refine OGo.st (fun t k => XS.icmpNo X0.here hx rfl (hb hby d1_2) rfl (tlt hc2_1).2.1 k) ?_
    show OGo p e below _ (s₁.setTop (mkF m 5 #[.val (.int q1)] []))
    refine OGo.st (fun t k => XS.iconst X0.here hx rfl (hb hby d1_5) k) ?_
    show OGo p e below _ (s₁.setTop (mkF m 6 #[.val (.int q1)] [(.int (0 : Int32))]))
    exact OGo.outI X0 hx Bd.returns Bd.notSynchronized (hb hby d1_6) ⟨rfl, N0, e0⟩ (by decide) (by decide)
  · refine OGo.eqvI (show (g1_2_2 q1) = (g1_10_1 q1) from if_neg hc2_1) ?_
    refine OGo.st (fun t k => XS.icmpYes X0.here hx rfl (pc0 := 2) (pc' := 7) rfl (hb hby d1_2) rfl (flt hc2_1).2.1 (by decide) (by decide) k) ?_
    show OGo p e below _ (s₁.setTop (mkF m 7 #[.val (.int q1)] []))
    refine OGo.st (fun t k => XS.iloadN X0.here hx rfl (hb hby d1_7) rfl k) ?_
    show OGo p e below _ (s₁.setTop (mkF m 8 #[.val (.int q1)] [(.int q1)]))
    refine OGo.st (fun t k => XS.bipush X0.here hx rfl (hb hby d1_8) k) ?_
    show OGo p e below _ (s₁.setTop (mkF m 10 #[.val (.int q1)] [(.int (10 : Int32)), (.int q1)]))
    by_cases hc10_2 : q1 < (10 : Int32)
    · refine OGo.eqvI (show (g1_10_1 q1) = (1 : Int32) from if_pos hc10_2) ?_
      refine OGo.st (fun t k => XS.icmpNo X0.here hx rfl (hb hby d1_10) rfl (tlt hc10_2).2.1 k) ?_
      show OGo p e below _ (s₁.setTop (mkF m 13 #[.val (.int q1)] []))
      refine OGo.st (fun t k => XS.iconst X0.here hx rfl (hb hby d1_13) k) ?_
      show OGo p e below _ (s₁.setTop (mkF m 14 #[.val (.int q1)] [(.int (1 : Int32))]))
      exact OGo.outI X0 hx Bd.returns Bd.notSynchronized (hb hby d1_14) ⟨rfl, N0, e0⟩ (by decide) (by decide)
    · refine OGo.eqvI (show (g1_10_1 q1) = (2 : Int32) from if_neg hc10_2) ?_
      refine OGo.st (fun t k => XS.icmpYes X0.here hx rfl (pc0 := 10) (pc' := 15) rfl (hb hby d1_10) rfl (flt hc10_2).2.1 (by decide) (by decide) k) ?_
      show OGo p e below _ (s₁.setTop (mkF m 15 #[.val (.int q1)] []))
      refine OGo.st (fun t k => XS.iconst X0.here hx rfl (hb hby d1_15) k) ?_
      show OGo p e below _ (s₁.setTop (mkF m 16 #[.val (.int q1)] [(.int (2 : Int32))]))
      exact OGo.outI X0 hx Bd.returns Bd.notSynchronized (hb hby d1_16) ⟨rfl, N0, e0⟩ (by decide) (by decide)
theorem d2_0 : decode method_3_code 0 = .ok (.iload_n 0, 1) := by decide +kernel
theorem d2_1 : decode method_3_code 1 = .ok (.bipush 17, 2) := by decide +kernel
theorem d2_3 : decode method_3_code 3 = .ok (.if_icmp .ge 5, 3) := by decide +kernel
theorem d2_6 : decode method_3_code 6 = .ok (.iconst 0, 1) := by decide +kernel
theorem d2_7 : decode method_3_code 7 = .ok (.ireturn, 1) := by decide +kernel
theorem d2_8 : decode method_3_code 8 = .ok (.iload_n 0, 1) := by decide +kernel
theorem d2_9 : decode method_3_code 9 = .ok (.bipush 32, 2) := by decide +kernel
theorem d2_11 : decode method_3_code 11 = .ok (.if_icmp .ge 5, 3) := by decide +kernel
theorem d2_14 : decode method_3_code 14 = .ok (.iconst 1, 1) := by decide +kernel
theorem d2_15 : decode method_3_code 15 = .ok (.ireturn, 1) := by decide +kernel
theorem d2_16 : decode method_3_code 16 = .ok (.iload_n 0, 1) := by decide +kernel
theorem d2_17 : decode method_3_code 17 = .ok (.bipush 48, 2) := by decide +kernel
theorem d2_19 : decode method_3_code 19 = .ok (.if_icmp .ge 5, 3) := by decide +kernel
theorem d2_22 : decode method_3_code 22 = .ok (.iconst 2, 1) := by decide +kernel
theorem d2_23 : decode method_3_code 23 = .ok (.ireturn, 1) := by decide +kernel
theorem d2_24 : decode method_3_code 24 = .ok (.iconst 3, 1) := by decide +kernel
theorem d2_25 : decode method_3_code 25 = .ok (.ireturn, 1) := by decide +kernel
theorem pn2 : plainName "com/example/tilewright/tilewright/kernel/BlocksWindowsTakeRegistersPinLaw" = true := by first | (simp [plainName, overriddenIn]; done) | decide +kernel
theorem ef2 (m : MethodId) (q1 : Int32) : entryFrame m #[(.int q1)] 1 = mkF m 0 #[.val (.int q1)] [] := by first | (simp [entryFrame, mkF, argsToLocals, Value.category]; done) | rfl
def g2_19_1 (q1 : Int32) : Int32 := if q1 < (48 : Int32) then (2 : Int32) else (3 : Int32)
def g2_11_2 (q1 : Int32) : Int32 := if q1 < (32 : Int32) then (1 : Int32) else (g2_19_1 q1)
def g2_3_3 (q1 : Int32) : Int32 := if q1 < (17 : Int32) then (0 : Int32) else (g2_11_2 q1)
def f2 (q1 : Int32) : Int32 := (g2_3_3 q1)
set_option maxRecDepth 65536 in
set_option maxHeartbeats 40000000 in
theorem rm2 (l : Launch) (Z : State) (a0 : Array Value) (hw : ∀ d ∈ tables_1, d.before a0 Z = true) (ws : List Jvm.Cond) (q1 : Int32) (h0 : Heap) (n0 : Nat) (Z0 : n0 ≤ h0.size) :
    MetFree l (⟨"com/example/tilewright/tilewright/kernel/BlocksWindowsTakeRegistersPinLaw", "columnBand", "(I)I"⟩ : MethodName) (head1 (Jvm.Cond.code (⟨"com/example/tilewright/tilewright/kernel/BlocksWindowsTakeRegistersPinLaw", "columnBand", "(I)I"⟩ : MethodName) method_3_code 1 (some .int) :: ws) ({ frames := 0, cells := 0, slots := 0, locals := 0 } : Room)) (fun a U => a = #[(.int q1)] ∧ Z.Warmed39 U.vm ∧ U.heap = h0) (fun _ _ _ _ _ => True) (fun _ U o U' => ∃ v L, o = .returned v ∧ PI n0 h0 (f2 q1) v U'.heap L ∧ FrameEnd U o U' L ({ frames := 0, cells := 0, slots := 0, locals := 0 } : Room).cells ({ frames := 0, cells := 0, slots := 0, locals := 0 } : Room).slots) := by
  refine MetFree.of_bodySF (plainFor_of_name pn2) hisR ?_
  intro p e s m args below meth c s₁ Bd hml0 hP hK
  obtain ⟨rfl, hZ, hh⟩ := hP
  have hx := Bd.exec
  have hby := Bd.bytes
  have hml : c.maxLocals = 1 := hml0
  have hown : s.vm.findClass "com/example/tilewright/tilewright/kernel/BlocksWindowsTakeRegistersPinLaw" = some m.cls := findClass_of_methodNamed Bd.named
  have X0 : Stand p l e ({ frames := 0, cells := 0, slots := 0, locals := 0 } : Room) s m #[(.int q1)] below meth c s₁ [] 0 0 := Stand.of_body Bd
  have e0 : s₁.heap = h0 := by rw [← hh, Bd.state]; rfl
  have N0 := Fr.nil n0
  show OGo p e below (Out s ({ frames := 0, cells := 0, slots := 0, locals := 0 } : Room).cells ({ frames := 0, cells := 0, slots := 0, locals := 0 } : Room).slots (PI n0 h0 (f2 q1))) (s₁.setTop (entryFrame m #[(.int q1)] 1))
  refine OGo.st (fun t k => castTop (ef2 m q1) k) ?_
  show OGo p e below (Out s ({ frames := 0, cells := 0, slots := 0, locals := 0 } : Room).cells ({ frames := 0, cells := 0, slots := 0, locals := 0 } : Room).slots (PI n0 h0 (g2_3_3 q1))) (s₁.setTop (mkF m 0 #[.val (.int q1)] []))
  refine OGo.st (fun t k => XS.iloadN X0.here hx rfl (hb hby d2_0) rfl k) ?_
  show OGo p e below _ (s₁.setTop (mkF m 1 #[.val (.int q1)] [(.int q1)]))
  refine OGo.st (fun t k => XS.bipush X0.here hx rfl (hb hby d2_1) k) ?_
  show OGo p e below _ (s₁.setTop (mkF m 3 #[.val (.int q1)] [(.int (17 : Int32)), (.int q1)]))
  by_cases hc3_1 : q1 < (17 : Int32)
  · refine OGo.eqvI (show (g2_3_3 q1) = (0 : Int32) from if_pos hc3_1) ?_
    refine OGo.st (fun t k => XS.icmpNo X0.here hx rfl (hb hby d2_3) rfl (tlt hc3_1).2.1 k) ?_
    show OGo p e below _ (s₁.setTop (mkF m 6 #[.val (.int q1)] []))
    refine OGo.st (fun t k => XS.iconst X0.here hx rfl (hb hby d2_6) k) ?_
    show OGo p e below _ (s₁.setTop (mkF m 7 #[.val (.int q1)] [(.int (0 : Int32))]))
    exact OGo.outI X0 hx Bd.returns Bd.notSynchronized (hb hby d2_7) ⟨rfl, N0, e0⟩ (by decide) (by decide)
  · refine OGo.eqvI (show (g2_3_3 q1) = (g2_11_2 q1) from if_neg hc3_1) ?_
    refine OGo.st (fun t k => XS.icmpYes X0.here hx rfl (pc0 := 3) (pc' := 8) rfl (hb hby d2_3) rfl (flt hc3_1).2.1 (by decide) (by decide) k) ?_
    show OGo p e below _ (s₁.setTop (mkF m 8 #[.val (.int q1)] []))
    refine OGo.st (fun t k => XS.iloadN X0.here hx rfl (hb hby d2_8) rfl k) ?_
    show OGo p e below _ (s₁.setTop (mkF m 9 #[.val (.int q1)] [(.int q1)]))
    refine OGo.st (fun t k => XS.bipush X0.here hx rfl (hb hby d2_9) k) ?_
    show OGo p e below _ (s₁.setTop (mkF m 11 #[.val (.int q1)] [(.int (32 : Int32)), (.int q1)]))
    by_cases hc11_2 : q1 < (32 : Int32)
    · refine OGo.eqvI (show (g2_11_2 q1) = (1 : Int32) from if_pos hc11_2) ?_
      refine OGo.st (fun t k => XS.icmpNo X0.here hx rfl (hb hby d2_11) rfl (tlt hc11_2).2.1 k) ?_
      show OGo p e below _ (s₁.setTop (mkF m 14 #[.val (.int q1)] []))
      refine OGo.st (fun t k => XS.iconst X0.here hx rfl (hb hby d2_14) k) ?_
      show OGo p e below _ (s₁.setTop (mkF m 15 #[.val (.int q1)] [(.int (1 : Int32))]))
      exact OGo.outI X0 hx Bd.returns Bd.notSynchronized (hb hby d2_15) ⟨rfl, N0, e0⟩ (by decide) (by decide)
    · refine OGo.eqvI (show (g2_11_2 q1) = (g2_19_1 q1) from if_neg hc11_2) ?_
      refine OGo.st (fun t k => XS.icmpYes X0.here hx rfl (pc0 := 11) (pc' := 16) rfl (hb hby d2_11) rfl (flt hc11_2).2.1 (by decide) (by decide) k) ?_
      show OGo p e below _ (s₁.setTop (mkF m 16 #[.val (.int q1)] []))
      refine OGo.st (fun t k => XS.iloadN X0.here hx rfl (hb hby d2_16) rfl k) ?_
      show OGo p e below _ (s₁.setTop (mkF m 17 #[.val (.int q1)] [(.int q1)]))
      refine OGo.st (fun t k => XS.bipush X0.here hx rfl (hb hby d2_17) k) ?_
      show OGo p e below _ (s₁.setTop (mkF m 19 #[.val (.int q1)] [(.int (48 : Int32)), (.int q1)]))
      by_cases hc19_3 : q1 < (48 : Int32)
      · refine OGo.eqvI (show (g2_19_1 q1) = (2 : Int32) from if_pos hc19_3) ?_
        refine OGo.st (fun t k => XS.icmpNo X0.here hx rfl (hb hby d2_19) rfl (tlt hc19_3).2.1 k) ?_
        show OGo p e below _ (s₁.setTop (mkF m 22 #[.val (.int q1)] []))
        refine OGo.st (fun t k => XS.iconst X0.here hx rfl (hb hby d2_22) k) ?_
        show OGo p e below _ (s₁.setTop (mkF m 23 #[.val (.int q1)] [(.int (2 : Int32))]))
        exact OGo.outI X0 hx Bd.returns Bd.notSynchronized (hb hby d2_23) ⟨rfl, N0, e0⟩ (by decide) (by decide)
      · refine OGo.eqvI (show (g2_19_1 q1) = (3 : Int32) from if_neg hc19_3) ?_
        refine OGo.st (fun t k => XS.icmpYes X0.here hx rfl (pc0 := 19) (pc' := 24) rfl (hb hby d2_19) rfl (flt hc19_3).2.1 (by decide) (by decide) k) ?_
        show OGo p e below _ (s₁.setTop (mkF m 24 #[.val (.int q1)] []))
        refine OGo.st (fun t k => XS.iconst X0.here hx rfl (hb hby d2_24) k) ?_
        show OGo p e below _ (s₁.setTop (mkF m 25 #[.val (.int q1)] [(.int (3 : Int32))]))
        exact OGo.outI X0 hx Bd.returns Bd.notSynchronized (hb hby d2_25) ⟨rfl, N0, e0⟩ (by decide) (by decide)
theorem d3_0 : decode prog_6_method_18_code 0 = .ok (.iload_n 1, 1) := by decide +kernel
theorem d3_1 : decode prog_6_method_18_code 1 = .ok (.bipush 17, 2) := by decide +kernel
theorem d3_3 : decode prog_6_method_18_code 3 = .ok (.if_icmp .ge 5, 3) := by decide +kernel
theorem d3_6 : decode prog_6_method_18_code 6 = .ok (.iconst 1, 1) := by decide +kernel
theorem d3_7 : decode prog_6_method_18_code 7 = .ok (.ireturn, 1) := by decide +kernel
theorem d3_8 : decode prog_6_method_18_code 8 = .ok (.iload_n 2, 1) := by decide +kernel
theorem d3_9 : decode prog_6_method_18_code 9 = .ok (.ifCond .eq 26, 3) := by decide +kernel
theorem d3_12 : decode prog_6_method_18_code 12 = .ok (.iload_n 0, 1) := by decide +kernel
theorem d3_13 : decode prog_6_method_18_code 13 = .ok (.iconst 5, 1) := by decide +kernel
theorem d3_14 : decode prog_6_method_18_code 14 = .ok (.if_icmp .lt 15, 3) := by decide +kernel
theorem d3_17 : decode prog_6_method_18_code 17 = .ok (.iload_n 0, 1) := by decide +kernel
theorem d3_18 : decode prog_6_method_18_code 18 = .ok (.bipush 10, 2) := by decide +kernel
theorem d3_20 : decode prog_6_method_18_code 20 = .ok (.if_icmp .ge 13, 3) := by decide +kernel
theorem d3_23 : decode prog_6_method_18_code 23 = .ok (.iload_n 1, 1) := by decide +kernel
theorem d3_24 : decode prog_6_method_18_code 24 = .ok (.bipush 48, 2) := by decide +kernel
theorem d3_26 : decode prog_6_method_18_code 26 = .ok (.if_icmp .ge 7, 3) := by decide +kernel
theorem d3_29 : decode prog_6_method_18_code 29 = .ok (.iconst 1, 1) := by decide +kernel
theorem d3_30 : decode prog_6_method_18_code 30 = .ok (.goto 4, 3) := by decide +kernel
theorem d3_33 : decode prog_6_method_18_code 33 = .ok (.iconst 0, 1) := by decide +kernel
theorem d3_34 : decode prog_6_method_18_code 34 = .ok (.ireturn, 1) := by decide +kernel
theorem d3_35 : decode prog_6_method_18_code 35 = .ok (.iload_n 0, 1) := by decide +kernel
theorem d3_36 : decode prog_6_method_18_code 36 = .ok (.iconst 5, 1) := by decide +kernel
theorem d3_37 : decode prog_6_method_18_code 37 = .ok (.if_icmp .ge 13, 3) := by decide +kernel
theorem d3_40 : decode prog_6_method_18_code 40 = .ok (.iload_n 1, 1) := by decide +kernel
theorem d3_41 : decode prog_6_method_18_code 41 = .ok (.bipush 32, 2) := by decide +kernel
theorem d3_43 : decode prog_6_method_18_code 43 = .ok (.if_icmp .ge 7, 3) := by decide +kernel
theorem d3_46 : decode prog_6_method_18_code 46 = .ok (.iconst 1, 1) := by decide +kernel
theorem d3_47 : decode prog_6_method_18_code 47 = .ok (.goto 4, 3) := by decide +kernel
theorem d3_50 : decode prog_6_method_18_code 50 = .ok (.iconst 0, 1) := by decide +kernel
theorem d3_51 : decode prog_6_method_18_code 51 = .ok (.ireturn, 1) := by decide +kernel
theorem pn3 : plainName "com/example/tilewright/tilewright/kernel/Blocks" = true := by first | (simp [plainName, overriddenIn]; done) | decide +kernel
theorem ef3 (m : MethodId) (q1 : Int32) (q2 : Int32) (q3 : Int32) : entryFrame m #[(.int q1), (.int q2), (.int q3)] 3 = mkF m 0 #[.val (.int q1), .val (.int q2), .val (.int q3)] [] := by first | (simp [entryFrame, mkF, argsToLocals, Value.category]; done) | rfl
def g3_43_1 (q1 : Int32) (q2 : Int32) (q3 : Int32) : Int32 := if q2 < (32 : Int32) then (1 : Int32) else (0 : Int32)
def g3_37_2 (q1 : Int32) (q2 : Int32) (q3 : Int32) : Int32 := if q1 < (5 : Int32) then (g3_43_1 q1 q2 q3) else (0 : Int32)
def g3_26_3 (q1 : Int32) (q2 : Int32) (q3 : Int32) : Int32 := if q2 < (48 : Int32) then (1 : Int32) else (0 : Int32)
def g3_20_4 (q1 : Int32) (q2 : Int32) (q3 : Int32) : Int32 := if q1 < (10 : Int32) then (g3_26_3 q1 q2 q3) else (0 : Int32)
def g3_14_5 (q1 : Int32) (q2 : Int32) (q3 : Int32) : Int32 := if q1 < (5 : Int32) then (1 : Int32) else (g3_20_4 q1 q2 q3)
def g3_9_6 (q1 : Int32) (q2 : Int32) (q3 : Int32) : Int32 := if q3 = (0 : Int32) then (g3_37_2 q1 q2 q3) else (g3_14_5 q1 q2 q3)
def g3_3_7 (q1 : Int32) (q2 : Int32) (q3 : Int32) : Int32 := if q2 < (17 : Int32) then (1 : Int32) else (g3_9_6 q1 q2 q3)
def f3 (q1 : Int32) (q2 : Int32) (q3 : Int32) : Int32 := (g3_3_7 q1 q2 q3)
set_option maxRecDepth 65536 in
set_option maxHeartbeats 40000000 in
theorem rm3 (l : Launch) (Z : State) (a0 : Array Value) (hw : ∀ d ∈ tables_1, d.before a0 Z = true) (ws : List Jvm.Cond) (q1 : Int32) (q2 : Int32) (q3 : Int32) (h0 : Heap) (n0 : Nat) (Z0 : n0 ≤ h0.size) :
    MetFree l (⟨"com/example/tilewright/tilewright/kernel/Blocks", "windowsTakeRegisters", "(IIZ)Z"⟩ : MethodName) (head1 (Jvm.Cond.code (⟨"com/example/tilewright/tilewright/kernel/Blocks", "windowsTakeRegisters", "(IIZ)Z"⟩ : MethodName) prog_6_method_18_code 3 (some .boolean) :: ws) ({ frames := 0, cells := 0, slots := 0, locals := 0 } : Room)) (fun a U => a = #[(.int q1), (.int q2), (.int q3)] ∧ Z.Warmed39 U.vm ∧ U.heap = h0) (fun _ _ _ _ _ => True) (fun _ U o U' => ∃ v L, o = .returned v ∧ PI n0 h0 (f3 q1 q2 q3) v U'.heap L ∧ FrameEnd U o U' L ({ frames := 0, cells := 0, slots := 0, locals := 0 } : Room).cells ({ frames := 0, cells := 0, slots := 0, locals := 0 } : Room).slots) := by
  refine MetFree.of_bodySF (plainFor_of_name pn3) hisR ?_
  intro p e s m args below meth c s₁ Bd hml0 hP hK
  obtain ⟨rfl, hZ, hh⟩ := hP
  have hx := Bd.exec
  have hby := Bd.bytes
  have hml : c.maxLocals = 3 := hml0
  have hown : s.vm.findClass "com/example/tilewright/tilewright/kernel/Blocks" = some m.cls := findClass_of_methodNamed Bd.named
  have X0 : Stand p l e ({ frames := 0, cells := 0, slots := 0, locals := 0 } : Room) s m #[(.int q1), (.int q2), (.int q3)] below meth c s₁ [] 0 0 := Stand.of_body Bd
  have e0 : s₁.heap = h0 := by rw [← hh, Bd.state]; rfl
  have N0 := Fr.nil n0
  show OGo p e below (Out s ({ frames := 0, cells := 0, slots := 0, locals := 0 } : Room).cells ({ frames := 0, cells := 0, slots := 0, locals := 0 } : Room).slots (PI n0 h0 (f3 q1 q2 q3))) (s₁.setTop (entryFrame m #[(.int q1), (.int q2), (.int q3)] 3))
  refine OGo.st (fun t k => castTop (ef3 m q1 q2 q3) k) ?_
  show OGo p e below (Out s ({ frames := 0, cells := 0, slots := 0, locals := 0 } : Room).cells ({ frames := 0, cells := 0, slots := 0, locals := 0 } : Room).slots (PI n0 h0 (g3_3_7 q1 q2 q3))) (s₁.setTop (mkF m 0 #[.val (.int q1), .val (.int q2), .val (.int q3)] []))
  refine OGo.st (fun t k => XS.iloadN X0.here hx rfl (hb hby d3_0) rfl k) ?_
  show OGo p e below _ (s₁.setTop (mkF m 1 #[.val (.int q1), .val (.int q2), .val (.int q3)] [(.int q2)]))
  refine OGo.st (fun t k => XS.bipush X0.here hx rfl (hb hby d3_1) k) ?_
  show OGo p e below _ (s₁.setTop (mkF m 3 #[.val (.int q1), .val (.int q2), .val (.int q3)] [(.int (17 : Int32)), (.int q2)]))
  by_cases hc3_1 : q2 < (17 : Int32)
  · refine OGo.eqvI (show (g3_3_7 q1 q2 q3) = (1 : Int32) from if_pos hc3_1) ?_
    refine OGo.st (fun t k => XS.icmpNo X0.here hx rfl (hb hby d3_3) rfl (tlt hc3_1).2.1 k) ?_
    show OGo p e below _ (s₁.setTop (mkF m 6 #[.val (.int q1), .val (.int q2), .val (.int q3)] []))
    refine OGo.st (fun t k => XS.iconst X0.here hx rfl (hb hby d3_6) k) ?_
    show OGo p e below _ (s₁.setTop (mkF m 7 #[.val (.int q1), .val (.int q2), .val (.int q3)] [(.int (1 : Int32))]))
    exact OGo.outN X0 hx (t := .boolean) Bd.returns (by simp) Bd.notSynchronized (hb hby d3_7) ⟨rfl, N0, e0⟩ (by decide) (by decide)
  · refine OGo.eqvI (show (g3_3_7 q1 q2 q3) = (g3_9_6 q1 q2 q3) from if_neg hc3_1) ?_
    refine OGo.st (fun t k => XS.icmpYes X0.here hx rfl (pc0 := 3) (pc' := 8) rfl (hb hby d3_3) rfl (flt hc3_1).2.1 (by decide) (by decide) k) ?_
    show OGo p e below _ (s₁.setTop (mkF m 8 #[.val (.int q1), .val (.int q2), .val (.int q3)] []))
    refine OGo.st (fun t k => XS.iloadN X0.here hx rfl (hb hby d3_8) rfl k) ?_
    show OGo p e below _ (s₁.setTop (mkF m 9 #[.val (.int q1), .val (.int q2), .val (.int q3)] [(.int q3)]))
    by_cases hc9_2 : q3 = (0 : Int32)
    · refine OGo.eqvI (show (g3_9_6 q1 q2 q3) = (g3_37_2 q1 q2 q3) from if_pos hc9_2) ?_
      refine OGo.st (fun t k => XS.ifYes X0.here hx rfl (pc0 := 9) (pc' := 35) rfl (hb hby d3_9) rfl ((if0 _ _).trans (teq hc9_2).1) (by decide) (by decide) k) ?_
      show OGo p e below _ (s₁.setTop (mkF m 35 #[.val (.int q1), .val (.int q2), .val (.int q3)] []))
      refine OGo.st (fun t k => XS.iloadN X0.here hx rfl (hb hby d3_35) rfl k) ?_
      show OGo p e below _ (s₁.setTop (mkF m 36 #[.val (.int q1), .val (.int q2), .val (.int q3)] [(.int q1)]))
      refine OGo.st (fun t k => XS.iconst X0.here hx rfl (hb hby d3_36) k) ?_
      show OGo p e below _ (s₁.setTop (mkF m 37 #[.val (.int q1), .val (.int q2), .val (.int q3)] [(.int (5 : Int32)), (.int q1)]))
      by_cases hc37_3 : q1 < (5 : Int32)
      · refine OGo.eqvI (show (g3_37_2 q1 q2 q3) = (g3_43_1 q1 q2 q3) from if_pos hc37_3) ?_
        refine OGo.st (fun t k => XS.icmpNo X0.here hx rfl (hb hby d3_37) rfl (tlt hc37_3).2.1 k) ?_
        show OGo p e below _ (s₁.setTop (mkF m 40 #[.val (.int q1), .val (.int q2), .val (.int q3)] []))
        refine OGo.st (fun t k => XS.iloadN X0.here hx rfl (hb hby d3_40) rfl k) ?_
        show OGo p e below _ (s₁.setTop (mkF m 41 #[.val (.int q1), .val (.int q2), .val (.int q3)] [(.int q2)]))
        refine OGo.st (fun t k => XS.bipush X0.here hx rfl (hb hby d3_41) k) ?_
        show OGo p e below _ (s₁.setTop (mkF m 43 #[.val (.int q1), .val (.int q2), .val (.int q3)] [(.int (32 : Int32)), (.int q2)]))
        by_cases hc43_4 : q2 < (32 : Int32)
        · refine OGo.eqvI (show (g3_43_1 q1 q2 q3) = (1 : Int32) from if_pos hc43_4) ?_
          refine OGo.st (fun t k => XS.icmpNo X0.here hx rfl (hb hby d3_43) rfl (tlt hc43_4).2.1 k) ?_
          show OGo p e below _ (s₁.setTop (mkF m 46 #[.val (.int q1), .val (.int q2), .val (.int q3)] []))
          refine OGo.st (fun t k => XS.iconst X0.here hx rfl (hb hby d3_46) k) ?_
          show OGo p e below _ (s₁.setTop (mkF m 47 #[.val (.int q1), .val (.int q2), .val (.int q3)] [(.int (1 : Int32))]))
          refine OGo.st (fun t k => XS.goto X0.here hx rfl (pc0 := 47) (pc' := 51) rfl (hb hby d3_47) (by decide) (by decide) k) ?_
          show OGo p e below _ (s₁.setTop (mkF m 51 #[.val (.int q1), .val (.int q2), .val (.int q3)] [(.int (1 : Int32))]))
          exact OGo.outN X0 hx (t := .boolean) Bd.returns (by simp) Bd.notSynchronized (hb hby d3_51) ⟨rfl, N0, e0⟩ (by decide) (by decide)
        · refine OGo.eqvI (show (g3_43_1 q1 q2 q3) = (0 : Int32) from if_neg hc43_4) ?_
          refine OGo.st (fun t k => XS.icmpYes X0.here hx rfl (pc0 := 43) (pc' := 50) rfl (hb hby d3_43) rfl (flt hc43_4).2.1 (by decide) (by decide) k) ?_
          show OGo p e below _ (s₁.setTop (mkF m 50 #[.val (.int q1), .val (.int q2), .val (.int q3)] []))
          refine OGo.st (fun t k => XS.iconst X0.here hx rfl (hb hby d3_50) k) ?_
          show OGo p e below _ (s₁.setTop (mkF m 51 #[.val (.int q1), .val (.int q2), .val (.int q3)] [(.int (0 : Int32))]))
          exact OGo.outN X0 hx (t := .boolean) Bd.returns (by simp) Bd.notSynchronized (hb hby d3_51) ⟨rfl, N0, e0⟩ (by decide) (by decide)
      · refine OGo.eqvI (show (g3_37_2 q1 q2 q3) = (0 : Int32) from if_neg hc37_3) ?_
        refine OGo.st (fun t k => XS.icmpYes X0.here hx rfl (pc0 := 37) (pc' := 50) rfl (hb hby d3_37) rfl (flt hc37_3).2.1 (by decide) (by decide) k) ?_
        show OGo p e below _ (s₁.setTop (mkF m 50 #[.val (.int q1), .val (.int q2), .val (.int q3)] []))
        refine OGo.st (fun t k => XS.iconst X0.here hx rfl (hb hby d3_50) k) ?_
        show OGo p e below _ (s₁.setTop (mkF m 51 #[.val (.int q1), .val (.int q2), .val (.int q3)] [(.int (0 : Int32))]))
        exact OGo.outN X0 hx (t := .boolean) Bd.returns (by simp) Bd.notSynchronized (hb hby d3_51) ⟨rfl, N0, e0⟩ (by decide) (by decide)
    · refine OGo.eqvI (show (g3_9_6 q1 q2 q3) = (g3_14_5 q1 q2 q3) from if_neg hc9_2) ?_
      refine OGo.st (fun t k => XS.ifNo X0.here hx rfl (hb hby d3_9) rfl ((if0 _ _).trans (feq hc9_2).1) k) ?_
      show OGo p e below _ (s₁.setTop (mkF m 12 #[.val (.int q1), .val (.int q2), .val (.int q3)] []))
      refine OGo.st (fun t k => XS.iloadN X0.here hx rfl (hb hby d3_12) rfl k) ?_
      show OGo p e below _ (s₁.setTop (mkF m 13 #[.val (.int q1), .val (.int q2), .val (.int q3)] [(.int q1)]))
      refine OGo.st (fun t k => XS.iconst X0.here hx rfl (hb hby d3_13) k) ?_
      show OGo p e below _ (s₁.setTop (mkF m 14 #[.val (.int q1), .val (.int q2), .val (.int q3)] [(.int (5 : Int32)), (.int q1)]))
      by_cases hc14_5 : q1 < (5 : Int32)
      · refine OGo.eqvI (show (g3_14_5 q1 q2 q3) = (1 : Int32) from if_pos hc14_5) ?_
        refine OGo.st (fun t k => XS.icmpYes X0.here hx rfl (pc0 := 14) (pc' := 29) rfl (hb hby d3_14) rfl (tlt hc14_5).1 (by decide) (by decide) k) ?_
        show OGo p e below _ (s₁.setTop (mkF m 29 #[.val (.int q1), .val (.int q2), .val (.int q3)] []))
        refine OGo.st (fun t k => XS.iconst X0.here hx rfl (hb hby d3_29) k) ?_
        show OGo p e below _ (s₁.setTop (mkF m 30 #[.val (.int q1), .val (.int q2), .val (.int q3)] [(.int (1 : Int32))]))
        refine OGo.st (fun t k => XS.goto X0.here hx rfl (pc0 := 30) (pc' := 34) rfl (hb hby d3_30) (by decide) (by decide) k) ?_
        show OGo p e below _ (s₁.setTop (mkF m 34 #[.val (.int q1), .val (.int q2), .val (.int q3)] [(.int (1 : Int32))]))
        exact OGo.outN X0 hx (t := .boolean) Bd.returns (by simp) Bd.notSynchronized (hb hby d3_34) ⟨rfl, N0, e0⟩ (by decide) (by decide)
      · refine OGo.eqvI (show (g3_14_5 q1 q2 q3) = (g3_20_4 q1 q2 q3) from if_neg hc14_5) ?_
        refine OGo.st (fun t k => XS.icmpNo X0.here hx rfl (hb hby d3_14) rfl (flt hc14_5).1 k) ?_
        show OGo p e below _ (s₁.setTop (mkF m 17 #[.val (.int q1), .val (.int q2), .val (.int q3)] []))
        refine OGo.st (fun t k => XS.iloadN X0.here hx rfl (hb hby d3_17) rfl k) ?_
        show OGo p e below _ (s₁.setTop (mkF m 18 #[.val (.int q1), .val (.int q2), .val (.int q3)] [(.int q1)]))
        refine OGo.st (fun t k => XS.bipush X0.here hx rfl (hb hby d3_18) k) ?_
        show OGo p e below _ (s₁.setTop (mkF m 20 #[.val (.int q1), .val (.int q2), .val (.int q3)] [(.int (10 : Int32)), (.int q1)]))
        by_cases hc20_6 : q1 < (10 : Int32)
        · refine OGo.eqvI (show (g3_20_4 q1 q2 q3) = (g3_26_3 q1 q2 q3) from if_pos hc20_6) ?_
          refine OGo.st (fun t k => XS.icmpNo X0.here hx rfl (hb hby d3_20) rfl (tlt hc20_6).2.1 k) ?_
          show OGo p e below _ (s₁.setTop (mkF m 23 #[.val (.int q1), .val (.int q2), .val (.int q3)] []))
          refine OGo.st (fun t k => XS.iloadN X0.here hx rfl (hb hby d3_23) rfl k) ?_
          show OGo p e below _ (s₁.setTop (mkF m 24 #[.val (.int q1), .val (.int q2), .val (.int q3)] [(.int q2)]))
          refine OGo.st (fun t k => XS.bipush X0.here hx rfl (hb hby d3_24) k) ?_
          show OGo p e below _ (s₁.setTop (mkF m 26 #[.val (.int q1), .val (.int q2), .val (.int q3)] [(.int (48 : Int32)), (.int q2)]))
          by_cases hc26_7 : q2 < (48 : Int32)
          · refine OGo.eqvI (show (g3_26_3 q1 q2 q3) = (1 : Int32) from if_pos hc26_7) ?_
            refine OGo.st (fun t k => XS.icmpNo X0.here hx rfl (hb hby d3_26) rfl (tlt hc26_7).2.1 k) ?_
            show OGo p e below _ (s₁.setTop (mkF m 29 #[.val (.int q1), .val (.int q2), .val (.int q3)] []))
            refine OGo.st (fun t k => XS.iconst X0.here hx rfl (hb hby d3_29) k) ?_
            show OGo p e below _ (s₁.setTop (mkF m 30 #[.val (.int q1), .val (.int q2), .val (.int q3)] [(.int (1 : Int32))]))
            refine OGo.st (fun t k => XS.goto X0.here hx rfl (pc0 := 30) (pc' := 34) rfl (hb hby d3_30) (by decide) (by decide) k) ?_
            show OGo p e below _ (s₁.setTop (mkF m 34 #[.val (.int q1), .val (.int q2), .val (.int q3)] [(.int (1 : Int32))]))
            exact OGo.outN X0 hx (t := .boolean) Bd.returns (by simp) Bd.notSynchronized (hb hby d3_34) ⟨rfl, N0, e0⟩ (by decide) (by decide)
          · refine OGo.eqvI (show (g3_26_3 q1 q2 q3) = (0 : Int32) from if_neg hc26_7) ?_
            refine OGo.st (fun t k => XS.icmpYes X0.here hx rfl (pc0 := 26) (pc' := 33) rfl (hb hby d3_26) rfl (flt hc26_7).2.1 (by decide) (by decide) k) ?_
            show OGo p e below _ (s₁.setTop (mkF m 33 #[.val (.int q1), .val (.int q2), .val (.int q3)] []))
            refine OGo.st (fun t k => XS.iconst X0.here hx rfl (hb hby d3_33) k) ?_
            show OGo p e below _ (s₁.setTop (mkF m 34 #[.val (.int q1), .val (.int q2), .val (.int q3)] [(.int (0 : Int32))]))
            exact OGo.outN X0 hx (t := .boolean) Bd.returns (by simp) Bd.notSynchronized (hb hby d3_34) ⟨rfl, N0, e0⟩ (by decide) (by decide)
        · refine OGo.eqvI (show (g3_20_4 q1 q2 q3) = (0 : Int32) from if_neg hc20_6) ?_
          refine OGo.st (fun t k => XS.icmpYes X0.here hx rfl (pc0 := 20) (pc' := 33) rfl (hb hby d3_20) rfl (flt hc20_6).2.1 (by decide) (by decide) k) ?_
          show OGo p e below _ (s₁.setTop (mkF m 33 #[.val (.int q1), .val (.int q2), .val (.int q3)] []))
          refine OGo.st (fun t k => XS.iconst X0.here hx rfl (hb hby d3_33) k) ?_
          show OGo p e below _ (s₁.setTop (mkF m 34 #[.val (.int q1), .val (.int q2), .val (.int q3)] [(.int (0 : Int32))]))
          exact OGo.outN X0 hx (t := .boolean) Bd.returns (by simp) Bd.notSynchronized (hb hby d3_34) ⟨rfl, N0, e0⟩ (by decide) (by decide)
theorem pn0 : plainName "com/example/tilewright/tilewright/kernel/BlocksWindowsTakeRegistersPinLaw" = true := by first | (simp [plainName, overriddenIn]; done) | decide +kernel
theorem pd0_0 : parseMethodDescriptor "(I)I" = some ⟨[.int], some .int⟩ := by decide +kernel
theorem pd0_1 : parseMethodDescriptor "(IIZ)Z" = some ⟨[.int, .int, .boolean], some .boolean⟩ := by decide +kernel
theorem ef0 (m : MethodId) (q1 : Int32) (q2 : Int32) (q3 : Int32) : entryFrame m #[(.int q1), (.int q2), (.int q3)] maxLocals = mkF m 0 #[.val (.int q1), .val (.int q2), .val (.int q3), .unset, .unset, .unset, .unset, .unset, .unset] [] := by first | (simp [entryFrame, mkF, argsToLocals, Value.category, maxLocals]; done) | rfl
def g0_128_1 (q1 : Int32) (q2 : Int32) (q3 : Int32) (j118_l3 : Int32) (j118_l4 : Int32) (j118_l5 : Int32) (j118_l6 : Int32) (j118_l7 : Int32) (j118_l8 : Int32) : Int32 := if (f3 j118_l4 j118_l5 j118_l3) = j118_l8 then (1 : Int32) else (0 : Int32)
def g0_j118 (q1 : Int32) (q2 : Int32) (q3 : Int32) (j118_l3 : Int32) (j118_l4 : Int32) (j118_l5 : Int32) (j118_l6 : Int32) (j118_l7 : Int32) (j118_l8 : Int32) : Int32 := (g0_128_1 q1 q2 q3 j118_l3 j118_l4 j118_l5 j118_l6 j118_l7 j118_l8)
def g0_j116 (q1 : Int32) (q2 : Int32) (q3 : Int32) (j116_l3 : Int32) (j116_l4 : Int32) (j116_l5 : Int32) (j116_l6 : Int32) (j116_l7 : Int32) (j116_s0 : Int32) : Int32 := (g0_j118 q1 q2 q3 j116_l3 j116_l4 j116_l5 j116_l6 j116_l7 j116_s0)
def g0_j115 (q1 : Int32) (q2 : Int32) (q3 : Int32) (j115_l3 : Int32) (j115_l4 : Int32) (j115_l5 : Int32) (j115_l6 : Int32) (j115_l7 : Int32) : Int32 := (g0_j116 q1 q2 q3 j115_l3 j115_l4 j115_l5 j115_l6 j115_l7 (0 : Int32))
def g0_j95 (q1 : Int32) (q2 : Int32) (q3 : Int32) (j95_l3 : Int32) (j95_l4 : Int32) (j95_l5 : Int32) (j95_l6 : Int32) (j95_l7 : Int32) (j95_s0 : Int32) : Int32 := (g0_j118 q1 q2 q3 j95_l3 j95_l4 j95_l5 j95_l6 j95_l7 j95_s0)
def g0_j94 (q1 : Int32) (q2 : Int32) (q3 : Int32) (j94_l3 : Int32) (j94_l4 : Int32) (j94_l5 : Int32) (j94_l6 : Int32) (j94_l7 : Int32) : Int32 := (g0_j95 q1 q2 q3 j94_l3 j94_l4 j94_l5 j94_l6 j94_l7 (0 : Int32))
def g0_j90 (q1 : Int32) (q2 : Int32) (q3 : Int32) (j90_l3 : Int32) (j90_l4 : Int32) (j90_l5 : Int32) (j90_l6 : Int32) (j90_l7 : Int32) : Int32 := (g0_j95 q1 q2 q3 j90_l3 j90_l4 j90_l5 j90_l6 j90_l7 (1 : Int32))
def g0_108_2 (q1 : Int32) (q2 : Int32) (q3 : Int32) (j42_l3 : Int32) (j42_l4 : Int32) (j42_s0 : Int32) : Int32 := if (f2 j42_s0) = (1 : Int32) then (g0_j116 q1 q2 q3 j42_l3 j42_l4 j42_s0 (f1 j42_l4) (f2 j42_s0) (1 : Int32)) else (g0_j115 q1 q2 q3 j42_l3 j42_l4 j42_s0 (f1 j42_l4) (f2 j42_s0))
def g0_102_3 (q1 : Int32) (q2 : Int32) (q3 : Int32) (j42_l3 : Int32) (j42_l4 : Int32) (j42_s0 : Int32) : Int32 := if (f1 j42_l4) = (0 : Int32) then (g0_108_2 q1 q2 q3 j42_l3 j42_l4 j42_s0) else (g0_j115 q1 q2 q3 j42_l3 j42_l4 j42_s0 (f1 j42_l4) (f2 j42_s0))
def g0_87_4 (q1 : Int32) (q2 : Int32) (q3 : Int32) (j42_l3 : Int32) (j42_l4 : Int32) (j42_s0 : Int32) : Int32 := if (f2 j42_s0) < (3 : Int32) then (g0_j90 q1 q2 q3 j42_l3 j42_l4 j42_s0 (f1 j42_l4) (f2 j42_s0)) else (g0_j94 q1 q2 q3 j42_l3 j42_l4 j42_s0 (f1 j42_l4) (f2 j42_s0))
def g0_81_5 (q1 : Int32) (q2 : Int32) (q3 : Int32) (j42_l3 : Int32) (j42_l4 : Int32) (j42_s0 : Int32) : Int32 := if (f1 j42_l4) = (1 : Int32) then (g0_87_4 q1 q2 q3 j42_l3 j42_l4 j42_s0) else (g0_j94 q1 q2 q3 j42_l3 j42_l4 j42_s0 (f1 j42_l4) (f2 j42_s0))
def g0_75_6 (q1 : Int32) (q2 : Int32) (q3 : Int32) (j42_l3 : Int32) (j42_l4 : Int32) (j42_s0 : Int32) : Int32 := if (f1 j42_l4) = (0 : Int32) then (g0_j90 q1 q2 q3 j42_l3 j42_l4 j42_s0 (f1 j42_l4) (f2 j42_s0)) else (g0_81_5 q1 q2 q3 j42_l3 j42_l4 j42_s0)
def g0_70_7 (q1 : Int32) (q2 : Int32) (q3 : Int32) (j42_l3 : Int32) (j42_l4 : Int32) (j42_s0 : Int32) : Int32 := if j42_l3 = (0 : Int32) then (g0_102_3 q1 q2 q3 j42_l3 j42_l4 j42_s0) else (g0_75_6 q1 q2 q3 j42_l3 j42_l4 j42_s0)
def g0_60_8 (q1 : Int32) (q2 : Int32) (q3 : Int32) (j42_l3 : Int32) (j42_l4 : Int32) (j42_s0 : Int32) : Int32 := if (f2 j42_s0) = (0 : Int32) then (g0_j118 q1 q2 q3 j42_l3 j42_l4 j42_s0 (f1 j42_l4) (f2 j42_s0) (1 : Int32)) else (g0_70_7 q1 q2 q3 j42_l3 j42_l4 j42_s0)
def g0_j42 (q1 : Int32) (q2 : Int32) (q3 : Int32) (j42_l3 : Int32) (j42_l4 : Int32) (j42_s0 : Int32) : Int32 := (g0_60_8 q1 q2 q3 j42_l3 j42_l4 j42_s0)
def g0_31_9 (q1 : Int32) (q2 : Int32) (q3 : Int32) (j26_l3 : Int32) (j26_s0 : Int32) : Int32 := if (q3 &&& (4 : Int32)) = (0 : Int32) then (g0_j42 q1 q2 q3 j26_l3 j26_s0 q2) else (g0_j42 q1 q2 q3 j26_l3 j26_s0 (q2 - (q2 / (64 : Int32)) * (64 : Int32)))
def g0_j26 (q1 : Int32) (q2 : Int32) (q3 : Int32) (j26_l3 : Int32) (j26_s0 : Int32) : Int32 := (g0_31_9 q1 q2 q3 j26_l3 j26_s0)
def g0_15_10 (q1 : Int32) (q2 : Int32) (q3 : Int32) (j11_s0 : Int32) : Int32 := if (q3 &&& (2 : Int32)) = (0 : Int32) then (g0_j26 q1 q2 q3 j11_s0 q1) else (g0_j26 q1 q2 q3 j11_s0 (q1 - (q1 / (64 : Int32)) * (64 : Int32)))
def g0_j11 (q1 : Int32) (q2 : Int32) (q3 : Int32) (j11_s0 : Int32) : Int32 := (g0_15_10 q1 q2 q3 j11_s0)
def g0_3_11 (q1 : Int32) (q2 : Int32) (q3 : Int32) : Int32 := if (q3 &&& (1 : Int32)) = (0 : Int32) then (g0_j11 q1 q2 q3 (0 : Int32)) else (g0_j11 q1 q2 q3 (1 : Int32))
def f0 (q1 : Int32) (q2 : Int32) (q3 : Int32) : Int32 := (g0_3_11 q1 q2 q3)
set_option maxRecDepth 65536 in
set_option maxHeartbeats 40000000 in
theorem rm0 (l : Launch) (Z : State) (a0 : Array Value) (hw : ∀ d ∈ tables_1, d.before a0 Z = true) (ws : List Jvm.Cond) (q1 : Int32) (q2 : Int32) (q3 : Int32) (h0 : Heap) (n0 : Nat) (Z0 : n0 ≤ h0.size) :
    MetFree l x (head1 (Jvm.Cond.code x code maxLocals ret :: ws) room_1) (fun a U => a = #[(.int q1), (.int q2), (.int q3)] ∧ Z.Warmed39 U.vm ∧ U.heap = h0) (fun _ _ _ _ _ => True) (fun _ U o U' => ∃ v L, o = .returned v ∧ PI n0 h0 (f0 q1 q2 q3) v U'.heap L ∧ FrameEnd U o U' L room_1.cells room_1.slots) := by
  refine MetFree.of_bodySF (plainFor_of_name pn0) hisR ?_
  intro p e s m args below meth c s₁ Bd hml0 hP hK
  obtain ⟨rfl, hZ, hh⟩ := hP
  have hx := Bd.exec
  have hby := Bd.bytes
  have hml : c.maxLocals = 9 := hml0
  have hown : s.vm.findClass "com/example/tilewright/tilewright/kernel/BlocksWindowsTakeRegistersPinLaw" = some m.cls := findClass_of_methodNamed Bd.named
  have X0 : Stand p l e room_1 s m #[(.int q1), (.int q2), (.int q3)] below meth c s₁ [] 0 0 := Stand.of_body Bd
  have e0 : s₁.heap = h0 := by rw [← hh, Bd.state]; rfl
  have N0 := Fr.nil n0
  show OGo p e below (Out s room_1.cells room_1.slots (PI n0 h0 (f0 q1 q2 q3))) (s₁.setTop (entryFrame m #[(.int q1), (.int q2), (.int q3)] maxLocals))
  have J118 : ∀ (T : State) (locs : List Loc) (X : Stand p l e room_1 s m #[(.int q1), (.int q2), (.int q3)] below meth c T locs 0 0) (eT : T.heap = h0) (N : Fr n0 locs) (j118_l3 : Int32) (j118_l4 : Int32) (j118_l5 : Int32) (j118_l6 : Int32) (j118_l7 : Int32) (j118_l8 : Int32), OGo p e below (Out s room_1.cells room_1.slots (PI n0 h0 (g0_j118 q1 q2 q3 j118_l3 j118_l4 j118_l5 j118_l6 j118_l7 j118_l8))) (T.setTop (mkF m 118 #[.val (.int q1), .val (.int q2), .val (.int q3), .val (.int j118_l3), .val (.int j118_l4), .val (.int j118_l5), .val (.int j118_l6), .val (.int j118_l7), .val (.int j118_l8)] [])) := by
    intro T locs X eT N j118_l3 j118_l4 j118_l5 j118_l6 j118_l7 j118_l8
    show OGo p e below (Out s room_1.cells room_1.slots (PI n0 h0 (g0_128_1 q1 q2 q3 j118_l3 j118_l4 j118_l5 j118_l6 j118_l7 j118_l8))) (T.setTop (mkF m 118 #[.val (.int q1), .val (.int q2), .val (.int q3), .val (.int j118_l3), .val (.int j118_l4), .val (.int j118_l5), .val (.int j118_l6), .val (.int j118_l7), .val (.int j118_l8)] []))
    refine OGo.st (fun t k => XS.iload X.here hx rfl (hb hby at_118) rfl k) ?_
    show OGo p e below _ (T.setTop (mkF m 120 #[.val (.int q1), .val (.int q2), .val (.int q3), .val (.int j118_l3), .val (.int j118_l4), .val (.int j118_l5), .val (.int j118_l6), .val (.int j118_l7), .val (.int j118_l8)] [(.int j118_l4)]))
    refine OGo.st (fun t k => XS.iload X.here hx rfl (hb hby at_120) rfl k) ?_
    show OGo p e below _ (T.setTop (mkF m 122 #[.val (.int q1), .val (.int q2), .val (.int q3), .val (.int j118_l3), .val (.int j118_l4), .val (.int j118_l5), .val (.int j118_l6), .val (.int j118_l7), .val (.int j118_l8)] [(.int j118_l5), (.int j118_l4)]))
    refine OGo.st (fun t k => XS.iloadN X.here hx rfl (hb hby at_122) rfl k) ?_
    show OGo p e below _ (T.setTop (mkF m 123 #[.val (.int q1), .val (.int q2), .val (.int q3), .val (.int j118_l3), .val (.int j118_l4), .val (.int j118_l5), .val (.int j118_l6), .val (.int j118_l7), .val (.int j118_l8)] [(.int j118_l3), (.int j118_l5), (.int j118_l4)]))
    obtain ⟨_, _, ⟨T1, L1, k1, n1⟩, -, X1, ⟨Lc1, hQ1, l1, y1, z1⟩, st1⟩ := Jvm.LawKit.callS X hx (y := (⟨"com/example/tilewright/tilewright/kernel/Blocks", "windowsTakeRegisters", "(IIZ)Z"⟩ : MethodName)) hown (mvT hZ (hw _ (List.mem_of_getElem? (i := 7) rfl))) (mvT hZ (hw _ (List.mem_of_getElem? (i := 8) rfl))) (mvT hZ (hw _ (List.mem_of_getElem? (i := 9) rfl))) (mvT hZ (hw _ (List.mem_of_getElem? (i := 10) rfl))) (by decide) (backOf (W := 0) (rm3 l Z a0 hw [] j118_l4 j118_l5 j118_l3 h0 n0 Z0) hZ (hw _ (List.mem_of_getElem? (i := 10) rfl)) (hw _ (List.mem_of_getElem? (i := 9) rfl)) (by decide) (by decide)) (g := (mkF m 123 #[.val (.int q1), .val (.int q2), .val (.int q3), .val (.int j118_l3), .val (.int j118_l4), .val (.int j118_l5), .val (.int j118_l6), .val (.int j118_l7), .val (.int j118_l8)] [(.int j118_l3), (.int j118_l5), (.int j118_l4)])) rfl (by rw [hml]; rfl) (argsL := [(.int j118_l4), (.int j118_l5), (.int j118_l3)]) (rest := []) (lenOf pd0_1 rfl) rfl (by show 2 * 0 + _ ≤ _; exact Nat.le_of_eq rfl) (hb hby at_123) (fun _ _ => ⟨rfl, eT, (by decide : 0 + 0 ≤ _), (by decide : 0 + 0 ≤ _)⟩)
    dsimp only [Pt.U, Pt.locs, Pt.cells, Pt.slots] at X1 l1 y1 z1 st1 hQ1
    subst l1 y1 z1
    obtain ⟨rfl, Nq1, e1⟩ := hQ1
    have N1 := Fr.app N Nq1
    refine OGo.st (fun t k => st1 t k) ?_
    show OGo p e below _ (T1.setTop (mkF m 126 #[.val (.int q1), .val (.int q2), .val (.int q3), .val (.int j118_l3), .val (.int j118_l4), .val (.int j118_l5), .val (.int j118_l6), .val (.int j118_l7), .val (.int j118_l8)] [(.int (f3 j118_l4 j118_l5 j118_l3))]))
    refine OGo.st (fun t k => XS.iload X1.here hx rfl (hb hby at_126) rfl k) ?_
    show OGo p e below _ (T1.setTop (mkF m 128 #[.val (.int q1), .val (.int q2), .val (.int q3), .val (.int j118_l3), .val (.int j118_l4), .val (.int j118_l5), .val (.int j118_l6), .val (.int j118_l7), .val (.int j118_l8)] [(.int j118_l8), (.int (f3 j118_l4 j118_l5 j118_l3))]))
    by_cases hc128_2 : (f3 j118_l4 j118_l5 j118_l3) = j118_l8
    · refine OGo.eqvI (show (g0_128_1 q1 q2 q3 j118_l3 j118_l4 j118_l5 j118_l6 j118_l7 j118_l8) = (1 : Int32) from if_pos hc128_2) ?_
      refine OGo.st (fun t k => XS.icmpNo X1.here hx rfl (hb hby at_128) rfl (teq hc128_2).2 k) ?_
      show OGo p e below _ (T1.setTop (mkF m 131 #[.val (.int q1), .val (.int q2), .val (.int q3), .val (.int j118_l3), .val (.int j118_l4), .val (.int j118_l5), .val (.int j118_l6), .val (.int j118_l7), .val (.int j118_l8)] []))
      refine OGo.st (fun t k => XS.iconst X1.here hx rfl (hb hby at_131) k) ?_
      show OGo p e below _ (T1.setTop (mkF m 132 #[.val (.int q1), .val (.int q2), .val (.int q3), .val (.int j118_l3), .val (.int j118_l4), .val (.int j118_l5), .val (.int j118_l6), .val (.int j118_l7), .val (.int j118_l8)] [(.int (1 : Int32))]))
      refine OGo.st (fun t k => XS.goto X1.here hx rfl (pc0 := 132) (pc' := 136) rfl (hb hby at_132) (by decide) (by decide) k) ?_
      show OGo p e below _ (T1.setTop (mkF m 136 #[.val (.int q1), .val (.int q2), .val (.int q3), .val (.int j118_l3), .val (.int j118_l4), .val (.int j118_l5), .val (.int j118_l6), .val (.int j118_l7), .val (.int j118_l8)] [(.int (1 : Int32))]))
      exact OGo.outN X1 hx (t := .boolean) Bd.returns (by simp) Bd.notSynchronized (hb hby at_136) ⟨rfl, N1, e1⟩ (by decide) (by decide)
    · refine OGo.eqvI (show (g0_128_1 q1 q2 q3 j118_l3 j118_l4 j118_l5 j118_l6 j118_l7 j118_l8) = (0 : Int32) from if_neg hc128_2) ?_
      refine OGo.st (fun t k => XS.icmpYes X1.here hx rfl (pc0 := 128) (pc' := 135) rfl (hb hby at_128) rfl (feq hc128_2).2 (by decide) (by decide) k) ?_
      show OGo p e below _ (T1.setTop (mkF m 135 #[.val (.int q1), .val (.int q2), .val (.int q3), .val (.int j118_l3), .val (.int j118_l4), .val (.int j118_l5), .val (.int j118_l6), .val (.int j118_l7), .val (.int j118_l8)] []))
      refine OGo.st (fun t k => XS.iconst X1.here hx rfl (hb hby at_135) k) ?_
      show OGo p e below _ (T1.setTop (mkF m 136 #[.val (.int q1), .val (.int q2), .val (.int q3), .val (.int j118_l3), .val (.int j118_l4), .val (.int j118_l5), .val (.int j118_l6), .val (.int j118_l7), .val (.int j118_l8)] [(.int (0 : Int32))]))
      exact OGo.outN X1 hx (t := .boolean) Bd.returns (by simp) Bd.notSynchronized (hb hby at_136) ⟨rfl, N1, e1⟩ (by decide) (by decide)
  have J116 : ∀ (T : State) (locs : List Loc) (X : Stand p l e room_1 s m #[(.int q1), (.int q2), (.int q3)] below meth c T locs 0 0) (eT : T.heap = h0) (N : Fr n0 locs) (j116_l3 : Int32) (j116_l4 : Int32) (j116_l5 : Int32) (j116_l6 : Int32) (j116_l7 : Int32) (j116_s0 : Int32), OGo p e below (Out s room_1.cells room_1.slots (PI n0 h0 (g0_j116 q1 q2 q3 j116_l3 j116_l4 j116_l5 j116_l6 j116_l7 j116_s0))) (T.setTop (mkF m 116 #[.val (.int q1), .val (.int q2), .val (.int q3), .val (.int j116_l3), .val (.int j116_l4), .val (.int j116_l5), .val (.int j116_l6), .val (.int j116_l7), .unset] [(.int j116_s0)])) := by
    intro T locs X eT N j116_l3 j116_l4 j116_l5 j116_l6 j116_l7 j116_s0
    show OGo p e below (Out s room_1.cells room_1.slots (PI n0 h0 (g0_j118 q1 q2 q3 j116_l3 j116_l4 j116_l5 j116_l6 j116_l7 j116_s0))) (T.setTop (mkF m 116 #[.val (.int q1), .val (.int q2), .val (.int q3), .val (.int j116_l3), .val (.int j116_l4), .val (.int j116_l5), .val (.int j116_l6), .val (.int j116_l7), .unset] [(.int j116_s0)]))
    refine OGo.st (fun t k => XS.istore X.here hx rfl (hb hby at_116) rfl (l' := #[.val (.int q1), .val (.int q2), .val (.int q3), .val (.int j116_l3), .val (.int j116_l4), .val (.int j116_l5), .val (.int j116_l6), .val (.int j116_l7), .val (.int j116_s0)]) rfl k) ?_
    show OGo p e below _ (T.setTop (mkF m 118 #[.val (.int q1), .val (.int q2), .val (.int q3), .val (.int j116_l3), .val (.int j116_l4), .val (.int j116_l5), .val (.int j116_l6), .val (.int j116_l7), .val (.int j116_s0)] []))
    exact J118 T _ X eT N j116_l3 j116_l4 j116_l5 j116_l6 j116_l7 j116_s0
  have J115 : ∀ (T : State) (locs : List Loc) (X : Stand p l e room_1 s m #[(.int q1), (.int q2), (.int q3)] below meth c T locs 0 0) (eT : T.heap = h0) (N : Fr n0 locs) (j115_l3 : Int32) (j115_l4 : Int32) (j115_l5 : Int32) (j115_l6 : Int32) (j115_l7 : Int32), OGo p e below (Out s room_1.cells room_1.slots (PI n0 h0 (g0_j115 q1 q2 q3 j115_l3 j115_l4 j115_l5 j115_l6 j115_l7))) (T.setTop (mkF m 115 #[.val (.int q1), .val (.int q2), .val (.int q3), .val (.int j115_l3), .val (.int j115_l4), .val (.int j115_l5), .val (.int j115_l6), .val (.int j115_l7), .unset] [])) := by
    intro T locs X eT N j115_l3 j115_l4 j115_l5 j115_l6 j115_l7
    show OGo p e below (Out s room_1.cells room_1.slots (PI n0 h0 (g0_j116 q1 q2 q3 j115_l3 j115_l4 j115_l5 j115_l6 j115_l7 (0 : Int32)))) (T.setTop (mkF m 115 #[.val (.int q1), .val (.int q2), .val (.int q3), .val (.int j115_l3), .val (.int j115_l4), .val (.int j115_l5), .val (.int j115_l6), .val (.int j115_l7), .unset] []))
    refine OGo.st (fun t k => XS.iconst X.here hx rfl (hb hby at_115) k) ?_
    show OGo p e below _ (T.setTop (mkF m 116 #[.val (.int q1), .val (.int q2), .val (.int q3), .val (.int j115_l3), .val (.int j115_l4), .val (.int j115_l5), .val (.int j115_l6), .val (.int j115_l7), .unset] [(.int (0 : Int32))]))
    exact J116 T _ X eT N j115_l3 j115_l4 j115_l5 j115_l6 j115_l7 (0 : Int32)
  have J95 : ∀ (T : State) (locs : List Loc) (X : Stand p l e room_1 s m #[(.int q1), (.int q2), (.int q3)] below meth c T locs 0 0) (eT : T.heap = h0) (N : Fr n0 locs) (j95_l3 : Int32) (j95_l4 : Int32) (j95_l5 : Int32) (j95_l6 : Int32) (j95_l7 : Int32) (j95_s0 : Int32), OGo p e below (Out s room_1.cells room_1.slots (PI n0 h0 (g0_j95 q1 q2 q3 j95_l3 j95_l4 j95_l5 j95_l6 j95_l7 j95_s0))) (T.setTop (mkF m 95 #[.val (.int q1), .val (.int q2), .val (.int q3), .val (.int j95_l3), .val (.int j95_l4), .val (.int j95_l5), .val (.int j95_l6), .val (.int j95_l7), .unset] [(.int j95_s0)])) := by
    intro T locs X eT N j95_l3 j95_l4 j95_l5 j95_l6 j95_l7 j95_s0
    show OGo p e below (Out s room_1.cells room_1.slots (PI n0 h0 (g0_j118 q1 q2 q3 j95_l3 j95_l4 j95_l5 j95_l6 j95_l7 j95_s0))) (T.setTop (mkF m 95 #[.val (.int q1), .val (.int q2), .val (.int q3), .val (.int j95_l3), .val (.int j95_l4), .val (.int j95_l5), .val (.int j95_l6), .val (.int j95_l7), .unset] [(.int j95_s0)]))
    refine OGo.st (fun t k => XS.istore X.here hx rfl (hb hby at_95) rfl (l' := #[.val (.int q1), .val (.int q2), .val (.int q3), .val (.int j95_l3), .val (.int j95_l4), .val (.int j95_l5), .val (.int j95_l6), .val (.int j95_l7), .val (.int j95_s0)]) rfl k) ?_
    show OGo p e below _ (T.setTop (mkF m 97 #[.val (.int q1), .val (.int q2), .val (.int q3), .val (.int j95_l3), .val (.int j95_l4), .val (.int j95_l5), .val (.int j95_l6), .val (.int j95_l7), .val (.int j95_s0)] []))
    refine OGo.st (fun t k => XS.goto X.here hx rfl (pc0 := 97) (pc' := 118) rfl (hb hby at_97) (by decide) (by decide) k) ?_
    show OGo p e below _ (T.setTop (mkF m 118 #[.val (.int q1), .val (.int q2), .val (.int q3), .val (.int j95_l3), .val (.int j95_l4), .val (.int j95_l5), .val (.int j95_l6), .val (.int j95_l7), .val (.int j95_s0)] []))
    exact J118 T _ X eT N j95_l3 j95_l4 j95_l5 j95_l6 j95_l7 j95_s0
  have J94 : ∀ (T : State) (locs : List Loc) (X : Stand p l e room_1 s m #[(.int q1), (.int q2), (.int q3)] below meth c T locs 0 0) (eT : T.heap = h0) (N : Fr n0 locs) (j94_l3 : Int32) (j94_l4 : Int32) (j94_l5 : Int32) (j94_l6 : Int32) (j94_l7 : Int32), OGo p e below (Out s room_1.cells room_1.slots (PI n0 h0 (g0_j94 q1 q2 q3 j94_l3 j94_l4 j94_l5 j94_l6 j94_l7))) (T.setTop (mkF m 94 #[.val (.int q1), .val (.int q2), .val (.int q3), .val (.int j94_l3), .val (.int j94_l4), .val (.int j94_l5), .val (.int j94_l6), .val (.int j94_l7), .unset] [])) := by
    intro T locs X eT N j94_l3 j94_l4 j94_l5 j94_l6 j94_l7
    show OGo p e below (Out s room_1.cells room_1.slots (PI n0 h0 (g0_j95 q1 q2 q3 j94_l3 j94_l4 j94_l5 j94_l6 j94_l7 (0 : Int32)))) (T.setTop (mkF m 94 #[.val (.int q1), .val (.int q2), .val (.int q3), .val (.int j94_l3), .val (.int j94_l4), .val (.int j94_l5), .val (.int j94_l6), .val (.int j94_l7), .unset] []))
    refine OGo.st (fun t k => XS.iconst X.here hx rfl (hb hby at_94) k) ?_
    show OGo p e below _ (T.setTop (mkF m 95 #[.val (.int q1), .val (.int q2), .val (.int q3), .val (.int j94_l3), .val (.int j94_l4), .val (.int j94_l5), .val (.int j94_l6), .val (.int j94_l7), .unset] [(.int (0 : Int32))]))
    exact J95 T _ X eT N j94_l3 j94_l4 j94_l5 j94_l6 j94_l7 (0 : Int32)
  have J90 : ∀ (T : State) (locs : List Loc) (X : Stand p l e room_1 s m #[(.int q1), (.int q2), (.int q3)] below meth c T locs 0 0) (eT : T.heap = h0) (N : Fr n0 locs) (j90_l3 : Int32) (j90_l4 : Int32) (j90_l5 : Int32) (j90_l6 : Int32) (j90_l7 : Int32), OGo p e below (Out s room_1.cells room_1.slots (PI n0 h0 (g0_j90 q1 q2 q3 j90_l3 j90_l4 j90_l5 j90_l6 j90_l7))) (T.setTop (mkF m 90 #[.val (.int q1), .val (.int q2), .val (.int q3), .val (.int j90_l3), .val (.int j90_l4), .val (.int j90_l5), .val (.int j90_l6), .val (.int j90_l7), .unset] [])) := by
    intro T locs X eT N j90_l3 j90_l4 j90_l5 j90_l6 j90_l7
    show OGo p e below (Out s room_1.cells room_1.slots (PI n0 h0 (g0_j95 q1 q2 q3 j90_l3 j90_l4 j90_l5 j90_l6 j90_l7 (1 : Int32)))) (T.setTop (mkF m 90 #[.val (.int q1), .val (.int q2), .val (.int q3), .val (.int j90_l3), .val (.int j90_l4), .val (.int j90_l5), .val (.int j90_l6), .val (.int j90_l7), .unset] []))
    refine OGo.st (fun t k => XS.iconst X.here hx rfl (hb hby at_90) k) ?_
    show OGo p e below _ (T.setTop (mkF m 91 #[.val (.int q1), .val (.int q2), .val (.int q3), .val (.int j90_l3), .val (.int j90_l4), .val (.int j90_l5), .val (.int j90_l6), .val (.int j90_l7), .unset] [(.int (1 : Int32))]))
    refine OGo.st (fun t k => XS.goto X.here hx rfl (pc0 := 91) (pc' := 95) rfl (hb hby at_91) (by decide) (by decide) k) ?_
    show OGo p e below _ (T.setTop (mkF m 95 #[.val (.int q1), .val (.int q2), .val (.int q3), .val (.int j90_l3), .val (.int j90_l4), .val (.int j90_l5), .val (.int j90_l6), .val (.int j90_l7), .unset] [(.int (1 : Int32))]))
    exact J95 T _ X eT N j90_l3 j90_l4 j90_l5 j90_l6 j90_l7 (1 : Int32)
  have J42 : ∀ (T : State) (locs : List Loc) (X : Stand p l e room_1 s m #[(.int q1), (.int q2), (.int q3)] below meth c T locs 0 0) (eT : T.heap = h0) (N : Fr n0 locs) (j42_l3 : Int32) (j42_l4 : Int32) (j42_s0 : Int32), OGo p e below (Out s room_1.cells room_1.slots (PI n0 h0 (g0_j42 q1 q2 q3 j42_l3 j42_l4 j42_s0))) (T.setTop (mkF m 42 #[.val (.int q1), .val (.int q2), .val (.int q3), .val (.int j42_l3), .val (.int j42_l4), .unset, .unset, .unset, .unset] [(.int j42_s0)])) := by
    intro T locs X eT N j42_l3 j42_l4 j42_s0
    show OGo p e below (Out s room_1.cells room_1.slots (PI n0 h0 (g0_60_8 q1 q2 q3 j42_l3 j42_l4 j42_s0))) (T.setTop (mkF m 42 #[.val (.int q1), .val (.int q2), .val (.int q3), .val (.int j42_l3), .val (.int j42_l4), .unset, .unset, .unset, .unset] [(.int j42_s0)]))
    refine OGo.st (fun t k => XS.istore X.here hx rfl (hb hby at_42) rfl (l' := #[.val (.int q1), .val (.int q2), .val (.int q3), .val (.int j42_l3), .val (.int j42_l4), .val (.int j42_s0), .unset, .unset, .unset]) rfl k) ?_
    show OGo p e below _ (T.setTop (mkF m 44 #[.val (.int q1), .val (.int q2), .val (.int q3), .val (.int j42_l3), .val (.int j42_l4), .val (.int j42_s0), .unset, .unset, .unset] []))
    refine OGo.st (fun t k => XS.iload X.here hx rfl (hb hby at_44) rfl k) ?_
    show OGo p e below _ (T.setTop (mkF m 46 #[.val (.int q1), .val (.int q2), .val (.int q3), .val (.int j42_l3), .val (.int j42_l4), .val (.int j42_s0), .unset, .unset, .unset] [(.int j42_l4)]))
    obtain ⟨_, _, ⟨T3, L3, k3, n3⟩, -, X3, ⟨Lc3, hQ3, l3, y3, z3⟩, st3⟩ := Jvm.LawKit.callS X hx (y := (⟨"com/example/tilewright/tilewright/kernel/BlocksWindowsTakeRegistersPinLaw", "rowBand", "(I)I"⟩ : MethodName)) hown (mvT hZ (hw _ (List.mem_of_getElem? (i := 0) rfl))) (mvT hZ (hw _ (List.mem_of_getElem? (i := 1) rfl))) (mvT hZ (hw _ (List.mem_of_getElem? (i := 2) rfl))) (mvT hZ (hw _ (List.mem_of_getElem? (i := 3) rfl))) (by decide) (backOf (W := 0) (rm1 l Z a0 hw [] j42_l4 h0 n0 Z0) hZ (hw _ (List.mem_of_getElem? (i := 3) rfl)) (hw _ (List.mem_of_getElem? (i := 2) rfl)) (by decide) (by decide)) (g := (mkF m 46 #[.val (.int q1), .val (.int q2), .val (.int q3), .val (.int j42_l3), .val (.int j42_l4), .val (.int j42_s0), .unset, .unset, .unset] [(.int j42_l4)])) rfl (by rw [hml]; rfl) (argsL := [(.int j42_l4)]) (rest := []) (lenOf pd0_0 rfl) rfl (by show 2 * 0 + _ ≤ _; exact Nat.le_of_eq rfl) (hb hby at_46) (fun _ _ => ⟨rfl, eT, (by decide : 0 + 0 ≤ _), (by decide : 0 + 0 ≤ _)⟩)
    dsimp only [Pt.U, Pt.locs, Pt.cells, Pt.slots] at X3 l3 y3 z3 st3 hQ3
    subst l3 y3 z3
    obtain ⟨rfl, Nq3, e3⟩ := hQ3
    have N3 := Fr.app N Nq3
    refine OGo.st (fun t k => st3 t k) ?_
    show OGo p e below _ (T3.setTop (mkF m 49 #[.val (.int q1), .val (.int q2), .val (.int q3), .val (.int j42_l3), .val (.int j42_l4), .val (.int j42_s0), .unset, .unset, .unset] [(.int (f1 j42_l4))]))
    refine OGo.st (fun t k => XS.istore X3.here hx rfl (hb hby at_49) rfl (l' := #[.val (.int q1), .val (.int q2), .val (.int q3), .val (.int j42_l3), .val (.int j42_l4), .val (.int j42_s0), .val (.int (f1 j42_l4)), .unset, .unset]) rfl k) ?_
    show OGo p e below _ (T3.setTop (mkF m 51 #[.val (.int q1), .val (.int q2), .val (.int q3), .val (.int j42_l3), .val (.int j42_l4), .val (.int j42_s0), .val (.int (f1 j42_l4)), .unset, .unset] []))
    refine OGo.st (fun t k => XS.iload X3.here hx rfl (hb hby at_51) rfl k) ?_
    show OGo p e below _ (T3.setTop (mkF m 53 #[.val (.int q1), .val (.int q2), .val (.int q3), .val (.int j42_l3), .val (.int j42_l4), .val (.int j42_s0), .val (.int (f1 j42_l4)), .unset, .unset] [(.int j42_s0)]))
    obtain ⟨_, _, ⟨T4, L4, k4, n4⟩, -, X4, ⟨Lc4, hQ4, l4, y4, z4⟩, st4⟩ := Jvm.LawKit.callS X3 hx (y := (⟨"com/example/tilewright/tilewright/kernel/BlocksWindowsTakeRegistersPinLaw", "columnBand", "(I)I"⟩ : MethodName)) hown (mvT hZ (hw _ (List.mem_of_getElem? (i := 4) rfl))) (mvT hZ (hw _ (List.mem_of_getElem? (i := 5) rfl))) (mvT hZ (hw _ (List.mem_of_getElem? (i := 2) rfl))) (mvT hZ (hw _ (List.mem_of_getElem? (i := 6) rfl))) (by decide) (backOf (W := 0) (rm2 l Z a0 hw [] j42_s0 h0 n0 Z0) hZ (hw _ (List.mem_of_getElem? (i := 6) rfl)) (hw _ (List.mem_of_getElem? (i := 2) rfl)) (by decide) (by decide)) (g := (mkF m 53 #[.val (.int q1), .val (.int q2), .val (.int q3), .val (.int j42_l3), .val (.int j42_l4), .val (.int j42_s0), .val (.int (f1 j42_l4)), .unset, .unset] [(.int j42_s0)])) rfl (by rw [hml]; rfl) (argsL := [(.int j42_s0)]) (rest := []) (lenOf pd0_0 rfl) rfl (by show 2 * 0 + _ ≤ _; exact Nat.le_of_eq rfl) (hb hby at_53) (fun _ _ => ⟨rfl, e3, (by decide : 0 + 0 ≤ _), (by decide : 0 + 0 ≤ _)⟩)
    dsimp only [Pt.U, Pt.locs, Pt.cells, Pt.slots] at X4 l4 y4 z4 st4 hQ4
    subst l4 y4 z4
    obtain ⟨rfl, Nq4, e4⟩ := hQ4
    have N4 := Fr.app N3 Nq4
    refine OGo.st (fun t k => st4 t k) ?_
    show OGo p e below _ (T4.setTop (mkF m 56 #[.val (.int q1), .val (.int q2), .val (.int q3), .val (.int j42_l3), .val (.int j42_l4), .val (.int j42_s0), .val (.int (f1 j42_l4)), .unset, .unset] [(.int (f2 j42_s0))]))
    refine OGo.st (fun t k => XS.istore X4.here hx rfl (hb hby at_56) rfl (l' := #[.val (.int q1), .val (.int q2), .val (.int q3), .val (.int j42_l3), .val (.int j42_l4), .val (.int j42_s0), .val (.int (f1 j42_l4)), .val (.int (f2 j42_s0)), .unset]) rfl k) ?_
    show OGo p e below _ (T4.setTop (mkF m 58 #[.val (.int q1), .val (.int q2), .val (.int q3), .val (.int j42_l3), .val (.int j42_l4), .val (.int j42_s0), .val (.int (f1 j42_l4)), .val (.int (f2 j42_s0)), .unset] []))
    refine OGo.st (fun t k => XS.iload X4.here hx rfl (hb hby at_58) rfl k) ?_
    show OGo p e below _ (T4.setTop (mkF m 60 #[.val (.int q1), .val (.int q2), .val (.int q3), .val (.int j42_l3), .val (.int j42_l4), .val (.int j42_s0), .val (.int (f1 j42_l4)), .val (.int (f2 j42_s0)), .unset] [(.int (f2 j42_s0))]))
    by_cases hc60_5 : (f2 j42_s0) = (0 : Int32)
    · refine OGo.eqvI (show (g0_60_8 q1 q2 q3 j42_l3 j42_l4 j42_s0) = (g0_j118 q1 q2 q3 j42_l3 j42_l4 j42_s0 (f1 j42_l4) (f2 j42_s0) (1 : Int32)) from if_pos hc60_5) ?_
      refine OGo.st (fun t k => XS.ifNo X4.here hx rfl (hb hby at_60) rfl ((if0 _ _).trans (teq hc60_5).2) k) ?_
      show OGo p e below _ (T4.setTop (mkF m 63 #[.val (.int q1), .val (.int q2), .val (.int q3), .val (.int j42_l3), .val (.int j42_l4), .val (.int j42_s0), .val (.int (f1 j42_l4)), .val (.int (f2 j42_s0)), .unset] []))
      refine OGo.st (fun t k => XS.iconst X4.here hx rfl (hb hby at_63) k) ?_
      show OGo p e below _ (T4.setTop (mkF m 64 #[.val (.int q1), .val (.int q2), .val (.int q3), .val (.int j42_l3), .val (.int j42_l4), .val (.int j42_s0), .val (.int (f1 j42_l4)), .val (.int (f2 j42_s0)), .unset] [(.int (1 : Int32))]))
      refine OGo.st (fun t k => XS.istore X4.here hx rfl (hb hby at_64) rfl (l' := #[.val (.int q1), .val (.int q2), .val (.int q3), .val (.int j42_l3), .val (.int j42_l4), .val (.int j42_s0), .val (.int (f1 j42_l4)), .val (.int (f2 j42_s0)), .val (.int (1 : Int32))]) rfl k) ?_
      show OGo p e below _ (T4.setTop (mkF m 66 #[.val (.int q1), .val (.int q2), .val (.int q3), .val (.int j42_l3), .val (.int j42_l4), .val (.int j42_s0), .val (.int (f1 j42_l4)), .val (.int (f2 j42_s0)), .val (.int (1 : Int32))] []))
      refine OGo.st (fun t k => XS.goto X4.here hx rfl (pc0 := 66) (pc' := 118) rfl (hb hby at_66) (by decide) (by decide) k) ?_
      show OGo p e below _ (T4.setTop (mkF m 118 #[.val (.int q1), .val (.int q2), .val (.int q3), .val (.int j42_l3), .val (.int j42_l4), .val (.int j42_s0), .val (.int (f1 j42_l4)), .val (.int (f2 j42_s0)), .val (.int (1 : Int32))] []))
      exact J118 T4 _ X4 e4 N4 j42_l3 j42_l4 j42_s0 (f1 j42_l4) (f2 j42_s0) (1 : Int32)
    · refine OGo.eqvI (show (g0_60_8 q1 q2 q3 j42_l3 j42_l4 j42_s0) = (g0_70_7 q1 q2 q3 j42_l3 j42_l4 j42_s0) from if_neg hc60_5) ?_
      refine OGo.st (fun t k => XS.ifYes X4.here hx rfl (pc0 := 60) (pc' := 69) rfl (hb hby at_60) rfl ((if0 _ _).trans (feq hc60_5).2) (by decide) (by decide) k) ?_
      show OGo p e below _ (T4.setTop (mkF m 69 #[.val (.int q1), .val (.int q2), .val (.int q3), .val (.int j42_l3), .val (.int j42_l4), .val (.int j42_s0), .val (.int (f1 j42_l4)), .val (.int (f2 j42_s0)), .unset] []))
      refine OGo.st (fun t k => XS.iloadN X4.here hx rfl (hb hby at_69) rfl k) ?_
      show OGo p e below _ (T4.setTop (mkF m 70 #[.val (.int q1), .val (.int q2), .val (.int q3), .val (.int j42_l3), .val (.int j42_l4), .val (.int j42_s0), .val (.int (f1 j42_l4)), .val (.int (f2 j42_s0)), .unset] [(.int j42_l3)]))
      by_cases hc70_6 : j42_l3 = (0 : Int32)
      · refine OGo.eqvI (show (g0_70_7 q1 q2 q3 j42_l3 j42_l4 j42_s0) = (g0_102_3 q1 q2 q3 j42_l3 j42_l4 j42_s0) from if_pos hc70_6) ?_
        refine OGo.st (fun t k => XS.ifYes X4.here hx rfl (pc0 := 70) (pc' := 100) rfl (hb hby at_70) rfl ((if0 _ _).trans (teq hc70_6).1) (by decide) (by decide) k) ?_
        show OGo p e below _ (T4.setTop (mkF m 100 #[.val (.int q1), .val (.int q2), .val (.int q3), .val (.int j42_l3), .val (.int j42_l4), .val (.int j42_s0), .val (.int (f1 j42_l4)), .val (.int (f2 j42_s0)), .unset] []))
        refine OGo.st (fun t k => XS.iload X4.here hx rfl (hb hby at_100) rfl k) ?_
        show OGo p e below _ (T4.setTop (mkF m 102 #[.val (.int q1), .val (.int q2), .val (.int q3), .val (.int j42_l3), .val (.int j42_l4), .val (.int j42_s0), .val (.int (f1 j42_l4)), .val (.int (f2 j42_s0)), .unset] [(.int (f1 j42_l4))]))
        by_cases hc102_7 : (f1 j42_l4) = (0 : Int32)
        · refine OGo.eqvI (show (g0_102_3 q1 q2 q3 j42_l3 j42_l4 j42_s0) = (g0_108_2 q1 q2 q3 j42_l3 j42_l4 j42_s0) from if_pos hc102_7) ?_
          refine OGo.st (fun t k => XS.ifNo X4.here hx rfl (hb hby at_102) rfl ((if0 _ _).trans (teq hc102_7).2) k) ?_
          show OGo p e below _ (T4.setTop (mkF m 105 #[.val (.int q1), .val (.int q2), .val (.int q3), .val (.int j42_l3), .val (.int j42_l4), .val (.int j42_s0), .val (.int (f1 j42_l4)), .val (.int (f2 j42_s0)), .unset] []))
          refine OGo.st (fun t k => XS.iload X4.here hx rfl (hb hby at_105) rfl k) ?_
          show OGo p e below _ (T4.setTop (mkF m 107 #[.val (.int q1), .val (.int q2), .val (.int q3), .val (.int j42_l3), .val (.int j42_l4), .val (.int j42_s0), .val (.int (f1 j42_l4)), .val (.int (f2 j42_s0)), .unset] [(.int (f2 j42_s0))]))
          refine OGo.st (fun t k => XS.iconst X4.here hx rfl (hb hby at_107) k) ?_
          show OGo p e below _ (T4.setTop (mkF m 108 #[.val (.int q1), .val (.int q2), .val (.int q3), .val (.int j42_l3), .val (.int j42_l4), .val (.int j42_s0), .val (.int (f1 j42_l4)), .val (.int (f2 j42_s0)), .unset] [(.int (1 : Int32)), (.int (f2 j42_s0))]))
          by_cases hc108_8 : (f2 j42_s0) = (1 : Int32)
          · refine OGo.eqvI (show (g0_108_2 q1 q2 q3 j42_l3 j42_l4 j42_s0) = (g0_j116 q1 q2 q3 j42_l3 j42_l4 j42_s0 (f1 j42_l4) (f2 j42_s0) (1 : Int32)) from if_pos hc108_8) ?_
            refine OGo.st (fun t k => XS.icmpNo X4.here hx rfl (hb hby at_108) rfl (teq hc108_8).2 k) ?_
            show OGo p e below _ (T4.setTop (mkF m 111 #[.val (.int q1), .val (.int q2), .val (.int q3), .val (.int j42_l3), .val (.int j42_l4), .val (.int j42_s0), .val (.int (f1 j42_l4)), .val (.int (f2 j42_s0)), .unset] []))
            refine OGo.st (fun t k => XS.iconst X4.here hx rfl (hb hby at_111) k) ?_
            show OGo p e below _ (T4.setTop (mkF m 112 #[.val (.int q1), .val (.int q2), .val (.int q3), .val (.int j42_l3), .val (.int j42_l4), .val (.int j42_s0), .val (.int (f1 j42_l4)), .val (.int (f2 j42_s0)), .unset] [(.int (1 : Int32))]))
            refine OGo.st (fun t k => XS.goto X4.here hx rfl (pc0 := 112) (pc' := 116) rfl (hb hby at_112) (by decide) (by decide) k) ?_
            show OGo p e below _ (T4.setTop (mkF m 116 #[.val (.int q1), .val (.int q2), .val (.int q3), .val (.int j42_l3), .val (.int j42_l4), .val (.int j42_s0), .val (.int (f1 j42_l4)), .val (.int (f2 j42_s0)), .unset] [(.int (1 : Int32))]))
            exact J116 T4 _ X4 e4 N4 j42_l3 j42_l4 j42_s0 (f1 j42_l4) (f2 j42_s0) (1 : Int32)
          · refine OGo.eqvI (show (g0_108_2 q1 q2 q3 j42_l3 j42_l4 j42_s0) = (g0_j115 q1 q2 q3 j42_l3 j42_l4 j42_s0 (f1 j42_l4) (f2 j42_s0)) from if_neg hc108_8) ?_
            refine OGo.st (fun t k => XS.icmpYes X4.here hx rfl (pc0 := 108) (pc' := 115) rfl (hb hby at_108) rfl (feq hc108_8).2 (by decide) (by decide) k) ?_
            show OGo p e below _ (T4.setTop (mkF m 115 #[.val (.int q1), .val (.int q2), .val (.int q3), .val (.int j42_l3), .val (.int j42_l4), .val (.int j42_s0), .val (.int (f1 j42_l4)), .val (.int (f2 j42_s0)), .unset] []))
            exact J115 T4 _ X4 e4 N4 j42_l3 j42_l4 j42_s0 (f1 j42_l4) (f2 j42_s0)
        · refine OGo.eqvI (show (g0_102_3 q1 q2 q3 j42_l3 j42_l4 j42_s0) = (g0_j115 q1 q2 q3 j42_l3 j42_l4 j42_s0 (f1 j42_l4) (f2 j42_s0)) from if_neg hc102_7) ?_
          refine OGo.st (fun t k => XS.ifYes X4.here hx rfl (pc0 := 102) (pc' := 115) rfl (hb hby at_102) rfl ((if0 _ _).trans (feq hc102_7).2) (by decide) (by decide) k) ?_
          show OGo p e below _ (T4.setTop (mkF m 115 #[.val (.int q1), .val (.int q2), .val (.int q3), .val (.int j42_l3), .val (.int j42_l4), .val (.int j42_s0), .val (.int (f1 j42_l4)), .val (.int (f2 j42_s0)), .unset] []))
          exact J115 T4 _ X4 e4 N4 j42_l3 j42_l4 j42_s0 (f1 j42_l4) (f2 j42_s0)
      · refine OGo.eqvI (show (g0_70_7 q1 q2 q3 j42_l3 j42_l4 j42_s0) = (g0_75_6 q1 q2 q3 j42_l3 j42_l4 j42_s0) from if_neg hc70_6) ?_
        refine OGo.st (fun t k => XS.ifNo X4.here hx rfl (hb hby at_70) rfl ((if0 _ _).trans (feq hc70_6).1) k) ?_
        show OGo p e below _ (T4.setTop (mkF m 73 #[.val (.int q1), .val (.int q2), .val (.int q3), .val (.int j42_l3), .val (.int j42_l4), .val (.int j42_s0), .val (.int (f1 j42_l4)), .val (.int (f2 j42_s0)), .unset] []))
        refine OGo.st (fun t k => XS.iload X4.here hx rfl (hb hby at_73) rfl k) ?_
        show OGo p e below _ (T4.setTop (mkF m 75 #[.val (.int q1), .val (.int q2), .val (.int q3), .val (.int j42_l3), .val (.int j42_l4), .val (.int j42_s0), .val (.int (f1 j42_l4)), .val (.int (f2 j42_s0)), .unset] [(.int (f1 j42_l4))]))
        by_cases hc75_9 : (f1 j42_l4) = (0 : Int32)
        · refine OGo.eqvI (show (g0_75_6 q1 q2 q3 j42_l3 j42_l4 j42_s0) = (g0_j90 q1 q2 q3 j42_l3 j42_l4 j42_s0 (f1 j42_l4) (f2 j42_s0)) from if_pos hc75_9) ?_
          refine OGo.st (fun t k => XS.ifYes X4.here hx rfl (pc0 := 75) (pc' := 90) rfl (hb hby at_75) rfl ((if0 _ _).trans (teq hc75_9).1) (by decide) (by decide) k) ?_
          show OGo p e below _ (T4.setTop (mkF m 90 #[.val (.int q1), .val (.int q2), .val (.int q3), .val (.int j42_l3), .val (.int j42_l4), .val (.int j42_s0), .val (.int (f1 j42_l4)), .val (.int (f2 j42_s0)), .unset] []))
          exact J90 T4 _ X4 e4 N4 j42_l3 j42_l4 j42_s0 (f1 j42_l4) (f2 j42_s0)
        · refine OGo.eqvI (show (g0_75_6 q1 q2 q3 j42_l3 j42_l4 j42_s0) = (g0_81_5 q1 q2 q3 j42_l3 j42_l4 j42_s0) from if_neg hc75_9) ?_
          refine OGo.st (fun t k => XS.ifNo X4.here hx rfl (hb hby at_75) rfl ((if0 _ _).trans (feq hc75_9).1) k) ?_
          show OGo p e below _ (T4.setTop (mkF m 78 #[.val (.int q1), .val (.int q2), .val (.int q3), .val (.int j42_l3), .val (.int j42_l4), .val (.int j42_s0), .val (.int (f1 j42_l4)), .val (.int (f2 j42_s0)), .unset] []))
          refine OGo.st (fun t k => XS.iload X4.here hx rfl (hb hby at_78) rfl k) ?_
          show OGo p e below _ (T4.setTop (mkF m 80 #[.val (.int q1), .val (.int q2), .val (.int q3), .val (.int j42_l3), .val (.int j42_l4), .val (.int j42_s0), .val (.int (f1 j42_l4)), .val (.int (f2 j42_s0)), .unset] [(.int (f1 j42_l4))]))
          refine OGo.st (fun t k => XS.iconst X4.here hx rfl (hb hby at_80) k) ?_
          show OGo p e below _ (T4.setTop (mkF m 81 #[.val (.int q1), .val (.int q2), .val (.int q3), .val (.int j42_l3), .val (.int j42_l4), .val (.int j42_s0), .val (.int (f1 j42_l4)), .val (.int (f2 j42_s0)), .unset] [(.int (1 : Int32)), (.int (f1 j42_l4))]))
          by_cases hc81_10 : (f1 j42_l4) = (1 : Int32)
          · refine OGo.eqvI (show (g0_81_5 q1 q2 q3 j42_l3 j42_l4 j42_s0) = (g0_87_4 q1 q2 q3 j42_l3 j42_l4 j42_s0) from if_pos hc81_10) ?_
            refine OGo.st (fun t k => XS.icmpNo X4.here hx rfl (hb hby at_81) rfl (teq hc81_10).2 k) ?_
            show OGo p e below _ (T4.setTop (mkF m 84 #[.val (.int q1), .val (.int q2), .val (.int q3), .val (.int j42_l3), .val (.int j42_l4), .val (.int j42_s0), .val (.int (f1 j42_l4)), .val (.int (f2 j42_s0)), .unset] []))
            refine OGo.st (fun t k => XS.iload X4.here hx rfl (hb hby at_84) rfl k) ?_
            show OGo p e below _ (T4.setTop (mkF m 86 #[.val (.int q1), .val (.int q2), .val (.int q3), .val (.int j42_l3), .val (.int j42_l4), .val (.int j42_s0), .val (.int (f1 j42_l4)), .val (.int (f2 j42_s0)), .unset] [(.int (f2 j42_s0))]))
            refine OGo.st (fun t k => XS.iconst X4.here hx rfl (hb hby at_86) k) ?_
            show OGo p e below _ (T4.setTop (mkF m 87 #[.val (.int q1), .val (.int q2), .val (.int q3), .val (.int j42_l3), .val (.int j42_l4), .val (.int j42_s0), .val (.int (f1 j42_l4)), .val (.int (f2 j42_s0)), .unset] [(.int (3 : Int32)), (.int (f2 j42_s0))]))
            by_cases hc87_11 : (f2 j42_s0) < (3 : Int32)
            · refine OGo.eqvI (show (g0_87_4 q1 q2 q3 j42_l3 j42_l4 j42_s0) = (g0_j90 q1 q2 q3 j42_l3 j42_l4 j42_s0 (f1 j42_l4) (f2 j42_s0)) from if_pos hc87_11) ?_
              refine OGo.st (fun t k => XS.icmpNo X4.here hx rfl (hb hby at_87) rfl (tlt hc87_11).2.1 k) ?_
              show OGo p e below _ (T4.setTop (mkF m 90 #[.val (.int q1), .val (.int q2), .val (.int q3), .val (.int j42_l3), .val (.int j42_l4), .val (.int j42_s0), .val (.int (f1 j42_l4)), .val (.int (f2 j42_s0)), .unset] []))
              exact J90 T4 _ X4 e4 N4 j42_l3 j42_l4 j42_s0 (f1 j42_l4) (f2 j42_s0)
            · refine OGo.eqvI (show (g0_87_4 q1 q2 q3 j42_l3 j42_l4 j42_s0) = (g0_j94 q1 q2 q3 j42_l3 j42_l4 j42_s0 (f1 j42_l4) (f2 j42_s0)) from if_neg hc87_11) ?_
              refine OGo.st (fun t k => XS.icmpYes X4.here hx rfl (pc0 := 87) (pc' := 94) rfl (hb hby at_87) rfl (flt hc87_11).2.1 (by decide) (by decide) k) ?_
              show OGo p e below _ (T4.setTop (mkF m 94 #[.val (.int q1), .val (.int q2), .val (.int q3), .val (.int j42_l3), .val (.int j42_l4), .val (.int j42_s0), .val (.int (f1 j42_l4)), .val (.int (f2 j42_s0)), .unset] []))
              exact J94 T4 _ X4 e4 N4 j42_l3 j42_l4 j42_s0 (f1 j42_l4) (f2 j42_s0)
          · refine OGo.eqvI (show (g0_81_5 q1 q2 q3 j42_l3 j42_l4 j42_s0) = (g0_j94 q1 q2 q3 j42_l3 j42_l4 j42_s0 (f1 j42_l4) (f2 j42_s0)) from if_neg hc81_10) ?_
            refine OGo.st (fun t k => XS.icmpYes X4.here hx rfl (pc0 := 81) (pc' := 94) rfl (hb hby at_81) rfl (feq hc81_10).2 (by decide) (by decide) k) ?_
            show OGo p e below _ (T4.setTop (mkF m 94 #[.val (.int q1), .val (.int q2), .val (.int q3), .val (.int j42_l3), .val (.int j42_l4), .val (.int j42_s0), .val (.int (f1 j42_l4)), .val (.int (f2 j42_s0)), .unset] []))
            exact J94 T4 _ X4 e4 N4 j42_l3 j42_l4 j42_s0 (f1 j42_l4) (f2 j42_s0)
  have J26 : ∀ (T : State) (locs : List Loc) (X : Stand p l e room_1 s m #[(.int q1), (.int q2), (.int q3)] below meth c T locs 0 0) (eT : T.heap = h0) (N : Fr n0 locs) (j26_l3 : Int32) (j26_s0 : Int32), OGo p e below (Out s room_1.cells room_1.slots (PI n0 h0 (g0_j26 q1 q2 q3 j26_l3 j26_s0))) (T.setTop (mkF m 26 #[.val (.int q1), .val (.int q2), .val (.int q3), .val (.int j26_l3), .unset, .unset, .unset, .unset, .unset] [(.int j26_s0)])) := by
    intro T locs X eT N j26_l3 j26_s0
    show OGo p e below (Out s room_1.cells room_1.slots (PI n0 h0 (g0_31_9 q1 q2 q3 j26_l3 j26_s0))) (T.setTop (mkF m 26 #[.val (.int q1), .val (.int q2), .val (.int q3), .val (.int j26_l3), .unset, .unset, .unset, .unset, .unset] [(.int j26_s0)]))
    refine OGo.st (fun t k => XS.istore X.here hx rfl (hb hby at_26) rfl (l' := #[.val (.int q1), .val (.int q2), .val (.int q3), .val (.int j26_l3), .val (.int j26_s0), .unset, .unset, .unset, .unset]) rfl k) ?_
    show OGo p e below _ (T.setTop (mkF m 28 #[.val (.int q1), .val (.int q2), .val (.int q3), .val (.int j26_l3), .val (.int j26_s0), .unset, .unset, .unset, .unset] []))
    refine OGo.st (fun t k => XS.iloadN X.here hx rfl (hb hby at_28) rfl k) ?_
    show OGo p e below _ (T.setTop (mkF m 29 #[.val (.int q1), .val (.int q2), .val (.int q3), .val (.int j26_l3), .val (.int j26_s0), .unset, .unset, .unset, .unset] [(.int q3)]))
    refine OGo.st (fun t k => XS.iconst X.here hx rfl (hb hby at_29) k) ?_
    show OGo p e below _ (T.setTop (mkF m 30 #[.val (.int q1), .val (.int q2), .val (.int q3), .val (.int j26_l3), .val (.int j26_s0), .unset, .unset, .unset, .unset] [(.int (4 : Int32)), (.int q3)]))
    refine OGo.st (fun t k => XS.iand X.here hx rfl (hb hby at_30) rfl k) ?_
    show OGo p e below _ (T.setTop (mkF m 31 #[.val (.int q1), .val (.int q2), .val (.int q3), .val (.int j26_l3), .val (.int j26_s0), .unset, .unset, .unset, .unset] [(.int (q3 &&& (4 : Int32)))]))
    by_cases hc31_12 : (q3 &&& (4 : Int32)) = (0 : Int32)
    · refine OGo.eqvI (show (g0_31_9 q1 q2 q3 j26_l3 j26_s0) = (g0_j42 q1 q2 q3 j26_l3 j26_s0 q2) from if_pos hc31_12) ?_
      refine OGo.st (fun t k => XS.ifYes X.here hx rfl (pc0 := 31) (pc' := 41) rfl (hb hby at_31) rfl ((if0 _ _).trans (teq hc31_12).1) (by decide) (by decide) k) ?_
      show OGo p e below _ (T.setTop (mkF m 41 #[.val (.int q1), .val (.int q2), .val (.int q3), .val (.int j26_l3), .val (.int j26_s0), .unset, .unset, .unset, .unset] []))
      refine OGo.st (fun t k => XS.iloadN X.here hx rfl (hb hby at_41) rfl k) ?_
      show OGo p e below _ (T.setTop (mkF m 42 #[.val (.int q1), .val (.int q2), .val (.int q3), .val (.int j26_l3), .val (.int j26_s0), .unset, .unset, .unset, .unset] [(.int q2)]))
      exact J42 T _ X eT N j26_l3 j26_s0 q2
    · refine OGo.eqvI (show (g0_31_9 q1 q2 q3 j26_l3 j26_s0) = (g0_j42 q1 q2 q3 j26_l3 j26_s0 (q2 - (q2 / (64 : Int32)) * (64 : Int32))) from if_neg hc31_12) ?_
      refine OGo.st (fun t k => XS.ifNo X.here hx rfl (hb hby at_31) rfl ((if0 _ _).trans (feq hc31_12).1) k) ?_
      show OGo p e below _ (T.setTop (mkF m 34 #[.val (.int q1), .val (.int q2), .val (.int q3), .val (.int j26_l3), .val (.int j26_s0), .unset, .unset, .unset, .unset] []))
      refine OGo.st (fun t k => XS.iloadN X.here hx rfl (hb hby at_34) rfl k) ?_
      show OGo p e below _ (T.setTop (mkF m 35 #[.val (.int q1), .val (.int q2), .val (.int q3), .val (.int j26_l3), .val (.int j26_s0), .unset, .unset, .unset, .unset] [(.int q2)]))
      refine OGo.st (fun t k => XS.bipush X.here hx rfl (hb hby at_35) k) ?_
      show OGo p e below _ (T.setTop (mkF m 37 #[.val (.int q1), .val (.int q2), .val (.int q3), .val (.int j26_l3), .val (.int j26_s0), .unset, .unset, .unset, .unset] [(.int (64 : Int32)), (.int q2)]))
      refine OGo.st (fun t k => XS.irem X.here hx rfl (hb hby at_37) rfl (by decide) k) ?_
      show OGo p e below _ (T.setTop (mkF m 38 #[.val (.int q1), .val (.int q2), .val (.int q3), .val (.int j26_l3), .val (.int j26_s0), .unset, .unset, .unset, .unset] [(.int (q2 - (q2 / (64 : Int32)) * (64 : Int32)))]))
      refine OGo.st (fun t k => XS.goto X.here hx rfl (pc0 := 38) (pc' := 42) rfl (hb hby at_38) (by decide) (by decide) k) ?_
      show OGo p e below _ (T.setTop (mkF m 42 #[.val (.int q1), .val (.int q2), .val (.int q3), .val (.int j26_l3), .val (.int j26_s0), .unset, .unset, .unset, .unset] [(.int (q2 - (q2 / (64 : Int32)) * (64 : Int32)))]))
      exact J42 T _ X eT N j26_l3 j26_s0 (q2 - (q2 / (64 : Int32)) * (64 : Int32))
  have J11 : ∀ (T : State) (locs : List Loc) (X : Stand p l e room_1 s m #[(.int q1), (.int q2), (.int q3)] below meth c T locs 0 0) (eT : T.heap = h0) (N : Fr n0 locs) (j11_s0 : Int32), OGo p e below (Out s room_1.cells room_1.slots (PI n0 h0 (g0_j11 q1 q2 q3 j11_s0))) (T.setTop (mkF m 11 #[.val (.int q1), .val (.int q2), .val (.int q3), .unset, .unset, .unset, .unset, .unset, .unset] [(.int j11_s0)])) := by
    intro T locs X eT N j11_s0
    show OGo p e below (Out s room_1.cells room_1.slots (PI n0 h0 (g0_15_10 q1 q2 q3 j11_s0))) (T.setTop (mkF m 11 #[.val (.int q1), .val (.int q2), .val (.int q3), .unset, .unset, .unset, .unset, .unset, .unset] [(.int j11_s0)]))
    refine OGo.st (fun t k => XS.istoreN X.here hx rfl (hb hby at_11) rfl (l' := #[.val (.int q1), .val (.int q2), .val (.int q3), .val (.int j11_s0), .unset, .unset, .unset, .unset, .unset]) rfl k) ?_
    show OGo p e below _ (T.setTop (mkF m 12 #[.val (.int q1), .val (.int q2), .val (.int q3), .val (.int j11_s0), .unset, .unset, .unset, .unset, .unset] []))
    refine OGo.st (fun t k => XS.iloadN X.here hx rfl (hb hby at_12) rfl k) ?_
    show OGo p e below _ (T.setTop (mkF m 13 #[.val (.int q1), .val (.int q2), .val (.int q3), .val (.int j11_s0), .unset, .unset, .unset, .unset, .unset] [(.int q3)]))
    refine OGo.st (fun t k => XS.iconst X.here hx rfl (hb hby at_13) k) ?_
    show OGo p e below _ (T.setTop (mkF m 14 #[.val (.int q1), .val (.int q2), .val (.int q3), .val (.int j11_s0), .unset, .unset, .unset, .unset, .unset] [(.int (2 : Int32)), (.int q3)]))
    refine OGo.st (fun t k => XS.iand X.here hx rfl (hb hby at_14) rfl k) ?_
    show OGo p e below _ (T.setTop (mkF m 15 #[.val (.int q1), .val (.int q2), .val (.int q3), .val (.int j11_s0), .unset, .unset, .unset, .unset, .unset] [(.int (q3 &&& (2 : Int32)))]))
    by_cases hc15_13 : (q3 &&& (2 : Int32)) = (0 : Int32)
    · refine OGo.eqvI (show (g0_15_10 q1 q2 q3 j11_s0) = (g0_j26 q1 q2 q3 j11_s0 q1) from if_pos hc15_13) ?_
      refine OGo.st (fun t k => XS.ifYes X.here hx rfl (pc0 := 15) (pc' := 25) rfl (hb hby at_15) rfl ((if0 _ _).trans (teq hc15_13).1) (by decide) (by decide) k) ?_
      show OGo p e below _ (T.setTop (mkF m 25 #[.val (.int q1), .val (.int q2), .val (.int q3), .val (.int j11_s0), .unset, .unset, .unset, .unset, .unset] []))
      refine OGo.st (fun t k => XS.iloadN X.here hx rfl (hb hby at_25) rfl k) ?_
      show OGo p e below _ (T.setTop (mkF m 26 #[.val (.int q1), .val (.int q2), .val (.int q3), .val (.int j11_s0), .unset, .unset, .unset, .unset, .unset] [(.int q1)]))
      exact J26 T _ X eT N j11_s0 q1
    · refine OGo.eqvI (show (g0_15_10 q1 q2 q3 j11_s0) = (g0_j26 q1 q2 q3 j11_s0 (q1 - (q1 / (64 : Int32)) * (64 : Int32))) from if_neg hc15_13) ?_
      refine OGo.st (fun t k => XS.ifNo X.here hx rfl (hb hby at_15) rfl ((if0 _ _).trans (feq hc15_13).1) k) ?_
      show OGo p e below _ (T.setTop (mkF m 18 #[.val (.int q1), .val (.int q2), .val (.int q3), .val (.int j11_s0), .unset, .unset, .unset, .unset, .unset] []))
      refine OGo.st (fun t k => XS.iloadN X.here hx rfl (hb hby at_18) rfl k) ?_
      show OGo p e below _ (T.setTop (mkF m 19 #[.val (.int q1), .val (.int q2), .val (.int q3), .val (.int j11_s0), .unset, .unset, .unset, .unset, .unset] [(.int q1)]))
      refine OGo.st (fun t k => XS.bipush X.here hx rfl (hb hby at_19) k) ?_
      show OGo p e below _ (T.setTop (mkF m 21 #[.val (.int q1), .val (.int q2), .val (.int q3), .val (.int j11_s0), .unset, .unset, .unset, .unset, .unset] [(.int (64 : Int32)), (.int q1)]))
      refine OGo.st (fun t k => XS.irem X.here hx rfl (hb hby at_21) rfl (by decide) k) ?_
      show OGo p e below _ (T.setTop (mkF m 22 #[.val (.int q1), .val (.int q2), .val (.int q3), .val (.int j11_s0), .unset, .unset, .unset, .unset, .unset] [(.int (q1 - (q1 / (64 : Int32)) * (64 : Int32)))]))
      refine OGo.st (fun t k => XS.goto X.here hx rfl (pc0 := 22) (pc' := 26) rfl (hb hby at_22) (by decide) (by decide) k) ?_
      show OGo p e below _ (T.setTop (mkF m 26 #[.val (.int q1), .val (.int q2), .val (.int q3), .val (.int j11_s0), .unset, .unset, .unset, .unset, .unset] [(.int (q1 - (q1 / (64 : Int32)) * (64 : Int32)))]))
      exact J26 T _ X eT N j11_s0 (q1 - (q1 / (64 : Int32)) * (64 : Int32))
  refine OGo.st (fun t k => castTop (ef0 m q1 q2 q3) k) ?_
  show OGo p e below (Out s room_1.cells room_1.slots (PI n0 h0 (g0_3_11 q1 q2 q3))) (s₁.setTop (mkF m 0 #[.val (.int q1), .val (.int q2), .val (.int q3), .unset, .unset, .unset, .unset, .unset, .unset] []))
  refine OGo.st (fun t k => XS.iloadN X0.here hx rfl (hb hby at_0) rfl k) ?_
  show OGo p e below _ (s₁.setTop (mkF m 1 #[.val (.int q1), .val (.int q2), .val (.int q3), .unset, .unset, .unset, .unset, .unset, .unset] [(.int q3)]))
  refine OGo.st (fun t k => XS.iconst X0.here hx rfl (hb hby at_1) k) ?_
  show OGo p e below _ (s₁.setTop (mkF m 2 #[.val (.int q1), .val (.int q2), .val (.int q3), .unset, .unset, .unset, .unset, .unset, .unset] [(.int (1 : Int32)), (.int q3)]))
  refine OGo.st (fun t k => XS.iand X0.here hx rfl (hb hby at_2) rfl k) ?_
  show OGo p e below _ (s₁.setTop (mkF m 3 #[.val (.int q1), .val (.int q2), .val (.int q3), .unset, .unset, .unset, .unset, .unset, .unset] [(.int (q3 &&& (1 : Int32)))]))
  by_cases hc3_14 : (q3 &&& (1 : Int32)) = (0 : Int32)
  · refine OGo.eqvI (show (g0_3_11 q1 q2 q3) = (g0_j11 q1 q2 q3 (0 : Int32)) from if_pos hc3_14) ?_
    refine OGo.st (fun t k => XS.ifYes X0.here hx rfl (pc0 := 3) (pc' := 10) rfl (hb hby at_3) rfl ((if0 _ _).trans (teq hc3_14).1) (by decide) (by decide) k) ?_
    show OGo p e below _ (s₁.setTop (mkF m 10 #[.val (.int q1), .val (.int q2), .val (.int q3), .unset, .unset, .unset, .unset, .unset, .unset] []))
    refine OGo.st (fun t k => XS.iconst X0.here hx rfl (hb hby at_10) k) ?_
    show OGo p e below _ (s₁.setTop (mkF m 11 #[.val (.int q1), .val (.int q2), .val (.int q3), .unset, .unset, .unset, .unset, .unset, .unset] [(.int (0 : Int32))]))
    exact J11 s₁ _ X0 e0 N0 (0 : Int32)
  · refine OGo.eqvI (show (g0_3_11 q1 q2 q3) = (g0_j11 q1 q2 q3 (1 : Int32)) from if_neg hc3_14) ?_
    refine OGo.st (fun t k => XS.ifNo X0.here hx rfl (hb hby at_3) rfl ((if0 _ _).trans (feq hc3_14).1) k) ?_
    show OGo p e below _ (s₁.setTop (mkF m 6 #[.val (.int q1), .val (.int q2), .val (.int q3), .unset, .unset, .unset, .unset, .unset, .unset] []))
    refine OGo.st (fun t k => XS.iconst X0.here hx rfl (hb hby at_6) k) ?_
    show OGo p e below _ (s₁.setTop (mkF m 7 #[.val (.int q1), .val (.int q2), .val (.int q3), .unset, .unset, .unset, .unset, .unset, .unset] [(.int (1 : Int32))]))
    refine OGo.st (fun t k => XS.goto X0.here hx rfl (pc0 := 7) (pc' := 11) rfl (hb hby at_7) (by decide) (by decide) k) ?_
    show OGo p e below _ (s₁.setTop (mkF m 11 #[.val (.int q1), .val (.int q2), .val (.int q3), .unset, .unset, .unset, .unset, .unset, .unset] [(.int (1 : Int32))]))
    exact J11 s₁ _ X0 e0 N0 (1 : Int32)
theorem own_bandR (x : Int32) : (x < 5 ∧ x < 10) ∨ (¬ x < 5 ∧ x < 10) ∨ (¬ x < 5 ∧ ¬ x < 10) := by
  simp only [Int32.lt_iff_toInt_lt, Int32.reduceToInt]; omega
theorem own_bandC (x : Int32) : (x < 17 ∧ x < 32 ∧ x < 48) ∨ (¬ x < 17 ∧ x < 32 ∧ x < 48) ∨ (¬ x < 17 ∧ ¬ x < 32 ∧ x < 48) ∨ (¬ x < 17 ∧ ¬ x < 32 ∧ ¬ x < 48) := by
  simp only [Int32.lt_iff_toInt_lt, Int32.reduceToInt]; omega
theorem own_j42 (q1 q2 q3 t a b : Int32) : g0_j42 q1 q2 q3 t a b = 1 := by
  rcases own_bandR a with ⟨r1, r2⟩ | ⟨r1, r2⟩ | ⟨r1, r2⟩ <;> rcases own_bandC b with ⟨c1, c2, c3⟩ | ⟨c1, c2, c3⟩ | ⟨c1, c2, c3⟩ | ⟨c1, c2, c3⟩ <;> by_cases ht : t = 0 <;>
    simp +decide [f1, f2, f3, g0_128_1, g0_j118, g0_j116, g0_j115, g0_j95, g0_j94, g0_j90, g0_108_2, g0_102_3, g0_87_4, g0_81_5, g0_75_6, g0_70_7, g0_60_8, g0_j42, g0_31_9, g0_j26, g0_15_10, g0_j11, g0_3_11, g1_10_1, g1_2_2, g2_19_1, g2_11_2, g2_3_3, g3_43_1, g3_37_2, g3_26_3, g3_20_4, g3_14_5, g3_9_6, g3_3_7, r1, r2, c1, c2, c3, ht]
theorem law_eq (q1 q2 q3 : Int32) : f0 q1 q2 q3 = 1 := by
  simp only [f0, g0_3_11, g0_j11, g0_15_10, g0_j26, g0_31_9, own_j42, ite_self]

set_option maxRecDepth 65536 in
set_option maxHeartbeats 40000000 in
theorem comes_1 {Post : Tables → Env → Array Value → State → Outcome → State → Prop} (hpost : ∀ tb e args s v u, (limb_1_1.after args s (.returned v) u = true ∧ limb_1_2.after args s (.returned v) u = true ∧ True) → FrameEnd s (.returned v) u (Jvm.fieldLocs frame_1_writes args s ++ Jvm.arrayLocs frame_1_arrays args s ++ Jvm.staticLocs frame_1_statics s) 0 0 → Post tb e args s (.returned v) u) :
    ArmFor flags0 classFile x code maxLocals ret World_1 tables_1 room_1 Calls_1 rest_1 Pre_1 Post := by
  intro l hfl _ _ p e ha hc hk s m args below hf hA hF happ hP
  obtain ⟨hcalls, hrest, hpre⟩ := hP
  obtain ⟨-, -, -, hnamed, -, -, -, hat⟩ := (Spec.applies_iff hf).mp happ
  obtain ⟨hg, hn⟩ := and_e (Cond.before_iff.mp (show (Jvm.Cond.and given_1 narrow_1).before args s = true from hpre))
  obtain ⟨gg1, gg2⟩ := and_e hg
  obtain ⟨gg3, gg4⟩ := and_e gg2
  obtain ⟨gg5, gg6⟩ := and_e gg4
  obtain ⟨w0, w1, w2, rfl⟩ : ∃ w0 w1 w2 : Value, args = #[w0, w1, w2] := by
    have hs : args.size = 3 := by simpa [Cond.value, given_1] using gg1
    obtain ⟨L⟩ := args
    match L, hs with
    | [w0, w1, w2], _ => exact ⟨w0, w1, w2, rfl⟩
  have hw := fun d (hd : d ∈ tables_1) => atoms_spec (ws := Jvm.Cond.code x code maxLocals ret :: tables_1) hat d (List.mem_cons_of_mem _ hd)
  obtain ⟨i0, ei0⟩ := is_v gg3
  obtain rfl : w0 = (.int i0) := Option.some.inj ei0
  obtain ⟨i1, ei1⟩ := is_v gg5
  obtain rfl : w1 = (.int i1) := Option.some.inj ei1
  obtain ⟨i2, ei2⟩ := is_v gg6
  obtain rfl : w2 = (.int i2) := Option.some.inj ei2
  obtain ⟨n, o, h1, h2, h3, _, L, rfl, ⟨hv, N, -⟩, hq⟩ := rm0 l s _ hw tables_1 i0 i1 i2 s.heap s.heap.size (Nat.le_refl _) p e ha hc hk s m _ below hf ((Spec.applies_iff_loose hf).mp happ).1 ⟨rfl, State.Warmed39.refl s, rfl⟩ trivial
  rw [law_eq] at hv
  subst hv
  refine ⟨n, _, h1, h2, h3, hpost _ _ _ _ _ _ ⟨Cond.after_iff.mpr rfl, Cond.after_iff.mpr (eq_i res_at (Term.int_eval (1)) rfl), trivial⟩ ⟨hq.1, hq.2.1, (hq.2.2.sift fun y hy => Or.inr (N y hy)).mono (by decide) (by decide)⟩⟩
theorem main_1_1 : Claimed_1_1 := comes_1 fun _ _ _ _ _ _ h hF => ⟨h.1, hF⟩
theorem main_1_2 : Claimed_1_2 := comes_1 fun _ _ _ _ _ _ h hF => ⟨h.2.1, hF⟩
end Jvm.Pilot.@@N@@
namespace Jvm.Pilot.@@N@@
open Jvm Jvm.ClassFile Sem Op Lib Jvm.Free Jvm.Stand Jvm.Pilot.@@N@@.Jvm.D
/-! MADE BY PROGRAM (witnessworld.py) out of the Statement's table words and the real class files: 9 classes; the members and pool entries that the words name. The judged class is class 1, her method 3. -/
namespace start1
open Jvm.ClassFile
def u (s : String) : CpInfo := .utf8 (stringToUtf16 s)
/-- a pool by its gaps: so many unusable entries, then the entry; so many at the end -/
def gap : Nat → List CpInfo → List CpInfo
  | 0, r => r
  | n + 1, r => .unusable :: gap n r
def poolList (es : List (Nat × CpInfo)) (last : Nat) : List CpInfo := es.foldr (fun e r => gap e.1 (e.2 :: r)) (gap last [])
def pool (es : List (Nat × CpInfo)) (last : Nat) : Array CpInfo := ⟨poolList es last⟩
def fileOf (pool : Array CpInfo) (this : Nat) (attrs : Array Attribute := #[]) (ms : Array MethodInfo := #[]) (fl : Nat := 33) (sup : Nat := 0) (ifs : Array Nat := #[]) (fds : Array FieldInfo := #[]) : ClassFile where
  minorVersion := 0
  majorVersion := 65
  constantPool := pool
  accessFlags := fl
  thisClass := this
  superClass := sup
  interfaces := ifs
  fields := fds
  methods := ms
  attributes := attrs
def plain (name : String) (sup : Option ClassId) : Class where
  name := name
  kind := .ordinary
  loader := none
  accessFlags := 33
  super := sup
  interfaces := #[]
  cf := none
  fields := #[]
  methods := #[]
  instanceTypes := #[]
  staticTypes := #[]
  resolved := #[]
  callSites := []
  init := .initialized
  statics := none
  mirror := none

def pool0 : Array CpInfo := pool [(5, u "<init>"), (0, u "()V"), (1, .class_ 10), (1, u "java/lang/Object")] 113

def k0m0 : Method := { name := "<init>", desc := "()V", sig := { parameters := [], returnType := none }, accessFlags := 1, code := none }
/-- java/lang/Object -/
def k0 : Class := { plain "java/lang/Object" none with
  accessFlags := 33
  interfaces := #[]
  cf := some (fileOf pool0 8 #[] #[{ accessFlags := 1, nameIndex := 5, descriptorIndex := 6, attributes := #[] }] 33 0 #[] #[])
  fields := #[]
  methods := #[k0m0]
  instanceTypes := #[]
  staticTypes := #[]
  resolved := Array.replicate 124 none
  statics := none }

def pool1 : Array CpInfo := pool [(2, .class_ 4), (1, u "java/lang/Object"), (0, u "<init>"), (0, u "()V"), (0, .methodref 8 9), (0, .class_ 10), (0, .nameAndType 11 12), (0, u "com/example/tilewright/tilewright/kernel/BlocksWindowsTakeRegistersPinLaw"), (0, u "rowBand"), (0, u "(I)I"), (0, .methodref 8 14), (0, .nameAndType 15 12), (0, u "columnBand"), (0, .methodref 17 18), (0, .class_ 19), (0, .nameAndType 20 21), (0, u "com/example/tilewright/tilewright/kernel/Blocks"), (0, u "windowsTakeRegisters"), (0, u "(IIZ)Z"), (3, u "law"), (0, u "(III)Z")] 2

def k1m0 : Method := { name := "<init>", desc := "()V", sig := { parameters := [], returnType := none }, accessFlags := 2, code := none }
def k1c1 : Code := { maxStack := 2, maxLocals := 1, code := method_2_code, exceptionTable := #[], attributes := #[] }
def k1m1 : Method := { name := "rowBand", desc := "(I)I", sig := { parameters := [.int], returnType := some .int }, accessFlags := 10, code := some k1c1 }
def k1c2 : Code := { maxStack := 2, maxLocals := 1, code := method_3_code, exceptionTable := #[], attributes := #[] }
def k1m2 : Method := { name := "columnBand", desc := "(I)I", sig := { parameters := [.int], returnType := some .int }, accessFlags := 10, code := some k1c2 }
def k1c3 : Code := { maxStack := 3, maxLocals := 9, code := code, exceptionTable := #[], attributes := #[] }
def k1m3 : Method := { name := "law", desc := "(III)Z", sig := { parameters := [.int, .int, .int], returnType := some .boolean }, accessFlags := 9, code := some k1c3 }
/-- com/example/tilewright/tilewright/kernel/BlocksWindowsTakeRegistersPinLaw -/
def k1 : Class := { plain "com/example/tilewright/tilewright/kernel/BlocksWindowsTakeRegistersPinLaw" (some 0) with
  accessFlags := 49
  interfaces := #[]
  cf := some (fileOf pool1 8 #[] #[{ accessFlags := 2, nameIndex := 5, descriptorIndex := 6, attributes := #[] }, { accessFlags := 10, nameIndex := 11, descriptorIndex := 12, attributes := #[] }, { accessFlags := 10, nameIndex := 15, descriptorIndex := 12, attributes := #[] }, { accessFlags := 9, nameIndex := 25, descriptorIndex := 26, attributes := #[] }] 49 2 #[] #[])
  fields := #[]
  methods := #[k1m0, k1m1, k1m2, k1m3]
  instanceTypes := #[]
  staticTypes := #[]
  resolved := Array.replicate 29 none
  statics := none }

def pool2 : Array CpInfo := pool [(2, .class_ 4), (1, u "java/lang/Object"), (0, u "<init>"), (0, u "()V"), (1, .class_ 10), (1, u "com/example/tilewright/tilewright/kernel/Blocks"), (16, u "REGISTER_TILE_SIDE"), (0, u "I"), (2, u "SMALL_SQUARES_MIN_SIDE"), (1, u "SMALL_SQUARES_MAX_SIDE"), (1, u "SMALL_SQUARES_MAX_INTO_SIDE"), (1, u "FLOAT_SMALL_SQUARES_MAX_SIDE"), (1, u "SMALL_B_MIN_SIDE"), (0, u "SMALL_B_MAX_SIDE"), (0, u "SMALL_PANEL_MAX_B_ENTRIES"), (1, u "SMALL_PANEL_MAX_COLUMNS"), (1, u "MIN_PANEL_COLUMNS_OVER_REGISTERS"), (1, u "MAX_REGISTER_B_ENTRIES"), (1, u "MIN_PANEL_TRANSPOSED_B_ROWS"), (1, u "MIN_PANEL_TRANSPOSED_B_COLUMNS"), (1, u "MIN_PANEL_WINDOW_COLUMNS"), (1, u "MIN_PANEL_WINDOW_ROWS"), (1, u "MIN_PANEL_FEW_ROWS_WINDOW_COLUMNS"), (0, u "MIN_PANEL_TRANSPOSED_B_WINDOW_ROWS"), (0, u "MIN_PANEL_TRANSPOSED_B_WINDOW_COLUMNS"), (1, u "MOST_TERMS_OF_GENERAL_GRAM"), (0, u "MOST_WINDOW_GRAM_REGISTER_COLUMNS"), (1, u "MOST_ROW_GRAM_REGISTER_COLUMNS"), (20, u "windowsTakeRegisters"), (0, u "(IIZ)Z")] 6

def k2m0 : Method := { name := "<init>", desc := "()V", sig := { parameters := [], returnType := none }, accessFlags := 2, code := none }
def k2c1 : Code := { maxStack := 2, maxLocals := 3, code := prog_6_method_18_code, exceptionTable := #[], attributes := #[] }
def k2m1 : Method := { name := "windowsTakeRegisters", desc := "(IIZ)Z", sig := { parameters := [.int, .int, .boolean], returnType := some .boolean }, accessFlags := 9, code := some k2c1 }
/-- com/example/tilewright/tilewright/kernel/Blocks -/
def k2 : Class := { plain "com/example/tilewright/tilewright/kernel/Blocks" (some 0) with
  accessFlags := 49
  interfaces := #[]
  cf := some (fileOf pool2 8 #[] #[{ accessFlags := 2, nameIndex := 5, descriptorIndex := 6, attributes := #[] }, { accessFlags := 9, nameIndex := 85, descriptorIndex := 86, attributes := #[] }] 49 2 #[] #[{ accessFlags := 24, nameIndex := 27, descriptorIndex := 28, attributes := #[] }, { accessFlags := 24, nameIndex := 31, descriptorIndex := 28, attributes := #[] }, { accessFlags := 24, nameIndex := 33, descriptorIndex := 28, attributes := #[] }, { accessFlags := 24, nameIndex := 35, descriptorIndex := 28, attributes := #[] }, { accessFlags := 24, nameIndex := 37, descriptorIndex := 28, attributes := #[] }, { accessFlags := 24, nameIndex := 39, descriptorIndex := 28, attributes := #[] }, { accessFlags := 24, nameIndex := 40, descriptorIndex := 28, attributes := #[] }, { accessFlags := 24, nameIndex := 41, descriptorIndex := 28, attributes := #[] }, { accessFlags := 24, nameIndex := 43, descriptorIndex := 28, attributes := #[] }, { accessFlags := 26, nameIndex := 45, descriptorIndex := 28, attributes := #[] }, { accessFlags := 26, nameIndex := 47, descriptorIndex := 28, attributes := #[] }, { accessFlags := 26, nameIndex := 49, descriptorIndex := 28, attributes := #[] }, { accessFlags := 26, nameIndex := 51, descriptorIndex := 28, attributes := #[] }, { accessFlags := 26, nameIndex := 53, descriptorIndex := 28, attributes := #[] }, { accessFlags := 26, nameIndex := 55, descriptorIndex := 28, attributes := #[] }, { accessFlags := 26, nameIndex := 57, descriptorIndex := 28, attributes := #[] }, { accessFlags := 26, nameIndex := 58, descriptorIndex := 28, attributes := #[] }, { accessFlags := 26, nameIndex := 59, descriptorIndex := 28, attributes := #[] }, { accessFlags := 26, nameIndex := 61, descriptorIndex := 28, attributes := #[] }, { accessFlags := 26, nameIndex := 62, descriptorIndex := 28, attributes := #[] }, { accessFlags := 26, nameIndex := 64, descriptorIndex := 28, attributes := #[] }])
  fields := #[{ name := "REGISTER_TILE_SIDE", type := .int, accessFlags := 24, slot := 0, constantValue := 0 }, { name := "SMALL_SQUARES_MIN_SIDE", type := .int, accessFlags := 24, slot := 1, constantValue := 0 }, { name := "SMALL_SQUARES_MAX_SIDE", type := .int, accessFlags := 24, slot := 2, constantValue := 0 }, { name := "SMALL_SQUARES_MAX_INTO_SIDE", type := .int, accessFlags := 24, slot := 3, constantValue := 0 }, { name := "FLOAT_SMALL_SQUARES_MAX_SIDE", type := .int, accessFlags := 24, slot := 4, constantValue := 0 }, { name := "SMALL_B_MIN_SIDE", type := .int, accessFlags := 24, slot := 5, constantValue := 0 }, { name := "SMALL_B_MAX_SIDE", type := .int, accessFlags := 24, slot := 6, constantValue := 0 }, { name := "SMALL_PANEL_MAX_B_ENTRIES", type := .int, accessFlags := 24, slot := 7, constantValue := 0 }, { name := "SMALL_PANEL_MAX_COLUMNS", type := .int, accessFlags := 24, slot := 8, constantValue := 0 }, { name := "MIN_PANEL_COLUMNS_OVER_REGISTERS", type := .int, accessFlags := 26, slot := 9, constantValue := 0 }, { name := "MAX_REGISTER_B_ENTRIES", type := .int, accessFlags := 26, slot := 10, constantValue := 0 }, { name := "MIN_PANEL_TRANSPOSED_B_ROWS", type := .int, accessFlags := 26, slot := 11, constantValue := 0 }, { name := "MIN_PANEL_TRANSPOSED_B_COLUMNS", type := .int, accessFlags := 26, slot := 12, constantValue := 0 }, { name := "MIN_PANEL_WINDOW_COLUMNS", type := .int, accessFlags := 26, slot := 13, constantValue := 0 }, { name := "MIN_PANEL_WINDOW_ROWS", type := .int, accessFlags := 26, slot := 14, constantValue := 0 }, { name := "MIN_PANEL_FEW_ROWS_WINDOW_COLUMNS", type := .int, accessFlags := 26, slot := 15, constantValue := 0 }, { name := "MIN_PANEL_TRANSPOSED_B_WINDOW_ROWS", type := .int, accessFlags := 26, slot := 16, constantValue := 0 }, { name := "MIN_PANEL_TRANSPOSED_B_WINDOW_COLUMNS", type := .int, accessFlags := 26, slot := 17, constantValue := 0 }, { name := "MOST_TERMS_OF_GENERAL_GRAM", type := .int, accessFlags := 26, slot := 18, constantValue := 0 }, { name := "MOST_WINDOW_GRAM_REGISTER_COLUMNS", type := .int, accessFlags := 26, slot := 19, constantValue := 0 }, { name := "MOST_ROW_GRAM_REGISTER_COLUMNS", type := .int, accessFlags := 26, slot := 20, constantValue := 0 }]
  methods := #[k2m0, k2m1]
  instanceTypes := #[]
  staticTypes := #[.int, .int, .int, .int, .int, .int, .int, .int, .int, .int, .int, .int, .int, .int, .int, .int, .int, .int, .int, .int, .int]
  resolved := Array.replicate 93 none
  statics := none }

def pool3 : Array CpInfo := pool [(1, u "java/lang/Cloneable"), (0, .class_ 1), (0, u "java/lang/Object"), (0, .class_ 3)] 3

/-- java/lang/Cloneable -/
def k3 : Class := { plain "java/lang/Cloneable" (some 0) with
  accessFlags := 1537
  interfaces := #[]
  cf := some (fileOf pool3 2 #[] #[] 1537 4 #[] #[])
  fields := #[]
  methods := #[]
  instanceTypes := #[]
  staticTypes := #[]
  resolved := Array.replicate 8 none
  statics := none }

def pool4 : Array CpInfo := pool [(1, u "java/io/Serializable"), (0, .class_ 1), (0, u "java/lang/Object"), (0, .class_ 3)] 3

/-- java/io/Serializable -/
def k4 : Class := { plain "java/io/Serializable" (some 0) with
  accessFlags := 1537
  interfaces := #[]
  cf := some (fileOf pool4 2 #[] #[] 1537 4 #[] #[])
  fields := #[]
  methods := #[]
  instanceTypes := #[]
  staticTypes := #[]
  resolved := Array.replicate 8 none
  statics := none }

/-- the primitive byte -/
def k5 : Class := { plain "byte" none with kind := .primitive 'B', accessFlags := 0x411 }
/-- [B -/
def k6 : Class := { plain "[B" (some 0) with kind := .array 5 .byte, interfaces := #[3, 4], accessFlags := 1041 }

/-- the primitive int -/
def k7 : Class := { plain "int" none with kind := .primitive 'I', accessFlags := 0x411 }
/-- [I -/
def k8 : Class := { plain "[I" (some 0) with kind := .array 7 .int, interfaces := #[3, 4], accessFlags := 1041 }

def heap : Heap := #[]
def classes : Array Class := #[k0, k1, k2, k3, k4, k5, k6, k7, k8]
def interned : List (Array UInt16 × Addr) := []
def slotsUsed : Nat := 0
def theMethod : MethodId := ⟨1, 3⟩
def args0 : Array Value := #[.int 5, .int 300, .int 7]
def aboutOver (below : List Frame) : State where
  vm := { classes := classes, interned := interned.toArray }
  heap := heap
  slotsUsed := slotsUsed
  threads := #[{ frames := .invoking theMethod args0 :: below }]
def below0 : List Frame := [.native { method := ⟨0, 0⟩, args := #[] }]
def about1 : State := aboutOver below0
def p0 : Program := .bare "" "" ""
def e0 : Env := launch0.env 0 0 0
theorem w_frames : about1.frames = Frame.invoking theMethod args0 :: below0 := rfl
set_option maxRecDepth 65536 in
theorem w_args : argsFit about1.vm theMethod args0 = true := by decide +kernel
set_option maxRecDepth 65536 in
theorem w_heap : heapFits about1 = true := by decide +kernel
set_option maxRecDepth 65536 in
theorem w_runnable : about1.curStatus? = some .runnable := by decide +kernel
set_option maxRecDepth 65536 in
theorem w_alone : about1.alone = true := by decide +kernel
set_option maxRecDepth 65536 in
theorem w_named : about1.methodNamed? x = some theMethod := by decide +kernel
set_option maxRecDepth 65536 in
theorem w_hears : about1.hears theMethod below0 = true := by decide +kernel
set_option maxRecDepth 65536 in
theorem w_ripe : about1.ripe theMethod args0 below0 = true := by decide +kernel
theorem w_running : about1.status = .running := rfl
set_option maxRecDepth 65536 in
theorem w_room : about1.hasRoom e0.platform room_1 = true :=
  launch0.hasRoom_least _ room_1 (by decide +kernel) (by decide +kernel) (by decide +kernel) (by decide +kernel) (by decide +kernel) (by decide +kernel)
theorem allAtoms_all (ts : List Jvm.Cond) (a : Array Jvm.Value) (st : Jvm.State) : (allAtoms ts).before a st = ts.all (fun c => c.before a st) := by
  induction ts with
  | nil => rfl
  | cons c t ih =>
    show (Jvm.Cond.and c (allAtoms t)).before a st = _
    rw [Jvm.Cond.before_and, ih, List.all_cons]
def words1 : List Jvm.Cond := Jvm.Cond.code x code maxLocals ret :: tables_1
/-- a 'code' word, met by the world's own term for the bytes: nothing is compared byte by byte -/
theorem code_word {y : MethodName} {bytes : ByteArray} {mx : Nat} {rt : Option FieldType} {a : Array Value} {s : State} {m : MethodId} {meth : Method} {c : Code} (h1 : s.methodNamed? y = some m) (h2 : s.vm.method? m = some meth) (h3 : meth.code = some c) (h4 : c.code = bytes)
    (h5 : (c.maxLocals == mx && c.exceptionTable.isEmpty && decide (c.maxStack ≤ mostOperands) && decide (meth.sig.returnType = rt) && !meth.locks && decide (parseMethodDescriptor y.desc = some meth.sig)) = true) : (Jvm.Cond.code y bytes mx rt).before a s = true := by
  simp only [Bool.and_eq_true, beq_iff_eq, Bool.not_eq_true', decide_eq_true_eq] at h5
  obtain ⟨⟨⟨⟨⟨g1, g2⟩, g3⟩, g4⟩, g5⟩, g6⟩ := h5
  simp [Cond.before, Cond.holds, Cond.value, h1, h2, h3, h4, g1, g2, g3, g4, g5, g6]
def isCode : Jvm.Cond → Bool
  | .code _ _ _ _ => true
  | _ => false
theorem all_split {L : List Jvm.Cond} {P : Jvm.Cond → Bool} (h1 : L.all (fun c => isCode c || P c) = true) (h2 : ∀ c ∈ L.filter isCode, P c = true) : L.all P = true := by
  refine List.all_eq_true.mpr fun c hc => ?_
  have h := List.all_eq_true.mp h1 c hc
  rcases Bool.eq_false_or_eq_true (isCode c) with hi | hi
  · exact h2 c (List.mem_filter.mpr ⟨hc, hi⟩)
  · simpa [hi] using h
set_option maxRecDepth 65536 in
theorem w_c0 : (Jvm.Cond.code x code maxLocals ret).before args0 about1 = true := code_word (m := ⟨1, 3⟩) (meth := k1m3) (c := k1c3) (by decide +kernel) rfl rfl rfl (by decide +kernel)
set_option maxRecDepth 65536 in
theorem w_c1 : (Jvm.Cond.code ({ cls := "com/example/tilewright/tilewright/kernel/BlocksWindowsTakeRegistersPinLaw", name := "rowBand", desc := "(I)I" } : Jvm.MethodName) method_2_code (1 : Nat) (Option.some Jvm.ClassFile.FieldType.int)).before args0 about1 = true := code_word (m := ⟨1, 1⟩) (meth := k1m1) (c := k1c1) (by decide +kernel) rfl rfl rfl (by decide +kernel)
set_option maxRecDepth 65536 in
theorem w_c2 : (Jvm.Cond.code ({ cls := "com/example/tilewright/tilewright/kernel/BlocksWindowsTakeRegistersPinLaw", name := "columnBand", desc := "(I)I" } : Jvm.MethodName) method_3_code (1 : Nat) (Option.some Jvm.ClassFile.FieldType.int)).before args0 about1 = true := code_word (m := ⟨1, 2⟩) (meth := k1m2) (c := k1c2) (by decide +kernel) rfl rfl rfl (by decide +kernel)
set_option maxRecDepth 65536 in
theorem w_c3 : (Jvm.Cond.code ({ cls := "com/example/tilewright/tilewright/kernel/Blocks", name := "windowsTakeRegisters", desc := "(IIZ)Z" } : Jvm.MethodName) prog_6_method_18_code (3 : Nat) (Option.some Jvm.ClassFile.FieldType.boolean)).before args0 about1 = true := code_word (m := ⟨2, 1⟩) (meth := k2m1) (c := k2c1) (by decide +kernel) rfl rfl rfl (by decide +kernel)
def codes1 : List Jvm.Cond := [Jvm.Cond.code x code maxLocals ret, Jvm.Cond.code ({ cls := "com/example/tilewright/tilewright/kernel/BlocksWindowsTakeRegistersPinLaw", name := "rowBand", desc := "(I)I" } : Jvm.MethodName) method_2_code (1 : Nat) (Option.some Jvm.ClassFile.FieldType.int), Jvm.Cond.code ({ cls := "com/example/tilewright/tilewright/kernel/BlocksWindowsTakeRegistersPinLaw", name := "columnBand", desc := "(I)I" } : Jvm.MethodName) method_3_code (1 : Nat) (Option.some Jvm.ClassFile.FieldType.int), Jvm.Cond.code ({ cls := "com/example/tilewright/tilewright/kernel/Blocks", name := "windowsTakeRegisters", desc := "(IIZ)Z" } : Jvm.MethodName) prog_6_method_18_code (3 : Nat) (Option.some Jvm.ClassFile.FieldType.boolean)]
set_option maxRecDepth 65536 in
theorem codes_eq : words1.filter isCode = codes1 := rfl
theorem w_codes : ∀ c ∈ words1.filter isCode, c.before args0 about1 = true := by
  rw [codes_eq]
  intro c hc
  simp only [codes1, List.mem_cons, List.not_mem_nil, or_false] at hc
  rcases hc with rfl | rfl | rfl | rfl
  · exact w_c0
  · exact w_c1
  · exact w_c2
  · exact w_c3
set_option maxRecDepth 65536 in
theorem w_t1 : words1.all (fun c => isCode c || c.before args0 about1) = true := by decide +kernel
theorem w_tables : (allAtoms (Jvm.Cond.code x code maxLocals ret :: tables_1)).before args0 about1 = true := by
  rw [allAtoms_all]
  show words1.all (fun c => c.before args0 about1) = true
  refine all_split ?_ w_codes
  rw [w_t1]
set_option maxRecDepth 65536 in
theorem w_case : (Jvm.Cond.and given_1 narrow_1).before args0 about1 = true := by decide +kernel
theorem w_applies : (headSpec (Jvm.Cond.code x code maxLocals ret :: tables_1) room_1).applies x e0.platform about1 = true :=
  (Spec.applies_iff w_frames).mpr ⟨w_running, w_runnable, w_alone, w_named, w_hears, w_ripe, w_room, w_tables⟩
theorem atStart : AtStart classFile x code maxLocals ret World_1 tables_1 room_1 Calls_1 rest_1 Pre_1 launch0 p0 e0 about1 theMethod args0 below0 :=
  ⟨lists_1, trivial, launch0.admits_env _ _ _, launch0.least_env, fairChoices_fair.cas, fairChoices_fair.clock, w_frames, w_args, w_heap, w_applies, trivial, trivial, w_case⟩
end start1
theorem witness_1 : WitnessClaimed_1 := ⟨start1.p0, start1.e0, start1.about1, start1.theMethod, start1.args0, start1.below0, start1.atStart⟩
end Jvm.Pilot.@@N@@
