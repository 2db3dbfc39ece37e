import JvmDerived
import JvmDerived.Pilot.@@N@@Statement
import JvmDerived.Pilot.@@N@@Code
set_option linter.unusedVariables false
set_option linter.unusedSimpArgs false
namespace Jvm.RoadKit
open Sem ClassFile Op Lib Jvm.Stand Jvm.Free Jvm.LawKit
section New
variable {p : Program} {l : Launch} {e : Env} {R : Room} {s : State} {m : MethodId} {args : Array Value} {below : List Frame} {meth : Method} {c : Code} {T : State} {locs : List Loc} {cells slots : Nat}
theorem retI (X : Stand p l e R s m args below meth c T locs cells slots) (hx : p.tables.exec = Jvm.exec) {pc : Nat} {Ls : Array Slot} {z : Int32} {rest : List Value} (hret : meth.sig.returnType = some .int) (hd : decode c.code pc = .ok (.ireturn, 1)) {fs : List Frame}
    (hl : ∀ (f : JFrame) (acts : List Action), f.method = m → f.locked = none → f.entered = [] → (doReturn e (T.setTop f) acts (some (.int z))).1 = T.setFrames fs) : Steps p.tables e below (T.setTop (mkF m pc Ls (.int z :: rest))) (T.setFrames fs) := by
  have hm' : T.vm.method? m = some meth := X.method'
  have hn : narrow .int (.int z) = .int z := rfl
  show Steps p.tables e below (T.setTop { method := m, pc := pc, locals := Ls, stack := _ :: rest, locked := none }) _
  jvm_step X.here [X.here.top, hx, hd, hm', hret, hn]
  first | (intro acts; rw [hl _ acts rfl rfl rfl]) | rw [hl _ _ rfl rfl rfl]
  exact Steps.refl _
end New
end Jvm.RoadKit
namespace Jvm.Pilot.@@N@@
open Jvm Jvm.ClassFile Sem Op Lib Jvm.Free Jvm.Stand Jvm.LawKit Jvm.RoadKit Bundle Jvm.Pilot.@@N@@.Jvm.D
section Own
variable {p : Program} {l : Launch} {e : Env} {R : Room} {s : State} {m : MethodId} {args : Array Value} {below : List Frame} {meth : Method} {c : Code} {T : State} {locs : List Loc} {cells slots : Nat}
/-- from the state A the run comes to an end of the invocation of which Q holds -/
def OGo (p : Program) (e : Env) (below : List Frame) (Q : Outcome → State → Prop) (A : State) : Prop :=
  ∃ s₂ o, Steps p.tables e below A s₂ ∧ s₂.status = .running ∧ Ended s₂ below o ∧ Q o s₂
theorem OGo.st {Q : Outcome → State → Prop} {A B : State} (h : ∀ t, Steps p.tables e below B t → Steps p.tables e below A t) (g : OGo p e below Q B) : OGo p e below Q A := by
  obtain ⟨s₂, o, k, r⟩ := g
  exact ⟨s₂, o, h _ k, r⟩
/-- what a contract says of the end -/
def Out (s : State) (cells slots : Nat) (Q : Option Value → Heap → List Loc → Prop) (o : Outcome) (U : State) : Prop :=
  ∃ v L, o = .returned v ∧ Q v U.heap L ∧ FrameEnd s o U L cells slots
/-- it returns the int z (the long z), and the heap is as it was -/
def PI (n0 : Nat) (h0 : Heap) (z : Int32) (v : Option Value) (h : Heap) (L : List Loc) : Prop := v = some (.int z) ∧ Fr n0 L ∧ h = h0
def PJ (n0 : Nat) (h0 : Heap) (z : Int64) (v : Option Value) (h : Heap) (L : List Loc) : Prop := v = some (.long z) ∧ Fr n0 L ∧ h = h0
def PF (n0 : Nat) (z : Int32) (v : Option Value) (h : Heap) (L : List Loc) : Prop := v = some (.int z) ∧ Fr n0 L
theorem OGo.eqvF {C S n0 : Nat} {z z' : Int32} {A : State} (q : z = z') (g : OGo p e below (Out s C S (PF n0 z')) A) : OGo p e below (Out s C S (PF n0 z)) A := q ▸ g
theorem OGo.eqvI {C S n0 : Nat} {h0 : Heap} {z z' : Int32} {A : State} (q : z = z') (g : OGo p e below (Out s C S (PI n0 h0 z')) A) : OGo p e below (Out s C S (PI n0 h0 z)) A := q ▸ g
theorem OGo.eqvJ {C S n0 : Nat} {h0 : Heap} {z z' : Int64} {A : State} (q : z = z') (g : OGo p e below (Out s C S (PJ n0 h0 z')) A) : OGo p e below (Out s C S (PJ n0 h0 z)) A := q ▸ g
theorem OGo.outI (X : Stand p l e R s m args below meth c T locs cells slots) (hx : p.tables.exec = Jvm.exec) (hret : meth.sig.returnType = some .int) (hlk : meth.locks = false) {pc : Nat} {Ls : Array Slot} {z : Int32} {rest : List Value} (hd : decode c.code pc = .ok (.ireturn, 1))
    {Q : Option Value → Heap → List Loc → Prop} {C S : Nat} (hq : Q (some (.int z)) T.heap locs) (hC : cells ≤ C) (hS : slots ≤ S) : OGo p e below (Out s C S Q) (T.setTop (mkF m pc Ls (.int z :: rest))) := by
  obtain ⟨fs, hr, hrun, hended, hW, hsame⟩ := X.leave (v := some (.int z)) (fun h => by rw [hret] at h; cases h) hlk
  exact ⟨_, _, retI X hx hret hd hr, hrun, hended, _, _, rfl, hq, ⟨_, rfl⟩, hW, hsame.mono hC hS⟩
theorem OGo.outN (X : Stand p l e R s m args below meth c T locs cells slots) (hx : p.tables.exec = Jvm.exec) {t : FieldType} (hret : meth.sig.returnType = some t) (ht : t = .boolean ∨ t = .byte ∨ t = .char ∨ t = .short) (hlk : meth.locks = false) {pc : Nat} {Ls : Array Slot} {z : Int32} {rest : List Value} (hd : decode c.code pc = .ok (.ireturn, 1))
    {Q : Option Value → Heap → List Loc → Prop} {C S : Nat} (hq : Q (some (.int (nar t z))) T.heap locs) (hC : cells ≤ C) (hS : slots ≤ S) : OGo p e below (Out s C S Q) (T.setTop (mkF m pc Ls (.int z :: rest))) := by
  obtain ⟨fs, hr, hrun, hended, hW, hsame⟩ := X.leave (v := some (.int (nar t z))) (fun h => by rw [hret] at h; cases h) hlk
  exact ⟨_, _, retN X hx hret ht hd hr, hrun, hended, _, _, rfl, hq, ⟨_, rfl⟩, hW, hsame.mono hC hS⟩
theorem OGo.outJ (X : Stand p l e R s m args below meth c T locs cells slots) (hx : p.tables.exec = Jvm.exec) (hret : meth.sig.returnType = some .long) (hlk : meth.locks = false) {pc : Nat} {Ls : Array Slot} {z : Int64} (hd : decode c.code pc = .ok (.lreturn, 1))
    {Q : Option Value → Heap → List Loc → Prop} {C S : Nat} (hq : Q (some (.long z)) T.heap locs) (hC : cells ≤ C) (hS : slots ≤ S) : OGo p e below (Out s C S Q) (T.setTop (mkF m pc Ls [.long z])) := by
  obtain ⟨fs, hr, hrun, hended, hW, hsame⟩ := X.leave (v := some (.long z)) (fun h => by rw [hret] at h; cases h) hlk
  exact ⟨_, _, X.lreturnOut hx hret hd hr, hrun, hended, _, _, rfl, hq, ⟨_, rfl⟩, hW, hsame.mono hC hS⟩
theorem OGo.outV (X : Stand p l e R s m args below meth c T locs cells slots) (hx : p.tables.exec = Jvm.exec) (hret : meth.sig.returnType = none) (hlk : meth.locks = false) {pc : Nat} {Ls : Array Slot} (hd : decode c.code pc = .ok (.return_, 1))
    {Q : Option Value → Heap → List Loc → Prop} {C S : Nat} (hq : Q none T.heap locs) (hC : cells ≤ C) (hS : slots ≤ S) : OGo p e below (Out s C S Q) (T.setTop (mkF m pc Ls [])) := by
  obtain ⟨fs, hr, hrun, hended, hW, hsame⟩ := X.leave (v := none) (fun _ => rfl) hlk
  exact ⟨_, _, X.returnOut hx hret hd hr, hrun, hended, _, _, rfl, hq, ⟨_, rfl⟩, hW, hsame.mono hC hS⟩
end Own

theorem own_nz {x : Int32} (h : ¬ x < (13 : Int32)) : x ≠ 0 := fun q => h (by subst q; decide)
theorem own_mask (x : Int32) : 0 ≤ (x &&& (2147483647 : Int32)).toInt := by
  have h : ∀ b : BitVec 32, 0 ≤ (b &&& 2147483647#32).toInt := fun b => by
    have k : (b &&& 2147483647#32).msb = false := by
      rw [BitVec.msb_and, show (2147483647#32).msb = false from by decide, Bool.and_false]
    rw [BitVec.toInt_eq_toNat_of_msb k]
    omega
  exact h x.toBitVec
theorem own_nz13 (x : Int32) : ((13 : Int32) + ((x &&& (2147483647 : Int32)) - ((x &&& (2147483647 : Int32)) / (11 : Int32)) * (11 : Int32))) ≠ 0 := by
  have h := own_mask x
  generalize x &&& (2147483647 : Int32) = y at h ⊢
  have hr := rem_toInt y 11
  have hb := Int32.toInt_lt y
  have k : (11 : Int32).toInt = 11 := by decide
  rw [k, Int.tmod_eq_emod_of_nonneg h] at hr
  intro q
  have q := congrArg Int32.toInt q
  rw [Int32.toInt_add, hr] at q
  have k13 : (13 : Int32).toInt = 13 := by decide
  have k0 : (0 : Int32).toInt = 0 := by decide
  rw [k13, k0, Int.bmod_eq_of_le (by omega) (by omega)] at q
  omega
theorem d1_0 : decode method_2_code 0 = .ok (.sipush 24576, 3) := by decide +kernel
theorem d1_3 : decode method_2_code 3 = .ok (.iload_n 0, 1) := by decide +kernel
theorem d1_4 : decode method_2_code 4 = .ok (.iadd, 1) := by decide +kernel
theorem d1_5 : decode method_2_code 5 = .ok (.iconst 1, 1) := by decide +kernel
theorem d1_6 : decode method_2_code 6 = .ok (.isub, 1) := by decide +kernel
theorem d1_7 : decode method_2_code 7 = .ok (.iload_n 0, 1) := by decide +kernel
theorem d1_8 : decode method_2_code 8 = .ok (.idiv, 1) := by decide +kernel
theorem d1_9 : decode method_2_code 9 = .ok (.ireturn, 1) := by decide +kernel
theorem pn1 : plainName "com/example/tilewright/tilewright/kernel/MatrixVectorAddsCheckingRowsPinLaw" = true := by first | (simp [plainName, overriddenIn]; done) | decide +kernel
theorem ef1 (m : MethodId) (q1 : Int32) : entryFrame m #[(.int q1)] 1 = mkF m 0 #[.val (.int q1)] [] := by first | (simp [entryFrame, mkF, argsToLocals, Value.category]; done) | rfl
def f1 (q1 : Int32) : Int32 := ((((24576 : Int32) + q1) - (1 : Int32)) / q1)
set_option maxRecDepth 65536 in
set_option maxHeartbeats 40000000 in
theorem rm1 (l : Launch) (Z : State) (a0 : Array Value) (hw : ∀ d ∈ tables_1, d.before a0 Z = true) (ws : List Jvm.Cond) (q1 : Int32) (h0 : Heap) (n0 : Nat) (Z0 : n0 ≤ h0.size) (hnz : q1 ≠ 0) :
    MetFree l (⟨"com/example/tilewright/tilewright/kernel/MatrixVectorAddsCheckingRowsPinLaw", "leastStored", "(I)I"⟩ : MethodName) (head1 (Jvm.Cond.code (⟨"com/example/tilewright/tilewright/kernel/MatrixVectorAddsCheckingRowsPinLaw", "leastStored", "(I)I"⟩ : MethodName) method_2_code 1 (some .int) :: ws) ({ frames := 0, cells := 0, slots := 0, locals := 0 } : Room)) (fun a U => a = #[(.int q1)] ∧ Z.Warmed39 U.vm ∧ U.heap = h0) (fun _ _ _ _ _ => True) (fun _ U o U' => ∃ v L, o = .returned v ∧ PI n0 h0 (f1 q1) v U'.heap L ∧ FrameEnd U o U' L ({ frames := 0, cells := 0, slots := 0, locals := 0 } : Room).cells ({ frames := 0, cells := 0, slots := 0, locals := 0 } : Room).slots) := by
  refine MetFree.of_bodySF (plainFor_of_name pn1) hisR ?_
  intro p e s m args below meth c s₁ Bd hml0 hP hK
  obtain ⟨rfl, hZ, hh⟩ := hP
  have hx := Bd.exec
  have hby := Bd.bytes
  have hml : c.maxLocals = 1 := hml0
  have hown : s.vm.findClass "com/example/tilewright/tilewright/kernel/MatrixVectorAddsCheckingRowsPinLaw" = some m.cls := findClass_of_methodNamed Bd.named
  have X0 : Stand p l e ({ frames := 0, cells := 0, slots := 0, locals := 0 } : Room) s m #[(.int q1)] below meth c s₁ [] 0 0 := Stand.of_body Bd
  have e0 : s₁.heap = h0 := by rw [← hh, Bd.state]; rfl
  have N0 := Fr.nil n0
  show OGo p e below (Out s ({ frames := 0, cells := 0, slots := 0, locals := 0 } : Room).cells ({ frames := 0, cells := 0, slots := 0, locals := 0 } : Room).slots (PI n0 h0 (f1 q1))) (s₁.setTop (entryFrame m #[(.int q1)] 1))
  refine OGo.st (fun t k => castTop (ef1 m q1) k) ?_
  show OGo p e below (Out s ({ frames := 0, cells := 0, slots := 0, locals := 0 } : Room).cells ({ frames := 0, cells := 0, slots := 0, locals := 0 } : Room).slots (PI n0 h0 ((((24576 : Int32) + q1) - (1 : Int32)) / q1))) (s₁.setTop (mkF m 0 #[.val (.int q1)] []))
  refine OGo.st (fun t k => XS.sipush X0.here hx rfl (hb hby d1_0) k) ?_
  show OGo p e below _ (s₁.setTop (mkF m 3 #[.val (.int q1)] [(.int (24576 : Int32))]))
  refine OGo.st (fun t k => XS.iloadN X0.here hx rfl (hb hby d1_3) rfl k) ?_
  show OGo p e below _ (s₁.setTop (mkF m 4 #[.val (.int q1)] [(.int q1), (.int (24576 : Int32))]))
  refine OGo.st (fun t k => XS.iadd X0.here hx rfl (hb hby d1_4) rfl k) ?_
  show OGo p e below _ (s₁.setTop (mkF m 5 #[.val (.int q1)] [(.int ((24576 : Int32) + q1))]))
  refine OGo.st (fun t k => XS.iconst X0.here hx rfl (hb hby d1_5) k) ?_
  show OGo p e below _ (s₁.setTop (mkF m 6 #[.val (.int q1)] [(.int (1 : Int32)), (.int ((24576 : Int32) + q1))]))
  refine OGo.st (fun t k => XS.isub X0.here hx rfl (hb hby d1_6) rfl k) ?_
  show OGo p e below _ (s₁.setTop (mkF m 7 #[.val (.int q1)] [(.int (((24576 : Int32) + q1) - (1 : Int32)))]))
  refine OGo.st (fun t k => XS.iloadN X0.here hx rfl (hb hby d1_7) rfl k) ?_
  show OGo p e below _ (s₁.setTop (mkF m 8 #[.val (.int q1)] [(.int q1), (.int (((24576 : Int32) + q1) - (1 : Int32)))]))
  refine OGo.st (fun t k => XS.idiv X0.here hx rfl (hb hby d1_8) rfl hnz k) ?_
  show OGo p e below _ (s₁.setTop (mkF m 9 #[.val (.int q1)] [(.int ((((24576 : Int32) + q1) - (1 : Int32)) / q1))]))
  exact OGo.outI X0 hx Bd.returns Bd.notSynchronized (hb hby d1_9) ⟨rfl, N0, e0⟩ (by decide) (by decide)
theorem d2_0 : decode prog_20_method_3_code 0 = .ok (.iload_n 0, 1) := by decide +kernel
theorem d2_1 : decode prog_20_method_3_code 1 = .ok (.bipush 13, 2) := by decide +kernel
theorem d2_3 : decode prog_20_method_3_code 3 = .ok (.if_icmp .ge 5, 3) := by decide +kernel
theorem d2_6 : decode prog_20_method_3_code 6 = .ok (.iconst 1, 1) := by decide +kernel
theorem d2_7 : decode prog_20_method_3_code 7 = .ok (.ireturn, 1) := by decide +kernel
theorem d2_8 : decode prog_20_method_3_code 8 = .ok (.iload_n 0, 1) := by decide +kernel
theorem d2_9 : decode prog_20_method_3_code 9 = .ok (.bipush 24, 2) := by decide +kernel
theorem d2_11 : decode prog_20_method_3_code 11 = .ok (.if_icmp .ge 19, 3) := by decide +kernel
theorem d2_14 : decode prog_20_method_3_code 14 = .ok (.iload_n 0, 1) := by decide +kernel
theorem d2_15 : decode prog_20_method_3_code 15 = .ok (.i2l, 1) := by decide +kernel
theorem d2_16 : decode prog_20_method_3_code 16 = .ok (.iload_n 1, 1) := by decide +kernel
theorem d2_17 : decode prog_20_method_3_code 17 = .ok (.i2l, 1) := by decide +kernel
theorem d2_18 : decode prog_20_method_3_code 18 = .ok (.lmul, 1) := by decide +kernel
theorem d2_19 : decode prog_20_method_3_code 19 = .ok (.ldc2_w 46, 3) := by decide +kernel
theorem d2_22 : decode prog_20_method_3_code 22 = .ok (.lcmp, 1) := by decide +kernel
theorem d2_23 : decode prog_20_method_3_code 23 = .ok (.ifCond .lt 7, 3) := by decide +kernel
theorem d2_26 : decode prog_20_method_3_code 26 = .ok (.iconst 1, 1) := by decide +kernel
theorem d2_27 : decode prog_20_method_3_code 27 = .ok (.goto 4, 3) := by decide +kernel
theorem d2_30 : decode prog_20_method_3_code 30 = .ok (.iconst 0, 1) := by decide +kernel
theorem d2_31 : decode prog_20_method_3_code 31 = .ok (.ireturn, 1) := by decide +kernel
theorem pn2 : plainName "com/example/tilewright/tilewright/kernel/MatrixVector" = true := by first | (simp [plainName, overriddenIn]; done) | decide +kernel
theorem ef2 (m : MethodId) (q1 : Int32) (q2 : Int32) : entryFrame m #[(.int q1), (.int q2)] 2 = mkF m 0 #[.val (.int q1), .val (.int q2)] [] := by first | (simp [entryFrame, mkF, argsToLocals, Value.category]; done) | rfl
def g2_23_1 (q1 : Int32) (q2 : Int32) : Int32 := if (lcmpW ((q1.toInt64) * (q2.toInt64)) (24576 : Int64)) < (0 : Int32) then (0 : Int32) else (1 : Int32)
def g2_11_2 (q1 : Int32) (q2 : Int32) : Int32 := if q1 < (24 : Int32) then (g2_23_1 q1 q2) else (0 : Int32)
def g2_3_3 (q1 : Int32) (q2 : Int32) : Int32 := if q1 < (13 : Int32) then (1 : Int32) else (g2_11_2 q1 q2)
def f2 (q1 : Int32) (q2 : Int32) : Int32 := (g2_3_3 q1 q2)
set_option maxRecDepth 65536 in
set_option maxHeartbeats 40000000 in
theorem rm2 (l : Launch) (Z : State) (a0 : Array Value) (hw : ∀ d ∈ tables_1, d.before a0 Z = true) (ws : List Jvm.Cond) (q1 : Int32) (q2 : Int32) (h0 : Heap) (n0 : Nat) (Z0 : n0 ≤ h0.size) :
    MetFree l (⟨"com/example/tilewright/tilewright/kernel/MatrixVector", "addsCheckingRows", "(II)Z"⟩ : MethodName) (head1 (Jvm.Cond.code (⟨"com/example/tilewright/tilewright/kernel/MatrixVector", "addsCheckingRows", "(II)Z"⟩ : MethodName) prog_20_method_3_code 2 (some .boolean) :: ws) ({ frames := 0, cells := 0, slots := 0, locals := 0 } : Room)) (fun a U => a = #[(.int q1), (.int q2)] ∧ Z.Warmed39 U.vm ∧ U.heap = h0) (fun _ _ _ _ _ => True) (fun _ U o U' => ∃ v L, o = .returned v ∧ PI n0 h0 (f2 q1 q2) v U'.heap L ∧ FrameEnd U o U' L ({ frames := 0, cells := 0, slots := 0, locals := 0 } : Room).cells ({ frames := 0, cells := 0, slots := 0, locals := 0 } : Room).slots) := by
  refine MetFree.of_bodySF (plainFor_of_name pn2) hisR ?_
  intro p e s m args below meth c s₁ Bd hml0 hP hK
  obtain ⟨rfl, hZ, hh⟩ := hP
  have hx := Bd.exec
  have hby := Bd.bytes
  have hml : c.maxLocals = 2 := hml0
  have hown : s.vm.findClass "com/example/tilewright/tilewright/kernel/MatrixVector" = some m.cls := findClass_of_methodNamed Bd.named
  have X0 : Stand p l e ({ frames := 0, cells := 0, slots := 0, locals := 0 } : Room) s m #[(.int q1), (.int q2)] below meth c s₁ [] 0 0 := Stand.of_body Bd
  have e0 : s₁.heap = h0 := by rw [← hh, Bd.state]; rfl
  have N0 := Fr.nil n0
  show OGo p e below (Out s ({ frames := 0, cells := 0, slots := 0, locals := 0 } : Room).cells ({ frames := 0, cells := 0, slots := 0, locals := 0 } : Room).slots (PI n0 h0 (f2 q1 q2))) (s₁.setTop (entryFrame m #[(.int q1), (.int q2)] 2))
  refine OGo.st (fun t k => castTop (ef2 m q1 q2) k) ?_
  show OGo p e below (Out s ({ frames := 0, cells := 0, slots := 0, locals := 0 } : Room).cells ({ frames := 0, cells := 0, slots := 0, locals := 0 } : Room).slots (PI n0 h0 (g2_3_3 q1 q2))) (s₁.setTop (mkF m 0 #[.val (.int q1), .val (.int q2)] []))
  refine OGo.st (fun t k => XS.iloadN X0.here hx rfl (hb hby d2_0) rfl k) ?_
  show OGo p e below _ (s₁.setTop (mkF m 1 #[.val (.int q1), .val (.int q2)] [(.int q1)]))
  refine OGo.st (fun t k => XS.bipush X0.here hx rfl (hb hby d2_1) k) ?_
  show OGo p e below _ (s₁.setTop (mkF m 3 #[.val (.int q1), .val (.int q2)] [(.int (13 : Int32)), (.int q1)]))
  by_cases hc3_1 : q1 < (13 : Int32)
  · refine OGo.eqvI (show (g2_3_3 q1 q2) = (1 : Int32) from if_pos hc3_1) ?_
    refine OGo.st (fun t k => XS.icmpNo X0.here hx rfl (hb hby d2_3) rfl (tlt hc3_1).2.1 k) ?_
    show OGo p e below _ (s₁.setTop (mkF m 6 #[.val (.int q1), .val (.int q2)] []))
    refine OGo.st (fun t k => XS.iconst X0.here hx rfl (hb hby d2_6) k) ?_
    show OGo p e below _ (s₁.setTop (mkF m 7 #[.val (.int q1), .val (.int q2)] [(.int (1 : Int32))]))
    exact OGo.outN X0 hx (t := .boolean) Bd.returns (by simp) Bd.notSynchronized (hb hby d2_7) ⟨rfl, N0, e0⟩ (by decide) (by decide)
  · refine OGo.eqvI (show (g2_3_3 q1 q2) = (g2_11_2 q1 q2) from if_neg hc3_1) ?_
    refine OGo.st (fun t k => XS.icmpYes X0.here hx rfl (pc0 := 3) (pc' := 8) rfl (hb hby d2_3) rfl (flt hc3_1).2.1 (by decide) (by decide) k) ?_
    show OGo p e below _ (s₁.setTop (mkF m 8 #[.val (.int q1), .val (.int q2)] []))
    refine OGo.st (fun t k => XS.iloadN X0.here hx rfl (hb hby d2_8) rfl k) ?_
    show OGo p e below _ (s₁.setTop (mkF m 9 #[.val (.int q1), .val (.int q2)] [(.int q1)]))
    refine OGo.st (fun t k => XS.bipush X0.here hx rfl (hb hby d2_9) k) ?_
    show OGo p e below _ (s₁.setTop (mkF m 11 #[.val (.int q1), .val (.int q2)] [(.int (24 : Int32)), (.int q1)]))
    by_cases hc11_2 : q1 < (24 : Int32)
    · refine OGo.eqvI (show (g2_11_2 q1 q2) = (g2_23_1 q1 q2) from if_pos hc11_2) ?_
      refine OGo.st (fun t k => XS.icmpNo X0.here hx rfl (hb hby d2_11) rfl (tlt hc11_2).2.1 k) ?_
      show OGo p e below _ (s₁.setTop (mkF m 14 #[.val (.int q1), .val (.int q2)] []))
      refine OGo.st (fun t k => XS.iloadN X0.here hx rfl (hb hby d2_14) rfl k) ?_
      show OGo p e below _ (s₁.setTop (mkF m 15 #[.val (.int q1), .val (.int q2)] [(.int q1)]))
      refine OGo.st (fun t k => XS.i2l X0.here hx rfl (hb hby d2_15) rfl k) ?_
      show OGo p e below _ (s₁.setTop (mkF m 16 #[.val (.int q1), .val (.int q2)] [(.long (q1.toInt64))]))
      refine OGo.st (fun t k => XS.iloadN X0.here hx rfl (hb hby d2_16) rfl k) ?_
      show OGo p e below _ (s₁.setTop (mkF m 17 #[.val (.int q1), .val (.int q2)] [(.int q2), (.long (q1.toInt64))]))
      refine OGo.st (fun t k => XS.i2l X0.here hx rfl (hb hby d2_17) rfl k) ?_
      show OGo p e below _ (s₁.setTop (mkF m 18 #[.val (.int q1), .val (.int q2)] [(.long (q2.toInt64)), (.long (q1.toInt64))]))
      refine OGo.st (fun t k => XS.lmul X0.here hx rfl (hb hby d2_18) rfl k) ?_
      show OGo p e below _ (s₁.setTop (mkF m 19 #[.val (.int q1), .val (.int q2)] [(.long ((q1.toInt64) * (q2.toInt64)))]))
      refine OGo.st (fun t k => X0.ldc2Long hx hown (mvT hZ (hw _ (List.mem_of_getElem? (i := 9) rfl))) (g := (mkF m 19 #[.val (.int q1), .val (.int q2)] [(.long ((q1.toInt64) * (q2.toInt64)))])) rfl (hb hby d2_19) t k) ?_
      show OGo p e below _ (s₁.setTop (mkF m 22 #[.val (.int q1), .val (.int q2)] [(.long (24576 : Int64)), (.long ((q1.toInt64) * (q2.toInt64)))]))
      refine OGo.st (fun t k => XS.lcmp X0.here hx rfl (hb hby d2_22) rfl k) ?_
      show OGo p e below _ (s₁.setTop (mkF m 23 #[.val (.int q1), .val (.int q2)] [(.int (lcmpW ((q1.toInt64) * (q2.toInt64)) (24576 : Int64)))]))
      by_cases hc23_3 : (lcmpW ((q1.toInt64) * (q2.toInt64)) (24576 : Int64)) < (0 : Int32)
      · refine OGo.eqvI (show (g2_23_1 q1 q2) = (0 : Int32) from if_pos hc23_3) ?_
        refine OGo.st (fun t k => XS.ifYes X0.here hx rfl (pc0 := 23) (pc' := 30) rfl (hb hby d2_23) rfl ((if0 _ _).trans (tlt hc23_3).1) (by decide) (by decide) k) ?_
        show OGo p e below _ (s₁.setTop (mkF m 30 #[.val (.int q1), .val (.int q2)] []))
        refine OGo.st (fun t k => XS.iconst X0.here hx rfl (hb hby d2_30) k) ?_
        show OGo p e below _ (s₁.setTop (mkF m 31 #[.val (.int q1), .val (.int q2)] [(.int (0 : Int32))]))
        exact OGo.outN X0 hx (t := .boolean) Bd.returns (by simp) Bd.notSynchronized (hb hby d2_31) ⟨rfl, N0, e0⟩ (by decide) (by decide)
      · refine OGo.eqvI (show (g2_23_1 q1 q2) = (1 : Int32) from if_neg hc23_3) ?_
        refine OGo.st (fun t k => XS.ifNo X0.here hx rfl (hb hby d2_23) rfl ((if0 _ _).trans (flt hc23_3).1) k) ?_
        show OGo p e below _ (s₁.setTop (mkF m 26 #[.val (.int q1), .val (.int q2)] []))
        refine OGo.st (fun t k => XS.iconst X0.here hx rfl (hb hby d2_26) k) ?_
        show OGo p e below _ (s₁.setTop (mkF m 27 #[.val (.int q1), .val (.int q2)] [(.int (1 : Int32))]))
        refine OGo.st (fun t k => XS.goto X0.here hx rfl (pc0 := 27) (pc' := 31) rfl (hb hby d2_27) (by decide) (by decide) k) ?_
        show OGo p e below _ (s₁.setTop (mkF m 31 #[.val (.int q1), .val (.int q2)] [(.int (1 : Int32))]))
        exact OGo.outN X0 hx (t := .boolean) Bd.returns (by simp) Bd.notSynchronized (hb hby d2_31) ⟨rfl, N0, e0⟩ (by decide) (by decide)
    · refine OGo.eqvI (show (g2_11_2 q1 q2) = (0 : Int32) from if_neg hc11_2) ?_
      refine OGo.st (fun t k => XS.icmpYes X0.here hx rfl (pc0 := 11) (pc' := 30) rfl (hb hby d2_11) rfl (flt hc11_2).2.1 (by decide) (by decide) k) ?_
      show OGo p e below _ (s₁.setTop (mkF m 30 #[.val (.int q1), .val (.int q2)] []))
      refine OGo.st (fun t k => XS.iconst X0.here hx rfl (hb hby d2_30) k) ?_
      show OGo p e below _ (s₁.setTop (mkF m 31 #[.val (.int q1), .val (.int q2)] [(.int (0 : Int32))]))
      exact OGo.outN X0 hx (t := .boolean) Bd.returns (by simp) Bd.notSynchronized (hb hby d2_31) ⟨rfl, N0, e0⟩ (by decide) (by decide)
theorem d3_0 : decode method_3_code 0 = .ok (.iload_n 0, 1) := by decide +kernel
theorem d3_1 : decode method_3_code 1 = .ok (.bipush 13, 2) := by decide +kernel
theorem d3_3 : decode method_3_code 3 = .ok (.if_icmp .ge 5, 3) := by decide +kernel
theorem d3_6 : decode method_3_code 6 = .ok (.iconst 1, 1) := by decide +kernel
theorem d3_7 : decode method_3_code 7 = .ok (.ireturn, 1) := by decide +kernel
theorem d3_8 : decode method_3_code 8 = .ok (.iload_n 0, 1) := by decide +kernel
theorem d3_9 : decode method_3_code 9 = .ok (.bipush 24, 2) := by decide +kernel
theorem d3_11 : decode method_3_code 11 = .ok (.if_icmp .lt 5, 3) := by decide +kernel
theorem d3_14 : decode method_3_code 14 = .ok (.iconst 0, 1) := by decide +kernel
theorem d3_15 : decode method_3_code 15 = .ok (.ireturn, 1) := by decide +kernel
theorem d3_16 : decode method_3_code 16 = .ok (.iload_n 1, 1) := by decide +kernel
theorem d3_17 : decode method_3_code 17 = .ok (.iload_n 0, 1) := by decide +kernel
theorem d3_18 : decode method_3_code 18 = .ok (.invokestatic 7, 3) := by decide +kernel
theorem d3_21 : decode method_3_code 21 = .ok (.if_icmp .lt 7, 3) := by decide +kernel
theorem d3_24 : decode method_3_code 24 = .ok (.iconst 1, 1) := by decide +kernel
theorem d3_25 : decode method_3_code 25 = .ok (.goto 4, 3) := by decide +kernel
theorem d3_28 : decode method_3_code 28 = .ok (.iconst 0, 1) := by decide +kernel
theorem d3_29 : decode method_3_code 29 = .ok (.ireturn, 1) := by decide +kernel
theorem pn3 : plainName "com/example/tilewright/tilewright/kernel/MatrixVectorAddsCheckingRowsPinLaw" = true := by first | (simp [plainName, overriddenIn]; done) | decide +kernel
theorem pd3_0 : parseMethodDescriptor "(I)I" = some ⟨[.int], some .int⟩ := by decide +kernel
theorem ef3 (m : MethodId) (q1 : Int32) (q2 : Int32) : entryFrame m #[(.int q1), (.int q2)] 2 = mkF m 0 #[.val (.int q1), .val (.int q2)] [] := by first | (simp [entryFrame, mkF, argsToLocals, Value.category]; done) | rfl
def g3_21_1 (q1 : Int32) (q2 : Int32) : Int32 := if q2 < (f1 q1) then (0 : Int32) else (1 : Int32)
def g3_11_2 (q1 : Int32) (q2 : Int32) : Int32 := if q1 < (24 : Int32) then (g3_21_1 q1 q2) else (0 : Int32)
def g3_3_3 (q1 : Int32) (q2 : Int32) : Int32 := if q1 < (13 : Int32) then (1 : Int32) else (g3_11_2 q1 q2)
def f3 (q1 : Int32) (q2 : Int32) : Int32 := (g3_3_3 q1 q2)
set_option maxRecDepth 65536 in
set_option maxHeartbeats 40000000 in
theorem rm3 (l : Launch) (Z : State) (a0 : Array Value) (hw : ∀ d ∈ tables_1, d.before a0 Z = true) (ws : List Jvm.Cond) (q1 : Int32) (q2 : Int32) (h0 : Heap) (n0 : Nat) (Z0 : n0 ≤ h0.size) :
    MetFree l (⟨"com/example/tilewright/tilewright/kernel/MatrixVectorAddsCheckingRowsPinLaw", "expected", "(II)Z"⟩ : MethodName) (head1 (Jvm.Cond.code (⟨"com/example/tilewright/tilewright/kernel/MatrixVectorAddsCheckingRowsPinLaw", "expected", "(II)Z"⟩ : MethodName) method_3_code 2 (some .boolean) :: ws) ({ frames := 1, cells := 0, slots := 0, locals := 13 } : Room)) (fun a U => a = #[(.int q1), (.int q2)] ∧ Z.Warmed39 U.vm ∧ U.heap = h0) (fun _ _ _ _ _ => True) (fun _ U o U' => ∃ v L, o = .returned v ∧ PI n0 h0 (f3 q1 q2) v U'.heap L ∧ FrameEnd U o U' L ({ frames := 1, cells := 0, slots := 0, locals := 13 } : Room).cells ({ frames := 1, cells := 0, slots := 0, locals := 13 } : Room).slots) := by
  refine MetFree.of_bodySF (plainFor_of_name pn3) hisR ?_
  intro p e s m args below meth c s₁ Bd hml0 hP hK
  obtain ⟨rfl, hZ, hh⟩ := hP
  have hx := Bd.exec
  have hby := Bd.bytes
  have hml : c.maxLocals = 2 := hml0
  have hown : s.vm.findClass "com/example/tilewright/tilewright/kernel/MatrixVectorAddsCheckingRowsPinLaw" = some m.cls := findClass_of_methodNamed Bd.named
  have X0 : Stand p l e ({ frames := 1, cells := 0, slots := 0, locals := 13 } : Room) s m #[(.int q1), (.int q2)] below meth c s₁ [] 0 0 := Stand.of_body Bd
  have e0 : s₁.heap = h0 := by rw [← hh, Bd.state]; rfl
  have N0 := Fr.nil n0
  show OGo p e below (Out s ({ frames := 1, cells := 0, slots := 0, locals := 13 } : Room).cells ({ frames := 1, cells := 0, slots := 0, locals := 13 } : Room).slots (PI n0 h0 (f3 q1 q2))) (s₁.setTop (entryFrame m #[(.int q1), (.int q2)] 2))
  refine OGo.st (fun t k => castTop (ef3 m q1 q2) k) ?_
  show OGo p e below (Out s ({ frames := 1, cells := 0, slots := 0, locals := 13 } : Room).cells ({ frames := 1, cells := 0, slots := 0, locals := 13 } : Room).slots (PI n0 h0 (g3_3_3 q1 q2))) (s₁.setTop (mkF m 0 #[.val (.int q1), .val (.int q2)] []))
  refine OGo.st (fun t k => XS.iloadN X0.here hx rfl (hb hby d3_0) rfl k) ?_
  show OGo p e below _ (s₁.setTop (mkF m 1 #[.val (.int q1), .val (.int q2)] [(.int q1)]))
  refine OGo.st (fun t k => XS.bipush X0.here hx rfl (hb hby d3_1) k) ?_
  show OGo p e below _ (s₁.setTop (mkF m 3 #[.val (.int q1), .val (.int q2)] [(.int (13 : Int32)), (.int q1)]))
  by_cases hc3_1 : q1 < (13 : Int32)
  · refine OGo.eqvI (show (g3_3_3 q1 q2) = (1 : Int32) from if_pos hc3_1) ?_
    refine OGo.st (fun t k => XS.icmpNo X0.here hx rfl (hb hby d3_3) rfl (tlt hc3_1).2.1 k) ?_
    show OGo p e below _ (s₁.setTop (mkF m 6 #[.val (.int q1), .val (.int q2)] []))
    refine OGo.st (fun t k => XS.iconst X0.here hx rfl (hb hby d3_6) k) ?_
    show OGo p e below _ (s₁.setTop (mkF m 7 #[.val (.int q1), .val (.int q2)] [(.int (1 : Int32))]))
    exact OGo.outN X0 hx (t := .boolean) Bd.returns (by simp) Bd.notSynchronized (hb hby d3_7) ⟨rfl, N0, e0⟩ (by decide) (by decide)
  · refine OGo.eqvI (show (g3_3_3 q1 q2) = (g3_11_2 q1 q2) from if_neg hc3_1) ?_
    refine OGo.st (fun t k => XS.icmpYes X0.here hx rfl (pc0 := 3) (pc' := 8) rfl (hb hby d3_3) rfl (flt hc3_1).2.1 (by decide) (by decide) k) ?_
    show OGo p e below _ (s₁.setTop (mkF m 8 #[.val (.int q1), .val (.int q2)] []))
    refine OGo.st (fun t k => XS.iloadN X0.here hx rfl (hb hby d3_8) rfl k) ?_
    show OGo p e below _ (s₁.setTop (mkF m 9 #[.val (.int q1), .val (.int q2)] [(.int q1)]))
    refine OGo.st (fun t k => XS.bipush X0.here hx rfl (hb hby d3_9) k) ?_
    show OGo p e below _ (s₁.setTop (mkF m 11 #[.val (.int q1), .val (.int q2)] [(.int (24 : Int32)), (.int q1)]))
    by_cases hc11_2 : q1 < (24 : Int32)
    · refine OGo.eqvI (show (g3_11_2 q1 q2) = (g3_21_1 q1 q2) from if_pos hc11_2) ?_
      refine OGo.st (fun t k => XS.icmpYes X0.here hx rfl (pc0 := 11) (pc' := 16) rfl (hb hby d3_11) rfl (tlt hc11_2).1 (by decide) (by decide) k) ?_
      show OGo p e below _ (s₁.setTop (mkF m 16 #[.val (.int q1), .val (.int q2)] []))
      refine OGo.st (fun t k => XS.iloadN X0.here hx rfl (hb hby d3_16) rfl k) ?_
      show OGo p e below _ (s₁.setTop (mkF m 17 #[.val (.int q1), .val (.int q2)] [(.int q2)]))
      refine OGo.st (fun t k => XS.iloadN X0.here hx rfl (hb hby d3_17) rfl k) ?_
      show OGo p e below _ (s₁.setTop (mkF m 18 #[.val (.int q1), .val (.int q2)] [(.int q1), (.int q2)]))
      obtain ⟨_, _, ⟨T3, L3, k3, n3⟩, -, X3, ⟨Lc3, hQ3, l3, y3, z3⟩, st3⟩ := Jvm.LawKit.callS X0 hx (y := (⟨"com/example/tilewright/tilewright/kernel/MatrixVectorAddsCheckingRowsPinLaw", "leastStored", "(I)I"⟩ : MethodName)) hown (mvT hZ (hw _ (List.mem_of_getElem? (i := 1) rfl))) (mvT hZ (hw _ (List.mem_of_getElem? (i := 2) rfl))) (mvT hZ (hw _ (List.mem_of_getElem? (i := 3) rfl))) (mvT hZ (hw _ (List.mem_of_getElem? (i := 4) rfl))) (by decide) (backOf (W := 1) (rm1 l Z a0 hw [] q1 h0 n0 Z0 (own_nz hc3_1)) hZ (hw _ (List.mem_of_getElem? (i := 4) rfl)) (hw _ (List.mem_of_getElem? (i := 3) rfl)) (by decide) (by decide)) (g := (mkF m 18 #[.val (.int q1), .val (.int q2)] [(.int q1), (.int q2)])) rfl (by rw [hml]; rfl) (argsL := [(.int q1)]) (rest := [(.int q2)]) (lenOf pd3_0 rfl) rfl (by show 2 * 0 + _ ≤ _; exact Nat.le_of_eq rfl) (hb hby d3_18) (fun _ _ => ⟨rfl, e0, (by decide : 0 + 0 ≤ _), (by decide : 0 + 0 ≤ _)⟩)
      dsimp only [Pt.U, Pt.locs, Pt.cells, Pt.slots] at X3 l3 y3 z3 st3 hQ3
      subst l3 y3 z3
      obtain ⟨rfl, Nq3, e3⟩ := hQ3
      have N3 := Fr.app N0 Nq3
      refine OGo.st (fun t k => st3 t k) ?_
      show OGo p e below _ (T3.setTop (mkF m 21 #[.val (.int q1), .val (.int q2)] [(.int (f1 q1)), (.int q2)]))
      by_cases hc21_4 : q2 < (f1 q1)
      · refine OGo.eqvI (show (g3_21_1 q1 q2) = (0 : Int32) from if_pos hc21_4) ?_
        refine OGo.st (fun t k => XS.icmpYes X3.here hx rfl (pc0 := 21) (pc' := 28) rfl (hb hby d3_21) rfl (tlt hc21_4).1 (by decide) (by decide) k) ?_
        show OGo p e below _ (T3.setTop (mkF m 28 #[.val (.int q1), .val (.int q2)] []))
        refine OGo.st (fun t k => XS.iconst X3.here hx rfl (hb hby d3_28) k) ?_
        show OGo p e below _ (T3.setTop (mkF m 29 #[.val (.int q1), .val (.int q2)] [(.int (0 : Int32))]))
        exact OGo.outN X3 hx (t := .boolean) Bd.returns (by simp) Bd.notSynchronized (hb hby d3_29) ⟨rfl, N3, e3⟩ (by decide) (by decide)
      · refine OGo.eqvI (show (g3_21_1 q1 q2) = (1 : Int32) from if_neg hc21_4) ?_
        refine OGo.st (fun t k => XS.icmpNo X3.here hx rfl (hb hby d3_21) rfl (flt hc21_4).1 k) ?_
        show OGo p e below _ (T3.setTop (mkF m 24 #[.val (.int q1), .val (.int q2)] []))
        refine OGo.st (fun t k => XS.iconst X3.here hx rfl (hb hby d3_24) k) ?_
        show OGo p e below _ (T3.setTop (mkF m 25 #[.val (.int q1), .val (.int q2)] [(.int (1 : Int32))]))
        refine OGo.st (fun t k => XS.goto X3.here hx rfl (pc0 := 25) (pc' := 29) rfl (hb hby d3_25) (by decide) (by decide) k) ?_
        show OGo p e below _ (T3.setTop (mkF m 29 #[.val (.int q1), .val (.int q2)] [(.int (1 : Int32))]))
        exact OGo.outN X3 hx (t := .boolean) Bd.returns (by simp) Bd.notSynchronized (hb hby d3_29) ⟨rfl, N3, e3⟩ (by decide) (by decide)
    · refine OGo.eqvI (show (g3_11_2 q1 q2) = (0 : Int32) from if_neg hc11_2) ?_
      refine OGo.st (fun t k => XS.icmpNo X0.here hx rfl (hb hby d3_11) rfl (flt hc11_2).1 k) ?_
      show OGo p e below _ (s₁.setTop (mkF m 14 #[.val (.int q1), .val (.int q2)] []))
      refine OGo.st (fun t k => XS.iconst X0.here hx rfl (hb hby d3_14) k) ?_
      show OGo p e below _ (s₁.setTop (mkF m 15 #[.val (.int q1), .val (.int q2)] [(.int (0 : Int32))]))
      exact OGo.outN X0 hx (t := .boolean) Bd.returns (by simp) Bd.notSynchronized (hb hby d3_15) ⟨rfl, N0, e0⟩ (by decide) (by decide)
theorem pn0 : plainName "com/example/tilewright/tilewright/kernel/MatrixVectorAddsCheckingRowsPinLaw" = true := by first | (simp [plainName, overriddenIn]; done) | decide +kernel
theorem pd0_0 : parseMethodDescriptor "(I)I" = some ⟨[.int], some .int⟩ := by decide +kernel
theorem pd0_1 : parseMethodDescriptor "(II)Z" = some ⟨[.int, .int], some .boolean⟩ := by decide +kernel
theorem ef0 (m : MethodId) (q1 : Int32) (q2 : Int32) (q3 : Int32) : entryFrame m #[(.int q1), (.int q2), (.int q3)] maxLocals = mkF m 0 #[.val (.int q1), .val (.int q2), .val (.int q3), .unset, .unset, .unset] [] := by first | (simp [entryFrame, mkF, argsToLocals, Value.category, maxLocals]; done) | rfl
def g0_92_1 (q1 : Int32) (q2 : Int32) (q3 : Int32) (j78_l4 : Int32) (j78_l5 : Int32) : Int32 := if (f2 j78_l4 j78_l5) = (f3 j78_l4 j78_l5) then (1 : Int32) else (0 : Int32)
def g0_j78 (q1 : Int32) (q2 : Int32) (q3 : Int32) (j78_l4 : Int32) (j78_l5 : Int32) : Int32 := (g0_92_1 q1 q2 q3 j78_l4 j78_l5)
def g0_36_2 (q1 : Int32) (q2 : Int32) (q3 : Int32) : Int32 := if (q3 &&& (3 : Int32)) = (2 : Int32) then (g0_j78 q1 q2 q3 ((13 : Int32) + ((q1 &&& (2147483647 : Int32)) - ((q1 &&& (2147483647 : Int32)) / (11 : Int32)) * (11 : Int32))) ((f1 ((13 : Int32) + ((q1 &&& (2147483647 : Int32)) - ((q1 &&& (2147483647 : Int32)) / (11 : Int32)) * (11 : Int32)))) + (q2 - (q2 / (3 : Int32)) * (3 : Int32)))) else (g0_j78 q1 q2 q3 (q1 &&& (31 : Int32)) (q2 &&& (4095 : Int32)))
def g0_19_3 (q1 : Int32) (q2 : Int32) (q3 : Int32) : Int32 := if (q3 &&& (3 : Int32)) = (1 : Int32) then (g0_j78 q1 q2 q3 (q1 &&& (31 : Int32)) q2) else (g0_36_2 q1 q2 q3)
def g0_5_4 (q1 : Int32) (q2 : Int32) (q3 : Int32) : Int32 := if (q3 &&& (3 : Int32)) = (0 : Int32) then (g0_j78 q1 q2 q3 q1 q2) else (g0_19_3 q1 q2 q3)
def f0 (q1 : Int32) (q2 : Int32) (q3 : Int32) : Int32 := (g0_5_4 q1 q2 q3)
set_option maxRecDepth 65536 in
set_option maxHeartbeats 40000000 in
theorem rm0 (l : Launch) (Z : State) (a0 : Array Value) (hw : ∀ d ∈ tables_1, d.before a0 Z = true) (ws : List Jvm.Cond) (q1 : Int32) (q2 : Int32) (q3 : Int32) (h0 : Heap) (n0 : Nat) (Z0 : n0 ≤ h0.size) :
    MetFree l x (head1 (Jvm.Cond.code x code maxLocals ret :: ws) room_1) (fun a U => a = #[(.int q1), (.int q2), (.int q3)] ∧ Z.Warmed39 U.vm ∧ U.heap = h0) (fun _ _ _ _ _ => True) (fun _ U o U' => ∃ v L, o = .returned v ∧ PI n0 h0 (f0 q1 q2 q3) v U'.heap L ∧ FrameEnd U o U' L room_1.cells room_1.slots) := by
  refine MetFree.of_bodySF (plainFor_of_name pn0) hisR ?_
  intro p e s m args below meth c s₁ Bd hml0 hP hK
  obtain ⟨rfl, hZ, hh⟩ := hP
  have hx := Bd.exec
  have hby := Bd.bytes
  have hml : c.maxLocals = 6 := hml0
  have hown : s.vm.findClass "com/example/tilewright/tilewright/kernel/MatrixVectorAddsCheckingRowsPinLaw" = some m.cls := findClass_of_methodNamed Bd.named
  have X0 : Stand p l e room_1 s m #[(.int q1), (.int q2), (.int q3)] below meth c s₁ [] 0 0 := Stand.of_body Bd
  have e0 : s₁.heap = h0 := by rw [← hh, Bd.state]; rfl
  have N0 := Fr.nil n0
  show OGo p e below (Out s room_1.cells room_1.slots (PI n0 h0 (f0 q1 q2 q3))) (s₁.setTop (entryFrame m #[(.int q1), (.int q2), (.int q3)] maxLocals))
  have J78 : ∀ (T : State) (locs : List Loc) (X : Stand p l e room_1 s m #[(.int q1), (.int q2), (.int q3)] below meth c T locs 0 0) (eT : T.heap = h0) (N : Fr n0 locs) (j78_l4 : Int32) (j78_l5 : Int32), OGo p e below (Out s room_1.cells room_1.slots (PI n0 h0 (g0_j78 q1 q2 q3 j78_l4 j78_l5))) (T.setTop (mkF m 78 #[.val (.int q1), .val (.int q2), .val (.int q3), .val (.int (q3 &&& (3 : Int32))), .val (.int j78_l4), .val (.int j78_l5)] [])) := by
    intro T locs X eT N j78_l4 j78_l5
    show OGo p e below (Out s room_1.cells room_1.slots (PI n0 h0 (g0_92_1 q1 q2 q3 j78_l4 j78_l5))) (T.setTop (mkF m 78 #[.val (.int q1), .val (.int q2), .val (.int q3), .val (.int (q3 &&& (3 : Int32))), .val (.int j78_l4), .val (.int j78_l5)] []))
    refine OGo.st (fun t k => XS.iload X.here hx rfl (hb hby at_78) rfl k) ?_
    show OGo p e below _ (T.setTop (mkF m 80 #[.val (.int q1), .val (.int q2), .val (.int q3), .val (.int (q3 &&& (3 : Int32))), .val (.int j78_l4), .val (.int j78_l5)] [(.int j78_l4)]))
    refine OGo.st (fun t k => XS.iload X.here hx rfl (hb hby at_80) rfl k) ?_
    show OGo p e below _ (T.setTop (mkF m 82 #[.val (.int q1), .val (.int q2), .val (.int q3), .val (.int (q3 &&& (3 : Int32))), .val (.int j78_l4), .val (.int j78_l5)] [(.int j78_l5), (.int j78_l4)]))
    obtain ⟨_, _, ⟨T1, L1, k1, n1⟩, -, X1, ⟨Lc1, hQ1, l1, y1, z1⟩, st1⟩ := Jvm.LawKit.callS X hx (y := (⟨"com/example/tilewright/tilewright/kernel/MatrixVector", "addsCheckingRows", "(II)Z"⟩ : MethodName)) hown (mvT hZ (hw _ (List.mem_of_getElem? (i := 5) rfl))) (mvT hZ (hw _ (List.mem_of_getElem? (i := 6) rfl))) (mvT hZ (hw _ (List.mem_of_getElem? (i := 7) rfl))) (mvT hZ (hw _ (List.mem_of_getElem? (i := 8) rfl))) (by decide) (backOf (W := 0) (rm2 l Z a0 hw [] j78_l4 j78_l5 h0 n0 Z0) hZ (hw _ (List.mem_of_getElem? (i := 8) rfl)) (hw _ (List.mem_of_getElem? (i := 7) rfl)) (by decide) (by decide)) (g := (mkF m 82 #[.val (.int q1), .val (.int q2), .val (.int q3), .val (.int (q3 &&& (3 : Int32))), .val (.int j78_l4), .val (.int j78_l5)] [(.int j78_l5), (.int j78_l4)])) rfl (by rw [hml]; rfl) (argsL := [(.int j78_l4), (.int j78_l5)]) (rest := []) (lenOf pd0_1 rfl) rfl (by show 2 * 0 + _ ≤ _; exact Nat.le_of_eq rfl) (hb hby at_82) (fun _ _ => ⟨rfl, eT, (by decide : 0 + 0 ≤ _), (by decide : 0 + 0 ≤ _)⟩)
    dsimp only [Pt.U, Pt.locs, Pt.cells, Pt.slots] at X1 l1 y1 z1 st1 hQ1
    subst l1 y1 z1
    obtain ⟨rfl, Nq1, e1⟩ := hQ1
    have N1 := Fr.app N Nq1
    refine OGo.st (fun t k => st1 t k) ?_
    show OGo p e below _ (T1.setTop (mkF m 85 #[.val (.int q1), .val (.int q2), .val (.int q3), .val (.int (q3 &&& (3 : Int32))), .val (.int j78_l4), .val (.int j78_l5)] [(.int (f2 j78_l4 j78_l5))]))
    refine OGo.st (fun t k => XS.iload X1.here hx rfl (hb hby at_85) rfl k) ?_
    show OGo p e below _ (T1.setTop (mkF m 87 #[.val (.int q1), .val (.int q2), .val (.int q3), .val (.int (q3 &&& (3 : Int32))), .val (.int j78_l4), .val (.int j78_l5)] [(.int j78_l4), (.int (f2 j78_l4 j78_l5))]))
    refine OGo.st (fun t k => XS.iload X1.here hx rfl (hb hby at_87) rfl k) ?_
    show OGo p e below _ (T1.setTop (mkF m 89 #[.val (.int q1), .val (.int q2), .val (.int q3), .val (.int (q3 &&& (3 : Int32))), .val (.int j78_l4), .val (.int j78_l5)] [(.int j78_l5), (.int j78_l4), (.int (f2 j78_l4 j78_l5))]))
    obtain ⟨_, _, ⟨T2, L2, k2, n2⟩, -, X2, ⟨Lc2, hQ2, l2, y2, z2⟩, st2⟩ := Jvm.LawKit.callS X1 hx (y := (⟨"com/example/tilewright/tilewright/kernel/MatrixVectorAddsCheckingRowsPinLaw", "expected", "(II)Z"⟩ : MethodName)) hown (mvT hZ (hw _ (List.mem_of_getElem? (i := 10) rfl))) (mvT hZ (hw _ (List.mem_of_getElem? (i := 11) rfl))) (mvT hZ (hw _ (List.mem_of_getElem? (i := 3) rfl))) (mvT hZ (hw _ (List.mem_of_getElem? (i := 12) rfl))) (by decide) (backOf (W := 1) (rm3 l Z a0 hw [] j78_l4 j78_l5 h0 n0 Z0) hZ (hw _ (List.mem_of_getElem? (i := 12) rfl)) (hw _ (List.mem_of_getElem? (i := 3) rfl)) (by decide) (by decide)) (g := (mkF m 89 #[.val (.int q1), .val (.int q2), .val (.int q3), .val (.int (q3 &&& (3 : Int32))), .val (.int j78_l4), .val (.int j78_l5)] [(.int j78_l5), (.int j78_l4), (.int (f2 j78_l4 j78_l5))])) rfl (by rw [hml]; rfl) (argsL := [(.int j78_l4), (.int j78_l5)]) (rest := [(.int (f2 j78_l4 j78_l5))]) (lenOf pd0_1 rfl) rfl (by show 2 * 0 + _ ≤ _; exact Nat.le_of_eq rfl) (hb hby at_89) (fun _ _ => ⟨rfl, e1, (by decide : 0 + 0 ≤ _), (by decide : 0 + 0 ≤ _)⟩)
    dsimp only [Pt.U, Pt.locs, Pt.cells, Pt.slots] at X2 l2 y2 z2 st2 hQ2
    subst l2 y2 z2
    obtain ⟨rfl, Nq2, e2⟩ := hQ2
    have N2 := Fr.app N1 Nq2
    refine OGo.st (fun t k => st2 t k) ?_
    show OGo p e below _ (T2.setTop (mkF m 92 #[.val (.int q1), .val (.int q2), .val (.int q3), .val (.int (q3 &&& (3 : Int32))), .val (.int j78_l4), .val (.int j78_l5)] [(.int (f3 j78_l4 j78_l5)), (.int (f2 j78_l4 j78_l5))]))
    by_cases hc92_3 : (f2 j78_l4 j78_l5) = (f3 j78_l4 j78_l5)
    · refine OGo.eqvI (show (g0_92_1 q1 q2 q3 j78_l4 j78_l5) = (1 : Int32) from if_pos hc92_3) ?_
      refine OGo.st (fun t k => XS.icmpNo X2.here hx rfl (hb hby at_92) rfl (teq hc92_3).2 k) ?_
      show OGo p e below _ (T2.setTop (mkF m 95 #[.val (.int q1), .val (.int q2), .val (.int q3), .val (.int (q3 &&& (3 : Int32))), .val (.int j78_l4), .val (.int j78_l5)] []))
      refine OGo.st (fun t k => XS.iconst X2.here hx rfl (hb hby at_95) k) ?_
      show OGo p e below _ (T2.setTop (mkF m 96 #[.val (.int q1), .val (.int q2), .val (.int q3), .val (.int (q3 &&& (3 : Int32))), .val (.int j78_l4), .val (.int j78_l5)] [(.int (1 : Int32))]))
      refine OGo.st (fun t k => XS.goto X2.here hx rfl (pc0 := 96) (pc' := 100) rfl (hb hby at_96) (by decide) (by decide) k) ?_
      show OGo p e below _ (T2.setTop (mkF m 100 #[.val (.int q1), .val (.int q2), .val (.int q3), .val (.int (q3 &&& (3 : Int32))), .val (.int j78_l4), .val (.int j78_l5)] [(.int (1 : Int32))]))
      exact OGo.outN X2 hx (t := .boolean) Bd.returns (by simp) Bd.notSynchronized (hb hby at_100) ⟨rfl, N2, e2⟩ (by decide) (by decide)
    · refine OGo.eqvI (show (g0_92_1 q1 q2 q3 j78_l4 j78_l5) = (0 : Int32) from if_neg hc92_3) ?_
      refine OGo.st (fun t k => XS.icmpYes X2.here hx rfl (pc0 := 92) (pc' := 99) rfl (hb hby at_92) rfl (feq hc92_3).2 (by decide) (by decide) k) ?_
      show OGo p e below _ (T2.setTop (mkF m 99 #[.val (.int q1), .val (.int q2), .val (.int q3), .val (.int (q3 &&& (3 : Int32))), .val (.int j78_l4), .val (.int j78_l5)] []))
      refine OGo.st (fun t k => XS.iconst X2.here hx rfl (hb hby at_99) k) ?_
      show OGo p e below _ (T2.setTop (mkF m 100 #[.val (.int q1), .val (.int q2), .val (.int q3), .val (.int (q3 &&& (3 : Int32))), .val (.int j78_l4), .val (.int j78_l5)] [(.int (0 : Int32))]))
      exact OGo.outN X2 hx (t := .boolean) Bd.returns (by simp) Bd.notSynchronized (hb hby at_100) ⟨rfl, N2, e2⟩ (by decide) (by decide)
  refine OGo.st (fun t k => castTop (ef0 m q1 q2 q3) k) ?_
  show OGo p e below (Out s room_1.cells room_1.slots (PI n0 h0 (g0_5_4 q1 q2 q3))) (s₁.setTop (mkF m 0 #[.val (.int q1), .val (.int q2), .val (.int q3), .unset, .unset, .unset] []))
  refine OGo.st (fun t k => XS.iloadN X0.here hx rfl (hb hby at_0) rfl k) ?_
  show OGo p e below _ (s₁.setTop (mkF m 1 #[.val (.int q1), .val (.int q2), .val (.int q3), .unset, .unset, .unset] [(.int q3)]))
  refine OGo.st (fun t k => XS.iconst X0.here hx rfl (hb hby at_1) k) ?_
  show OGo p e below _ (s₁.setTop (mkF m 2 #[.val (.int q1), .val (.int q2), .val (.int q3), .unset, .unset, .unset] [(.int (3 : Int32)), (.int q3)]))
  refine OGo.st (fun t k => XS.iand X0.here hx rfl (hb hby at_2) rfl k) ?_
  show OGo p e below _ (s₁.setTop (mkF m 3 #[.val (.int q1), .val (.int q2), .val (.int q3), .unset, .unset, .unset] [(.int (q3 &&& (3 : Int32)))]))
  refine OGo.st (fun t k => XS.istoreN X0.here hx rfl (hb hby at_3) rfl (l' := #[.val (.int q1), .val (.int q2), .val (.int q3), .val (.int (q3 &&& (3 : Int32))), .unset, .unset]) rfl k) ?_
  show OGo p e below _ (s₁.setTop (mkF m 4 #[.val (.int q1), .val (.int q2), .val (.int q3), .val (.int (q3 &&& (3 : Int32))), .unset, .unset] []))
  refine OGo.st (fun t k => XS.iloadN X0.here hx rfl (hb hby at_4) rfl k) ?_
  show OGo p e below _ (s₁.setTop (mkF m 5 #[.val (.int q1), .val (.int q2), .val (.int q3), .val (.int (q3 &&& (3 : Int32))), .unset, .unset] [(.int (q3 &&& (3 : Int32)))]))
  by_cases hc5_4 : (q3 &&& (3 : Int32)) = (0 : Int32)
  · refine OGo.eqvI (show (g0_5_4 q1 q2 q3) = (g0_j78 q1 q2 q3 q1 q2) from if_pos hc5_4) ?_
    refine OGo.st (fun t k => XS.ifNo X0.here hx rfl (hb hby at_5) rfl ((if0 _ _).trans (teq hc5_4).2) k) ?_
    show OGo p e below _ (s₁.setTop (mkF m 8 #[.val (.int q1), .val (.int q2), .val (.int q3), .val (.int (q3 &&& (3 : Int32))), .unset, .unset] []))
    refine OGo.st (fun t k => XS.iloadN X0.here hx rfl (hb hby at_8) rfl k) ?_
    show OGo p e below _ (s₁.setTop (mkF m 9 #[.val (.int q1), .val (.int q2), .val (.int q3), .val (.int (q3 &&& (3 : Int32))), .unset, .unset] [(.int q1)]))
    refine OGo.st (fun t k => XS.istore X0.here hx rfl (hb hby at_9) rfl (l' := #[.val (.int q1), .val (.int q2), .val (.int q3), .val (.int (q3 &&& (3 : Int32))), .val (.int q1), .unset]) rfl k) ?_
    show OGo p e below _ (s₁.setTop (mkF m 11 #[.val (.int q1), .val (.int q2), .val (.int q3), .val (.int (q3 &&& (3 : Int32))), .val (.int q1), .unset] []))
    refine OGo.st (fun t k => XS.iloadN X0.here hx rfl (hb hby at_11) rfl k) ?_
    show OGo p e below _ (s₁.setTop (mkF m 12 #[.val (.int q1), .val (.int q2), .val (.int q3), .val (.int (q3 &&& (3 : Int32))), .val (.int q1), .unset] [(.int q2)]))
    refine OGo.st (fun t k => XS.istore X0.here hx rfl (hb hby at_12) rfl (l' := #[.val (.int q1), .val (.int q2), .val (.int q3), .val (.int (q3 &&& (3 : Int32))), .val (.int q1), .val (.int q2)]) rfl k) ?_
    show OGo p e below _ (s₁.setTop (mkF m 14 #[.val (.int q1), .val (.int q2), .val (.int q3), .val (.int (q3 &&& (3 : Int32))), .val (.int q1), .val (.int q2)] []))
    refine OGo.st (fun t k => XS.goto X0.here hx rfl (pc0 := 14) (pc' := 78) rfl (hb hby at_14) (by decide) (by decide) k) ?_
    show OGo p e below _ (s₁.setTop (mkF m 78 #[.val (.int q1), .val (.int q2), .val (.int q3), .val (.int (q3 &&& (3 : Int32))), .val (.int q1), .val (.int q2)] []))
    exact J78 s₁ _ X0 e0 N0 q1 q2
  · refine OGo.eqvI (show (g0_5_4 q1 q2 q3) = (g0_19_3 q1 q2 q3) from if_neg hc5_4) ?_
    refine OGo.st (fun t k => XS.ifYes X0.here hx rfl (pc0 := 5) (pc' := 17) rfl (hb hby at_5) rfl ((if0 _ _).trans (feq hc5_4).2) (by decide) (by decide) k) ?_
    show OGo p e below _ (s₁.setTop (mkF m 17 #[.val (.int q1), .val (.int q2), .val (.int q3), .val (.int (q3 &&& (3 : Int32))), .unset, .unset] []))
    refine OGo.st (fun t k => XS.iloadN X0.here hx rfl (hb hby at_17) rfl k) ?_
    show OGo p e below _ (s₁.setTop (mkF m 18 #[.val (.int q1), .val (.int q2), .val (.int q3), .val (.int (q3 &&& (3 : Int32))), .unset, .unset] [(.int (q3 &&& (3 : Int32)))]))
    refine OGo.st (fun t k => XS.iconst X0.here hx rfl (hb hby at_18) k) ?_
    show OGo p e below _ (s₁.setTop (mkF m 19 #[.val (.int q1), .val (.int q2), .val (.int q3), .val (.int (q3 &&& (3 : Int32))), .unset, .unset] [(.int (1 : Int32)), (.int (q3 &&& (3 : Int32)))]))
    by_cases hc19_5 : (q3 &&& (3 : Int32)) = (1 : Int32)
    · refine OGo.eqvI (show (g0_19_3 q1 q2 q3) = (g0_j78 q1 q2 q3 (q1 &&& (31 : Int32)) q2) from if_pos hc19_5) ?_
      refine OGo.st (fun t k => XS.icmpNo X0.here hx rfl (hb hby at_19) rfl (teq hc19_5).2 k) ?_
      show OGo p e below _ (s₁.setTop (mkF m 22 #[.val (.int q1), .val (.int q2), .val (.int q3), .val (.int (q3 &&& (3 : Int32))), .unset, .unset] []))
      refine OGo.st (fun t k => XS.iloadN X0.here hx rfl (hb hby at_22) rfl k) ?_
      show OGo p e below _ (s₁.setTop (mkF m 23 #[.val (.int q1), .val (.int q2), .val (.int q3), .val (.int (q3 &&& (3 : Int32))), .unset, .unset] [(.int q1)]))
      refine OGo.st (fun t k => XS.bipush X0.here hx rfl (hb hby at_23) k) ?_
      show OGo p e below _ (s₁.setTop (mkF m 25 #[.val (.int q1), .val (.int q2), .val (.int q3), .val (.int (q3 &&& (3 : Int32))), .unset, .unset] [(.int (31 : Int32)), (.int q1)]))
      refine OGo.st (fun t k => XS.iand X0.here hx rfl (hb hby at_25) rfl k) ?_
      show OGo p e below _ (s₁.setTop (mkF m 26 #[.val (.int q1), .val (.int q2), .val (.int q3), .val (.int (q3 &&& (3 : Int32))), .unset, .unset] [(.int (q1 &&& (31 : Int32)))]))
      refine OGo.st (fun t k => XS.istore X0.here hx rfl (hb hby at_26) rfl (l' := #[.val (.int q1), .val (.int q2), .val (.int q3), .val (.int (q3 &&& (3 : Int32))), .val (.int (q1 &&& (31 : Int32))), .unset]) rfl k) ?_
      show OGo p e below _ (s₁.setTop (mkF m 28 #[.val (.int q1), .val (.int q2), .val (.int q3), .val (.int (q3 &&& (3 : Int32))), .val (.int (q1 &&& (31 : Int32))), .unset] []))
      refine OGo.st (fun t k => XS.iloadN X0.here hx rfl (hb hby at_28) rfl k) ?_
      show OGo p e below _ (s₁.setTop (mkF m 29 #[.val (.int q1), .val (.int q2), .val (.int q3), .val (.int (q3 &&& (3 : Int32))), .val (.int (q1 &&& (31 : Int32))), .unset] [(.int q2)]))
      refine OGo.st (fun t k => XS.istore X0.here hx rfl (hb hby at_29) rfl (l' := #[.val (.int q1), .val (.int q2), .val (.int q3), .val (.int (q3 &&& (3 : Int32))), .val (.int (q1 &&& (31 : Int32))), .val (.int q2)]) rfl k) ?_
      show OGo p e below _ (s₁.setTop (mkF m 31 #[.val (.int q1), .val (.int q2), .val (.int q3), .val (.int (q3 &&& (3 : Int32))), .val (.int (q1 &&& (31 : Int32))), .val (.int q2)] []))
      refine OGo.st (fun t k => XS.goto X0.here hx rfl (pc0 := 31) (pc' := 78) rfl (hb hby at_31) (by decide) (by decide) k) ?_
      show OGo p e below _ (s₁.setTop (mkF m 78 #[.val (.int q1), .val (.int q2), .val (.int q3), .val (.int (q3 &&& (3 : Int32))), .val (.int (q1 &&& (31 : Int32))), .val (.int q2)] []))
      exact J78 s₁ _ X0 e0 N0 (q1 &&& (31 : Int32)) q2
    · refine OGo.eqvI (show (g0_19_3 q1 q2 q3) = (g0_36_2 q1 q2 q3) from if_neg hc19_5) ?_
      refine OGo.st (fun t k => XS.icmpYes X0.here hx rfl (pc0 := 19) (pc' := 34) rfl (hb hby at_19) rfl (feq hc19_5).2 (by decide) (by decide) k) ?_
      show OGo p e below _ (s₁.setTop (mkF m 34 #[.val (.int q1), .val (.int q2), .val (.int q3), .val (.int (q3 &&& (3 : Int32))), .unset, .unset] []))
      refine OGo.st (fun t k => XS.iloadN X0.here hx rfl (hb hby at_34) rfl k) ?_
      show OGo p e below _ (s₁.setTop (mkF m 35 #[.val (.int q1), .val (.int q2), .val (.int q3), .val (.int (q3 &&& (3 : Int32))), .unset, .unset] [(.int (q3 &&& (3 : Int32)))]))
      refine OGo.st (fun t k => XS.iconst X0.here hx rfl (hb hby at_35) k) ?_
      show OGo p e below _ (s₁.setTop (mkF m 36 #[.val (.int q1), .val (.int q2), .val (.int q3), .val (.int (q3 &&& (3 : Int32))), .unset, .unset] [(.int (2 : Int32)), (.int (q3 &&& (3 : Int32)))]))
      by_cases hc36_6 : (q3 &&& (3 : Int32)) = (2 : Int32)
      · refine OGo.eqvI (show (g0_36_2 q1 q2 q3) = (g0_j78 q1 q2 q3 ((13 : Int32) + ((q1 &&& (2147483647 : Int32)) - ((q1 &&& (2147483647 : Int32)) / (11 : Int32)) * (11 : Int32))) ((f1 ((13 : Int32) + ((q1 &&& (2147483647 : Int32)) - ((q1 &&& (2147483647 : Int32)) / (11 : Int32)) * (11 : Int32)))) + (q2 - (q2 / (3 : Int32)) * (3 : Int32)))) from if_pos hc36_6) ?_
        refine OGo.st (fun t k => XS.icmpNo X0.here hx rfl (hb hby at_36) rfl (teq hc36_6).2 k) ?_
        show OGo p e below _ (s₁.setTop (mkF m 39 #[.val (.int q1), .val (.int q2), .val (.int q3), .val (.int (q3 &&& (3 : Int32))), .unset, .unset] []))
        refine OGo.st (fun t k => XS.bipush X0.here hx rfl (hb hby at_39) k) ?_
        show OGo p e below _ (s₁.setTop (mkF m 41 #[.val (.int q1), .val (.int q2), .val (.int q3), .val (.int (q3 &&& (3 : Int32))), .unset, .unset] [(.int (13 : Int32))]))
        refine OGo.st (fun t k => XS.iloadN X0.here hx rfl (hb hby at_41) rfl k) ?_
        show OGo p e below _ (s₁.setTop (mkF m 42 #[.val (.int q1), .val (.int q2), .val (.int q3), .val (.int (q3 &&& (3 : Int32))), .unset, .unset] [(.int q1), (.int (13 : Int32))]))
        refine OGo.st (fun t k => X0.ldcInt hx hown (mvT hZ (hw _ (List.mem_of_getElem? (i := 0) rfl))) (g := (mkF m 42 #[.val (.int q1), .val (.int q2), .val (.int q3), .val (.int (q3 &&& (3 : Int32))), .unset, .unset] [(.int q1), (.int (13 : Int32))])) rfl (hb hby at_42) t k) ?_
        show OGo p e below _ (s₁.setTop (mkF m 44 #[.val (.int q1), .val (.int q2), .val (.int q3), .val (.int (q3 &&& (3 : Int32))), .unset, .unset] [(.int (2147483647 : Int32)), (.int q1), (.int (13 : Int32))]))
        refine OGo.st (fun t k => XS.iand X0.here hx rfl (hb hby at_44) rfl k) ?_
        show OGo p e below _ (s₁.setTop (mkF m 45 #[.val (.int q1), .val (.int q2), .val (.int q3), .val (.int (q3 &&& (3 : Int32))), .unset, .unset] [(.int (q1 &&& (2147483647 : Int32))), (.int (13 : Int32))]))
        refine OGo.st (fun t k => XS.bipush X0.here hx rfl (hb hby at_45) k) ?_
        show OGo p e below _ (s₁.setTop (mkF m 47 #[.val (.int q1), .val (.int q2), .val (.int q3), .val (.int (q3 &&& (3 : Int32))), .unset, .unset] [(.int (11 : Int32)), (.int (q1 &&& (2147483647 : Int32))), (.int (13 : Int32))]))
        refine OGo.st (fun t k => XS.irem X0.here hx rfl (hb hby at_47) rfl (by decide) k) ?_
        show OGo p e below _ (s₁.setTop (mkF m 48 #[.val (.int q1), .val (.int q2), .val (.int q3), .val (.int (q3 &&& (3 : Int32))), .unset, .unset] [(.int ((q1 &&& (2147483647 : Int32)) - ((q1 &&& (2147483647 : Int32)) / (11 : Int32)) * (11 : Int32))), (.int (13 : Int32))]))
        refine OGo.st (fun t k => XS.iadd X0.here hx rfl (hb hby at_48) rfl k) ?_
        show OGo p e below _ (s₁.setTop (mkF m 49 #[.val (.int q1), .val (.int q2), .val (.int q3), .val (.int (q3 &&& (3 : Int32))), .unset, .unset] [(.int ((13 : Int32) + ((q1 &&& (2147483647 : Int32)) - ((q1 &&& (2147483647 : Int32)) / (11 : Int32)) * (11 : Int32))))]))
        refine OGo.st (fun t k => XS.istore X0.here hx rfl (hb hby at_49) rfl (l' := #[.val (.int q1), .val (.int q2), .val (.int q3), .val (.int (q3 &&& (3 : Int32))), .val (.int ((13 : Int32) + ((q1 &&& (2147483647 : Int32)) - ((q1 &&& (2147483647 : Int32)) / (11 : Int32)) * (11 : Int32)))), .unset]) rfl k) ?_
        show OGo p e below _ (s₁.setTop (mkF m 51 #[.val (.int q1), .val (.int q2), .val (.int q3), .val (.int (q3 &&& (3 : Int32))), .val (.int ((13 : Int32) + ((q1 &&& (2147483647 : Int32)) - ((q1 &&& (2147483647 : Int32)) / (11 : Int32)) * (11 : Int32)))), .unset] []))
        refine OGo.st (fun t k => XS.iload X0.here hx rfl (hb hby at_51) rfl k) ?_
        show OGo p e below _ (s₁.setTop (mkF m 53 #[.val (.int q1), .val (.int q2), .val (.int q3), .val (.int (q3 &&& (3 : Int32))), .val (.int ((13 : Int32) + ((q1 &&& (2147483647 : Int32)) - ((q1 &&& (2147483647 : Int32)) / (11 : Int32)) * (11 : Int32)))), .unset] [(.int ((13 : Int32) + ((q1 &&& (2147483647 : Int32)) - ((q1 &&& (2147483647 : Int32)) / (11 : Int32)) * (11 : Int32))))]))
        obtain ⟨_, _, ⟨T7, L7, k7, n7⟩, -, X7, ⟨Lc7, hQ7, l7, y7, z7⟩, st7⟩ := Jvm.LawKit.callS X0 hx (y := (⟨"com/example/tilewright/tilewright/kernel/MatrixVectorAddsCheckingRowsPinLaw", "leastStored", "(I)I"⟩ : MethodName)) hown (mvT hZ (hw _ (List.mem_of_getElem? (i := 1) rfl))) (mvT hZ (hw _ (List.mem_of_getElem? (i := 2) rfl))) (mvT hZ (hw _ (List.mem_of_getElem? (i := 3) rfl))) (mvT hZ (hw _ (List.mem_of_getElem? (i := 4) rfl))) (by decide) (backOf (W := 0) (rm1 l Z a0 hw [] ((13 : Int32) + ((q1 &&& (2147483647 : Int32)) - ((q1 &&& (2147483647 : Int32)) / (11 : Int32)) * (11 : Int32))) h0 n0 Z0 (own_nz13 q1)) hZ (hw _ (List.mem_of_getElem? (i := 4) rfl)) (hw _ (List.mem_of_getElem? (i := 3) rfl)) (by decide) (by decide)) (g := (mkF m 53 #[.val (.int q1), .val (.int q2), .val (.int q3), .val (.int (q3 &&& (3 : Int32))), .val (.int ((13 : Int32) + ((q1 &&& (2147483647 : Int32)) - ((q1 &&& (2147483647 : Int32)) / (11 : Int32)) * (11 : Int32)))), .unset] [(.int ((13 : Int32) + ((q1 &&& (2147483647 : Int32)) - ((q1 &&& (2147483647 : Int32)) / (11 : Int32)) * (11 : Int32))))])) rfl (by rw [hml]; rfl) (argsL := [(.int ((13 : Int32) + ((q1 &&& (2147483647 : Int32)) - ((q1 &&& (2147483647 : Int32)) / (11 : Int32)) * (11 : Int32))))]) (rest := []) (lenOf pd0_0 rfl) rfl (by show 2 * 0 + _ ≤ _; exact Nat.le_of_eq rfl) (hb hby at_53) (fun _ _ => ⟨rfl, e0, (by decide : 0 + 0 ≤ _), (by decide : 0 + 0 ≤ _)⟩)
        dsimp only [Pt.U, Pt.locs, Pt.cells, Pt.slots] at X7 l7 y7 z7 st7 hQ7
        subst l7 y7 z7
        obtain ⟨rfl, Nq7, e7⟩ := hQ7
        have N7 := Fr.app N0 Nq7
        refine OGo.st (fun t k => st7 t k) ?_
        show OGo p e below _ (T7.setTop (mkF m 56 #[.val (.int q1), .val (.int q2), .val (.int q3), .val (.int (q3 &&& (3 : Int32))), .val (.int ((13 : Int32) + ((q1 &&& (2147483647 : Int32)) - ((q1 &&& (2147483647 : Int32)) / (11 : Int32)) * (11 : Int32)))), .unset] [(.int (f1 ((13 : Int32) + ((q1 &&& (2147483647 : Int32)) - ((q1 &&& (2147483647 : Int32)) / (11 : Int32)) * (11 : Int32)))))]))
        refine OGo.st (fun t k => XS.iloadN X7.here hx rfl (hb hby at_56) rfl k) ?_
        show OGo p e below _ (T7.setTop (mkF m 57 #[.val (.int q1), .val (.int q2), .val (.int q3), .val (.int (q3 &&& (3 : Int32))), .val (.int ((13 : Int32) + ((q1 &&& (2147483647 : Int32)) - ((q1 &&& (2147483647 : Int32)) / (11 : Int32)) * (11 : Int32)))), .unset] [(.int q2), (.int (f1 ((13 : Int32) + ((q1 &&& (2147483647 : Int32)) - ((q1 &&& (2147483647 : Int32)) / (11 : Int32)) * (11 : Int32)))))]))
        refine OGo.st (fun t k => XS.iconst X7.here hx rfl (hb hby at_57) k) ?_
        show OGo p e below _ (T7.setTop (mkF m 58 #[.val (.int q1), .val (.int q2), .val (.int q3), .val (.int (q3 &&& (3 : Int32))), .val (.int ((13 : Int32) + ((q1 &&& (2147483647 : Int32)) - ((q1 &&& (2147483647 : Int32)) / (11 : Int32)) * (11 : Int32)))), .unset] [(.int (3 : Int32)), (.int q2), (.int (f1 ((13 : Int32) + ((q1 &&& (2147483647 : Int32)) - ((q1 &&& (2147483647 : Int32)) / (11 : Int32)) * (11 : Int32)))))]))
        refine OGo.st (fun t k => XS.irem X7.here hx rfl (hb hby at_58) rfl (by decide) k) ?_
        show OGo p e below _ (T7.setTop (mkF m 59 #[.val (.int q1), .val (.int q2), .val (.int q3), .val (.int (q3 &&& (3 : Int32))), .val (.int ((13 : Int32) + ((q1 &&& (2147483647 : Int32)) - ((q1 &&& (2147483647 : Int32)) / (11 : Int32)) * (11 : Int32)))), .unset] [(.int (q2 - (q2 / (3 : Int32)) * (3 : Int32))), (.int (f1 ((13 : Int32) + ((q1 &&& (2147483647 : Int32)) - ((q1 &&& (2147483647 : Int32)) / (11 : Int32)) * (11 : Int32)))))]))
        refine OGo.st (fun t k => XS.iadd X7.here hx rfl (hb hby at_59) rfl k) ?_
        show OGo p e below _ (T7.setTop (mkF m 60 #[.val (.int q1), .val (.int q2), .val (.int q3), .val (.int (q3 &&& (3 : Int32))), .val (.int ((13 : Int32) + ((q1 &&& (2147483647 : Int32)) - ((q1 &&& (2147483647 : Int32)) / (11 : Int32)) * (11 : Int32)))), .unset] [(.int ((f1 ((13 : Int32) + ((q1 &&& (2147483647 : Int32)) - ((q1 &&& (2147483647 : Int32)) / (11 : Int32)) * (11 : Int32)))) + (q2 - (q2 / (3 : Int32)) * (3 : Int32))))]))
        refine OGo.st (fun t k => XS.istore X7.here hx rfl (hb hby at_60) rfl (l' := #[.val (.int q1), .val (.int q2), .val (.int q3), .val (.int (q3 &&& (3 : Int32))), .val (.int ((13 : Int32) + ((q1 &&& (2147483647 : Int32)) - ((q1 &&& (2147483647 : Int32)) / (11 : Int32)) * (11 : Int32)))), .val (.int ((f1 ((13 : Int32) + ((q1 &&& (2147483647 : Int32)) - ((q1 &&& (2147483647 : Int32)) / (11 : Int32)) * (11 : Int32)))) + (q2 - (q2 / (3 : Int32)) * (3 : Int32))))]) rfl k) ?_
        show OGo p e below _ (T7.setTop (mkF m 62 #[.val (.int q1), .val (.int q2), .val (.int q3), .val (.int (q3 &&& (3 : Int32))), .val (.int ((13 : Int32) + ((q1 &&& (2147483647 : Int32)) - ((q1 &&& (2147483647 : Int32)) / (11 : Int32)) * (11 : Int32)))), .val (.int ((f1 ((13 : Int32) + ((q1 &&& (2147483647 : Int32)) - ((q1 &&& (2147483647 : Int32)) / (11 : Int32)) * (11 : Int32)))) + (q2 - (q2 / (3 : Int32)) * (3 : Int32))))] []))
        refine OGo.st (fun t k => XS.goto X7.here hx rfl (pc0 := 62) (pc' := 78) rfl (hb hby at_62) (by decide) (by decide) k) ?_
        show OGo p e below _ (T7.setTop (mkF m 78 #[.val (.int q1), .val (.int q2), .val (.int q3), .val (.int (q3 &&& (3 : Int32))), .val (.int ((13 : Int32) + ((q1 &&& (2147483647 : Int32)) - ((q1 &&& (2147483647 : Int32)) / (11 : Int32)) * (11 : Int32)))), .val (.int ((f1 ((13 : Int32) + ((q1 &&& (2147483647 : Int32)) - ((q1 &&& (2147483647 : Int32)) / (11 : Int32)) * (11 : Int32)))) + (q2 - (q2 / (3 : Int32)) * (3 : Int32))))] []))
        exact J78 T7 _ X7 e7 N7 ((13 : Int32) + ((q1 &&& (2147483647 : Int32)) - ((q1 &&& (2147483647 : Int32)) / (11 : Int32)) * (11 : Int32))) ((f1 ((13 : Int32) + ((q1 &&& (2147483647 : Int32)) - ((q1 &&& (2147483647 : Int32)) / (11 : Int32)) * (11 : Int32)))) + (q2 - (q2 / (3 : Int32)) * (3 : Int32)))
      · refine OGo.eqvI (show (g0_36_2 q1 q2 q3) = (g0_j78 q1 q2 q3 (q1 &&& (31 : Int32)) (q2 &&& (4095 : Int32))) from if_neg hc36_6) ?_
        refine OGo.st (fun t k => XS.icmpYes X0.here hx rfl (pc0 := 36) (pc' := 65) rfl (hb hby at_36) rfl (feq hc36_6).2 (by decide) (by decide) k) ?_
        show OGo p e below _ (s₁.setTop (mkF m 65 #[.val (.int q1), .val (.int q2), .val (.int q3), .val (.int (q3 &&& (3 : Int32))), .unset, .unset] []))
        refine OGo.st (fun t k => XS.iloadN X0.here hx rfl (hb hby at_65) rfl k) ?_
        show OGo p e below _ (s₁.setTop (mkF m 66 #[.val (.int q1), .val (.int q2), .val (.int q3), .val (.int (q3 &&& (3 : Int32))), .unset, .unset] [(.int q1)]))
        refine OGo.st (fun t k => XS.bipush X0.here hx rfl (hb hby at_66) k) ?_
        show OGo p e below _ (s₁.setTop (mkF m 68 #[.val (.int q1), .val (.int q2), .val (.int q3), .val (.int (q3 &&& (3 : Int32))), .unset, .unset] [(.int (31 : Int32)), (.int q1)]))
        refine OGo.st (fun t k => XS.iand X0.here hx rfl (hb hby at_68) rfl k) ?_
        show OGo p e below _ (s₁.setTop (mkF m 69 #[.val (.int q1), .val (.int q2), .val (.int q3), .val (.int (q3 &&& (3 : Int32))), .unset, .unset] [(.int (q1 &&& (31 : Int32)))]))
        refine OGo.st (fun t k => XS.istore X0.here hx rfl (hb hby at_69) rfl (l' := #[.val (.int q1), .val (.int q2), .val (.int q3), .val (.int (q3 &&& (3 : Int32))), .val (.int (q1 &&& (31 : Int32))), .unset]) rfl k) ?_
        show OGo p e below _ (s₁.setTop (mkF m 71 #[.val (.int q1), .val (.int q2), .val (.int q3), .val (.int (q3 &&& (3 : Int32))), .val (.int (q1 &&& (31 : Int32))), .unset] []))
        refine OGo.st (fun t k => XS.iloadN X0.here hx rfl (hb hby at_71) rfl k) ?_
        show OGo p e below _ (s₁.setTop (mkF m 72 #[.val (.int q1), .val (.int q2), .val (.int q3), .val (.int (q3 &&& (3 : Int32))), .val (.int (q1 &&& (31 : Int32))), .unset] [(.int q2)]))
        refine OGo.st (fun t k => XS.sipush X0.here hx rfl (hb hby at_72) k) ?_
        show OGo p e below _ (s₁.setTop (mkF m 75 #[.val (.int q1), .val (.int q2), .val (.int q3), .val (.int (q3 &&& (3 : Int32))), .val (.int (q1 &&& (31 : Int32))), .unset] [(.int (4095 : Int32)), (.int q2)]))
        refine OGo.st (fun t k => XS.iand X0.here hx rfl (hb hby at_75) rfl k) ?_
        show OGo p e below _ (s₁.setTop (mkF m 76 #[.val (.int q1), .val (.int q2), .val (.int q3), .val (.int (q3 &&& (3 : Int32))), .val (.int (q1 &&& (31 : Int32))), .unset] [(.int (q2 &&& (4095 : Int32)))]))
        refine OGo.st (fun t k => XS.istore X0.here hx rfl (hb hby at_76) rfl (l' := #[.val (.int q1), .val (.int q2), .val (.int q3), .val (.int (q3 &&& (3 : Int32))), .val (.int (q1 &&& (31 : Int32))), .val (.int (q2 &&& (4095 : Int32)))]) rfl k) ?_
        show OGo p e below _ (s₁.setTop (mkF m 78 #[.val (.int q1), .val (.int q2), .val (.int q3), .val (.int (q3 &&& (3 : Int32))), .val (.int (q1 &&& (31 : Int32))), .val (.int (q2 &&& (4095 : Int32)))] []))
        exact J78 s₁ _ X0 e0 N0 (q1 &&& (31 : Int32)) (q2 &&& (4095 : Int32))
theorem own_lcmpW (x y : Int64) : lcmpW x y = if x > y then 1 else if x = y then 0 else -1 := rfl
theorem own_lcmp (x y : Int64) : (lcmpW x y < (0 : Int32)) ↔ x < y := by
  rw [own_lcmpW]
  by_cases h1 : x > y
  · rw [if_pos h1]; exact ⟨fun q => absurd q (by decide), fun q => absurd (Int64.lt_iff_toInt_lt.mp q) (by have := Int64.lt_iff_toInt_lt.mp h1; omega)⟩
  · rw [if_neg h1]
    by_cases h2 : x = y
    · rw [if_pos h2]; subst h2; exact ⟨fun q => absurd q (by decide), fun q => absurd q h1⟩
    · rw [if_neg h2]
      refine ⟨fun _ => ?_, fun _ => by decide⟩
      have h1 : ¬ y < x := h1
      rw [Int64.lt_iff_toInt_lt] at h1 ⊢
      rw [← Int64.toInt_inj] at h2
      omega
theorem own_mul (a b : Int32) (h1 : 0 ≤ a.toInt) (h2 : a.toInt ≤ 24) : (a.toInt64 * b.toInt64).toInt = a.toInt * b.toInt := by
  have h3 := Int32.le_toInt b
  have h4 := Int32.toInt_lt b
  rw [Int64.toInt_mul, Int32.toInt_toInt64, Int32.toInt_toInt64]
  have k1 : a.toInt * b.toInt ≤ 24 * 2 ^ 31 := by
    rcases Int.le_total 0 b.toInt with q | q
    · exact Int.le_trans (Int.mul_le_mul_of_nonneg_right h2 q) (by omega)
    · have := Int.mul_le_mul_of_nonpos_right h1 q
      omega
  have k2 : -(24 * 2 ^ 31) ≤ a.toInt * b.toInt := by
    rcases Int.le_total 0 b.toInt with q | q
    · have := Int.mul_le_mul_of_nonneg_right h1 q
      omega
    · have := Int.mul_le_mul_of_nonpos_right h2 q
      omega
  exact Int.bmod_eq_of_le (by omega) (by omega)
theorem own_least (a : Int32) (h1 : 13 ≤ a.toInt) (h2 : a.toInt < 24) : (f1 a).toInt = (24575 + a.toInt) / a.toInt := by
  have k : ((24576 : Int32) + a - 1).toInt = 24575 + a.toInt := by
    rw [Int32.toInt_sub, Int32.toInt_add]
    have e1 : (24576 : Int32).toInt = 24576 := by decide
    have e2 : (1 : Int32).toInt = 1 := by decide
    rw [e1, e2, Int.bmod_eq_of_le (n := 24576 + a.toInt) (by omega) (by omega), Int.bmod_eq_of_le (by omega) (by omega)]
    omega
  show (((24576 : Int32) + a - 1) / a).toInt = _
  rw [Int32.toInt_div, k, Int.tdiv_eq_ediv_of_nonneg (by omega)]
  refine Int.bmod_eq_of_le ?_ ?_
  · have : 0 ≤ (24575 + a.toInt) / a.toInt := Int.ediv_nonneg (by omega) (by omega)
    omega
  · have : (24575 + a.toInt) / a.toInt ≤ 24575 + a.toInt := Int.ediv_le_self _ (by omega)
    omega
theorem own_key (a b : Int32) (h13 : ¬ a < 13) (h24 : a < 24) : (b < f1 a) ↔ (a.toInt64 * b.toInt64 < (24576 : Int64)) := by
  simp only [Int32.lt_iff_toInt_lt, Int32.reduceToInt] at h13 h24
  rw [Int32.lt_iff_toInt_lt, Int64.lt_iff_toInt_lt, own_mul a b (by omega) (by omega), own_least a (by omega) (by omega)]
  show _ ↔ _ < 24576
  have hb : a.toInt = 13 ∨ a.toInt = 14 ∨ a.toInt = 15 ∨ a.toInt = 16 ∨ a.toInt = 17 ∨ a.toInt = 18 ∨ a.toInt = 19 ∨ a.toInt = 20 ∨ a.toInt = 21 ∨ a.toInt = 22 ∨ a.toInt = 23 := by omega
  rcases hb with h | h | h | h | h | h | h | h | h | h | h <;> rw [h] <;> omega
theorem own_same (a b : Int32) : f2 a b = f3 a b := by
  by_cases h13 : a < 13
  · simp only [f2, f3, g2_23_1, g2_11_2, g2_3_3, g3_21_1, g3_11_2, g3_3_3, h13, if_true, if_false, reduceIte]
  · by_cases h24 : a < 24
    · by_cases hk : b < f1 a
      · have hk' := (own_lcmp _ _).mpr ((own_key a b h13 h24).mp hk)
        simp only [f2, f3, g2_23_1, g2_11_2, g2_3_3, g3_21_1, g3_11_2, g3_3_3, h13, h24, hk, hk', if_true, if_false, reduceIte]
      · have hk' : ¬ lcmpW (a.toInt64 * b.toInt64) 24576 < (0 : Int32) := fun q => hk ((own_key a b h13 h24).mpr ((own_lcmp _ _).mp q))
        simp only [f2, f3, g2_23_1, g2_11_2, g2_3_3, g3_21_1, g3_11_2, g3_3_3, h13, h24, hk, hk', if_true, if_false, reduceIte]
    · simp only [f2, f3, g2_23_1, g2_11_2, g2_3_3, g3_21_1, g3_11_2, g3_3_3, h13, h24, if_true, if_false, reduceIte]
theorem law_eq (q1 q2 q3 : Int32) : f0 q1 q2 q3 = 1 := by
  simp only [f0, g0_92_1, g0_j78, g0_36_2, g0_19_3, g0_5_4, own_same, if_true, reduceIte, ite_self]
set_option maxRecDepth 65536 in
set_option maxHeartbeats 40000000 in
theorem comes_1 {Post : Tables → Env → Array Value → State → Outcome → State → Prop} (hpost : ∀ tb e args s v u, (limb_1_1.after args s (.returned v) u = true ∧ limb_1_2.after args s (.returned v) u = true ∧ True) → FrameEnd s (.returned v) u (Jvm.fieldLocs frame_1_writes args s ++ Jvm.arrayLocs frame_1_arrays args s ++ Jvm.staticLocs frame_1_statics s) 0 0 → Post tb e args s (.returned v) u) :
    ArmFor flags0 classFile x code maxLocals ret World_1 tables_1 room_1 Calls_1 rest_1 Pre_1 Post := by
  intro l hfl _ _ p e ha hc hk s m args below hf hA hF happ hP
  obtain ⟨hcalls, hrest, hpre⟩ := hP
  obtain ⟨-, -, -, hnamed, -, -, -, hat⟩ := (Spec.applies_iff hf).mp happ
  obtain ⟨hg, hn⟩ := and_e (Cond.before_iff.mp (show (Jvm.Cond.and given_1 narrow_1).before args s = true from hpre))
  obtain ⟨gg1, gg2⟩ := and_e hg
  obtain ⟨gg3, gg4⟩ := and_e gg2
  obtain ⟨gg5, gg6⟩ := and_e gg4
  obtain ⟨w0, w1, w2, rfl⟩ : ∃ w0 w1 w2 : Value, args = #[w0, w1, w2] := by
    have hs : args.size = 3 := by simpa [Cond.value, given_1] using gg1
    obtain ⟨L⟩ := args
    match L, hs with
    | [w0, w1, w2], _ => exact ⟨w0, w1, w2, rfl⟩
  have hw := fun d (hd : d ∈ tables_1) => atoms_spec (ws := Jvm.Cond.code x code maxLocals ret :: tables_1) hat d (List.mem_cons_of_mem _ hd)
  obtain ⟨i0, ei0⟩ := is_v gg3
  obtain rfl : w0 = (.int i0) := Option.some.inj ei0
  obtain ⟨i1, ei1⟩ := is_v gg5
  obtain rfl : w1 = (.int i1) := Option.some.inj ei1
  obtain ⟨i2, ei2⟩ := is_v gg6
  obtain rfl : w2 = (.int i2) := Option.some.inj ei2
  obtain ⟨n, o, h1, h2, h3, _, L, rfl, ⟨hv, N, -⟩, hq⟩ := rm0 l s _ hw tables_1 i0 i1 i2 s.heap s.heap.size (Nat.le_refl _) p e ha hc hk s m _ below hf ((Spec.applies_iff_loose hf).mp happ).1 ⟨rfl, State.Warmed39.refl s, rfl⟩ trivial
  rw [law_eq] at hv
  subst hv
  refine ⟨n, _, h1, h2, h3, hpost _ _ _ _ _ _ ⟨Cond.after_iff.mpr rfl, Cond.after_iff.mpr (eq_i res_at (Term.int_eval (1)) rfl), trivial⟩ ⟨hq.1, hq.2.1, (hq.2.2.sift fun y hy => Or.inr (N y hy)).mono (by decide) (by decide)⟩⟩
theorem main_1_1 : Claimed_1_1 := comes_1 fun _ _ _ _ _ _ h hF => ⟨h.1, hF⟩
theorem main_1_2 : Claimed_1_2 := comes_1 fun _ _ _ _ _ _ h hF => ⟨h.2.1, hF⟩
end Jvm.Pilot.@@N@@
namespace Jvm.Pilot.@@N@@
open Jvm Jvm.ClassFile Sem Op Lib Jvm.Free Jvm.Stand Jvm.Pilot.@@N@@.Jvm.D
/-! MADE BY PROGRAM (witnessworld.py) out of the Statement's table words and the real class files: 9 classes; the members and pool entries that the words name. The judged class is class 1, her method 3. -/
namespace start1
open Jvm.ClassFile
def u (s : String) : CpInfo := .utf8 (stringToUtf16 s)
/-- a pool by its gaps: so many unusable entries, then the entry; so many at the end -/
def gap : Nat → List CpInfo → List CpInfo
  | 0, r => r
  | n + 1, r => .unusable :: gap n r
def poolList (es : List (Nat × CpInfo)) (last : Nat) : List CpInfo := es.foldr (fun e r => gap e.1 (e.2 :: r)) (gap last [])
def pool (es : List (Nat × CpInfo)) (last : Nat) : Array CpInfo := ⟨poolList es last⟩
def fileOf (pool : Array CpInfo) (this : Nat) (attrs : Array Attribute := #[]) (ms : Array MethodInfo := #[]) (fl : Nat := 33) (sup : Nat := 0) (ifs : Array Nat := #[]) (fds : Array FieldInfo := #[]) : ClassFile where
  minorVersion := 0
  majorVersion := 65
  constantPool := pool
  accessFlags := fl
  thisClass := this
  superClass := sup
  interfaces := ifs
  fields := fds
  methods := ms
  attributes := attrs
def plain (name : String) (sup : Option ClassId) : Class where
  name := name
  kind := .ordinary
  loader := none
  accessFlags := 33
  super := sup
  interfaces := #[]
  cf := none
  fields := #[]
  methods := #[]
  instanceTypes := #[]
  staticTypes := #[]
  resolved := #[]
  callSites := []
  init := .initialized
  statics := none
  mirror := none

def pool0 : Array CpInfo := pool [(5, u "<init>"), (0, u "()V"), (1, .class_ 10), (1, u "java/lang/Object")] 113

def k0m0 : Method := { name := "<init>", desc := "()V", sig := { parameters := [], returnType := none }, accessFlags := 1, code := none }
/-- java/lang/Object -/
def k0 : Class := { plain "java/lang/Object" none with
  accessFlags := 33
  interfaces := #[]
  cf := some (fileOf pool0 8 #[] #[{ accessFlags := 1, nameIndex := 5, descriptorIndex := 6, attributes := #[] }] 33 0 #[] #[])
  fields := #[]
  methods := #[k0m0]
  instanceTypes := #[]
  staticTypes := #[]
  resolved := Array.replicate 124 none
  statics := none }

def pool1 : Array CpInfo := pool [(2, .class_ 4), (1, u "java/lang/Object"), (0, u "<init>"), (0, u "()V"), (0, .methodref 8 9), (0, .class_ 10), (0, .nameAndType 11 12), (0, u "com/example/tilewright/tilewright/kernel/MatrixVectorAddsCheckingRowsPinLaw"), (0, u "leastStored"), (0, u "(I)I"), (0, .integer 2147483647), (0, .methodref 15 16), (0, .class_ 17), (0, .nameAndType 18 19), (0, u "com/example/tilewright/tilewright/kernel/MatrixVector"), (0, u "addsCheckingRows"), (0, u "(II)Z"), (0, .methodref 8 21), (0, .nameAndType 22 19), (0, u "expected"), (3, u "law"), (0, u "(III)Z")] 2

def k1m0 : Method := { name := "<init>", desc := "()V", sig := { parameters := [], returnType := none }, accessFlags := 2, code := none }
def k1c1 : Code := { maxStack := 2, maxLocals := 1, code := method_2_code, exceptionTable := #[], attributes := #[] }
def k1m1 : Method := { name := "leastStored", desc := "(I)I", sig := { parameters := [.int], returnType := some .int }, accessFlags := 10, code := some k1c1 }
def k1c2 : Code := { maxStack := 2, maxLocals := 2, code := method_3_code, exceptionTable := #[], attributes := #[] }
def k1m2 : Method := { name := "expected", desc := "(II)Z", sig := { parameters := [.int, .int], returnType := some .boolean }, accessFlags := 10, code := some k1c2 }
def k1c3 : Code := { maxStack := 3, maxLocals := 6, code := code, exceptionTable := #[], attributes := #[] }
def k1m3 : Method := { name := "law", desc := "(III)Z", sig := { parameters := [.int, .int, .int], returnType := some .boolean }, accessFlags := 9, code := some k1c3 }
/-- com/example/tilewright/tilewright/kernel/MatrixVectorAddsCheckingRowsPinLaw -/
def k1 : Class := { plain "com/example/tilewright/tilewright/kernel/MatrixVectorAddsCheckingRowsPinLaw" (some 0) with
  accessFlags := 49
  interfaces := #[]
  cf := some (fileOf pool1 8 #[] #[{ accessFlags := 2, nameIndex := 5, descriptorIndex := 6, attributes := #[] }, { accessFlags := 10, nameIndex := 11, descriptorIndex := 12, attributes := #[] }, { accessFlags := 10, nameIndex := 22, descriptorIndex := 19, attributes := #[] }, { accessFlags := 9, nameIndex := 26, descriptorIndex := 27, attributes := #[] }] 49 2 #[] #[])
  fields := #[]
  methods := #[k1m0, k1m1, k1m2, k1m3]
  instanceTypes := #[]
  staticTypes := #[]
  resolved := Array.replicate 30 none
  statics := none }

def pool2 : Array CpInfo := pool [(2, .class_ 4), (1, u "java/lang/Object"), (0, u "<init>"), (0, u "()V"), (1, .class_ 10), (1, u "com/example/tilewright/tilewright/kernel/MatrixVector"), (35, .long 24576), (56, u "MIN_ROWS_DOWN_COLUMNS"), (0, u "I"), (2, u "MIN_ROWS_DOWN_COLUMNS_OF_ROWS"), (1, u "MIN_ENTRIES_CHECKED_AS_READ"), (1, u "DEPTH"), (1, u "MIN_STORED_ROWS_CHECKED_AHEAD"), (1, u "CHECKED_AHEAD"), (6, u "addsCheckingRows"), (0, u "(II)Z")] 10

def k2m0 : Method := { name := "<init>", desc := "()V", sig := { parameters := [], returnType := none }, accessFlags := 2, code := none }
def k2c1 : Code := { maxStack := 4, maxLocals := 2, code := prog_20_method_3_code, exceptionTable := #[], attributes := #[] }
def k2m1 : Method := { name := "addsCheckingRows", desc := "(II)Z", sig := { parameters := [.int, .int], returnType := some .boolean }, accessFlags := 9, code := some k2c1 }
/-- com/example/tilewright/tilewright/kernel/MatrixVector -/
def k2 : Class := { plain "com/example/tilewright/tilewright/kernel/MatrixVector" (some 0) with
  accessFlags := 49
  interfaces := #[]
  cf := some (fileOf pool2 8 #[] #[{ accessFlags := 2, nameIndex := 5, descriptorIndex := 6, attributes := #[] }, { accessFlags := 9, nameIndex := 122, descriptorIndex := 123, attributes := #[] }] 49 2 #[] #[{ accessFlags := 26, nameIndex := 103, descriptorIndex := 104, attributes := #[] }, { accessFlags := 26, nameIndex := 107, descriptorIndex := 104, attributes := #[] }, { accessFlags := 26, nameIndex := 109, descriptorIndex := 104, attributes := #[] }, { accessFlags := 26, nameIndex := 111, descriptorIndex := 104, attributes := #[] }, { accessFlags := 26, nameIndex := 113, descriptorIndex := 104, attributes := #[] }, { accessFlags := 26, nameIndex := 115, descriptorIndex := 104, attributes := #[] }])
  fields := #[{ name := "MIN_ROWS_DOWN_COLUMNS", type := .int, accessFlags := 26, slot := 0, constantValue := 0 }, { name := "MIN_ROWS_DOWN_COLUMNS_OF_ROWS", type := .int, accessFlags := 26, slot := 1, constantValue := 0 }, { name := "MIN_ENTRIES_CHECKED_AS_READ", type := .int, accessFlags := 26, slot := 2, constantValue := 0 }, { name := "DEPTH", type := .int, accessFlags := 26, slot := 3, constantValue := 0 }, { name := "MIN_STORED_ROWS_CHECKED_AHEAD", type := .int, accessFlags := 26, slot := 4, constantValue := 0 }, { name := "CHECKED_AHEAD", type := .int, accessFlags := 26, slot := 5, constantValue := 0 }]
  methods := #[k2m0, k2m1]
  instanceTypes := #[]
  staticTypes := #[.int, .int, .int, .int, .int, .int]
  resolved := Array.replicate 134 none
  statics := none }

def pool3 : Array CpInfo := pool [(1, u "java/lang/Cloneable"), (0, .class_ 1), (0, u "java/lang/Object"), (0, .class_ 3)] 3

/-- java/lang/Cloneable -/
def k3 : Class := { plain "java/lang/Cloneable" (some 0) with
  accessFlags := 1537
  interfaces := #[]
  cf := some (fileOf pool3 2 #[] #[] 1537 4 #[] #[])
  fields := #[]
  methods := #[]
  instanceTypes := #[]
  staticTypes := #[]
  resolved := Array.replicate 8 none
  statics := none }

def pool4 : Array CpInfo := pool [(1, u "java/io/Serializable"), (0, .class_ 1), (0, u "java/lang/Object"), (0, .class_ 3)] 3

/-- java/io/Serializable -/
def k4 : Class := { plain "java/io/Serializable" (some 0) with
  accessFlags := 1537
  interfaces := #[]
  cf := some (fileOf pool4 2 #[] #[] 1537 4 #[] #[])
  fields := #[]
  methods := #[]
  instanceTypes := #[]
  staticTypes := #[]
  resolved := Array.replicate 8 none
  statics := none }

/-- the primitive byte -/
def k5 : Class := { plain "byte" none with kind := .primitive 'B', accessFlags := 0x411 }
/-- [B -/
def k6 : Class := { plain "[B" (some 0) with kind := .array 5 .byte, interfaces := #[3, 4], accessFlags := 1041 }

/-- the primitive int -/
def k7 : Class := { plain "int" none with kind := .primitive 'I', accessFlags := 0x411 }
/-- [I -/
def k8 : Class := { plain "[I" (some 0) with kind := .array 7 .int, interfaces := #[3, 4], accessFlags := 1041 }

def heap : Heap := #[]
def classes : Array Class := #[k0, k1, k2, k3, k4, k5, k6, k7, k8]
def interned : List (Array UInt16 × Addr) := []
def slotsUsed : Nat := 0
def theMethod : MethodId := ⟨1, 3⟩
def args0 : Array Value := #[.int 5, .int 300, .int 7]
def aboutOver (below : List Frame) : State where
  vm := { classes := classes, interned := interned.toArray }
  heap := heap
  slotsUsed := slotsUsed
  threads := #[{ frames := .invoking theMethod args0 :: below }]
def below0 : List Frame := [.native { method := ⟨0, 0⟩, args := #[] }]
def about1 : State := aboutOver below0
def p0 : Program := .bare "" "" ""
def e0 : Env := launch0.env 0 0 0
theorem w_frames : about1.frames = Frame.invoking theMethod args0 :: below0 := rfl
set_option maxRecDepth 65536 in
theorem w_args : argsFit about1.vm theMethod args0 = true := by decide +kernel
set_option maxRecDepth 65536 in
theorem w_heap : heapFits about1 = true := by decide +kernel
set_option maxRecDepth 65536 in
theorem w_runnable : about1.curStatus? = some .runnable := by decide +kernel
set_option maxRecDepth 65536 in
theorem w_alone : about1.alone = true := by decide +kernel
set_option maxRecDepth 65536 in
theorem w_named : about1.methodNamed? x = some theMethod := by decide +kernel
set_option maxRecDepth 65536 in
theorem w_hears : about1.hears theMethod below0 = true := by decide +kernel
set_option maxRecDepth 65536 in
theorem w_ripe : about1.ripe theMethod args0 below0 = true := by decide +kernel
theorem w_running : about1.status = .running := rfl
set_option maxRecDepth 65536 in
theorem w_room : about1.hasRoom e0.platform room_1 = true :=
  launch0.hasRoom_least _ room_1 (by decide +kernel) (by decide +kernel) (by decide +kernel) (by decide +kernel) (by decide +kernel) (by decide +kernel)
theorem allAtoms_all (ts : List Jvm.Cond) (a : Array Jvm.Value) (st : Jvm.State) : (allAtoms ts).before a st = ts.all (fun c => c.before a st) := by
  induction ts with
  | nil => rfl
  | cons c t ih =>
    show (Jvm.Cond.and c (allAtoms t)).before a st = _
    rw [Jvm.Cond.before_and, ih, List.all_cons]
def words1 : List Jvm.Cond := Jvm.Cond.code x code maxLocals ret :: tables_1
/-- a 'code' word, met by the world's own term for the bytes: nothing is compared byte by byte -/
theorem code_word {y : MethodName} {bytes : ByteArray} {mx : Nat} {rt : Option FieldType} {a : Array Value} {s : State} {m : MethodId} {meth : Method} {c : Code} (h1 : s.methodNamed? y = some m) (h2 : s.vm.method? m = some meth) (h3 : meth.code = some c) (h4 : c.code = bytes)
    (h5 : (c.maxLocals == mx && c.exceptionTable.isEmpty && decide (c.maxStack ≤ mostOperands) && decide (meth.sig.returnType = rt) && !meth.locks && decide (parseMethodDescriptor y.desc = some meth.sig)) = true) : (Jvm.Cond.code y bytes mx rt).before a s = true := by
  simp only [Bool.and_eq_true, beq_iff_eq, Bool.not_eq_true', decide_eq_true_eq] at h5
  obtain ⟨⟨⟨⟨⟨g1, g2⟩, g3⟩, g4⟩, g5⟩, g6⟩ := h5
  simp [Cond.before, Cond.holds, Cond.value, h1, h2, h3, h4, g1, g2, g3, g4, g5, g6]
def isCode : Jvm.Cond → Bool
  | .code _ _ _ _ => true
  | _ => false
theorem all_split {L : List Jvm.Cond} {P : Jvm.Cond → Bool} (h1 : L.all (fun c => isCode c || P c) = true) (h2 : ∀ c ∈ L.filter isCode, P c = true) : L.all P = true := by
  refine List.all_eq_true.mpr fun c hc => ?_
  have h := List.all_eq_true.mp h1 c hc
  rcases Bool.eq_false_or_eq_true (isCode c) with hi | hi
  · exact h2 c (List.mem_filter.mpr ⟨hc, hi⟩)
  · simpa [hi] using h
set_option maxRecDepth 65536 in
theorem w_c0 : (Jvm.Cond.code x code maxLocals ret).before args0 about1 = true := code_word (m := ⟨1, 3⟩) (meth := k1m3) (c := k1c3) (by decide +kernel) rfl rfl rfl (by decide +kernel)
set_option maxRecDepth 65536 in
theorem w_c1 : (Jvm.Cond.code ({ cls := "com/example/tilewright/tilewright/kernel/MatrixVectorAddsCheckingRowsPinLaw", name := "leastStored", desc := "(I)I" } : Jvm.MethodName) method_2_code (1 : Nat) (Option.some Jvm.ClassFile.FieldType.int)).before args0 about1 = true := code_word (m := ⟨1, 1⟩) (meth := k1m1) (c := k1c1) (by decide +kernel) rfl rfl rfl (by decide +kernel)
set_option maxRecDepth 65536 in
theorem w_c2 : (Jvm.Cond.code ({ cls := "com/example/tilewright/tilewright/kernel/MatrixVector", name := "addsCheckingRows", desc := "(II)Z" } : Jvm.MethodName) prog_20_method_3_code (2 : Nat) (Option.some Jvm.ClassFile.FieldType.boolean)).before args0 about1 = true := code_word (m := ⟨2, 1⟩) (meth := k2m1) (c := k2c1) (by decide +kernel) rfl rfl rfl (by decide +kernel)
set_option maxRecDepth 65536 in
theorem w_c3 : (Jvm.Cond.code ({ cls := "com/example/tilewright/tilewright/kernel/MatrixVectorAddsCheckingRowsPinLaw", name := "expected", desc := "(II)Z" } : Jvm.MethodName) method_3_code (2 : Nat) (Option.some Jvm.ClassFile.FieldType.boolean)).before args0 about1 = true := code_word (m := ⟨1, 2⟩) (meth := k1m2) (c := k1c2) (by decide +kernel) rfl rfl rfl (by decide +kernel)
def codes1 : List Jvm.Cond := [Jvm.Cond.code x code maxLocals ret, Jvm.Cond.code ({ cls := "com/example/tilewright/tilewright/kernel/MatrixVectorAddsCheckingRowsPinLaw", name := "leastStored", desc := "(I)I" } : Jvm.MethodName) method_2_code (1 : Nat) (Option.some Jvm.ClassFile.FieldType.int), Jvm.Cond.code ({ cls := "com/example/tilewright/tilewright/kernel/MatrixVector", name := "addsCheckingRows", desc := "(II)Z" } : Jvm.MethodName) prog_20_method_3_code (2 : Nat) (Option.some Jvm.ClassFile.FieldType.boolean), Jvm.Cond.code ({ cls := "com/example/tilewright/tilewright/kernel/MatrixVectorAddsCheckingRowsPinLaw", name := "expected", desc := "(II)Z" } : Jvm.MethodName) method_3_code (2 : Nat) (Option.some Jvm.ClassFile.FieldType.boolean)]
set_option maxRecDepth 65536 in
theorem codes_eq : words1.filter isCode = codes1 := rfl
theorem w_codes : ∀ c ∈ words1.filter isCode, c.before args0 about1 = true := by
  rw [codes_eq]
  intro c hc
  simp only [codes1, List.mem_cons, List.not_mem_nil, or_false] at hc
  rcases hc with rfl | rfl | rfl | rfl
  · exact w_c0
  · exact w_c1
  · exact w_c2
  · exact w_c3
set_option maxRecDepth 65536 in
theorem w_t1 : words1.all (fun c => isCode c || c.before args0 about1) = true := by decide +kernel
theorem w_tables : (allAtoms (Jvm.Cond.code x code maxLocals ret :: tables_1)).before args0 about1 = true := by
  rw [allAtoms_all]
  show words1.all (fun c => c.before args0 about1) = true
  refine all_split ?_ w_codes
  rw [w_t1]
set_option maxRecDepth 65536 in
theorem w_case : (Jvm.Cond.and given_1 narrow_1).before args0 about1 = true := by decide +kernel
theorem w_applies : (headSpec (Jvm.Cond.code x code maxLocals ret :: tables_1) room_1).applies x e0.platform about1 = true :=
  (Spec.applies_iff w_frames).mpr ⟨w_running, w_runnable, w_alone, w_named, w_hears, w_ripe, w_room, w_tables⟩
theorem atStart : AtStart classFile x code maxLocals ret World_1 tables_1 room_1 Calls_1 rest_1 Pre_1 launch0 p0 e0 about1 theMethod args0 below0 :=
  ⟨lists_1, trivial, launch0.admits_env _ _ _, launch0.least_env, fairChoices_fair.cas, fairChoices_fair.clock, w_frames, w_args, w_heap, w_applies, trivial, trivial, w_case⟩
end start1
theorem witness_1 : WitnessClaimed_1 := ⟨start1.p0, start1.e0, start1.about1, start1.theMethod, start1.args0, start1.below0, start1.atStart⟩
end Jvm.Pilot.@@N@@
