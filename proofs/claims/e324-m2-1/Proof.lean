import JvmDerived
import JvmDerived.Pilot.@@N@@Statement
import JvmDerived.Pilot.@@N@@Code
set_option linter.unusedVariables false
set_option linter.unusedSimpArgs false
namespace Jvm.RoadKit
open Sem ClassFile Op Lib Jvm.Stand Jvm.Free Jvm.LawKit
section New
variable {p : Program} {l : Launch} {e : Env} {R : Room} {s : State} {m : MethodId} {args : Array Value} {below : List Frame} {meth : Method} {c : Code} {T : State} {locs : List Loc} {cells slots : Nat}
theorem retI (X : Stand p l e R s m args below meth c T locs cells slots) (hx : p.tables.exec = Jvm.exec) {pc : Nat} {Ls : Array Slot} {z : Int32} {rest : List Value} (hret : meth.sig.returnType = some .int) (hd : decode c.code pc = .ok (.ireturn, 1)) {fs : List Frame}
    (hl : ∀ (f : JFrame) (acts : List Action), f.method = m → f.locked = none → f.entered = [] → (doReturn e (T.setTop f) acts (some (.int z))).1 = T.setFrames fs) : Steps p.tables e below (T.setTop (mkF m pc Ls (.int z :: rest))) (T.setFrames fs) := by
  have hm' : T.vm.method? m = some meth := X.method'
  have hn : narrow .int (.int z) = .int z := rfl
  show Steps p.tables e below (T.setTop { method := m, pc := pc, locals := Ls, stack := _ :: rest, locked := none }) _
  jvm_step X.here [X.here.top, hx, hd, hm', hret, hn]
  first | (intro acts; rw [hl _ acts rfl rfl rfl]) | rw [hl _ _ rfl rfl rfl]
  exact Steps.refl _
end New
end Jvm.RoadKit
namespace Jvm.Pilot.@@N@@
open Jvm Jvm.ClassFile Sem Op Lib Jvm.Free Jvm.Stand Jvm.LawKit Jvm.RoadKit Bundle Jvm.Pilot.@@N@@.Jvm.D
section Own
variable {p : Program} {l : Launch} {e : Env} {R : Room} {s : State} {m : MethodId} {args : Array Value} {below : List Frame} {meth : Method} {c : Code} {T : State} {locs : List Loc} {cells slots : Nat}
/-- from the state A the run comes to an end of the invocation of which Q holds -/
def OGo (p : Program) (e : Env) (below : List Frame) (Q : Outcome → State → Prop) (A : State) : Prop :=
  ∃ s₂ o, Steps p.tables e below A s₂ ∧ s₂.status = .running ∧ Ended s₂ below o ∧ Q o s₂
theorem OGo.st {Q : Outcome → State → Prop} {A B : State} (h : ∀ t, Steps p.tables e below B t → Steps p.tables e below A t) (g : OGo p e below Q B) : OGo p e below Q A := by
  obtain ⟨s₂, o, k, r⟩ := g
  exact ⟨s₂, o, h _ k, r⟩
/-- what a contract says of the end -/
def Out (s : State) (cells slots : Nat) (Q : Option Value → Heap → List Loc → Prop) (o : Outcome) (U : State) : Prop :=
  ∃ v L, o = .returned v ∧ Q v U.heap L ∧ FrameEnd s o U L cells slots
/-- it returns the int z (the long z), and the heap is as it was -/
def PI (n0 : Nat) (h0 : Heap) (z : Int32) (v : Option Value) (h : Heap) (L : List Loc) : Prop := v = some (.int z) ∧ Fr n0 L ∧ h = h0
def PJ (n0 : Nat) (h0 : Heap) (z : Int64) (v : Option Value) (h : Heap) (L : List Loc) : Prop := v = some (.long z) ∧ Fr n0 L ∧ h = h0
def PF (n0 : Nat) (z : Int32) (v : Option Value) (h : Heap) (L : List Loc) : Prop := v = some (.int z) ∧ Fr n0 L
theorem OGo.eqvF {C S n0 : Nat} {z z' : Int32} {A : State} (q : z = z') (g : OGo p e below (Out s C S (PF n0 z')) A) : OGo p e below (Out s C S (PF n0 z)) A := q ▸ g
theorem OGo.eqvI {C S n0 : Nat} {h0 : Heap} {z z' : Int32} {A : State} (q : z = z') (g : OGo p e below (Out s C S (PI n0 h0 z')) A) : OGo p e below (Out s C S (PI n0 h0 z)) A := q ▸ g
theorem OGo.eqvJ {C S n0 : Nat} {h0 : Heap} {z z' : Int64} {A : State} (q : z = z') (g : OGo p e below (Out s C S (PJ n0 h0 z')) A) : OGo p e below (Out s C S (PJ n0 h0 z)) A := q ▸ g
theorem OGo.outI (X : Stand p l e R s m args below meth c T locs cells slots) (hx : p.tables.exec = Jvm.exec) (hret : meth.sig.returnType = some .int) (hlk : meth.locks = false) {pc : Nat} {Ls : Array Slot} {z : Int32} {rest : List Value} (hd : decode c.code pc = .ok (.ireturn, 1))
    {Q : Option Value → Heap → List Loc → Prop} {C S : Nat} (hq : Q (some (.int z)) T.heap locs) (hC : cells ≤ C) (hS : slots ≤ S) : OGo p e below (Out s C S Q) (T.setTop (mkF m pc Ls (.int z :: rest))) := by
  obtain ⟨fs, hr, hrun, hended, hW, hsame⟩ := X.leave (v := some (.int z)) (fun h => by rw [hret] at h; cases h) hlk
  exact ⟨_, _, retI X hx hret hd hr, hrun, hended, _, _, rfl, hq, ⟨_, rfl⟩, hW, hsame.mono hC hS⟩
theorem OGo.outN (X : Stand p l e R s m args below meth c T locs cells slots) (hx : p.tables.exec = Jvm.exec) {t : FieldType} (hret : meth.sig.returnType = some t) (ht : t = .boolean ∨ t = .byte ∨ t = .char ∨ t = .short) (hlk : meth.locks = false) {pc : Nat} {Ls : Array Slot} {z : Int32} {rest : List Value} (hd : decode c.code pc = .ok (.ireturn, 1))
    {Q : Option Value → Heap → List Loc → Prop} {C S : Nat} (hq : Q (some (.int (nar t z))) T.heap locs) (hC : cells ≤ C) (hS : slots ≤ S) : OGo p e below (Out s C S Q) (T.setTop (mkF m pc Ls (.int z :: rest))) := by
  obtain ⟨fs, hr, hrun, hended, hW, hsame⟩ := X.leave (v := some (.int (nar t z))) (fun h => by rw [hret] at h; cases h) hlk
  exact ⟨_, _, retN X hx hret ht hd hr, hrun, hended, _, _, rfl, hq, ⟨_, rfl⟩, hW, hsame.mono hC hS⟩
theorem OGo.outJ (X : Stand p l e R s m args below meth c T locs cells slots) (hx : p.tables.exec = Jvm.exec) (hret : meth.sig.returnType = some .long) (hlk : meth.locks = false) {pc : Nat} {Ls : Array Slot} {z : Int64} (hd : decode c.code pc = .ok (.lreturn, 1))
    {Q : Option Value → Heap → List Loc → Prop} {C S : Nat} (hq : Q (some (.long z)) T.heap locs) (hC : cells ≤ C) (hS : slots ≤ S) : OGo p e below (Out s C S Q) (T.setTop (mkF m pc Ls [.long z])) := by
  obtain ⟨fs, hr, hrun, hended, hW, hsame⟩ := X.leave (v := some (.long z)) (fun h => by rw [hret] at h; cases h) hlk
  exact ⟨_, _, X.lreturnOut hx hret hd hr, hrun, hended, _, _, rfl, hq, ⟨_, rfl⟩, hW, hsame.mono hC hS⟩
theorem OGo.outV (X : Stand p l e R s m args below meth c T locs cells slots) (hx : p.tables.exec = Jvm.exec) (hret : meth.sig.returnType = none) (hlk : meth.locks = false) {pc : Nat} {Ls : Array Slot} (hd : decode c.code pc = .ok (.return_, 1))
    {Q : Option Value → Heap → List Loc → Prop} {C S : Nat} (hq : Q none T.heap locs) (hC : cells ≤ C) (hS : slots ≤ S) : OGo p e below (Out s C S Q) (T.setTop (mkF m pc Ls [])) := by
  obtain ⟨fs, hr, hrun, hended, hW, hsame⟩ := X.leave (v := none) (fun _ => rfl) hlk
  exact ⟨_, _, X.returnOut hx hret hd hr, hrun, hended, _, _, rfl, hq, ⟨_, rfl⟩, hW, hsame.mono hC hS⟩
end Own

theorem own_nz5 {x : Int32} (h : ¬ x < (5 : Int32)) : x ≠ 0 := fun q => h (by subst q; decide)
theorem d1_0 : decode prog_6_method_13_code 0 = .ok (.iload_n 2, 1) := by decide +kernel
theorem d1_1 : decode prog_6_method_13_code 1 = .ok (.bipush 16, 2) := by decide +kernel
theorem d1_3 : decode prog_6_method_13_code 3 = .ok (.if_icmp .lt 5, 3) := by decide +kernel
theorem d1_6 : decode prog_6_method_13_code 6 = .ok (.iconst 0, 1) := by decide +kernel
theorem d1_7 : decode prog_6_method_13_code 7 = .ok (.ireturn, 1) := by decide +kernel
theorem d1_8 : decode prog_6_method_13_code 8 = .ok (.iload_n 3, 1) := by decide +kernel
theorem d1_9 : decode prog_6_method_13_code 9 = .ok (.ifCond .ne 25, 3) := by decide +kernel
theorem d1_12 : decode prog_6_method_13_code 12 = .ok (.iload_n 2, 1) := by decide +kernel
theorem d1_13 : decode prog_6_method_13_code 13 = .ok (.iconst 4, 1) := by decide +kernel
theorem d1_14 : decode prog_6_method_13_code 14 = .ok (.if_icmp .le 20, 3) := by decide +kernel
theorem d1_17 : decode prog_6_method_13_code 17 = .ok (.iload_n 0, 1) := by decide +kernel
theorem d1_18 : decode prog_6_method_13_code 18 = .ok (.iconst 4, 1) := by decide +kernel
theorem d1_19 : decode prog_6_method_13_code 19 = .ok (.if_icmp .lt 19, 3) := by decide +kernel
theorem d1_22 : decode prog_6_method_13_code 22 = .ok (.iload_n 1, 1) := by decide +kernel
theorem d1_23 : decode prog_6_method_13_code 23 = .ok (.i2l, 1) := by decide +kernel
theorem d1_24 : decode prog_6_method_13_code 24 = .ok (.iload_n 2, 1) := by decide +kernel
theorem d1_25 : decode prog_6_method_13_code 25 = .ok (.i2l, 1) := by decide +kernel
theorem d1_26 : decode prog_6_method_13_code 26 = .ok (.lmul, 1) := by decide +kernel
theorem d1_27 : decode prog_6_method_13_code 27 = .ok (.ldc2_w 17, 3) := by decide +kernel
theorem d1_30 : decode prog_6_method_13_code 30 = .ok (.lcmp, 1) := by decide +kernel
theorem d1_31 : decode prog_6_method_13_code 31 = .ok (.ifCond .gt 7, 3) := by decide +kernel
theorem d1_34 : decode prog_6_method_13_code 34 = .ok (.iconst 1, 1) := by decide +kernel
theorem d1_35 : decode prog_6_method_13_code 35 = .ok (.goto 4, 3) := by decide +kernel
theorem d1_38 : decode prog_6_method_13_code 38 = .ok (.iconst 0, 1) := by decide +kernel
theorem d1_39 : decode prog_6_method_13_code 39 = .ok (.ireturn, 1) := by decide +kernel
theorem pn1 : plainName "com/example/tilewright/tilewright/kernel/Blocks" = true := by first | (simp [plainName, overriddenIn]; done) | decide +kernel
theorem ef1 (m : MethodId) (q1 : Int32) (q2 : Int32) (q3 : Int32) (q4 : Int32) : entryFrame m #[(.int q1), (.int q2), (.int q3), (.int q4)] 4 = mkF m 0 #[.val (.int q1), .val (.int q2), .val (.int q3), .val (.int q4)] [] := by first | (simp [entryFrame, mkF, argsToLocals, Value.category]; done) | rfl
def g1_31_1 (q1 : Int32) (q2 : Int32) (q3 : Int32) (q4 : Int32) : Int32 := if (0 : Int32) < (lcmpW ((q2.toInt64) * (q3.toInt64)) (1048576 : Int64)) then (0 : Int32) else (1 : Int32)
def g1_19_2 (q1 : Int32) (q2 : Int32) (q3 : Int32) (q4 : Int32) : Int32 := if q1 < (4 : Int32) then (0 : Int32) else (g1_31_1 q1 q2 q3 q4)
def g1_14_3 (q1 : Int32) (q2 : Int32) (q3 : Int32) (q4 : Int32) : Int32 := if (4 : Int32) < q3 then (g1_19_2 q1 q2 q3 q4) else (1 : Int32)
def g1_9_4 (q1 : Int32) (q2 : Int32) (q3 : Int32) (q4 : Int32) : Int32 := if q4 = (0 : Int32) then (g1_14_3 q1 q2 q3 q4) else (1 : Int32)
def g1_3_5 (q1 : Int32) (q2 : Int32) (q3 : Int32) (q4 : Int32) : Int32 := if q3 < (16 : Int32) then (g1_9_4 q1 q2 q3 q4) else (0 : Int32)
def f1 (q1 : Int32) (q2 : Int32) (q3 : Int32) (q4 : Int32) : Int32 := (g1_3_5 q1 q2 q3 q4)
set_option maxRecDepth 65536 in
set_option maxHeartbeats 40000000 in
theorem rm1 (l : Launch) (Z : State) (a0 : Array Value) (hw : ∀ d ∈ tables_1, d.before a0 Z = true) (ws : List Jvm.Cond) (q1 : Int32) (q2 : Int32) (q3 : Int32) (q4 : Int32) (h0 : Heap) (n0 : Nat) (Z0 : n0 ≤ h0.size) :
    MetFree l (⟨"com/example/tilewright/tilewright/kernel/Blocks", "takesRegisters", "(IIIZ)Z"⟩ : MethodName) (head1 (Jvm.Cond.code (⟨"com/example/tilewright/tilewright/kernel/Blocks", "takesRegisters", "(IIIZ)Z"⟩ : MethodName) prog_6_method_13_code 4 (some .boolean) :: ws) ({ frames := 0, cells := 0, slots := 0, locals := 0 } : Room)) (fun a U => a = #[(.int q1), (.int q2), (.int q3), (.int q4)] ∧ Z.Warmed39 U.vm ∧ U.heap = h0) (fun _ _ _ _ _ => True) (fun _ U o U' => ∃ v L, o = .returned v ∧ PI n0 h0 (f1 q1 q2 q3 q4) v U'.heap L ∧ FrameEnd U o U' L ({ frames := 0, cells := 0, slots := 0, locals := 0 } : Room).cells ({ frames := 0, cells := 0, slots := 0, locals := 0 } : Room).slots) := by
  refine MetFree.of_bodySF (plainFor_of_name pn1) hisR ?_
  intro p e s m args below meth c s₁ Bd hml0 hP hK
  obtain ⟨rfl, hZ, hh⟩ := hP
  have hx := Bd.exec
  have hby := Bd.bytes
  have hml : c.maxLocals = 4 := hml0
  have hown : s.vm.findClass "com/example/tilewright/tilewright/kernel/Blocks" = some m.cls := findClass_of_methodNamed Bd.named
  have X0 : Stand p l e ({ frames := 0, cells := 0, slots := 0, locals := 0 } : Room) s m #[(.int q1), (.int q2), (.int q3), (.int q4)] below meth c s₁ [] 0 0 := Stand.of_body Bd
  have e0 : s₁.heap = h0 := by rw [← hh, Bd.state]; rfl
  have N0 := Fr.nil n0
  show OGo p e below (Out s ({ frames := 0, cells := 0, slots := 0, locals := 0 } : Room).cells ({ frames := 0, cells := 0, slots := 0, locals := 0 } : Room).slots (PI n0 h0 (f1 q1 q2 q3 q4))) (s₁.setTop (entryFrame m #[(.int q1), (.int q2), (.int q3), (.int q4)] 4))
  refine OGo.st (fun t k => castTop (ef1 m q1 q2 q3 q4) k) ?_
  show OGo p e below (Out s ({ frames := 0, cells := 0, slots := 0, locals := 0 } : Room).cells ({ frames := 0, cells := 0, slots := 0, locals := 0 } : Room).slots (PI n0 h0 (g1_3_5 q1 q2 q3 q4))) (s₁.setTop (mkF m 0 #[.val (.int q1), .val (.int q2), .val (.int q3), .val (.int q4)] []))
  refine OGo.st (fun t k => XS.iloadN X0.here hx rfl (hb hby d1_0) rfl k) ?_
  show OGo p e below _ (s₁.setTop (mkF m 1 #[.val (.int q1), .val (.int q2), .val (.int q3), .val (.int q4)] [(.int q3)]))
  refine OGo.st (fun t k => XS.bipush X0.here hx rfl (hb hby d1_1) k) ?_
  show OGo p e below _ (s₁.setTop (mkF m 3 #[.val (.int q1), .val (.int q2), .val (.int q3), .val (.int q4)] [(.int (16 : Int32)), (.int q3)]))
  by_cases hc3_1 : q3 < (16 : Int32)
  · refine OGo.eqvI (show (g1_3_5 q1 q2 q3 q4) = (g1_9_4 q1 q2 q3 q4) from if_pos hc3_1) ?_
    refine OGo.st (fun t k => XS.icmpYes X0.here hx rfl (pc0 := 3) (pc' := 8) rfl (hb hby d1_3) rfl (tlt hc3_1).1 (by decide) (by decide) k) ?_
    show OGo p e below _ (s₁.setTop (mkF m 8 #[.val (.int q1), .val (.int q2), .val (.int q3), .val (.int q4)] []))
    refine OGo.st (fun t k => XS.iloadN X0.here hx rfl (hb hby d1_8) rfl k) ?_
    show OGo p e below _ (s₁.setTop (mkF m 9 #[.val (.int q1), .val (.int q2), .val (.int q3), .val (.int q4)] [(.int q4)]))
    by_cases hc9_2 : q4 = (0 : Int32)
    · refine OGo.eqvI (show (g1_9_4 q1 q2 q3 q4) = (g1_14_3 q1 q2 q3 q4) from if_pos hc9_2) ?_
      refine OGo.st (fun t k => XS.ifNo X0.here hx rfl (hb hby d1_9) rfl ((if0 _ _).trans (teq hc9_2).2) k) ?_
      show OGo p e below _ (s₁.setTop (mkF m 12 #[.val (.int q1), .val (.int q2), .val (.int q3), .val (.int q4)] []))
      refine OGo.st (fun t k => XS.iloadN X0.here hx rfl (hb hby d1_12) rfl k) ?_
      show OGo p e below _ (s₁.setTop (mkF m 13 #[.val (.int q1), .val (.int q2), .val (.int q3), .val (.int q4)] [(.int q3)]))
      refine OGo.st (fun t k => XS.iconst X0.here hx rfl (hb hby d1_13) k) ?_
      show OGo p e below _ (s₁.setTop (mkF m 14 #[.val (.int q1), .val (.int q2), .val (.int q3), .val (.int q4)] [(.int (4 : Int32)), (.int q3)]))
      by_cases hc14_3 : (4 : Int32) < q3
      · refine OGo.eqvI (show (g1_14_3 q1 q2 q3 q4) = (g1_19_2 q1 q2 q3 q4) from if_pos hc14_3) ?_
        refine OGo.st (fun t k => XS.icmpNo X0.here hx rfl (hb hby d1_14) rfl (tlt hc14_3).2.2.2 k) ?_
        show OGo p e below _ (s₁.setTop (mkF m 17 #[.val (.int q1), .val (.int q2), .val (.int q3), .val (.int q4)] []))
        refine OGo.st (fun t k => XS.iloadN X0.here hx rfl (hb hby d1_17) rfl k) ?_
        show OGo p e below _ (s₁.setTop (mkF m 18 #[.val (.int q1), .val (.int q2), .val (.int q3), .val (.int q4)] [(.int q1)]))
        refine OGo.st (fun t k => XS.iconst X0.here hx rfl (hb hby d1_18) k) ?_
        show OGo p e below _ (s₁.setTop (mkF m 19 #[.val (.int q1), .val (.int q2), .val (.int q3), .val (.int q4)] [(.int (4 : Int32)), (.int q1)]))
        by_cases hc19_4 : q1 < (4 : Int32)
        · refine OGo.eqvI (show (g1_19_2 q1 q2 q3 q4) = (0 : Int32) from if_pos hc19_4) ?_
          refine OGo.st (fun t k => XS.icmpYes X0.here hx rfl (pc0 := 19) (pc' := 38) rfl (hb hby d1_19) rfl (tlt hc19_4).1 (by decide) (by decide) k) ?_
          show OGo p e below _ (s₁.setTop (mkF m 38 #[.val (.int q1), .val (.int q2), .val (.int q3), .val (.int q4)] []))
          refine OGo.st (fun t k => XS.iconst X0.here hx rfl (hb hby d1_38) k) ?_
          show OGo p e below _ (s₁.setTop (mkF m 39 #[.val (.int q1), .val (.int q2), .val (.int q3), .val (.int q4)] [(.int (0 : Int32))]))
          exact OGo.outN X0 hx (t := .boolean) Bd.returns (by simp) Bd.notSynchronized (hb hby d1_39) ⟨rfl, N0, e0⟩ (by decide) (by decide)
        · refine OGo.eqvI (show (g1_19_2 q1 q2 q3 q4) = (g1_31_1 q1 q2 q3 q4) from if_neg hc19_4) ?_
          refine OGo.st (fun t k => XS.icmpNo X0.here hx rfl (hb hby d1_19) rfl (flt hc19_4).1 k) ?_
          show OGo p e below _ (s₁.setTop (mkF m 22 #[.val (.int q1), .val (.int q2), .val (.int q3), .val (.int q4)] []))
          refine OGo.st (fun t k => XS.iloadN X0.here hx rfl (hb hby d1_22) rfl k) ?_
          show OGo p e below _ (s₁.setTop (mkF m 23 #[.val (.int q1), .val (.int q2), .val (.int q3), .val (.int q4)] [(.int q2)]))
          refine OGo.st (fun t k => XS.i2l X0.here hx rfl (hb hby d1_23) rfl k) ?_
          show OGo p e below _ (s₁.setTop (mkF m 24 #[.val (.int q1), .val (.int q2), .val (.int q3), .val (.int q4)] [(.long (q2.toInt64))]))
          refine OGo.st (fun t k => XS.iloadN X0.here hx rfl (hb hby d1_24) rfl k) ?_
          show OGo p e below _ (s₁.setTop (mkF m 25 #[.val (.int q1), .val (.int q2), .val (.int q3), .val (.int q4)] [(.int q3), (.long (q2.toInt64))]))
          refine OGo.st (fun t k => XS.i2l X0.here hx rfl (hb hby d1_25) rfl k) ?_
          show OGo p e below _ (s₁.setTop (mkF m 26 #[.val (.int q1), .val (.int q2), .val (.int q3), .val (.int q4)] [(.long (q3.toInt64)), (.long (q2.toInt64))]))
          refine OGo.st (fun t k => XS.lmul X0.here hx rfl (hb hby d1_26) rfl k) ?_
          show OGo p e below _ (s₁.setTop (mkF m 27 #[.val (.int q1), .val (.int q2), .val (.int q3), .val (.int q4)] [(.long ((q2.toInt64) * (q3.toInt64)))]))
          refine OGo.st (fun t k => X0.ldc2Long hx hown (mvT hZ (hw _ (List.mem_of_getElem? (i := 8) rfl))) (g := (mkF m 27 #[.val (.int q1), .val (.int q2), .val (.int q3), .val (.int q4)] [(.long ((q2.toInt64) * (q3.toInt64)))])) rfl (hb hby d1_27) t k) ?_
          show OGo p e below _ (s₁.setTop (mkF m 30 #[.val (.int q1), .val (.int q2), .val (.int q3), .val (.int q4)] [(.long (1048576 : Int64)), (.long ((q2.toInt64) * (q3.toInt64)))]))
          refine OGo.st (fun t k => XS.lcmp X0.here hx rfl (hb hby d1_30) rfl k) ?_
          show OGo p e below _ (s₁.setTop (mkF m 31 #[.val (.int q1), .val (.int q2), .val (.int q3), .val (.int q4)] [(.int (lcmpW ((q2.toInt64) * (q3.toInt64)) (1048576 : Int64)))]))
          by_cases hc31_5 : (0 : Int32) < (lcmpW ((q2.toInt64) * (q3.toInt64)) (1048576 : Int64))
          · refine OGo.eqvI (show (g1_31_1 q1 q2 q3 q4) = (0 : Int32) from if_pos hc31_5) ?_
            refine OGo.st (fun t k => XS.ifYes X0.here hx rfl (pc0 := 31) (pc' := 38) rfl (hb hby d1_31) rfl ((if0 _ _).trans (tlt hc31_5).2.2.1) (by decide) (by decide) k) ?_
            show OGo p e below _ (s₁.setTop (mkF m 38 #[.val (.int q1), .val (.int q2), .val (.int q3), .val (.int q4)] []))
            refine OGo.st (fun t k => XS.iconst X0.here hx rfl (hb hby d1_38) k) ?_
            show OGo p e below _ (s₁.setTop (mkF m 39 #[.val (.int q1), .val (.int q2), .val (.int q3), .val (.int q4)] [(.int (0 : Int32))]))
            exact OGo.outN X0 hx (t := .boolean) Bd.returns (by simp) Bd.notSynchronized (hb hby d1_39) ⟨rfl, N0, e0⟩ (by decide) (by decide)
          · refine OGo.eqvI (show (g1_31_1 q1 q2 q3 q4) = (1 : Int32) from if_neg hc31_5) ?_
            refine OGo.st (fun t k => XS.ifNo X0.here hx rfl (hb hby d1_31) rfl ((if0 _ _).trans (flt hc31_5).2.2.1) k) ?_
            show OGo p e below _ (s₁.setTop (mkF m 34 #[.val (.int q1), .val (.int q2), .val (.int q3), .val (.int q4)] []))
            refine OGo.st (fun t k => XS.iconst X0.here hx rfl (hb hby d1_34) k) ?_
            show OGo p e below _ (s₁.setTop (mkF m 35 #[.val (.int q1), .val (.int q2), .val (.int q3), .val (.int q4)] [(.int (1 : Int32))]))
            refine OGo.st (fun t k => XS.goto X0.here hx rfl (pc0 := 35) (pc' := 39) rfl (hb hby d1_35) (by decide) (by decide) k) ?_
            show OGo p e below _ (s₁.setTop (mkF m 39 #[.val (.int q1), .val (.int q2), .val (.int q3), .val (.int q4)] [(.int (1 : Int32))]))
            exact OGo.outN X0 hx (t := .boolean) Bd.returns (by simp) Bd.notSynchronized (hb hby d1_39) ⟨rfl, N0, e0⟩ (by decide) (by decide)
      · refine OGo.eqvI (show (g1_14_3 q1 q2 q3 q4) = (1 : Int32) from if_neg hc14_3) ?_
        refine OGo.st (fun t k => XS.icmpYes X0.here hx rfl (pc0 := 14) (pc' := 34) rfl (hb hby d1_14) rfl (flt hc14_3).2.2.2 (by decide) (by decide) k) ?_
        show OGo p e below _ (s₁.setTop (mkF m 34 #[.val (.int q1), .val (.int q2), .val (.int q3), .val (.int q4)] []))
        refine OGo.st (fun t k => XS.iconst X0.here hx rfl (hb hby d1_34) k) ?_
        show OGo p e below _ (s₁.setTop (mkF m 35 #[.val (.int q1), .val (.int q2), .val (.int q3), .val (.int q4)] [(.int (1 : Int32))]))
        refine OGo.st (fun t k => XS.goto X0.here hx rfl (pc0 := 35) (pc' := 39) rfl (hb hby d1_35) (by decide) (by decide) k) ?_
        show OGo p e below _ (s₁.setTop (mkF m 39 #[.val (.int q1), .val (.int q2), .val (.int q3), .val (.int q4)] [(.int (1 : Int32))]))
        exact OGo.outN X0 hx (t := .boolean) Bd.returns (by simp) Bd.notSynchronized (hb hby d1_39) ⟨rfl, N0, e0⟩ (by decide) (by decide)
    · refine OGo.eqvI (show (g1_9_4 q1 q2 q3 q4) = (1 : Int32) from if_neg hc9_2) ?_
      refine OGo.st (fun t k => XS.ifYes X0.here hx rfl (pc0 := 9) (pc' := 34) rfl (hb hby d1_9) rfl ((if0 _ _).trans (feq hc9_2).2) (by decide) (by decide) k) ?_
      show OGo p e below _ (s₁.setTop (mkF m 34 #[.val (.int q1), .val (.int q2), .val (.int q3), .val (.int q4)] []))
      refine OGo.st (fun t k => XS.iconst X0.here hx rfl (hb hby d1_34) k) ?_
      show OGo p e below _ (s₁.setTop (mkF m 35 #[.val (.int q1), .val (.int q2), .val (.int q3), .val (.int q4)] [(.int (1 : Int32))]))
      refine OGo.st (fun t k => XS.goto X0.here hx rfl (pc0 := 35) (pc' := 39) rfl (hb hby d1_35) (by decide) (by decide) k) ?_
      show OGo p e below _ (s₁.setTop (mkF m 39 #[.val (.int q1), .val (.int q2), .val (.int q3), .val (.int q4)] [(.int (1 : Int32))]))
      exact OGo.outN X0 hx (t := .boolean) Bd.returns (by simp) Bd.notSynchronized (hb hby d1_39) ⟨rfl, N0, e0⟩ (by decide) (by decide)
  · refine OGo.eqvI (show (g1_3_5 q1 q2 q3 q4) = (0 : Int32) from if_neg hc3_1) ?_
    refine OGo.st (fun t k => XS.icmpNo X0.here hx rfl (hb hby d1_3) rfl (flt hc3_1).1 k) ?_
    show OGo p e below _ (s₁.setTop (mkF m 6 #[.val (.int q1), .val (.int q2), .val (.int q3), .val (.int q4)] []))
    refine OGo.st (fun t k => XS.iconst X0.here hx rfl (hb hby d1_6) k) ?_
    show OGo p e below _ (s₁.setTop (mkF m 7 #[.val (.int q1), .val (.int q2), .val (.int q3), .val (.int q4)] [(.int (0 : Int32))]))
    exact OGo.outN X0 hx (t := .boolean) Bd.returns (by simp) Bd.notSynchronized (hb hby d1_7) ⟨rfl, N0, e0⟩ (by decide) (by decide)
theorem d2_0 : decode method_3_code 0 = .ok (.iload_n 2, 1) := by decide +kernel
theorem d2_1 : decode method_3_code 1 = .ok (.bipush 15, 2) := by decide +kernel
theorem d2_3 : decode method_3_code 3 = .ok (.if_icmp .le 5, 3) := by decide +kernel
theorem d2_6 : decode method_3_code 6 = .ok (.iconst 0, 1) := by decide +kernel
theorem d2_7 : decode method_3_code 7 = .ok (.ireturn, 1) := by decide +kernel
theorem d2_8 : decode method_3_code 8 = .ok (.iload_n 3, 1) := by decide +kernel
theorem d2_9 : decode method_3_code 9 = .ok (.ifCond .eq 5, 3) := by decide +kernel
theorem d2_12 : decode method_3_code 12 = .ok (.iconst 1, 1) := by decide +kernel
theorem d2_13 : decode method_3_code 13 = .ok (.ireturn, 1) := by decide +kernel
theorem d2_14 : decode method_3_code 14 = .ok (.iload_n 2, 1) := by decide +kernel
theorem d2_15 : decode method_3_code 15 = .ok (.iconst 5, 1) := by decide +kernel
theorem d2_16 : decode method_3_code 16 = .ok (.if_icmp .ge 5, 3) := by decide +kernel
theorem d2_19 : decode method_3_code 19 = .ok (.iconst 1, 1) := by decide +kernel
theorem d2_20 : decode method_3_code 20 = .ok (.ireturn, 1) := by decide +kernel
theorem d2_21 : decode method_3_code 21 = .ok (.iload_n 0, 1) := by decide +kernel
theorem d2_22 : decode method_3_code 22 = .ok (.iconst 4, 1) := by decide +kernel
theorem d2_23 : decode method_3_code 23 = .ok (.if_icmp .ge 5, 3) := by decide +kernel
theorem d2_26 : decode method_3_code 26 = .ok (.iconst 0, 1) := by decide +kernel
theorem d2_27 : decode method_3_code 27 = .ok (.ireturn, 1) := by decide +kernel
theorem d2_28 : decode method_3_code 28 = .ok (.iload_n 1, 1) := by decide +kernel
theorem d2_29 : decode method_3_code 29 = .ok (.ifCond .gt 5, 3) := by decide +kernel
theorem d2_32 : decode method_3_code 32 = .ok (.iconst 1, 1) := by decide +kernel
theorem d2_33 : decode method_3_code 33 = .ok (.ireturn, 1) := by decide +kernel
theorem d2_34 : decode method_3_code 34 = .ok (.iload_n 1, 1) := by decide +kernel
theorem d2_35 : decode method_3_code 35 = .ok (.ldc 18, 2) := by decide +kernel
theorem d2_37 : decode method_3_code 37 = .ok (.iload_n 2, 1) := by decide +kernel
theorem d2_38 : decode method_3_code 38 = .ok (.idiv, 1) := by decide +kernel
theorem d2_39 : decode method_3_code 39 = .ok (.if_icmp .gt 7, 3) := by decide +kernel
theorem d2_42 : decode method_3_code 42 = .ok (.iconst 1, 1) := by decide +kernel
theorem d2_43 : decode method_3_code 43 = .ok (.goto 4, 3) := by decide +kernel
theorem d2_46 : decode method_3_code 46 = .ok (.iconst 0, 1) := by decide +kernel
theorem d2_47 : decode method_3_code 47 = .ok (.ireturn, 1) := by decide +kernel
theorem pn2 : plainName "com/example/tilewright/tilewright/kernel/BlocksTakesRegistersPinLaw" = true := by first | (simp [plainName, overriddenIn]; done) | decide +kernel
theorem ef2 (m : MethodId) (q1 : Int32) (q2 : Int32) (q3 : Int32) (q4 : Int32) : entryFrame m #[(.int q1), (.int q2), (.int q3), (.int q4)] 4 = mkF m 0 #[.val (.int q1), .val (.int q2), .val (.int q3), .val (.int q4)] [] := by first | (simp [entryFrame, mkF, argsToLocals, Value.category]; done) | rfl
def g2_39_1 (q1 : Int32) (q2 : Int32) (q3 : Int32) (q4 : Int32) : Int32 := if ((1048576 : Int32) / q3) < q2 then (0 : Int32) else (1 : Int32)
def g2_29_2 (q1 : Int32) (q2 : Int32) (q3 : Int32) (q4 : Int32) : Int32 := if (0 : Int32) < q2 then (g2_39_1 q1 q2 q3 q4) else (1 : Int32)
def g2_23_3 (q1 : Int32) (q2 : Int32) (q3 : Int32) (q4 : Int32) : Int32 := if q1 < (4 : Int32) then (0 : Int32) else (g2_29_2 q1 q2 q3 q4)
def g2_16_4 (q1 : Int32) (q2 : Int32) (q3 : Int32) (q4 : Int32) : Int32 := if q3 < (5 : Int32) then (1 : Int32) else (g2_23_3 q1 q2 q3 q4)
def g2_9_5 (q1 : Int32) (q2 : Int32) (q3 : Int32) (q4 : Int32) : Int32 := if q4 = (0 : Int32) then (g2_16_4 q1 q2 q3 q4) else (1 : Int32)
def g2_3_6 (q1 : Int32) (q2 : Int32) (q3 : Int32) (q4 : Int32) : Int32 := if (15 : Int32) < q3 then (0 : Int32) else (g2_9_5 q1 q2 q3 q4)
def f2 (q1 : Int32) (q2 : Int32) (q3 : Int32) (q4 : Int32) : Int32 := (g2_3_6 q1 q2 q3 q4)
set_option maxRecDepth 65536 in
set_option maxHeartbeats 40000000 in
theorem rm2 (l : Launch) (Z : State) (a0 : Array Value) (hw : ∀ d ∈ tables_1, d.before a0 Z = true) (ws : List Jvm.Cond) (q1 : Int32) (q2 : Int32) (q3 : Int32) (q4 : Int32) (h0 : Heap) (n0 : Nat) (Z0 : n0 ≤ h0.size) :
    MetFree l (⟨"com/example/tilewright/tilewright/kernel/BlocksTakesRegistersPinLaw", "expected", "(IIIZ)Z"⟩ : MethodName) (head1 (Jvm.Cond.code (⟨"com/example/tilewright/tilewright/kernel/BlocksTakesRegistersPinLaw", "expected", "(IIIZ)Z"⟩ : MethodName) method_3_code 4 (some .boolean) :: ws) ({ frames := 0, cells := 0, slots := 0, locals := 0 } : Room)) (fun a U => a = #[(.int q1), (.int q2), (.int q3), (.int q4)] ∧ Z.Warmed39 U.vm ∧ U.heap = h0) (fun _ _ _ _ _ => True) (fun _ U o U' => ∃ v L, o = .returned v ∧ PI n0 h0 (f2 q1 q2 q3 q4) v U'.heap L ∧ FrameEnd U o U' L ({ frames := 0, cells := 0, slots := 0, locals := 0 } : Room).cells ({ frames := 0, cells := 0, slots := 0, locals := 0 } : Room).slots) := by
  refine MetFree.of_bodySF (plainFor_of_name pn2) hisR ?_
  intro p e s m args below meth c s₁ Bd hml0 hP hK
  obtain ⟨rfl, hZ, hh⟩ := hP
  have hx := Bd.exec
  have hby := Bd.bytes
  have hml : c.maxLocals = 4 := hml0
  have hown : s.vm.findClass "com/example/tilewright/tilewright/kernel/BlocksTakesRegistersPinLaw" = some m.cls := findClass_of_methodNamed Bd.named
  have X0 : Stand p l e ({ frames := 0, cells := 0, slots := 0, locals := 0 } : Room) s m #[(.int q1), (.int q2), (.int q3), (.int q4)] below meth c s₁ [] 0 0 := Stand.of_body Bd
  have e0 : s₁.heap = h0 := by rw [← hh, Bd.state]; rfl
  have N0 := Fr.nil n0
  show OGo p e below (Out s ({ frames := 0, cells := 0, slots := 0, locals := 0 } : Room).cells ({ frames := 0, cells := 0, slots := 0, locals := 0 } : Room).slots (PI n0 h0 (f2 q1 q2 q3 q4))) (s₁.setTop (entryFrame m #[(.int q1), (.int q2), (.int q3), (.int q4)] 4))
  refine OGo.st (fun t k => castTop (ef2 m q1 q2 q3 q4) k) ?_
  show OGo p e below (Out s ({ frames := 0, cells := 0, slots := 0, locals := 0 } : Room).cells ({ frames := 0, cells := 0, slots := 0, locals := 0 } : Room).slots (PI n0 h0 (g2_3_6 q1 q2 q3 q4))) (s₁.setTop (mkF m 0 #[.val (.int q1), .val (.int q2), .val (.int q3), .val (.int q4)] []))
  refine OGo.st (fun t k => XS.iloadN X0.here hx rfl (hb hby d2_0) rfl k) ?_
  show OGo p e below _ (s₁.setTop (mkF m 1 #[.val (.int q1), .val (.int q2), .val (.int q3), .val (.int q4)] [(.int q3)]))
  refine OGo.st (fun t k => XS.bipush X0.here hx rfl (hb hby d2_1) k) ?_
  show OGo p e below _ (s₁.setTop (mkF m 3 #[.val (.int q1), .val (.int q2), .val (.int q3), .val (.int q4)] [(.int (15 : Int32)), (.int q3)]))
  by_cases hc3_1 : (15 : Int32) < q3
  · refine OGo.eqvI (show (g2_3_6 q1 q2 q3 q4) = (0 : Int32) from if_pos hc3_1) ?_
    refine OGo.st (fun t k => XS.icmpNo X0.here hx rfl (hb hby d2_3) rfl (tlt hc3_1).2.2.2 k) ?_
    show OGo p e below _ (s₁.setTop (mkF m 6 #[.val (.int q1), .val (.int q2), .val (.int q3), .val (.int q4)] []))
    refine OGo.st (fun t k => XS.iconst X0.here hx rfl (hb hby d2_6) k) ?_
    show OGo p e below _ (s₁.setTop (mkF m 7 #[.val (.int q1), .val (.int q2), .val (.int q3), .val (.int q4)] [(.int (0 : Int32))]))
    exact OGo.outN X0 hx (t := .boolean) Bd.returns (by simp) Bd.notSynchronized (hb hby d2_7) ⟨rfl, N0, e0⟩ (by decide) (by decide)
  · refine OGo.eqvI (show (g2_3_6 q1 q2 q3 q4) = (g2_9_5 q1 q2 q3 q4) from if_neg hc3_1) ?_
    refine OGo.st (fun t k => XS.icmpYes X0.here hx rfl (pc0 := 3) (pc' := 8) rfl (hb hby d2_3) rfl (flt hc3_1).2.2.2 (by decide) (by decide) k) ?_
    show OGo p e below _ (s₁.setTop (mkF m 8 #[.val (.int q1), .val (.int q2), .val (.int q3), .val (.int q4)] []))
    refine OGo.st (fun t k => XS.iloadN X0.here hx rfl (hb hby d2_8) rfl k) ?_
    show OGo p e below _ (s₁.setTop (mkF m 9 #[.val (.int q1), .val (.int q2), .val (.int q3), .val (.int q4)] [(.int q4)]))
    by_cases hc9_2 : q4 = (0 : Int32)
    · refine OGo.eqvI (show (g2_9_5 q1 q2 q3 q4) = (g2_16_4 q1 q2 q3 q4) from if_pos hc9_2) ?_
      refine OGo.st (fun t k => XS.ifYes X0.here hx rfl (pc0 := 9) (pc' := 14) rfl (hb hby d2_9) rfl ((if0 _ _).trans (teq hc9_2).1) (by decide) (by decide) k) ?_
      show OGo p e below _ (s₁.setTop (mkF m 14 #[.val (.int q1), .val (.int q2), .val (.int q3), .val (.int q4)] []))
      refine OGo.st (fun t k => XS.iloadN X0.here hx rfl (hb hby d2_14) rfl k) ?_
      show OGo p e below _ (s₁.setTop (mkF m 15 #[.val (.int q1), .val (.int q2), .val (.int q3), .val (.int q4)] [(.int q3)]))
      refine OGo.st (fun t k => XS.iconst X0.here hx rfl (hb hby d2_15) k) ?_
      show OGo p e below _ (s₁.setTop (mkF m 16 #[.val (.int q1), .val (.int q2), .val (.int q3), .val (.int q4)] [(.int (5 : Int32)), (.int q3)]))
      by_cases hc16_3 : q3 < (5 : Int32)
      · refine OGo.eqvI (show (g2_16_4 q1 q2 q3 q4) = (1 : Int32) from if_pos hc16_3) ?_
        refine OGo.st (fun t k => XS.icmpNo X0.here hx rfl (hb hby d2_16) rfl (tlt hc16_3).2.1 k) ?_
        show OGo p e below _ (s₁.setTop (mkF m 19 #[.val (.int q1), .val (.int q2), .val (.int q3), .val (.int q4)] []))
        refine OGo.st (fun t k => XS.iconst X0.here hx rfl (hb hby d2_19) k) ?_
        show OGo p e below _ (s₁.setTop (mkF m 20 #[.val (.int q1), .val (.int q2), .val (.int q3), .val (.int q4)] [(.int (1 : Int32))]))
        exact OGo.outN X0 hx (t := .boolean) Bd.returns (by simp) Bd.notSynchronized (hb hby d2_20) ⟨rfl, N0, e0⟩ (by decide) (by decide)
      · refine OGo.eqvI (show (g2_16_4 q1 q2 q3 q4) = (g2_23_3 q1 q2 q3 q4) from if_neg hc16_3) ?_
        refine OGo.st (fun t k => XS.icmpYes X0.here hx rfl (pc0 := 16) (pc' := 21) rfl (hb hby d2_16) rfl (flt hc16_3).2.1 (by decide) (by decide) k) ?_
        show OGo p e below _ (s₁.setTop (mkF m 21 #[.val (.int q1), .val (.int q2), .val (.int q3), .val (.int q4)] []))
        refine OGo.st (fun t k => XS.iloadN X0.here hx rfl (hb hby d2_21) rfl k) ?_
        show OGo p e below _ (s₁.setTop (mkF m 22 #[.val (.int q1), .val (.int q2), .val (.int q3), .val (.int q4)] [(.int q1)]))
        refine OGo.st (fun t k => XS.iconst X0.here hx rfl (hb hby d2_22) k) ?_
        show OGo p e below _ (s₁.setTop (mkF m 23 #[.val (.int q1), .val (.int q2), .val (.int q3), .val (.int q4)] [(.int (4 : Int32)), (.int q1)]))
        by_cases hc23_4 : q1 < (4 : Int32)
        · refine OGo.eqvI (show (g2_23_3 q1 q2 q3 q4) = (0 : Int32) from if_pos hc23_4) ?_
          refine OGo.st (fun t k => XS.icmpNo X0.here hx rfl (hb hby d2_23) rfl (tlt hc23_4).2.1 k) ?_
          show OGo p e below _ (s₁.setTop (mkF m 26 #[.val (.int q1), .val (.int q2), .val (.int q3), .val (.int q4)] []))
          refine OGo.st (fun t k => XS.iconst X0.here hx rfl (hb hby d2_26) k) ?_
          show OGo p e below _ (s₁.setTop (mkF m 27 #[.val (.int q1), .val (.int q2), .val (.int q3), .val (.int q4)] [(.int (0 : Int32))]))
          exact OGo.outN X0 hx (t := .boolean) Bd.returns (by simp) Bd.notSynchronized (hb hby d2_27) ⟨rfl, N0, e0⟩ (by decide) (by decide)
        · refine OGo.eqvI (show (g2_23_3 q1 q2 q3 q4) = (g2_29_2 q1 q2 q3 q4) from if_neg hc23_4) ?_
          refine OGo.st (fun t k => XS.icmpYes X0.here hx rfl (pc0 := 23) (pc' := 28) rfl (hb hby d2_23) rfl (flt hc23_4).2.1 (by decide) (by decide) k) ?_
          show OGo p e below _ (s₁.setTop (mkF m 28 #[.val (.int q1), .val (.int q2), .val (.int q3), .val (.int q4)] []))
          refine OGo.st (fun t k => XS.iloadN X0.here hx rfl (hb hby d2_28) rfl k) ?_
          show OGo p e below _ (s₁.setTop (mkF m 29 #[.val (.int q1), .val (.int q2), .val (.int q3), .val (.int q4)] [(.int q2)]))
          by_cases hc29_5 : (0 : Int32) < q2
          · refine OGo.eqvI (show (g2_29_2 q1 q2 q3 q4) = (g2_39_1 q1 q2 q3 q4) from if_pos hc29_5) ?_
            refine OGo.st (fun t k => XS.ifYes X0.here hx rfl (pc0 := 29) (pc' := 34) rfl (hb hby d2_29) rfl ((if0 _ _).trans (tlt hc29_5).2.2.1) (by decide) (by decide) k) ?_
            show OGo p e below _ (s₁.setTop (mkF m 34 #[.val (.int q1), .val (.int q2), .val (.int q3), .val (.int q4)] []))
            refine OGo.st (fun t k => XS.iloadN X0.here hx rfl (hb hby d2_34) rfl k) ?_
            show OGo p e below _ (s₁.setTop (mkF m 35 #[.val (.int q1), .val (.int q2), .val (.int q3), .val (.int q4)] [(.int q2)]))
            refine OGo.st (fun t k => X0.ldcInt hx hown (mvT hZ (hw _ (List.mem_of_getElem? (i := 9) rfl))) (g := (mkF m 35 #[.val (.int q1), .val (.int q2), .val (.int q3), .val (.int q4)] [(.int q2)])) rfl (hb hby d2_35) t k) ?_
            show OGo p e below _ (s₁.setTop (mkF m 37 #[.val (.int q1), .val (.int q2), .val (.int q3), .val (.int q4)] [(.int (1048576 : Int32)), (.int q2)]))
            refine OGo.st (fun t k => XS.iloadN X0.here hx rfl (hb hby d2_37) rfl k) ?_
            show OGo p e below _ (s₁.setTop (mkF m 38 #[.val (.int q1), .val (.int q2), .val (.int q3), .val (.int q4)] [(.int q3), (.int (1048576 : Int32)), (.int q2)]))
            refine OGo.st (fun t k => XS.idiv X0.here hx rfl (hb hby d2_38) rfl (own_nz5 hc16_3) k) ?_
            show OGo p e below _ (s₁.setTop (mkF m 39 #[.val (.int q1), .val (.int q2), .val (.int q3), .val (.int q4)] [(.int ((1048576 : Int32) / q3)), (.int q2)]))
            by_cases hc39_6 : ((1048576 : Int32) / q3) < q2
            · refine OGo.eqvI (show (g2_39_1 q1 q2 q3 q4) = (0 : Int32) from if_pos hc39_6) ?_
              refine OGo.st (fun t k => XS.icmpYes X0.here hx rfl (pc0 := 39) (pc' := 46) rfl (hb hby d2_39) rfl (tlt hc39_6).2.2.1 (by decide) (by decide) k) ?_
              show OGo p e below _ (s₁.setTop (mkF m 46 #[.val (.int q1), .val (.int q2), .val (.int q3), .val (.int q4)] []))
              refine OGo.st (fun t k => XS.iconst X0.here hx rfl (hb hby d2_46) k) ?_
              show OGo p e below _ (s₁.setTop (mkF m 47 #[.val (.int q1), .val (.int q2), .val (.int q3), .val (.int q4)] [(.int (0 : Int32))]))
              exact OGo.outN X0 hx (t := .boolean) Bd.returns (by simp) Bd.notSynchronized (hb hby d2_47) ⟨rfl, N0, e0⟩ (by decide) (by decide)
            · refine OGo.eqvI (show (g2_39_1 q1 q2 q3 q4) = (1 : Int32) from if_neg hc39_6) ?_
              refine OGo.st (fun t k => XS.icmpNo X0.here hx rfl (hb hby d2_39) rfl (flt hc39_6).2.2.1 k) ?_
              show OGo p e below _ (s₁.setTop (mkF m 42 #[.val (.int q1), .val (.int q2), .val (.int q3), .val (.int q4)] []))
              refine OGo.st (fun t k => XS.iconst X0.here hx rfl (hb hby d2_42) k) ?_
              show OGo p e below _ (s₁.setTop (mkF m 43 #[.val (.int q1), .val (.int q2), .val (.int q3), .val (.int q4)] [(.int (1 : Int32))]))
              refine OGo.st (fun t k => XS.goto X0.here hx rfl (pc0 := 43) (pc' := 47) rfl (hb hby d2_43) (by decide) (by decide) k) ?_
              show OGo p e below _ (s₁.setTop (mkF m 47 #[.val (.int q1), .val (.int q2), .val (.int q3), .val (.int q4)] [(.int (1 : Int32))]))
              exact OGo.outN X0 hx (t := .boolean) Bd.returns (by simp) Bd.notSynchronized (hb hby d2_47) ⟨rfl, N0, e0⟩ (by decide) (by decide)
          · refine OGo.eqvI (show (g2_29_2 q1 q2 q3 q4) = (1 : Int32) from if_neg hc29_5) ?_
            refine OGo.st (fun t k => XS.ifNo X0.here hx rfl (hb hby d2_29) rfl ((if0 _ _).trans (flt hc29_5).2.2.1) k) ?_
            show OGo p e below _ (s₁.setTop (mkF m 32 #[.val (.int q1), .val (.int q2), .val (.int q3), .val (.int q4)] []))
            refine OGo.st (fun t k => XS.iconst X0.here hx rfl (hb hby d2_32) k) ?_
            show OGo p e below _ (s₁.setTop (mkF m 33 #[.val (.int q1), .val (.int q2), .val (.int q3), .val (.int q4)] [(.int (1 : Int32))]))
            exact OGo.outN X0 hx (t := .boolean) Bd.returns (by simp) Bd.notSynchronized (hb hby d2_33) ⟨rfl, N0, e0⟩ (by decide) (by decide)
    · refine OGo.eqvI (show (g2_9_5 q1 q2 q3 q4) = (1 : Int32) from if_neg hc9_2) ?_
      refine OGo.st (fun t k => XS.ifNo X0.here hx rfl (hb hby d2_9) rfl ((if0 _ _).trans (feq hc9_2).1) k) ?_
      show OGo p e below _ (s₁.setTop (mkF m 12 #[.val (.int q1), .val (.int q2), .val (.int q3), .val (.int q4)] []))
      refine OGo.st (fun t k => XS.iconst X0.here hx rfl (hb hby d2_12) k) ?_
      show OGo p e below _ (s₁.setTop (mkF m 13 #[.val (.int q1), .val (.int q2), .val (.int q3), .val (.int q4)] [(.int (1 : Int32))]))
      exact OGo.outN X0 hx (t := .boolean) Bd.returns (by simp) Bd.notSynchronized (hb hby d2_13) ⟨rfl, N0, e0⟩ (by decide) (by decide)
theorem pn0 : plainName "com/example/tilewright/tilewright/kernel/BlocksTakesRegistersPinLaw" = true := by first | (simp [plainName, overriddenIn]; done) | decide +kernel
theorem pd0_0 : parseMethodDescriptor "(IIIZ)Z" = some ⟨[.int, .int, .int, .boolean], some .boolean⟩ := by decide +kernel
theorem ef0 (m : MethodId) (q1 : Int32) (q2 : Int32) (q3 : Int32) (q4 : Int32) : entryFrame m #[(.int q1), (.int q2), (.int q3), (.int q4)] maxLocals = mkF m 0 #[.val (.int q1), .val (.int q2), .val (.int q3), .val (.int q4), .unset, .unset] [] := by first | (simp [entryFrame, mkF, argsToLocals, Value.category, maxLocals]; done) | rfl
def g0_33_1 (q1 : Int32) (q2 : Int32) (q3 : Int32) (q4 : Int32) (j11_s0 : Int32) : Int32 := if (f1 q1 q2 q3 j11_s0) = (f2 q1 q2 q3 j11_s0) then (1 : Int32) else (0 : Int32)
def g0_j11 (q1 : Int32) (q2 : Int32) (q3 : Int32) (q4 : Int32) (j11_s0 : Int32) : Int32 := (g0_33_1 q1 q2 q3 q4 j11_s0)
def g0_3_2 (q1 : Int32) (q2 : Int32) (q3 : Int32) (q4 : Int32) : Int32 := if (q4 &&& (1 : Int32)) = (0 : Int32) then (g0_j11 q1 q2 q3 q4 (0 : Int32)) else (g0_j11 q1 q2 q3 q4 (1 : Int32))
def f0 (q1 : Int32) (q2 : Int32) (q3 : Int32) (q4 : Int32) : Int32 := (g0_3_2 q1 q2 q3 q4)
set_option maxRecDepth 65536 in
set_option maxHeartbeats 40000000 in
theorem rm0 (l : Launch) (Z : State) (a0 : Array Value) (hw : ∀ d ∈ tables_1, d.before a0 Z = true) (ws : List Jvm.Cond) (q1 : Int32) (q2 : Int32) (q3 : Int32) (q4 : Int32) (h0 : Heap) (n0 : Nat) (Z0 : n0 ≤ h0.size) :
    MetFree l x (head1 (Jvm.Cond.code x code maxLocals ret :: ws) room_1) (fun a U => a = #[(.int q1), (.int q2), (.int q3), (.int q4)] ∧ Z.Warmed39 U.vm ∧ U.heap = h0) (fun _ _ _ _ _ => True) (fun _ U o U' => ∃ v L, o = .returned v ∧ PI n0 h0 (f0 q1 q2 q3 q4) v U'.heap L ∧ FrameEnd U o U' L room_1.cells room_1.slots) := by
  refine MetFree.of_bodySF (plainFor_of_name pn0) hisR ?_
  intro p e s m args below meth c s₁ Bd hml0 hP hK
  obtain ⟨rfl, hZ, hh⟩ := hP
  have hx := Bd.exec
  have hby := Bd.bytes
  have hml : c.maxLocals = 6 := hml0
  have hown : s.vm.findClass "com/example/tilewright/tilewright/kernel/BlocksTakesRegistersPinLaw" = some m.cls := findClass_of_methodNamed Bd.named
  have X0 : Stand p l e room_1 s m #[(.int q1), (.int q2), (.int q3), (.int q4)] below meth c s₁ [] 0 0 := Stand.of_body Bd
  have e0 : s₁.heap = h0 := by rw [← hh, Bd.state]; rfl
  have N0 := Fr.nil n0
  show OGo p e below (Out s room_1.cells room_1.slots (PI n0 h0 (f0 q1 q2 q3 q4))) (s₁.setTop (entryFrame m #[(.int q1), (.int q2), (.int q3), (.int q4)] maxLocals))
  have J11 : ∀ (T : State) (locs : List Loc) (X : Stand p l e room_1 s m #[(.int q1), (.int q2), (.int q3), (.int q4)] below meth c T locs 0 0) (eT : T.heap = h0) (N : Fr n0 locs) (j11_s0 : Int32), OGo p e below (Out s room_1.cells room_1.slots (PI n0 h0 (g0_j11 q1 q2 q3 q4 j11_s0))) (T.setTop (mkF m 11 #[.val (.int q1), .val (.int q2), .val (.int q3), .val (.int q4), .unset, .unset] [(.int j11_s0)])) := by
    intro T locs X eT N j11_s0
    show OGo p e below (Out s room_1.cells room_1.slots (PI n0 h0 (g0_33_1 q1 q2 q3 q4 j11_s0))) (T.setTop (mkF m 11 #[.val (.int q1), .val (.int q2), .val (.int q3), .val (.int q4), .unset, .unset] [(.int j11_s0)]))
    refine OGo.st (fun t k => XS.istore X.here hx rfl (hb hby at_11) rfl (l' := #[.val (.int q1), .val (.int q2), .val (.int q3), .val (.int q4), .val (.int j11_s0), .unset]) rfl k) ?_
    show OGo p e below _ (T.setTop (mkF m 13 #[.val (.int q1), .val (.int q2), .val (.int q3), .val (.int q4), .val (.int j11_s0), .unset] []))
    refine OGo.st (fun t k => XS.iloadN X.here hx rfl (hb hby at_13) rfl k) ?_
    show OGo p e below _ (T.setTop (mkF m 14 #[.val (.int q1), .val (.int q2), .val (.int q3), .val (.int q4), .val (.int j11_s0), .unset] [(.int q1)]))
    refine OGo.st (fun t k => XS.iloadN X.here hx rfl (hb hby at_14) rfl k) ?_
    show OGo p e below _ (T.setTop (mkF m 15 #[.val (.int q1), .val (.int q2), .val (.int q3), .val (.int q4), .val (.int j11_s0), .unset] [(.int q2), (.int q1)]))
    refine OGo.st (fun t k => XS.iloadN X.here hx rfl (hb hby at_15) rfl k) ?_
    show OGo p e below _ (T.setTop (mkF m 16 #[.val (.int q1), .val (.int q2), .val (.int q3), .val (.int q4), .val (.int j11_s0), .unset] [(.int q3), (.int q2), (.int q1)]))
    refine OGo.st (fun t k => XS.iload X.here hx rfl (hb hby at_16) rfl k) ?_
    show OGo p e below _ (T.setTop (mkF m 18 #[.val (.int q1), .val (.int q2), .val (.int q3), .val (.int q4), .val (.int j11_s0), .unset] [(.int j11_s0), (.int q3), (.int q2), (.int q1)]))
    obtain ⟨_, _, ⟨T1, L1, k1, n1⟩, -, X1, ⟨Lc1, hQ1, l1, y1, z1⟩, st1⟩ := Jvm.LawKit.callS X hx (y := (⟨"com/example/tilewright/tilewright/kernel/Blocks", "takesRegisters", "(IIIZ)Z"⟩ : MethodName)) hown (mvT hZ (hw _ (List.mem_of_getElem? (i := 0) rfl))) (mvT hZ (hw _ (List.mem_of_getElem? (i := 1) rfl))) (mvT hZ (hw _ (List.mem_of_getElem? (i := 2) rfl))) (mvT hZ (hw _ (List.mem_of_getElem? (i := 3) rfl))) (by decide) (backOf (W := 0) (rm1 l Z a0 hw [] q1 q2 q3 j11_s0 h0 n0 Z0) hZ (hw _ (List.mem_of_getElem? (i := 3) rfl)) (hw _ (List.mem_of_getElem? (i := 2) rfl)) (by decide) (by decide)) (g := (mkF m 18 #[.val (.int q1), .val (.int q2), .val (.int q3), .val (.int q4), .val (.int j11_s0), .unset] [(.int j11_s0), (.int q3), (.int q2), (.int q1)])) rfl (by rw [hml]; rfl) (argsL := [(.int q1), (.int q2), (.int q3), (.int j11_s0)]) (rest := []) (lenOf pd0_0 rfl) rfl (by show 2 * 0 + _ ≤ _; exact Nat.le_of_eq rfl) (hb hby at_18) (fun _ _ => ⟨rfl, eT, (by decide : 0 + 0 ≤ _), (by decide : 0 + 0 ≤ _)⟩)
    dsimp only [Pt.U, Pt.locs, Pt.cells, Pt.slots] at X1 l1 y1 z1 st1 hQ1
    subst l1 y1 z1
    obtain ⟨rfl, Nq1, e1⟩ := hQ1
    have N1 := Fr.app N Nq1
    refine OGo.st (fun t k => st1 t k) ?_
    show OGo p e below _ (T1.setTop (mkF m 21 #[.val (.int q1), .val (.int q2), .val (.int q3), .val (.int q4), .val (.int j11_s0), .unset] [(.int (f1 q1 q2 q3 j11_s0))]))
    refine OGo.st (fun t k => XS.istore X1.here hx rfl (hb hby at_21) rfl (l' := #[.val (.int q1), .val (.int q2), .val (.int q3), .val (.int q4), .val (.int j11_s0), .val (.int (f1 q1 q2 q3 j11_s0))]) rfl k) ?_
    show OGo p e below _ (T1.setTop (mkF m 23 #[.val (.int q1), .val (.int q2), .val (.int q3), .val (.int q4), .val (.int j11_s0), .val (.int (f1 q1 q2 q3 j11_s0))] []))
    refine OGo.st (fun t k => XS.iload X1.here hx rfl (hb hby at_23) rfl k) ?_
    show OGo p e below _ (T1.setTop (mkF m 25 #[.val (.int q1), .val (.int q2), .val (.int q3), .val (.int q4), .val (.int j11_s0), .val (.int (f1 q1 q2 q3 j11_s0))] [(.int (f1 q1 q2 q3 j11_s0))]))
    refine OGo.st (fun t k => XS.iloadN X1.here hx rfl (hb hby at_25) rfl k) ?_
    show OGo p e below _ (T1.setTop (mkF m 26 #[.val (.int q1), .val (.int q2), .val (.int q3), .val (.int q4), .val (.int j11_s0), .val (.int (f1 q1 q2 q3 j11_s0))] [(.int q1), (.int (f1 q1 q2 q3 j11_s0))]))
    refine OGo.st (fun t k => XS.iloadN X1.here hx rfl (hb hby at_26) rfl k) ?_
    show OGo p e below _ (T1.setTop (mkF m 27 #[.val (.int q1), .val (.int q2), .val (.int q3), .val (.int q4), .val (.int j11_s0), .val (.int (f1 q1 q2 q3 j11_s0))] [(.int q2), (.int q1), (.int (f1 q1 q2 q3 j11_s0))]))
    refine OGo.st (fun t k => XS.iloadN X1.here hx rfl (hb hby at_27) rfl k) ?_
    show OGo p e below _ (T1.setTop (mkF m 28 #[.val (.int q1), .val (.int q2), .val (.int q3), .val (.int q4), .val (.int j11_s0), .val (.int (f1 q1 q2 q3 j11_s0))] [(.int q3), (.int q2), (.int q1), (.int (f1 q1 q2 q3 j11_s0))]))
    refine OGo.st (fun t k => XS.iload X1.here hx rfl (hb hby at_28) rfl k) ?_
    show OGo p e below _ (T1.setTop (mkF m 30 #[.val (.int q1), .val (.int q2), .val (.int q3), .val (.int q4), .val (.int j11_s0), .val (.int (f1 q1 q2 q3 j11_s0))] [(.int j11_s0), (.int q3), (.int q2), (.int q1), (.int (f1 q1 q2 q3 j11_s0))]))
    obtain ⟨_, _, ⟨T2, L2, k2, n2⟩, -, X2, ⟨Lc2, hQ2, l2, y2, z2⟩, st2⟩ := Jvm.LawKit.callS X1 hx (y := (⟨"com/example/tilewright/tilewright/kernel/BlocksTakesRegistersPinLaw", "expected", "(IIIZ)Z"⟩ : MethodName)) hown (mvT hZ (hw _ (List.mem_of_getElem? (i := 4) rfl))) (mvT hZ (hw _ (List.mem_of_getElem? (i := 5) rfl))) (mvT hZ (hw _ (List.mem_of_getElem? (i := 6) rfl))) (mvT hZ (hw _ (List.mem_of_getElem? (i := 7) rfl))) (by decide) (backOf (W := 1) (rm2 l Z a0 hw [] q1 q2 q3 j11_s0 h0 n0 Z0) hZ (hw _ (List.mem_of_getElem? (i := 7) rfl)) (hw _ (List.mem_of_getElem? (i := 6) rfl)) (by decide) (by decide)) (g := (mkF m 30 #[.val (.int q1), .val (.int q2), .val (.int q3), .val (.int q4), .val (.int j11_s0), .val (.int (f1 q1 q2 q3 j11_s0))] [(.int j11_s0), (.int q3), (.int q2), (.int q1), (.int (f1 q1 q2 q3 j11_s0))])) rfl (by rw [hml]; rfl) (argsL := [(.int q1), (.int q2), (.int q3), (.int j11_s0)]) (rest := [(.int (f1 q1 q2 q3 j11_s0))]) (lenOf pd0_0 rfl) rfl (by show 2 * 0 + _ ≤ _; exact Nat.le_of_eq rfl) (hb hby at_30) (fun _ _ => ⟨rfl, e1, (by decide : 0 + 0 ≤ _), (by decide : 0 + 0 ≤ _)⟩)
    dsimp only [Pt.U, Pt.locs, Pt.cells, Pt.slots] at X2 l2 y2 z2 st2 hQ2
    subst l2 y2 z2
    obtain ⟨rfl, Nq2, e2⟩ := hQ2
    have N2 := Fr.app N1 Nq2
    refine OGo.st (fun t k => st2 t k) ?_
    show OGo p e below _ (T2.setTop (mkF m 33 #[.val (.int q1), .val (.int q2), .val (.int q3), .val (.int q4), .val (.int j11_s0), .val (.int (f1 q1 q2 q3 j11_s0))] [(.int (f2 q1 q2 q3 j11_s0)), (.int (f1 q1 q2 q3 j11_s0))]))
    by_cases hc33_3 : (f1 q1 q2 q3 j11_s0) = (f2 q1 q2 q3 j11_s0)
    · refine OGo.eqvI (show (g0_33_1 q1 q2 q3 q4 j11_s0) = (1 : Int32) from if_pos hc33_3) ?_
      refine OGo.st (fun t k => XS.icmpNo X2.here hx rfl (hb hby at_33) rfl (teq hc33_3).2 k) ?_
      show OGo p e below _ (T2.setTop (mkF m 36 #[.val (.int q1), .val (.int q2), .val (.int q3), .val (.int q4), .val (.int j11_s0), .val (.int (f1 q1 q2 q3 j11_s0))] []))
      refine OGo.st (fun t k => XS.iconst X2.here hx rfl (hb hby at_36) k) ?_
      show OGo p e below _ (T2.setTop (mkF m 37 #[.val (.int q1), .val (.int q2), .val (.int q3), .val (.int q4), .val (.int j11_s0), .val (.int (f1 q1 q2 q3 j11_s0))] [(.int (1 : Int32))]))
      refine OGo.st (fun t k => XS.goto X2.here hx rfl (pc0 := 37) (pc' := 41) rfl (hb hby at_37) (by decide) (by decide) k) ?_
      show OGo p e below _ (T2.setTop (mkF m 41 #[.val (.int q1), .val (.int q2), .val (.int q3), .val (.int q4), .val (.int j11_s0), .val (.int (f1 q1 q2 q3 j11_s0))] [(.int (1 : Int32))]))
      exact OGo.outN X2 hx (t := .boolean) Bd.returns (by simp) Bd.notSynchronized (hb hby at_41) ⟨rfl, N2, e2⟩ (by decide) (by decide)
    · refine OGo.eqvI (show (g0_33_1 q1 q2 q3 q4 j11_s0) = (0 : Int32) from if_neg hc33_3) ?_
      refine OGo.st (fun t k => XS.icmpYes X2.here hx rfl (pc0 := 33) (pc' := 40) rfl (hb hby at_33) rfl (feq hc33_3).2 (by decide) (by decide) k) ?_
      show OGo p e below _ (T2.setTop (mkF m 40 #[.val (.int q1), .val (.int q2), .val (.int q3), .val (.int q4), .val (.int j11_s0), .val (.int (f1 q1 q2 q3 j11_s0))] []))
      refine OGo.st (fun t k => XS.iconst X2.here hx rfl (hb hby at_40) k) ?_
      show OGo p e below _ (T2.setTop (mkF m 41 #[.val (.int q1), .val (.int q2), .val (.int q3), .val (.int q4), .val (.int j11_s0), .val (.int (f1 q1 q2 q3 j11_s0))] [(.int (0 : Int32))]))
      exact OGo.outN X2 hx (t := .boolean) Bd.returns (by simp) Bd.notSynchronized (hb hby at_41) ⟨rfl, N2, e2⟩ (by decide) (by decide)
  refine OGo.st (fun t k => castTop (ef0 m q1 q2 q3 q4) k) ?_
  show OGo p e below (Out s room_1.cells room_1.slots (PI n0 h0 (g0_3_2 q1 q2 q3 q4))) (s₁.setTop (mkF m 0 #[.val (.int q1), .val (.int q2), .val (.int q3), .val (.int q4), .unset, .unset] []))
  refine OGo.st (fun t k => XS.iloadN X0.here hx rfl (hb hby at_0) rfl k) ?_
  show OGo p e below _ (s₁.setTop (mkF m 1 #[.val (.int q1), .val (.int q2), .val (.int q3), .val (.int q4), .unset, .unset] [(.int q4)]))
  refine OGo.st (fun t k => XS.iconst X0.here hx rfl (hb hby at_1) k) ?_
  show OGo p e below _ (s₁.setTop (mkF m 2 #[.val (.int q1), .val (.int q2), .val (.int q3), .val (.int q4), .unset, .unset] [(.int (1 : Int32)), (.int q4)]))
  refine OGo.st (fun t k => XS.iand X0.here hx rfl (hb hby at_2) rfl k) ?_
  show OGo p e below _ (s₁.setTop (mkF m 3 #[.val (.int q1), .val (.int q2), .val (.int q3), .val (.int q4), .unset, .unset] [(.int (q4 &&& (1 : Int32)))]))
  by_cases hc3_4 : (q4 &&& (1 : Int32)) = (0 : Int32)
  · refine OGo.eqvI (show (g0_3_2 q1 q2 q3 q4) = (g0_j11 q1 q2 q3 q4 (0 : Int32)) from if_pos hc3_4) ?_
    refine OGo.st (fun t k => XS.ifYes X0.here hx rfl (pc0 := 3) (pc' := 10) rfl (hb hby at_3) rfl ((if0 _ _).trans (teq hc3_4).1) (by decide) (by decide) k) ?_
    show OGo p e below _ (s₁.setTop (mkF m 10 #[.val (.int q1), .val (.int q2), .val (.int q3), .val (.int q4), .unset, .unset] []))
    refine OGo.st (fun t k => XS.iconst X0.here hx rfl (hb hby at_10) k) ?_
    show OGo p e below _ (s₁.setTop (mkF m 11 #[.val (.int q1), .val (.int q2), .val (.int q3), .val (.int q4), .unset, .unset] [(.int (0 : Int32))]))
    exact J11 s₁ _ X0 e0 N0 (0 : Int32)
  · refine OGo.eqvI (show (g0_3_2 q1 q2 q3 q4) = (g0_j11 q1 q2 q3 q4 (1 : Int32)) from if_neg hc3_4) ?_
    refine OGo.st (fun t k => XS.ifNo X0.here hx rfl (hb hby at_3) rfl ((if0 _ _).trans (feq hc3_4).1) k) ?_
    show OGo p e below _ (s₁.setTop (mkF m 6 #[.val (.int q1), .val (.int q2), .val (.int q3), .val (.int q4), .unset, .unset] []))
    refine OGo.st (fun t k => XS.iconst X0.here hx rfl (hb hby at_6) k) ?_
    show OGo p e below _ (s₁.setTop (mkF m 7 #[.val (.int q1), .val (.int q2), .val (.int q3), .val (.int q4), .unset, .unset] [(.int (1 : Int32))]))
    refine OGo.st (fun t k => XS.goto X0.here hx rfl (pc0 := 7) (pc' := 11) rfl (hb hby at_7) (by decide) (by decide) k) ?_
    show OGo p e below _ (s₁.setTop (mkF m 11 #[.val (.int q1), .val (.int q2), .val (.int q3), .val (.int q4), .unset, .unset] [(.int (1 : Int32))]))
    exact J11 s₁ _ X0 e0 N0 (1 : Int32)
theorem own_lcmpW (x y : Int64) : lcmpW x y = if x > y then 1 else if x = y then 0 else -1 := rfl
theorem own_lcmp (x y : Int64) : ((0 : Int32) < lcmpW x y) ↔ y < x := by
  rw [own_lcmpW]
  by_cases h1 : x > y
  · rw [if_pos h1]; exact ⟨fun _ => h1, fun _ => by decide⟩
  · rw [if_neg h1]
    by_cases h2 : x = y
    · rw [if_pos h2]; exact ⟨fun q => absurd q (by decide), fun q => absurd q h1⟩
    · rw [if_neg h2]; exact ⟨fun q => absurd q (by decide), fun q => absurd q h1⟩
theorem own_mul (a b : Int32) : (a.toInt64 * b.toInt64).toInt = a.toInt * b.toInt := by
  have h1 := Int32.le_toInt a
  have h2 := Int32.toInt_lt a
  have h3 := Int32.le_toInt b
  have h4 := Int32.toInt_lt b
  rw [Int64.toInt_mul, Int32.toInt_toInt64, Int32.toInt_toInt64]
  have k1 : a.toInt * b.toInt ≤ 2 ^ 31 * 2 ^ 31 := by
    rcases Int.le_total 0 b.toInt with q | q
    · exact Int.le_trans (Int.mul_le_mul_of_nonneg_right (by omega : a.toInt ≤ 2 ^ 31) q) (Int.mul_le_mul_of_nonneg_left (by omega) (by omega))
    · have := Int.mul_le_mul_of_nonpos_right (by omega : -(2 ^ 31 : Int) ≤ a.toInt) q
      have k : -(2 ^ 31 : Int) * b.toInt ≤ 2 ^ 31 * 2 ^ 31 := by omega
      omega
  have k2 : -(2 ^ 31 * 2 ^ 31) ≤ a.toInt * b.toInt := by
    rcases Int.le_total 0 b.toInt with q | q
    · have := Int.mul_le_mul_of_nonneg_right (by omega : -(2 ^ 31 : Int) ≤ a.toInt) q
      have k : -(2 ^ 31 * 2 ^ 31) ≤ -(2 ^ 31 : Int) * b.toInt := by omega
      omega
    · have := Int.mul_le_mul_of_nonpos_right (by omega : a.toInt ≤ 2 ^ 31) q
      have k : -(2 ^ 31 * 2 ^ 31) ≤ (2 ^ 31 : Int) * b.toInt := by omega
      omega
  exact Int.bmod_eq_of_le (by omega) (by omega)
theorem own_div (b : Int32) (h5 : 5 ≤ b.toInt) (h15 : b.toInt ≤ 15) : ((1048576 : Int32) / b).toInt = 1048576 / b.toInt := by
  rw [Int32.toInt_div, show (1048576 : Int32).toInt = 1048576 from by decide, Int.tdiv_eq_ediv_of_nonneg (by decide)]
  refine Int.bmod_eq_of_le ?_ ?_
  · have : 0 ≤ 1048576 / b.toInt := Int.ediv_nonneg (by decide) (by omega)
    omega
  · have : 1048576 / b.toInt ≤ 1048576 := Int.ediv_le_self _ (by decide)
    omega
theorem own_key (a b : Int32) (h5 : ¬ b < 5) (h15 : ¬ (15 : Int32) < b) : ((1048576 : Int32) / b < a) ↔ ((1048576 : Int64) < a.toInt64 * b.toInt64) := by
  simp only [Int32.lt_iff_toInt_lt, Int32.reduceToInt] at h5 h15
  rw [Int32.lt_iff_toInt_lt, Int64.lt_iff_toInt_lt, own_mul, own_div b (by omega) (by omega)]
  show _ ↔ 1048576 < _
  have hb : b.toInt = 5 ∨ b.toInt = 6 ∨ b.toInt = 7 ∨ b.toInt = 8 ∨ b.toInt = 9 ∨ b.toInt = 10 ∨ b.toInt = 11 ∨ b.toInt = 12 ∨ b.toInt = 13 ∨ b.toInt = 14 ∨ b.toInt = 15 := by omega
  rcases hb with h | h | h | h | h | h | h | h | h | h | h <;> rw [h] <;> omega
theorem own_same (q1 q2 q3 q4 : Int32) : f1 q1 q2 q3 q4 = f2 q1 q2 q3 q4 := by
  by_cases h15 : (15 : Int32) < q3
  · have h16 : ¬ q3 < 16 := by simp only [Int32.lt_iff_toInt_lt, Int32.reduceToInt] at h15 ⊢; omega
    simp only [f1, f2, g1_31_1, g1_19_2, g1_14_3, g1_9_4, g1_3_5, g2_39_1, g2_29_2, g2_23_3, g2_16_4, g2_9_5, g2_3_6, h15, h16, if_true, if_false, reduceIte]
  · have h16 : q3 < 16 := by simp only [Int32.lt_iff_toInt_lt, Int32.reduceToInt] at h15 ⊢; omega
    by_cases h4 : q4 = 0
    · by_cases h5 : q3 < 5
      · have h5' : ¬ (4 : Int32) < q3 := by simp only [Int32.lt_iff_toInt_lt, Int32.reduceToInt] at h5 ⊢; omega
        simp only [f1, f2, g1_31_1, g1_19_2, g1_14_3, g1_9_4, g1_3_5, g2_39_1, g2_29_2, g2_23_3, g2_16_4, g2_9_5, g2_3_6, h15, h16, h4, h5, h5', if_true, if_false, reduceIte]
      · have h5' : (4 : Int32) < q3 := by simp only [Int32.lt_iff_toInt_lt, Int32.reduceToInt] at h5 ⊢; omega
        by_cases hr : q1 < 4
        · simp only [f1, f2, g1_31_1, g1_19_2, g1_14_3, g1_9_4, g1_3_5, g2_39_1, g2_29_2, g2_23_3, g2_16_4, g2_9_5, g2_3_6, h15, h16, h4, h5, h5', hr, if_true, if_false, reduceIte]
        · by_cases hi : (0 : Int32) < q2
          · by_cases hk : (1048576 : Int32) / q3 < q2
            · have hk' := (own_lcmp _ _).mpr ((own_key q2 q3 h5 h15).mp hk)
              simp only [f1, f2, g1_31_1, g1_19_2, g1_14_3, g1_9_4, g1_3_5, g2_39_1, g2_29_2, g2_23_3, g2_16_4, g2_9_5, g2_3_6, h15, h16, h4, h5, h5', hr, hi, hk, hk', if_true, if_false, reduceIte]
            · have hk' : ¬ (0 : Int32) < lcmpW (q2.toInt64 * q3.toInt64) 1048576 := fun q => hk ((own_key q2 q3 h5 h15).mpr ((own_lcmp _ _).mp q))
              simp only [f1, f2, g1_31_1, g1_19_2, g1_14_3, g1_9_4, g1_3_5, g2_39_1, g2_29_2, g2_23_3, g2_16_4, g2_9_5, g2_3_6, h15, h16, h4, h5, h5', hr, hi, hk, hk', if_true, if_false, reduceIte]
          · have hk' : ¬ (0 : Int32) < lcmpW (q2.toInt64 * q3.toInt64) 1048576 := fun q => by
              have q := (own_lcmp _ _).mp q
              rw [Int64.lt_iff_toInt_lt, own_mul] at q
              simp only [Int32.lt_iff_toInt_lt, Int32.reduceToInt] at hi h5
              have := Int.mul_le_mul_of_nonneg_right (by omega : q2.toInt ≤ 0) (by omega : 0 ≤ q3.toInt)
              have k : (1048576 : Int64).toInt = 1048576 := by decide
              rw [k] at q
              omega
            simp only [f1, f2, g1_31_1, g1_19_2, g1_14_3, g1_9_4, g1_3_5, g2_39_1, g2_29_2, g2_23_3, g2_16_4, g2_9_5, g2_3_6, h15, h16, h4, h5, h5', hr, hi, hk', if_true, if_false, reduceIte]
    · simp only [f1, f2, g1_31_1, g1_19_2, g1_14_3, g1_9_4, g1_3_5, g2_39_1, g2_29_2, g2_23_3, g2_16_4, g2_9_5, g2_3_6, h15, h16, h4, if_true, if_false, reduceIte]
theorem law_eq (q1 q2 q3 q4 : Int32) : f0 q1 q2 q3 q4 = 1 := by
  simp only [f0, g0_33_1, g0_j11, g0_3_2, own_same, if_true, reduceIte, ite_self]
set_option maxRecDepth 65536 in
set_option maxHeartbeats 40000000 in
theorem comes_1 {Post : Tables → Env → Array Value → State → Outcome → State → Prop} (hpost : ∀ tb e args s v u, (limb_1_1.after args s (.returned v) u = true ∧ limb_1_2.after args s (.returned v) u = true ∧ True) → FrameEnd s (.returned v) u (Jvm.fieldLocs frame_1_writes args s ++ Jvm.arrayLocs frame_1_arrays args s ++ Jvm.staticLocs frame_1_statics s) 0 0 → Post tb e args s (.returned v) u) :
    ArmFor flags0 classFile x code maxLocals ret World_1 tables_1 room_1 Calls_1 rest_1 Pre_1 Post := by
  intro l hfl _ _ p e ha hc hk s m args below hf hA hF happ hP
  obtain ⟨hcalls, hrest, hpre⟩ := hP
  obtain ⟨-, -, -, hnamed, -, -, -, hat⟩ := (Spec.applies_iff hf).mp happ
  obtain ⟨hg, hn⟩ := and_e (Cond.before_iff.mp (show (Jvm.Cond.and given_1 narrow_1).before args s = true from hpre))
  obtain ⟨gg1, gg2⟩ := and_e hg
  obtain ⟨gg3, gg4⟩ := and_e gg2
  obtain ⟨gg5, gg6⟩ := and_e gg4
  obtain ⟨gg7, gg8⟩ := and_e gg6
  obtain ⟨w0, w1, w2, w3, rfl⟩ : ∃ w0 w1 w2 w3 : Value, args = #[w0, w1, w2, w3] := by
    have hs : args.size = 4 := by simpa [Cond.value, given_1] using gg1
    obtain ⟨L⟩ := args
    match L, hs with
    | [w0, w1, w2, w3], _ => exact ⟨w0, w1, w2, w3, rfl⟩
  have hw := fun d (hd : d ∈ tables_1) => atoms_spec (ws := Jvm.Cond.code x code maxLocals ret :: tables_1) hat d (List.mem_cons_of_mem _ hd)
  obtain ⟨i0, ei0⟩ := is_v gg3
  obtain rfl : w0 = (.int i0) := Option.some.inj ei0
  obtain ⟨i1, ei1⟩ := is_v gg5
  obtain rfl : w1 = (.int i1) := Option.some.inj ei1
  obtain ⟨i2, ei2⟩ := is_v gg7
  obtain rfl : w2 = (.int i2) := Option.some.inj ei2
  obtain ⟨i3, ei3⟩ := is_v gg8
  obtain rfl : w3 = (.int i3) := Option.some.inj ei3
  obtain ⟨n, o, h1, h2, h3, _, L, rfl, ⟨hv, N, -⟩, hq⟩ := rm0 l s _ hw tables_1 i0 i1 i2 i3 s.heap s.heap.size (Nat.le_refl _) p e ha hc hk s m _ below hf ((Spec.applies_iff_loose hf).mp happ).1 ⟨rfl, State.Warmed39.refl s, rfl⟩ trivial
  rw [law_eq] at hv
  subst hv
  refine ⟨n, _, h1, h2, h3, hpost _ _ _ _ _ _ ⟨Cond.after_iff.mpr rfl, Cond.after_iff.mpr (eq_i res_at (Term.int_eval (1)) rfl), trivial⟩ ⟨hq.1, hq.2.1, (hq.2.2.sift fun y hy => Or.inr (N y hy)).mono (by decide) (by decide)⟩⟩
theorem main_1_1 : Claimed_1_1 := comes_1 fun _ _ _ _ _ _ h hF => ⟨h.1, hF⟩
theorem main_1_2 : Claimed_1_2 := comes_1 fun _ _ _ _ _ _ h hF => ⟨h.2.1, hF⟩
end Jvm.Pilot.@@N@@
namespace Jvm.Pilot.@@N@@
open Jvm Jvm.ClassFile Sem Op Lib Jvm.Free Jvm.Stand Jvm.Pilot.@@N@@.Jvm.D
/-! MADE BY PROGRAM (witnessworld.py) out of the Statement's table words and the real class files: 9 classes; the members and pool entries that the words name. The judged class is class 1, her method 1. -/
namespace start1
open Jvm.ClassFile
def u (s : String) : CpInfo := .utf8 (stringToUtf16 s)
/-- a pool by its gaps: so many unusable entries, then the entry; so many at the end -/
def gap : Nat → List CpInfo → List CpInfo
  | 0, r => r
  | n + 1, r => .unusable :: gap n r
def poolList (es : List (Nat × CpInfo)) (last : Nat) : List CpInfo := es.foldr (fun e r => gap e.1 (e.2 :: r)) (gap last [])
def pool (es : List (Nat × CpInfo)) (last : Nat) : Array CpInfo := ⟨poolList es last⟩
def fileOf (pool : Array CpInfo) (this : Nat) (attrs : Array Attribute := #[]) (ms : Array MethodInfo := #[]) (fl : Nat := 33) (sup : Nat := 0) (ifs : Array Nat := #[]) (fds : Array FieldInfo := #[]) : ClassFile where
  minorVersion := 0
  majorVersion := 65
  constantPool := pool
  accessFlags := fl
  thisClass := this
  superClass := sup
  interfaces := ifs
  fields := fds
  methods := ms
  attributes := attrs
def plain (name : String) (sup : Option ClassId) : Class where
  name := name
  kind := .ordinary
  loader := none
  accessFlags := 33
  super := sup
  interfaces := #[]
  cf := none
  fields := #[]
  methods := #[]
  instanceTypes := #[]
  staticTypes := #[]
  resolved := #[]
  callSites := []
  init := .initialized
  statics := none
  mirror := none

def pool0 : Array CpInfo := pool [(5, u "<init>"), (0, u "()V"), (1, .class_ 10), (1, u "java/lang/Object")] 113

def k0m0 : Method := { name := "<init>", desc := "()V", sig := { parameters := [], returnType := none }, accessFlags := 1, code := none }
/-- java/lang/Object -/
def k0 : Class := { plain "java/lang/Object" none with
  accessFlags := 33
  interfaces := #[]
  cf := some (fileOf pool0 8 #[] #[{ accessFlags := 1, nameIndex := 5, descriptorIndex := 6, attributes := #[] }] 33 0 #[] #[])
  fields := #[]
  methods := #[k0m0]
  instanceTypes := #[]
  staticTypes := #[]
  resolved := Array.replicate 124 none
  statics := none }

def pool1 : Array CpInfo := pool [(2, .class_ 4), (1, u "java/lang/Object"), (0, u "<init>"), (0, u "()V"), (0, .methodref 8 9), (0, .class_ 10), (0, .nameAndType 11 12), (0, u "com/example/tilewright/tilewright/kernel/Blocks"), (0, u "takesRegisters"), (0, u "(IIIZ)Z"), (0, .methodref 14 15), (0, .class_ 16), (0, .nameAndType 17 12), (0, u "com/example/tilewright/tilewright/kernel/BlocksTakesRegistersPinLaw"), (0, u "expected"), (0, .integer 1048576), (2, u "law"), (0, u "(IIII)Z")] 3

def k1m0 : Method := { name := "<init>", desc := "()V", sig := { parameters := [], returnType := none }, accessFlags := 2, code := none }
def k1c1 : Code := { maxStack := 5, maxLocals := 6, code := code, exceptionTable := #[], attributes := #[] }
def k1m1 : Method := { name := "law", desc := "(IIII)Z", sig := { parameters := [.int, .int, .int, .int], returnType := some .boolean }, accessFlags := 9, code := some k1c1 }
def k1c2 : Code := { maxStack := 3, maxLocals := 4, code := method_3_code, exceptionTable := #[], attributes := #[] }
def k1m2 : Method := { name := "expected", desc := "(IIIZ)Z", sig := { parameters := [.int, .int, .int, .boolean], returnType := some .boolean }, accessFlags := 10, code := some k1c2 }
/-- com/example/tilewright/tilewright/kernel/BlocksTakesRegistersPinLaw -/
def k1 : Class := { plain "com/example/tilewright/tilewright/kernel/BlocksTakesRegistersPinLaw" (some 0) with
  accessFlags := 49
  interfaces := #[]
  cf := some (fileOf pool1 14 #[] #[{ accessFlags := 2, nameIndex := 5, descriptorIndex := 6, attributes := #[] }, { accessFlags := 9, nameIndex := 21, descriptorIndex := 22, attributes := #[] }, { accessFlags := 10, nameIndex := 17, descriptorIndex := 12, attributes := #[] }] 49 2 #[] #[])
  fields := #[]
  methods := #[k1m0, k1m1, k1m2]
  instanceTypes := #[]
  staticTypes := #[]
  resolved := Array.replicate 26 none
  statics := none }

def pool2 : Array CpInfo := pool [(2, .class_ 4), (1, u "java/lang/Object"), (0, u "<init>"), (0, u "()V"), (1, .class_ 10), (1, u "com/example/tilewright/tilewright/kernel/Blocks"), (6, .long 1048576), (3, u "takesRegisters"), (0, u "(IIIZ)Z"), (4, u "REGISTER_TILE_SIDE"), (0, u "I"), (2, u "SMALL_SQUARES_MIN_SIDE"), (1, u "SMALL_SQUARES_MAX_SIDE"), (1, u "SMALL_SQUARES_MAX_INTO_SIDE"), (1, u "FLOAT_SMALL_SQUARES_MAX_SIDE"), (1, u "SMALL_B_MIN_SIDE"), (0, u "SMALL_B_MAX_SIDE"), (0, u "SMALL_PANEL_MAX_B_ENTRIES"), (1, u "SMALL_PANEL_MAX_COLUMNS"), (1, u "MIN_PANEL_COLUMNS_OVER_REGISTERS"), (1, u "MAX_REGISTER_B_ENTRIES"), (1, u "MIN_PANEL_TRANSPOSED_B_ROWS"), (1, u "MIN_PANEL_TRANSPOSED_B_COLUMNS"), (1, u "MIN_PANEL_WINDOW_COLUMNS"), (1, u "MIN_PANEL_WINDOW_ROWS"), (1, u "MIN_PANEL_FEW_ROWS_WINDOW_COLUMNS"), (0, u "MIN_PANEL_TRANSPOSED_B_WINDOW_ROWS"), (0, u "MIN_PANEL_TRANSPOSED_B_WINDOW_COLUMNS"), (1, u "MOST_TERMS_OF_GENERAL_GRAM"), (0, u "MOST_WINDOW_GRAM_REGISTER_COLUMNS"), (1, u "MOST_ROW_GRAM_REGISTER_COLUMNS")] 28

def k2m0 : Method := { name := "<init>", desc := "()V", sig := { parameters := [], returnType := none }, accessFlags := 2, code := none }
def k2c1 : Code := { maxStack := 4, maxLocals := 4, code := prog_6_method_13_code, exceptionTable := #[], attributes := #[] }
def k2m1 : Method := { name := "takesRegisters", desc := "(IIIZ)Z", sig := { parameters := [.int, .int, .int, .boolean], returnType := some .boolean }, accessFlags := 9, code := some k2c1 }
/-- com/example/tilewright/tilewright/kernel/Blocks -/
def k2 : Class := { plain "com/example/tilewright/tilewright/kernel/Blocks" (some 0) with
  accessFlags := 49
  interfaces := #[]
  cf := some (fileOf pool2 8 #[] #[{ accessFlags := 2, nameIndex := 5, descriptorIndex := 6, attributes := #[] }, { accessFlags := 9, nameIndex := 21, descriptorIndex := 22, attributes := #[] }] 49 2 #[] #[{ accessFlags := 24, nameIndex := 27, descriptorIndex := 28, attributes := #[] }, { accessFlags := 24, nameIndex := 31, descriptorIndex := 28, attributes := #[] }, { accessFlags := 24, nameIndex := 33, descriptorIndex := 28, attributes := #[] }, { accessFlags := 24, nameIndex := 35, descriptorIndex := 28, attributes := #[] }, { accessFlags := 24, nameIndex := 37, descriptorIndex := 28, attributes := #[] }, { accessFlags := 24, nameIndex := 39, descriptorIndex := 28, attributes := #[] }, { accessFlags := 24, nameIndex := 40, descriptorIndex := 28, attributes := #[] }, { accessFlags := 24, nameIndex := 41, descriptorIndex := 28, attributes := #[] }, { accessFlags := 24, nameIndex := 43, descriptorIndex := 28, attributes := #[] }, { accessFlags := 26, nameIndex := 45, descriptorIndex := 28, attributes := #[] }, { accessFlags := 26, nameIndex := 47, descriptorIndex := 28, attributes := #[] }, { accessFlags := 26, nameIndex := 49, descriptorIndex := 28, attributes := #[] }, { accessFlags := 26, nameIndex := 51, descriptorIndex := 28, attributes := #[] }, { accessFlags := 26, nameIndex := 53, descriptorIndex := 28, attributes := #[] }, { accessFlags := 26, nameIndex := 55, descriptorIndex := 28, attributes := #[] }, { accessFlags := 26, nameIndex := 57, descriptorIndex := 28, attributes := #[] }, { accessFlags := 26, nameIndex := 58, descriptorIndex := 28, attributes := #[] }, { accessFlags := 26, nameIndex := 59, descriptorIndex := 28, attributes := #[] }, { accessFlags := 26, nameIndex := 61, descriptorIndex := 28, attributes := #[] }, { accessFlags := 26, nameIndex := 62, descriptorIndex := 28, attributes := #[] }, { accessFlags := 26, nameIndex := 64, descriptorIndex := 28, attributes := #[] }])
  fields := #[{ name := "REGISTER_TILE_SIDE", type := .int, accessFlags := 24, slot := 0, constantValue := 0 }, { name := "SMALL_SQUARES_MIN_SIDE", type := .int, accessFlags := 24, slot := 1, constantValue := 0 }, { name := "SMALL_SQUARES_MAX_SIDE", type := .int, accessFlags := 24, slot := 2, constantValue := 0 }, { name := "SMALL_SQUARES_MAX_INTO_SIDE", type := .int, accessFlags := 24, slot := 3, constantValue := 0 }, { name := "FLOAT_SMALL_SQUARES_MAX_SIDE", type := .int, accessFlags := 24, slot := 4, constantValue := 0 }, { name := "SMALL_B_MIN_SIDE", type := .int, accessFlags := 24, slot := 5, constantValue := 0 }, { name := "SMALL_B_MAX_SIDE", type := .int, accessFlags := 24, slot := 6, constantValue := 0 }, { name := "SMALL_PANEL_MAX_B_ENTRIES", type := .int, accessFlags := 24, slot := 7, constantValue := 0 }, { name := "SMALL_PANEL_MAX_COLUMNS", type := .int, accessFlags := 24, slot := 8, constantValue := 0 }, { name := "MIN_PANEL_COLUMNS_OVER_REGISTERS", type := .int, accessFlags := 26, slot := 9, constantValue := 0 }, { name := "MAX_REGISTER_B_ENTRIES", type := .int, accessFlags := 26, slot := 10, constantValue := 0 }, { name := "MIN_PANEL_TRANSPOSED_B_ROWS", type := .int, accessFlags := 26, slot := 11, constantValue := 0 }, { name := "MIN_PANEL_TRANSPOSED_B_COLUMNS", type := .int, accessFlags := 26, slot := 12, constantValue := 0 }, { name := "MIN_PANEL_WINDOW_COLUMNS", type := .int, accessFlags := 26, slot := 13, constantValue := 0 }, { name := "MIN_PANEL_WINDOW_ROWS", type := .int, accessFlags := 26, slot := 14, constantValue := 0 }, { name := "MIN_PANEL_FEW_ROWS_WINDOW_COLUMNS", type := .int, accessFlags := 26, slot := 15, constantValue := 0 }, { name := "MIN_PANEL_TRANSPOSED_B_WINDOW_ROWS", type := .int, accessFlags := 26, slot := 16, constantValue := 0 }, { name := "MIN_PANEL_TRANSPOSED_B_WINDOW_COLUMNS", type := .int, accessFlags := 26, slot := 17, constantValue := 0 }, { name := "MOST_TERMS_OF_GENERAL_GRAM", type := .int, accessFlags := 26, slot := 18, constantValue := 0 }, { name := "MOST_WINDOW_GRAM_REGISTER_COLUMNS", type := .int, accessFlags := 26, slot := 19, constantValue := 0 }, { name := "MOST_ROW_GRAM_REGISTER_COLUMNS", type := .int, accessFlags := 26, slot := 20, constantValue := 0 }]
  methods := #[k2m0, k2m1]
  instanceTypes := #[]
  staticTypes := #[.int, .int, .int, .int, .int, .int, .int, .int, .int, .int, .int, .int, .int, .int, .int, .int, .int, .int, .int, .int, .int]
  resolved := Array.replicate 93 none
  statics := none }

def pool3 : Array CpInfo := pool [(1, u "java/lang/Cloneable"), (0, .class_ 1), (0, u "java/lang/Object"), (0, .class_ 3)] 3

/-- java/lang/Cloneable -/
def k3 : Class := { plain "java/lang/Cloneable" (some 0) with
  accessFlags := 1537
  interfaces := #[]
  cf := some (fileOf pool3 2 #[] #[] 1537 4 #[] #[])
  fields := #[]
  methods := #[]
  instanceTypes := #[]
  staticTypes := #[]
  resolved := Array.replicate 8 none
  statics := none }

def pool4 : Array CpInfo := pool [(1, u "java/io/Serializable"), (0, .class_ 1), (0, u "java/lang/Object"), (0, .class_ 3)] 3

/-- java/io/Serializable -/
def k4 : Class := { plain "java/io/Serializable" (some 0) with
  accessFlags := 1537
  interfaces := #[]
  cf := some (fileOf pool4 2 #[] #[] 1537 4 #[] #[])
  fields := #[]
  methods := #[]
  instanceTypes := #[]
  staticTypes := #[]
  resolved := Array.replicate 8 none
  statics := none }

/-- the primitive byte -/
def k5 : Class := { plain "byte" none with kind := .primitive 'B', accessFlags := 0x411 }
/-- [B -/
def k6 : Class := { plain "[B" (some 0) with kind := .array 5 .byte, interfaces := #[3, 4], accessFlags := 1041 }

/-- the primitive int -/
def k7 : Class := { plain "int" none with kind := .primitive 'I', accessFlags := 0x411 }
/-- [I -/
def k8 : Class := { plain "[I" (some 0) with kind := .array 7 .int, interfaces := #[3, 4], accessFlags := 1041 }

def heap : Heap := #[]
def classes : Array Class := #[k0, k1, k2, k3, k4, k5, k6, k7, k8]
def interned : List (Array UInt16 × Addr) := []
def slotsUsed : Nat := 0
def theMethod : MethodId := ⟨1, 1⟩
def args0 : Array Value := #[.int 5, .int 300, .int 7, .int 3]
def aboutOver (below : List Frame) : State where
  vm := { classes := classes, interned := interned.toArray }
  heap := heap
  slotsUsed := slotsUsed
  threads := #[{ frames := .invoking theMethod args0 :: below }]
def below0 : List Frame := [.native { method := ⟨0, 0⟩, args := #[] }]
def about1 : State := aboutOver below0
def p0 : Program := .bare "" "" ""
def e0 : Env := launch0.env 0 0 0
theorem w_frames : about1.frames = Frame.invoking theMethod args0 :: below0 := rfl
set_option maxRecDepth 65536 in
theorem w_args : argsFit about1.vm theMethod args0 = true := by decide +kernel
set_option maxRecDepth 65536 in
theorem w_heap : heapFits about1 = true := by decide +kernel
set_option maxRecDepth 65536 in
theorem w_runnable : about1.curStatus? = some .runnable := by decide +kernel
set_option maxRecDepth 65536 in
theorem w_alone : about1.alone = true := by decide +kernel
set_option maxRecDepth 65536 in
theorem w_named : about1.methodNamed? x = some theMethod := by decide +kernel
set_option maxRecDepth 65536 in
theorem w_hears : about1.hears theMethod below0 = true := by decide +kernel
set_option maxRecDepth 65536 in
theorem w_ripe : about1.ripe theMethod args0 below0 = true := by decide +kernel
theorem w_running : about1.status = .running := rfl
set_option maxRecDepth 65536 in
theorem w_room : about1.hasRoom e0.platform room_1 = true :=
  launch0.hasRoom_least _ room_1 (by decide +kernel) (by decide +kernel) (by decide +kernel) (by decide +kernel) (by decide +kernel) (by decide +kernel)
theorem allAtoms_all (ts : List Jvm.Cond) (a : Array Jvm.Value) (st : Jvm.State) : (allAtoms ts).before a st = ts.all (fun c => c.before a st) := by
  induction ts with
  | nil => rfl
  | cons c t ih =>
    show (Jvm.Cond.and c (allAtoms t)).before a st = _
    rw [Jvm.Cond.before_and, ih, List.all_cons]
def words1 : List Jvm.Cond := Jvm.Cond.code x code maxLocals ret :: tables_1
/-- a 'code' word, met by the world's own term for the bytes: nothing is compared byte by byte -/
theorem code_word {y : MethodName} {bytes : ByteArray} {mx : Nat} {rt : Option FieldType} {a : Array Value} {s : State} {m : MethodId} {meth : Method} {c : Code} (h1 : s.methodNamed? y = some m) (h2 : s.vm.method? m = some meth) (h3 : meth.code = some c) (h4 : c.code = bytes)
    (h5 : (c.maxLocals == mx && c.exceptionTable.isEmpty && decide (c.maxStack ≤ mostOperands) && decide (meth.sig.returnType = rt) && !meth.locks && decide (parseMethodDescriptor y.desc = some meth.sig)) = true) : (Jvm.Cond.code y bytes mx rt).before a s = true := by
  simp only [Bool.and_eq_true, beq_iff_eq, Bool.not_eq_true', decide_eq_true_eq] at h5
  obtain ⟨⟨⟨⟨⟨g1, g2⟩, g3⟩, g4⟩, g5⟩, g6⟩ := h5
  simp [Cond.before, Cond.holds, Cond.value, h1, h2, h3, h4, g1, g2, g3, g4, g5, g6]
def isCode : Jvm.Cond → Bool
  | .code _ _ _ _ => true
  | _ => false
theorem all_split {L : List Jvm.Cond} {P : Jvm.Cond → Bool} (h1 : L.all (fun c => isCode c || P c) = true) (h2 : ∀ c ∈ L.filter isCode, P c = true) : L.all P = true := by
  refine List.all_eq_true.mpr fun c hc => ?_
  have h := List.all_eq_true.mp h1 c hc
  rcases Bool.eq_false_or_eq_true (isCode c) with hi | hi
  · exact h2 c (List.mem_filter.mpr ⟨hc, hi⟩)
  · simpa [hi] using h
set_option maxRecDepth 65536 in
theorem w_c0 : (Jvm.Cond.code x code maxLocals ret).before args0 about1 = true := code_word (m := ⟨1, 1⟩) (meth := k1m1) (c := k1c1) (by decide +kernel) rfl rfl rfl (by decide +kernel)
set_option maxRecDepth 65536 in
theorem w_c1 : (Jvm.Cond.code ({ cls := "com/example/tilewright/tilewright/kernel/Blocks", name := "takesRegisters", desc := "(IIIZ)Z" } : Jvm.MethodName) prog_6_method_13_code (4 : Nat) (Option.some Jvm.ClassFile.FieldType.boolean)).before args0 about1 = true := code_word (m := ⟨2, 1⟩) (meth := k2m1) (c := k2c1) (by decide +kernel) rfl rfl rfl (by decide +kernel)
set_option maxRecDepth 65536 in
theorem w_c2 : (Jvm.Cond.code ({ cls := "com/example/tilewright/tilewright/kernel/BlocksTakesRegistersPinLaw", name := "expected", desc := "(IIIZ)Z" } : Jvm.MethodName) method_3_code (4 : Nat) (Option.some Jvm.ClassFile.FieldType.boolean)).before args0 about1 = true := code_word (m := ⟨1, 2⟩) (meth := k1m2) (c := k1c2) (by decide +kernel) rfl rfl rfl (by decide +kernel)
def codes1 : List Jvm.Cond := [Jvm.Cond.code x code maxLocals ret, Jvm.Cond.code ({ cls := "com/example/tilewright/tilewright/kernel/Blocks", name := "takesRegisters", desc := "(IIIZ)Z" } : Jvm.MethodName) prog_6_method_13_code (4 : Nat) (Option.some Jvm.ClassFile.FieldType.boolean), Jvm.Cond.code ({ cls := "com/example/tilewright/tilewright/kernel/BlocksTakesRegistersPinLaw", name := "expected", desc := "(IIIZ)Z" } : Jvm.MethodName) method_3_code (4 : Nat) (Option.some Jvm.ClassFile.FieldType.boolean)]
set_option maxRecDepth 65536 in
theorem codes_eq : words1.filter isCode = codes1 := rfl
theorem w_codes : ∀ c ∈ words1.filter isCode, c.before args0 about1 = true := by
  rw [codes_eq]
  intro c hc
  simp only [codes1, List.mem_cons, List.not_mem_nil, or_false] at hc
  rcases hc with rfl | rfl | rfl
  · exact w_c0
  · exact w_c1
  · exact w_c2
set_option maxRecDepth 65536 in
theorem w_t1 : words1.all (fun c => isCode c || c.before args0 about1) = true := by decide +kernel
theorem w_tables : (allAtoms (Jvm.Cond.code x code maxLocals ret :: tables_1)).before args0 about1 = true := by
  rw [allAtoms_all]
  show words1.all (fun c => c.before args0 about1) = true
  refine all_split ?_ w_codes
  rw [w_t1]
set_option maxRecDepth 65536 in
theorem w_case : (Jvm.Cond.and given_1 narrow_1).before args0 about1 = true := by decide +kernel
theorem w_applies : (headSpec (Jvm.Cond.code x code maxLocals ret :: tables_1) room_1).applies x e0.platform about1 = true :=
  (Spec.applies_iff w_frames).mpr ⟨w_running, w_runnable, w_alone, w_named, w_hears, w_ripe, w_room, w_tables⟩
theorem atStart : AtStart classFile x code maxLocals ret World_1 tables_1 room_1 Calls_1 rest_1 Pre_1 launch0 p0 e0 about1 theMethod args0 below0 :=
  ⟨lists_1, trivial, launch0.admits_env _ _ _, launch0.least_env, fairChoices_fair.cas, fairChoices_fair.clock, w_frames, w_args, w_heap, w_applies, trivial, trivial, w_case⟩
end start1
theorem witness_1 : WitnessClaimed_1 := ⟨start1.p0, start1.e0, start1.about1, start1.theMethod, start1.args0, start1.below0, start1.atStart⟩
end Jvm.Pilot.@@N@@
