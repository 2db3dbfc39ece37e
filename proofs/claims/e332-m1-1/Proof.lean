import JvmDerived
import JvmDerived.Pilot.@@N@@Statement
import JvmDerived.Pilot.@@N@@Code
set_option linter.unusedVariables false
set_option linter.unusedSimpArgs false
namespace Jvm.RoadKit
open Sem ClassFile Op Lib Jvm.Stand Jvm.Free Jvm.LawKit
section New
variable {p : Program} {l : Launch} {e : Env} {R : Room} {s : State} {m : MethodId} {args : Array Value} {below : List Frame} {meth : Method} {c : Code} {T : State} {locs : List Loc} {cells slots : Nat}
theorem retI (X : Stand p l e R s m args below meth c T locs cells slots) (hx : p.tables.exec = Jvm.exec) {pc : Nat} {Ls : Array Slot} {z : Int32} {rest : List Value} (hret : meth.sig.returnType = some .int) (hd : decode c.code pc = .ok (.ireturn, 1)) {fs : List Frame}
    (hl : ∀ (f : JFrame) (acts : List Action), f.method = m → f.locked = none → f.entered = [] → (doReturn e (T.setTop f) acts (some (.int z))).1 = T.setFrames fs) : Steps p.tables e below (T.setTop (mkF m pc Ls (.int z :: rest))) (T.setFrames fs) := by
  have hm' : T.vm.method? m = some meth := X.method'
  have hn : narrow .int (.int z) = .int z := rfl
  show Steps p.tables e below (T.setTop { method := m, pc := pc, locals := Ls, stack := _ :: rest, locked := none }) _
  jvm_step X.here [X.here.top, hx, hd, hm', hret, hn]
  first | (intro acts; rw [hl _ acts rfl rfl rfl]) | rw [hl _ _ rfl rfl rfl]
  exact Steps.refl _
end New
end Jvm.RoadKit
namespace Jvm.Pilot.@@N@@
open Jvm Jvm.ClassFile Sem Op Lib Jvm.Free Jvm.Stand Jvm.LawKit Jvm.RoadKit Bundle Jvm.Pilot.@@N@@.Jvm.D
section Own
variable {p : Program} {l : Launch} {e : Env} {R : Room} {s : State} {m : MethodId} {args : Array Value} {below : List Frame} {meth : Method} {c : Code} {T : State} {locs : List Loc} {cells slots : Nat}
/-- from the state A the run comes to an end of the invocation of which Q holds -/
def OGo (p : Program) (e : Env) (below : List Frame) (Q : Outcome → State → Prop) (A : State) : Prop :=
  ∃ s₂ o, Steps p.tables e below A s₂ ∧ s₂.status = .running ∧ Ended s₂ below o ∧ Q o s₂
theorem OGo.st {Q : Outcome → State → Prop} {A B : State} (h : ∀ t, Steps p.tables e below B t → Steps p.tables e below A t) (g : OGo p e below Q B) : OGo p e below Q A := by
  obtain ⟨s₂, o, k, r⟩ := g
  exact ⟨s₂, o, h _ k, r⟩
/-- what a contract says of the end -/
def Out (s : State) (cells slots : Nat) (Q : Option Value → Heap → List Loc → Prop) (o : Outcome) (U : State) : Prop :=
  ∃ v L, o = .returned v ∧ Q v U.heap L ∧ FrameEnd s o U L cells slots
/-- it returns the int z (the long z), and the heap is as it was -/
def PI (n0 : Nat) (h0 : Heap) (z : Int32) (v : Option Value) (h : Heap) (L : List Loc) : Prop := v = some (.int z) ∧ Fr n0 L ∧ h = h0
def PJ (n0 : Nat) (h0 : Heap) (z : Int64) (v : Option Value) (h : Heap) (L : List Loc) : Prop := v = some (.long z) ∧ Fr n0 L ∧ h = h0
def PF (n0 : Nat) (z : Int32) (v : Option Value) (h : Heap) (L : List Loc) : Prop := v = some (.int z) ∧ Fr n0 L
theorem OGo.eqvF {C S n0 : Nat} {z z' : Int32} {A : State} (q : z = z') (g : OGo p e below (Out s C S (PF n0 z')) A) : OGo p e below (Out s C S (PF n0 z)) A := q ▸ g
theorem OGo.eqvI {C S n0 : Nat} {h0 : Heap} {z z' : Int32} {A : State} (q : z = z') (g : OGo p e below (Out s C S (PI n0 h0 z')) A) : OGo p e below (Out s C S (PI n0 h0 z)) A := q ▸ g
theorem OGo.eqvJ {C S n0 : Nat} {h0 : Heap} {z z' : Int64} {A : State} (q : z = z') (g : OGo p e below (Out s C S (PJ n0 h0 z')) A) : OGo p e below (Out s C S (PJ n0 h0 z)) A := q ▸ g
theorem OGo.outI (X : Stand p l e R s m args below meth c T locs cells slots) (hx : p.tables.exec = Jvm.exec) (hret : meth.sig.returnType = some .int) (hlk : meth.locks = false) {pc : Nat} {Ls : Array Slot} {z : Int32} {rest : List Value} (hd : decode c.code pc = .ok (.ireturn, 1))
    {Q : Option Value → Heap → List Loc → Prop} {C S : Nat} (hq : Q (some (.int z)) T.heap locs) (hC : cells ≤ C) (hS : slots ≤ S) : OGo p e below (Out s C S Q) (T.setTop (mkF m pc Ls (.int z :: rest))) := by
  obtain ⟨fs, hr, hrun, hended, hW, hsame⟩ := X.leave (v := some (.int z)) (fun h => by rw [hret] at h; cases h) hlk
  exact ⟨_, _, retI X hx hret hd hr, hrun, hended, _, _, rfl, hq, ⟨_, rfl⟩, hW, hsame.mono hC hS⟩
theorem OGo.outN (X : Stand p l e R s m args below meth c T locs cells slots) (hx : p.tables.exec = Jvm.exec) {t : FieldType} (hret : meth.sig.returnType = some t) (ht : t = .boolean ∨ t = .byte ∨ t = .char ∨ t = .short) (hlk : meth.locks = false) {pc : Nat} {Ls : Array Slot} {z : Int32} {rest : List Value} (hd : decode c.code pc = .ok (.ireturn, 1))
    {Q : Option Value → Heap → List Loc → Prop} {C S : Nat} (hq : Q (some (.int (nar t z))) T.heap locs) (hC : cells ≤ C) (hS : slots ≤ S) : OGo p e below (Out s C S Q) (T.setTop (mkF m pc Ls (.int z :: rest))) := by
  obtain ⟨fs, hr, hrun, hended, hW, hsame⟩ := X.leave (v := some (.int (nar t z))) (fun h => by rw [hret] at h; cases h) hlk
  exact ⟨_, _, retN X hx hret ht hd hr, hrun, hended, _, _, rfl, hq, ⟨_, rfl⟩, hW, hsame.mono hC hS⟩
theorem OGo.outJ (X : Stand p l e R s m args below meth c T locs cells slots) (hx : p.tables.exec = Jvm.exec) (hret : meth.sig.returnType = some .long) (hlk : meth.locks = false) {pc : Nat} {Ls : Array Slot} {z : Int64} (hd : decode c.code pc = .ok (.lreturn, 1))
    {Q : Option Value → Heap → List Loc → Prop} {C S : Nat} (hq : Q (some (.long z)) T.heap locs) (hC : cells ≤ C) (hS : slots ≤ S) : OGo p e below (Out s C S Q) (T.setTop (mkF m pc Ls [.long z])) := by
  obtain ⟨fs, hr, hrun, hended, hW, hsame⟩ := X.leave (v := some (.long z)) (fun h => by rw [hret] at h; cases h) hlk
  exact ⟨_, _, X.lreturnOut hx hret hd hr, hrun, hended, _, _, rfl, hq, ⟨_, rfl⟩, hW, hsame.mono hC hS⟩
theorem OGo.outV (X : Stand p l e R s m args below meth c T locs cells slots) (hx : p.tables.exec = Jvm.exec) (hret : meth.sig.returnType = none) (hlk : meth.locks = false) {pc : Nat} {Ls : Array Slot} (hd : decode c.code pc = .ok (.return_, 1))
    {Q : Option Value → Heap → List Loc → Prop} {C S : Nat} (hq : Q none T.heap locs) (hC : cells ≤ C) (hS : slots ≤ S) : OGo p e below (Out s C S Q) (T.setTop (mkF m pc Ls [])) := by
  obtain ⟨fs, hr, hrun, hended, hW, hsame⟩ := X.leave (v := none) (fun _ => rfl) hlk
  exact ⟨_, _, X.returnOut hx hret hd hr, hrun, hended, _, _, rfl, hq, ⟨_, rfl⟩, hW, hsame.mono hC hS⟩
end Own
theorem d1_0 : decode prog_31_method_2_code 0 = .ok (.iload_n 2, 1) := by decide +kernel
theorem d1_1 : decode prog_31_method_2_code 1 = .ok (.ifCond .le 16, 3) := by decide +kernel
theorem d1_4 : decode prog_31_method_2_code 4 = .ok (.iload_n 3, 1) := by decide +kernel
theorem d1_5 : decode prog_31_method_2_code 5 = .ok (.iconst 1, 1) := by decide +kernel
theorem d1_6 : decode prog_31_method_2_code 6 = .ok (.if_icmp .gt 7, 3) := by decide +kernel
theorem d1_9 : decode prog_31_method_2_code 9 = .ok (.iload_n 0, 1) := by decide +kernel
theorem d1_10 : decode prog_31_method_2_code 10 = .ok (.ifCond .ne 7, 3) := by decide +kernel
theorem d1_13 : decode prog_31_method_2_code 13 = .ok (.iconst 1, 1) := by decide +kernel
theorem d1_14 : decode prog_31_method_2_code 14 = .ok (.goto 4, 3) := by decide +kernel
theorem d1_17 : decode prog_31_method_2_code 17 = .ok (.iconst 0, 1) := by decide +kernel
theorem d1_18 : decode prog_31_method_2_code 18 = .ok (.istore 4, 2) := by decide +kernel
theorem d1_20 : decode prog_31_method_2_code 20 = .ok (.iload_n 0, 1) := by decide +kernel
theorem d1_21 : decode prog_31_method_2_code 21 = .ok (.ifCond .le 17, 3) := by decide +kernel
theorem d1_24 : decode prog_31_method_2_code 24 = .ok (.iload 4, 2) := by decide +kernel
theorem d1_26 : decode prog_31_method_2_code 26 = .ok (.ifCond .eq 8, 3) := by decide +kernel
theorem d1_29 : decode prog_31_method_2_code 29 = .ok (.iload_n 1, 1) := by decide +kernel
theorem d1_30 : decode prog_31_method_2_code 30 = .ok (.iconst 1, 1) := by decide +kernel
theorem d1_31 : decode prog_31_method_2_code 31 = .ok (.if_icmp .le 7, 3) := by decide +kernel
theorem d1_34 : decode prog_31_method_2_code 34 = .ok (.iconst 1, 1) := by decide +kernel
theorem d1_35 : decode prog_31_method_2_code 35 = .ok (.goto 4, 3) := by decide +kernel
theorem d1_38 : decode prog_31_method_2_code 38 = .ok (.iconst 0, 1) := by decide +kernel
theorem d1_39 : decode prog_31_method_2_code 39 = .ok (.istore 5, 2) := by decide +kernel
theorem d1_41 : decode prog_31_method_2_code 41 = .ok (.iload 5, 2) := by decide +kernel
theorem d1_43 : decode prog_31_method_2_code 43 = .ok (.ifCond .eq 7, 3) := by decide +kernel
theorem d1_46 : decode prog_31_method_2_code 46 = .ok (.iconst 1, 1) := by decide +kernel
theorem d1_47 : decode prog_31_method_2_code 47 = .ok (.goto 4, 3) := by decide +kernel
theorem d1_50 : decode prog_31_method_2_code 50 = .ok (.iconst 0, 1) := by decide +kernel
theorem d1_51 : decode prog_31_method_2_code 51 = .ok (.iload 4, 2) := by decide +kernel
theorem d1_53 : decode prog_31_method_2_code 53 = .ok (.ifCond .eq 7, 3) := by decide +kernel
theorem d1_56 : decode prog_31_method_2_code 56 = .ok (.iconst 2, 1) := by decide +kernel
theorem d1_57 : decode prog_31_method_2_code 57 = .ok (.goto 4, 3) := by decide +kernel
theorem d1_60 : decode prog_31_method_2_code 60 = .ok (.iconst 0, 1) := by decide +kernel
theorem d1_61 : decode prog_31_method_2_code 61 = .ok (.ior, 1) := by decide +kernel
theorem d1_62 : decode prog_31_method_2_code 62 = .ok (.ireturn, 1) := by decide +kernel
theorem pn1 : plainName "com/example/lockstep/lockstep/check/Obligations" = true := by first | (simp [plainName, overriddenIn]; done) | decide +kernel
theorem ef1 (m : MethodId) (q1 : Int32) (q2 : Int32) (q3 : Int32) (q4 : Int32) : entryFrame m #[(.int q1), (.int q2), (.int q3), (.int q4)] 6 = mkF m 0 #[.val (.int q1), .val (.int q2), .val (.int q3), .val (.int q4), .unset, .unset] [] := by first | (simp [entryFrame, mkF, argsToLocals, Value.category]; done) | rfl
def g1_53_1 (q1 : Int32) (q2 : Int32) (q3 : Int32) (q4 : Int32) (j51_l4 : Int32) (j51_l5 : Int32) (j51_s0 : Int32) : Int32 := if j51_l4 = (0 : Int32) then (j51_s0 ||| (0 : Int32)) else (j51_s0 ||| (2 : Int32))
def g1_j51 (q1 : Int32) (q2 : Int32) (q3 : Int32) (q4 : Int32) (j51_l4 : Int32) (j51_l5 : Int32) (j51_s0 : Int32) : Int32 := (g1_53_1 q1 q2 q3 q4 j51_l4 j51_l5 j51_s0)
def g1_43_2 (q1 : Int32) (q2 : Int32) (q3 : Int32) (q4 : Int32) (j39_l4 : Int32) (j39_s0 : Int32) : Int32 := if j39_s0 = (0 : Int32) then (g1_j51 q1 q2 q3 q4 j39_l4 j39_s0 (0 : Int32)) else (g1_j51 q1 q2 q3 q4 j39_l4 j39_s0 (1 : Int32))
def g1_j39 (q1 : Int32) (q2 : Int32) (q3 : Int32) (q4 : Int32) (j39_l4 : Int32) (j39_s0 : Int32) : Int32 := (g1_43_2 q1 q2 q3 q4 j39_l4 j39_s0)
def g1_j38 (q1 : Int32) (q2 : Int32) (q3 : Int32) (q4 : Int32) (j38_l4 : Int32) : Int32 := (g1_j39 q1 q2 q3 q4 j38_l4 (0 : Int32))
def g1_j34 (q1 : Int32) (q2 : Int32) (q3 : Int32) (q4 : Int32) (j34_l4 : Int32) : Int32 := (g1_j39 q1 q2 q3 q4 j34_l4 (1 : Int32))
def g1_31_3 (q1 : Int32) (q2 : Int32) (q3 : Int32) (q4 : Int32) (j18_s0 : Int32) : Int32 := if (1 : Int32) < q2 then (g1_j34 q1 q2 q3 q4 j18_s0) else (g1_j38 q1 q2 q3 q4 j18_s0)
def g1_26_4 (q1 : Int32) (q2 : Int32) (q3 : Int32) (q4 : Int32) (j18_s0 : Int32) : Int32 := if j18_s0 = (0 : Int32) then (g1_j34 q1 q2 q3 q4 j18_s0) else (g1_31_3 q1 q2 q3 q4 j18_s0)
def g1_21_5 (q1 : Int32) (q2 : Int32) (q3 : Int32) (q4 : Int32) (j18_s0 : Int32) : Int32 := if (0 : Int32) < q1 then (g1_26_4 q1 q2 q3 q4 j18_s0) else (g1_j38 q1 q2 q3 q4 j18_s0)
def g1_j18 (q1 : Int32) (q2 : Int32) (q3 : Int32) (q4 : Int32) (j18_s0 : Int32) : Int32 := (g1_21_5 q1 q2 q3 q4 j18_s0)
def g1_j17 (q1 : Int32) (q2 : Int32) (q3 : Int32) (q4 : Int32) : Int32 := (g1_j18 q1 q2 q3 q4 (0 : Int32))
def g1_j13 (q1 : Int32) (q2 : Int32) (q3 : Int32) (q4 : Int32) : Int32 := (g1_j18 q1 q2 q3 q4 (1 : Int32))
def g1_10_6 (q1 : Int32) (q2 : Int32) (q3 : Int32) (q4 : Int32) : Int32 := if q1 = (0 : Int32) then (g1_j13 q1 q2 q3 q4) else (g1_j17 q1 q2 q3 q4)
def g1_6_7 (q1 : Int32) (q2 : Int32) (q3 : Int32) (q4 : Int32) : Int32 := if (1 : Int32) < q4 then (g1_j13 q1 q2 q3 q4) else (g1_10_6 q1 q2 q3 q4)
def g1_1_8 (q1 : Int32) (q2 : Int32) (q3 : Int32) (q4 : Int32) : Int32 := if (0 : Int32) < q3 then (g1_6_7 q1 q2 q3 q4) else (g1_j17 q1 q2 q3 q4)
def f1 (q1 : Int32) (q2 : Int32) (q3 : Int32) (q4 : Int32) : Int32 := (g1_1_8 q1 q2 q3 q4)
set_option maxRecDepth 65536 in
set_option maxHeartbeats 40000000 in
theorem rm1 (l : Launch) (Z : State) (a0 : Array Value) (hw : ∀ d ∈ tables_1, d.before a0 Z = true) (ws : List Jvm.Cond) (q1 : Int32) (q2 : Int32) (q3 : Int32) (q4 : Int32) (h0 : Heap) (n0 : Nat) (Z0 : n0 ≤ h0.size) :
    MetFree l (⟨"com/example/lockstep/lockstep/check/Obligations", "keptSteps", "(IIII)I"⟩ : MethodName) (head1 (Jvm.Cond.code (⟨"com/example/lockstep/lockstep/check/Obligations", "keptSteps", "(IIII)I"⟩ : MethodName) prog_31_method_2_code 6 (some .int) :: ws) ({ frames := 0, cells := 0, slots := 0, locals := 0 } : Room)) (fun a U => a = #[(.int q1), (.int q2), (.int q3), (.int q4)] ∧ Z.Warmed39 U.vm ∧ U.heap = h0) (fun _ _ _ _ _ => True) (fun _ U o U' => ∃ v L, o = .returned v ∧ PI n0 h0 (f1 q1 q2 q3 q4) v U'.heap L ∧ FrameEnd U o U' L ({ frames := 0, cells := 0, slots := 0, locals := 0 } : Room).cells ({ frames := 0, cells := 0, slots := 0, locals := 0 } : Room).slots) := by
  refine MetFree.of_bodySF (plainFor_of_name pn1) hisR ?_
  intro p e s m args below meth c s₁ Bd hml0 hP hK
  obtain ⟨rfl, hZ, hh⟩ := hP
  have hx := Bd.exec
  have hby := Bd.bytes
  have hml : c.maxLocals = 6 := hml0
  have hown : s.vm.findClass "com/example/lockstep/lockstep/check/Obligations" = some m.cls := findClass_of_methodNamed Bd.named
  have X0 : Stand p l e ({ frames := 0, cells := 0, slots := 0, locals := 0 } : Room) s m #[(.int q1), (.int q2), (.int q3), (.int q4)] below meth c s₁ [] 0 0 := Stand.of_body Bd
  have e0 : s₁.heap = h0 := by rw [← hh, Bd.state]; rfl
  have N0 := Fr.nil n0
  show OGo p e below (Out s ({ frames := 0, cells := 0, slots := 0, locals := 0 } : Room).cells ({ frames := 0, cells := 0, slots := 0, locals := 0 } : Room).slots (PI n0 h0 (f1 q1 q2 q3 q4))) (s₁.setTop (entryFrame m #[(.int q1), (.int q2), (.int q3), (.int q4)] 6))
  have J51 : ∀ (T : State) (locs : List Loc) (X : Stand p l e ({ frames := 0, cells := 0, slots := 0, locals := 0 } : Room) s m #[(.int q1), (.int q2), (.int q3), (.int q4)] below meth c T locs 0 0) (eT : T.heap = h0) (N : Fr n0 locs) (j51_l4 : Int32) (j51_l5 : Int32) (j51_s0 : Int32), OGo p e below (Out s ({ frames := 0, cells := 0, slots := 0, locals := 0 } : Room).cells ({ frames := 0, cells := 0, slots := 0, locals := 0 } : Room).slots (PI n0 h0 (g1_j51 q1 q2 q3 q4 j51_l4 j51_l5 j51_s0))) (T.setTop (mkF m 51 #[.val (.int q1), .val (.int q2), .val (.int q3), .val (.int q4), .val (.int j51_l4), .val (.int j51_l5)] [(.int j51_s0)])) := by
    intro T locs X eT N j51_l4 j51_l5 j51_s0
    show OGo p e below (Out s ({ frames := 0, cells := 0, slots := 0, locals := 0 } : Room).cells ({ frames := 0, cells := 0, slots := 0, locals := 0 } : Room).slots (PI n0 h0 (g1_53_1 q1 q2 q3 q4 j51_l4 j51_l5 j51_s0))) (T.setTop (mkF m 51 #[.val (.int q1), .val (.int q2), .val (.int q3), .val (.int q4), .val (.int j51_l4), .val (.int j51_l5)] [(.int j51_s0)]))
    refine OGo.st (fun t k => XS.iload X.here hx rfl (hb hby d1_51) rfl k) ?_
    show OGo p e below _ (T.setTop (mkF m 53 #[.val (.int q1), .val (.int q2), .val (.int q3), .val (.int q4), .val (.int j51_l4), .val (.int j51_l5)] [(.int j51_l4), (.int j51_s0)]))
    by_cases hc53_1 : j51_l4 = (0 : Int32)
    · refine OGo.eqvI (show (g1_53_1 q1 q2 q3 q4 j51_l4 j51_l5 j51_s0) = (j51_s0 ||| (0 : Int32)) from if_pos hc53_1) ?_
      refine OGo.st (fun t k => XS.ifYes X.here hx rfl (pc0 := 53) (pc' := 60) rfl (hb hby d1_53) rfl ((if0 _ _).trans (teq hc53_1).1) (by decide) (by decide) k) ?_
      show OGo p e below _ (T.setTop (mkF m 60 #[.val (.int q1), .val (.int q2), .val (.int q3), .val (.int q4), .val (.int j51_l4), .val (.int j51_l5)] [(.int j51_s0)]))
      refine OGo.st (fun t k => XS.iconst X.here hx rfl (hb hby d1_60) k) ?_
      show OGo p e below _ (T.setTop (mkF m 61 #[.val (.int q1), .val (.int q2), .val (.int q3), .val (.int q4), .val (.int j51_l4), .val (.int j51_l5)] [(.int (0 : Int32)), (.int j51_s0)]))
      refine OGo.st (fun t k => XS.ior X.here hx rfl (hb hby d1_61) rfl k) ?_
      show OGo p e below _ (T.setTop (mkF m 62 #[.val (.int q1), .val (.int q2), .val (.int q3), .val (.int q4), .val (.int j51_l4), .val (.int j51_l5)] [(.int (j51_s0 ||| (0 : Int32)))]))
      exact OGo.outI X hx Bd.returns Bd.notSynchronized (hb hby d1_62) ⟨rfl, N, eT⟩ (by decide) (by decide)
    · refine OGo.eqvI (show (g1_53_1 q1 q2 q3 q4 j51_l4 j51_l5 j51_s0) = (j51_s0 ||| (2 : Int32)) from if_neg hc53_1) ?_
      refine OGo.st (fun t k => XS.ifNo X.here hx rfl (hb hby d1_53) rfl ((if0 _ _).trans (feq hc53_1).1) k) ?_
      show OGo p e below _ (T.setTop (mkF m 56 #[.val (.int q1), .val (.int q2), .val (.int q3), .val (.int q4), .val (.int j51_l4), .val (.int j51_l5)] [(.int j51_s0)]))
      refine OGo.st (fun t k => XS.iconst X.here hx rfl (hb hby d1_56) k) ?_
      show OGo p e below _ (T.setTop (mkF m 57 #[.val (.int q1), .val (.int q2), .val (.int q3), .val (.int q4), .val (.int j51_l4), .val (.int j51_l5)] [(.int (2 : Int32)), (.int j51_s0)]))
      refine OGo.st (fun t k => XS.goto X.here hx rfl (pc0 := 57) (pc' := 61) rfl (hb hby d1_57) (by decide) (by decide) k) ?_
      show OGo p e below _ (T.setTop (mkF m 61 #[.val (.int q1), .val (.int q2), .val (.int q3), .val (.int q4), .val (.int j51_l4), .val (.int j51_l5)] [(.int (2 : Int32)), (.int j51_s0)]))
      refine OGo.st (fun t k => XS.ior X.here hx rfl (hb hby d1_61) rfl k) ?_
      show OGo p e below _ (T.setTop (mkF m 62 #[.val (.int q1), .val (.int q2), .val (.int q3), .val (.int q4), .val (.int j51_l4), .val (.int j51_l5)] [(.int (j51_s0 ||| (2 : Int32)))]))
      exact OGo.outI X hx Bd.returns Bd.notSynchronized (hb hby d1_62) ⟨rfl, N, eT⟩ (by decide) (by decide)
  have J39 : ∀ (T : State) (locs : List Loc) (X : Stand p l e ({ frames := 0, cells := 0, slots := 0, locals := 0 } : Room) s m #[(.int q1), (.int q2), (.int q3), (.int q4)] below meth c T locs 0 0) (eT : T.heap = h0) (N : Fr n0 locs) (j39_l4 : Int32) (j39_s0 : Int32), OGo p e below (Out s ({ frames := 0, cells := 0, slots := 0, locals := 0 } : Room).cells ({ frames := 0, cells := 0, slots := 0, locals := 0 } : Room).slots (PI n0 h0 (g1_j39 q1 q2 q3 q4 j39_l4 j39_s0))) (T.setTop (mkF m 39 #[.val (.int q1), .val (.int q2), .val (.int q3), .val (.int q4), .val (.int j39_l4), .unset] [(.int j39_s0)])) := by
    intro T locs X eT N j39_l4 j39_s0
    show OGo p e below (Out s ({ frames := 0, cells := 0, slots := 0, locals := 0 } : Room).cells ({ frames := 0, cells := 0, slots := 0, locals := 0 } : Room).slots (PI n0 h0 (g1_43_2 q1 q2 q3 q4 j39_l4 j39_s0))) (T.setTop (mkF m 39 #[.val (.int q1), .val (.int q2), .val (.int q3), .val (.int q4), .val (.int j39_l4), .unset] [(.int j39_s0)]))
    refine OGo.st (fun t k => XS.istore X.here hx rfl (hb hby d1_39) rfl (l' := #[.val (.int q1), .val (.int q2), .val (.int q3), .val (.int q4), .val (.int j39_l4), .val (.int j39_s0)]) rfl k) ?_
    show OGo p e below _ (T.setTop (mkF m 41 #[.val (.int q1), .val (.int q2), .val (.int q3), .val (.int q4), .val (.int j39_l4), .val (.int j39_s0)] []))
    refine OGo.st (fun t k => XS.iload X.here hx rfl (hb hby d1_41) rfl k) ?_
    show OGo p e below _ (T.setTop (mkF m 43 #[.val (.int q1), .val (.int q2), .val (.int q3), .val (.int q4), .val (.int j39_l4), .val (.int j39_s0)] [(.int j39_s0)]))
    by_cases hc43_2 : j39_s0 = (0 : Int32)
    · refine OGo.eqvI (show (g1_43_2 q1 q2 q3 q4 j39_l4 j39_s0) = (g1_j51 q1 q2 q3 q4 j39_l4 j39_s0 (0 : Int32)) from if_pos hc43_2) ?_
      refine OGo.st (fun t k => XS.ifYes X.here hx rfl (pc0 := 43) (pc' := 50) rfl (hb hby d1_43) rfl ((if0 _ _).trans (teq hc43_2).1) (by decide) (by decide) k) ?_
      show OGo p e below _ (T.setTop (mkF m 50 #[.val (.int q1), .val (.int q2), .val (.int q3), .val (.int q4), .val (.int j39_l4), .val (.int j39_s0)] []))
      refine OGo.st (fun t k => XS.iconst X.here hx rfl (hb hby d1_50) k) ?_
      show OGo p e below _ (T.setTop (mkF m 51 #[.val (.int q1), .val (.int q2), .val (.int q3), .val (.int q4), .val (.int j39_l4), .val (.int j39_s0)] [(.int (0 : Int32))]))
      exact J51 T _ X eT N j39_l4 j39_s0 (0 : Int32)
    · refine OGo.eqvI (show (g1_43_2 q1 q2 q3 q4 j39_l4 j39_s0) = (g1_j51 q1 q2 q3 q4 j39_l4 j39_s0 (1 : Int32)) from if_neg hc43_2) ?_
      refine OGo.st (fun t k => XS.ifNo X.here hx rfl (hb hby d1_43) rfl ((if0 _ _).trans (feq hc43_2).1) k) ?_
      show OGo p e below _ (T.setTop (mkF m 46 #[.val (.int q1), .val (.int q2), .val (.int q3), .val (.int q4), .val (.int j39_l4), .val (.int j39_s0)] []))
      refine OGo.st (fun t k => XS.iconst X.here hx rfl (hb hby d1_46) k) ?_
      show OGo p e below _ (T.setTop (mkF m 47 #[.val (.int q1), .val (.int q2), .val (.int q3), .val (.int q4), .val (.int j39_l4), .val (.int j39_s0)] [(.int (1 : Int32))]))
      refine OGo.st (fun t k => XS.goto X.here hx rfl (pc0 := 47) (pc' := 51) rfl (hb hby d1_47) (by decide) (by decide) k) ?_
      show OGo p e below _ (T.setTop (mkF m 51 #[.val (.int q1), .val (.int q2), .val (.int q3), .val (.int q4), .val (.int j39_l4), .val (.int j39_s0)] [(.int (1 : Int32))]))
      exact J51 T _ X eT N j39_l4 j39_s0 (1 : Int32)
  have J38 : ∀ (T : State) (locs : List Loc) (X : Stand p l e ({ frames := 0, cells := 0, slots := 0, locals := 0 } : Room) s m #[(.int q1), (.int q2), (.int q3), (.int q4)] below meth c T locs 0 0) (eT : T.heap = h0) (N : Fr n0 locs) (j38_l4 : Int32), OGo p e below (Out s ({ frames := 0, cells := 0, slots := 0, locals := 0 } : Room).cells ({ frames := 0, cells := 0, slots := 0, locals := 0 } : Room).slots (PI n0 h0 (g1_j38 q1 q2 q3 q4 j38_l4))) (T.setTop (mkF m 38 #[.val (.int q1), .val (.int q2), .val (.int q3), .val (.int q4), .val (.int j38_l4), .unset] [])) := by
    intro T locs X eT N j38_l4
    show OGo p e below (Out s ({ frames := 0, cells := 0, slots := 0, locals := 0 } : Room).cells ({ frames := 0, cells := 0, slots := 0, locals := 0 } : Room).slots (PI n0 h0 (g1_j39 q1 q2 q3 q4 j38_l4 (0 : Int32)))) (T.setTop (mkF m 38 #[.val (.int q1), .val (.int q2), .val (.int q3), .val (.int q4), .val (.int j38_l4), .unset] []))
    refine OGo.st (fun t k => XS.iconst X.here hx rfl (hb hby d1_38) k) ?_
    show OGo p e below _ (T.setTop (mkF m 39 #[.val (.int q1), .val (.int q2), .val (.int q3), .val (.int q4), .val (.int j38_l4), .unset] [(.int (0 : Int32))]))
    exact J39 T _ X eT N j38_l4 (0 : Int32)
  have J34 : ∀ (T : State) (locs : List Loc) (X : Stand p l e ({ frames := 0, cells := 0, slots := 0, locals := 0 } : Room) s m #[(.int q1), (.int q2), (.int q3), (.int q4)] below meth c T locs 0 0) (eT : T.heap = h0) (N : Fr n0 locs) (j34_l4 : Int32), OGo p e below (Out s ({ frames := 0, cells := 0, slots := 0, locals := 0 } : Room).cells ({ frames := 0, cells := 0, slots := 0, locals := 0 } : Room).slots (PI n0 h0 (g1_j34 q1 q2 q3 q4 j34_l4))) (T.setTop (mkF m 34 #[.val (.int q1), .val (.int q2), .val (.int q3), .val (.int q4), .val (.int j34_l4), .unset] [])) := by
    intro T locs X eT N j34_l4
    show OGo p e below (Out s ({ frames := 0, cells := 0, slots := 0, locals := 0 } : Room).cells ({ frames := 0, cells := 0, slots := 0, locals := 0 } : Room).slots (PI n0 h0 (g1_j39 q1 q2 q3 q4 j34_l4 (1 : Int32)))) (T.setTop (mkF m 34 #[.val (.int q1), .val (.int q2), .val (.int q3), .val (.int q4), .val (.int j34_l4), .unset] []))
    refine OGo.st (fun t k => XS.iconst X.here hx rfl (hb hby d1_34) k) ?_
    show OGo p e below _ (T.setTop (mkF m 35 #[.val (.int q1), .val (.int q2), .val (.int q3), .val (.int q4), .val (.int j34_l4), .unset] [(.int (1 : Int32))]))
    refine OGo.st (fun t k => XS.goto X.here hx rfl (pc0 := 35) (pc' := 39) rfl (hb hby d1_35) (by decide) (by decide) k) ?_
    show OGo p e below _ (T.setTop (mkF m 39 #[.val (.int q1), .val (.int q2), .val (.int q3), .val (.int q4), .val (.int j34_l4), .unset] [(.int (1 : Int32))]))
    exact J39 T _ X eT N j34_l4 (1 : Int32)
  have J18 : ∀ (T : State) (locs : List Loc) (X : Stand p l e ({ frames := 0, cells := 0, slots := 0, locals := 0 } : Room) s m #[(.int q1), (.int q2), (.int q3), (.int q4)] below meth c T locs 0 0) (eT : T.heap = h0) (N : Fr n0 locs) (j18_s0 : Int32), OGo p e below (Out s ({ frames := 0, cells := 0, slots := 0, locals := 0 } : Room).cells ({ frames := 0, cells := 0, slots := 0, locals := 0 } : Room).slots (PI n0 h0 (g1_j18 q1 q2 q3 q4 j18_s0))) (T.setTop (mkF m 18 #[.val (.int q1), .val (.int q2), .val (.int q3), .val (.int q4), .unset, .unset] [(.int j18_s0)])) := by
    intro T locs X eT N j18_s0
    show OGo p e below (Out s ({ frames := 0, cells := 0, slots := 0, locals := 0 } : Room).cells ({ frames := 0, cells := 0, slots := 0, locals := 0 } : Room).slots (PI n0 h0 (g1_21_5 q1 q2 q3 q4 j18_s0))) (T.setTop (mkF m 18 #[.val (.int q1), .val (.int q2), .val (.int q3), .val (.int q4), .unset, .unset] [(.int j18_s0)]))
    refine OGo.st (fun t k => XS.istore X.here hx rfl (hb hby d1_18) rfl (l' := #[.val (.int q1), .val (.int q2), .val (.int q3), .val (.int q4), .val (.int j18_s0), .unset]) rfl k) ?_
    show OGo p e below _ (T.setTop (mkF m 20 #[.val (.int q1), .val (.int q2), .val (.int q3), .val (.int q4), .val (.int j18_s0), .unset] []))
    refine OGo.st (fun t k => XS.iloadN X.here hx rfl (hb hby d1_20) rfl k) ?_
    show OGo p e below _ (T.setTop (mkF m 21 #[.val (.int q1), .val (.int q2), .val (.int q3), .val (.int q4), .val (.int j18_s0), .unset] [(.int q1)]))
    by_cases hc21_3 : (0 : Int32) < q1
    · refine OGo.eqvI (show (g1_21_5 q1 q2 q3 q4 j18_s0) = (g1_26_4 q1 q2 q3 q4 j18_s0) from if_pos hc21_3) ?_
      refine OGo.st (fun t k => XS.ifNo X.here hx rfl (hb hby d1_21) rfl ((if0 _ _).trans (tlt hc21_3).2.2.2) k) ?_
      show OGo p e below _ (T.setTop (mkF m 24 #[.val (.int q1), .val (.int q2), .val (.int q3), .val (.int q4), .val (.int j18_s0), .unset] []))
      refine OGo.st (fun t k => XS.iload X.here hx rfl (hb hby d1_24) rfl k) ?_
      show OGo p e below _ (T.setTop (mkF m 26 #[.val (.int q1), .val (.int q2), .val (.int q3), .val (.int q4), .val (.int j18_s0), .unset] [(.int j18_s0)]))
      by_cases hc26_4 : j18_s0 = (0 : Int32)
      · refine OGo.eqvI (show (g1_26_4 q1 q2 q3 q4 j18_s0) = (g1_j34 q1 q2 q3 q4 j18_s0) from if_pos hc26_4) ?_
        refine OGo.st (fun t k => XS.ifYes X.here hx rfl (pc0 := 26) (pc' := 34) rfl (hb hby d1_26) rfl ((if0 _ _).trans (teq hc26_4).1) (by decide) (by decide) k) ?_
        show OGo p e below _ (T.setTop (mkF m 34 #[.val (.int q1), .val (.int q2), .val (.int q3), .val (.int q4), .val (.int j18_s0), .unset] []))
        exact J34 T _ X eT N j18_s0
      · refine OGo.eqvI (show (g1_26_4 q1 q2 q3 q4 j18_s0) = (g1_31_3 q1 q2 q3 q4 j18_s0) from if_neg hc26_4) ?_
        refine OGo.st (fun t k => XS.ifNo X.here hx rfl (hb hby d1_26) rfl ((if0 _ _).trans (feq hc26_4).1) k) ?_
        show OGo p e below _ (T.setTop (mkF m 29 #[.val (.int q1), .val (.int q2), .val (.int q3), .val (.int q4), .val (.int j18_s0), .unset] []))
        refine OGo.st (fun t k => XS.iloadN X.here hx rfl (hb hby d1_29) rfl k) ?_
        show OGo p e below _ (T.setTop (mkF m 30 #[.val (.int q1), .val (.int q2), .val (.int q3), .val (.int q4), .val (.int j18_s0), .unset] [(.int q2)]))
        refine OGo.st (fun t k => XS.iconst X.here hx rfl (hb hby d1_30) k) ?_
        show OGo p e below _ (T.setTop (mkF m 31 #[.val (.int q1), .val (.int q2), .val (.int q3), .val (.int q4), .val (.int j18_s0), .unset] [(.int (1 : Int32)), (.int q2)]))
        by_cases hc31_5 : (1 : Int32) < q2
        · refine OGo.eqvI (show (g1_31_3 q1 q2 q3 q4 j18_s0) = (g1_j34 q1 q2 q3 q4 j18_s0) from if_pos hc31_5) ?_
          refine OGo.st (fun t k => XS.icmpNo X.here hx rfl (hb hby d1_31) rfl (tlt hc31_5).2.2.2 k) ?_
          show OGo p e below _ (T.setTop (mkF m 34 #[.val (.int q1), .val (.int q2), .val (.int q3), .val (.int q4), .val (.int j18_s0), .unset] []))
          exact J34 T _ X eT N j18_s0
        · refine OGo.eqvI (show (g1_31_3 q1 q2 q3 q4 j18_s0) = (g1_j38 q1 q2 q3 q4 j18_s0) from if_neg hc31_5) ?_
          refine OGo.st (fun t k => XS.icmpYes X.here hx rfl (pc0 := 31) (pc' := 38) rfl (hb hby d1_31) rfl (flt hc31_5).2.2.2 (by decide) (by decide) k) ?_
          show OGo p e below _ (T.setTop (mkF m 38 #[.val (.int q1), .val (.int q2), .val (.int q3), .val (.int q4), .val (.int j18_s0), .unset] []))
          exact J38 T _ X eT N j18_s0
    · refine OGo.eqvI (show (g1_21_5 q1 q2 q3 q4 j18_s0) = (g1_j38 q1 q2 q3 q4 j18_s0) from if_neg hc21_3) ?_
      refine OGo.st (fun t k => XS.ifYes X.here hx rfl (pc0 := 21) (pc' := 38) rfl (hb hby d1_21) rfl ((if0 _ _).trans (flt hc21_3).2.2.2) (by decide) (by decide) k) ?_
      show OGo p e below _ (T.setTop (mkF m 38 #[.val (.int q1), .val (.int q2), .val (.int q3), .val (.int q4), .val (.int j18_s0), .unset] []))
      exact J38 T _ X eT N j18_s0
  have J17 : ∀ (T : State) (locs : List Loc) (X : Stand p l e ({ frames := 0, cells := 0, slots := 0, locals := 0 } : Room) s m #[(.int q1), (.int q2), (.int q3), (.int q4)] below meth c T locs 0 0) (eT : T.heap = h0) (N : Fr n0 locs), OGo p e below (Out s ({ frames := 0, cells := 0, slots := 0, locals := 0 } : Room).cells ({ frames := 0, cells := 0, slots := 0, locals := 0 } : Room).slots (PI n0 h0 (g1_j17 q1 q2 q3 q4))) (T.setTop (mkF m 17 #[.val (.int q1), .val (.int q2), .val (.int q3), .val (.int q4), .unset, .unset] [])) := by
    intro T locs X eT N
    show OGo p e below (Out s ({ frames := 0, cells := 0, slots := 0, locals := 0 } : Room).cells ({ frames := 0, cells := 0, slots := 0, locals := 0 } : Room).slots (PI n0 h0 (g1_j18 q1 q2 q3 q4 (0 : Int32)))) (T.setTop (mkF m 17 #[.val (.int q1), .val (.int q2), .val (.int q3), .val (.int q4), .unset, .unset] []))
    refine OGo.st (fun t k => XS.iconst X.here hx rfl (hb hby d1_17) k) ?_
    show OGo p e below _ (T.setTop (mkF m 18 #[.val (.int q1), .val (.int q2), .val (.int q3), .val (.int q4), .unset, .unset] [(.int (0 : Int32))]))
    exact J18 T _ X eT N (0 : Int32)
  have J13 : ∀ (T : State) (locs : List Loc) (X : Stand p l e ({ frames := 0, cells := 0, slots := 0, locals := 0 } : Room) s m #[(.int q1), (.int q2), (.int q3), (.int q4)] below meth c T locs 0 0) (eT : T.heap = h0) (N : Fr n0 locs), OGo p e below (Out s ({ frames := 0, cells := 0, slots := 0, locals := 0 } : Room).cells ({ frames := 0, cells := 0, slots := 0, locals := 0 } : Room).slots (PI n0 h0 (g1_j13 q1 q2 q3 q4))) (T.setTop (mkF m 13 #[.val (.int q1), .val (.int q2), .val (.int q3), .val (.int q4), .unset, .unset] [])) := by
    intro T locs X eT N
    show OGo p e below (Out s ({ frames := 0, cells := 0, slots := 0, locals := 0 } : Room).cells ({ frames := 0, cells := 0, slots := 0, locals := 0 } : Room).slots (PI n0 h0 (g1_j18 q1 q2 q3 q4 (1 : Int32)))) (T.setTop (mkF m 13 #[.val (.int q1), .val (.int q2), .val (.int q3), .val (.int q4), .unset, .unset] []))
    refine OGo.st (fun t k => XS.iconst X.here hx rfl (hb hby d1_13) k) ?_
    show OGo p e below _ (T.setTop (mkF m 14 #[.val (.int q1), .val (.int q2), .val (.int q3), .val (.int q4), .unset, .unset] [(.int (1 : Int32))]))
    refine OGo.st (fun t k => XS.goto X.here hx rfl (pc0 := 14) (pc' := 18) rfl (hb hby d1_14) (by decide) (by decide) k) ?_
    show OGo p e below _ (T.setTop (mkF m 18 #[.val (.int q1), .val (.int q2), .val (.int q3), .val (.int q4), .unset, .unset] [(.int (1 : Int32))]))
    exact J18 T _ X eT N (1 : Int32)
  refine OGo.st (fun t k => castTop (ef1 m q1 q2 q3 q4) k) ?_
  show OGo p e below (Out s ({ frames := 0, cells := 0, slots := 0, locals := 0 } : Room).cells ({ frames := 0, cells := 0, slots := 0, locals := 0 } : Room).slots (PI n0 h0 (g1_1_8 q1 q2 q3 q4))) (s₁.setTop (mkF m 0 #[.val (.int q1), .val (.int q2), .val (.int q3), .val (.int q4), .unset, .unset] []))
  refine OGo.st (fun t k => XS.iloadN X0.here hx rfl (hb hby d1_0) rfl k) ?_
  show OGo p e below _ (s₁.setTop (mkF m 1 #[.val (.int q1), .val (.int q2), .val (.int q3), .val (.int q4), .unset, .unset] [(.int q3)]))
  by_cases hc1_6 : (0 : Int32) < q3
  · refine OGo.eqvI (show (g1_1_8 q1 q2 q3 q4) = (g1_6_7 q1 q2 q3 q4) from if_pos hc1_6) ?_
    refine OGo.st (fun t k => XS.ifNo X0.here hx rfl (hb hby d1_1) rfl ((if0 _ _).trans (tlt hc1_6).2.2.2) k) ?_
    show OGo p e below _ (s₁.setTop (mkF m 4 #[.val (.int q1), .val (.int q2), .val (.int q3), .val (.int q4), .unset, .unset] []))
    refine OGo.st (fun t k => XS.iloadN X0.here hx rfl (hb hby d1_4) rfl k) ?_
    show OGo p e below _ (s₁.setTop (mkF m 5 #[.val (.int q1), .val (.int q2), .val (.int q3), .val (.int q4), .unset, .unset] [(.int q4)]))
    refine OGo.st (fun t k => XS.iconst X0.here hx rfl (hb hby d1_5) k) ?_
    show OGo p e below _ (s₁.setTop (mkF m 6 #[.val (.int q1), .val (.int q2), .val (.int q3), .val (.int q4), .unset, .unset] [(.int (1 : Int32)), (.int q4)]))
    by_cases hc6_7 : (1 : Int32) < q4
    · refine OGo.eqvI (show (g1_6_7 q1 q2 q3 q4) = (g1_j13 q1 q2 q3 q4) from if_pos hc6_7) ?_
      refine OGo.st (fun t k => XS.icmpYes X0.here hx rfl (pc0 := 6) (pc' := 13) rfl (hb hby d1_6) rfl (tlt hc6_7).2.2.1 (by decide) (by decide) k) ?_
      show OGo p e below _ (s₁.setTop (mkF m 13 #[.val (.int q1), .val (.int q2), .val (.int q3), .val (.int q4), .unset, .unset] []))
      exact J13 s₁ _ X0 e0 N0 
    · refine OGo.eqvI (show (g1_6_7 q1 q2 q3 q4) = (g1_10_6 q1 q2 q3 q4) from if_neg hc6_7) ?_
      refine OGo.st (fun t k => XS.icmpNo X0.here hx rfl (hb hby d1_6) rfl (flt hc6_7).2.2.1 k) ?_
      show OGo p e below _ (s₁.setTop (mkF m 9 #[.val (.int q1), .val (.int q2), .val (.int q3), .val (.int q4), .unset, .unset] []))
      refine OGo.st (fun t k => XS.iloadN X0.here hx rfl (hb hby d1_9) rfl k) ?_
      show OGo p e below _ (s₁.setTop (mkF m 10 #[.val (.int q1), .val (.int q2), .val (.int q3), .val (.int q4), .unset, .unset] [(.int q1)]))
      by_cases hc10_8 : q1 = (0 : Int32)
      · refine OGo.eqvI (show (g1_10_6 q1 q2 q3 q4) = (g1_j13 q1 q2 q3 q4) from if_pos hc10_8) ?_
        refine OGo.st (fun t k => XS.ifNo X0.here hx rfl (hb hby d1_10) rfl ((if0 _ _).trans (teq hc10_8).2) k) ?_
        show OGo p e below _ (s₁.setTop (mkF m 13 #[.val (.int q1), .val (.int q2), .val (.int q3), .val (.int q4), .unset, .unset] []))
        exact J13 s₁ _ X0 e0 N0 
      · refine OGo.eqvI (show (g1_10_6 q1 q2 q3 q4) = (g1_j17 q1 q2 q3 q4) from if_neg hc10_8) ?_
        refine OGo.st (fun t k => XS.ifYes X0.here hx rfl (pc0 := 10) (pc' := 17) rfl (hb hby d1_10) rfl ((if0 _ _).trans (feq hc10_8).2) (by decide) (by decide) k) ?_
        show OGo p e below _ (s₁.setTop (mkF m 17 #[.val (.int q1), .val (.int q2), .val (.int q3), .val (.int q4), .unset, .unset] []))
        exact J17 s₁ _ X0 e0 N0 
  · refine OGo.eqvI (show (g1_1_8 q1 q2 q3 q4) = (g1_j17 q1 q2 q3 q4) from if_neg hc1_6) ?_
    refine OGo.st (fun t k => XS.ifYes X0.here hx rfl (pc0 := 1) (pc' := 17) rfl (hb hby d1_1) rfl ((if0 _ _).trans (flt hc1_6).2.2.2) (by decide) (by decide) k) ?_
    show OGo p e below _ (s₁.setTop (mkF m 17 #[.val (.int q1), .val (.int q2), .val (.int q3), .val (.int q4), .unset, .unset] []))
    exact J17 s₁ _ X0 e0 N0 
theorem d2_0 : decode method_2_code 0 = .ok (.iload_n 0, 1) := by decide +kernel
theorem d2_1 : decode method_2_code 1 = .ok (.ifCond .ne 11, 3) := by decide +kernel
theorem d2_4 : decode method_2_code 4 = .ok (.iload_n 2, 1) := by decide +kernel
theorem d2_5 : decode method_2_code 5 = .ok (.ifCond .ne 5, 3) := by decide +kernel
theorem d2_8 : decode method_2_code 8 = .ok (.iconst 0, 1) := by decide +kernel
theorem d2_9 : decode method_2_code 9 = .ok (.ireturn, 1) := by decide +kernel
theorem d2_10 : decode method_2_code 10 = .ok (.iconst 2, 1) := by decide +kernel
theorem d2_11 : decode method_2_code 11 = .ok (.ireturn, 1) := by decide +kernel
theorem d2_12 : decode method_2_code 12 = .ok (.iload_n 2, 1) := by decide +kernel
theorem d2_13 : decode method_2_code 13 = .ok (.ifCond .ne 5, 3) := by decide +kernel
theorem d2_16 : decode method_2_code 16 = .ok (.iconst 1, 1) := by decide +kernel
theorem d2_17 : decode method_2_code 17 = .ok (.ireturn, 1) := by decide +kernel
theorem d2_18 : decode method_2_code 18 = .ok (.iconst 0, 1) := by decide +kernel
theorem d2_19 : decode method_2_code 19 = .ok (.istore 4, 2) := by decide +kernel
theorem d2_21 : decode method_2_code 21 = .ok (.iload_n 3, 1) := by decide +kernel
theorem d2_22 : decode method_2_code 22 = .ok (.iconst 1, 1) := by decide +kernel
theorem d2_23 : decode method_2_code 23 = .ok (.if_icmp .le 23, 3) := by decide +kernel
theorem d2_26 : decode method_2_code 26 = .ok (.iload 4, 2) := by decide +kernel
theorem d2_28 : decode method_2_code 28 = .ok (.iconst 2, 1) := by decide +kernel
theorem d2_29 : decode method_2_code 29 = .ok (.iadd, 1) := by decide +kernel
theorem d2_30 : decode method_2_code 30 = .ok (.istore 4, 2) := by decide +kernel
theorem d2_32 : decode method_2_code 32 = .ok (.iload_n 1, 1) := by decide +kernel
theorem d2_33 : decode method_2_code 33 = .ok (.iconst 1, 1) := by decide +kernel
theorem d2_34 : decode method_2_code 34 = .ok (.if_icmp .le 18, 3) := by decide +kernel
theorem d2_37 : decode method_2_code 37 = .ok (.iload 4, 2) := by decide +kernel
theorem d2_39 : decode method_2_code 39 = .ok (.iconst 1, 1) := by decide +kernel
theorem d2_40 : decode method_2_code 40 = .ok (.iadd, 1) := by decide +kernel
theorem d2_41 : decode method_2_code 41 = .ok (.istore 4, 2) := by decide +kernel
theorem d2_43 : decode method_2_code 43 = .ok (.goto 9, 3) := by decide +kernel
theorem d2_46 : decode method_2_code 46 = .ok (.iload 4, 2) := by decide +kernel
theorem d2_48 : decode method_2_code 48 = .ok (.iconst 1, 1) := by decide +kernel
theorem d2_49 : decode method_2_code 49 = .ok (.iadd, 1) := by decide +kernel
theorem d2_50 : decode method_2_code 50 = .ok (.istore 4, 2) := by decide +kernel
theorem d2_52 : decode method_2_code 52 = .ok (.iload 4, 2) := by decide +kernel
theorem d2_54 : decode method_2_code 54 = .ok (.ireturn, 1) := by decide +kernel
theorem pn2 : plainName "com/example/lockstep/lockstep/check/ObligationsKeptStepsPinLaw" = true := by first | (simp [plainName, overriddenIn]; done) | decide +kernel
theorem ef2 (m : MethodId) (q1 : Int32) (q2 : Int32) (q3 : Int32) (q4 : Int32) : entryFrame m #[(.int q1), (.int q2), (.int q3), (.int q4)] 5 = mkF m 0 #[.val (.int q1), .val (.int q2), .val (.int q3), .val (.int q4), .unset] [] := by first | (simp [entryFrame, mkF, argsToLocals, Value.category]; done) | rfl
def g2_5_1 (q1 : Int32) (q2 : Int32) (q3 : Int32) (q4 : Int32) : Int32 := if q3 = (0 : Int32) then (0 : Int32) else (2 : Int32)
def g2_34_2 (q1 : Int32) (q2 : Int32) (q3 : Int32) (q4 : Int32) : Int32 := if (1 : Int32) < q2 then (3 : Int32) else (2 : Int32)
def g2_23_3 (q1 : Int32) (q2 : Int32) (q3 : Int32) (q4 : Int32) : Int32 := if (1 : Int32) < q4 then (g2_34_2 q1 q2 q3 q4) else (1 : Int32)
def g2_13_4 (q1 : Int32) (q2 : Int32) (q3 : Int32) (q4 : Int32) : Int32 := if q3 = (0 : Int32) then (1 : Int32) else (g2_23_3 q1 q2 q3 q4)
def g2_1_5 (q1 : Int32) (q2 : Int32) (q3 : Int32) (q4 : Int32) : Int32 := if q1 = (0 : Int32) then (g2_5_1 q1 q2 q3 q4) else (g2_13_4 q1 q2 q3 q4)
def f2 (q1 : Int32) (q2 : Int32) (q3 : Int32) (q4 : Int32) : Int32 := (g2_1_5 q1 q2 q3 q4)
set_option maxRecDepth 65536 in
set_option maxHeartbeats 40000000 in
theorem rm2 (l : Launch) (Z : State) (a0 : Array Value) (hw : ∀ d ∈ tables_1, d.before a0 Z = true) (ws : List Jvm.Cond) (q1 : Int32) (q2 : Int32) (q3 : Int32) (q4 : Int32) (h0 : Heap) (n0 : Nat) (Z0 : n0 ≤ h0.size) :
    MetFree l (⟨"com/example/lockstep/lockstep/check/ObligationsKeptStepsPinLaw", "expected", "(IIII)I"⟩ : MethodName) (head1 (Jvm.Cond.code (⟨"com/example/lockstep/lockstep/check/ObligationsKeptStepsPinLaw", "expected", "(IIII)I"⟩ : MethodName) method_2_code 5 (some .int) :: ws) ({ frames := 0, cells := 0, slots := 0, locals := 0 } : Room)) (fun a U => a = #[(.int q1), (.int q2), (.int q3), (.int q4)] ∧ Z.Warmed39 U.vm ∧ U.heap = h0) (fun _ _ _ _ _ => True) (fun _ U o U' => ∃ v L, o = .returned v ∧ PI n0 h0 (f2 q1 q2 q3 q4) v U'.heap L ∧ FrameEnd U o U' L ({ frames := 0, cells := 0, slots := 0, locals := 0 } : Room).cells ({ frames := 0, cells := 0, slots := 0, locals := 0 } : Room).slots) := by
  refine MetFree.of_bodySF (plainFor_of_name pn2) hisR ?_
  intro p e s m args below meth c s₁ Bd hml0 hP hK
  obtain ⟨rfl, hZ, hh⟩ := hP
  have hx := Bd.exec
  have hby := Bd.bytes
  have hml : c.maxLocals = 5 := hml0
  have hown : s.vm.findClass "com/example/lockstep/lockstep/check/ObligationsKeptStepsPinLaw" = some m.cls := findClass_of_methodNamed Bd.named
  have X0 : Stand p l e ({ frames := 0, cells := 0, slots := 0, locals := 0 } : Room) s m #[(.int q1), (.int q2), (.int q3), (.int q4)] below meth c s₁ [] 0 0 := Stand.of_body Bd
  have e0 : s₁.heap = h0 := by rw [← hh, Bd.state]; rfl
  have N0 := Fr.nil n0
  show OGo p e below (Out s ({ frames := 0, cells := 0, slots := 0, locals := 0 } : Room).cells ({ frames := 0, cells := 0, slots := 0, locals := 0 } : Room).slots (PI n0 h0 (f2 q1 q2 q3 q4))) (s₁.setTop (entryFrame m #[(.int q1), (.int q2), (.int q3), (.int q4)] 5))
  refine OGo.st (fun t k => castTop (ef2 m q1 q2 q3 q4) k) ?_
  show OGo p e below (Out s ({ frames := 0, cells := 0, slots := 0, locals := 0 } : Room).cells ({ frames := 0, cells := 0, slots := 0, locals := 0 } : Room).slots (PI n0 h0 (g2_1_5 q1 q2 q3 q4))) (s₁.setTop (mkF m 0 #[.val (.int q1), .val (.int q2), .val (.int q3), .val (.int q4), .unset] []))
  refine OGo.st (fun t k => XS.iloadN X0.here hx rfl (hb hby d2_0) rfl k) ?_
  show OGo p e below _ (s₁.setTop (mkF m 1 #[.val (.int q1), .val (.int q2), .val (.int q3), .val (.int q4), .unset] [(.int q1)]))
  by_cases hc1_1 : q1 = (0 : Int32)
  · refine OGo.eqvI (show (g2_1_5 q1 q2 q3 q4) = (g2_5_1 q1 q2 q3 q4) from if_pos hc1_1) ?_
    refine OGo.st (fun t k => XS.ifNo X0.here hx rfl (hb hby d2_1) rfl ((if0 _ _).trans (teq hc1_1).2) k) ?_
    show OGo p e below _ (s₁.setTop (mkF m 4 #[.val (.int q1), .val (.int q2), .val (.int q3), .val (.int q4), .unset] []))
    refine OGo.st (fun t k => XS.iloadN X0.here hx rfl (hb hby d2_4) rfl k) ?_
    show OGo p e below _ (s₁.setTop (mkF m 5 #[.val (.int q1), .val (.int q2), .val (.int q3), .val (.int q4), .unset] [(.int q3)]))
    by_cases hc5_2 : q3 = (0 : Int32)
    · refine OGo.eqvI (show (g2_5_1 q1 q2 q3 q4) = (0 : Int32) from if_pos hc5_2) ?_
      refine OGo.st (fun t k => XS.ifNo X0.here hx rfl (hb hby d2_5) rfl ((if0 _ _).trans (teq hc5_2).2) k) ?_
      show OGo p e below _ (s₁.setTop (mkF m 8 #[.val (.int q1), .val (.int q2), .val (.int q3), .val (.int q4), .unset] []))
      refine OGo.st (fun t k => XS.iconst X0.here hx rfl (hb hby d2_8) k) ?_
      show OGo p e below _ (s₁.setTop (mkF m 9 #[.val (.int q1), .val (.int q2), .val (.int q3), .val (.int q4), .unset] [(.int (0 : Int32))]))
      exact OGo.outI X0 hx Bd.returns Bd.notSynchronized (hb hby d2_9) ⟨rfl, N0, e0⟩ (by decide) (by decide)
    · refine OGo.eqvI (show (g2_5_1 q1 q2 q3 q4) = (2 : Int32) from if_neg hc5_2) ?_
      refine OGo.st (fun t k => XS.ifYes X0.here hx rfl (pc0 := 5) (pc' := 10) rfl (hb hby d2_5) rfl ((if0 _ _).trans (feq hc5_2).2) (by decide) (by decide) k) ?_
      show OGo p e below _ (s₁.setTop (mkF m 10 #[.val (.int q1), .val (.int q2), .val (.int q3), .val (.int q4), .unset] []))
      refine OGo.st (fun t k => XS.iconst X0.here hx rfl (hb hby d2_10) k) ?_
      show OGo p e below _ (s₁.setTop (mkF m 11 #[.val (.int q1), .val (.int q2), .val (.int q3), .val (.int q4), .unset] [(.int (2 : Int32))]))
      exact OGo.outI X0 hx Bd.returns Bd.notSynchronized (hb hby d2_11) ⟨rfl, N0, e0⟩ (by decide) (by decide)
  · refine OGo.eqvI (show (g2_1_5 q1 q2 q3 q4) = (g2_13_4 q1 q2 q3 q4) from if_neg hc1_1) ?_
    refine OGo.st (fun t k => XS.ifYes X0.here hx rfl (pc0 := 1) (pc' := 12) rfl (hb hby d2_1) rfl ((if0 _ _).trans (feq hc1_1).2) (by decide) (by decide) k) ?_
    show OGo p e below _ (s₁.setTop (mkF m 12 #[.val (.int q1), .val (.int q2), .val (.int q3), .val (.int q4), .unset] []))
    refine OGo.st (fun t k => XS.iloadN X0.here hx rfl (hb hby d2_12) rfl k) ?_
    show OGo p e below _ (s₁.setTop (mkF m 13 #[.val (.int q1), .val (.int q2), .val (.int q3), .val (.int q4), .unset] [(.int q3)]))
    by_cases hc13_3 : q3 = (0 : Int32)
    · refine OGo.eqvI (show (g2_13_4 q1 q2 q3 q4) = (1 : Int32) from if_pos hc13_3) ?_
      refine OGo.st (fun t k => XS.ifNo X0.here hx rfl (hb hby d2_13) rfl ((if0 _ _).trans (teq hc13_3).2) k) ?_
      show OGo p e below _ (s₁.setTop (mkF m 16 #[.val (.int q1), .val (.int q2), .val (.int q3), .val (.int q4), .unset] []))
      refine OGo.st (fun t k => XS.iconst X0.here hx rfl (hb hby d2_16) k) ?_
      show OGo p e below _ (s₁.setTop (mkF m 17 #[.val (.int q1), .val (.int q2), .val (.int q3), .val (.int q4), .unset] [(.int (1 : Int32))]))
      exact OGo.outI X0 hx Bd.returns Bd.notSynchronized (hb hby d2_17) ⟨rfl, N0, e0⟩ (by decide) (by decide)
    · refine OGo.eqvI (show (g2_13_4 q1 q2 q3 q4) = (g2_23_3 q1 q2 q3 q4) from if_neg hc13_3) ?_
      refine OGo.st (fun t k => XS.ifYes X0.here hx rfl (pc0 := 13) (pc' := 18) rfl (hb hby d2_13) rfl ((if0 _ _).trans (feq hc13_3).2) (by decide) (by decide) k) ?_
      show OGo p e below _ (s₁.setTop (mkF m 18 #[.val (.int q1), .val (.int q2), .val (.int q3), .val (.int q4), .unset] []))
      refine OGo.st (fun t k => XS.iconst X0.here hx rfl (hb hby d2_18) k) ?_
      show OGo p e below _ (s₁.setTop (mkF m 19 #[.val (.int q1), .val (.int q2), .val (.int q3), .val (.int q4), .unset] [(.int (0 : Int32))]))
      refine OGo.st (fun t k => XS.istore X0.here hx rfl (hb hby d2_19) rfl (l' := #[.val (.int q1), .val (.int q2), .val (.int q3), .val (.int q4), .val (.int (0 : Int32))]) rfl k) ?_
      show OGo p e below _ (s₁.setTop (mkF m 21 #[.val (.int q1), .val (.int q2), .val (.int q3), .val (.int q4), .val (.int (0 : Int32))] []))
      refine OGo.st (fun t k => XS.iloadN X0.here hx rfl (hb hby d2_21) rfl k) ?_
      show OGo p e below _ (s₁.setTop (mkF m 22 #[.val (.int q1), .val (.int q2), .val (.int q3), .val (.int q4), .val (.int (0 : Int32))] [(.int q4)]))
      refine OGo.st (fun t k => XS.iconst X0.here hx rfl (hb hby d2_22) k) ?_
      show OGo p e below _ (s₁.setTop (mkF m 23 #[.val (.int q1), .val (.int q2), .val (.int q3), .val (.int q4), .val (.int (0 : Int32))] [(.int (1 : Int32)), (.int q4)]))
      by_cases hc23_4 : (1 : Int32) < q4
      · refine OGo.eqvI (show (g2_23_3 q1 q2 q3 q4) = (g2_34_2 q1 q2 q3 q4) from if_pos hc23_4) ?_
        refine OGo.st (fun t k => XS.icmpNo X0.here hx rfl (hb hby d2_23) rfl (tlt hc23_4).2.2.2 k) ?_
        show OGo p e below _ (s₁.setTop (mkF m 26 #[.val (.int q1), .val (.int q2), .val (.int q3), .val (.int q4), .val (.int (0 : Int32))] []))
        refine OGo.st (fun t k => XS.iload X0.here hx rfl (hb hby d2_26) rfl k) ?_
        show OGo p e below _ (s₁.setTop (mkF m 28 #[.val (.int q1), .val (.int q2), .val (.int q3), .val (.int q4), .val (.int (0 : Int32))] [(.int (0 : Int32))]))
        refine OGo.st (fun t k => XS.iconst X0.here hx rfl (hb hby d2_28) k) ?_
        show OGo p e below _ (s₁.setTop (mkF m 29 #[.val (.int q1), .val (.int q2), .val (.int q3), .val (.int q4), .val (.int (0 : Int32))] [(.int (2 : Int32)), (.int (0 : Int32))]))
        refine OGo.st (fun t k => XS.iadd X0.here hx rfl (hb hby d2_29) rfl k) ?_
        show OGo p e below _ (s₁.setTop (mkF m 30 #[.val (.int q1), .val (.int q2), .val (.int q3), .val (.int q4), .val (.int (0 : Int32))] [(.int (2 : Int32))]))
        refine OGo.st (fun t k => XS.istore X0.here hx rfl (hb hby d2_30) rfl (l' := #[.val (.int q1), .val (.int q2), .val (.int q3), .val (.int q4), .val (.int (2 : Int32))]) rfl k) ?_
        show OGo p e below _ (s₁.setTop (mkF m 32 #[.val (.int q1), .val (.int q2), .val (.int q3), .val (.int q4), .val (.int (2 : Int32))] []))
        refine OGo.st (fun t k => XS.iloadN X0.here hx rfl (hb hby d2_32) rfl k) ?_
        show OGo p e below _ (s₁.setTop (mkF m 33 #[.val (.int q1), .val (.int q2), .val (.int q3), .val (.int q4), .val (.int (2 : Int32))] [(.int q2)]))
        refine OGo.st (fun t k => XS.iconst X0.here hx rfl (hb hby d2_33) k) ?_
        show OGo p e below _ (s₁.setTop (mkF m 34 #[.val (.int q1), .val (.int q2), .val (.int q3), .val (.int q4), .val (.int (2 : Int32))] [(.int (1 : Int32)), (.int q2)]))
        by_cases hc34_5 : (1 : Int32) < q2
        · refine OGo.eqvI (show (g2_34_2 q1 q2 q3 q4) = (3 : Int32) from if_pos hc34_5) ?_
          refine OGo.st (fun t k => XS.icmpNo X0.here hx rfl (hb hby d2_34) rfl (tlt hc34_5).2.2.2 k) ?_
          show OGo p e below _ (s₁.setTop (mkF m 37 #[.val (.int q1), .val (.int q2), .val (.int q3), .val (.int q4), .val (.int (2 : Int32))] []))
          refine OGo.st (fun t k => XS.iload X0.here hx rfl (hb hby d2_37) rfl k) ?_
          show OGo p e below _ (s₁.setTop (mkF m 39 #[.val (.int q1), .val (.int q2), .val (.int q3), .val (.int q4), .val (.int (2 : Int32))] [(.int (2 : Int32))]))
          refine OGo.st (fun t k => XS.iconst X0.here hx rfl (hb hby d2_39) k) ?_
          show OGo p e below _ (s₁.setTop (mkF m 40 #[.val (.int q1), .val (.int q2), .val (.int q3), .val (.int q4), .val (.int (2 : Int32))] [(.int (1 : Int32)), (.int (2 : Int32))]))
          refine OGo.st (fun t k => XS.iadd X0.here hx rfl (hb hby d2_40) rfl k) ?_
          show OGo p e below _ (s₁.setTop (mkF m 41 #[.val (.int q1), .val (.int q2), .val (.int q3), .val (.int q4), .val (.int (2 : Int32))] [(.int (3 : Int32))]))
          refine OGo.st (fun t k => XS.istore X0.here hx rfl (hb hby d2_41) rfl (l' := #[.val (.int q1), .val (.int q2), .val (.int q3), .val (.int q4), .val (.int (3 : Int32))]) rfl k) ?_
          show OGo p e below _ (s₁.setTop (mkF m 43 #[.val (.int q1), .val (.int q2), .val (.int q3), .val (.int q4), .val (.int (3 : Int32))] []))
          refine OGo.st (fun t k => XS.goto X0.here hx rfl (pc0 := 43) (pc' := 52) rfl (hb hby d2_43) (by decide) (by decide) k) ?_
          show OGo p e below _ (s₁.setTop (mkF m 52 #[.val (.int q1), .val (.int q2), .val (.int q3), .val (.int q4), .val (.int (3 : Int32))] []))
          refine OGo.st (fun t k => XS.iload X0.here hx rfl (hb hby d2_52) rfl k) ?_
          show OGo p e below _ (s₁.setTop (mkF m 54 #[.val (.int q1), .val (.int q2), .val (.int q3), .val (.int q4), .val (.int (3 : Int32))] [(.int (3 : Int32))]))
          exact OGo.outI X0 hx Bd.returns Bd.notSynchronized (hb hby d2_54) ⟨rfl, N0, e0⟩ (by decide) (by decide)
        · refine OGo.eqvI (show (g2_34_2 q1 q2 q3 q4) = (2 : Int32) from if_neg hc34_5) ?_
          refine OGo.st (fun t k => XS.icmpYes X0.here hx rfl (pc0 := 34) (pc' := 52) rfl (hb hby d2_34) rfl (flt hc34_5).2.2.2 (by decide) (by decide) k) ?_
          show OGo p e below _ (s₁.setTop (mkF m 52 #[.val (.int q1), .val (.int q2), .val (.int q3), .val (.int q4), .val (.int (2 : Int32))] []))
          refine OGo.st (fun t k => XS.iload X0.here hx rfl (hb hby d2_52) rfl k) ?_
          show OGo p e below _ (s₁.setTop (mkF m 54 #[.val (.int q1), .val (.int q2), .val (.int q3), .val (.int q4), .val (.int (2 : Int32))] [(.int (2 : Int32))]))
          exact OGo.outI X0 hx Bd.returns Bd.notSynchronized (hb hby d2_54) ⟨rfl, N0, e0⟩ (by decide) (by decide)
      · refine OGo.eqvI (show (g2_23_3 q1 q2 q3 q4) = (1 : Int32) from if_neg hc23_4) ?_
        refine OGo.st (fun t k => XS.icmpYes X0.here hx rfl (pc0 := 23) (pc' := 46) rfl (hb hby d2_23) rfl (flt hc23_4).2.2.2 (by decide) (by decide) k) ?_
        show OGo p e below _ (s₁.setTop (mkF m 46 #[.val (.int q1), .val (.int q2), .val (.int q3), .val (.int q4), .val (.int (0 : Int32))] []))
        refine OGo.st (fun t k => XS.iload X0.here hx rfl (hb hby d2_46) rfl k) ?_
        show OGo p e below _ (s₁.setTop (mkF m 48 #[.val (.int q1), .val (.int q2), .val (.int q3), .val (.int q4), .val (.int (0 : Int32))] [(.int (0 : Int32))]))
        refine OGo.st (fun t k => XS.iconst X0.here hx rfl (hb hby d2_48) k) ?_
        show OGo p e below _ (s₁.setTop (mkF m 49 #[.val (.int q1), .val (.int q2), .val (.int q3), .val (.int q4), .val (.int (0 : Int32))] [(.int (1 : Int32)), (.int (0 : Int32))]))
        refine OGo.st (fun t k => XS.iadd X0.here hx rfl (hb hby d2_49) rfl k) ?_
        show OGo p e below _ (s₁.setTop (mkF m 50 #[.val (.int q1), .val (.int q2), .val (.int q3), .val (.int q4), .val (.int (0 : Int32))] [(.int (1 : Int32))]))
        refine OGo.st (fun t k => XS.istore X0.here hx rfl (hb hby d2_50) rfl (l' := #[.val (.int q1), .val (.int q2), .val (.int q3), .val (.int q4), .val (.int (1 : Int32))]) rfl k) ?_
        show OGo p e below _ (s₁.setTop (mkF m 52 #[.val (.int q1), .val (.int q2), .val (.int q3), .val (.int q4), .val (.int (1 : Int32))] []))
        refine OGo.st (fun t k => XS.iload X0.here hx rfl (hb hby d2_52) rfl k) ?_
        show OGo p e below _ (s₁.setTop (mkF m 54 #[.val (.int q1), .val (.int q2), .val (.int q3), .val (.int q4), .val (.int (1 : Int32))] [(.int (1 : Int32))]))
        exact OGo.outI X0 hx Bd.returns Bd.notSynchronized (hb hby d2_54) ⟨rfl, N0, e0⟩ (by decide) (by decide)
theorem pn0 : plainName "com/example/lockstep/lockstep/check/ObligationsKeptStepsPinLaw" = true := by first | (simp [plainName, overriddenIn]; done) | decide +kernel
theorem pd0_0 : parseMethodDescriptor "(IIII)I" = some ⟨[.int, .int, .int, .int], some .int⟩ := by decide +kernel
theorem ef0 (m : MethodId) (q1 : Int32) (q2 : Int32) (q3 : Int32) (q4 : Int32) : entryFrame m #[(.int q1), (.int q2), (.int q3), (.int q4)] maxLocals = mkF m 0 #[.val (.int q1), .val (.int q2), .val (.int q3), .val (.int q4), .unset, .unset, .unset, .unset, .unset] [] := by first | (simp [entryFrame, mkF, argsToLocals, Value.category, maxLocals]; done) | rfl
def g0_50_1 (q1 : Int32) (q2 : Int32) (q3 : Int32) (q4 : Int32) : Int32 := if (f1 (q1 &&& (2147483647 : Int32)) (q2 &&& (2147483647 : Int32)) (q3 &&& (2147483647 : Int32)) (q4 &&& (2147483647 : Int32))) = (f2 (q1 &&& (2147483647 : Int32)) (q2 &&& (2147483647 : Int32)) (q3 &&& (2147483647 : Int32)) (q4 &&& (2147483647 : Int32))) then (1 : Int32) else (0 : Int32)
def f0 (q1 : Int32) (q2 : Int32) (q3 : Int32) (q4 : Int32) : Int32 := (g0_50_1 q1 q2 q3 q4)
set_option maxRecDepth 65536 in
set_option maxHeartbeats 40000000 in
theorem rm0 (l : Launch) (Z : State) (a0 : Array Value) (hw : ∀ d ∈ tables_1, d.before a0 Z = true) (ws : List Jvm.Cond) (q1 : Int32) (q2 : Int32) (q3 : Int32) (q4 : Int32) (h0 : Heap) (n0 : Nat) (Z0 : n0 ≤ h0.size) :
    MetFree l x (head1 (Jvm.Cond.code x code maxLocals ret :: ws) room_1) (fun a U => a = #[(.int q1), (.int q2), (.int q3), (.int q4)] ∧ Z.Warmed39 U.vm ∧ U.heap = h0) (fun _ _ _ _ _ => True) (fun _ U o U' => ∃ v L, o = .returned v ∧ PI n0 h0 (f0 q1 q2 q3 q4) v U'.heap L ∧ FrameEnd U o U' L room_1.cells room_1.slots) := by
  refine MetFree.of_bodySF (plainFor_of_name pn0) hisR ?_
  intro p e s m args below meth c s₁ Bd hml0 hP hK
  obtain ⟨rfl, hZ, hh⟩ := hP
  have hx := Bd.exec
  have hby := Bd.bytes
  have hml : c.maxLocals = 9 := hml0
  have hown : s.vm.findClass "com/example/lockstep/lockstep/check/ObligationsKeptStepsPinLaw" = some m.cls := findClass_of_methodNamed Bd.named
  have X0 : Stand p l e room_1 s m #[(.int q1), (.int q2), (.int q3), (.int q4)] below meth c s₁ [] 0 0 := Stand.of_body Bd
  have e0 : s₁.heap = h0 := by rw [← hh, Bd.state]; rfl
  have N0 := Fr.nil n0
  show OGo p e below (Out s room_1.cells room_1.slots (PI n0 h0 (f0 q1 q2 q3 q4))) (s₁.setTop (entryFrame m #[(.int q1), (.int q2), (.int q3), (.int q4)] maxLocals))
  refine OGo.st (fun t k => castTop (ef0 m q1 q2 q3 q4) k) ?_
  show OGo p e below (Out s room_1.cells room_1.slots (PI n0 h0 (g0_50_1 q1 q2 q3 q4))) (s₁.setTop (mkF m 0 #[.val (.int q1), .val (.int q2), .val (.int q3), .val (.int q4), .unset, .unset, .unset, .unset, .unset] []))
  refine OGo.st (fun t k => XS.iloadN X0.here hx rfl (hb hby at_0) rfl k) ?_
  show OGo p e below _ (s₁.setTop (mkF m 1 #[.val (.int q1), .val (.int q2), .val (.int q3), .val (.int q4), .unset, .unset, .unset, .unset, .unset] [(.int q1)]))
  refine OGo.st (fun t k => X0.ldcInt hx hown (mvT hZ (hw _ (List.mem_of_getElem? (i := 0) rfl))) (g := (mkF m 1 #[.val (.int q1), .val (.int q2), .val (.int q3), .val (.int q4), .unset, .unset, .unset, .unset, .unset] [(.int q1)])) rfl (hb hby at_1) t k) ?_
  show OGo p e below _ (s₁.setTop (mkF m 3 #[.val (.int q1), .val (.int q2), .val (.int q3), .val (.int q4), .unset, .unset, .unset, .unset, .unset] [(.int (2147483647 : Int32)), (.int q1)]))
  refine OGo.st (fun t k => XS.iand X0.here hx rfl (hb hby at_3) rfl k) ?_
  show OGo p e below _ (s₁.setTop (mkF m 4 #[.val (.int q1), .val (.int q2), .val (.int q3), .val (.int q4), .unset, .unset, .unset, .unset, .unset] [(.int (q1 &&& (2147483647 : Int32)))]))
  refine OGo.st (fun t k => XS.istore X0.here hx rfl (hb hby at_4) rfl (l' := #[.val (.int q1), .val (.int q2), .val (.int q3), .val (.int q4), .val (.int (q1 &&& (2147483647 : Int32))), .unset, .unset, .unset, .unset]) rfl k) ?_
  show OGo p e below _ (s₁.setTop (mkF m 6 #[.val (.int q1), .val (.int q2), .val (.int q3), .val (.int q4), .val (.int (q1 &&& (2147483647 : Int32))), .unset, .unset, .unset, .unset] []))
  refine OGo.st (fun t k => XS.iloadN X0.here hx rfl (hb hby at_6) rfl k) ?_
  show OGo p e below _ (s₁.setTop (mkF m 7 #[.val (.int q1), .val (.int q2), .val (.int q3), .val (.int q4), .val (.int (q1 &&& (2147483647 : Int32))), .unset, .unset, .unset, .unset] [(.int q2)]))
  refine OGo.st (fun t k => X0.ldcInt hx hown (mvT hZ (hw _ (List.mem_of_getElem? (i := 0) rfl))) (g := (mkF m 7 #[.val (.int q1), .val (.int q2), .val (.int q3), .val (.int q4), .val (.int (q1 &&& (2147483647 : Int32))), .unset, .unset, .unset, .unset] [(.int q2)])) rfl (hb hby at_7) t k) ?_
  show OGo p e below _ (s₁.setTop (mkF m 9 #[.val (.int q1), .val (.int q2), .val (.int q3), .val (.int q4), .val (.int (q1 &&& (2147483647 : Int32))), .unset, .unset, .unset, .unset] [(.int (2147483647 : Int32)), (.int q2)]))
  refine OGo.st (fun t k => XS.iand X0.here hx rfl (hb hby at_9) rfl k) ?_
  show OGo p e below _ (s₁.setTop (mkF m 10 #[.val (.int q1), .val (.int q2), .val (.int q3), .val (.int q4), .val (.int (q1 &&& (2147483647 : Int32))), .unset, .unset, .unset, .unset] [(.int (q2 &&& (2147483647 : Int32)))]))
  refine OGo.st (fun t k => XS.istore X0.here hx rfl (hb hby at_10) rfl (l' := #[.val (.int q1), .val (.int q2), .val (.int q3), .val (.int q4), .val (.int (q1 &&& (2147483647 : Int32))), .val (.int (q2 &&& (2147483647 : Int32))), .unset, .unset, .unset]) rfl k) ?_
  show OGo p e below _ (s₁.setTop (mkF m 12 #[.val (.int q1), .val (.int q2), .val (.int q3), .val (.int q4), .val (.int (q1 &&& (2147483647 : Int32))), .val (.int (q2 &&& (2147483647 : Int32))), .unset, .unset, .unset] []))
  refine OGo.st (fun t k => XS.iloadN X0.here hx rfl (hb hby at_12) rfl k) ?_
  show OGo p e below _ (s₁.setTop (mkF m 13 #[.val (.int q1), .val (.int q2), .val (.int q3), .val (.int q4), .val (.int (q1 &&& (2147483647 : Int32))), .val (.int (q2 &&& (2147483647 : Int32))), .unset, .unset, .unset] [(.int q3)]))
  refine OGo.st (fun t k => X0.ldcInt hx hown (mvT hZ (hw _ (List.mem_of_getElem? (i := 0) rfl))) (g := (mkF m 13 #[.val (.int q1), .val (.int q2), .val (.int q3), .val (.int q4), .val (.int (q1 &&& (2147483647 : Int32))), .val (.int (q2 &&& (2147483647 : Int32))), .unset, .unset, .unset] [(.int q3)])) rfl (hb hby at_13) t k) ?_
  show OGo p e below _ (s₁.setTop (mkF m 15 #[.val (.int q1), .val (.int q2), .val (.int q3), .val (.int q4), .val (.int (q1 &&& (2147483647 : Int32))), .val (.int (q2 &&& (2147483647 : Int32))), .unset, .unset, .unset] [(.int (2147483647 : Int32)), (.int q3)]))
  refine OGo.st (fun t k => XS.iand X0.here hx rfl (hb hby at_15) rfl k) ?_
  show OGo p e below _ (s₁.setTop (mkF m 16 #[.val (.int q1), .val (.int q2), .val (.int q3), .val (.int q4), .val (.int (q1 &&& (2147483647 : Int32))), .val (.int (q2 &&& (2147483647 : Int32))), .unset, .unset, .unset] [(.int (q3 &&& (2147483647 : Int32)))]))
  refine OGo.st (fun t k => XS.istore X0.here hx rfl (hb hby at_16) rfl (l' := #[.val (.int q1), .val (.int q2), .val (.int q3), .val (.int q4), .val (.int (q1 &&& (2147483647 : Int32))), .val (.int (q2 &&& (2147483647 : Int32))), .val (.int (q3 &&& (2147483647 : Int32))), .unset, .unset]) rfl k) ?_
  show OGo p e below _ (s₁.setTop (mkF m 18 #[.val (.int q1), .val (.int q2), .val (.int q3), .val (.int q4), .val (.int (q1 &&& (2147483647 : Int32))), .val (.int (q2 &&& (2147483647 : Int32))), .val (.int (q3 &&& (2147483647 : Int32))), .unset, .unset] []))
  refine OGo.st (fun t k => XS.iloadN X0.here hx rfl (hb hby at_18) rfl k) ?_
  show OGo p e below _ (s₁.setTop (mkF m 19 #[.val (.int q1), .val (.int q2), .val (.int q3), .val (.int q4), .val (.int (q1 &&& (2147483647 : Int32))), .val (.int (q2 &&& (2147483647 : Int32))), .val (.int (q3 &&& (2147483647 : Int32))), .unset, .unset] [(.int q4)]))
  refine OGo.st (fun t k => X0.ldcInt hx hown (mvT hZ (hw _ (List.mem_of_getElem? (i := 0) rfl))) (g := (mkF m 19 #[.val (.int q1), .val (.int q2), .val (.int q3), .val (.int q4), .val (.int (q1 &&& (2147483647 : Int32))), .val (.int (q2 &&& (2147483647 : Int32))), .val (.int (q3 &&& (2147483647 : Int32))), .unset, .unset] [(.int q4)])) rfl (hb hby at_19) t k) ?_
  show OGo p e below _ (s₁.setTop (mkF m 21 #[.val (.int q1), .val (.int q2), .val (.int q3), .val (.int q4), .val (.int (q1 &&& (2147483647 : Int32))), .val (.int (q2 &&& (2147483647 : Int32))), .val (.int (q3 &&& (2147483647 : Int32))), .unset, .unset] [(.int (2147483647 : Int32)), (.int q4)]))
  refine OGo.st (fun t k => XS.iand X0.here hx rfl (hb hby at_21) rfl k) ?_
  show OGo p e below _ (s₁.setTop (mkF m 22 #[.val (.int q1), .val (.int q2), .val (.int q3), .val (.int q4), .val (.int (q1 &&& (2147483647 : Int32))), .val (.int (q2 &&& (2147483647 : Int32))), .val (.int (q3 &&& (2147483647 : Int32))), .unset, .unset] [(.int (q4 &&& (2147483647 : Int32)))]))
  refine OGo.st (fun t k => XS.istore X0.here hx rfl (hb hby at_22) rfl (l' := #[.val (.int q1), .val (.int q2), .val (.int q3), .val (.int q4), .val (.int (q1 &&& (2147483647 : Int32))), .val (.int (q2 &&& (2147483647 : Int32))), .val (.int (q3 &&& (2147483647 : Int32))), .val (.int (q4 &&& (2147483647 : Int32))), .unset]) rfl k) ?_
  show OGo p e below _ (s₁.setTop (mkF m 24 #[.val (.int q1), .val (.int q2), .val (.int q3), .val (.int q4), .val (.int (q1 &&& (2147483647 : Int32))), .val (.int (q2 &&& (2147483647 : Int32))), .val (.int (q3 &&& (2147483647 : Int32))), .val (.int (q4 &&& (2147483647 : Int32))), .unset] []))
  refine OGo.st (fun t k => XS.iload X0.here hx rfl (hb hby at_24) rfl k) ?_
  show OGo p e below _ (s₁.setTop (mkF m 26 #[.val (.int q1), .val (.int q2), .val (.int q3), .val (.int q4), .val (.int (q1 &&& (2147483647 : Int32))), .val (.int (q2 &&& (2147483647 : Int32))), .val (.int (q3 &&& (2147483647 : Int32))), .val (.int (q4 &&& (2147483647 : Int32))), .unset] [(.int (q1 &&& (2147483647 : Int32)))]))
  refine OGo.st (fun t k => XS.iload X0.here hx rfl (hb hby at_26) rfl k) ?_
  show OGo p e below _ (s₁.setTop (mkF m 28 #[.val (.int q1), .val (.int q2), .val (.int q3), .val (.int q4), .val (.int (q1 &&& (2147483647 : Int32))), .val (.int (q2 &&& (2147483647 : Int32))), .val (.int (q3 &&& (2147483647 : Int32))), .val (.int (q4 &&& (2147483647 : Int32))), .unset] [(.int (q2 &&& (2147483647 : Int32))), (.int (q1 &&& (2147483647 : Int32)))]))
  refine OGo.st (fun t k => XS.iload X0.here hx rfl (hb hby at_28) rfl k) ?_
  show OGo p e below _ (s₁.setTop (mkF m 30 #[.val (.int q1), .val (.int q2), .val (.int q3), .val (.int q4), .val (.int (q1 &&& (2147483647 : Int32))), .val (.int (q2 &&& (2147483647 : Int32))), .val (.int (q3 &&& (2147483647 : Int32))), .val (.int (q4 &&& (2147483647 : Int32))), .unset] [(.int (q3 &&& (2147483647 : Int32))), (.int (q2 &&& (2147483647 : Int32))), (.int (q1 &&& (2147483647 : Int32)))]))
  refine OGo.st (fun t k => XS.iload X0.here hx rfl (hb hby at_30) rfl k) ?_
  show OGo p e below _ (s₁.setTop (mkF m 32 #[.val (.int q1), .val (.int q2), .val (.int q3), .val (.int q4), .val (.int (q1 &&& (2147483647 : Int32))), .val (.int (q2 &&& (2147483647 : Int32))), .val (.int (q3 &&& (2147483647 : Int32))), .val (.int (q4 &&& (2147483647 : Int32))), .unset] [(.int (q4 &&& (2147483647 : Int32))), (.int (q3 &&& (2147483647 : Int32))), (.int (q2 &&& (2147483647 : Int32))), (.int (q1 &&& (2147483647 : Int32)))]))
  obtain ⟨_, _, ⟨T1, L1, k1, n1⟩, -, X1, ⟨Lc1, hQ1, l1, y1, z1⟩, st1⟩ := Jvm.LawKit.callS X0 hx (y := (⟨"com/example/lockstep/lockstep/check/Obligations", "keptSteps", "(IIII)I"⟩ : MethodName)) hown (mvT hZ (hw _ (List.mem_of_getElem? (i := 1) rfl))) (mvT hZ (hw _ (List.mem_of_getElem? (i := 2) rfl))) (mvT hZ (hw _ (List.mem_of_getElem? (i := 3) rfl))) (mvT hZ (hw _ (List.mem_of_getElem? (i := 4) rfl))) (by decide) (backOf (W := 0) (rm1 l Z a0 hw [] (q1 &&& (2147483647 : Int32)) (q2 &&& (2147483647 : Int32)) (q3 &&& (2147483647 : Int32)) (q4 &&& (2147483647 : Int32)) h0 n0 Z0) hZ (hw _ (List.mem_of_getElem? (i := 4) rfl)) (hw _ (List.mem_of_getElem? (i := 3) rfl)) (by decide) (by decide)) (g := (mkF m 32 #[.val (.int q1), .val (.int q2), .val (.int q3), .val (.int q4), .val (.int (q1 &&& (2147483647 : Int32))), .val (.int (q2 &&& (2147483647 : Int32))), .val (.int (q3 &&& (2147483647 : Int32))), .val (.int (q4 &&& (2147483647 : Int32))), .unset] [(.int (q4 &&& (2147483647 : Int32))), (.int (q3 &&& (2147483647 : Int32))), (.int (q2 &&& (2147483647 : Int32))), (.int (q1 &&& (2147483647 : Int32)))])) rfl (by rw [hml]; rfl) (argsL := [(.int (q1 &&& (2147483647 : Int32))), (.int (q2 &&& (2147483647 : Int32))), (.int (q3 &&& (2147483647 : Int32))), (.int (q4 &&& (2147483647 : Int32)))]) (rest := []) (lenOf pd0_0 rfl) rfl (by show 2 * 0 + _ ≤ _; exact Nat.le_of_eq rfl) (hb hby at_32) (fun _ _ => ⟨rfl, e0, (by decide : 0 + 0 ≤ _), (by decide : 0 + 0 ≤ _)⟩)
  dsimp only [Pt.U, Pt.locs, Pt.cells, Pt.slots] at X1 l1 y1 z1 st1 hQ1
  subst l1 y1 z1
  obtain ⟨rfl, Nq1, e1⟩ := hQ1
  have N1 := Fr.app N0 Nq1
  refine OGo.st (fun t k => st1 t k) ?_
  show OGo p e below _ (T1.setTop (mkF m 35 #[.val (.int q1), .val (.int q2), .val (.int q3), .val (.int q4), .val (.int (q1 &&& (2147483647 : Int32))), .val (.int (q2 &&& (2147483647 : Int32))), .val (.int (q3 &&& (2147483647 : Int32))), .val (.int (q4 &&& (2147483647 : Int32))), .unset] [(.int (f1 (q1 &&& (2147483647 : Int32)) (q2 &&& (2147483647 : Int32)) (q3 &&& (2147483647 : Int32)) (q4 &&& (2147483647 : Int32))))]))
  refine OGo.st (fun t k => XS.istore X1.here hx rfl (hb hby at_35) rfl (l' := #[.val (.int q1), .val (.int q2), .val (.int q3), .val (.int q4), .val (.int (q1 &&& (2147483647 : Int32))), .val (.int (q2 &&& (2147483647 : Int32))), .val (.int (q3 &&& (2147483647 : Int32))), .val (.int (q4 &&& (2147483647 : Int32))), .val (.int (f1 (q1 &&& (2147483647 : Int32)) (q2 &&& (2147483647 : Int32)) (q3 &&& (2147483647 : Int32)) (q4 &&& (2147483647 : Int32))))]) rfl k) ?_
  show OGo p e below _ (T1.setTop (mkF m 37 #[.val (.int q1), .val (.int q2), .val (.int q3), .val (.int q4), .val (.int (q1 &&& (2147483647 : Int32))), .val (.int (q2 &&& (2147483647 : Int32))), .val (.int (q3 &&& (2147483647 : Int32))), .val (.int (q4 &&& (2147483647 : Int32))), .val (.int (f1 (q1 &&& (2147483647 : Int32)) (q2 &&& (2147483647 : Int32)) (q3 &&& (2147483647 : Int32)) (q4 &&& (2147483647 : Int32))))] []))
  refine OGo.st (fun t k => XS.iload X1.here hx rfl (hb hby at_37) rfl k) ?_
  show OGo p e below _ (T1.setTop (mkF m 39 #[.val (.int q1), .val (.int q2), .val (.int q3), .val (.int q4), .val (.int (q1 &&& (2147483647 : Int32))), .val (.int (q2 &&& (2147483647 : Int32))), .val (.int (q3 &&& (2147483647 : Int32))), .val (.int (q4 &&& (2147483647 : Int32))), .val (.int (f1 (q1 &&& (2147483647 : Int32)) (q2 &&& (2147483647 : Int32)) (q3 &&& (2147483647 : Int32)) (q4 &&& (2147483647 : Int32))))] [(.int (f1 (q1 &&& (2147483647 : Int32)) (q2 &&& (2147483647 : Int32)) (q3 &&& (2147483647 : Int32)) (q4 &&& (2147483647 : Int32))))]))
  refine OGo.st (fun t k => XS.iload X1.here hx rfl (hb hby at_39) rfl k) ?_
  show OGo p e below _ (T1.setTop (mkF m 41 #[.val (.int q1), .val (.int q2), .val (.int q3), .val (.int q4), .val (.int (q1 &&& (2147483647 : Int32))), .val (.int (q2 &&& (2147483647 : Int32))), .val (.int (q3 &&& (2147483647 : Int32))), .val (.int (q4 &&& (2147483647 : Int32))), .val (.int (f1 (q1 &&& (2147483647 : Int32)) (q2 &&& (2147483647 : Int32)) (q3 &&& (2147483647 : Int32)) (q4 &&& (2147483647 : Int32))))] [(.int (q1 &&& (2147483647 : Int32))), (.int (f1 (q1 &&& (2147483647 : Int32)) (q2 &&& (2147483647 : Int32)) (q3 &&& (2147483647 : Int32)) (q4 &&& (2147483647 : Int32))))]))
  refine OGo.st (fun t k => XS.iload X1.here hx rfl (hb hby at_41) rfl k) ?_
  show OGo p e below _ (T1.setTop (mkF m 43 #[.val (.int q1), .val (.int q2), .val (.int q3), .val (.int q4), .val (.int (q1 &&& (2147483647 : Int32))), .val (.int (q2 &&& (2147483647 : Int32))), .val (.int (q3 &&& (2147483647 : Int32))), .val (.int (q4 &&& (2147483647 : Int32))), .val (.int (f1 (q1 &&& (2147483647 : Int32)) (q2 &&& (2147483647 : Int32)) (q3 &&& (2147483647 : Int32)) (q4 &&& (2147483647 : Int32))))] [(.int (q2 &&& (2147483647 : Int32))), (.int (q1 &&& (2147483647 : Int32))), (.int (f1 (q1 &&& (2147483647 : Int32)) (q2 &&& (2147483647 : Int32)) (q3 &&& (2147483647 : Int32)) (q4 &&& (2147483647 : Int32))))]))
  refine OGo.st (fun t k => XS.iload X1.here hx rfl (hb hby at_43) rfl k) ?_
  show OGo p e below _ (T1.setTop (mkF m 45 #[.val (.int q1), .val (.int q2), .val (.int q3), .val (.int q4), .val (.int (q1 &&& (2147483647 : Int32))), .val (.int (q2 &&& (2147483647 : Int32))), .val (.int (q3 &&& (2147483647 : Int32))), .val (.int (q4 &&& (2147483647 : Int32))), .val (.int (f1 (q1 &&& (2147483647 : Int32)) (q2 &&& (2147483647 : Int32)) (q3 &&& (2147483647 : Int32)) (q4 &&& (2147483647 : Int32))))] [(.int (q3 &&& (2147483647 : Int32))), (.int (q2 &&& (2147483647 : Int32))), (.int (q1 &&& (2147483647 : Int32))), (.int (f1 (q1 &&& (2147483647 : Int32)) (q2 &&& (2147483647 : Int32)) (q3 &&& (2147483647 : Int32)) (q4 &&& (2147483647 : Int32))))]))
  refine OGo.st (fun t k => XS.iload X1.here hx rfl (hb hby at_45) rfl k) ?_
  show OGo p e below _ (T1.setTop (mkF m 47 #[.val (.int q1), .val (.int q2), .val (.int q3), .val (.int q4), .val (.int (q1 &&& (2147483647 : Int32))), .val (.int (q2 &&& (2147483647 : Int32))), .val (.int (q3 &&& (2147483647 : Int32))), .val (.int (q4 &&& (2147483647 : Int32))), .val (.int (f1 (q1 &&& (2147483647 : Int32)) (q2 &&& (2147483647 : Int32)) (q3 &&& (2147483647 : Int32)) (q4 &&& (2147483647 : Int32))))] [(.int (q4 &&& (2147483647 : Int32))), (.int (q3 &&& (2147483647 : Int32))), (.int (q2 &&& (2147483647 : Int32))), (.int (q1 &&& (2147483647 : Int32))), (.int (f1 (q1 &&& (2147483647 : Int32)) (q2 &&& (2147483647 : Int32)) (q3 &&& (2147483647 : Int32)) (q4 &&& (2147483647 : Int32))))]))
  obtain ⟨_, _, ⟨T2, L2, k2, n2⟩, -, X2, ⟨Lc2, hQ2, l2, y2, z2⟩, st2⟩ := Jvm.LawKit.callS X1 hx (y := (⟨"com/example/lockstep/lockstep/check/ObligationsKeptStepsPinLaw", "expected", "(IIII)I"⟩ : MethodName)) hown (mvT hZ (hw _ (List.mem_of_getElem? (i := 5) rfl))) (mvT hZ (hw _ (List.mem_of_getElem? (i := 6) rfl))) (mvT hZ (hw _ (List.mem_of_getElem? (i := 7) rfl))) (mvT hZ (hw _ (List.mem_of_getElem? (i := 8) rfl))) (by decide) (backOf (W := 1) (rm2 l Z a0 hw [] (q1 &&& (2147483647 : Int32)) (q2 &&& (2147483647 : Int32)) (q3 &&& (2147483647 : Int32)) (q4 &&& (2147483647 : Int32)) h0 n0 Z0) hZ (hw _ (List.mem_of_getElem? (i := 8) rfl)) (hw _ (List.mem_of_getElem? (i := 7) rfl)) (by decide) (by decide)) (g := (mkF m 47 #[.val (.int q1), .val (.int q2), .val (.int q3), .val (.int q4), .val (.int (q1 &&& (2147483647 : Int32))), .val (.int (q2 &&& (2147483647 : Int32))), .val (.int (q3 &&& (2147483647 : Int32))), .val (.int (q4 &&& (2147483647 : Int32))), .val (.int (f1 (q1 &&& (2147483647 : Int32)) (q2 &&& (2147483647 : Int32)) (q3 &&& (2147483647 : Int32)) (q4 &&& (2147483647 : Int32))))] [(.int (q4 &&& (2147483647 : Int32))), (.int (q3 &&& (2147483647 : Int32))), (.int (q2 &&& (2147483647 : Int32))), (.int (q1 &&& (2147483647 : Int32))), (.int (f1 (q1 &&& (2147483647 : Int32)) (q2 &&& (2147483647 : Int32)) (q3 &&& (2147483647 : Int32)) (q4 &&& (2147483647 : Int32))))])) rfl (by rw [hml]; rfl) (argsL := [(.int (q1 &&& (2147483647 : Int32))), (.int (q2 &&& (2147483647 : Int32))), (.int (q3 &&& (2147483647 : Int32))), (.int (q4 &&& (2147483647 : Int32)))]) (rest := [(.int (f1 (q1 &&& (2147483647 : Int32)) (q2 &&& (2147483647 : Int32)) (q3 &&& (2147483647 : Int32)) (q4 &&& (2147483647 : Int32))))]) (lenOf pd0_0 rfl) rfl (by show 2 * 0 + _ ≤ _; exact Nat.le_of_eq rfl) (hb hby at_47) (fun _ _ => ⟨rfl, e1, (by decide : 0 + 0 ≤ _), (by decide : 0 + 0 ≤ _)⟩)
  dsimp only [Pt.U, Pt.locs, Pt.cells, Pt.slots] at X2 l2 y2 z2 st2 hQ2
  subst l2 y2 z2
  obtain ⟨rfl, Nq2, e2⟩ := hQ2
  have N2 := Fr.app N1 Nq2
  refine OGo.st (fun t k => st2 t k) ?_
  show OGo p e below _ (T2.setTop (mkF m 50 #[.val (.int q1), .val (.int q2), .val (.int q3), .val (.int q4), .val (.int (q1 &&& (2147483647 : Int32))), .val (.int (q2 &&& (2147483647 : Int32))), .val (.int (q3 &&& (2147483647 : Int32))), .val (.int (q4 &&& (2147483647 : Int32))), .val (.int (f1 (q1 &&& (2147483647 : Int32)) (q2 &&& (2147483647 : Int32)) (q3 &&& (2147483647 : Int32)) (q4 &&& (2147483647 : Int32))))] [(.int (f2 (q1 &&& (2147483647 : Int32)) (q2 &&& (2147483647 : Int32)) (q3 &&& (2147483647 : Int32)) (q4 &&& (2147483647 : Int32)))), (.int (f1 (q1 &&& (2147483647 : Int32)) (q2 &&& (2147483647 : Int32)) (q3 &&& (2147483647 : Int32)) (q4 &&& (2147483647 : Int32))))]))
  by_cases hc50_3 : (f1 (q1 &&& (2147483647 : Int32)) (q2 &&& (2147483647 : Int32)) (q3 &&& (2147483647 : Int32)) (q4 &&& (2147483647 : Int32))) = (f2 (q1 &&& (2147483647 : Int32)) (q2 &&& (2147483647 : Int32)) (q3 &&& (2147483647 : Int32)) (q4 &&& (2147483647 : Int32)))
  · refine OGo.eqvI (show (g0_50_1 q1 q2 q3 q4) = (1 : Int32) from if_pos hc50_3) ?_
    refine OGo.st (fun t k => XS.icmpNo X2.here hx rfl (hb hby at_50) rfl (teq hc50_3).2 k) ?_
    show OGo p e below _ (T2.setTop (mkF m 53 #[.val (.int q1), .val (.int q2), .val (.int q3), .val (.int q4), .val (.int (q1 &&& (2147483647 : Int32))), .val (.int (q2 &&& (2147483647 : Int32))), .val (.int (q3 &&& (2147483647 : Int32))), .val (.int (q4 &&& (2147483647 : Int32))), .val (.int (f1 (q1 &&& (2147483647 : Int32)) (q2 &&& (2147483647 : Int32)) (q3 &&& (2147483647 : Int32)) (q4 &&& (2147483647 : Int32))))] []))
    refine OGo.st (fun t k => XS.iconst X2.here hx rfl (hb hby at_53) k) ?_
    show OGo p e below _ (T2.setTop (mkF m 54 #[.val (.int q1), .val (.int q2), .val (.int q3), .val (.int q4), .val (.int (q1 &&& (2147483647 : Int32))), .val (.int (q2 &&& (2147483647 : Int32))), .val (.int (q3 &&& (2147483647 : Int32))), .val (.int (q4 &&& (2147483647 : Int32))), .val (.int (f1 (q1 &&& (2147483647 : Int32)) (q2 &&& (2147483647 : Int32)) (q3 &&& (2147483647 : Int32)) (q4 &&& (2147483647 : Int32))))] [(.int (1 : Int32))]))
    refine OGo.st (fun t k => XS.goto X2.here hx rfl (pc0 := 54) (pc' := 58) rfl (hb hby at_54) (by decide) (by decide) k) ?_
    show OGo p e below _ (T2.setTop (mkF m 58 #[.val (.int q1), .val (.int q2), .val (.int q3), .val (.int q4), .val (.int (q1 &&& (2147483647 : Int32))), .val (.int (q2 &&& (2147483647 : Int32))), .val (.int (q3 &&& (2147483647 : Int32))), .val (.int (q4 &&& (2147483647 : Int32))), .val (.int (f1 (q1 &&& (2147483647 : Int32)) (q2 &&& (2147483647 : Int32)) (q3 &&& (2147483647 : Int32)) (q4 &&& (2147483647 : Int32))))] [(.int (1 : Int32))]))
    exact OGo.outN X2 hx (t := .boolean) Bd.returns (by simp) Bd.notSynchronized (hb hby at_58) ⟨rfl, N2, e2⟩ (by decide) (by decide)
  · refine OGo.eqvI (show (g0_50_1 q1 q2 q3 q4) = (0 : Int32) from if_neg hc50_3) ?_
    refine OGo.st (fun t k => XS.icmpYes X2.here hx rfl (pc0 := 50) (pc' := 57) rfl (hb hby at_50) rfl (feq hc50_3).2 (by decide) (by decide) k) ?_
    show OGo p e below _ (T2.setTop (mkF m 57 #[.val (.int q1), .val (.int q2), .val (.int q3), .val (.int q4), .val (.int (q1 &&& (2147483647 : Int32))), .val (.int (q2 &&& (2147483647 : Int32))), .val (.int (q3 &&& (2147483647 : Int32))), .val (.int (q4 &&& (2147483647 : Int32))), .val (.int (f1 (q1 &&& (2147483647 : Int32)) (q2 &&& (2147483647 : Int32)) (q3 &&& (2147483647 : Int32)) (q4 &&& (2147483647 : Int32))))] []))
    refine OGo.st (fun t k => XS.iconst X2.here hx rfl (hb hby at_57) k) ?_
    show OGo p e below _ (T2.setTop (mkF m 58 #[.val (.int q1), .val (.int q2), .val (.int q3), .val (.int q4), .val (.int (q1 &&& (2147483647 : Int32))), .val (.int (q2 &&& (2147483647 : Int32))), .val (.int (q3 &&& (2147483647 : Int32))), .val (.int (q4 &&& (2147483647 : Int32))), .val (.int (f1 (q1 &&& (2147483647 : Int32)) (q2 &&& (2147483647 : Int32)) (q3 &&& (2147483647 : Int32)) (q4 &&& (2147483647 : Int32))))] [(.int (0 : Int32))]))
    exact OGo.outN X2 hx (t := .boolean) Bd.returns (by simp) Bd.notSynchronized (hb hby at_58) ⟨rfl, N2, e2⟩ (by decide) (by decide)
theorem own_mask (x : Int32) : 0 ≤ (x &&& (2147483647 : Int32)).toInt := by
  have h : ∀ b : BitVec 32, 0 ≤ (b &&& 2147483647#32).toInt := fun b => by
    have k : (b &&& 2147483647#32).msb = false := by
      rw [BitVec.msb_and, show (2147483647#32).msb = false from by decide, Bool.and_false]
    rw [BitVec.toInt_eq_toNat_of_msb k]
    omega
  exact h x.toBitVec
theorem own_three (x : Int32) (h : 0 ≤ x.toInt) : (x = 0 ∧ ¬ (0 : Int32) < x) ∨ (¬ x = 0 ∧ (0 : Int32) < x) := by
  simp only [Int32.lt_iff_toInt_lt, ← Int32.toInt_inj, Int32.reduceToInt]
  omega
theorem own_same (a b c d : Int32) (ha : 0 ≤ a.toInt) (hc : 0 ≤ c.toInt) : f1 a b c d = f2 a b c d := by
  rcases own_three a ha with ⟨a1, a2⟩ | ⟨a1, a2⟩ <;> rcases own_three c hc with ⟨c1, c2⟩ | ⟨c1, c2⟩ <;> by_cases hb : (1 : Int32) < b <;> by_cases hd : (1 : Int32) < d <;>
    simp +decide [f1, f2, g1_53_1, g1_j51, g1_43_2, g1_j39, g1_j38, g1_j34, g1_31_3, g1_26_4, g1_21_5, g1_j18, g1_j17, g1_j13, g1_10_6, g1_6_7, g1_1_8, g2_5_1, g2_34_2, g2_23_3, g2_13_4, g2_1_5, a1, a2, c1, c2, hb, hd]
theorem law_eq (q1 q2 q3 q4 : Int32) : f0 q1 q2 q3 q4 = 1 := by
  simp only [f0, g0_50_1, own_same _ _ _ _ (own_mask q1) (own_mask q3), if_true, reduceIte]
set_option maxRecDepth 65536 in
set_option maxHeartbeats 40000000 in
theorem comes_1 {Post : Tables → Env → Array Value → State → Outcome → State → Prop} (hpost : ∀ tb e args s v u, (limb_1_1.after args s (.returned v) u = true ∧ limb_1_2.after args s (.returned v) u = true ∧ True) → FrameEnd s (.returned v) u (Jvm.fieldLocs frame_1_writes args s ++ Jvm.arrayLocs frame_1_arrays args s ++ Jvm.staticLocs frame_1_statics s) 0 0 → Post tb e args s (.returned v) u) :
    ArmFor flags0 classFile x code maxLocals ret World_1 tables_1 room_1 Calls_1 rest_1 Pre_1 Post := by
  intro l hfl _ _ p e ha hc hk s m args below hf hA hF happ hP
  obtain ⟨hcalls, hrest, hpre⟩ := hP
  obtain ⟨-, -, -, hnamed, -, -, -, hat⟩ := (Spec.applies_iff hf).mp happ
  obtain ⟨hg, hn⟩ := and_e (Cond.before_iff.mp (show (Jvm.Cond.and given_1 narrow_1).before args s = true from hpre))
  obtain ⟨gg1, gg2⟩ := and_e hg
  obtain ⟨gg3, gg4⟩ := and_e gg2
  obtain ⟨gg5, gg6⟩ := and_e gg4
  obtain ⟨gg7, gg8⟩ := and_e gg6
  obtain ⟨w0, w1, w2, w3, rfl⟩ : ∃ w0 w1 w2 w3 : Value, args = #[w0, w1, w2, w3] := by
    have hs : args.size = 4 := by simpa [Cond.value, given_1] using gg1
    obtain ⟨L⟩ := args
    match L, hs with
    | [w0, w1, w2, w3], _ => exact ⟨w0, w1, w2, w3, rfl⟩
  have hw := fun d (hd : d ∈ tables_1) => atoms_spec (ws := Jvm.Cond.code x code maxLocals ret :: tables_1) hat d (List.mem_cons_of_mem _ hd)
  obtain ⟨i0, ei0⟩ := is_v gg3
  obtain rfl : w0 = (.int i0) := Option.some.inj ei0
  obtain ⟨i1, ei1⟩ := is_v gg5
  obtain rfl : w1 = (.int i1) := Option.some.inj ei1
  obtain ⟨i2, ei2⟩ := is_v gg7
  obtain rfl : w2 = (.int i2) := Option.some.inj ei2
  obtain ⟨i3, ei3⟩ := is_v gg8
  obtain rfl : w3 = (.int i3) := Option.some.inj ei3
  obtain ⟨n, o, h1, h2, h3, _, L, rfl, ⟨hv, N, -⟩, hq⟩ := rm0 l s _ hw tables_1 i0 i1 i2 i3 s.heap s.heap.size (Nat.le_refl _) p e ha hc hk s m _ below hf ((Spec.applies_iff_loose hf).mp happ).1 ⟨rfl, State.Warmed39.refl s, rfl⟩ trivial
  rw [law_eq] at hv
  subst hv
  refine ⟨n, _, h1, h2, h3, hpost _ _ _ _ _ _ ⟨Cond.after_iff.mpr rfl, Cond.after_iff.mpr (eq_i res_at (Term.int_eval (1)) rfl), trivial⟩ ⟨hq.1, hq.2.1, (hq.2.2.sift fun y hy => Or.inr (N y hy)).mono (by decide) (by decide)⟩⟩
theorem main_1_1 : Claimed_1_1 := comes_1 fun _ _ _ _ _ _ h hF => ⟨h.1, hF⟩
theorem main_1_2 : Claimed_1_2 := comes_1 fun _ _ _ _ _ _ h hF => ⟨h.2.1, hF⟩
end Jvm.Pilot.@@N@@
namespace Jvm.Pilot.@@N@@
open Jvm Jvm.ClassFile Sem Op Lib Jvm.Free Jvm.Stand Jvm.Pilot.@@N@@.Jvm.D
/-! MADE BY PROGRAM (witnessworld.py) out of the Statement's table words and the real class files: 9 classes; the members and pool entries that the words name. The judged class is class 1, her method 2. -/
namespace start1
open Jvm.ClassFile
def u (s : String) : CpInfo := .utf8 (stringToUtf16 s)
/-- a pool by its gaps: so many unusable entries, then the entry; so many at the end -/
def gap : Nat → List CpInfo → List CpInfo
  | 0, r => r
  | n + 1, r => .unusable :: gap n r
def poolList (es : List (Nat × CpInfo)) (last : Nat) : List CpInfo := es.foldr (fun e r => gap e.1 (e.2 :: r)) (gap last [])
def pool (es : List (Nat × CpInfo)) (last : Nat) : Array CpInfo := ⟨poolList es last⟩
def fileOf (pool : Array CpInfo) (this : Nat) (attrs : Array Attribute := #[]) (ms : Array MethodInfo := #[]) (fl : Nat := 33) (sup : Nat := 0) (ifs : Array Nat := #[]) (fds : Array FieldInfo := #[]) : ClassFile where
  minorVersion := 0
  majorVersion := 65
  constantPool := pool
  accessFlags := fl
  thisClass := this
  superClass := sup
  interfaces := ifs
  fields := fds
  methods := ms
  attributes := attrs
def plain (name : String) (sup : Option ClassId) : Class where
  name := name
  kind := .ordinary
  loader := none
  accessFlags := 33
  super := sup
  interfaces := #[]
  cf := none
  fields := #[]
  methods := #[]
  instanceTypes := #[]
  staticTypes := #[]
  resolved := #[]
  callSites := []
  init := .initialized
  statics := none
  mirror := none

def pool0 : Array CpInfo := pool [(5, u "<init>"), (0, u "()V"), (1, .class_ 10), (1, u "java/lang/Object")] 113

def k0m0 : Method := { name := "<init>", desc := "()V", sig := { parameters := [], returnType := none }, accessFlags := 1, code := none }
/-- java/lang/Object -/
def k0 : Class := { plain "java/lang/Object" none with
  accessFlags := 33
  interfaces := #[]
  cf := some (fileOf pool0 8 #[] #[{ accessFlags := 1, nameIndex := 5, descriptorIndex := 6, attributes := #[] }] 33 0 #[] #[])
  fields := #[]
  methods := #[k0m0]
  instanceTypes := #[]
  staticTypes := #[]
  resolved := Array.replicate 124 none
  statics := none }

def pool1 : Array CpInfo := pool [(2, .class_ 4), (1, u "java/lang/Object"), (0, u "<init>"), (0, u "()V"), (0, .integer 2147483647), (0, .methodref 9 10), (0, .class_ 11), (0, .nameAndType 12 13), (0, u "com/example/lockstep/lockstep/check/Obligations"), (0, u "keptSteps"), (0, u "(IIII)I"), (0, .methodref 15 16), (0, .class_ 17), (0, .nameAndType 18 13), (0, u "com/example/lockstep/lockstep/check/ObligationsKeptStepsPinLaw"), (0, u "expected"), (3, u "law"), (0, u "(IIII)Z")] 2

def k1m0 : Method := { name := "<init>", desc := "()V", sig := { parameters := [], returnType := none }, accessFlags := 2, code := none }
def k1c1 : Code := { maxStack := 2, maxLocals := 5, code := method_2_code, exceptionTable := #[], attributes := #[] }
def k1m1 : Method := { name := "expected", desc := "(IIII)I", sig := { parameters := [.int, .int, .int, .int], returnType := some .int }, accessFlags := 10, code := some k1c1 }
def k1c2 : Code := { maxStack := 5, maxLocals := 9, code := code, exceptionTable := #[], attributes := #[] }
def k1m2 : Method := { name := "law", desc := "(IIII)Z", sig := { parameters := [.int, .int, .int, .int], returnType := some .boolean }, accessFlags := 9, code := some k1c2 }
/-- com/example/lockstep/lockstep/check/ObligationsKeptStepsPinLaw -/
def k1 : Class := { plain "com/example/lockstep/lockstep/check/ObligationsKeptStepsPinLaw" (some 0) with
  accessFlags := 49
  interfaces := #[]
  cf := some (fileOf pool1 15 #[] #[{ accessFlags := 2, nameIndex := 5, descriptorIndex := 6, attributes := #[] }, { accessFlags := 10, nameIndex := 18, descriptorIndex := 13, attributes := #[] }, { accessFlags := 9, nameIndex := 22, descriptorIndex := 23, attributes := #[] }] 49 2 #[] #[])
  fields := #[]
  methods := #[k1m0, k1m1, k1m2]
  instanceTypes := #[]
  staticTypes := #[]
  resolved := Array.replicate 26 none
  statics := none }

def pool2 : Array CpInfo := pool [(2, .class_ 4), (1, u "java/lang/Object"), (3, .class_ 10), (1, u "com/example/lockstep/lockstep/check/Obligations"), (0, u "obliged"), (0, u "[I"), (2, u "candidateSteps"), (0, .class_ 17), (0, u "com/example/lockstep/lockstep/check/Obligations$Edges"), (3, u "edges"), (0, u "Lcom/example/lockstep/lockstep/check/Obligations$Edges;"), (2, u "toCarryBack"), (11, u "candidates"), (0, u "Lcom/example/lockstep/lockstep/check/Obligations$Candidates;"), (2, u "explainer"), (0, u "Lcom/example/lockstep/lockstep/check/Obligations$Explainer;"), (2, u "kindBits"), (0, u "I"), (2, u "kindMask"), (1, u "[[I"), (2, u "failures"), (3, u "firstEdges"), (2, u "causes"), (2, u "causeLabels"), (2, u "allNeeded"), (0, u "Z"), (13, u "nodeCount"), (0, u "J"), (14, u "obligationCount"), (17, u "initialFailed"), (9, .class_ 128), (1, u "com/example/lockstep/lockstep/check/Obligations$Explainer"), (13, .class_ 144), (1, u "com/example/lockstep/lockstep/check/Obligations$Candidates"), (12, u "LEFT_KEPT"), (2, u "RIGHT_KEPT"), (1, u "KIND_BITS"), (0, u "NEEDED"), (1, u "OPEN"), (1, u "UNMATCHED"), (0, u "NEED_FAILED"), (0, u "OBLIGATION_FAILED"), (5, u "keptSteps"), (0, u "(IIII)I")] 37

def k2c0 : Code := { maxStack := 2, maxLocals := 6, code := prog_31_method_2_code, exceptionTable := #[], attributes := #[] }
def k2m0 : Method := { name := "keptSteps", desc := "(IIII)I", sig := { parameters := [.int, .int, .int, .int], returnType := some .int }, accessFlags := 8, code := some k2c0 }
/-- com/example/lockstep/lockstep/check/Obligations -/
def k2 : Class := { plain "com/example/lockstep/lockstep/check/Obligations" (some 0) with
  accessFlags := 48
  interfaces := #[]
  cf := some (fileOf pool2 8 #[.nestMembers #[16, 126, 142]] #[{ accessFlags := 8, nameIndex := 175, descriptorIndex := 176, attributes := #[] }] 48 2 #[] #[{ accessFlags := 24, nameIndex := 157, descriptorIndex := 46, attributes := #[] }, { accessFlags := 24, nameIndex := 160, descriptorIndex := 46, attributes := #[] }, { accessFlags := 26, nameIndex := 162, descriptorIndex := 46, attributes := #[] }, { accessFlags := 26, nameIndex := 163, descriptorIndex := 46, attributes := #[] }, { accessFlags := 26, nameIndex := 165, descriptorIndex := 46, attributes := #[] }, { accessFlags := 26, nameIndex := 167, descriptorIndex := 46, attributes := #[] }, { accessFlags := 26, nameIndex := 168, descriptorIndex := 46, attributes := #[] }, { accessFlags := 26, nameIndex := 169, descriptorIndex := 46, attributes := #[] }, { accessFlags := 18, nameIndex := 37, descriptorIndex := 38, attributes := #[] }, { accessFlags := 18, nameIndex := 41, descriptorIndex := 42, attributes := #[] }, { accessFlags := 18, nameIndex := 45, descriptorIndex := 46, attributes := #[] }, { accessFlags := 18, nameIndex := 49, descriptorIndex := 46, attributes := #[] }, { accessFlags := 18, nameIndex := 54, descriptorIndex := 51, attributes := #[] }, { accessFlags := 18, nameIndex := 58, descriptorIndex := 51, attributes := #[] }, { accessFlags := 18, nameIndex := 61, descriptorIndex := 51, attributes := #[] }, { accessFlags := 18, nameIndex := 64, descriptorIndex := 51, attributes := #[] }, { accessFlags := 2, nameIndex := 82, descriptorIndex := 83, attributes := #[] }, { accessFlags := 2, nameIndex := 67, descriptorIndex := 68, attributes := #[] }, { accessFlags := 2, nameIndex := 116, descriptorIndex := 68, attributes := #[] }, { accessFlags := 2, nameIndex := 11, descriptorIndex := 12, attributes := #[] }, { accessFlags := 2, nameIndex := 15, descriptorIndex := 12, attributes := #[] }, { accessFlags := 2, nameIndex := 98, descriptorIndex := 46, attributes := #[] }, { accessFlags := 18, nameIndex := 21, descriptorIndex := 22, attributes := #[] }, { accessFlags := 2, nameIndex := 25, descriptorIndex := 12, attributes := #[] }])
  fields := #[{ name := "LEFT_KEPT", type := .int, accessFlags := 24, slot := 0, constantValue := 0 }, { name := "RIGHT_KEPT", type := .int, accessFlags := 24, slot := 1, constantValue := 0 }, { name := "KIND_BITS", type := .int, accessFlags := 26, slot := 2, constantValue := 0 }, { name := "NEEDED", type := .int, accessFlags := 26, slot := 3, constantValue := 0 }, { name := "OPEN", type := .int, accessFlags := 26, slot := 4, constantValue := 0 }, { name := "UNMATCHED", type := .int, accessFlags := 26, slot := 5, constantValue := 0 }, { name := "NEED_FAILED", type := .int, accessFlags := 26, slot := 6, constantValue := 0 }, { name := "OBLIGATION_FAILED", type := .int, accessFlags := 26, slot := 7, constantValue := 0 }, { name := "candidates", type := (.object "com/example/lockstep/lockstep/check/Obligations$Candidates"), accessFlags := 18, slot := 0, constantValue := 0 }, { name := "explainer", type := (.object "com/example/lockstep/lockstep/check/Obligations$Explainer"), accessFlags := 18, slot := 1, constantValue := 0 }, { name := "kindBits", type := .int, accessFlags := 18, slot := 2, constantValue := 0 }, { name := "kindMask", type := .int, accessFlags := 18, slot := 3, constantValue := 0 }, { name := "failures", type := (.array (.array .int)), accessFlags := 18, slot := 4, constantValue := 0 }, { name := "firstEdges", type := (.array (.array .int)), accessFlags := 18, slot := 5, constantValue := 0 }, { name := "causes", type := (.array (.array .int)), accessFlags := 18, slot := 6, constantValue := 0 }, { name := "causeLabels", type := (.array (.array .int)), accessFlags := 18, slot := 7, constantValue := 0 }, { name := "nodeCount", type := .long, accessFlags := 2, slot := 8, constantValue := 0 }, { name := "allNeeded", type := .boolean, accessFlags := 2, slot := 9, constantValue := 0 }, { name := "initialFailed", type := .boolean, accessFlags := 2, slot := 10, constantValue := 0 }, { name := "obliged", type := (.array .int), accessFlags := 2, slot := 11, constantValue := 0 }, { name := "candidateSteps", type := (.array .int), accessFlags := 2, slot := 12, constantValue := 0 }, { name := "obligationCount", type := .int, accessFlags := 2, slot := 13, constantValue := 0 }, { name := "edges", type := (.object "com/example/lockstep/lockstep/check/Obligations$Edges"), accessFlags := 18, slot := 14, constantValue := 0 }, { name := "toCarryBack", type := (.array .int), accessFlags := 2, slot := 15, constantValue := 0 }]
  methods := #[k2m0]
  instanceTypes := #[(.object "com/example/lockstep/lockstep/check/Obligations$Candidates"), (.object "com/example/lockstep/lockstep/check/Obligations$Explainer"), .int, .int, (.array (.array .int)), (.array (.array .int)), (.array (.array .int)), (.array (.array .int)), .long, .boolean, .boolean, (.array .int), (.array .int), .int, (.object "com/example/lockstep/lockstep/check/Obligations$Edges"), (.array .int)]
  staticTypes := #[.int, .int, .int, .int, .int, .int, .int, .int]
  resolved := Array.replicate 214 none
  statics := none }

def pool3 : Array CpInfo := pool [(1, u "java/lang/Cloneable"), (0, .class_ 1), (0, u "java/lang/Object"), (0, .class_ 3)] 3

/-- java/lang/Cloneable -/
def k3 : Class := { plain "java/lang/Cloneable" (some 0) with
  accessFlags := 1537
  interfaces := #[]
  cf := some (fileOf pool3 2 #[] #[] 1537 4 #[] #[])
  fields := #[]
  methods := #[]
  instanceTypes := #[]
  staticTypes := #[]
  resolved := Array.replicate 8 none
  statics := none }

def pool4 : Array CpInfo := pool [(1, u "java/io/Serializable"), (0, .class_ 1), (0, u "java/lang/Object"), (0, .class_ 3)] 3

/-- java/io/Serializable -/
def k4 : Class := { plain "java/io/Serializable" (some 0) with
  accessFlags := 1537
  interfaces := #[]
  cf := some (fileOf pool4 2 #[] #[] 1537 4 #[] #[])
  fields := #[]
  methods := #[]
  instanceTypes := #[]
  staticTypes := #[]
  resolved := Array.replicate 8 none
  statics := none }

/-- the primitive byte -/
def k5 : Class := { plain "byte" none with kind := .primitive 'B', accessFlags := 0x411 }
/-- [B -/
def k6 : Class := { plain "[B" (some 0) with kind := .array 5 .byte, interfaces := #[3, 4], accessFlags := 1041 }

/-- the primitive int -/
def k7 : Class := { plain "int" none with kind := .primitive 'I', accessFlags := 0x411 }
/-- [I -/
def k8 : Class := { plain "[I" (some 0) with kind := .array 7 .int, interfaces := #[3, 4], accessFlags := 1041 }

def heap : Heap := #[]
def classes : Array Class := #[k0, k1, k2, k3, k4, k5, k6, k7, k8]
def interned : List (Array UInt16 × Addr) := []
def slotsUsed : Nat := 0
def theMethod : MethodId := ⟨1, 2⟩
def args0 : Array Value := #[.int 5, .int 300, .int 7, .int 3]
def aboutOver (below : List Frame) : State where
  vm := { classes := classes, interned := interned.toArray }
  heap := heap
  slotsUsed := slotsUsed
  threads := #[{ frames := .invoking theMethod args0 :: below }]
def below0 : List Frame := [.native { method := ⟨0, 0⟩, args := #[] }]
def about1 : State := aboutOver below0
def p0 : Program := .bare "" "" ""
def e0 : Env := launch0.env 0 0 0
theorem w_frames : about1.frames = Frame.invoking theMethod args0 :: below0 := rfl
set_option maxRecDepth 65536 in
theorem w_args : argsFit about1.vm theMethod args0 = true := by decide +kernel
set_option maxRecDepth 65536 in
theorem w_heap : heapFits about1 = true := by decide +kernel
set_option maxRecDepth 65536 in
theorem w_runnable : about1.curStatus? = some .runnable := by decide +kernel
set_option maxRecDepth 65536 in
theorem w_alone : about1.alone = true := by decide +kernel
set_option maxRecDepth 65536 in
theorem w_named : about1.methodNamed? x = some theMethod := by decide +kernel
set_option maxRecDepth 65536 in
theorem w_hears : about1.hears theMethod below0 = true := by decide +kernel
set_option maxRecDepth 65536 in
theorem w_ripe : about1.ripe theMethod args0 below0 = true := by decide +kernel
theorem w_running : about1.status = .running := rfl
set_option maxRecDepth 65536 in
theorem w_room : about1.hasRoom e0.platform room_1 = true :=
  launch0.hasRoom_least _ room_1 (by decide +kernel) (by decide +kernel) (by decide +kernel) (by decide +kernel) (by decide +kernel) (by decide +kernel)
theorem allAtoms_all (ts : List Jvm.Cond) (a : Array Jvm.Value) (st : Jvm.State) : (allAtoms ts).before a st = ts.all (fun c => c.before a st) := by
  induction ts with
  | nil => rfl
  | cons c t ih =>
    show (Jvm.Cond.and c (allAtoms t)).before a st = _
    rw [Jvm.Cond.before_and, ih, List.all_cons]
def words1 : List Jvm.Cond := Jvm.Cond.code x code maxLocals ret :: tables_1
/-- a 'code' word, met by the world's own term for the bytes: nothing is compared byte by byte -/
theorem code_word {y : MethodName} {bytes : ByteArray} {mx : Nat} {rt : Option FieldType} {a : Array Value} {s : State} {m : MethodId} {meth : Method} {c : Code} (h1 : s.methodNamed? y = some m) (h2 : s.vm.method? m = some meth) (h3 : meth.code = some c) (h4 : c.code = bytes)
    (h5 : (c.maxLocals == mx && c.exceptionTable.isEmpty && decide (c.maxStack ≤ mostOperands) && decide (meth.sig.returnType = rt) && !meth.locks && decide (parseMethodDescriptor y.desc = some meth.sig)) = true) : (Jvm.Cond.code y bytes mx rt).before a s = true := by
  simp only [Bool.and_eq_true, beq_iff_eq, Bool.not_eq_true', decide_eq_true_eq] at h5
  obtain ⟨⟨⟨⟨⟨g1, g2⟩, g3⟩, g4⟩, g5⟩, g6⟩ := h5
  simp [Cond.before, Cond.holds, Cond.value, h1, h2, h3, h4, g1, g2, g3, g4, g5, g6]
def isCode : Jvm.Cond → Bool
  | .code _ _ _ _ => true
  | _ => false
theorem all_split {L : List Jvm.Cond} {P : Jvm.Cond → Bool} (h1 : L.all (fun c => isCode c || P c) = true) (h2 : ∀ c ∈ L.filter isCode, P c = true) : L.all P = true := by
  refine List.all_eq_true.mpr fun c hc => ?_
  have h := List.all_eq_true.mp h1 c hc
  rcases Bool.eq_false_or_eq_true (isCode c) with hi | hi
  · exact h2 c (List.mem_filter.mpr ⟨hc, hi⟩)
  · simpa [hi] using h
set_option maxRecDepth 65536 in
theorem w_c0 : (Jvm.Cond.code x code maxLocals ret).before args0 about1 = true := code_word (m := ⟨1, 2⟩) (meth := k1m2) (c := k1c2) (by decide +kernel) rfl rfl rfl (by decide +kernel)
set_option maxRecDepth 65536 in
theorem w_c1 : (Jvm.Cond.code ({ cls := "com/example/lockstep/lockstep/check/Obligations", name := "keptSteps", desc := "(IIII)I" } : Jvm.MethodName) prog_31_method_2_code (6 : Nat) (Option.some Jvm.ClassFile.FieldType.int)).before args0 about1 = true := code_word (m := ⟨2, 0⟩) (meth := k2m0) (c := k2c0) (by decide +kernel) rfl rfl rfl (by decide +kernel)
set_option maxRecDepth 65536 in
theorem w_c2 : (Jvm.Cond.code ({ cls := "com/example/lockstep/lockstep/check/ObligationsKeptStepsPinLaw", name := "expected", desc := "(IIII)I" } : Jvm.MethodName) method_2_code (5 : Nat) (Option.some Jvm.ClassFile.FieldType.int)).before args0 about1 = true := code_word (m := ⟨1, 1⟩) (meth := k1m1) (c := k1c1) (by decide +kernel) rfl rfl rfl (by decide +kernel)
def codes1 : List Jvm.Cond := [Jvm.Cond.code x code maxLocals ret, Jvm.Cond.code ({ cls := "com/example/lockstep/lockstep/check/Obligations", name := "keptSteps", desc := "(IIII)I" } : Jvm.MethodName) prog_31_method_2_code (6 : Nat) (Option.some Jvm.ClassFile.FieldType.int), Jvm.Cond.code ({ cls := "com/example/lockstep/lockstep/check/ObligationsKeptStepsPinLaw", name := "expected", desc := "(IIII)I" } : Jvm.MethodName) method_2_code (5 : Nat) (Option.some Jvm.ClassFile.FieldType.int)]
set_option maxRecDepth 65536 in
theorem codes_eq : words1.filter isCode = codes1 := rfl
theorem w_codes : ∀ c ∈ words1.filter isCode, c.before args0 about1 = true := by
  rw [codes_eq]
  intro c hc
  simp only [codes1, List.mem_cons, List.not_mem_nil, or_false] at hc
  rcases hc with rfl | rfl | rfl
  · exact w_c0
  · exact w_c1
  · exact w_c2
set_option maxRecDepth 65536 in
theorem w_t1 : words1.all (fun c => isCode c || c.before args0 about1) = true := by decide +kernel
theorem w_tables : (allAtoms (Jvm.Cond.code x code maxLocals ret :: tables_1)).before args0 about1 = true := by
  rw [allAtoms_all]
  show words1.all (fun c => c.before args0 about1) = true
  refine all_split ?_ w_codes
  rw [w_t1]
set_option maxRecDepth 65536 in
theorem w_case : (Jvm.Cond.and given_1 narrow_1).before args0 about1 = true := by decide +kernel
theorem w_applies : (headSpec (Jvm.Cond.code x code maxLocals ret :: tables_1) room_1).applies x e0.platform about1 = true :=
  (Spec.applies_iff w_frames).mpr ⟨w_running, w_runnable, w_alone, w_named, w_hears, w_ripe, w_room, w_tables⟩
theorem atStart : AtStart classFile x code maxLocals ret World_1 tables_1 room_1 Calls_1 rest_1 Pre_1 launch0 p0 e0 about1 theMethod args0 below0 :=
  ⟨lists_1, trivial, launch0.admits_env _ _ _, launch0.least_env, fairChoices_fair.cas, fairChoices_fair.clock, w_frames, w_args, w_heap, w_applies, trivial, trivial, w_case⟩
end start1
theorem witness_1 : WitnessClaimed_1 := ⟨start1.p0, start1.e0, start1.about1, start1.theMethod, start1.args0, start1.below0, start1.atStart⟩
end Jvm.Pilot.@@N@@
