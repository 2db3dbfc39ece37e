import JvmDerived
import JvmDerived.Pilot.@@N@@Statement
import JvmDerived.Pilot.@@N@@Code
set_option linter.unusedVariables false
set_option linter.unusedSimpArgs false
namespace Jvm.RoadKit
open Sem ClassFile Op Lib Jvm.Stand Jvm.Free Jvm.LawKit
section New
variable {p : Program} {l : Launch} {e : Env} {R : Room} {s : State} {m : MethodId} {args : Array Value} {below : List Frame} {meth : Method} {c : Code} {T : State} {locs : List Loc} {cells slots : Nat}
theorem retI (X : Stand p l e R s m args below meth c T locs cells slots) (hx : p.tables.exec = Jvm.exec) {pc : Nat} {Ls : Array Slot} {z : Int32} {rest : List Value} (hret : meth.sig.returnType = some .int) (hd : decode c.code pc = .ok (.ireturn, 1)) {fs : List Frame}
    (hl : ∀ (f : JFrame) (acts : List Action), f.method = m → f.locked = none → f.entered = [] → (doReturn e (T.setTop f) acts (some (.int z))).1 = T.setFrames fs) : Steps p.tables e below (T.setTop (mkF m pc Ls (.int z :: rest))) (T.setFrames fs) := by
  have hm' : T.vm.method? m = some meth := X.method'
  have hn : narrow .int (.int z) = .int z := rfl
  show Steps p.tables e below (T.setTop { method := m, pc := pc, locals := Ls, stack := _ :: rest, locked := none }) _
  jvm_step X.here [X.here.top, hx, hd, hm', hret, hn]
  first | (intro acts; rw [hl _ acts rfl rfl rfl]) | rw [hl _ _ rfl rfl rfl]
  exact Steps.refl _
end New
end Jvm.RoadKit
namespace Jvm.Pilot.@@N@@
open Jvm Jvm.ClassFile Sem Op Lib Jvm.Free Jvm.Stand Jvm.LawKit Jvm.RoadKit Bundle Jvm.Pilot.@@N@@.Jvm.D
section Own
variable {p : Program} {l : Launch} {e : Env} {R : Room} {s : State} {m : MethodId} {args : Array Value} {below : List Frame} {meth : Method} {c : Code} {T : State} {locs : List Loc} {cells slots : Nat}
/-- from the state A the run comes to an end of the invocation of which Q holds -/
def OGo (p : Program) (e : Env) (below : List Frame) (Q : Outcome → State → Prop) (A : State) : Prop :=
  ∃ s₂ o, Steps p.tables e below A s₂ ∧ s₂.status = .running ∧ Ended s₂ below o ∧ Q o s₂
theorem OGo.st {Q : Outcome → State → Prop} {A B : State} (h : ∀ t, Steps p.tables e below B t → Steps p.tables e below A t) (g : OGo p e below Q B) : OGo p e below Q A := by
  obtain ⟨s₂, o, k, r⟩ := g
  exact ⟨s₂, o, h _ k, r⟩
/-- what a contract says of the end -/
def Out (s : State) (cells slots : Nat) (Q : Option Value → Heap → List Loc → Prop) (o : Outcome) (U : State) : Prop :=
  ∃ v L, o = .returned v ∧ Q v U.heap L ∧ FrameEnd s o U L cells slots
/-- it returns the int z (the long z), and the heap is as it was -/
def PI (n0 : Nat) (h0 : Heap) (z : Int32) (v : Option Value) (h : Heap) (L : List Loc) : Prop := v = some (.int z) ∧ Fr n0 L ∧ h = h0
def PJ (n0 : Nat) (h0 : Heap) (z : Int64) (v : Option Value) (h : Heap) (L : List Loc) : Prop := v = some (.long z) ∧ Fr n0 L ∧ h = h0
def PF (n0 : Nat) (z : Int32) (v : Option Value) (h : Heap) (L : List Loc) : Prop := v = some (.int z) ∧ Fr n0 L
theorem OGo.eqvF {C S n0 : Nat} {z z' : Int32} {A : State} (q : z = z') (g : OGo p e below (Out s C S (PF n0 z')) A) : OGo p e below (Out s C S (PF n0 z)) A := q ▸ g
theorem OGo.eqvI {C S n0 : Nat} {h0 : Heap} {z z' : Int32} {A : State} (q : z = z') (g : OGo p e below (Out s C S (PI n0 h0 z')) A) : OGo p e below (Out s C S (PI n0 h0 z)) A := q ▸ g
theorem OGo.eqvJ {C S n0 : Nat} {h0 : Heap} {z z' : Int64} {A : State} (q : z = z') (g : OGo p e below (Out s C S (PJ n0 h0 z')) A) : OGo p e below (Out s C S (PJ n0 h0 z)) A := q ▸ g
theorem OGo.outI (X : Stand p l e R s m args below meth c T locs cells slots) (hx : p.tables.exec = Jvm.exec) (hret : meth.sig.returnType = some .int) (hlk : meth.locks = false) {pc : Nat} {Ls : Array Slot} {z : Int32} {rest : List Value} (hd : decode c.code pc = .ok (.ireturn, 1))
    {Q : Option Value → Heap → List Loc → Prop} {C S : Nat} (hq : Q (some (.int z)) T.heap locs) (hC : cells ≤ C) (hS : slots ≤ S) : OGo p e below (Out s C S Q) (T.setTop (mkF m pc Ls (.int z :: rest))) := by
  obtain ⟨fs, hr, hrun, hended, hW, hsame⟩ := X.leave (v := some (.int z)) (fun h => by rw [hret] at h; cases h) hlk
  exact ⟨_, _, retI X hx hret hd hr, hrun, hended, _, _, rfl, hq, ⟨_, rfl⟩, hW, hsame.mono hC hS⟩
theorem OGo.outN (X : Stand p l e R s m args below meth c T locs cells slots) (hx : p.tables.exec = Jvm.exec) {t : FieldType} (hret : meth.sig.returnType = some t) (ht : t = .boolean ∨ t = .byte ∨ t = .char ∨ t = .short) (hlk : meth.locks = false) {pc : Nat} {Ls : Array Slot} {z : Int32} {rest : List Value} (hd : decode c.code pc = .ok (.ireturn, 1))
    {Q : Option Value → Heap → List Loc → Prop} {C S : Nat} (hq : Q (some (.int (nar t z))) T.heap locs) (hC : cells ≤ C) (hS : slots ≤ S) : OGo p e below (Out s C S Q) (T.setTop (mkF m pc Ls (.int z :: rest))) := by
  obtain ⟨fs, hr, hrun, hended, hW, hsame⟩ := X.leave (v := some (.int (nar t z))) (fun h => by rw [hret] at h; cases h) hlk
  exact ⟨_, _, retN X hx hret ht hd hr, hrun, hended, _, _, rfl, hq, ⟨_, rfl⟩, hW, hsame.mono hC hS⟩
theorem OGo.outJ (X : Stand p l e R s m args below meth c T locs cells slots) (hx : p.tables.exec = Jvm.exec) (hret : meth.sig.returnType = some .long) (hlk : meth.locks = false) {pc : Nat} {Ls : Array Slot} {z : Int64} (hd : decode c.code pc = .ok (.lreturn, 1))
    {Q : Option Value → Heap → List Loc → Prop} {C S : Nat} (hq : Q (some (.long z)) T.heap locs) (hC : cells ≤ C) (hS : slots ≤ S) : OGo p e below (Out s C S Q) (T.setTop (mkF m pc Ls [.long z])) := by
  obtain ⟨fs, hr, hrun, hended, hW, hsame⟩ := X.leave (v := some (.long z)) (fun h => by rw [hret] at h; cases h) hlk
  exact ⟨_, _, X.lreturnOut hx hret hd hr, hrun, hended, _, _, rfl, hq, ⟨_, rfl⟩, hW, hsame.mono hC hS⟩
theorem OGo.outV (X : Stand p l e R s m args below meth c T locs cells slots) (hx : p.tables.exec = Jvm.exec) (hret : meth.sig.returnType = none) (hlk : meth.locks = false) {pc : Nat} {Ls : Array Slot} (hd : decode c.code pc = .ok (.return_, 1))
    {Q : Option Value → Heap → List Loc → Prop} {C S : Nat} (hq : Q none T.heap locs) (hC : cells ≤ C) (hS : slots ≤ S) : OGo p e below (Out s C S Q) (T.setTop (mkF m pc Ls [])) := by
  obtain ⟨fs, hr, hrun, hended, hW, hsame⟩ := X.leave (v := none) (fun _ => rfl) hlk
  exact ⟨_, _, X.returnOut hx hret hd hr, hrun, hended, _, _, rfl, hq, ⟨_, rfl⟩, hW, hsame.mono hC hS⟩
end Own
theorem d1_0 : decode prog_27_method_12_code 0 = .ok (.lload_n 0, 1) := by decide +kernel
theorem d1_1 : decode prog_27_method_12_code 1 = .ok (.lload_n 2, 1) := by decide +kernel
theorem d1_2 : decode prog_27_method_12_code 2 = .ok (.lxor, 1) := by decide +kernel
theorem d1_3 : decode prog_27_method_12_code 3 = .ok (.lstore 4, 2) := by decide +kernel
theorem d1_5 : decode prog_27_method_12_code 5 = .ok (.lload 4, 2) := by decide +kernel
theorem d1_7 : decode prog_27_method_12_code 7 = .ok (.lload 4, 2) := by decide +kernel
theorem d1_9 : decode prog_27_method_12_code 9 = .ok (.bipush 33, 2) := by decide +kernel
theorem d1_11 : decode prog_27_method_12_code 11 = .ok (.lushr, 1) := by decide +kernel
theorem d1_12 : decode prog_27_method_12_code 12 = .ok (.lxor, 1) := by decide +kernel
theorem d1_13 : decode prog_27_method_12_code 13 = .ok (.ldc2_w 67, 3) := by decide +kernel
theorem d1_16 : decode prog_27_method_12_code 16 = .ok (.lmul, 1) := by decide +kernel
theorem d1_17 : decode prog_27_method_12_code 17 = .ok (.lstore 4, 2) := by decide +kernel
theorem d1_19 : decode prog_27_method_12_code 19 = .ok (.lload 4, 2) := by decide +kernel
theorem d1_21 : decode prog_27_method_12_code 21 = .ok (.lload 4, 2) := by decide +kernel
theorem d1_23 : decode prog_27_method_12_code 23 = .ok (.bipush 33, 2) := by decide +kernel
theorem d1_25 : decode prog_27_method_12_code 25 = .ok (.lushr, 1) := by decide +kernel
theorem d1_26 : decode prog_27_method_12_code 26 = .ok (.lxor, 1) := by decide +kernel
theorem d1_27 : decode prog_27_method_12_code 27 = .ok (.ldc2_w 69, 3) := by decide +kernel
theorem d1_30 : decode prog_27_method_12_code 30 = .ok (.lmul, 1) := by decide +kernel
theorem d1_31 : decode prog_27_method_12_code 31 = .ok (.lstore 4, 2) := by decide +kernel
theorem d1_33 : decode prog_27_method_12_code 33 = .ok (.lload 4, 2) := by decide +kernel
theorem d1_35 : decode prog_27_method_12_code 35 = .ok (.lload 4, 2) := by decide +kernel
theorem d1_37 : decode prog_27_method_12_code 37 = .ok (.bipush 33, 2) := by decide +kernel
theorem d1_39 : decode prog_27_method_12_code 39 = .ok (.lushr, 1) := by decide +kernel
theorem d1_40 : decode prog_27_method_12_code 40 = .ok (.lxor, 1) := by decide +kernel
theorem d1_41 : decode prog_27_method_12_code 41 = .ok (.l2i, 1) := by decide +kernel
theorem d1_42 : decode prog_27_method_12_code 42 = .ok (.ireturn, 1) := by decide +kernel
theorem pn1 : plainName "com/example/lockstep/lockstep/check/KeyTable" = true := by first | (simp [plainName, overriddenIn]; done) | decide +kernel
theorem ef1 (m : MethodId) (q1 : Int64) (q2 : Int64) : entryFrame m #[(.long q1), (.long q2)] 6 = mkF m 0 #[.val (.long q1), .second, .val (.long q2), .second, .unset, .unset] [] := by first | (simp [entryFrame, mkF, argsToLocals, Value.category]; done) | rfl
def f1 (q1 : Int64) (q2 : Int64) : Int32 := (((((((q1 ^^^ q2) ^^^ (((q1 ^^^ q2).toUInt64 >>> ((33 : Int32) &&& 0x3f).toInt64.toUInt64).toInt64)) * (-49064778989728563 : Int64)) ^^^ (((((q1 ^^^ q2) ^^^ (((q1 ^^^ q2).toUInt64 >>> ((33 : Int32) &&& 0x3f).toInt64.toUInt64).toInt64)) * (-49064778989728563 : Int64)).toUInt64 >>> ((33 : Int32) &&& 0x3f).toInt64.toUInt64).toInt64)) * (-4265267296055464877 : Int64)) ^^^ (((((((q1 ^^^ q2) ^^^ (((q1 ^^^ q2).toUInt64 >>> ((33 : Int32) &&& 0x3f).toInt64.toUInt64).toInt64)) * (-49064778989728563 : Int64)) ^^^ (((((q1 ^^^ q2) ^^^ (((q1 ^^^ q2).toUInt64 >>> ((33 : Int32) &&& 0x3f).toInt64.toUInt64).toInt64)) * (-49064778989728563 : Int64)).toUInt64 >>> ((33 : Int32) &&& 0x3f).toInt64.toUInt64).toInt64)) * (-4265267296055464877 : Int64)).toUInt64 >>> ((33 : Int32) &&& 0x3f).toInt64.toUInt64).toInt64)).toInt32)
set_option maxRecDepth 65536 in
set_option maxHeartbeats 40000000 in
theorem rm1 (l : Launch) (Z : State) (a0 : Array Value) (hw : ∀ d ∈ tables_1, d.before a0 Z = true) (ws : List Jvm.Cond) (q1 : Int64) (q2 : Int64) (h0 : Heap) (n0 : Nat) (Z0 : n0 ≤ h0.size) :
    MetFree l (⟨"com/example/lockstep/lockstep/check/KeyTable", "hash", "(JJ)I"⟩ : MethodName) (head1 (Jvm.Cond.code (⟨"com/example/lockstep/lockstep/check/KeyTable", "hash", "(JJ)I"⟩ : MethodName) prog_27_method_12_code 6 (some .int) :: ws) ({ frames := 0, cells := 0, slots := 0, locals := 0 } : Room)) (fun a U => a = #[(.long q1), (.long q2)] ∧ Z.Warmed39 U.vm ∧ U.heap = h0) (fun _ _ _ _ _ => True) (fun _ U o U' => ∃ v L, o = .returned v ∧ PI n0 h0 (f1 q1 q2) v U'.heap L ∧ FrameEnd U o U' L ({ frames := 0, cells := 0, slots := 0, locals := 0 } : Room).cells ({ frames := 0, cells := 0, slots := 0, locals := 0 } : Room).slots) := by
  refine MetFree.of_bodySF (plainFor_of_name pn1) hisR ?_
  intro p e s m args below meth c s₁ Bd hml0 hP hK
  obtain ⟨rfl, hZ, hh⟩ := hP
  have hx := Bd.exec
  have hby := Bd.bytes
  have hml : c.maxLocals = 6 := hml0
  have hown : s.vm.findClass "com/example/lockstep/lockstep/check/KeyTable" = some m.cls := findClass_of_methodNamed Bd.named
  have X0 : Stand p l e ({ frames := 0, cells := 0, slots := 0, locals := 0 } : Room) s m #[(.long q1), (.long q2)] below meth c s₁ [] 0 0 := Stand.of_body Bd
  have e0 : s₁.heap = h0 := by rw [← hh, Bd.state]; rfl
  have N0 := Fr.nil n0
  show OGo p e below (Out s ({ frames := 0, cells := 0, slots := 0, locals := 0 } : Room).cells ({ frames := 0, cells := 0, slots := 0, locals := 0 } : Room).slots (PI n0 h0 (f1 q1 q2))) (s₁.setTop (entryFrame m #[(.long q1), (.long q2)] 6))
  refine OGo.st (fun t k => castTop (ef1 m q1 q2) k) ?_
  show OGo p e below (Out s ({ frames := 0, cells := 0, slots := 0, locals := 0 } : Room).cells ({ frames := 0, cells := 0, slots := 0, locals := 0 } : Room).slots (PI n0 h0 (((((((q1 ^^^ q2) ^^^ (((q1 ^^^ q2).toUInt64 >>> ((33 : Int32) &&& 0x3f).toInt64.toUInt64).toInt64)) * (-49064778989728563 : Int64)) ^^^ (((((q1 ^^^ q2) ^^^ (((q1 ^^^ q2).toUInt64 >>> ((33 : Int32) &&& 0x3f).toInt64.toUInt64).toInt64)) * (-49064778989728563 : Int64)).toUInt64 >>> ((33 : Int32) &&& 0x3f).toInt64.toUInt64).toInt64)) * (-4265267296055464877 : Int64)) ^^^ (((((((q1 ^^^ q2) ^^^ (((q1 ^^^ q2).toUInt64 >>> ((33 : Int32) &&& 0x3f).toInt64.toUInt64).toInt64)) * (-49064778989728563 : Int64)) ^^^ (((((q1 ^^^ q2) ^^^ (((q1 ^^^ q2).toUInt64 >>> ((33 : Int32) &&& 0x3f).toInt64.toUInt64).toInt64)) * (-49064778989728563 : Int64)).toUInt64 >>> ((33 : Int32) &&& 0x3f).toInt64.toUInt64).toInt64)) * (-4265267296055464877 : Int64)).toUInt64 >>> ((33 : Int32) &&& 0x3f).toInt64.toUInt64).toInt64)).toInt32))) (s₁.setTop (mkF m 0 #[.val (.long q1), .second, .val (.long q2), .second, .unset, .unset] []))
  refine OGo.st (fun t k => XS.lloadN X0.here hx rfl (hb hby d1_0) rfl k) ?_
  show OGo p e below _ (s₁.setTop (mkF m 1 #[.val (.long q1), .second, .val (.long q2), .second, .unset, .unset] [(.long q1)]))
  refine OGo.st (fun t k => XS.lloadN X0.here hx rfl (hb hby d1_1) rfl k) ?_
  show OGo p e below _ (s₁.setTop (mkF m 2 #[.val (.long q1), .second, .val (.long q2), .second, .unset, .unset] [(.long q2), (.long q1)]))
  refine OGo.st (fun t k => XS.lxor X0.here hx rfl (hb hby d1_2) rfl k) ?_
  show OGo p e below _ (s₁.setTop (mkF m 3 #[.val (.long q1), .second, .val (.long q2), .second, .unset, .unset] [(.long (q1 ^^^ q2))]))
  refine OGo.st (fun t k => XS.lstore X0.here hx rfl (hb hby d1_3) rfl (l' := #[.val (.long q1), .second, .val (.long q2), .second, .val (.long (q1 ^^^ q2)), .second]) rfl k) ?_
  show OGo p e below _ (s₁.setTop (mkF m 5 #[.val (.long q1), .second, .val (.long q2), .second, .val (.long (q1 ^^^ q2)), .second] []))
  refine OGo.st (fun t k => XS.lload X0.here hx rfl (hb hby d1_5) rfl k) ?_
  show OGo p e below _ (s₁.setTop (mkF m 7 #[.val (.long q1), .second, .val (.long q2), .second, .val (.long (q1 ^^^ q2)), .second] [(.long (q1 ^^^ q2))]))
  refine OGo.st (fun t k => XS.lload X0.here hx rfl (hb hby d1_7) rfl k) ?_
  show OGo p e below _ (s₁.setTop (mkF m 9 #[.val (.long q1), .second, .val (.long q2), .second, .val (.long (q1 ^^^ q2)), .second] [(.long (q1 ^^^ q2)), (.long (q1 ^^^ q2))]))
  refine OGo.st (fun t k => XS.bipush X0.here hx rfl (hb hby d1_9) k) ?_
  show OGo p e below _ (s₁.setTop (mkF m 11 #[.val (.long q1), .second, .val (.long q2), .second, .val (.long (q1 ^^^ q2)), .second] [(.int (33 : Int32)), (.long (q1 ^^^ q2)), (.long (q1 ^^^ q2))]))
  refine OGo.st (fun t k => XS.lushr X0.here hx rfl (hb hby d1_11) rfl k) ?_
  show OGo p e below _ (s₁.setTop (mkF m 12 #[.val (.long q1), .second, .val (.long q2), .second, .val (.long (q1 ^^^ q2)), .second] [(.long (((q1 ^^^ q2).toUInt64 >>> ((33 : Int32) &&& 0x3f).toInt64.toUInt64).toInt64)), (.long (q1 ^^^ q2))]))
  refine OGo.st (fun t k => XS.lxor X0.here hx rfl (hb hby d1_12) rfl k) ?_
  show OGo p e below _ (s₁.setTop (mkF m 13 #[.val (.long q1), .second, .val (.long q2), .second, .val (.long (q1 ^^^ q2)), .second] [(.long ((q1 ^^^ q2) ^^^ (((q1 ^^^ q2).toUInt64 >>> ((33 : Int32) &&& 0x3f).toInt64.toUInt64).toInt64)))]))
  refine OGo.st (fun t k => X0.ldc2Long hx hown (mvT hZ (hw _ (List.mem_of_getElem? (i := 4) rfl))) (g := (mkF m 13 #[.val (.long q1), .second, .val (.long q2), .second, .val (.long (q1 ^^^ q2)), .second] [(.long ((q1 ^^^ q2) ^^^ (((q1 ^^^ q2).toUInt64 >>> ((33 : Int32) &&& 0x3f).toInt64.toUInt64).toInt64)))])) rfl (hb hby d1_13) t k) ?_
  show OGo p e below _ (s₁.setTop (mkF m 16 #[.val (.long q1), .second, .val (.long q2), .second, .val (.long (q1 ^^^ q2)), .second] [(.long (-49064778989728563 : Int64)), (.long ((q1 ^^^ q2) ^^^ (((q1 ^^^ q2).toUInt64 >>> ((33 : Int32) &&& 0x3f).toInt64.toUInt64).toInt64)))]))
  refine OGo.st (fun t k => XS.lmul X0.here hx rfl (hb hby d1_16) rfl k) ?_
  show OGo p e below _ (s₁.setTop (mkF m 17 #[.val (.long q1), .second, .val (.long q2), .second, .val (.long (q1 ^^^ q2)), .second] [(.long (((q1 ^^^ q2) ^^^ (((q1 ^^^ q2).toUInt64 >>> ((33 : Int32) &&& 0x3f).toInt64.toUInt64).toInt64)) * (-49064778989728563 : Int64)))]))
  refine OGo.st (fun t k => XS.lstore X0.here hx rfl (hb hby d1_17) rfl (l' := #[.val (.long q1), .second, .val (.long q2), .second, .val (.long (((q1 ^^^ q2) ^^^ (((q1 ^^^ q2).toUInt64 >>> ((33 : Int32) &&& 0x3f).toInt64.toUInt64).toInt64)) * (-49064778989728563 : Int64))), .second]) rfl k) ?_
  show OGo p e below _ (s₁.setTop (mkF m 19 #[.val (.long q1), .second, .val (.long q2), .second, .val (.long (((q1 ^^^ q2) ^^^ (((q1 ^^^ q2).toUInt64 >>> ((33 : Int32) &&& 0x3f).toInt64.toUInt64).toInt64)) * (-49064778989728563 : Int64))), .second] []))
  refine OGo.st (fun t k => XS.lload X0.here hx rfl (hb hby d1_19) rfl k) ?_
  show OGo p e below _ (s₁.setTop (mkF m 21 #[.val (.long q1), .second, .val (.long q2), .second, .val (.long (((q1 ^^^ q2) ^^^ (((q1 ^^^ q2).toUInt64 >>> ((33 : Int32) &&& 0x3f).toInt64.toUInt64).toInt64)) * (-49064778989728563 : Int64))), .second] [(.long (((q1 ^^^ q2) ^^^ (((q1 ^^^ q2).toUInt64 >>> ((33 : Int32) &&& 0x3f).toInt64.toUInt64).toInt64)) * (-49064778989728563 : Int64)))]))
  refine OGo.st (fun t k => XS.lload X0.here hx rfl (hb hby d1_21) rfl k) ?_
  show OGo p e below _ (s₁.setTop (mkF m 23 #[.val (.long q1), .second, .val (.long q2), .second, .val (.long (((q1 ^^^ q2) ^^^ (((q1 ^^^ q2).toUInt64 >>> ((33 : Int32) &&& 0x3f).toInt64.toUInt64).toInt64)) * (-49064778989728563 : Int64))), .second] [(.long (((q1 ^^^ q2) ^^^ (((q1 ^^^ q2).toUInt64 >>> ((33 : Int32) &&& 0x3f).toInt64.toUInt64).toInt64)) * (-49064778989728563 : Int64))), (.long (((q1 ^^^ q2) ^^^ (((q1 ^^^ q2).toUInt64 >>> ((33 : Int32) &&& 0x3f).toInt64.toUInt64).toInt64)) * (-49064778989728563 : Int64)))]))
  refine OGo.st (fun t k => XS.bipush X0.here hx rfl (hb hby d1_23) k) ?_
  show OGo p e below _ (s₁.setTop (mkF m 25 #[.val (.long q1), .second, .val (.long q2), .second, .val (.long (((q1 ^^^ q2) ^^^ (((q1 ^^^ q2).toUInt64 >>> ((33 : Int32) &&& 0x3f).toInt64.toUInt64).toInt64)) * (-49064778989728563 : Int64))), .second] [(.int (33 : Int32)), (.long (((q1 ^^^ q2) ^^^ (((q1 ^^^ q2).toUInt64 >>> ((33 : Int32) &&& 0x3f).toInt64.toUInt64).toInt64)) * (-49064778989728563 : Int64))), (.long (((q1 ^^^ q2) ^^^ (((q1 ^^^ q2).toUInt64 >>> ((33 : Int32) &&& 0x3f).toInt64.toUInt64).toInt64)) * (-49064778989728563 : Int64)))]))
  refine OGo.st (fun t k => XS.lushr X0.here hx rfl (hb hby d1_25) rfl k) ?_
  show OGo p e below _ (s₁.setTop (mkF m 26 #[.val (.long q1), .second, .val (.long q2), .second, .val (.long (((q1 ^^^ q2) ^^^ (((q1 ^^^ q2).toUInt64 >>> ((33 : Int32) &&& 0x3f).toInt64.toUInt64).toInt64)) * (-49064778989728563 : Int64))), .second] [(.long (((((q1 ^^^ q2) ^^^ (((q1 ^^^ q2).toUInt64 >>> ((33 : Int32) &&& 0x3f).toInt64.toUInt64).toInt64)) * (-49064778989728563 : Int64)).toUInt64 >>> ((33 : Int32) &&& 0x3f).toInt64.toUInt64).toInt64)), (.long (((q1 ^^^ q2) ^^^ (((q1 ^^^ q2).toUInt64 >>> ((33 : Int32) &&& 0x3f).toInt64.toUInt64).toInt64)) * (-49064778989728563 : Int64)))]))
  refine OGo.st (fun t k => XS.lxor X0.here hx rfl (hb hby d1_26) rfl k) ?_
  show OGo p e below _ (s₁.setTop (mkF m 27 #[.val (.long q1), .second, .val (.long q2), .second, .val (.long (((q1 ^^^ q2) ^^^ (((q1 ^^^ q2).toUInt64 >>> ((33 : Int32) &&& 0x3f).toInt64.toUInt64).toInt64)) * (-49064778989728563 : Int64))), .second] [(.long ((((q1 ^^^ q2) ^^^ (((q1 ^^^ q2).toUInt64 >>> ((33 : Int32) &&& 0x3f).toInt64.toUInt64).toInt64)) * (-49064778989728563 : Int64)) ^^^ (((((q1 ^^^ q2) ^^^ (((q1 ^^^ q2).toUInt64 >>> ((33 : Int32) &&& 0x3f).toInt64.toUInt64).toInt64)) * (-49064778989728563 : Int64)).toUInt64 >>> ((33 : Int32) &&& 0x3f).toInt64.toUInt64).toInt64)))]))
  refine OGo.st (fun t k => X0.ldc2Long hx hown (mvT hZ (hw _ (List.mem_of_getElem? (i := 5) rfl))) (g := (mkF m 27 #[.val (.long q1), .second, .val (.long q2), .second, .val (.long (((q1 ^^^ q2) ^^^ (((q1 ^^^ q2).toUInt64 >>> ((33 : Int32) &&& 0x3f).toInt64.toUInt64).toInt64)) * (-49064778989728563 : Int64))), .second] [(.long ((((q1 ^^^ q2) ^^^ (((q1 ^^^ q2).toUInt64 >>> ((33 : Int32) &&& 0x3f).toInt64.toUInt64).toInt64)) * (-49064778989728563 : Int64)) ^^^ (((((q1 ^^^ q2) ^^^ (((q1 ^^^ q2).toUInt64 >>> ((33 : Int32) &&& 0x3f).toInt64.toUInt64).toInt64)) * (-49064778989728563 : Int64)).toUInt64 >>> ((33 : Int32) &&& 0x3f).toInt64.toUInt64).toInt64)))])) rfl (hb hby d1_27) t k) ?_
  show OGo p e below _ (s₁.setTop (mkF m 30 #[.val (.long q1), .second, .val (.long q2), .second, .val (.long (((q1 ^^^ q2) ^^^ (((q1 ^^^ q2).toUInt64 >>> ((33 : Int32) &&& 0x3f).toInt64.toUInt64).toInt64)) * (-49064778989728563 : Int64))), .second] [(.long (-4265267296055464877 : Int64)), (.long ((((q1 ^^^ q2) ^^^ (((q1 ^^^ q2).toUInt64 >>> ((33 : Int32) &&& 0x3f).toInt64.toUInt64).toInt64)) * (-49064778989728563 : Int64)) ^^^ (((((q1 ^^^ q2) ^^^ (((q1 ^^^ q2).toUInt64 >>> ((33 : Int32) &&& 0x3f).toInt64.toUInt64).toInt64)) * (-49064778989728563 : Int64)).toUInt64 >>> ((33 : Int32) &&& 0x3f).toInt64.toUInt64).toInt64)))]))
  refine OGo.st (fun t k => XS.lmul X0.here hx rfl (hb hby d1_30) rfl k) ?_
  show OGo p e below _ (s₁.setTop (mkF m 31 #[.val (.long q1), .second, .val (.long q2), .second, .val (.long (((q1 ^^^ q2) ^^^ (((q1 ^^^ q2).toUInt64 >>> ((33 : Int32) &&& 0x3f).toInt64.toUInt64).toInt64)) * (-49064778989728563 : Int64))), .second] [(.long (((((q1 ^^^ q2) ^^^ (((q1 ^^^ q2).toUInt64 >>> ((33 : Int32) &&& 0x3f).toInt64.toUInt64).toInt64)) * (-49064778989728563 : Int64)) ^^^ (((((q1 ^^^ q2) ^^^ (((q1 ^^^ q2).toUInt64 >>> ((33 : Int32) &&& 0x3f).toInt64.toUInt64).toInt64)) * (-49064778989728563 : Int64)).toUInt64 >>> ((33 : Int32) &&& 0x3f).toInt64.toUInt64).toInt64)) * (-4265267296055464877 : Int64)))]))
  refine OGo.st (fun t k => XS.lstore X0.here hx rfl (hb hby d1_31) rfl (l' := #[.val (.long q1), .second, .val (.long q2), .second, .val (.long (((((q1 ^^^ q2) ^^^ (((q1 ^^^ q2).toUInt64 >>> ((33 : Int32) &&& 0x3f).toInt64.toUInt64).toInt64)) * (-49064778989728563 : Int64)) ^^^ (((((q1 ^^^ q2) ^^^ (((q1 ^^^ q2).toUInt64 >>> ((33 : Int32) &&& 0x3f).toInt64.toUInt64).toInt64)) * (-49064778989728563 : Int64)).toUInt64 >>> ((33 : Int32) &&& 0x3f).toInt64.toUInt64).toInt64)) * (-4265267296055464877 : Int64))), .second]) rfl k) ?_
  show OGo p e below _ (s₁.setTop (mkF m 33 #[.val (.long q1), .second, .val (.long q2), .second, .val (.long (((((q1 ^^^ q2) ^^^ (((q1 ^^^ q2).toUInt64 >>> ((33 : Int32) &&& 0x3f).toInt64.toUInt64).toInt64)) * (-49064778989728563 : Int64)) ^^^ (((((q1 ^^^ q2) ^^^ (((q1 ^^^ q2).toUInt64 >>> ((33 : Int32) &&& 0x3f).toInt64.toUInt64).toInt64)) * (-49064778989728563 : Int64)).toUInt64 >>> ((33 : Int32) &&& 0x3f).toInt64.toUInt64).toInt64)) * (-4265267296055464877 : Int64))), .second] []))
  refine OGo.st (fun t k => XS.lload X0.here hx rfl (hb hby d1_33) rfl k) ?_
  show OGo p e below _ (s₁.setTop (mkF m 35 #[.val (.long q1), .second, .val (.long q2), .second, .val (.long (((((q1 ^^^ q2) ^^^ (((q1 ^^^ q2).toUInt64 >>> ((33 : Int32) &&& 0x3f).toInt64.toUInt64).toInt64)) * (-49064778989728563 : Int64)) ^^^ (((((q1 ^^^ q2) ^^^ (((q1 ^^^ q2).toUInt64 >>> ((33 : Int32) &&& 0x3f).toInt64.toUInt64).toInt64)) * (-49064778989728563 : Int64)).toUInt64 >>> ((33 : Int32) &&& 0x3f).toInt64.toUInt64).toInt64)) * (-4265267296055464877 : Int64))), .second] [(.long (((((q1 ^^^ q2) ^^^ (((q1 ^^^ q2).toUInt64 >>> ((33 : Int32) &&& 0x3f).toInt64.toUInt64).toInt64)) * (-49064778989728563 : Int64)) ^^^ (((((q1 ^^^ q2) ^^^ (((q1 ^^^ q2).toUInt64 >>> ((33 : Int32) &&& 0x3f).toInt64.toUInt64).toInt64)) * (-49064778989728563 : Int64)).toUInt64 >>> ((33 : Int32) &&& 0x3f).toInt64.toUInt64).toInt64)) * (-4265267296055464877 : Int64)))]))
  refine OGo.st (fun t k => XS.lload X0.here hx rfl (hb hby d1_35) rfl k) ?_
  show OGo p e below _ (s₁.setTop (mkF m 37 #[.val (.long q1), .second, .val (.long q2), .second, .val (.long (((((q1 ^^^ q2) ^^^ (((q1 ^^^ q2).toUInt64 >>> ((33 : Int32) &&& 0x3f).toInt64.toUInt64).toInt64)) * (-49064778989728563 : Int64)) ^^^ (((((q1 ^^^ q2) ^^^ (((q1 ^^^ q2).toUInt64 >>> ((33 : Int32) &&& 0x3f).toInt64.toUInt64).toInt64)) * (-49064778989728563 : Int64)).toUInt64 >>> ((33 : Int32) &&& 0x3f).toInt64.toUInt64).toInt64)) * (-4265267296055464877 : Int64))), .second] [(.long (((((q1 ^^^ q2) ^^^ (((q1 ^^^ q2).toUInt64 >>> ((33 : Int32) &&& 0x3f).toInt64.toUInt64).toInt64)) * (-49064778989728563 : Int64)) ^^^ (((((q1 ^^^ q2) ^^^ (((q1 ^^^ q2).toUInt64 >>> ((33 : Int32) &&& 0x3f).toInt64.toUInt64).toInt64)) * (-49064778989728563 : Int64)).toUInt64 >>> ((33 : Int32) &&& 0x3f).toInt64.toUInt64).toInt64)) * (-4265267296055464877 : Int64))), (.long (((((q1 ^^^ q2) ^^^ (((q1 ^^^ q2).toUInt64 >>> ((33 : Int32) &&& 0x3f).toInt64.toUInt64).toInt64)) * (-49064778989728563 : Int64)) ^^^ (((((q1 ^^^ q2) ^^^ (((q1 ^^^ q2).toUInt64 >>> ((33 : Int32) &&& 0x3f).toInt64.toUInt64).toInt64)) * (-49064778989728563 : Int64)).toUInt64 >>> ((33 : Int32) &&& 0x3f).toInt64.toUInt64).toInt64)) * (-4265267296055464877 : Int64)))]))
  refine OGo.st (fun t k => XS.bipush X0.here hx rfl (hb hby d1_37) k) ?_
  show OGo p e below _ (s₁.setTop (mkF m 39 #[.val (.long q1), .second, .val (.long q2), .second, .val (.long (((((q1 ^^^ q2) ^^^ (((q1 ^^^ q2).toUInt64 >>> ((33 : Int32) &&& 0x3f).toInt64.toUInt64).toInt64)) * (-49064778989728563 : Int64)) ^^^ (((((q1 ^^^ q2) ^^^ (((q1 ^^^ q2).toUInt64 >>> ((33 : Int32) &&& 0x3f).toInt64.toUInt64).toInt64)) * (-49064778989728563 : Int64)).toUInt64 >>> ((33 : Int32) &&& 0x3f).toInt64.toUInt64).toInt64)) * (-4265267296055464877 : Int64))), .second] [(.int (33 : Int32)), (.long (((((q1 ^^^ q2) ^^^ (((q1 ^^^ q2).toUInt64 >>> ((33 : Int32) &&& 0x3f).toInt64.toUInt64).toInt64)) * (-49064778989728563 : Int64)) ^^^ (((((q1 ^^^ q2) ^^^ (((q1 ^^^ q2).toUInt64 >>> ((33 : Int32) &&& 0x3f).toInt64.toUInt64).toInt64)) * (-49064778989728563 : Int64)).toUInt64 >>> ((33 : Int32) &&& 0x3f).toInt64.toUInt64).toInt64)) * (-4265267296055464877 : Int64))), (.long (((((q1 ^^^ q2) ^^^ (((q1 ^^^ q2).toUInt64 >>> ((33 : Int32) &&& 0x3f).toInt64.toUInt64).toInt64)) * (-49064778989728563 : Int64)) ^^^ (((((q1 ^^^ q2) ^^^ (((q1 ^^^ q2).toUInt64 >>> ((33 : Int32) &&& 0x3f).toInt64.toUInt64).toInt64)) * (-49064778989728563 : Int64)).toUInt64 >>> ((33 : Int32) &&& 0x3f).toInt64.toUInt64).toInt64)) * (-4265267296055464877 : Int64)))]))
  refine OGo.st (fun t k => XS.lushr X0.here hx rfl (hb hby d1_39) rfl k) ?_
  show OGo p e below _ (s₁.setTop (mkF m 40 #[.val (.long q1), .second, .val (.long q2), .second, .val (.long (((((q1 ^^^ q2) ^^^ (((q1 ^^^ q2).toUInt64 >>> ((33 : Int32) &&& 0x3f).toInt64.toUInt64).toInt64)) * (-49064778989728563 : Int64)) ^^^ (((((q1 ^^^ q2) ^^^ (((q1 ^^^ q2).toUInt64 >>> ((33 : Int32) &&& 0x3f).toInt64.toUInt64).toInt64)) * (-49064778989728563 : Int64)).toUInt64 >>> ((33 : Int32) &&& 0x3f).toInt64.toUInt64).toInt64)) * (-4265267296055464877 : Int64))), .second] [(.long (((((((q1 ^^^ q2) ^^^ (((q1 ^^^ q2).toUInt64 >>> ((33 : Int32) &&& 0x3f).toInt64.toUInt64).toInt64)) * (-49064778989728563 : Int64)) ^^^ (((((q1 ^^^ q2) ^^^ (((q1 ^^^ q2).toUInt64 >>> ((33 : Int32) &&& 0x3f).toInt64.toUInt64).toInt64)) * (-49064778989728563 : Int64)).toUInt64 >>> ((33 : Int32) &&& 0x3f).toInt64.toUInt64).toInt64)) * (-4265267296055464877 : Int64)).toUInt64 >>> ((33 : Int32) &&& 0x3f).toInt64.toUInt64).toInt64)), (.long (((((q1 ^^^ q2) ^^^ (((q1 ^^^ q2).toUInt64 >>> ((33 : Int32) &&& 0x3f).toInt64.toUInt64).toInt64)) * (-49064778989728563 : Int64)) ^^^ (((((q1 ^^^ q2) ^^^ (((q1 ^^^ q2).toUInt64 >>> ((33 : Int32) &&& 0x3f).toInt64.toUInt64).toInt64)) * (-49064778989728563 : Int64)).toUInt64 >>> ((33 : Int32) &&& 0x3f).toInt64.toUInt64).toInt64)) * (-4265267296055464877 : Int64)))]))
  refine OGo.st (fun t k => XS.lxor X0.here hx rfl (hb hby d1_40) rfl k) ?_
  show OGo p e below _ (s₁.setTop (mkF m 41 #[.val (.long q1), .second, .val (.long q2), .second, .val (.long (((((q1 ^^^ q2) ^^^ (((q1 ^^^ q2).toUInt64 >>> ((33 : Int32) &&& 0x3f).toInt64.toUInt64).toInt64)) * (-49064778989728563 : Int64)) ^^^ (((((q1 ^^^ q2) ^^^ (((q1 ^^^ q2).toUInt64 >>> ((33 : Int32) &&& 0x3f).toInt64.toUInt64).toInt64)) * (-49064778989728563 : Int64)).toUInt64 >>> ((33 : Int32) &&& 0x3f).toInt64.toUInt64).toInt64)) * (-4265267296055464877 : Int64))), .second] [(.long ((((((q1 ^^^ q2) ^^^ (((q1 ^^^ q2).toUInt64 >>> ((33 : Int32) &&& 0x3f).toInt64.toUInt64).toInt64)) * (-49064778989728563 : Int64)) ^^^ (((((q1 ^^^ q2) ^^^ (((q1 ^^^ q2).toUInt64 >>> ((33 : Int32) &&& 0x3f).toInt64.toUInt64).toInt64)) * (-49064778989728563 : Int64)).toUInt64 >>> ((33 : Int32) &&& 0x3f).toInt64.toUInt64).toInt64)) * (-4265267296055464877 : Int64)) ^^^ (((((((q1 ^^^ q2) ^^^ (((q1 ^^^ q2).toUInt64 >>> ((33 : Int32) &&& 0x3f).toInt64.toUInt64).toInt64)) * (-49064778989728563 : Int64)) ^^^ (((((q1 ^^^ q2) ^^^ (((q1 ^^^ q2).toUInt64 >>> ((33 : Int32) &&& 0x3f).toInt64.toUInt64).toInt64)) * (-49064778989728563 : Int64)).toUInt64 >>> ((33 : Int32) &&& 0x3f).toInt64.toUInt64).toInt64)) * (-4265267296055464877 : Int64)).toUInt64 >>> ((33 : Int32) &&& 0x3f).toInt64.toUInt64).toInt64)))]))
  refine OGo.st (fun t k => XS.l2i X0.here hx rfl (hb hby d1_41) rfl k) ?_
  show OGo p e below _ (s₁.setTop (mkF m 42 #[.val (.long q1), .second, .val (.long q2), .second, .val (.long (((((q1 ^^^ q2) ^^^ (((q1 ^^^ q2).toUInt64 >>> ((33 : Int32) &&& 0x3f).toInt64.toUInt64).toInt64)) * (-49064778989728563 : Int64)) ^^^ (((((q1 ^^^ q2) ^^^ (((q1 ^^^ q2).toUInt64 >>> ((33 : Int32) &&& 0x3f).toInt64.toUInt64).toInt64)) * (-49064778989728563 : Int64)).toUInt64 >>> ((33 : Int32) &&& 0x3f).toInt64.toUInt64).toInt64)) * (-4265267296055464877 : Int64))), .second] [(.int (((((((q1 ^^^ q2) ^^^ (((q1 ^^^ q2).toUInt64 >>> ((33 : Int32) &&& 0x3f).toInt64.toUInt64).toInt64)) * (-49064778989728563 : Int64)) ^^^ (((((q1 ^^^ q2) ^^^ (((q1 ^^^ q2).toUInt64 >>> ((33 : Int32) &&& 0x3f).toInt64.toUInt64).toInt64)) * (-49064778989728563 : Int64)).toUInt64 >>> ((33 : Int32) &&& 0x3f).toInt64.toUInt64).toInt64)) * (-4265267296055464877 : Int64)) ^^^ (((((((q1 ^^^ q2) ^^^ (((q1 ^^^ q2).toUInt64 >>> ((33 : Int32) &&& 0x3f).toInt64.toUInt64).toInt64)) * (-49064778989728563 : Int64)) ^^^ (((((q1 ^^^ q2) ^^^ (((q1 ^^^ q2).toUInt64 >>> ((33 : Int32) &&& 0x3f).toInt64.toUInt64).toInt64)) * (-49064778989728563 : Int64)).toUInt64 >>> ((33 : Int32) &&& 0x3f).toInt64.toUInt64).toInt64)) * (-4265267296055464877 : Int64)).toUInt64 >>> ((33 : Int32) &&& 0x3f).toInt64.toUInt64).toInt64)).toInt32))]))
  exact OGo.outI X0 hx Bd.returns Bd.notSynchronized (hb hby d1_42) ⟨rfl, N0, e0⟩ (by decide) (by decide)
theorem pn0 : plainName "com/example/lockstep/lockstep/check/KeyTableHashPinLaw" = true := by first | (simp [plainName, overriddenIn]; done) | decide +kernel
theorem pd0_0 : parseMethodDescriptor "(JJ)I" = some ⟨[.long, .long], some .int⟩ := by decide +kernel
theorem ef0 (m : MethodId) (q1 : Int64) (q2 : Int64) (q3 : Int64) : entryFrame m #[(.long q1), (.long q2), (.long q3)] maxLocals = mkF m 0 #[.val (.long q1), .second, .val (.long q2), .second, .val (.long q3), .second, .unset, .unset, .unset, .unset, .unset] [] := by first | (simp [entryFrame, mkF, argsToLocals, Value.category, maxLocals]; done) | rfl
def g0_98_1 (q1 : Int64) (q2 : Int64) (q3 : Int64) (j79_l7 : Int32) (j79_l8 : Int32) (j79_l9 : Int32) (j79_s0 : Int32) : Int32 := if j79_s0 = (0 : Int32) then (0 : Int32) else (1 : Int32)
def g0_93_2 (q1 : Int64) (q2 : Int64) (q3 : Int64) (j79_l7 : Int32) (j79_l8 : Int32) (j79_l9 : Int32) (j79_s0 : Int32) : Int32 := if j79_l9 = (0 : Int32) then (0 : Int32) else (g0_98_1 q1 q2 q3 j79_l7 j79_l8 j79_l9 j79_s0)
def g0_88_3 (q1 : Int64) (q2 : Int64) (q3 : Int64) (j79_l7 : Int32) (j79_l8 : Int32) (j79_l9 : Int32) (j79_s0 : Int32) : Int32 := if j79_l8 = (0 : Int32) then (0 : Int32) else (g0_93_2 q1 q2 q3 j79_l7 j79_l8 j79_l9 j79_s0)
def g0_83_4 (q1 : Int64) (q2 : Int64) (q3 : Int64) (j79_l7 : Int32) (j79_l8 : Int32) (j79_l9 : Int32) (j79_s0 : Int32) : Int32 := if j79_l7 = (0 : Int32) then (0 : Int32) else (g0_88_3 q1 q2 q3 j79_l7 j79_l8 j79_l9 j79_s0)
def g0_j79 (q1 : Int64) (q2 : Int64) (q3 : Int64) (j79_l7 : Int32) (j79_l8 : Int32) (j79_l9 : Int32) (j79_s0 : Int32) : Int32 := (g0_83_4 q1 q2 q3 j79_l7 j79_l8 j79_l9 j79_s0)
def g0_71_5 (q1 : Int64) (q2 : Int64) (q3 : Int64) (j64_l7 : Int32) (j64_l8 : Int32) (j64_s0 : Int32) : Int32 := if (f1 q1 q1) = (0 : Int32) then (g0_j79 q1 q2 q3 j64_l7 j64_l8 j64_s0 (1 : Int32)) else (g0_j79 q1 q2 q3 j64_l7 j64_l8 j64_s0 (0 : Int32))
def g0_j64 (q1 : Int64) (q2 : Int64) (q3 : Int64) (j64_l7 : Int32) (j64_l8 : Int32) (j64_s0 : Int32) : Int32 := (g0_71_5 q1 q2 q3 j64_l7 j64_l8 j64_s0)
def g0_56_6 (q1 : Int64) (q2 : Int64) (q3 : Int64) (j45_l7 : Int32) (j45_s0 : Int32) : Int32 := if (f1 q1 q2) = (f1 (q1 ^^^ q2) (0 : Int64)) then (g0_j64 q1 q2 q3 j45_l7 j45_s0 (1 : Int32)) else (g0_j64 q1 q2 q3 j45_l7 j45_s0 (0 : Int32))
def g0_j45 (q1 : Int64) (q2 : Int64) (q3 : Int64) (j45_l7 : Int32) (j45_s0 : Int32) : Int32 := (g0_56_6 q1 q2 q3 j45_l7 j45_s0)
def g0_37_7 (q1 : Int64) (q2 : Int64) (q3 : Int64) (j22_s0 : Int32) : Int32 := if (f1 q1 q2) = (f1 (q1 ^^^ q3) (q2 ^^^ q3)) then (g0_j45 q1 q2 q3 j22_s0 (1 : Int32)) else (g0_j45 q1 q2 q3 j22_s0 (0 : Int32))
def g0_j22 (q1 : Int64) (q2 : Int64) (q3 : Int64) (j22_s0 : Int32) : Int32 := (g0_37_7 q1 q2 q3 j22_s0)
def g0_14_8 (q1 : Int64) (q2 : Int64) (q3 : Int64) : Int32 := if (f1 q1 q2) = (f1 q2 q1) then (g0_j22 q1 q2 q3 (1 : Int32)) else (g0_j22 q1 q2 q3 (0 : Int32))
def f0 (q1 : Int64) (q2 : Int64) (q3 : Int64) : Int32 := (g0_14_8 q1 q2 q3)
set_option maxRecDepth 65536 in
set_option maxHeartbeats 40000000 in
theorem rm0 (l : Launch) (Z : State) (a0 : Array Value) (hw : ∀ d ∈ tables_1, d.before a0 Z = true) (ws : List Jvm.Cond) (q1 : Int64) (q2 : Int64) (q3 : Int64) (h0 : Heap) (n0 : Nat) (Z0 : n0 ≤ h0.size) :
    MetFree l x (head1 (Jvm.Cond.code x code maxLocals ret :: ws) room_1) (fun a U => a = #[(.long q1), (.long q2), (.long q3)] ∧ Z.Warmed39 U.vm ∧ U.heap = h0) (fun _ _ _ _ _ => True) (fun _ U o U' => ∃ v L, o = .returned v ∧ PI n0 h0 (f0 q1 q2 q3) v U'.heap L ∧ FrameEnd U o U' L room_1.cells room_1.slots) := by
  refine MetFree.of_bodySF (plainFor_of_name pn0) hisR ?_
  intro p e s m args below meth c s₁ Bd hml0 hP hK
  obtain ⟨rfl, hZ, hh⟩ := hP
  have hx := Bd.exec
  have hby := Bd.bytes
  have hml : c.maxLocals = 11 := hml0
  have hown : s.vm.findClass "com/example/lockstep/lockstep/check/KeyTableHashPinLaw" = some m.cls := findClass_of_methodNamed Bd.named
  have X0 : Stand p l e room_1 s m #[(.long q1), (.long q2), (.long q3)] below meth c s₁ [] 0 0 := Stand.of_body Bd
  have e0 : s₁.heap = h0 := by rw [← hh, Bd.state]; rfl
  have N0 := Fr.nil n0
  show OGo p e below (Out s room_1.cells room_1.slots (PI n0 h0 (f0 q1 q2 q3))) (s₁.setTop (entryFrame m #[(.long q1), (.long q2), (.long q3)] maxLocals))
  have J79 : ∀ (T : State) (locs : List Loc) (X : Stand p l e room_1 s m #[(.long q1), (.long q2), (.long q3)] below meth c T locs 0 0) (eT : T.heap = h0) (N : Fr n0 locs) (j79_l7 : Int32) (j79_l8 : Int32) (j79_l9 : Int32) (j79_s0 : Int32), OGo p e below (Out s room_1.cells room_1.slots (PI n0 h0 (g0_j79 q1 q2 q3 j79_l7 j79_l8 j79_l9 j79_s0))) (T.setTop (mkF m 79 #[.val (.long q1), .second, .val (.long q2), .second, .val (.long q3), .second, .val (.int (f1 q1 q2)), .val (.int j79_l7), .val (.int j79_l8), .val (.int j79_l9), .unset] [(.int j79_s0)])) := by
    intro T locs X eT N j79_l7 j79_l8 j79_l9 j79_s0
    show OGo p e below (Out s room_1.cells room_1.slots (PI n0 h0 (g0_83_4 q1 q2 q3 j79_l7 j79_l8 j79_l9 j79_s0))) (T.setTop (mkF m 79 #[.val (.long q1), .second, .val (.long q2), .second, .val (.long q3), .second, .val (.int (f1 q1 q2)), .val (.int j79_l7), .val (.int j79_l8), .val (.int j79_l9), .unset] [(.int j79_s0)]))
    refine OGo.st (fun t k => XS.istore X.here hx rfl (hb hby at_79) rfl (l' := #[.val (.long q1), .second, .val (.long q2), .second, .val (.long q3), .second, .val (.int (f1 q1 q2)), .val (.int j79_l7), .val (.int j79_l8), .val (.int j79_l9), .val (.int j79_s0)]) rfl k) ?_
    show OGo p e below _ (T.setTop (mkF m 81 #[.val (.long q1), .second, .val (.long q2), .second, .val (.long q3), .second, .val (.int (f1 q1 q2)), .val (.int j79_l7), .val (.int j79_l8), .val (.int j79_l9), .val (.int j79_s0)] []))
    refine OGo.st (fun t k => XS.iload X.here hx rfl (hb hby at_81) rfl k) ?_
    show OGo p e below _ (T.setTop (mkF m 83 #[.val (.long q1), .second, .val (.long q2), .second, .val (.long q3), .second, .val (.int (f1 q1 q2)), .val (.int j79_l7), .val (.int j79_l8), .val (.int j79_l9), .val (.int j79_s0)] [(.int j79_l7)]))
    by_cases hc83_1 : j79_l7 = (0 : Int32)
    · refine OGo.eqvI (show (g0_83_4 q1 q2 q3 j79_l7 j79_l8 j79_l9 j79_s0) = (0 : Int32) from if_pos hc83_1) ?_
      refine OGo.st (fun t k => XS.ifYes X.here hx rfl (pc0 := 83) (pc' := 105) rfl (hb hby at_83) rfl ((if0 _ _).trans (teq hc83_1).1) (by decide) (by decide) k) ?_
      show OGo p e below _ (T.setTop (mkF m 105 #[.val (.long q1), .second, .val (.long q2), .second, .val (.long q3), .second, .val (.int (f1 q1 q2)), .val (.int j79_l7), .val (.int j79_l8), .val (.int j79_l9), .val (.int j79_s0)] []))
      refine OGo.st (fun t k => XS.iconst X.here hx rfl (hb hby at_105) k) ?_
      show OGo p e below _ (T.setTop (mkF m 106 #[.val (.long q1), .second, .val (.long q2), .second, .val (.long q3), .second, .val (.int (f1 q1 q2)), .val (.int j79_l7), .val (.int j79_l8), .val (.int j79_l9), .val (.int j79_s0)] [(.int (0 : Int32))]))
      exact OGo.outN X hx (t := .boolean) Bd.returns (by simp) Bd.notSynchronized (hb hby at_106) ⟨rfl, N, eT⟩ (by decide) (by decide)
    · refine OGo.eqvI (show (g0_83_4 q1 q2 q3 j79_l7 j79_l8 j79_l9 j79_s0) = (g0_88_3 q1 q2 q3 j79_l7 j79_l8 j79_l9 j79_s0) from if_neg hc83_1) ?_
      refine OGo.st (fun t k => XS.ifNo X.here hx rfl (hb hby at_83) rfl ((if0 _ _).trans (feq hc83_1).1) k) ?_
      show OGo p e below _ (T.setTop (mkF m 86 #[.val (.long q1), .second, .val (.long q2), .second, .val (.long q3), .second, .val (.int (f1 q1 q2)), .val (.int j79_l7), .val (.int j79_l8), .val (.int j79_l9), .val (.int j79_s0)] []))
      refine OGo.st (fun t k => XS.iload X.here hx rfl (hb hby at_86) rfl k) ?_
      show OGo p e below _ (T.setTop (mkF m 88 #[.val (.long q1), .second, .val (.long q2), .second, .val (.long q3), .second, .val (.int (f1 q1 q2)), .val (.int j79_l7), .val (.int j79_l8), .val (.int j79_l9), .val (.int j79_s0)] [(.int j79_l8)]))
      by_cases hc88_2 : j79_l8 = (0 : Int32)
      · refine OGo.eqvI (show (g0_88_3 q1 q2 q3 j79_l7 j79_l8 j79_l9 j79_s0) = (0 : Int32) from if_pos hc88_2) ?_
        refine OGo.st (fun t k => XS.ifYes X.here hx rfl (pc0 := 88) (pc' := 105) rfl (hb hby at_88) rfl ((if0 _ _).trans (teq hc88_2).1) (by decide) (by decide) k) ?_
        show OGo p e below _ (T.setTop (mkF m 105 #[.val (.long q1), .second, .val (.long q2), .second, .val (.long q3), .second, .val (.int (f1 q1 q2)), .val (.int j79_l7), .val (.int j79_l8), .val (.int j79_l9), .val (.int j79_s0)] []))
        refine OGo.st (fun t k => XS.iconst X.here hx rfl (hb hby at_105) k) ?_
        show OGo p e below _ (T.setTop (mkF m 106 #[.val (.long q1), .second, .val (.long q2), .second, .val (.long q3), .second, .val (.int (f1 q1 q2)), .val (.int j79_l7), .val (.int j79_l8), .val (.int j79_l9), .val (.int j79_s0)] [(.int (0 : Int32))]))
        exact OGo.outN X hx (t := .boolean) Bd.returns (by simp) Bd.notSynchronized (hb hby at_106) ⟨rfl, N, eT⟩ (by decide) (by decide)
      · refine OGo.eqvI (show (g0_88_3 q1 q2 q3 j79_l7 j79_l8 j79_l9 j79_s0) = (g0_93_2 q1 q2 q3 j79_l7 j79_l8 j79_l9 j79_s0) from if_neg hc88_2) ?_
        refine OGo.st (fun t k => XS.ifNo X.here hx rfl (hb hby at_88) rfl ((if0 _ _).trans (feq hc88_2).1) k) ?_
        show OGo p e below _ (T.setTop (mkF m 91 #[.val (.long q1), .second, .val (.long q2), .second, .val (.long q3), .second, .val (.int (f1 q1 q2)), .val (.int j79_l7), .val (.int j79_l8), .val (.int j79_l9), .val (.int j79_s0)] []))
        refine OGo.st (fun t k => XS.iload X.here hx rfl (hb hby at_91) rfl k) ?_
        show OGo p e below _ (T.setTop (mkF m 93 #[.val (.long q1), .second, .val (.long q2), .second, .val (.long q3), .second, .val (.int (f1 q1 q2)), .val (.int j79_l7), .val (.int j79_l8), .val (.int j79_l9), .val (.int j79_s0)] [(.int j79_l9)]))
        by_cases hc93_3 : j79_l9 = (0 : Int32)
        · refine OGo.eqvI (show (g0_93_2 q1 q2 q3 j79_l7 j79_l8 j79_l9 j79_s0) = (0 : Int32) from if_pos hc93_3) ?_
          refine OGo.st (fun t k => XS.ifYes X.here hx rfl (pc0 := 93) (pc' := 105) rfl (hb hby at_93) rfl ((if0 _ _).trans (teq hc93_3).1) (by decide) (by decide) k) ?_
          show OGo p e below _ (T.setTop (mkF m 105 #[.val (.long q1), .second, .val (.long q2), .second, .val (.long q3), .second, .val (.int (f1 q1 q2)), .val (.int j79_l7), .val (.int j79_l8), .val (.int j79_l9), .val (.int j79_s0)] []))
          refine OGo.st (fun t k => XS.iconst X.here hx rfl (hb hby at_105) k) ?_
          show OGo p e below _ (T.setTop (mkF m 106 #[.val (.long q1), .second, .val (.long q2), .second, .val (.long q3), .second, .val (.int (f1 q1 q2)), .val (.int j79_l7), .val (.int j79_l8), .val (.int j79_l9), .val (.int j79_s0)] [(.int (0 : Int32))]))
          exact OGo.outN X hx (t := .boolean) Bd.returns (by simp) Bd.notSynchronized (hb hby at_106) ⟨rfl, N, eT⟩ (by decide) (by decide)
        · refine OGo.eqvI (show (g0_93_2 q1 q2 q3 j79_l7 j79_l8 j79_l9 j79_s0) = (g0_98_1 q1 q2 q3 j79_l7 j79_l8 j79_l9 j79_s0) from if_neg hc93_3) ?_
          refine OGo.st (fun t k => XS.ifNo X.here hx rfl (hb hby at_93) rfl ((if0 _ _).trans (feq hc93_3).1) k) ?_
          show OGo p e below _ (T.setTop (mkF m 96 #[.val (.long q1), .second, .val (.long q2), .second, .val (.long q3), .second, .val (.int (f1 q1 q2)), .val (.int j79_l7), .val (.int j79_l8), .val (.int j79_l9), .val (.int j79_s0)] []))
          refine OGo.st (fun t k => XS.iload X.here hx rfl (hb hby at_96) rfl k) ?_
          show OGo p e below _ (T.setTop (mkF m 98 #[.val (.long q1), .second, .val (.long q2), .second, .val (.long q3), .second, .val (.int (f1 q1 q2)), .val (.int j79_l7), .val (.int j79_l8), .val (.int j79_l9), .val (.int j79_s0)] [(.int j79_s0)]))
          by_cases hc98_4 : j79_s0 = (0 : Int32)
          · refine OGo.eqvI (show (g0_98_1 q1 q2 q3 j79_l7 j79_l8 j79_l9 j79_s0) = (0 : Int32) from if_pos hc98_4) ?_
            refine OGo.st (fun t k => XS.ifYes X.here hx rfl (pc0 := 98) (pc' := 105) rfl (hb hby at_98) rfl ((if0 _ _).trans (teq hc98_4).1) (by decide) (by decide) k) ?_
            show OGo p e below _ (T.setTop (mkF m 105 #[.val (.long q1), .second, .val (.long q2), .second, .val (.long q3), .second, .val (.int (f1 q1 q2)), .val (.int j79_l7), .val (.int j79_l8), .val (.int j79_l9), .val (.int j79_s0)] []))
            refine OGo.st (fun t k => XS.iconst X.here hx rfl (hb hby at_105) k) ?_
            show OGo p e below _ (T.setTop (mkF m 106 #[.val (.long q1), .second, .val (.long q2), .second, .val (.long q3), .second, .val (.int (f1 q1 q2)), .val (.int j79_l7), .val (.int j79_l8), .val (.int j79_l9), .val (.int j79_s0)] [(.int (0 : Int32))]))
            exact OGo.outN X hx (t := .boolean) Bd.returns (by simp) Bd.notSynchronized (hb hby at_106) ⟨rfl, N, eT⟩ (by decide) (by decide)
          · refine OGo.eqvI (show (g0_98_1 q1 q2 q3 j79_l7 j79_l8 j79_l9 j79_s0) = (1 : Int32) from if_neg hc98_4) ?_
            refine OGo.st (fun t k => XS.ifNo X.here hx rfl (hb hby at_98) rfl ((if0 _ _).trans (feq hc98_4).1) k) ?_
            show OGo p e below _ (T.setTop (mkF m 101 #[.val (.long q1), .second, .val (.long q2), .second, .val (.long q3), .second, .val (.int (f1 q1 q2)), .val (.int j79_l7), .val (.int j79_l8), .val (.int j79_l9), .val (.int j79_s0)] []))
            refine OGo.st (fun t k => XS.iconst X.here hx rfl (hb hby at_101) k) ?_
            show OGo p e below _ (T.setTop (mkF m 102 #[.val (.long q1), .second, .val (.long q2), .second, .val (.long q3), .second, .val (.int (f1 q1 q2)), .val (.int j79_l7), .val (.int j79_l8), .val (.int j79_l9), .val (.int j79_s0)] [(.int (1 : Int32))]))
            refine OGo.st (fun t k => XS.goto X.here hx rfl (pc0 := 102) (pc' := 106) rfl (hb hby at_102) (by decide) (by decide) k) ?_
            show OGo p e below _ (T.setTop (mkF m 106 #[.val (.long q1), .second, .val (.long q2), .second, .val (.long q3), .second, .val (.int (f1 q1 q2)), .val (.int j79_l7), .val (.int j79_l8), .val (.int j79_l9), .val (.int j79_s0)] [(.int (1 : Int32))]))
            exact OGo.outN X hx (t := .boolean) Bd.returns (by simp) Bd.notSynchronized (hb hby at_106) ⟨rfl, N, eT⟩ (by decide) (by decide)
  have J64 : ∀ (T : State) (locs : List Loc) (X : Stand p l e room_1 s m #[(.long q1), (.long q2), (.long q3)] below meth c T locs 0 0) (eT : T.heap = h0) (N : Fr n0 locs) (j64_l7 : Int32) (j64_l8 : Int32) (j64_s0 : Int32), OGo p e below (Out s room_1.cells room_1.slots (PI n0 h0 (g0_j64 q1 q2 q3 j64_l7 j64_l8 j64_s0))) (T.setTop (mkF m 64 #[.val (.long q1), .second, .val (.long q2), .second, .val (.long q3), .second, .val (.int (f1 q1 q2)), .val (.int j64_l7), .val (.int j64_l8), .unset, .unset] [(.int j64_s0)])) := by
    intro T locs X eT N j64_l7 j64_l8 j64_s0
    show OGo p e below (Out s room_1.cells room_1.slots (PI n0 h0 (g0_71_5 q1 q2 q3 j64_l7 j64_l8 j64_s0))) (T.setTop (mkF m 64 #[.val (.long q1), .second, .val (.long q2), .second, .val (.long q3), .second, .val (.int (f1 q1 q2)), .val (.int j64_l7), .val (.int j64_l8), .unset, .unset] [(.int j64_s0)]))
    refine OGo.st (fun t k => XS.istore X.here hx rfl (hb hby at_64) rfl (l' := #[.val (.long q1), .second, .val (.long q2), .second, .val (.long q3), .second, .val (.int (f1 q1 q2)), .val (.int j64_l7), .val (.int j64_l8), .val (.int j64_s0), .unset]) rfl k) ?_
    show OGo p e below _ (T.setTop (mkF m 66 #[.val (.long q1), .second, .val (.long q2), .second, .val (.long q3), .second, .val (.int (f1 q1 q2)), .val (.int j64_l7), .val (.int j64_l8), .val (.int j64_s0), .unset] []))
    refine OGo.st (fun t k => XS.lloadN X.here hx rfl (hb hby at_66) rfl k) ?_
    show OGo p e below _ (T.setTop (mkF m 67 #[.val (.long q1), .second, .val (.long q2), .second, .val (.long q3), .second, .val (.int (f1 q1 q2)), .val (.int j64_l7), .val (.int j64_l8), .val (.int j64_s0), .unset] [(.long q1)]))
    refine OGo.st (fun t k => XS.lloadN X.here hx rfl (hb hby at_67) rfl k) ?_
    show OGo p e below _ (T.setTop (mkF m 68 #[.val (.long q1), .second, .val (.long q2), .second, .val (.long q3), .second, .val (.int (f1 q1 q2)), .val (.int j64_l7), .val (.int j64_l8), .val (.int j64_s0), .unset] [(.long q1), (.long q1)]))
    obtain ⟨_, _, ⟨T5, L5, k5, n5⟩, -, X5, ⟨Lc5, hQ5, l5, y5, z5⟩, st5⟩ := Jvm.LawKit.callS X hx (y := (⟨"com/example/lockstep/lockstep/check/KeyTable", "hash", "(JJ)I"⟩ : MethodName)) hown (mvT hZ (hw _ (List.mem_of_getElem? (i := 0) rfl))) (mvT hZ (hw _ (List.mem_of_getElem? (i := 1) rfl))) (mvT hZ (hw _ (List.mem_of_getElem? (i := 2) rfl))) (mvT hZ (hw _ (List.mem_of_getElem? (i := 3) rfl))) (by decide) (backOf (W := 0) (rm1 l Z a0 hw [] q1 q1 h0 n0 Z0) hZ (hw _ (List.mem_of_getElem? (i := 3) rfl)) (hw _ (List.mem_of_getElem? (i := 2) rfl)) (by decide) (by decide)) (g := (mkF m 68 #[.val (.long q1), .second, .val (.long q2), .second, .val (.long q3), .second, .val (.int (f1 q1 q2)), .val (.int j64_l7), .val (.int j64_l8), .val (.int j64_s0), .unset] [(.long q1), (.long q1)])) rfl (by rw [hml]; rfl) (argsL := [(.long q1), (.long q1)]) (rest := []) (lenOf pd0_0 rfl) rfl (by show 2 * 0 + _ ≤ _; exact Nat.le_of_eq rfl) (hb hby at_68) (fun _ _ => ⟨rfl, eT, (by decide : 0 + 0 ≤ _), (by decide : 0 + 0 ≤ _)⟩)
    dsimp only [Pt.U, Pt.locs, Pt.cells, Pt.slots] at X5 l5 y5 z5 st5 hQ5
    subst l5 y5 z5
    obtain ⟨rfl, Nq5, e5⟩ := hQ5
    have N5 := Fr.app N Nq5
    refine OGo.st (fun t k => st5 t k) ?_
    show OGo p e below _ (T5.setTop (mkF m 71 #[.val (.long q1), .second, .val (.long q2), .second, .val (.long q3), .second, .val (.int (f1 q1 q2)), .val (.int j64_l7), .val (.int j64_l8), .val (.int j64_s0), .unset] [(.int (f1 q1 q1))]))
    by_cases hc71_6 : (f1 q1 q1) = (0 : Int32)
    · refine OGo.eqvI (show (g0_71_5 q1 q2 q3 j64_l7 j64_l8 j64_s0) = (g0_j79 q1 q2 q3 j64_l7 j64_l8 j64_s0 (1 : Int32)) from if_pos hc71_6) ?_
      refine OGo.st (fun t k => XS.ifNo X5.here hx rfl (hb hby at_71) rfl ((if0 _ _).trans (teq hc71_6).2) k) ?_
      show OGo p e below _ (T5.setTop (mkF m 74 #[.val (.long q1), .second, .val (.long q2), .second, .val (.long q3), .second, .val (.int (f1 q1 q2)), .val (.int j64_l7), .val (.int j64_l8), .val (.int j64_s0), .unset] []))
      refine OGo.st (fun t k => XS.iconst X5.here hx rfl (hb hby at_74) k) ?_
      show OGo p e below _ (T5.setTop (mkF m 75 #[.val (.long q1), .second, .val (.long q2), .second, .val (.long q3), .second, .val (.int (f1 q1 q2)), .val (.int j64_l7), .val (.int j64_l8), .val (.int j64_s0), .unset] [(.int (1 : Int32))]))
      refine OGo.st (fun t k => XS.goto X5.here hx rfl (pc0 := 75) (pc' := 79) rfl (hb hby at_75) (by decide) (by decide) k) ?_
      show OGo p e below _ (T5.setTop (mkF m 79 #[.val (.long q1), .second, .val (.long q2), .second, .val (.long q3), .second, .val (.int (f1 q1 q2)), .val (.int j64_l7), .val (.int j64_l8), .val (.int j64_s0), .unset] [(.int (1 : Int32))]))
      exact J79 T5 _ X5 e5 N5 j64_l7 j64_l8 j64_s0 (1 : Int32)
    · refine OGo.eqvI (show (g0_71_5 q1 q2 q3 j64_l7 j64_l8 j64_s0) = (g0_j79 q1 q2 q3 j64_l7 j64_l8 j64_s0 (0 : Int32)) from if_neg hc71_6) ?_
      refine OGo.st (fun t k => XS.ifYes X5.here hx rfl (pc0 := 71) (pc' := 78) rfl (hb hby at_71) rfl ((if0 _ _).trans (feq hc71_6).2) (by decide) (by decide) k) ?_
      show OGo p e below _ (T5.setTop (mkF m 78 #[.val (.long q1), .second, .val (.long q2), .second, .val (.long q3), .second, .val (.int (f1 q1 q2)), .val (.int j64_l7), .val (.int j64_l8), .val (.int j64_s0), .unset] []))
      refine OGo.st (fun t k => XS.iconst X5.here hx rfl (hb hby at_78) k) ?_
      show OGo p e below _ (T5.setTop (mkF m 79 #[.val (.long q1), .second, .val (.long q2), .second, .val (.long q3), .second, .val (.int (f1 q1 q2)), .val (.int j64_l7), .val (.int j64_l8), .val (.int j64_s0), .unset] [(.int (0 : Int32))]))
      exact J79 T5 _ X5 e5 N5 j64_l7 j64_l8 j64_s0 (0 : Int32)
  have J45 : ∀ (T : State) (locs : List Loc) (X : Stand p l e room_1 s m #[(.long q1), (.long q2), (.long q3)] below meth c T locs 0 0) (eT : T.heap = h0) (N : Fr n0 locs) (j45_l7 : Int32) (j45_s0 : Int32), OGo p e below (Out s room_1.cells room_1.slots (PI n0 h0 (g0_j45 q1 q2 q3 j45_l7 j45_s0))) (T.setTop (mkF m 45 #[.val (.long q1), .second, .val (.long q2), .second, .val (.long q3), .second, .val (.int (f1 q1 q2)), .val (.int j45_l7), .unset, .unset, .unset] [(.int j45_s0)])) := by
    intro T locs X eT N j45_l7 j45_s0
    show OGo p e below (Out s room_1.cells room_1.slots (PI n0 h0 (g0_56_6 q1 q2 q3 j45_l7 j45_s0))) (T.setTop (mkF m 45 #[.val (.long q1), .second, .val (.long q2), .second, .val (.long q3), .second, .val (.int (f1 q1 q2)), .val (.int j45_l7), .unset, .unset, .unset] [(.int j45_s0)]))
    refine OGo.st (fun t k => XS.istore X.here hx rfl (hb hby at_45) rfl (l' := #[.val (.long q1), .second, .val (.long q2), .second, .val (.long q3), .second, .val (.int (f1 q1 q2)), .val (.int j45_l7), .val (.int j45_s0), .unset, .unset]) rfl k) ?_
    show OGo p e below _ (T.setTop (mkF m 47 #[.val (.long q1), .second, .val (.long q2), .second, .val (.long q3), .second, .val (.int (f1 q1 q2)), .val (.int j45_l7), .val (.int j45_s0), .unset, .unset] []))
    refine OGo.st (fun t k => XS.iload X.here hx rfl (hb hby at_47) rfl k) ?_
    show OGo p e below _ (T.setTop (mkF m 49 #[.val (.long q1), .second, .val (.long q2), .second, .val (.long q3), .second, .val (.int (f1 q1 q2)), .val (.int j45_l7), .val (.int j45_s0), .unset, .unset] [(.int (f1 q1 q2))]))
    refine OGo.st (fun t k => XS.lloadN X.here hx rfl (hb hby at_49) rfl k) ?_
    show OGo p e below _ (T.setTop (mkF m 50 #[.val (.long q1), .second, .val (.long q2), .second, .val (.long q3), .second, .val (.int (f1 q1 q2)), .val (.int j45_l7), .val (.int j45_s0), .unset, .unset] [(.long q1), (.int (f1 q1 q2))]))
    refine OGo.st (fun t k => XS.lloadN X.here hx rfl (hb hby at_50) rfl k) ?_
    show OGo p e below _ (T.setTop (mkF m 51 #[.val (.long q1), .second, .val (.long q2), .second, .val (.long q3), .second, .val (.int (f1 q1 q2)), .val (.int j45_l7), .val (.int j45_s0), .unset, .unset] [(.long q2), (.long q1), (.int (f1 q1 q2))]))
    refine OGo.st (fun t k => XS.lxor X.here hx rfl (hb hby at_51) rfl k) ?_
    show OGo p e below _ (T.setTop (mkF m 52 #[.val (.long q1), .second, .val (.long q2), .second, .val (.long q3), .second, .val (.int (f1 q1 q2)), .val (.int j45_l7), .val (.int j45_s0), .unset, .unset] [(.long (q1 ^^^ q2)), (.int (f1 q1 q2))]))
    refine OGo.st (fun t k => XS.lconst X.here hx rfl (hb hby at_52) k) ?_
    show OGo p e below _ (T.setTop (mkF m 53 #[.val (.long q1), .second, .val (.long q2), .second, .val (.long q3), .second, .val (.int (f1 q1 q2)), .val (.int j45_l7), .val (.int j45_s0), .unset, .unset] [(.long (0 : Int64)), (.long (q1 ^^^ q2)), (.int (f1 q1 q2))]))
    obtain ⟨_, _, ⟨T7, L7, k7, n7⟩, -, X7, ⟨Lc7, hQ7, l7, y7, z7⟩, st7⟩ := Jvm.LawKit.callS X hx (y := (⟨"com/example/lockstep/lockstep/check/KeyTable", "hash", "(JJ)I"⟩ : MethodName)) hown (mvT hZ (hw _ (List.mem_of_getElem? (i := 0) rfl))) (mvT hZ (hw _ (List.mem_of_getElem? (i := 1) rfl))) (mvT hZ (hw _ (List.mem_of_getElem? (i := 2) rfl))) (mvT hZ (hw _ (List.mem_of_getElem? (i := 3) rfl))) (by decide) (backOf (W := 1) (rm1 l Z a0 hw [] (q1 ^^^ q2) (0 : Int64) h0 n0 Z0) hZ (hw _ (List.mem_of_getElem? (i := 3) rfl)) (hw _ (List.mem_of_getElem? (i := 2) rfl)) (by decide) (by decide)) (g := (mkF m 53 #[.val (.long q1), .second, .val (.long q2), .second, .val (.long q3), .second, .val (.int (f1 q1 q2)), .val (.int j45_l7), .val (.int j45_s0), .unset, .unset] [(.long (0 : Int64)), (.long (q1 ^^^ q2)), (.int (f1 q1 q2))])) rfl (by rw [hml]; rfl) (argsL := [(.long (q1 ^^^ q2)), (.long (0 : Int64))]) (rest := [(.int (f1 q1 q2))]) (lenOf pd0_0 rfl) rfl (by show 2 * 0 + _ ≤ _; exact Nat.le_of_eq rfl) (hb hby at_53) (fun _ _ => ⟨rfl, eT, (by decide : 0 + 0 ≤ _), (by decide : 0 + 0 ≤ _)⟩)
    dsimp only [Pt.U, Pt.locs, Pt.cells, Pt.slots] at X7 l7 y7 z7 st7 hQ7
    subst l7 y7 z7
    obtain ⟨rfl, Nq7, e7⟩ := hQ7
    have N7 := Fr.app N Nq7
    refine OGo.st (fun t k => st7 t k) ?_
    show OGo p e below _ (T7.setTop (mkF m 56 #[.val (.long q1), .second, .val (.long q2), .second, .val (.long q3), .second, .val (.int (f1 q1 q2)), .val (.int j45_l7), .val (.int j45_s0), .unset, .unset] [(.int (f1 (q1 ^^^ q2) (0 : Int64))), (.int (f1 q1 q2))]))
    by_cases hc56_8 : (f1 q1 q2) = (f1 (q1 ^^^ q2) (0 : Int64))
    · refine OGo.eqvI (show (g0_56_6 q1 q2 q3 j45_l7 j45_s0) = (g0_j64 q1 q2 q3 j45_l7 j45_s0 (1 : Int32)) from if_pos hc56_8) ?_
      refine OGo.st (fun t k => XS.icmpNo X7.here hx rfl (hb hby at_56) rfl (teq hc56_8).2 k) ?_
      show OGo p e below _ (T7.setTop (mkF m 59 #[.val (.long q1), .second, .val (.long q2), .second, .val (.long q3), .second, .val (.int (f1 q1 q2)), .val (.int j45_l7), .val (.int j45_s0), .unset, .unset] []))
      refine OGo.st (fun t k => XS.iconst X7.here hx rfl (hb hby at_59) k) ?_
      show OGo p e below _ (T7.setTop (mkF m 60 #[.val (.long q1), .second, .val (.long q2), .second, .val (.long q3), .second, .val (.int (f1 q1 q2)), .val (.int j45_l7), .val (.int j45_s0), .unset, .unset] [(.int (1 : Int32))]))
      refine OGo.st (fun t k => XS.goto X7.here hx rfl (pc0 := 60) (pc' := 64) rfl (hb hby at_60) (by decide) (by decide) k) ?_
      show OGo p e below _ (T7.setTop (mkF m 64 #[.val (.long q1), .second, .val (.long q2), .second, .val (.long q3), .second, .val (.int (f1 q1 q2)), .val (.int j45_l7), .val (.int j45_s0), .unset, .unset] [(.int (1 : Int32))]))
      exact J64 T7 _ X7 e7 N7 j45_l7 j45_s0 (1 : Int32)
    · refine OGo.eqvI (show (g0_56_6 q1 q2 q3 j45_l7 j45_s0) = (g0_j64 q1 q2 q3 j45_l7 j45_s0 (0 : Int32)) from if_neg hc56_8) ?_
      refine OGo.st (fun t k => XS.icmpYes X7.here hx rfl (pc0 := 56) (pc' := 63) rfl (hb hby at_56) rfl (feq hc56_8).2 (by decide) (by decide) k) ?_
      show OGo p e below _ (T7.setTop (mkF m 63 #[.val (.long q1), .second, .val (.long q2), .second, .val (.long q3), .second, .val (.int (f1 q1 q2)), .val (.int j45_l7), .val (.int j45_s0), .unset, .unset] []))
      refine OGo.st (fun t k => XS.iconst X7.here hx rfl (hb hby at_63) k) ?_
      show OGo p e below _ (T7.setTop (mkF m 64 #[.val (.long q1), .second, .val (.long q2), .second, .val (.long q3), .second, .val (.int (f1 q1 q2)), .val (.int j45_l7), .val (.int j45_s0), .unset, .unset] [(.int (0 : Int32))]))
      exact J64 T7 _ X7 e7 N7 j45_l7 j45_s0 (0 : Int32)
  have J22 : ∀ (T : State) (locs : List Loc) (X : Stand p l e room_1 s m #[(.long q1), (.long q2), (.long q3)] below meth c T locs 0 0) (eT : T.heap = h0) (N : Fr n0 locs) (j22_s0 : Int32), OGo p e below (Out s room_1.cells room_1.slots (PI n0 h0 (g0_j22 q1 q2 q3 j22_s0))) (T.setTop (mkF m 22 #[.val (.long q1), .second, .val (.long q2), .second, .val (.long q3), .second, .val (.int (f1 q1 q2)), .unset, .unset, .unset, .unset] [(.int j22_s0)])) := by
    intro T locs X eT N j22_s0
    show OGo p e below (Out s room_1.cells room_1.slots (PI n0 h0 (g0_37_7 q1 q2 q3 j22_s0))) (T.setTop (mkF m 22 #[.val (.long q1), .second, .val (.long q2), .second, .val (.long q3), .second, .val (.int (f1 q1 q2)), .unset, .unset, .unset, .unset] [(.int j22_s0)]))
    refine OGo.st (fun t k => XS.istore X.here hx rfl (hb hby at_22) rfl (l' := #[.val (.long q1), .second, .val (.long q2), .second, .val (.long q3), .second, .val (.int (f1 q1 q2)), .val (.int j22_s0), .unset, .unset, .unset]) rfl k) ?_
    show OGo p e below _ (T.setTop (mkF m 24 #[.val (.long q1), .second, .val (.long q2), .second, .val (.long q3), .second, .val (.int (f1 q1 q2)), .val (.int j22_s0), .unset, .unset, .unset] []))
    refine OGo.st (fun t k => XS.iload X.here hx rfl (hb hby at_24) rfl k) ?_
    show OGo p e below _ (T.setTop (mkF m 26 #[.val (.long q1), .second, .val (.long q2), .second, .val (.long q3), .second, .val (.int (f1 q1 q2)), .val (.int j22_s0), .unset, .unset, .unset] [(.int (f1 q1 q2))]))
    refine OGo.st (fun t k => XS.lloadN X.here hx rfl (hb hby at_26) rfl k) ?_
    show OGo p e below _ (T.setTop (mkF m 27 #[.val (.long q1), .second, .val (.long q2), .second, .val (.long q3), .second, .val (.int (f1 q1 q2)), .val (.int j22_s0), .unset, .unset, .unset] [(.long q1), (.int (f1 q1 q2))]))
    refine OGo.st (fun t k => XS.lload X.here hx rfl (hb hby at_27) rfl k) ?_
    show OGo p e below _ (T.setTop (mkF m 29 #[.val (.long q1), .second, .val (.long q2), .second, .val (.long q3), .second, .val (.int (f1 q1 q2)), .val (.int j22_s0), .unset, .unset, .unset] [(.long q3), (.long q1), (.int (f1 q1 q2))]))
    refine OGo.st (fun t k => XS.lxor X.here hx rfl (hb hby at_29) rfl k) ?_
    show OGo p e below _ (T.setTop (mkF m 30 #[.val (.long q1), .second, .val (.long q2), .second, .val (.long q3), .second, .val (.int (f1 q1 q2)), .val (.int j22_s0), .unset, .unset, .unset] [(.long (q1 ^^^ q3)), (.int (f1 q1 q2))]))
    refine OGo.st (fun t k => XS.lloadN X.here hx rfl (hb hby at_30) rfl k) ?_
    show OGo p e below _ (T.setTop (mkF m 31 #[.val (.long q1), .second, .val (.long q2), .second, .val (.long q3), .second, .val (.int (f1 q1 q2)), .val (.int j22_s0), .unset, .unset, .unset] [(.long q2), (.long (q1 ^^^ q3)), (.int (f1 q1 q2))]))
    refine OGo.st (fun t k => XS.lload X.here hx rfl (hb hby at_31) rfl k) ?_
    show OGo p e below _ (T.setTop (mkF m 33 #[.val (.long q1), .second, .val (.long q2), .second, .val (.long q3), .second, .val (.int (f1 q1 q2)), .val (.int j22_s0), .unset, .unset, .unset] [(.long q3), (.long q2), (.long (q1 ^^^ q3)), (.int (f1 q1 q2))]))
    refine OGo.st (fun t k => XS.lxor X.here hx rfl (hb hby at_33) rfl k) ?_
    show OGo p e below _ (T.setTop (mkF m 34 #[.val (.long q1), .second, .val (.long q2), .second, .val (.long q3), .second, .val (.int (f1 q1 q2)), .val (.int j22_s0), .unset, .unset, .unset] [(.long (q2 ^^^ q3)), (.long (q1 ^^^ q3)), (.int (f1 q1 q2))]))
    obtain ⟨_, _, ⟨T9, L9, k9, n9⟩, -, X9, ⟨Lc9, hQ9, l9, y9, z9⟩, st9⟩ := Jvm.LawKit.callS X hx (y := (⟨"com/example/lockstep/lockstep/check/KeyTable", "hash", "(JJ)I"⟩ : MethodName)) hown (mvT hZ (hw _ (List.mem_of_getElem? (i := 0) rfl))) (mvT hZ (hw _ (List.mem_of_getElem? (i := 1) rfl))) (mvT hZ (hw _ (List.mem_of_getElem? (i := 2) rfl))) (mvT hZ (hw _ (List.mem_of_getElem? (i := 3) rfl))) (by decide) (backOf (W := 1) (rm1 l Z a0 hw [] (q1 ^^^ q3) (q2 ^^^ q3) h0 n0 Z0) hZ (hw _ (List.mem_of_getElem? (i := 3) rfl)) (hw _ (List.mem_of_getElem? (i := 2) rfl)) (by decide) (by decide)) (g := (mkF m 34 #[.val (.long q1), .second, .val (.long q2), .second, .val (.long q3), .second, .val (.int (f1 q1 q2)), .val (.int j22_s0), .unset, .unset, .unset] [(.long (q2 ^^^ q3)), (.long (q1 ^^^ q3)), (.int (f1 q1 q2))])) rfl (by rw [hml]; rfl) (argsL := [(.long (q1 ^^^ q3)), (.long (q2 ^^^ q3))]) (rest := [(.int (f1 q1 q2))]) (lenOf pd0_0 rfl) rfl (by show 2 * 0 + _ ≤ _; exact Nat.le_of_eq rfl) (hb hby at_34) (fun _ _ => ⟨rfl, eT, (by decide : 0 + 0 ≤ _), (by decide : 0 + 0 ≤ _)⟩)
    dsimp only [Pt.U, Pt.locs, Pt.cells, Pt.slots] at X9 l9 y9 z9 st9 hQ9
    subst l9 y9 z9
    obtain ⟨rfl, Nq9, e9⟩ := hQ9
    have N9 := Fr.app N Nq9
    refine OGo.st (fun t k => st9 t k) ?_
    show OGo p e below _ (T9.setTop (mkF m 37 #[.val (.long q1), .second, .val (.long q2), .second, .val (.long q3), .second, .val (.int (f1 q1 q2)), .val (.int j22_s0), .unset, .unset, .unset] [(.int (f1 (q1 ^^^ q3) (q2 ^^^ q3))), (.int (f1 q1 q2))]))
    by_cases hc37_10 : (f1 q1 q2) = (f1 (q1 ^^^ q3) (q2 ^^^ q3))
    · refine OGo.eqvI (show (g0_37_7 q1 q2 q3 j22_s0) = (g0_j45 q1 q2 q3 j22_s0 (1 : Int32)) from if_pos hc37_10) ?_
      refine OGo.st (fun t k => XS.icmpNo X9.here hx rfl (hb hby at_37) rfl (teq hc37_10).2 k) ?_
      show OGo p e below _ (T9.setTop (mkF m 40 #[.val (.long q1), .second, .val (.long q2), .second, .val (.long q3), .second, .val (.int (f1 q1 q2)), .val (.int j22_s0), .unset, .unset, .unset] []))
      refine OGo.st (fun t k => XS.iconst X9.here hx rfl (hb hby at_40) k) ?_
      show OGo p e below _ (T9.setTop (mkF m 41 #[.val (.long q1), .second, .val (.long q2), .second, .val (.long q3), .second, .val (.int (f1 q1 q2)), .val (.int j22_s0), .unset, .unset, .unset] [(.int (1 : Int32))]))
      refine OGo.st (fun t k => XS.goto X9.here hx rfl (pc0 := 41) (pc' := 45) rfl (hb hby at_41) (by decide) (by decide) k) ?_
      show OGo p e below _ (T9.setTop (mkF m 45 #[.val (.long q1), .second, .val (.long q2), .second, .val (.long q3), .second, .val (.int (f1 q1 q2)), .val (.int j22_s0), .unset, .unset, .unset] [(.int (1 : Int32))]))
      exact J45 T9 _ X9 e9 N9 j22_s0 (1 : Int32)
    · refine OGo.eqvI (show (g0_37_7 q1 q2 q3 j22_s0) = (g0_j45 q1 q2 q3 j22_s0 (0 : Int32)) from if_neg hc37_10) ?_
      refine OGo.st (fun t k => XS.icmpYes X9.here hx rfl (pc0 := 37) (pc' := 44) rfl (hb hby at_37) rfl (feq hc37_10).2 (by decide) (by decide) k) ?_
      show OGo p e below _ (T9.setTop (mkF m 44 #[.val (.long q1), .second, .val (.long q2), .second, .val (.long q3), .second, .val (.int (f1 q1 q2)), .val (.int j22_s0), .unset, .unset, .unset] []))
      refine OGo.st (fun t k => XS.iconst X9.here hx rfl (hb hby at_44) k) ?_
      show OGo p e below _ (T9.setTop (mkF m 45 #[.val (.long q1), .second, .val (.long q2), .second, .val (.long q3), .second, .val (.int (f1 q1 q2)), .val (.int j22_s0), .unset, .unset, .unset] [(.int (0 : Int32))]))
      exact J45 T9 _ X9 e9 N9 j22_s0 (0 : Int32)
  refine OGo.st (fun t k => castTop (ef0 m q1 q2 q3) k) ?_
  show OGo p e below (Out s room_1.cells room_1.slots (PI n0 h0 (g0_14_8 q1 q2 q3))) (s₁.setTop (mkF m 0 #[.val (.long q1), .second, .val (.long q2), .second, .val (.long q3), .second, .unset, .unset, .unset, .unset, .unset] []))
  refine OGo.st (fun t k => XS.lloadN X0.here hx rfl (hb hby at_0) rfl k) ?_
  show OGo p e below _ (s₁.setTop (mkF m 1 #[.val (.long q1), .second, .val (.long q2), .second, .val (.long q3), .second, .unset, .unset, .unset, .unset, .unset] [(.long q1)]))
  refine OGo.st (fun t k => XS.lloadN X0.here hx rfl (hb hby at_1) rfl k) ?_
  show OGo p e below _ (s₁.setTop (mkF m 2 #[.val (.long q1), .second, .val (.long q2), .second, .val (.long q3), .second, .unset, .unset, .unset, .unset, .unset] [(.long q2), (.long q1)]))
  obtain ⟨_, _, ⟨T11, L11, k11, n11⟩, -, X11, ⟨Lc11, hQ11, l11, y11, z11⟩, st11⟩ := Jvm.LawKit.callS X0 hx (y := (⟨"com/example/lockstep/lockstep/check/KeyTable", "hash", "(JJ)I"⟩ : MethodName)) hown (mvT hZ (hw _ (List.mem_of_getElem? (i := 0) rfl))) (mvT hZ (hw _ (List.mem_of_getElem? (i := 1) rfl))) (mvT hZ (hw _ (List.mem_of_getElem? (i := 2) rfl))) (mvT hZ (hw _ (List.mem_of_getElem? (i := 3) rfl))) (by decide) (backOf (W := 0) (rm1 l Z a0 hw [] q1 q2 h0 n0 Z0) hZ (hw _ (List.mem_of_getElem? (i := 3) rfl)) (hw _ (List.mem_of_getElem? (i := 2) rfl)) (by decide) (by decide)) (g := (mkF m 2 #[.val (.long q1), .second, .val (.long q2), .second, .val (.long q3), .second, .unset, .unset, .unset, .unset, .unset] [(.long q2), (.long q1)])) rfl (by rw [hml]; rfl) (argsL := [(.long q1), (.long q2)]) (rest := []) (lenOf pd0_0 rfl) rfl (by show 2 * 0 + _ ≤ _; exact Nat.le_of_eq rfl) (hb hby at_2) (fun _ _ => ⟨rfl, e0, (by decide : 0 + 0 ≤ _), (by decide : 0 + 0 ≤ _)⟩)
  dsimp only [Pt.U, Pt.locs, Pt.cells, Pt.slots] at X11 l11 y11 z11 st11 hQ11
  subst l11 y11 z11
  obtain ⟨rfl, Nq11, e11⟩ := hQ11
  have N11 := Fr.app N0 Nq11
  refine OGo.st (fun t k => st11 t k) ?_
  show OGo p e below _ (T11.setTop (mkF m 5 #[.val (.long q1), .second, .val (.long q2), .second, .val (.long q3), .second, .unset, .unset, .unset, .unset, .unset] [(.int (f1 q1 q2))]))
  refine OGo.st (fun t k => XS.istore X11.here hx rfl (hb hby at_5) rfl (l' := #[.val (.long q1), .second, .val (.long q2), .second, .val (.long q3), .second, .val (.int (f1 q1 q2)), .unset, .unset, .unset, .unset]) rfl k) ?_
  show OGo p e below _ (T11.setTop (mkF m 7 #[.val (.long q1), .second, .val (.long q2), .second, .val (.long q3), .second, .val (.int (f1 q1 q2)), .unset, .unset, .unset, .unset] []))
  refine OGo.st (fun t k => XS.iload X11.here hx rfl (hb hby at_7) rfl k) ?_
  show OGo p e below _ (T11.setTop (mkF m 9 #[.val (.long q1), .second, .val (.long q2), .second, .val (.long q3), .second, .val (.int (f1 q1 q2)), .unset, .unset, .unset, .unset] [(.int (f1 q1 q2))]))
  refine OGo.st (fun t k => XS.lloadN X11.here hx rfl (hb hby at_9) rfl k) ?_
  show OGo p e below _ (T11.setTop (mkF m 10 #[.val (.long q1), .second, .val (.long q2), .second, .val (.long q3), .second, .val (.int (f1 q1 q2)), .unset, .unset, .unset, .unset] [(.long q2), (.int (f1 q1 q2))]))
  refine OGo.st (fun t k => XS.lloadN X11.here hx rfl (hb hby at_10) rfl k) ?_
  show OGo p e below _ (T11.setTop (mkF m 11 #[.val (.long q1), .second, .val (.long q2), .second, .val (.long q3), .second, .val (.int (f1 q1 q2)), .unset, .unset, .unset, .unset] [(.long q1), (.long q2), (.int (f1 q1 q2))]))
  obtain ⟨_, _, ⟨T12, L12, k12, n12⟩, -, X12, ⟨Lc12, hQ12, l12, y12, z12⟩, st12⟩ := Jvm.LawKit.callS X11 hx (y := (⟨"com/example/lockstep/lockstep/check/KeyTable", "hash", "(JJ)I"⟩ : MethodName)) hown (mvT hZ (hw _ (List.mem_of_getElem? (i := 0) rfl))) (mvT hZ (hw _ (List.mem_of_getElem? (i := 1) rfl))) (mvT hZ (hw _ (List.mem_of_getElem? (i := 2) rfl))) (mvT hZ (hw _ (List.mem_of_getElem? (i := 3) rfl))) (by decide) (backOf (W := 1) (rm1 l Z a0 hw [] q2 q1 h0 n0 Z0) hZ (hw _ (List.mem_of_getElem? (i := 3) rfl)) (hw _ (List.mem_of_getElem? (i := 2) rfl)) (by decide) (by decide)) (g := (mkF m 11 #[.val (.long q1), .second, .val (.long q2), .second, .val (.long q3), .second, .val (.int (f1 q1 q2)), .unset, .unset, .unset, .unset] [(.long q1), (.long q2), (.int (f1 q1 q2))])) rfl (by rw [hml]; rfl) (argsL := [(.long q2), (.long q1)]) (rest := [(.int (f1 q1 q2))]) (lenOf pd0_0 rfl) rfl (by show 2 * 0 + _ ≤ _; exact Nat.le_of_eq rfl) (hb hby at_11) (fun _ _ => ⟨rfl, e11, (by decide : 0 + 0 ≤ _), (by decide : 0 + 0 ≤ _)⟩)
  dsimp only [Pt.U, Pt.locs, Pt.cells, Pt.slots] at X12 l12 y12 z12 st12 hQ12
  subst l12 y12 z12
  obtain ⟨rfl, Nq12, e12⟩ := hQ12
  have N12 := Fr.app N11 Nq12
  refine OGo.st (fun t k => st12 t k) ?_
  show OGo p e below _ (T12.setTop (mkF m 14 #[.val (.long q1), .second, .val (.long q2), .second, .val (.long q3), .second, .val (.int (f1 q1 q2)), .unset, .unset, .unset, .unset] [(.int (f1 q2 q1)), (.int (f1 q1 q2))]))
  by_cases hc14_13 : (f1 q1 q2) = (f1 q2 q1)
  · refine OGo.eqvI (show (g0_14_8 q1 q2 q3) = (g0_j22 q1 q2 q3 (1 : Int32)) from if_pos hc14_13) ?_
    refine OGo.st (fun t k => XS.icmpNo X12.here hx rfl (hb hby at_14) rfl (teq hc14_13).2 k) ?_
    show OGo p e below _ (T12.setTop (mkF m 17 #[.val (.long q1), .second, .val (.long q2), .second, .val (.long q3), .second, .val (.int (f1 q1 q2)), .unset, .unset, .unset, .unset] []))
    refine OGo.st (fun t k => XS.iconst X12.here hx rfl (hb hby at_17) k) ?_
    show OGo p e below _ (T12.setTop (mkF m 18 #[.val (.long q1), .second, .val (.long q2), .second, .val (.long q3), .second, .val (.int (f1 q1 q2)), .unset, .unset, .unset, .unset] [(.int (1 : Int32))]))
    refine OGo.st (fun t k => XS.goto X12.here hx rfl (pc0 := 18) (pc' := 22) rfl (hb hby at_18) (by decide) (by decide) k) ?_
    show OGo p e below _ (T12.setTop (mkF m 22 #[.val (.long q1), .second, .val (.long q2), .second, .val (.long q3), .second, .val (.int (f1 q1 q2)), .unset, .unset, .unset, .unset] [(.int (1 : Int32))]))
    exact J22 T12 _ X12 e12 N12 (1 : Int32)
  · refine OGo.eqvI (show (g0_14_8 q1 q2 q3) = (g0_j22 q1 q2 q3 (0 : Int32)) from if_neg hc14_13) ?_
    refine OGo.st (fun t k => XS.icmpYes X12.here hx rfl (pc0 := 14) (pc' := 21) rfl (hb hby at_14) rfl (feq hc14_13).2 (by decide) (by decide) k) ?_
    show OGo p e below _ (T12.setTop (mkF m 21 #[.val (.long q1), .second, .val (.long q2), .second, .val (.long q3), .second, .val (.int (f1 q1 q2)), .unset, .unset, .unset, .unset] []))
    refine OGo.st (fun t k => XS.iconst X12.here hx rfl (hb hby at_21) k) ?_
    show OGo p e below _ (T12.setTop (mkF m 22 #[.val (.long q1), .second, .val (.long q2), .second, .val (.long q3), .second, .val (.int (f1 q1 q2)), .unset, .unset, .unset, .unset] [(.int (0 : Int32))]))
    exact J22 T12 _ X12 e12 N12 (0 : Int32)
def own_mix (x : Int64) : Int32 := f1 x 0
theorem own_x0 (x : Int64) : x ^^^ 0 = x := by simp
theorem own_f1 (a b : Int64) : f1 a b = own_mix (a ^^^ b) := by
  unfold own_mix f1
  rw [own_x0]
theorem own_c (a b : Int64) : f1 b a = f1 a b := by rw [own_f1, own_f1, Int64.xor_comm]
theorem own_m (a b m : Int64) : f1 (a ^^^ m) (b ^^^ m) = f1 a b := by
  rw [own_f1, own_f1]
  congr 1
  rw [Int64.xor_comm b m, Int64.xor_assoc, ← Int64.xor_assoc m m b]
  simp
theorem own_d (a b : Int64) : f1 (a ^^^ b) 0 = f1 a b := by rw [own_f1, own_f1, own_x0]
theorem own_z (a : Int64) : f1 a a = 0 := by
  rw [own_f1, Int64.xor_self]
  decide +kernel
theorem law_eq (q1 q2 q3 : Int64) : f0 q1 q2 q3 = 1 := by
  simp only [f0, g0_98_1, g0_93_2, g0_88_3, g0_83_4, g0_j79, g0_71_5, g0_j64, g0_56_6, g0_j45, g0_37_7, g0_j22, g0_14_8, own_c q1 q2, own_m, own_d, own_z, if_true, reduceIte]
  decide
set_option maxRecDepth 65536 in
set_option maxHeartbeats 40000000 in
theorem comes_1 {Post : Tables → Env → Array Value → State → Outcome → State → Prop} (hpost : ∀ tb e args s v u, (limb_1_1.after args s (.returned v) u = true ∧ limb_1_2.after args s (.returned v) u = true ∧ True) → FrameEnd s (.returned v) u (Jvm.fieldLocs frame_1_writes args s ++ Jvm.arrayLocs frame_1_arrays args s ++ Jvm.staticLocs frame_1_statics s) 0 0 → Post tb e args s (.returned v) u) :
    ArmFor flags0 classFile x code maxLocals ret World_1 tables_1 room_1 Calls_1 rest_1 Pre_1 Post := by
  intro l hfl _ _ p e ha hc hk s m args below hf hA hF happ hP
  obtain ⟨hcalls, hrest, hpre⟩ := hP
  obtain ⟨-, -, -, hnamed, -, -, -, hat⟩ := (Spec.applies_iff hf).mp happ
  obtain ⟨hg, hn⟩ := and_e (Cond.before_iff.mp (show (Jvm.Cond.and given_1 narrow_1).before args s = true from hpre))
  obtain ⟨gg1, gg2⟩ := and_e hg
  obtain ⟨gg3, gg4⟩ := and_e gg2
  obtain ⟨gg5, gg6⟩ := and_e gg4
  obtain ⟨w0, w1, w2, rfl⟩ : ∃ w0 w1 w2 : Value, args = #[w0, w1, w2] := by
    have hs : args.size = 3 := by simpa [Cond.value, given_1] using gg1
    obtain ⟨L⟩ := args
    match L, hs with
    | [w0, w1, w2], _ => exact ⟨w0, w1, w2, rfl⟩
  have hw := fun d (hd : d ∈ tables_1) => atoms_spec (ws := Jvm.Cond.code x code maxLocals ret :: tables_1) hat d (List.mem_cons_of_mem _ hd)
  obtain ⟨i0, ei0⟩ := isL_v gg3
  obtain rfl : w0 = (.long i0) := Option.some.inj ei0
  obtain ⟨i1, ei1⟩ := isL_v gg5
  obtain rfl : w1 = (.long i1) := Option.some.inj ei1
  obtain ⟨i2, ei2⟩ := isL_v gg6
  obtain rfl : w2 = (.long i2) := Option.some.inj ei2
  obtain ⟨n, o, h1, h2, h3, _, L, rfl, ⟨hv, N, -⟩, hq⟩ := rm0 l s _ hw tables_1 i0 i1 i2 s.heap s.heap.size (Nat.le_refl _) p e ha hc hk s m _ below hf ((Spec.applies_iff_loose hf).mp happ).1 ⟨rfl, State.Warmed39.refl s, rfl⟩ trivial
  rw [law_eq] at hv
  subst hv
  refine ⟨n, _, h1, h2, h3, hpost _ _ _ _ _ _ ⟨Cond.after_iff.mpr rfl, Cond.after_iff.mpr (eq_i res_at (Term.int_eval (1)) rfl), trivial⟩ ⟨hq.1, hq.2.1, (hq.2.2.sift fun y hy => Or.inr (N y hy)).mono (by decide) (by decide)⟩⟩
theorem main_1_1 : Claimed_1_1 := comes_1 fun _ _ _ _ _ _ h hF => ⟨h.1, hF⟩
theorem main_1_2 : Claimed_1_2 := comes_1 fun _ _ _ _ _ _ h hF => ⟨h.2.1, hF⟩
end Jvm.Pilot.@@N@@
namespace Jvm.Pilot.@@N@@
open Jvm Jvm.ClassFile Sem Op Lib Jvm.Free Jvm.Stand Jvm.Pilot.@@N@@.Jvm.D
/-! MADE BY PROGRAM (witnessworld.py) out of the Statement's table words and the real class files: 9 classes; the members and pool entries that the words name. The judged class is class 1, her method 1. -/
namespace start1
open Jvm.ClassFile
def u (s : String) : CpInfo := .utf8 (stringToUtf16 s)
/-- a pool by its gaps: so many unusable entries, then the entry; so many at the end -/
def gap : Nat → List CpInfo → List CpInfo
  | 0, r => r
  | n + 1, r => .unusable :: gap n r
def poolList (es : List (Nat × CpInfo)) (last : Nat) : List CpInfo := es.foldr (fun e r => gap e.1 (e.2 :: r)) (gap last [])
def pool (es : List (Nat × CpInfo)) (last : Nat) : Array CpInfo := ⟨poolList es last⟩
def fileOf (pool : Array CpInfo) (this : Nat) (attrs : Array Attribute := #[]) (ms : Array MethodInfo := #[]) (fl : Nat := 33) (sup : Nat := 0) (ifs : Array Nat := #[]) (fds : Array FieldInfo := #[]) : ClassFile where
  minorVersion := 0
  majorVersion := 65
  constantPool := pool
  accessFlags := fl
  thisClass := this
  superClass := sup
  interfaces := ifs
  fields := fds
  methods := ms
  attributes := attrs
def plain (name : String) (sup : Option ClassId) : Class where
  name := name
  kind := .ordinary
  loader := none
  accessFlags := 33
  super := sup
  interfaces := #[]
  cf := none
  fields := #[]
  methods := #[]
  instanceTypes := #[]
  staticTypes := #[]
  resolved := #[]
  callSites := []
  init := .initialized
  statics := none
  mirror := none

def pool0 : Array CpInfo := pool [(5, u "<init>"), (0, u "()V"), (1, .class_ 10), (1, u "java/lang/Object")] 113

def k0m0 : Method := { name := "<init>", desc := "()V", sig := { parameters := [], returnType := none }, accessFlags := 1, code := none }
/-- java/lang/Object -/
def k0 : Class := { plain "java/lang/Object" none with
  accessFlags := 33
  interfaces := #[]
  cf := some (fileOf pool0 8 #[] #[{ accessFlags := 1, nameIndex := 5, descriptorIndex := 6, attributes := #[] }] 33 0 #[] #[])
  fields := #[]
  methods := #[k0m0]
  instanceTypes := #[]
  staticTypes := #[]
  resolved := Array.replicate 124 none
  statics := none }

def pool1 : Array CpInfo := pool [(2, .class_ 4), (1, u "java/lang/Object"), (0, u "<init>"), (0, u "()V"), (0, .methodref 8 9), (0, .class_ 10), (0, .nameAndType 11 12), (0, u "com/example/lockstep/lockstep/check/KeyTable"), (0, u "hash"), (0, u "(JJ)I"), (0, .class_ 14), (0, u "com/example/lockstep/lockstep/check/KeyTableHashPinLaw"), (2, u "law"), (0, u "(JJJ)Z")] 3

def k1m0 : Method := { name := "<init>", desc := "()V", sig := { parameters := [], returnType := none }, accessFlags := 2, code := none }
def k1c1 : Code := { maxStack := 7, maxLocals := 11, code := code, exceptionTable := #[], attributes := #[] }
def k1m1 : Method := { name := "law", desc := "(JJJ)Z", sig := { parameters := [.long, .long, .long], returnType := some .boolean }, accessFlags := 9, code := some k1c1 }
/-- com/example/lockstep/lockstep/check/KeyTableHashPinLaw -/
def k1 : Class := { plain "com/example/lockstep/lockstep/check/KeyTableHashPinLaw" (some 0) with
  accessFlags := 49
  interfaces := #[]
  cf := some (fileOf pool1 13 #[] #[{ accessFlags := 2, nameIndex := 5, descriptorIndex := 6, attributes := #[] }, { accessFlags := 9, nameIndex := 17, descriptorIndex := 18, attributes := #[] }] 49 2 #[] #[])
  fields := #[]
  methods := #[k1m0, k1m1]
  instanceTypes := #[]
  staticTypes := #[]
  resolved := Array.replicate 22 none
  statics := none }

def pool2 : Array CpInfo := pool [(2, .class_ 4), (1, u "java/lang/Object"), (0, u "<init>"), (0, u "()V"), (1, .class_ 10), (1, u "com/example/lockstep/lockstep/check/KeyTable"), (0, u "keys"), (0, u "[J"), (2, u "slots"), (0, u "[I"), (12, u "seed"), (0, u "J"), (10, u "size"), (0, u "I"), (20, u "hash"), (2, u "(JJ)I"), (0, .long 18397679294719823053), (1, .long 14181476777654086739), (1, u "MAX_SLOTS")] 15

def k2m0 : Method := { name := "<init>", desc := "()V", sig := { parameters := [], returnType := none }, accessFlags := 0, code := none }
def k2c1 : Code := { maxStack := 5, maxLocals := 6, code := prog_27_method_12_code, exceptionTable := #[], attributes := #[] }
def k2m1 : Method := { name := "hash", desc := "(JJ)I", sig := { parameters := [.long, .long], returnType := some .int }, accessFlags := 8, code := some k2c1 }
/-- com/example/lockstep/lockstep/check/KeyTable -/
def k2 : Class := { plain "com/example/lockstep/lockstep/check/KeyTable" (some 0) with
  accessFlags := 48
  interfaces := #[]
  cf := some (fileOf pool2 8 #[] #[{ accessFlags := 0, nameIndex := 5, descriptorIndex := 6, attributes := #[] }, { accessFlags := 8, nameIndex := 63, descriptorIndex := 66, attributes := #[] }] 48 2 #[] #[{ accessFlags := 26, nameIndex := 71, descriptorIndex := 42, attributes := #[] }, { accessFlags := 2, nameIndex := 11, descriptorIndex := 12, attributes := #[] }, { accessFlags := 2, nameIndex := 41, descriptorIndex := 42, attributes := #[] }, { accessFlags := 2, nameIndex := 15, descriptorIndex := 16, attributes := #[] }, { accessFlags := 18, nameIndex := 29, descriptorIndex := 30, attributes := #[] }])
  fields := #[{ name := "MAX_SLOTS", type := .int, accessFlags := 26, slot := 0, constantValue := 0 }, { name := "keys", type := (.array .long), accessFlags := 2, slot := 0, constantValue := 0 }, { name := "size", type := .int, accessFlags := 2, slot := 1, constantValue := 0 }, { name := "slots", type := (.array .int), accessFlags := 2, slot := 2, constantValue := 0 }, { name := "seed", type := .long, accessFlags := 18, slot := 3, constantValue := 0 }]
  methods := #[k2m0, k2m1]
  instanceTypes := #[(.array .long), .int, (.array .int), .long]
  staticTypes := #[.int]
  resolved := Array.replicate 87 none
  statics := none }

def pool3 : Array CpInfo := pool [(1, u "java/lang/Cloneable"), (0, .class_ 1), (0, u "java/lang/Object"), (0, .class_ 3)] 3

/-- java/lang/Cloneable -/
def k3 : Class := { plain "java/lang/Cloneable" (some 0) with
  accessFlags := 1537
  interfaces := #[]
  cf := some (fileOf pool3 2 #[] #[] 1537 4 #[] #[])
  fields := #[]
  methods := #[]
  instanceTypes := #[]
  staticTypes := #[]
  resolved := Array.replicate 8 none
  statics := none }

def pool4 : Array CpInfo := pool [(1, u "java/io/Serializable"), (0, .class_ 1), (0, u "java/lang/Object"), (0, .class_ 3)] 3

/-- java/io/Serializable -/
def k4 : Class := { plain "java/io/Serializable" (some 0) with
  accessFlags := 1537
  interfaces := #[]
  cf := some (fileOf pool4 2 #[] #[] 1537 4 #[] #[])
  fields := #[]
  methods := #[]
  instanceTypes := #[]
  staticTypes := #[]
  resolved := Array.replicate 8 none
  statics := none }

/-- the primitive byte -/
def k5 : Class := { plain "byte" none with kind := .primitive 'B', accessFlags := 0x411 }
/-- [B -/
def k6 : Class := { plain "[B" (some 0) with kind := .array 5 .byte, interfaces := #[3, 4], accessFlags := 1041 }

/-- the primitive int -/
def k7 : Class := { plain "int" none with kind := .primitive 'I', accessFlags := 0x411 }
/-- [I -/
def k8 : Class := { plain "[I" (some 0) with kind := .array 7 .int, interfaces := #[3, 4], accessFlags := 1041 }

def heap : Heap := #[]
def classes : Array Class := #[k0, k1, k2, k3, k4, k5, k6, k7, k8]
def interned : List (Array UInt16 × Addr) := []
def slotsUsed : Nat := 0
def theMethod : MethodId := ⟨1, 1⟩
def args0 : Array Value := #[.long 5, .long 300, .long 7]
def aboutOver (below : List Frame) : State where
  vm := { classes := classes, interned := interned.toArray }
  heap := heap
  slotsUsed := slotsUsed
  threads := #[{ frames := .invoking theMethod args0 :: below }]
def below0 : List Frame := [.native { method := ⟨0, 0⟩, args := #[] }]
def about1 : State := aboutOver below0
def p0 : Program := .bare "" "" ""
def e0 : Env := launch0.env 0 0 0
theorem w_frames : about1.frames = Frame.invoking theMethod args0 :: below0 := rfl
set_option maxRecDepth 65536 in
theorem w_args : argsFit about1.vm theMethod args0 = true := by decide +kernel
set_option maxRecDepth 65536 in
theorem w_heap : heapFits about1 = true := by decide +kernel
set_option maxRecDepth 65536 in
theorem w_runnable : about1.curStatus? = some .runnable := by decide +kernel
set_option maxRecDepth 65536 in
theorem w_alone : about1.alone = true := by decide +kernel
set_option maxRecDepth 65536 in
theorem w_named : about1.methodNamed? x = some theMethod := by decide +kernel
set_option maxRecDepth 65536 in
theorem w_hears : about1.hears theMethod below0 = true := by decide +kernel
set_option maxRecDepth 65536 in
theorem w_ripe : about1.ripe theMethod args0 below0 = true := by decide +kernel
theorem w_running : about1.status = .running := rfl
set_option maxRecDepth 65536 in
theorem w_room : about1.hasRoom e0.platform room_1 = true :=
  launch0.hasRoom_least _ room_1 (by decide +kernel) (by decide +kernel) (by decide +kernel) (by decide +kernel) (by decide +kernel) (by decide +kernel)
theorem allAtoms_all (ts : List Jvm.Cond) (a : Array Jvm.Value) (st : Jvm.State) : (allAtoms ts).before a st = ts.all (fun c => c.before a st) := by
  induction ts with
  | nil => rfl
  | cons c t ih =>
    show (Jvm.Cond.and c (allAtoms t)).before a st = _
    rw [Jvm.Cond.before_and, ih, List.all_cons]
def words1 : List Jvm.Cond := Jvm.Cond.code x code maxLocals ret :: tables_1
/-- a 'code' word, met by the world's own term for the bytes: nothing is compared byte by byte -/
theorem code_word {y : MethodName} {bytes : ByteArray} {mx : Nat} {rt : Option FieldType} {a : Array Value} {s : State} {m : MethodId} {meth : Method} {c : Code} (h1 : s.methodNamed? y = some m) (h2 : s.vm.method? m = some meth) (h3 : meth.code = some c) (h4 : c.code = bytes)
    (h5 : (c.maxLocals == mx && c.exceptionTable.isEmpty && decide (c.maxStack ≤ mostOperands) && decide (meth.sig.returnType = rt) && !meth.locks && decide (parseMethodDescriptor y.desc = some meth.sig)) = true) : (Jvm.Cond.code y bytes mx rt).before a s = true := by
  simp only [Bool.and_eq_true, beq_iff_eq, Bool.not_eq_true', decide_eq_true_eq] at h5
  obtain ⟨⟨⟨⟨⟨g1, g2⟩, g3⟩, g4⟩, g5⟩, g6⟩ := h5
  simp [Cond.before, Cond.holds, Cond.value, h1, h2, h3, h4, g1, g2, g3, g4, g5, g6]
def isCode : Jvm.Cond → Bool
  | .code _ _ _ _ => true
  | _ => false
theorem all_split {L : List Jvm.Cond} {P : Jvm.Cond → Bool} (h1 : L.all (fun c => isCode c || P c) = true) (h2 : ∀ c ∈ L.filter isCode, P c = true) : L.all P = true := by
  refine List.all_eq_true.mpr fun c hc => ?_
  have h := List.all_eq_true.mp h1 c hc
  rcases Bool.eq_false_or_eq_true (isCode c) with hi | hi
  · exact h2 c (List.mem_filter.mpr ⟨hc, hi⟩)
  · simpa [hi] using h
set_option maxRecDepth 65536 in
theorem w_c0 : (Jvm.Cond.code x code maxLocals ret).before args0 about1 = true := code_word (m := ⟨1, 1⟩) (meth := k1m1) (c := k1c1) (by decide +kernel) rfl rfl rfl (by decide +kernel)
set_option maxRecDepth 65536 in
theorem w_c1 : (Jvm.Cond.code ({ cls := "com/example/lockstep/lockstep/check/KeyTable", name := "hash", desc := "(JJ)I" } : Jvm.MethodName) prog_27_method_12_code (6 : Nat) (Option.some Jvm.ClassFile.FieldType.int)).before args0 about1 = true := code_word (m := ⟨2, 1⟩) (meth := k2m1) (c := k2c1) (by decide +kernel) rfl rfl rfl (by decide +kernel)
def codes1 : List Jvm.Cond := [Jvm.Cond.code x code maxLocals ret, Jvm.Cond.code ({ cls := "com/example/lockstep/lockstep/check/KeyTable", name := "hash", desc := "(JJ)I" } : Jvm.MethodName) prog_27_method_12_code (6 : Nat) (Option.some Jvm.ClassFile.FieldType.int)]
set_option maxRecDepth 65536 in
theorem codes_eq : words1.filter isCode = codes1 := rfl
theorem w_codes : ∀ c ∈ words1.filter isCode, c.before args0 about1 = true := by
  rw [codes_eq]
  intro c hc
  simp only [codes1, List.mem_cons, List.not_mem_nil, or_false] at hc
  rcases hc with rfl | rfl
  · exact w_c0
  · exact w_c1
set_option maxRecDepth 65536 in
theorem w_t1 : words1.all (fun c => isCode c || c.before args0 about1) = true := by decide +kernel
theorem w_tables : (allAtoms (Jvm.Cond.code x code maxLocals ret :: tables_1)).before args0 about1 = true := by
  rw [allAtoms_all]
  show words1.all (fun c => c.before args0 about1) = true
  refine all_split ?_ w_codes
  rw [w_t1]
set_option maxRecDepth 65536 in
theorem w_case : (Jvm.Cond.and given_1 narrow_1).before args0 about1 = true := by decide +kernel
theorem w_applies : (headSpec (Jvm.Cond.code x code maxLocals ret :: tables_1) room_1).applies x e0.platform about1 = true :=
  (Spec.applies_iff w_frames).mpr ⟨w_running, w_runnable, w_alone, w_named, w_hears, w_ripe, w_room, w_tables⟩
theorem atStart : AtStart classFile x code maxLocals ret World_1 tables_1 room_1 Calls_1 rest_1 Pre_1 launch0 p0 e0 about1 theMethod args0 below0 :=
  ⟨lists_1, trivial, launch0.admits_env _ _ _, launch0.least_env, fairChoices_fair.cas, fairChoices_fair.clock, w_frames, w_args, w_heap, w_applies, trivial, trivial, w_case⟩
end start1
theorem witness_1 : WitnessClaimed_1 := ⟨start1.p0, start1.e0, start1.about1, start1.theMethod, start1.args0, start1.below0, start1.atStart⟩
end Jvm.Pilot.@@N@@
