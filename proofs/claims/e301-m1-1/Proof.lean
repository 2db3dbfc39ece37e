import JvmDerived
import JvmDerived.Pilot.@@N@@Statement
import JvmDerived.Pilot.@@N@@Code
set_option linter.unusedVariables false
set_option linter.unusedSimpArgs false
namespace Jvm.RoadKit
open Sem ClassFile Op Lib Jvm.Stand Jvm.Free Jvm.LawKit
section New
variable {p : Program} {l : Launch} {e : Env} {R : Room} {s : State} {m : MethodId} {args : Array Value} {below : List Frame} {meth : Method} {c : Code} {T : State} {locs : List Loc} {cells slots : Nat}
theorem retI (X : Stand p l e R s m args below meth c T locs cells slots) (hx : p.tables.exec = Jvm.exec) {pc : Nat} {Ls : Array Slot} {z : Int32} {rest : List Value} (hret : meth.sig.returnType = some .int) (hd : decode c.code pc = .ok (.ireturn, 1)) {fs : List Frame}
    (hl : ∀ (f : JFrame) (acts : List Action), f.method = m → f.locked = none → f.entered = [] → (doReturn e (T.setTop f) acts (some (.int z))).1 = T.setFrames fs) : Steps p.tables e below (T.setTop (mkF m pc Ls (.int z :: rest))) (T.setFrames fs) := by
  have hm' : T.vm.method? m = some meth := X.method'
  have hn : narrow .int (.int z) = .int z := rfl
  show Steps p.tables e below (T.setTop { method := m, pc := pc, locals := Ls, stack := _ :: rest, locked := none }) _
  jvm_step X.here [X.here.top, hx, hd, hm', hret, hn]
  first | (intro acts; rw [hl _ acts rfl rfl rfl]) | rw [hl _ _ rfl rfl rfl]
  exact Steps.refl _
end New
end Jvm.RoadKit
namespace Jvm.Pilot.@@N@@
open Jvm Jvm.ClassFile Sem Op Lib Jvm.Free Jvm.Stand Jvm.LawKit Jvm.RoadKit Bundle Jvm.Pilot.@@N@@.Jvm.D
section Own
variable {p : Program} {l : Launch} {e : Env} {R : Room} {s : State} {m : MethodId} {args : Array Value} {below : List Frame} {meth : Method} {c : Code} {T : State} {locs : List Loc} {cells slots : Nat}
/-- from the state A the run comes to an end of the invocation of which Q holds -/
def OGo (p : Program) (e : Env) (below : List Frame) (Q : Outcome → State → Prop) (A : State) : Prop :=
  ∃ s₂ o, Steps p.tables e below A s₂ ∧ s₂.status = .running ∧ Ended s₂ below o ∧ Q o s₂
theorem OGo.st {Q : Outcome → State → Prop} {A B : State} (h : ∀ t, Steps p.tables e below B t → Steps p.tables e below A t) (g : OGo p e below Q B) : OGo p e below Q A := by
  obtain ⟨s₂, o, k, r⟩ := g
  exact ⟨s₂, o, h _ k, r⟩
/-- what a contract says of the end -/
def Out (s : State) (cells slots : Nat) (Q : Option Value → Heap → List Loc → Prop) (o : Outcome) (U : State) : Prop :=
  ∃ v L, o = .returned v ∧ Q v U.heap L ∧ FrameEnd s o U L cells slots
/-- it returns the int z (the long z), and the heap is as it was -/
def PI (n0 : Nat) (h0 : Heap) (z : Int32) (v : Option Value) (h : Heap) (L : List Loc) : Prop := v = some (.int z) ∧ Fr n0 L ∧ h = h0
def PJ (n0 : Nat) (h0 : Heap) (z : Int64) (v : Option Value) (h : Heap) (L : List Loc) : Prop := v = some (.long z) ∧ Fr n0 L ∧ h = h0
def PF (n0 : Nat) (z : Int32) (v : Option Value) (h : Heap) (L : List Loc) : Prop := v = some (.int z) ∧ Fr n0 L
theorem OGo.eqvF {C S n0 : Nat} {z z' : Int32} {A : State} (q : z = z') (g : OGo p e below (Out s C S (PF n0 z')) A) : OGo p e below (Out s C S (PF n0 z)) A := q ▸ g
theorem OGo.eqvI {C S n0 : Nat} {h0 : Heap} {z z' : Int32} {A : State} (q : z = z') (g : OGo p e below (Out s C S (PI n0 h0 z')) A) : OGo p e below (Out s C S (PI n0 h0 z)) A := q ▸ g
theorem OGo.eqvJ {C S n0 : Nat} {h0 : Heap} {z z' : Int64} {A : State} (q : z = z') (g : OGo p e below (Out s C S (PJ n0 h0 z')) A) : OGo p e below (Out s C S (PJ n0 h0 z)) A := q ▸ g
theorem OGo.outI (X : Stand p l e R s m args below meth c T locs cells slots) (hx : p.tables.exec = Jvm.exec) (hret : meth.sig.returnType = some .int) (hlk : meth.locks = false) {pc : Nat} {Ls : Array Slot} {z : Int32} {rest : List Value} (hd : decode c.code pc = .ok (.ireturn, 1))
    {Q : Option Value → Heap → List Loc → Prop} {C S : Nat} (hq : Q (some (.int z)) T.heap locs) (hC : cells ≤ C) (hS : slots ≤ S) : OGo p e below (Out s C S Q) (T.setTop (mkF m pc Ls (.int z :: rest))) := by
  obtain ⟨fs, hr, hrun, hended, hW, hsame⟩ := X.leave (v := some (.int z)) (fun h => by rw [hret] at h; cases h) hlk
  exact ⟨_, _, retI X hx hret hd hr, hrun, hended, _, _, rfl, hq, ⟨_, rfl⟩, hW, hsame.mono hC hS⟩
theorem OGo.outN (X : Stand p l e R s m args below meth c T locs cells slots) (hx : p.tables.exec = Jvm.exec) {t : FieldType} (hret : meth.sig.returnType = some t) (ht : t = .boolean ∨ t = .byte ∨ t = .char ∨ t = .short) (hlk : meth.locks = false) {pc : Nat} {Ls : Array Slot} {z : Int32} {rest : List Value} (hd : decode c.code pc = .ok (.ireturn, 1))
    {Q : Option Value → Heap → List Loc → Prop} {C S : Nat} (hq : Q (some (.int (nar t z))) T.heap locs) (hC : cells ≤ C) (hS : slots ≤ S) : OGo p e below (Out s C S Q) (T.setTop (mkF m pc Ls (.int z :: rest))) := by
  obtain ⟨fs, hr, hrun, hended, hW, hsame⟩ := X.leave (v := some (.int (nar t z))) (fun h => by rw [hret] at h; cases h) hlk
  exact ⟨_, _, retN X hx hret ht hd hr, hrun, hended, _, _, rfl, hq, ⟨_, rfl⟩, hW, hsame.mono hC hS⟩
theorem OGo.outJ (X : Stand p l e R s m args below meth c T locs cells slots) (hx : p.tables.exec = Jvm.exec) (hret : meth.sig.returnType = some .long) (hlk : meth.locks = false) {pc : Nat} {Ls : Array Slot} {z : Int64} (hd : decode c.code pc = .ok (.lreturn, 1))
    {Q : Option Value → Heap → List Loc → Prop} {C S : Nat} (hq : Q (some (.long z)) T.heap locs) (hC : cells ≤ C) (hS : slots ≤ S) : OGo p e below (Out s C S Q) (T.setTop (mkF m pc Ls [.long z])) := by
  obtain ⟨fs, hr, hrun, hended, hW, hsame⟩ := X.leave (v := some (.long z)) (fun h => by rw [hret] at h; cases h) hlk
  exact ⟨_, _, X.lreturnOut hx hret hd hr, hrun, hended, _, _, rfl, hq, ⟨_, rfl⟩, hW, hsame.mono hC hS⟩
theorem OGo.outV (X : Stand p l e R s m args below meth c T locs cells slots) (hx : p.tables.exec = Jvm.exec) (hret : meth.sig.returnType = none) (hlk : meth.locks = false) {pc : Nat} {Ls : Array Slot} (hd : decode c.code pc = .ok (.return_, 1))
    {Q : Option Value → Heap → List Loc → Prop} {C S : Nat} (hq : Q none T.heap locs) (hC : cells ≤ C) (hS : slots ≤ S) : OGo p e below (Out s C S Q) (T.setTop (mkF m pc Ls [])) := by
  obtain ⟨fs, hr, hrun, hended, hW, hsame⟩ := X.leave (v := none) (fun _ => rfl) hlk
  exact ⟨_, _, X.returnOut hx hret hd hr, hrun, hended, _, _, rfl, hq, ⟨_, rfl⟩, hW, hsame.mono hC hS⟩
end Own
section OwnH
variable {p : Program} {l : Launch} {e : Env} {R : Room} {s : State} {m : MethodId} {args : Array Value} {below : List Frame} {meth : Method} {c : Code} {T : State} {locs : List Loc} {cells slots : Nat} {Z : State} {a0 : Array Value} {h h' : Heap} {a b : Addr} {ty : FieldType} {n : Nat} {f : Nat → Int32}
def oset (f : Nat → Int32) (k : Nat) (x : Int32) : Nat → Int32 := fun j => if j = k then x else f j
/-- at a lies an array of kind ty, of n places, whose place i holds the int f i -/
def OA (Z : State) (h : Heap) (a : Addr) (ty : FieldType) (n : Nat) (f : Nat → Int32) : Prop := ∃ c : Cell, Arr Z h a c ty ∧ c.slots.size = n ∧ ∀ i, i < n → c.slots[i]? = some (.int (f i))
theorem OA.lt (A : OA Z h a ty n f) : a < h.size := by obtain ⟨c, A, -⟩ := A; exact A.lt
theorem OA.ext (A : OA Z h a ty n f) (E : Ext h h') : OA Z h' a ty n f := by obtain ⟨c, A, r⟩ := A; exact ⟨c, A.ext E, r⟩
theorem OA.other {sl : Nat} {v : Value} (A : OA Z h b ty n f) (W : Wr h h' a sl v) (q : b ≠ a) : OA Z h' b ty n f := by obtain ⟨c, A, r⟩ := A; exact ⟨c, A.other W q, r⟩
theorem OA.keep {ws : List Addr} (A : OA Z h a ty n f) (K : Keep h h' ws) (q : a ∉ ws) : OA Z h' a ty n f := by obtain ⟨c, A, r⟩ := A; exact ⟨c, ⟨K.2.1 a c A.1 q, A.2⟩, r⟩
theorem OA.new {k : ClassId} {z : Int32} (A : Arr Z h a (newA k ty z) ty) (hz : z.toNatClampNeg = n) (hd : defaultValue ty = .int 0) : OA Z h a ty n (fun _ => 0) :=
  ⟨_, A, (sz_new _ _ _).trans hz, fun i hi => by
    have e : (newA k ty z).slots = Array.replicate z.toNatClampNeg (defaultValue ty) := rfl
    rw [e, hz, hd, Array.getElem?_replicate, if_pos hi]⟩
theorem OA.set {k : Nat} {x : Int32} (A : OA Z h a ty n f) (W : Wr h h' a k (.int x)) : OA Z h' a ty n (oset f k x) := by
  obtain ⟨c, A, S, H⟩ := A
  have hs : (c.setSlot k (.int x)).slots = c.slots.setIfInBounds k (.int x) := rfl
  refine ⟨_, A.same W, ?_, fun i hi => ?_⟩
  · rw [hs, Array.size_setIfInBounds, S]
  · rw [hs]
    by_cases q : i = k
    · subst q
      rw [Array.getElem?_setIfInBounds_self_of_lt (by omega)]
      simp [oset]
    · rw [Array.getElem?_setIfInBounds_ne (Ne.symm q), H i hi]
      simp [oset, q]
theorem OA.eqf {g : Nat → Int32} (A : OA Z h a ty n f) (q : ∀ i, i < n → f i = g i) : OA Z h a ty n g := by
  obtain ⟨c, A, S, H⟩ := A
  exact ⟨c, A, S, fun i hi => by rw [H i hi, q i hi]⟩
theorem oin {cl : Cell} {j : Int32} {k : Nat} (S : cl.slots.size = n) (hj : ¬ j < 0) (hk : j.toNatClampNeg = k) (hkn : k < n) : ¬ (j < 0 ∨ cl.slots.size ≤ j.toNatClampNeg) := by
  rintro (q | q)
  · exact hj q
  · rw [S, hk] at q; omega
theorem OA.stI (X : Stand p l e R s m args below meth c T locs cells slots) (hx : p.tables.exec = Jvm.exec) (hZ : Z.Warmed39 s.vm) (eT : T.heap = h) (A : OA Z h a .int n f) {j x : Int32} {k : Nat} (hj : ¬ j < 0) (hk : j.toNatClampNeg = k) (hkn : k < n) {g : JFrame} (hg : g.method = m) {rest : List Value} (hs : g.stack = .int x :: .int j :: .ref a :: rest) (hd : decode c.code g.pc = .ok (.iastore, 1)) :
    ∃ T' h', Stand p l e R s m args below meth c T' (locs ++ [⟨a, k⟩]) cells slots ∧ T'.heap = h' ∧ Wr h h' a k (.int x) ∧ OA Z h' a .int n (oset f k x) ∧ ∀ target, Steps p.tables e below (T'.setTop { g with pc := g.pc + 1, stack := rest }) target → Steps p.tables e below (T.setTop g) target := by
  obtain ⟨cl, Ar, S, H⟩ := A
  obtain ⟨T', h', X', e', W, st⟩ := Jvm.RoadKit.stI X hx hZ eT Ar (j := j) (x := x) (oin S hj hk hkn) hg hs hd
  subst hk
  exact ⟨T', h', X', e', W, OA.set ⟨cl, Ar, S, H⟩ W, st⟩
theorem OA.stB (X : Stand p l e R s m args below meth c T locs cells slots) (hx : p.tables.exec = Jvm.exec) (hZ : Z.Warmed39 s.vm) (eT : T.heap = h) (A : OA Z h a .byte n f) {j x : Int32} {k : Nat} (hj : ¬ j < 0) (hk : j.toNatClampNeg = k) (hkn : k < n) {g : JFrame} (hg : g.method = m) {rest : List Value} (hs : g.stack = .int x :: .int j :: .ref a :: rest) (hd : decode c.code g.pc = .ok (.bastore, 1)) :
    ∃ T' h', Stand p l e R s m args below meth c T' (locs ++ [⟨a, k⟩]) cells slots ∧ T'.heap = h' ∧ Wr h h' a k (.int x.toInt8.toInt32) ∧ OA Z h' a .byte n (oset f k x.toInt8.toInt32) ∧ ∀ target, Steps p.tables e below (T'.setTop { g with pc := g.pc + 1, stack := rest }) target → Steps p.tables e below (T.setTop g) target := by
  obtain ⟨cl, Ar, S, H⟩ := A
  obtain ⟨T', h', X', e', W, st⟩ := Jvm.RoadKit.stB X hx hZ eT Ar (j := j) (x := x) (oin S hj hk hkn) hg hs hd
  subst hk
  exact ⟨T', h', X', e', W, OA.set ⟨cl, Ar, S, H⟩ W, st⟩
theorem OA.ldI (X : Stand p l e R s m args below meth c T locs cells slots) (hx : p.tables.exec = Jvm.exec) (hZ : Z.Warmed39 s.vm) (eT : T.heap = h) (A : OA Z h a .int n f) {j : Int32} {k : Nat} (hj : ¬ j < 0) (hk : j.toNatClampNeg = k) (hkn : k < n) {g : JFrame} (hg : g.method = m) {rest : List Value} (hs : g.stack = .int j :: .ref a :: rest) (hd : decode c.code g.pc = .ok (.iaload, 1)) (target : State)
    (kt : Steps p.tables e below (T.setTop { g with pc := g.pc + 1, stack := .int (f k) :: rest }) target) : Steps p.tables e below (T.setTop g) target := by
  obtain ⟨cl, Ar, S, H⟩ := A
  exact X.iaload hx (j := j) (v := .int (f k)) (by rw [eT]; exact Ar.1) (State.isArrayOf_alike hZ.alike Ar.2.1) Ar.2.2 (oin S hj hk hkn) (by rw [hk]; exact H k hkn) (g := g) hg hs hd target kt
theorem OA.ldB (X : Stand p l e R s m args below meth c T locs cells slots) (hx : p.tables.exec = Jvm.exec) (hZ : Z.Warmed39 s.vm) (eT : T.heap = h) (A : OA Z h a .byte n f) {j : Int32} {k : Nat} (hj : ¬ j < 0) (hk : j.toNatClampNeg = k) (hkn : k < n) {g : JFrame} (hg : g.method = m) {rest : List Value} (hs : g.stack = .int j :: .ref a :: rest) (hd : decode c.code g.pc = .ok (.baload, 1)) (target : State)
    (kt : Steps p.tables e below (T.setTop { g with pc := g.pc + 1, stack := .int (f k) :: rest }) target) : Steps p.tables e below (T.setTop g) target := by
  obtain ⟨cl, Ar, S, H⟩ := A
  exact X.baloadBytes hx (j := j) (v := .int (f k)) (by rw [eT]; exact Ar.1) (State.isArrayOf_alike hZ.alike Ar.2.1) Ar.2.2 (oin S hj hk hkn) (by rw [hk]; exact H k hkn) (g := g) hg hs hd target kt
theorem OA.len (X : Stand p l e R s m args below meth c T locs cells slots) (hx : p.tables.exec = Jvm.exec) (hZ : Z.Warmed39 s.vm) (eT : T.heap = h) (A : OA Z h a ty n f) {z : Int32} (hz : n.toInt32 = z) {g : JFrame} (hg : g.method = m) {rest : List Value} (hs : g.stack = .ref a :: rest) (hd : decode c.code g.pc = .ok (.arraylength, 1)) (target : State)
    (kt : Steps p.tables e below (T.setTop { g with pc := g.pc + 1, stack := .int z :: rest }) target) : Steps p.tables e below (T.setTop g) target := by
  obtain ⟨cl, Ar, S, H⟩ := A
  refine X.arraylength hx (by rw [eT]; exact Ar.1) (State.isArrayOf_alike hZ.alike Ar.2.1) (g := g) hg hs hd target ?_
  rw [S, hz]; exact kt
/-- a private method is the one that is chosen -/
theorem osel {y : MethodName} {k : Nat} (hZ : Z.Warmed39 s.vm) (wi : (Cond.instantiable y.cls k).before a0 Z = true) (wp : (Cond.privateMethod y).before a0 Z = true) (wm : (Cond.instanceMethod y).before a0 Z = true) (hy : y.cls ≠ "java/lang/invoke/MethodHandle" ∧ y.cls ≠ "java/lang/invoke/VarHandle") : (Cond.selects y.cls y y).before args s = true := by
  have w : (Cond.instantiable y.cls k).before args s = true := mv hZ wi
  obtain ⟨cc, kk, h1, h2, h3, h4, -⟩ := Cond.instantiable_spec w
  have h5 : kk.isInterface = false := by
    cases q : kk.isInterface
    · rfl
    · rw [q] at h4; simp at h4
  exact Jvm.Stand.selects_self_of_private h1 h2 h5 (Cond.privateMethod_at (mvP hZ wp (args := args))) (mv hZ wm) hy
end OwnH

theorem own_mask (x : Int32) : 0 ≤ (x &&& (2147483647 : Int32)).toInt := by
  have h : ∀ b : BitVec 32, 0 ≤ (b &&& 2147483647#32).toInt := fun b => by
    have k : (b &&& 2147483647#32).msb = false := by
      rw [BitVec.msb_and, show (2147483647#32).msb = false from by decide, Bool.and_false]
    rw [BitVec.toInt_eq_toNat_of_msb k]
    omega
  exact h x.toBitVec
theorem own_idx (x : Int32) : (¬ ((x &&& (2147483647 : Int32)) - ((x &&& (2147483647 : Int32)) / (28 : Int32)) * (28 : Int32)) < 0) ∧ ((x &&& (2147483647 : Int32)) - ((x &&& (2147483647 : Int32)) / (28 : Int32)) * (28 : Int32)).toNatClampNeg < 28 := by
  have h := own_mask x
  generalize x &&& (2147483647 : Int32) = y at h ⊢
  have hr := rem_toInt y 28
  have k : (28 : Int32).toInt = 28 := by decide
  rw [k, Int.tmod_eq_emod_of_nonneg h] at hr
  simp only [Int32.lt_iff_toInt_lt, Int32.toNatClampNeg, hr, Int32.reduceToInt]
  omega
theorem d1_0 : decode prog_157_method_3_code 0 = .ok (.iload_n 0, 1) := by decide +kernel
theorem d1_1 : decode prog_157_method_3_code 1 = .ok (.bipush 65, 2) := by decide +kernel
theorem d1_3 : decode prog_157_method_3_code 3 = .ok (.if_icmp .lt 9, 3) := by decide +kernel
theorem d1_6 : decode prog_157_method_3_code 6 = .ok (.iload_n 0, 1) := by decide +kernel
theorem d1_7 : decode prog_157_method_3_code 7 = .ok (.bipush 90, 2) := by decide +kernel
theorem d1_9 : decode prog_157_method_3_code 9 = .ok (.if_icmp .le 176, 3) := by decide +kernel
theorem d1_12 : decode prog_157_method_3_code 12 = .ok (.iload_n 0, 1) := by decide +kernel
theorem d1_13 : decode prog_157_method_3_code 13 = .ok (.bipush 97, 2) := by decide +kernel
theorem d1_15 : decode prog_157_method_3_code 15 = .ok (.if_icmp .lt 9, 3) := by decide +kernel
theorem d1_18 : decode prog_157_method_3_code 18 = .ok (.iload_n 0, 1) := by decide +kernel
theorem d1_19 : decode prog_157_method_3_code 19 = .ok (.bipush 122, 2) := by decide +kernel
theorem d1_21 : decode prog_157_method_3_code 21 = .ok (.if_icmp .le 164, 3) := by decide +kernel
theorem d1_24 : decode prog_157_method_3_code 24 = .ok (.iload_n 0, 1) := by decide +kernel
theorem d1_25 : decode prog_157_method_3_code 25 = .ok (.sipush 192, 3) := by decide +kernel
theorem d1_28 : decode prog_157_method_3_code 28 = .ok (.if_icmp .lt 10, 3) := by decide +kernel
theorem d1_31 : decode prog_157_method_3_code 31 = .ok (.iload_n 0, 1) := by decide +kernel
theorem d1_32 : decode prog_157_method_3_code 32 = .ok (.sipush 214, 3) := by decide +kernel
theorem d1_35 : decode prog_157_method_3_code 35 = .ok (.if_icmp .le 150, 3) := by decide +kernel
theorem d1_38 : decode prog_157_method_3_code 38 = .ok (.iload_n 0, 1) := by decide +kernel
theorem d1_39 : decode prog_157_method_3_code 39 = .ok (.sipush 216, 3) := by decide +kernel
theorem d1_42 : decode prog_157_method_3_code 42 = .ok (.if_icmp .lt 10, 3) := by decide +kernel
theorem d1_45 : decode prog_157_method_3_code 45 = .ok (.iload_n 0, 1) := by decide +kernel
theorem d1_46 : decode prog_157_method_3_code 46 = .ok (.sipush 246, 3) := by decide +kernel
theorem d1_49 : decode prog_157_method_3_code 49 = .ok (.if_icmp .le 136, 3) := by decide +kernel
theorem d1_52 : decode prog_157_method_3_code 52 = .ok (.iload_n 0, 1) := by decide +kernel
theorem d1_53 : decode prog_157_method_3_code 53 = .ok (.sipush 248, 3) := by decide +kernel
theorem d1_56 : decode prog_157_method_3_code 56 = .ok (.if_icmp .lt 10, 3) := by decide +kernel
theorem d1_59 : decode prog_157_method_3_code 59 = .ok (.iload_n 0, 1) := by decide +kernel
theorem d1_60 : decode prog_157_method_3_code 60 = .ok (.sipush 767, 3) := by decide +kernel
theorem d1_63 : decode prog_157_method_3_code 63 = .ok (.if_icmp .le 122, 3) := by decide +kernel
theorem d1_66 : decode prog_157_method_3_code 66 = .ok (.iload_n 0, 1) := by decide +kernel
theorem d1_67 : decode prog_157_method_3_code 67 = .ok (.sipush 880, 3) := by decide +kernel
theorem d1_70 : decode prog_157_method_3_code 70 = .ok (.if_icmp .lt 10, 3) := by decide +kernel
theorem d1_73 : decode prog_157_method_3_code 73 = .ok (.iload_n 0, 1) := by decide +kernel
theorem d1_74 : decode prog_157_method_3_code 74 = .ok (.sipush 893, 3) := by decide +kernel
theorem d1_77 : decode prog_157_method_3_code 77 = .ok (.if_icmp .le 108, 3) := by decide +kernel
theorem d1_80 : decode prog_157_method_3_code 80 = .ok (.iload_n 0, 1) := by decide +kernel
theorem d1_81 : decode prog_157_method_3_code 81 = .ok (.sipush 895, 3) := by decide +kernel
theorem d1_84 : decode prog_157_method_3_code 84 = .ok (.if_icmp .lt 10, 3) := by decide +kernel
theorem d1_87 : decode prog_157_method_3_code 87 = .ok (.iload_n 0, 1) := by decide +kernel
theorem d1_88 : decode prog_157_method_3_code 88 = .ok (.sipush 8191, 3) := by decide +kernel
theorem d1_91 : decode prog_157_method_3_code 91 = .ok (.if_icmp .le 94, 3) := by decide +kernel
theorem d1_94 : decode prog_157_method_3_code 94 = .ok (.iload_n 0, 1) := by decide +kernel
theorem d1_95 : decode prog_157_method_3_code 95 = .ok (.sipush 8204, 3) := by decide +kernel
theorem d1_98 : decode prog_157_method_3_code 98 = .ok (.if_icmp .lt 10, 3) := by decide +kernel
theorem d1_101 : decode prog_157_method_3_code 101 = .ok (.iload_n 0, 1) := by decide +kernel
theorem d1_102 : decode prog_157_method_3_code 102 = .ok (.sipush 8205, 3) := by decide +kernel
theorem d1_105 : decode prog_157_method_3_code 105 = .ok (.if_icmp .le 80, 3) := by decide +kernel
theorem d1_108 : decode prog_157_method_3_code 108 = .ok (.iload_n 0, 1) := by decide +kernel
theorem d1_109 : decode prog_157_method_3_code 109 = .ok (.sipush 8304, 3) := by decide +kernel
theorem d1_112 : decode prog_157_method_3_code 112 = .ok (.if_icmp .lt 10, 3) := by decide +kernel
theorem d1_115 : decode prog_157_method_3_code 115 = .ok (.iload_n 0, 1) := by decide +kernel
theorem d1_116 : decode prog_157_method_3_code 116 = .ok (.sipush 8591, 3) := by decide +kernel
theorem d1_119 : decode prog_157_method_3_code 119 = .ok (.if_icmp .le 66, 3) := by decide +kernel
theorem d1_122 : decode prog_157_method_3_code 122 = .ok (.iload_n 0, 1) := by decide +kernel
theorem d1_123 : decode prog_157_method_3_code 123 = .ok (.sipush 11264, 3) := by decide +kernel
theorem d1_126 : decode prog_157_method_3_code 126 = .ok (.if_icmp .lt 10, 3) := by decide +kernel
theorem d1_129 : decode prog_157_method_3_code 129 = .ok (.iload_n 0, 1) := by decide +kernel
theorem d1_130 : decode prog_157_method_3_code 130 = .ok (.sipush 12271, 3) := by decide +kernel
theorem d1_133 : decode prog_157_method_3_code 133 = .ok (.if_icmp .le 52, 3) := by decide +kernel
theorem d1_136 : decode prog_157_method_3_code 136 = .ok (.iload_n 0, 1) := by decide +kernel
theorem d1_137 : decode prog_157_method_3_code 137 = .ok (.sipush 12289, 3) := by decide +kernel
theorem d1_140 : decode prog_157_method_3_code 140 = .ok (.if_icmp .lt 9, 3) := by decide +kernel
theorem d1_143 : decode prog_157_method_3_code 143 = .ok (.iload_n 0, 1) := by decide +kernel
theorem d1_144 : decode prog_157_method_3_code 144 = .ok (.ldc 13, 2) := by decide +kernel
theorem d1_146 : decode prog_157_method_3_code 146 = .ok (.if_icmp .le 39, 3) := by decide +kernel
theorem d1_149 : decode prog_157_method_3_code 149 = .ok (.iload_n 0, 1) := by decide +kernel
theorem d1_150 : decode prog_157_method_3_code 150 = .ok (.ldc 14, 2) := by decide +kernel
theorem d1_152 : decode prog_157_method_3_code 152 = .ok (.if_icmp .lt 9, 3) := by decide +kernel
theorem d1_155 : decode prog_157_method_3_code 155 = .ok (.iload_n 0, 1) := by decide +kernel
theorem d1_156 : decode prog_157_method_3_code 156 = .ok (.ldc 15, 2) := by decide +kernel
theorem d1_158 : decode prog_157_method_3_code 158 = .ok (.if_icmp .le 27, 3) := by decide +kernel
theorem d1_161 : decode prog_157_method_3_code 161 = .ok (.iload_n 0, 1) := by decide +kernel
theorem d1_162 : decode prog_157_method_3_code 162 = .ok (.ldc 16, 2) := by decide +kernel
theorem d1_164 : decode prog_157_method_3_code 164 = .ok (.if_icmp .lt 9, 3) := by decide +kernel
theorem d1_167 : decode prog_157_method_3_code 167 = .ok (.iload_n 0, 1) := by decide +kernel
theorem d1_168 : decode prog_157_method_3_code 168 = .ok (.ldc 17, 2) := by decide +kernel
theorem d1_170 : decode prog_157_method_3_code 170 = .ok (.if_icmp .le 15, 3) := by decide +kernel
theorem d1_173 : decode prog_157_method_3_code 173 = .ok (.iload_n 0, 1) := by decide +kernel
theorem d1_174 : decode prog_157_method_3_code 174 = .ok (.ldc 18, 2) := by decide +kernel
theorem d1_176 : decode prog_157_method_3_code 176 = .ok (.if_icmp .lt 13, 3) := by decide +kernel
theorem d1_179 : decode prog_157_method_3_code 179 = .ok (.iload_n 0, 1) := by decide +kernel
theorem d1_180 : decode prog_157_method_3_code 180 = .ok (.ldc 19, 2) := by decide +kernel
theorem d1_182 : decode prog_157_method_3_code 182 = .ok (.if_icmp .gt 7, 3) := by decide +kernel
theorem d1_185 : decode prog_157_method_3_code 185 = .ok (.iconst 1, 1) := by decide +kernel
theorem d1_186 : decode prog_157_method_3_code 186 = .ok (.goto 4, 3) := by decide +kernel
theorem d1_189 : decode prog_157_method_3_code 189 = .ok (.iconst 0, 1) := by decide +kernel
theorem d1_190 : decode prog_157_method_3_code 190 = .ok (.ireturn, 1) := by decide +kernel
theorem pn1 : plainName "com/example/triadne/triadne/Terminals" = true := by first | (simp [plainName, overriddenIn]; done) | decide +kernel
theorem ef1 (m : MethodId) (q1 : Int32) : entryFrame m #[(.int q1)] 1 = mkF m 0 #[.val (.int q1)] [] := by first | (simp [entryFrame, mkF, argsToLocals, Value.category]; done) | rfl
def g1_182_1 (q1 : Int32) : Int32 := if (983039 : Int32) < q1 then (0 : Int32) else (1 : Int32)
def g1_176_2 (q1 : Int32) : Int32 := if q1 < (65536 : Int32) then (0 : Int32) else (g1_182_1 q1)
def g1_j173 (q1 : Int32) : Int32 := (g1_176_2 q1)
def g1_170_3 (q1 : Int32) : Int32 := if (65533 : Int32) < q1 then (g1_j173 q1) else (1 : Int32)
def g1_164_4 (q1 : Int32) : Int32 := if q1 < (65008 : Int32) then (g1_j173 q1) else (g1_170_3 q1)
def g1_j161 (q1 : Int32) : Int32 := (g1_164_4 q1)
def g1_158_5 (q1 : Int32) : Int32 := if (64975 : Int32) < q1 then (g1_j161 q1) else (1 : Int32)
def g1_152_6 (q1 : Int32) : Int32 := if q1 < (63744 : Int32) then (g1_j161 q1) else (g1_158_5 q1)
def g1_j149 (q1 : Int32) : Int32 := (g1_152_6 q1)
def g1_146_7 (q1 : Int32) : Int32 := if (55295 : Int32) < q1 then (g1_j149 q1) else (1 : Int32)
def g1_140_8 (q1 : Int32) : Int32 := if q1 < (12289 : Int32) then (g1_j149 q1) else (g1_146_7 q1)
def g1_j136 (q1 : Int32) : Int32 := (g1_140_8 q1)
def g1_133_9 (q1 : Int32) : Int32 := if (12271 : Int32) < q1 then (g1_j136 q1) else (1 : Int32)
def g1_126_10 (q1 : Int32) : Int32 := if q1 < (11264 : Int32) then (g1_j136 q1) else (g1_133_9 q1)
def g1_j122 (q1 : Int32) : Int32 := (g1_126_10 q1)
def g1_119_11 (q1 : Int32) : Int32 := if (8591 : Int32) < q1 then (g1_j122 q1) else (1 : Int32)
def g1_112_12 (q1 : Int32) : Int32 := if q1 < (8304 : Int32) then (g1_j122 q1) else (g1_119_11 q1)
def g1_j108 (q1 : Int32) : Int32 := (g1_112_12 q1)
def g1_105_13 (q1 : Int32) : Int32 := if (8205 : Int32) < q1 then (g1_j108 q1) else (1 : Int32)
def g1_98_14 (q1 : Int32) : Int32 := if q1 < (8204 : Int32) then (g1_j108 q1) else (g1_105_13 q1)
def g1_j94 (q1 : Int32) : Int32 := (g1_98_14 q1)
def g1_91_15 (q1 : Int32) : Int32 := if (8191 : Int32) < q1 then (g1_j94 q1) else (1 : Int32)
def g1_84_16 (q1 : Int32) : Int32 := if q1 < (895 : Int32) then (g1_j94 q1) else (g1_91_15 q1)
def g1_j80 (q1 : Int32) : Int32 := (g1_84_16 q1)
def g1_77_17 (q1 : Int32) : Int32 := if (893 : Int32) < q1 then (g1_j80 q1) else (1 : Int32)
def g1_70_18 (q1 : Int32) : Int32 := if q1 < (880 : Int32) then (g1_j80 q1) else (g1_77_17 q1)
def g1_j66 (q1 : Int32) : Int32 := (g1_70_18 q1)
def g1_63_19 (q1 : Int32) : Int32 := if (767 : Int32) < q1 then (g1_j66 q1) else (1 : Int32)
def g1_56_20 (q1 : Int32) : Int32 := if q1 < (248 : Int32) then (g1_j66 q1) else (g1_63_19 q1)
def g1_j52 (q1 : Int32) : Int32 := (g1_56_20 q1)
def g1_49_21 (q1 : Int32) : Int32 := if (246 : Int32) < q1 then (g1_j52 q1) else (1 : Int32)
def g1_42_22 (q1 : Int32) : Int32 := if q1 < (216 : Int32) then (g1_j52 q1) else (g1_49_21 q1)
def g1_j38 (q1 : Int32) : Int32 := (g1_42_22 q1)
def g1_35_23 (q1 : Int32) : Int32 := if (214 : Int32) < q1 then (g1_j38 q1) else (1 : Int32)
def g1_28_24 (q1 : Int32) : Int32 := if q1 < (192 : Int32) then (g1_j38 q1) else (g1_35_23 q1)
def g1_j24 (q1 : Int32) : Int32 := (g1_28_24 q1)
def g1_21_25 (q1 : Int32) : Int32 := if (122 : Int32) < q1 then (g1_j24 q1) else (1 : Int32)
def g1_15_26 (q1 : Int32) : Int32 := if q1 < (97 : Int32) then (g1_j24 q1) else (g1_21_25 q1)
def g1_j12 (q1 : Int32) : Int32 := (g1_15_26 q1)
def g1_9_27 (q1 : Int32) : Int32 := if (90 : Int32) < q1 then (g1_j12 q1) else (1 : Int32)
def g1_3_28 (q1 : Int32) : Int32 := if q1 < (65 : Int32) then (g1_j12 q1) else (g1_9_27 q1)
def f1 (q1 : Int32) : Int32 := (g1_3_28 q1)
set_option maxRecDepth 65536 in
set_option maxHeartbeats 40000000 in
theorem rm1 (l : Launch) (Z : State) (a0 : Array Value) (hw : ∀ d ∈ tables_1, d.before a0 Z = true) (ws : List Jvm.Cond) (q1 : Int32) (h0 : Heap) (n0 : Nat) (Z0 : n0 ≤ h0.size) :
    MetFree l (⟨"com/example/triadne/triadne/Terminals", "isPnCharsBase", "(I)Z"⟩ : MethodName) (head1 (Jvm.Cond.code (⟨"com/example/triadne/triadne/Terminals", "isPnCharsBase", "(I)Z"⟩ : MethodName) prog_157_method_3_code 1 (some .boolean) :: ws) ({ frames := 0, cells := 0, slots := 0, locals := 0 } : Room)) (fun a U => a = #[(.int q1)] ∧ Z.Warmed39 U.vm ∧ U.heap = h0) (fun _ _ _ _ _ => True) (fun _ U o U' => ∃ v L, o = .returned v ∧ PI n0 h0 (f1 q1) v U'.heap L ∧ FrameEnd U o U' L ({ frames := 0, cells := 0, slots := 0, locals := 0 } : Room).cells ({ frames := 0, cells := 0, slots := 0, locals := 0 } : Room).slots) := by
  refine MetFree.of_bodySF (plainFor_of_name pn1) hisR ?_
  intro p e s m args below meth c s₁ Bd hml0 hP hK
  obtain ⟨rfl, hZ, hh⟩ := hP
  have hx := Bd.exec
  have hby := Bd.bytes
  have hml : c.maxLocals = 1 := hml0
  have hown : s.vm.findClass "com/example/triadne/triadne/Terminals" = some m.cls := findClass_of_methodNamed Bd.named
  have X0 : Stand p l e ({ frames := 0, cells := 0, slots := 0, locals := 0 } : Room) s m #[(.int q1)] below meth c s₁ [] 0 0 := Stand.of_body Bd
  have e0 : s₁.heap = h0 := by rw [← hh, Bd.state]; rfl
  have N0 := Fr.nil n0
  show OGo p e below (Out s ({ frames := 0, cells := 0, slots := 0, locals := 0 } : Room).cells ({ frames := 0, cells := 0, slots := 0, locals := 0 } : Room).slots (PI n0 h0 (f1 q1))) (s₁.setTop (entryFrame m #[(.int q1)] 1))
  have J173 : ∀ (T : State) (locs : List Loc) (X : Stand p l e ({ frames := 0, cells := 0, slots := 0, locals := 0 } : Room) s m #[(.int q1)] below meth c T locs 0 0) (eT : T.heap = h0) (N : Fr n0 locs), OGo p e below (Out s ({ frames := 0, cells := 0, slots := 0, locals := 0 } : Room).cells ({ frames := 0, cells := 0, slots := 0, locals := 0 } : Room).slots (PI n0 h0 (g1_j173 q1))) (T.setTop (mkF m 173 #[.val (.int q1)] [])) := by
    intro T locs X eT N
    show OGo p e below (Out s ({ frames := 0, cells := 0, slots := 0, locals := 0 } : Room).cells ({ frames := 0, cells := 0, slots := 0, locals := 0 } : Room).slots (PI n0 h0 (g1_176_2 q1))) (T.setTop (mkF m 173 #[.val (.int q1)] []))
    refine OGo.st (fun t k => XS.iloadN X.here hx rfl (hb hby d1_173) rfl k) ?_
    show OGo p e below _ (T.setTop (mkF m 174 #[.val (.int q1)] [(.int q1)]))
    refine OGo.st (fun t k => X.ldcInt hx hown (mvT hZ (hw _ (List.mem_of_getElem? (i := 15) rfl))) (g := (mkF m 174 #[.val (.int q1)] [(.int q1)])) rfl (hb hby d1_174) t k) ?_
    show OGo p e below _ (T.setTop (mkF m 176 #[.val (.int q1)] [(.int (65536 : Int32)), (.int q1)]))
    by_cases hc176_1 : q1 < (65536 : Int32)
    · refine OGo.eqvI (show (g1_176_2 q1) = (0 : Int32) from if_pos hc176_1) ?_
      refine OGo.st (fun t k => XS.icmpYes X.here hx rfl (pc0 := 176) (pc' := 189) rfl (hb hby d1_176) rfl (tlt hc176_1).1 (by decide) (by decide) k) ?_
      show OGo p e below _ (T.setTop (mkF m 189 #[.val (.int q1)] []))
      refine OGo.st (fun t k => XS.iconst X.here hx rfl (hb hby d1_189) k) ?_
      show OGo p e below _ (T.setTop (mkF m 190 #[.val (.int q1)] [(.int (0 : Int32))]))
      exact OGo.outN X hx (t := .boolean) Bd.returns (by simp) Bd.notSynchronized (hb hby d1_190) ⟨rfl, N, eT⟩ (by decide) (by decide)
    · refine OGo.eqvI (show (g1_176_2 q1) = (g1_182_1 q1) from if_neg hc176_1) ?_
      refine OGo.st (fun t k => XS.icmpNo X.here hx rfl (hb hby d1_176) rfl (flt hc176_1).1 k) ?_
      show OGo p e below _ (T.setTop (mkF m 179 #[.val (.int q1)] []))
      refine OGo.st (fun t k => XS.iloadN X.here hx rfl (hb hby d1_179) rfl k) ?_
      show OGo p e below _ (T.setTop (mkF m 180 #[.val (.int q1)] [(.int q1)]))
      refine OGo.st (fun t k => X.ldcInt hx hown (mvT hZ (hw _ (List.mem_of_getElem? (i := 26) rfl))) (g := (mkF m 180 #[.val (.int q1)] [(.int q1)])) rfl (hb hby d1_180) t k) ?_
      show OGo p e below _ (T.setTop (mkF m 182 #[.val (.int q1)] [(.int (983039 : Int32)), (.int q1)]))
      by_cases hc182_2 : (983039 : Int32) < q1
      · refine OGo.eqvI (show (g1_182_1 q1) = (0 : Int32) from if_pos hc182_2) ?_
        refine OGo.st (fun t k => XS.icmpYes X.here hx rfl (pc0 := 182) (pc' := 189) rfl (hb hby d1_182) rfl (tlt hc182_2).2.2.1 (by decide) (by decide) k) ?_
        show OGo p e below _ (T.setTop (mkF m 189 #[.val (.int q1)] []))
        refine OGo.st (fun t k => XS.iconst X.here hx rfl (hb hby d1_189) k) ?_
        show OGo p e below _ (T.setTop (mkF m 190 #[.val (.int q1)] [(.int (0 : Int32))]))
        exact OGo.outN X hx (t := .boolean) Bd.returns (by simp) Bd.notSynchronized (hb hby d1_190) ⟨rfl, N, eT⟩ (by decide) (by decide)
      · refine OGo.eqvI (show (g1_182_1 q1) = (1 : Int32) from if_neg hc182_2) ?_
        refine OGo.st (fun t k => XS.icmpNo X.here hx rfl (hb hby d1_182) rfl (flt hc182_2).2.2.1 k) ?_
        show OGo p e below _ (T.setTop (mkF m 185 #[.val (.int q1)] []))
        refine OGo.st (fun t k => XS.iconst X.here hx rfl (hb hby d1_185) k) ?_
        show OGo p e below _ (T.setTop (mkF m 186 #[.val (.int q1)] [(.int (1 : Int32))]))
        refine OGo.st (fun t k => XS.goto X.here hx rfl (pc0 := 186) (pc' := 190) rfl (hb hby d1_186) (by decide) (by decide) k) ?_
        show OGo p e below _ (T.setTop (mkF m 190 #[.val (.int q1)] [(.int (1 : Int32))]))
        exact OGo.outN X hx (t := .boolean) Bd.returns (by simp) Bd.notSynchronized (hb hby d1_190) ⟨rfl, N, eT⟩ (by decide) (by decide)
  have J161 : ∀ (T : State) (locs : List Loc) (X : Stand p l e ({ frames := 0, cells := 0, slots := 0, locals := 0 } : Room) s m #[(.int q1)] below meth c T locs 0 0) (eT : T.heap = h0) (N : Fr n0 locs), OGo p e below (Out s ({ frames := 0, cells := 0, slots := 0, locals := 0 } : Room).cells ({ frames := 0, cells := 0, slots := 0, locals := 0 } : Room).slots (PI n0 h0 (g1_j161 q1))) (T.setTop (mkF m 161 #[.val (.int q1)] [])) := by
    intro T locs X eT N
    show OGo p e below (Out s ({ frames := 0, cells := 0, slots := 0, locals := 0 } : Room).cells ({ frames := 0, cells := 0, slots := 0, locals := 0 } : Room).slots (PI n0 h0 (g1_164_4 q1))) (T.setTop (mkF m 161 #[.val (.int q1)] []))
    refine OGo.st (fun t k => XS.iloadN X.here hx rfl (hb hby d1_161) rfl k) ?_
    show OGo p e below _ (T.setTop (mkF m 162 #[.val (.int q1)] [(.int q1)]))
    refine OGo.st (fun t k => X.ldcInt hx hown (mvT hZ (hw _ (List.mem_of_getElem? (i := 14) rfl))) (g := (mkF m 162 #[.val (.int q1)] [(.int q1)])) rfl (hb hby d1_162) t k) ?_
    show OGo p e below _ (T.setTop (mkF m 164 #[.val (.int q1)] [(.int (65008 : Int32)), (.int q1)]))
    by_cases hc164_3 : q1 < (65008 : Int32)
    · refine OGo.eqvI (show (g1_164_4 q1) = (g1_j173 q1) from if_pos hc164_3) ?_
      refine OGo.st (fun t k => XS.icmpYes X.here hx rfl (pc0 := 164) (pc' := 173) rfl (hb hby d1_164) rfl (tlt hc164_3).1 (by decide) (by decide) k) ?_
      show OGo p e below _ (T.setTop (mkF m 173 #[.val (.int q1)] []))
      exact J173 T _ X eT N 
    · refine OGo.eqvI (show (g1_164_4 q1) = (g1_170_3 q1) from if_neg hc164_3) ?_
      refine OGo.st (fun t k => XS.icmpNo X.here hx rfl (hb hby d1_164) rfl (flt hc164_3).1 k) ?_
      show OGo p e below _ (T.setTop (mkF m 167 #[.val (.int q1)] []))
      refine OGo.st (fun t k => XS.iloadN X.here hx rfl (hb hby d1_167) rfl k) ?_
      show OGo p e below _ (T.setTop (mkF m 168 #[.val (.int q1)] [(.int q1)]))
      refine OGo.st (fun t k => X.ldcInt hx hown (mvT hZ (hw _ (List.mem_of_getElem? (i := 25) rfl))) (g := (mkF m 168 #[.val (.int q1)] [(.int q1)])) rfl (hb hby d1_168) t k) ?_
      show OGo p e below _ (T.setTop (mkF m 170 #[.val (.int q1)] [(.int (65533 : Int32)), (.int q1)]))
      by_cases hc170_4 : (65533 : Int32) < q1
      · refine OGo.eqvI (show (g1_170_3 q1) = (g1_j173 q1) from if_pos hc170_4) ?_
        refine OGo.st (fun t k => XS.icmpNo X.here hx rfl (hb hby d1_170) rfl (tlt hc170_4).2.2.2 k) ?_
        show OGo p e below _ (T.setTop (mkF m 173 #[.val (.int q1)] []))
        exact J173 T _ X eT N 
      · refine OGo.eqvI (show (g1_170_3 q1) = (1 : Int32) from if_neg hc170_4) ?_
        refine OGo.st (fun t k => XS.icmpYes X.here hx rfl (pc0 := 170) (pc' := 185) rfl (hb hby d1_170) rfl (flt hc170_4).2.2.2 (by decide) (by decide) k) ?_
        show OGo p e below _ (T.setTop (mkF m 185 #[.val (.int q1)] []))
        refine OGo.st (fun t k => XS.iconst X.here hx rfl (hb hby d1_185) k) ?_
        show OGo p e below _ (T.setTop (mkF m 186 #[.val (.int q1)] [(.int (1 : Int32))]))
        refine OGo.st (fun t k => XS.goto X.here hx rfl (pc0 := 186) (pc' := 190) rfl (hb hby d1_186) (by decide) (by decide) k) ?_
        show OGo p e below _ (T.setTop (mkF m 190 #[.val (.int q1)] [(.int (1 : Int32))]))
        exact OGo.outN X hx (t := .boolean) Bd.returns (by simp) Bd.notSynchronized (hb hby d1_190) ⟨rfl, N, eT⟩ (by decide) (by decide)
  have J149 : ∀ (T : State) (locs : List Loc) (X : Stand p l e ({ frames := 0, cells := 0, slots := 0, locals := 0 } : Room) s m #[(.int q1)] below meth c T locs 0 0) (eT : T.heap = h0) (N : Fr n0 locs), OGo p e below (Out s ({ frames := 0, cells := 0, slots := 0, locals := 0 } : Room).cells ({ frames := 0, cells := 0, slots := 0, locals := 0 } : Room).slots (PI n0 h0 (g1_j149 q1))) (T.setTop (mkF m 149 #[.val (.int q1)] [])) := by
    intro T locs X eT N
    show OGo p e below (Out s ({ frames := 0, cells := 0, slots := 0, locals := 0 } : Room).cells ({ frames := 0, cells := 0, slots := 0, locals := 0 } : Room).slots (PI n0 h0 (g1_152_6 q1))) (T.setTop (mkF m 149 #[.val (.int q1)] []))
    refine OGo.st (fun t k => XS.iloadN X.here hx rfl (hb hby d1_149) rfl k) ?_
    show OGo p e below _ (T.setTop (mkF m 150 #[.val (.int q1)] [(.int q1)]))
    refine OGo.st (fun t k => X.ldcInt hx hown (mvT hZ (hw _ (List.mem_of_getElem? (i := 13) rfl))) (g := (mkF m 150 #[.val (.int q1)] [(.int q1)])) rfl (hb hby d1_150) t k) ?_
    show OGo p e below _ (T.setTop (mkF m 152 #[.val (.int q1)] [(.int (63744 : Int32)), (.int q1)]))
    by_cases hc152_5 : q1 < (63744 : Int32)
    · refine OGo.eqvI (show (g1_152_6 q1) = (g1_j161 q1) from if_pos hc152_5) ?_
      refine OGo.st (fun t k => XS.icmpYes X.here hx rfl (pc0 := 152) (pc' := 161) rfl (hb hby d1_152) rfl (tlt hc152_5).1 (by decide) (by decide) k) ?_
      show OGo p e below _ (T.setTop (mkF m 161 #[.val (.int q1)] []))
      exact J161 T _ X eT N 
    · refine OGo.eqvI (show (g1_152_6 q1) = (g1_158_5 q1) from if_neg hc152_5) ?_
      refine OGo.st (fun t k => XS.icmpNo X.here hx rfl (hb hby d1_152) rfl (flt hc152_5).1 k) ?_
      show OGo p e below _ (T.setTop (mkF m 155 #[.val (.int q1)] []))
      refine OGo.st (fun t k => XS.iloadN X.here hx rfl (hb hby d1_155) rfl k) ?_
      show OGo p e below _ (T.setTop (mkF m 156 #[.val (.int q1)] [(.int q1)]))
      refine OGo.st (fun t k => X.ldcInt hx hown (mvT hZ (hw _ (List.mem_of_getElem? (i := 24) rfl))) (g := (mkF m 156 #[.val (.int q1)] [(.int q1)])) rfl (hb hby d1_156) t k) ?_
      show OGo p e below _ (T.setTop (mkF m 158 #[.val (.int q1)] [(.int (64975 : Int32)), (.int q1)]))
      by_cases hc158_6 : (64975 : Int32) < q1
      · refine OGo.eqvI (show (g1_158_5 q1) = (g1_j161 q1) from if_pos hc158_6) ?_
        refine OGo.st (fun t k => XS.icmpNo X.here hx rfl (hb hby d1_158) rfl (tlt hc158_6).2.2.2 k) ?_
        show OGo p e below _ (T.setTop (mkF m 161 #[.val (.int q1)] []))
        exact J161 T _ X eT N 
      · refine OGo.eqvI (show (g1_158_5 q1) = (1 : Int32) from if_neg hc158_6) ?_
        refine OGo.st (fun t k => XS.icmpYes X.here hx rfl (pc0 := 158) (pc' := 185) rfl (hb hby d1_158) rfl (flt hc158_6).2.2.2 (by decide) (by decide) k) ?_
        show OGo p e below _ (T.setTop (mkF m 185 #[.val (.int q1)] []))
        refine OGo.st (fun t k => XS.iconst X.here hx rfl (hb hby d1_185) k) ?_
        show OGo p e below _ (T.setTop (mkF m 186 #[.val (.int q1)] [(.int (1 : Int32))]))
        refine OGo.st (fun t k => XS.goto X.here hx rfl (pc0 := 186) (pc' := 190) rfl (hb hby d1_186) (by decide) (by decide) k) ?_
        show OGo p e below _ (T.setTop (mkF m 190 #[.val (.int q1)] [(.int (1 : Int32))]))
        exact OGo.outN X hx (t := .boolean) Bd.returns (by simp) Bd.notSynchronized (hb hby d1_190) ⟨rfl, N, eT⟩ (by decide) (by decide)
  have J136 : ∀ (T : State) (locs : List Loc) (X : Stand p l e ({ frames := 0, cells := 0, slots := 0, locals := 0 } : Room) s m #[(.int q1)] below meth c T locs 0 0) (eT : T.heap = h0) (N : Fr n0 locs), OGo p e below (Out s ({ frames := 0, cells := 0, slots := 0, locals := 0 } : Room).cells ({ frames := 0, cells := 0, slots := 0, locals := 0 } : Room).slots (PI n0 h0 (g1_j136 q1))) (T.setTop (mkF m 136 #[.val (.int q1)] [])) := by
    intro T locs X eT N
    show OGo p e below (Out s ({ frames := 0, cells := 0, slots := 0, locals := 0 } : Room).cells ({ frames := 0, cells := 0, slots := 0, locals := 0 } : Room).slots (PI n0 h0 (g1_140_8 q1))) (T.setTop (mkF m 136 #[.val (.int q1)] []))
    refine OGo.st (fun t k => XS.iloadN X.here hx rfl (hb hby d1_136) rfl k) ?_
    show OGo p e below _ (T.setTop (mkF m 137 #[.val (.int q1)] [(.int q1)]))
    refine OGo.st (fun t k => XS.sipush X.here hx rfl (hb hby d1_137) k) ?_
    show OGo p e below _ (T.setTop (mkF m 140 #[.val (.int q1)] [(.int (12289 : Int32)), (.int q1)]))
    by_cases hc140_7 : q1 < (12289 : Int32)
    · refine OGo.eqvI (show (g1_140_8 q1) = (g1_j149 q1) from if_pos hc140_7) ?_
      refine OGo.st (fun t k => XS.icmpYes X.here hx rfl (pc0 := 140) (pc' := 149) rfl (hb hby d1_140) rfl (tlt hc140_7).1 (by decide) (by decide) k) ?_
      show OGo p e below _ (T.setTop (mkF m 149 #[.val (.int q1)] []))
      exact J149 T _ X eT N 
    · refine OGo.eqvI (show (g1_140_8 q1) = (g1_146_7 q1) from if_neg hc140_7) ?_
      refine OGo.st (fun t k => XS.icmpNo X.here hx rfl (hb hby d1_140) rfl (flt hc140_7).1 k) ?_
      show OGo p e below _ (T.setTop (mkF m 143 #[.val (.int q1)] []))
      refine OGo.st (fun t k => XS.iloadN X.here hx rfl (hb hby d1_143) rfl k) ?_
      show OGo p e below _ (T.setTop (mkF m 144 #[.val (.int q1)] [(.int q1)]))
      refine OGo.st (fun t k => X.ldcInt hx hown (mvT hZ (hw _ (List.mem_of_getElem? (i := 23) rfl))) (g := (mkF m 144 #[.val (.int q1)] [(.int q1)])) rfl (hb hby d1_144) t k) ?_
      show OGo p e below _ (T.setTop (mkF m 146 #[.val (.int q1)] [(.int (55295 : Int32)), (.int q1)]))
      by_cases hc146_8 : (55295 : Int32) < q1
      · refine OGo.eqvI (show (g1_146_7 q1) = (g1_j149 q1) from if_pos hc146_8) ?_
        refine OGo.st (fun t k => XS.icmpNo X.here hx rfl (hb hby d1_146) rfl (tlt hc146_8).2.2.2 k) ?_
        show OGo p e below _ (T.setTop (mkF m 149 #[.val (.int q1)] []))
        exact J149 T _ X eT N 
      · refine OGo.eqvI (show (g1_146_7 q1) = (1 : Int32) from if_neg hc146_8) ?_
        refine OGo.st (fun t k => XS.icmpYes X.here hx rfl (pc0 := 146) (pc' := 185) rfl (hb hby d1_146) rfl (flt hc146_8).2.2.2 (by decide) (by decide) k) ?_
        show OGo p e below _ (T.setTop (mkF m 185 #[.val (.int q1)] []))
        refine OGo.st (fun t k => XS.iconst X.here hx rfl (hb hby d1_185) k) ?_
        show OGo p e below _ (T.setTop (mkF m 186 #[.val (.int q1)] [(.int (1 : Int32))]))
        refine OGo.st (fun t k => XS.goto X.here hx rfl (pc0 := 186) (pc' := 190) rfl (hb hby d1_186) (by decide) (by decide) k) ?_
        show OGo p e below _ (T.setTop (mkF m 190 #[.val (.int q1)] [(.int (1 : Int32))]))
        exact OGo.outN X hx (t := .boolean) Bd.returns (by simp) Bd.notSynchronized (hb hby d1_190) ⟨rfl, N, eT⟩ (by decide) (by decide)
  have J122 : ∀ (T : State) (locs : List Loc) (X : Stand p l e ({ frames := 0, cells := 0, slots := 0, locals := 0 } : Room) s m #[(.int q1)] below meth c T locs 0 0) (eT : T.heap = h0) (N : Fr n0 locs), OGo p e below (Out s ({ frames := 0, cells := 0, slots := 0, locals := 0 } : Room).cells ({ frames := 0, cells := 0, slots := 0, locals := 0 } : Room).slots (PI n0 h0 (g1_j122 q1))) (T.setTop (mkF m 122 #[.val (.int q1)] [])) := by
    intro T locs X eT N
    show OGo p e below (Out s ({ frames := 0, cells := 0, slots := 0, locals := 0 } : Room).cells ({ frames := 0, cells := 0, slots := 0, locals := 0 } : Room).slots (PI n0 h0 (g1_126_10 q1))) (T.setTop (mkF m 122 #[.val (.int q1)] []))
    refine OGo.st (fun t k => XS.iloadN X.here hx rfl (hb hby d1_122) rfl k) ?_
    show OGo p e below _ (T.setTop (mkF m 123 #[.val (.int q1)] [(.int q1)]))
    refine OGo.st (fun t k => XS.sipush X.here hx rfl (hb hby d1_123) k) ?_
    show OGo p e below _ (T.setTop (mkF m 126 #[.val (.int q1)] [(.int (11264 : Int32)), (.int q1)]))
    by_cases hc126_9 : q1 < (11264 : Int32)
    · refine OGo.eqvI (show (g1_126_10 q1) = (g1_j136 q1) from if_pos hc126_9) ?_
      refine OGo.st (fun t k => XS.icmpYes X.here hx rfl (pc0 := 126) (pc' := 136) rfl (hb hby d1_126) rfl (tlt hc126_9).1 (by decide) (by decide) k) ?_
      show OGo p e below _ (T.setTop (mkF m 136 #[.val (.int q1)] []))
      exact J136 T _ X eT N 
    · refine OGo.eqvI (show (g1_126_10 q1) = (g1_133_9 q1) from if_neg hc126_9) ?_
      refine OGo.st (fun t k => XS.icmpNo X.here hx rfl (hb hby d1_126) rfl (flt hc126_9).1 k) ?_
      show OGo p e below _ (T.setTop (mkF m 129 #[.val (.int q1)] []))
      refine OGo.st (fun t k => XS.iloadN X.here hx rfl (hb hby d1_129) rfl k) ?_
      show OGo p e below _ (T.setTop (mkF m 130 #[.val (.int q1)] [(.int q1)]))
      refine OGo.st (fun t k => XS.sipush X.here hx rfl (hb hby d1_130) k) ?_
      show OGo p e below _ (T.setTop (mkF m 133 #[.val (.int q1)] [(.int (12271 : Int32)), (.int q1)]))
      by_cases hc133_10 : (12271 : Int32) < q1
      · refine OGo.eqvI (show (g1_133_9 q1) = (g1_j136 q1) from if_pos hc133_10) ?_
        refine OGo.st (fun t k => XS.icmpNo X.here hx rfl (hb hby d1_133) rfl (tlt hc133_10).2.2.2 k) ?_
        show OGo p e below _ (T.setTop (mkF m 136 #[.val (.int q1)] []))
        exact J136 T _ X eT N 
      · refine OGo.eqvI (show (g1_133_9 q1) = (1 : Int32) from if_neg hc133_10) ?_
        refine OGo.st (fun t k => XS.icmpYes X.here hx rfl (pc0 := 133) (pc' := 185) rfl (hb hby d1_133) rfl (flt hc133_10).2.2.2 (by decide) (by decide) k) ?_
        show OGo p e below _ (T.setTop (mkF m 185 #[.val (.int q1)] []))
        refine OGo.st (fun t k => XS.iconst X.here hx rfl (hb hby d1_185) k) ?_
        show OGo p e below _ (T.setTop (mkF m 186 #[.val (.int q1)] [(.int (1 : Int32))]))
        refine OGo.st (fun t k => XS.goto X.here hx rfl (pc0 := 186) (pc' := 190) rfl (hb hby d1_186) (by decide) (by decide) k) ?_
        show OGo p e below _ (T.setTop (mkF m 190 #[.val (.int q1)] [(.int (1 : Int32))]))
        exact OGo.outN X hx (t := .boolean) Bd.returns (by simp) Bd.notSynchronized (hb hby d1_190) ⟨rfl, N, eT⟩ (by decide) (by decide)
  have J108 : ∀ (T : State) (locs : List Loc) (X : Stand p l e ({ frames := 0, cells := 0, slots := 0, locals := 0 } : Room) s m #[(.int q1)] below meth c T locs 0 0) (eT : T.heap = h0) (N : Fr n0 locs), OGo p e below (Out s ({ frames := 0, cells := 0, slots := 0, locals := 0 } : Room).cells ({ frames := 0, cells := 0, slots := 0, locals := 0 } : Room).slots (PI n0 h0 (g1_j108 q1))) (T.setTop (mkF m 108 #[.val (.int q1)] [])) := by
    intro T locs X eT N
    show OGo p e below (Out s ({ frames := 0, cells := 0, slots := 0, locals := 0 } : Room).cells ({ frames := 0, cells := 0, slots := 0, locals := 0 } : Room).slots (PI n0 h0 (g1_112_12 q1))) (T.setTop (mkF m 108 #[.val (.int q1)] []))
    refine OGo.st (fun t k => XS.iloadN X.here hx rfl (hb hby d1_108) rfl k) ?_
    show OGo p e below _ (T.setTop (mkF m 109 #[.val (.int q1)] [(.int q1)]))
    refine OGo.st (fun t k => XS.sipush X.here hx rfl (hb hby d1_109) k) ?_
    show OGo p e below _ (T.setTop (mkF m 112 #[.val (.int q1)] [(.int (8304 : Int32)), (.int q1)]))
    by_cases hc112_11 : q1 < (8304 : Int32)
    · refine OGo.eqvI (show (g1_112_12 q1) = (g1_j122 q1) from if_pos hc112_11) ?_
      refine OGo.st (fun t k => XS.icmpYes X.here hx rfl (pc0 := 112) (pc' := 122) rfl (hb hby d1_112) rfl (tlt hc112_11).1 (by decide) (by decide) k) ?_
      show OGo p e below _ (T.setTop (mkF m 122 #[.val (.int q1)] []))
      exact J122 T _ X eT N 
    · refine OGo.eqvI (show (g1_112_12 q1) = (g1_119_11 q1) from if_neg hc112_11) ?_
      refine OGo.st (fun t k => XS.icmpNo X.here hx rfl (hb hby d1_112) rfl (flt hc112_11).1 k) ?_
      show OGo p e below _ (T.setTop (mkF m 115 #[.val (.int q1)] []))
      refine OGo.st (fun t k => XS.iloadN X.here hx rfl (hb hby d1_115) rfl k) ?_
      show OGo p e below _ (T.setTop (mkF m 116 #[.val (.int q1)] [(.int q1)]))
      refine OGo.st (fun t k => XS.sipush X.here hx rfl (hb hby d1_116) k) ?_
      show OGo p e below _ (T.setTop (mkF m 119 #[.val (.int q1)] [(.int (8591 : Int32)), (.int q1)]))
      by_cases hc119_12 : (8591 : Int32) < q1
      · refine OGo.eqvI (show (g1_119_11 q1) = (g1_j122 q1) from if_pos hc119_12) ?_
        refine OGo.st (fun t k => XS.icmpNo X.here hx rfl (hb hby d1_119) rfl (tlt hc119_12).2.2.2 k) ?_
        show OGo p e below _ (T.setTop (mkF m 122 #[.val (.int q1)] []))
        exact J122 T _ X eT N 
      · refine OGo.eqvI (show (g1_119_11 q1) = (1 : Int32) from if_neg hc119_12) ?_
        refine OGo.st (fun t k => XS.icmpYes X.here hx rfl (pc0 := 119) (pc' := 185) rfl (hb hby d1_119) rfl (flt hc119_12).2.2.2 (by decide) (by decide) k) ?_
        show OGo p e below _ (T.setTop (mkF m 185 #[.val (.int q1)] []))
        refine OGo.st (fun t k => XS.iconst X.here hx rfl (hb hby d1_185) k) ?_
        show OGo p e below _ (T.setTop (mkF m 186 #[.val (.int q1)] [(.int (1 : Int32))]))
        refine OGo.st (fun t k => XS.goto X.here hx rfl (pc0 := 186) (pc' := 190) rfl (hb hby d1_186) (by decide) (by decide) k) ?_
        show OGo p e below _ (T.setTop (mkF m 190 #[.val (.int q1)] [(.int (1 : Int32))]))
        exact OGo.outN X hx (t := .boolean) Bd.returns (by simp) Bd.notSynchronized (hb hby d1_190) ⟨rfl, N, eT⟩ (by decide) (by decide)
  have J94 : ∀ (T : State) (locs : List Loc) (X : Stand p l e ({ frames := 0, cells := 0, slots := 0, locals := 0 } : Room) s m #[(.int q1)] below meth c T locs 0 0) (eT : T.heap = h0) (N : Fr n0 locs), OGo p e below (Out s ({ frames := 0, cells := 0, slots := 0, locals := 0 } : Room).cells ({ frames := 0, cells := 0, slots := 0, locals := 0 } : Room).slots (PI n0 h0 (g1_j94 q1))) (T.setTop (mkF m 94 #[.val (.int q1)] [])) := by
    intro T locs X eT N
    show OGo p e below (Out s ({ frames := 0, cells := 0, slots := 0, locals := 0 } : Room).cells ({ frames := 0, cells := 0, slots := 0, locals := 0 } : Room).slots (PI n0 h0 (g1_98_14 q1))) (T.setTop (mkF m 94 #[.val (.int q1)] []))
    refine OGo.st (fun t k => XS.iloadN X.here hx rfl (hb hby d1_94) rfl k) ?_
    show OGo p e below _ (T.setTop (mkF m 95 #[.val (.int q1)] [(.int q1)]))
    refine OGo.st (fun t k => XS.sipush X.here hx rfl (hb hby d1_95) k) ?_
    show OGo p e below _ (T.setTop (mkF m 98 #[.val (.int q1)] [(.int (8204 : Int32)), (.int q1)]))
    by_cases hc98_13 : q1 < (8204 : Int32)
    · refine OGo.eqvI (show (g1_98_14 q1) = (g1_j108 q1) from if_pos hc98_13) ?_
      refine OGo.st (fun t k => XS.icmpYes X.here hx rfl (pc0 := 98) (pc' := 108) rfl (hb hby d1_98) rfl (tlt hc98_13).1 (by decide) (by decide) k) ?_
      show OGo p e below _ (T.setTop (mkF m 108 #[.val (.int q1)] []))
      exact J108 T _ X eT N 
    · refine OGo.eqvI (show (g1_98_14 q1) = (g1_105_13 q1) from if_neg hc98_13) ?_
      refine OGo.st (fun t k => XS.icmpNo X.here hx rfl (hb hby d1_98) rfl (flt hc98_13).1 k) ?_
      show OGo p e below _ (T.setTop (mkF m 101 #[.val (.int q1)] []))
      refine OGo.st (fun t k => XS.iloadN X.here hx rfl (hb hby d1_101) rfl k) ?_
      show OGo p e below _ (T.setTop (mkF m 102 #[.val (.int q1)] [(.int q1)]))
      refine OGo.st (fun t k => XS.sipush X.here hx rfl (hb hby d1_102) k) ?_
      show OGo p e below _ (T.setTop (mkF m 105 #[.val (.int q1)] [(.int (8205 : Int32)), (.int q1)]))
      by_cases hc105_14 : (8205 : Int32) < q1
      · refine OGo.eqvI (show (g1_105_13 q1) = (g1_j108 q1) from if_pos hc105_14) ?_
        refine OGo.st (fun t k => XS.icmpNo X.here hx rfl (hb hby d1_105) rfl (tlt hc105_14).2.2.2 k) ?_
        show OGo p e below _ (T.setTop (mkF m 108 #[.val (.int q1)] []))
        exact J108 T _ X eT N 
      · refine OGo.eqvI (show (g1_105_13 q1) = (1 : Int32) from if_neg hc105_14) ?_
        refine OGo.st (fun t k => XS.icmpYes X.here hx rfl (pc0 := 105) (pc' := 185) rfl (hb hby d1_105) rfl (flt hc105_14).2.2.2 (by decide) (by decide) k) ?_
        show OGo p e below _ (T.setTop (mkF m 185 #[.val (.int q1)] []))
        refine OGo.st (fun t k => XS.iconst X.here hx rfl (hb hby d1_185) k) ?_
        show OGo p e below _ (T.setTop (mkF m 186 #[.val (.int q1)] [(.int (1 : Int32))]))
        refine OGo.st (fun t k => XS.goto X.here hx rfl (pc0 := 186) (pc' := 190) rfl (hb hby d1_186) (by decide) (by decide) k) ?_
        show OGo p e below _ (T.setTop (mkF m 190 #[.val (.int q1)] [(.int (1 : Int32))]))
        exact OGo.outN X hx (t := .boolean) Bd.returns (by simp) Bd.notSynchronized (hb hby d1_190) ⟨rfl, N, eT⟩ (by decide) (by decide)
  have J80 : ∀ (T : State) (locs : List Loc) (X : Stand p l e ({ frames := 0, cells := 0, slots := 0, locals := 0 } : Room) s m #[(.int q1)] below meth c T locs 0 0) (eT : T.heap = h0) (N : Fr n0 locs), OGo p e below (Out s ({ frames := 0, cells := 0, slots := 0, locals := 0 } : Room).cells ({ frames := 0, cells := 0, slots := 0, locals := 0 } : Room).slots (PI n0 h0 (g1_j80 q1))) (T.setTop (mkF m 80 #[.val (.int q1)] [])) := by
    intro T locs X eT N
    show OGo p e below (Out s ({ frames := 0, cells := 0, slots := 0, locals := 0 } : Room).cells ({ frames := 0, cells := 0, slots := 0, locals := 0 } : Room).slots (PI n0 h0 (g1_84_16 q1))) (T.setTop (mkF m 80 #[.val (.int q1)] []))
    refine OGo.st (fun t k => XS.iloadN X.here hx rfl (hb hby d1_80) rfl k) ?_
    show OGo p e below _ (T.setTop (mkF m 81 #[.val (.int q1)] [(.int q1)]))
    refine OGo.st (fun t k => XS.sipush X.here hx rfl (hb hby d1_81) k) ?_
    show OGo p e below _ (T.setTop (mkF m 84 #[.val (.int q1)] [(.int (895 : Int32)), (.int q1)]))
    by_cases hc84_15 : q1 < (895 : Int32)
    · refine OGo.eqvI (show (g1_84_16 q1) = (g1_j94 q1) from if_pos hc84_15) ?_
      refine OGo.st (fun t k => XS.icmpYes X.here hx rfl (pc0 := 84) (pc' := 94) rfl (hb hby d1_84) rfl (tlt hc84_15).1 (by decide) (by decide) k) ?_
      show OGo p e below _ (T.setTop (mkF m 94 #[.val (.int q1)] []))
      exact J94 T _ X eT N 
    · refine OGo.eqvI (show (g1_84_16 q1) = (g1_91_15 q1) from if_neg hc84_15) ?_
      refine OGo.st (fun t k => XS.icmpNo X.here hx rfl (hb hby d1_84) rfl (flt hc84_15).1 k) ?_
      show OGo p e below _ (T.setTop (mkF m 87 #[.val (.int q1)] []))
      refine OGo.st (fun t k => XS.iloadN X.here hx rfl (hb hby d1_87) rfl k) ?_
      show OGo p e below _ (T.setTop (mkF m 88 #[.val (.int q1)] [(.int q1)]))
      refine OGo.st (fun t k => XS.sipush X.here hx rfl (hb hby d1_88) k) ?_
      show OGo p e below _ (T.setTop (mkF m 91 #[.val (.int q1)] [(.int (8191 : Int32)), (.int q1)]))
      by_cases hc91_16 : (8191 : Int32) < q1
      · refine OGo.eqvI (show (g1_91_15 q1) = (g1_j94 q1) from if_pos hc91_16) ?_
        refine OGo.st (fun t k => XS.icmpNo X.here hx rfl (hb hby d1_91) rfl (tlt hc91_16).2.2.2 k) ?_
        show OGo p e below _ (T.setTop (mkF m 94 #[.val (.int q1)] []))
        exact J94 T _ X eT N 
      · refine OGo.eqvI (show (g1_91_15 q1) = (1 : Int32) from if_neg hc91_16) ?_
        refine OGo.st (fun t k => XS.icmpYes X.here hx rfl (pc0 := 91) (pc' := 185) rfl (hb hby d1_91) rfl (flt hc91_16).2.2.2 (by decide) (by decide) k) ?_
        show OGo p e below _ (T.setTop (mkF m 185 #[.val (.int q1)] []))
        refine OGo.st (fun t k => XS.iconst X.here hx rfl (hb hby d1_185) k) ?_
        show OGo p e below _ (T.setTop (mkF m 186 #[.val (.int q1)] [(.int (1 : Int32))]))
        refine OGo.st (fun t k => XS.goto X.here hx rfl (pc0 := 186) (pc' := 190) rfl (hb hby d1_186) (by decide) (by decide) k) ?_
        show OGo p e below _ (T.setTop (mkF m 190 #[.val (.int q1)] [(.int (1 : Int32))]))
        exact OGo.outN X hx (t := .boolean) Bd.returns (by simp) Bd.notSynchronized (hb hby d1_190) ⟨rfl, N, eT⟩ (by decide) (by decide)
  have J66 : ∀ (T : State) (locs : List Loc) (X : Stand p l e ({ frames := 0, cells := 0, slots := 0, locals := 0 } : Room) s m #[(.int q1)] below meth c T locs 0 0) (eT : T.heap = h0) (N : Fr n0 locs), OGo p e below (Out s ({ frames := 0, cells := 0, slots := 0, locals := 0 } : Room).cells ({ frames := 0, cells := 0, slots := 0, locals := 0 } : Room).slots (PI n0 h0 (g1_j66 q1))) (T.setTop (mkF m 66 #[.val (.int q1)] [])) := by
    intro T locs X eT N
    show OGo p e below (Out s ({ frames := 0, cells := 0, slots := 0, locals := 0 } : Room).cells ({ frames := 0, cells := 0, slots := 0, locals := 0 } : Room).slots (PI n0 h0 (g1_70_18 q1))) (T.setTop (mkF m 66 #[.val (.int q1)] []))
    refine OGo.st (fun t k => XS.iloadN X.here hx rfl (hb hby d1_66) rfl k) ?_
    show OGo p e below _ (T.setTop (mkF m 67 #[.val (.int q1)] [(.int q1)]))
    refine OGo.st (fun t k => XS.sipush X.here hx rfl (hb hby d1_67) k) ?_
    show OGo p e below _ (T.setTop (mkF m 70 #[.val (.int q1)] [(.int (880 : Int32)), (.int q1)]))
    by_cases hc70_17 : q1 < (880 : Int32)
    · refine OGo.eqvI (show (g1_70_18 q1) = (g1_j80 q1) from if_pos hc70_17) ?_
      refine OGo.st (fun t k => XS.icmpYes X.here hx rfl (pc0 := 70) (pc' := 80) rfl (hb hby d1_70) rfl (tlt hc70_17).1 (by decide) (by decide) k) ?_
      show OGo p e below _ (T.setTop (mkF m 80 #[.val (.int q1)] []))
      exact J80 T _ X eT N 
    · refine OGo.eqvI (show (g1_70_18 q1) = (g1_77_17 q1) from if_neg hc70_17) ?_
      refine OGo.st (fun t k => XS.icmpNo X.here hx rfl (hb hby d1_70) rfl (flt hc70_17).1 k) ?_
      show OGo p e below _ (T.setTop (mkF m 73 #[.val (.int q1)] []))
      refine OGo.st (fun t k => XS.iloadN X.here hx rfl (hb hby d1_73) rfl k) ?_
      show OGo p e below _ (T.setTop (mkF m 74 #[.val (.int q1)] [(.int q1)]))
      refine OGo.st (fun t k => XS.sipush X.here hx rfl (hb hby d1_74) k) ?_
      show OGo p e below _ (T.setTop (mkF m 77 #[.val (.int q1)] [(.int (893 : Int32)), (.int q1)]))
      by_cases hc77_18 : (893 : Int32) < q1
      · refine OGo.eqvI (show (g1_77_17 q1) = (g1_j80 q1) from if_pos hc77_18) ?_
        refine OGo.st (fun t k => XS.icmpNo X.here hx rfl (hb hby d1_77) rfl (tlt hc77_18).2.2.2 k) ?_
        show OGo p e below _ (T.setTop (mkF m 80 #[.val (.int q1)] []))
        exact J80 T _ X eT N 
      · refine OGo.eqvI (show (g1_77_17 q1) = (1 : Int32) from if_neg hc77_18) ?_
        refine OGo.st (fun t k => XS.icmpYes X.here hx rfl (pc0 := 77) (pc' := 185) rfl (hb hby d1_77) rfl (flt hc77_18).2.2.2 (by decide) (by decide) k) ?_
        show OGo p e below _ (T.setTop (mkF m 185 #[.val (.int q1)] []))
        refine OGo.st (fun t k => XS.iconst X.here hx rfl (hb hby d1_185) k) ?_
        show OGo p e below _ (T.setTop (mkF m 186 #[.val (.int q1)] [(.int (1 : Int32))]))
        refine OGo.st (fun t k => XS.goto X.here hx rfl (pc0 := 186) (pc' := 190) rfl (hb hby d1_186) (by decide) (by decide) k) ?_
        show OGo p e below _ (T.setTop (mkF m 190 #[.val (.int q1)] [(.int (1 : Int32))]))
        exact OGo.outN X hx (t := .boolean) Bd.returns (by simp) Bd.notSynchronized (hb hby d1_190) ⟨rfl, N, eT⟩ (by decide) (by decide)
  have J52 : ∀ (T : State) (locs : List Loc) (X : Stand p l e ({ frames := 0, cells := 0, slots := 0, locals := 0 } : Room) s m #[(.int q1)] below meth c T locs 0 0) (eT : T.heap = h0) (N : Fr n0 locs), OGo p e below (Out s ({ frames := 0, cells := 0, slots := 0, locals := 0 } : Room).cells ({ frames := 0, cells := 0, slots := 0, locals := 0 } : Room).slots (PI n0 h0 (g1_j52 q1))) (T.setTop (mkF m 52 #[.val (.int q1)] [])) := by
    intro T locs X eT N
    show OGo p e below (Out s ({ frames := 0, cells := 0, slots := 0, locals := 0 } : Room).cells ({ frames := 0, cells := 0, slots := 0, locals := 0 } : Room).slots (PI n0 h0 (g1_56_20 q1))) (T.setTop (mkF m 52 #[.val (.int q1)] []))
    refine OGo.st (fun t k => XS.iloadN X.here hx rfl (hb hby d1_52) rfl k) ?_
    show OGo p e below _ (T.setTop (mkF m 53 #[.val (.int q1)] [(.int q1)]))
    refine OGo.st (fun t k => XS.sipush X.here hx rfl (hb hby d1_53) k) ?_
    show OGo p e below _ (T.setTop (mkF m 56 #[.val (.int q1)] [(.int (248 : Int32)), (.int q1)]))
    by_cases hc56_19 : q1 < (248 : Int32)
    · refine OGo.eqvI (show (g1_56_20 q1) = (g1_j66 q1) from if_pos hc56_19) ?_
      refine OGo.st (fun t k => XS.icmpYes X.here hx rfl (pc0 := 56) (pc' := 66) rfl (hb hby d1_56) rfl (tlt hc56_19).1 (by decide) (by decide) k) ?_
      show OGo p e below _ (T.setTop (mkF m 66 #[.val (.int q1)] []))
      exact J66 T _ X eT N 
    · refine OGo.eqvI (show (g1_56_20 q1) = (g1_63_19 q1) from if_neg hc56_19) ?_
      refine OGo.st (fun t k => XS.icmpNo X.here hx rfl (hb hby d1_56) rfl (flt hc56_19).1 k) ?_
      show OGo p e below _ (T.setTop (mkF m 59 #[.val (.int q1)] []))
      refine OGo.st (fun t k => XS.iloadN X.here hx rfl (hb hby d1_59) rfl k) ?_
      show OGo p e below _ (T.setTop (mkF m 60 #[.val (.int q1)] [(.int q1)]))
      refine OGo.st (fun t k => XS.sipush X.here hx rfl (hb hby d1_60) k) ?_
      show OGo p e below _ (T.setTop (mkF m 63 #[.val (.int q1)] [(.int (767 : Int32)), (.int q1)]))
      by_cases hc63_20 : (767 : Int32) < q1
      · refine OGo.eqvI (show (g1_63_19 q1) = (g1_j66 q1) from if_pos hc63_20) ?_
        refine OGo.st (fun t k => XS.icmpNo X.here hx rfl (hb hby d1_63) rfl (tlt hc63_20).2.2.2 k) ?_
        show OGo p e below _ (T.setTop (mkF m 66 #[.val (.int q1)] []))
        exact J66 T _ X eT N 
      · refine OGo.eqvI (show (g1_63_19 q1) = (1 : Int32) from if_neg hc63_20) ?_
        refine OGo.st (fun t k => XS.icmpYes X.here hx rfl (pc0 := 63) (pc' := 185) rfl (hb hby d1_63) rfl (flt hc63_20).2.2.2 (by decide) (by decide) k) ?_
        show OGo p e below _ (T.setTop (mkF m 185 #[.val (.int q1)] []))
        refine OGo.st (fun t k => XS.iconst X.here hx rfl (hb hby d1_185) k) ?_
        show OGo p e below _ (T.setTop (mkF m 186 #[.val (.int q1)] [(.int (1 : Int32))]))
        refine OGo.st (fun t k => XS.goto X.here hx rfl (pc0 := 186) (pc' := 190) rfl (hb hby d1_186) (by decide) (by decide) k) ?_
        show OGo p e below _ (T.setTop (mkF m 190 #[.val (.int q1)] [(.int (1 : Int32))]))
        exact OGo.outN X hx (t := .boolean) Bd.returns (by simp) Bd.notSynchronized (hb hby d1_190) ⟨rfl, N, eT⟩ (by decide) (by decide)
  have J38 : ∀ (T : State) (locs : List Loc) (X : Stand p l e ({ frames := 0, cells := 0, slots := 0, locals := 0 } : Room) s m #[(.int q1)] below meth c T locs 0 0) (eT : T.heap = h0) (N : Fr n0 locs), OGo p e below (Out s ({ frames := 0, cells := 0, slots := 0, locals := 0 } : Room).cells ({ frames := 0, cells := 0, slots := 0, locals := 0 } : Room).slots (PI n0 h0 (g1_j38 q1))) (T.setTop (mkF m 38 #[.val (.int q1)] [])) := by
    intro T locs X eT N
    show OGo p e below (Out s ({ frames := 0, cells := 0, slots := 0, locals := 0 } : Room).cells ({ frames := 0, cells := 0, slots := 0, locals := 0 } : Room).slots (PI n0 h0 (g1_42_22 q1))) (T.setTop (mkF m 38 #[.val (.int q1)] []))
    refine OGo.st (fun t k => XS.iloadN X.here hx rfl (hb hby d1_38) rfl k) ?_
    show OGo p e below _ (T.setTop (mkF m 39 #[.val (.int q1)] [(.int q1)]))
    refine OGo.st (fun t k => XS.sipush X.here hx rfl (hb hby d1_39) k) ?_
    show OGo p e below _ (T.setTop (mkF m 42 #[.val (.int q1)] [(.int (216 : Int32)), (.int q1)]))
    by_cases hc42_21 : q1 < (216 : Int32)
    · refine OGo.eqvI (show (g1_42_22 q1) = (g1_j52 q1) from if_pos hc42_21) ?_
      refine OGo.st (fun t k => XS.icmpYes X.here hx rfl (pc0 := 42) (pc' := 52) rfl (hb hby d1_42) rfl (tlt hc42_21).1 (by decide) (by decide) k) ?_
      show OGo p e below _ (T.setTop (mkF m 52 #[.val (.int q1)] []))
      exact J52 T _ X eT N 
    · refine OGo.eqvI (show (g1_42_22 q1) = (g1_49_21 q1) from if_neg hc42_21) ?_
      refine OGo.st (fun t k => XS.icmpNo X.here hx rfl (hb hby d1_42) rfl (flt hc42_21).1 k) ?_
      show OGo p e below _ (T.setTop (mkF m 45 #[.val (.int q1)] []))
      refine OGo.st (fun t k => XS.iloadN X.here hx rfl (hb hby d1_45) rfl k) ?_
      show OGo p e below _ (T.setTop (mkF m 46 #[.val (.int q1)] [(.int q1)]))
      refine OGo.st (fun t k => XS.sipush X.here hx rfl (hb hby d1_46) k) ?_
      show OGo p e below _ (T.setTop (mkF m 49 #[.val (.int q1)] [(.int (246 : Int32)), (.int q1)]))
      by_cases hc49_22 : (246 : Int32) < q1
      · refine OGo.eqvI (show (g1_49_21 q1) = (g1_j52 q1) from if_pos hc49_22) ?_
        refine OGo.st (fun t k => XS.icmpNo X.here hx rfl (hb hby d1_49) rfl (tlt hc49_22).2.2.2 k) ?_
        show OGo p e below _ (T.setTop (mkF m 52 #[.val (.int q1)] []))
        exact J52 T _ X eT N 
      · refine OGo.eqvI (show (g1_49_21 q1) = (1 : Int32) from if_neg hc49_22) ?_
        refine OGo.st (fun t k => XS.icmpYes X.here hx rfl (pc0 := 49) (pc' := 185) rfl (hb hby d1_49) rfl (flt hc49_22).2.2.2 (by decide) (by decide) k) ?_
        show OGo p e below _ (T.setTop (mkF m 185 #[.val (.int q1)] []))
        refine OGo.st (fun t k => XS.iconst X.here hx rfl (hb hby d1_185) k) ?_
        show OGo p e below _ (T.setTop (mkF m 186 #[.val (.int q1)] [(.int (1 : Int32))]))
        refine OGo.st (fun t k => XS.goto X.here hx rfl (pc0 := 186) (pc' := 190) rfl (hb hby d1_186) (by decide) (by decide) k) ?_
        show OGo p e below _ (T.setTop (mkF m 190 #[.val (.int q1)] [(.int (1 : Int32))]))
        exact OGo.outN X hx (t := .boolean) Bd.returns (by simp) Bd.notSynchronized (hb hby d1_190) ⟨rfl, N, eT⟩ (by decide) (by decide)
  have J24 : ∀ (T : State) (locs : List Loc) (X : Stand p l e ({ frames := 0, cells := 0, slots := 0, locals := 0 } : Room) s m #[(.int q1)] below meth c T locs 0 0) (eT : T.heap = h0) (N : Fr n0 locs), OGo p e below (Out s ({ frames := 0, cells := 0, slots := 0, locals := 0 } : Room).cells ({ frames := 0, cells := 0, slots := 0, locals := 0 } : Room).slots (PI n0 h0 (g1_j24 q1))) (T.setTop (mkF m 24 #[.val (.int q1)] [])) := by
    intro T locs X eT N
    show OGo p e below (Out s ({ frames := 0, cells := 0, slots := 0, locals := 0 } : Room).cells ({ frames := 0, cells := 0, slots := 0, locals := 0 } : Room).slots (PI n0 h0 (g1_28_24 q1))) (T.setTop (mkF m 24 #[.val (.int q1)] []))
    refine OGo.st (fun t k => XS.iloadN X.here hx rfl (hb hby d1_24) rfl k) ?_
    show OGo p e below _ (T.setTop (mkF m 25 #[.val (.int q1)] [(.int q1)]))
    refine OGo.st (fun t k => XS.sipush X.here hx rfl (hb hby d1_25) k) ?_
    show OGo p e below _ (T.setTop (mkF m 28 #[.val (.int q1)] [(.int (192 : Int32)), (.int q1)]))
    by_cases hc28_23 : q1 < (192 : Int32)
    · refine OGo.eqvI (show (g1_28_24 q1) = (g1_j38 q1) from if_pos hc28_23) ?_
      refine OGo.st (fun t k => XS.icmpYes X.here hx rfl (pc0 := 28) (pc' := 38) rfl (hb hby d1_28) rfl (tlt hc28_23).1 (by decide) (by decide) k) ?_
      show OGo p e below _ (T.setTop (mkF m 38 #[.val (.int q1)] []))
      exact J38 T _ X eT N 
    · refine OGo.eqvI (show (g1_28_24 q1) = (g1_35_23 q1) from if_neg hc28_23) ?_
      refine OGo.st (fun t k => XS.icmpNo X.here hx rfl (hb hby d1_28) rfl (flt hc28_23).1 k) ?_
      show OGo p e below _ (T.setTop (mkF m 31 #[.val (.int q1)] []))
      refine OGo.st (fun t k => XS.iloadN X.here hx rfl (hb hby d1_31) rfl k) ?_
      show OGo p e below _ (T.setTop (mkF m 32 #[.val (.int q1)] [(.int q1)]))
      refine OGo.st (fun t k => XS.sipush X.here hx rfl (hb hby d1_32) k) ?_
      show OGo p e below _ (T.setTop (mkF m 35 #[.val (.int q1)] [(.int (214 : Int32)), (.int q1)]))
      by_cases hc35_24 : (214 : Int32) < q1
      · refine OGo.eqvI (show (g1_35_23 q1) = (g1_j38 q1) from if_pos hc35_24) ?_
        refine OGo.st (fun t k => XS.icmpNo X.here hx rfl (hb hby d1_35) rfl (tlt hc35_24).2.2.2 k) ?_
        show OGo p e below _ (T.setTop (mkF m 38 #[.val (.int q1)] []))
        exact J38 T _ X eT N 
      · refine OGo.eqvI (show (g1_35_23 q1) = (1 : Int32) from if_neg hc35_24) ?_
        refine OGo.st (fun t k => XS.icmpYes X.here hx rfl (pc0 := 35) (pc' := 185) rfl (hb hby d1_35) rfl (flt hc35_24).2.2.2 (by decide) (by decide) k) ?_
        show OGo p e below _ (T.setTop (mkF m 185 #[.val (.int q1)] []))
        refine OGo.st (fun t k => XS.iconst X.here hx rfl (hb hby d1_185) k) ?_
        show OGo p e below _ (T.setTop (mkF m 186 #[.val (.int q1)] [(.int (1 : Int32))]))
        refine OGo.st (fun t k => XS.goto X.here hx rfl (pc0 := 186) (pc' := 190) rfl (hb hby d1_186) (by decide) (by decide) k) ?_
        show OGo p e below _ (T.setTop (mkF m 190 #[.val (.int q1)] [(.int (1 : Int32))]))
        exact OGo.outN X hx (t := .boolean) Bd.returns (by simp) Bd.notSynchronized (hb hby d1_190) ⟨rfl, N, eT⟩ (by decide) (by decide)
  have J12 : ∀ (T : State) (locs : List Loc) (X : Stand p l e ({ frames := 0, cells := 0, slots := 0, locals := 0 } : Room) s m #[(.int q1)] below meth c T locs 0 0) (eT : T.heap = h0) (N : Fr n0 locs), OGo p e below (Out s ({ frames := 0, cells := 0, slots := 0, locals := 0 } : Room).cells ({ frames := 0, cells := 0, slots := 0, locals := 0 } : Room).slots (PI n0 h0 (g1_j12 q1))) (T.setTop (mkF m 12 #[.val (.int q1)] [])) := by
    intro T locs X eT N
    show OGo p e below (Out s ({ frames := 0, cells := 0, slots := 0, locals := 0 } : Room).cells ({ frames := 0, cells := 0, slots := 0, locals := 0 } : Room).slots (PI n0 h0 (g1_15_26 q1))) (T.setTop (mkF m 12 #[.val (.int q1)] []))
    refine OGo.st (fun t k => XS.iloadN X.here hx rfl (hb hby d1_12) rfl k) ?_
    show OGo p e below _ (T.setTop (mkF m 13 #[.val (.int q1)] [(.int q1)]))
    refine OGo.st (fun t k => XS.bipush X.here hx rfl (hb hby d1_13) k) ?_
    show OGo p e below _ (T.setTop (mkF m 15 #[.val (.int q1)] [(.int (97 : Int32)), (.int q1)]))
    by_cases hc15_25 : q1 < (97 : Int32)
    · refine OGo.eqvI (show (g1_15_26 q1) = (g1_j24 q1) from if_pos hc15_25) ?_
      refine OGo.st (fun t k => XS.icmpYes X.here hx rfl (pc0 := 15) (pc' := 24) rfl (hb hby d1_15) rfl (tlt hc15_25).1 (by decide) (by decide) k) ?_
      show OGo p e below _ (T.setTop (mkF m 24 #[.val (.int q1)] []))
      exact J24 T _ X eT N 
    · refine OGo.eqvI (show (g1_15_26 q1) = (g1_21_25 q1) from if_neg hc15_25) ?_
      refine OGo.st (fun t k => XS.icmpNo X.here hx rfl (hb hby d1_15) rfl (flt hc15_25).1 k) ?_
      show OGo p e below _ (T.setTop (mkF m 18 #[.val (.int q1)] []))
      refine OGo.st (fun t k => XS.iloadN X.here hx rfl (hb hby d1_18) rfl k) ?_
      show OGo p e below _ (T.setTop (mkF m 19 #[.val (.int q1)] [(.int q1)]))
      refine OGo.st (fun t k => XS.bipush X.here hx rfl (hb hby d1_19) k) ?_
      show OGo p e below _ (T.setTop (mkF m 21 #[.val (.int q1)] [(.int (122 : Int32)), (.int q1)]))
      by_cases hc21_26 : (122 : Int32) < q1
      · refine OGo.eqvI (show (g1_21_25 q1) = (g1_j24 q1) from if_pos hc21_26) ?_
        refine OGo.st (fun t k => XS.icmpNo X.here hx rfl (hb hby d1_21) rfl (tlt hc21_26).2.2.2 k) ?_
        show OGo p e below _ (T.setTop (mkF m 24 #[.val (.int q1)] []))
        exact J24 T _ X eT N 
      · refine OGo.eqvI (show (g1_21_25 q1) = (1 : Int32) from if_neg hc21_26) ?_
        refine OGo.st (fun t k => XS.icmpYes X.here hx rfl (pc0 := 21) (pc' := 185) rfl (hb hby d1_21) rfl (flt hc21_26).2.2.2 (by decide) (by decide) k) ?_
        show OGo p e below _ (T.setTop (mkF m 185 #[.val (.int q1)] []))
        refine OGo.st (fun t k => XS.iconst X.here hx rfl (hb hby d1_185) k) ?_
        show OGo p e below _ (T.setTop (mkF m 186 #[.val (.int q1)] [(.int (1 : Int32))]))
        refine OGo.st (fun t k => XS.goto X.here hx rfl (pc0 := 186) (pc' := 190) rfl (hb hby d1_186) (by decide) (by decide) k) ?_
        show OGo p e below _ (T.setTop (mkF m 190 #[.val (.int q1)] [(.int (1 : Int32))]))
        exact OGo.outN X hx (t := .boolean) Bd.returns (by simp) Bd.notSynchronized (hb hby d1_190) ⟨rfl, N, eT⟩ (by decide) (by decide)
  refine OGo.st (fun t k => castTop (ef1 m q1) k) ?_
  show OGo p e below (Out s ({ frames := 0, cells := 0, slots := 0, locals := 0 } : Room).cells ({ frames := 0, cells := 0, slots := 0, locals := 0 } : Room).slots (PI n0 h0 (g1_3_28 q1))) (s₁.setTop (mkF m 0 #[.val (.int q1)] []))
  refine OGo.st (fun t k => XS.iloadN X0.here hx rfl (hb hby d1_0) rfl k) ?_
  show OGo p e below _ (s₁.setTop (mkF m 1 #[.val (.int q1)] [(.int q1)]))
  refine OGo.st (fun t k => XS.bipush X0.here hx rfl (hb hby d1_1) k) ?_
  show OGo p e below _ (s₁.setTop (mkF m 3 #[.val (.int q1)] [(.int (65 : Int32)), (.int q1)]))
  by_cases hc3_27 : q1 < (65 : Int32)
  · refine OGo.eqvI (show (g1_3_28 q1) = (g1_j12 q1) from if_pos hc3_27) ?_
    refine OGo.st (fun t k => XS.icmpYes X0.here hx rfl (pc0 := 3) (pc' := 12) rfl (hb hby d1_3) rfl (tlt hc3_27).1 (by decide) (by decide) k) ?_
    show OGo p e below _ (s₁.setTop (mkF m 12 #[.val (.int q1)] []))
    exact J12 s₁ _ X0 e0 N0 
  · refine OGo.eqvI (show (g1_3_28 q1) = (g1_9_27 q1) from if_neg hc3_27) ?_
    refine OGo.st (fun t k => XS.icmpNo X0.here hx rfl (hb hby d1_3) rfl (flt hc3_27).1 k) ?_
    show OGo p e below _ (s₁.setTop (mkF m 6 #[.val (.int q1)] []))
    refine OGo.st (fun t k => XS.iloadN X0.here hx rfl (hb hby d1_6) rfl k) ?_
    show OGo p e below _ (s₁.setTop (mkF m 7 #[.val (.int q1)] [(.int q1)]))
    refine OGo.st (fun t k => XS.bipush X0.here hx rfl (hb hby d1_7) k) ?_
    show OGo p e below _ (s₁.setTop (mkF m 9 #[.val (.int q1)] [(.int (90 : Int32)), (.int q1)]))
    by_cases hc9_28 : (90 : Int32) < q1
    · refine OGo.eqvI (show (g1_9_27 q1) = (g1_j12 q1) from if_pos hc9_28) ?_
      refine OGo.st (fun t k => XS.icmpNo X0.here hx rfl (hb hby d1_9) rfl (tlt hc9_28).2.2.2 k) ?_
      show OGo p e below _ (s₁.setTop (mkF m 12 #[.val (.int q1)] []))
      exact J12 s₁ _ X0 e0 N0 
    · refine OGo.eqvI (show (g1_9_27 q1) = (1 : Int32) from if_neg hc9_28) ?_
      refine OGo.st (fun t k => XS.icmpYes X0.here hx rfl (pc0 := 9) (pc' := 185) rfl (hb hby d1_9) rfl (flt hc9_28).2.2.2 (by decide) (by decide) k) ?_
      show OGo p e below _ (s₁.setTop (mkF m 185 #[.val (.int q1)] []))
      refine OGo.st (fun t k => XS.iconst X0.here hx rfl (hb hby d1_185) k) ?_
      show OGo p e below _ (s₁.setTop (mkF m 186 #[.val (.int q1)] [(.int (1 : Int32))]))
      refine OGo.st (fun t k => XS.goto X0.here hx rfl (pc0 := 186) (pc' := 190) rfl (hb hby d1_186) (by decide) (by decide) k) ?_
      show OGo p e below _ (s₁.setTop (mkF m 190 #[.val (.int q1)] [(.int (1 : Int32))]))
      exact OGo.outN X0 hx (t := .boolean) Bd.returns (by simp) Bd.notSynchronized (hb hby d1_190) ⟨rfl, N0, e0⟩ (by decide) (by decide)
theorem d2_0 : decode method_2_code 0 = .ok (.iload_n 0, 1) := by decide +kernel
theorem d2_1 : decode method_2_code 1 = .ok (.bipush 65, 2) := by decide +kernel
theorem d2_3 : decode method_2_code 3 = .ok (.if_icmp .ge 5, 3) := by decide +kernel
theorem d2_6 : decode method_2_code 6 = .ok (.iconst 1, 1) := by decide +kernel
theorem d2_7 : decode method_2_code 7 = .ok (.ireturn, 1) := by decide +kernel
theorem d2_8 : decode method_2_code 8 = .ok (.iload_n 0, 1) := by decide +kernel
theorem d2_9 : decode method_2_code 9 = .ok (.bipush 91, 2) := by decide +kernel
theorem d2_11 : decode method_2_code 11 = .ok (.if_icmp .lt 11, 3) := by decide +kernel
theorem d2_14 : decode method_2_code 14 = .ok (.iload_n 0, 1) := by decide +kernel
theorem d2_15 : decode method_2_code 15 = .ok (.bipush 96, 2) := by decide +kernel
theorem d2_17 : decode method_2_code 17 = .ok (.if_icmp .gt 5, 3) := by decide +kernel
theorem d2_20 : decode method_2_code 20 = .ok (.iconst 1, 1) := by decide +kernel
theorem d2_21 : decode method_2_code 21 = .ok (.ireturn, 1) := by decide +kernel
theorem d2_22 : decode method_2_code 22 = .ok (.iload_n 0, 1) := by decide +kernel
theorem d2_23 : decode method_2_code 23 = .ok (.bipush 123, 2) := by decide +kernel
theorem d2_25 : decode method_2_code 25 = .ok (.if_icmp .lt 12, 3) := by decide +kernel
theorem d2_28 : decode method_2_code 28 = .ok (.iload_n 0, 1) := by decide +kernel
theorem d2_29 : decode method_2_code 29 = .ok (.sipush 191, 3) := by decide +kernel
theorem d2_32 : decode method_2_code 32 = .ok (.if_icmp .gt 5, 3) := by decide +kernel
theorem d2_35 : decode method_2_code 35 = .ok (.iconst 1, 1) := by decide +kernel
theorem d2_36 : decode method_2_code 36 = .ok (.ireturn, 1) := by decide +kernel
theorem d2_37 : decode method_2_code 37 = .ok (.iload_n 0, 1) := by decide +kernel
theorem d2_38 : decode method_2_code 38 = .ok (.sipush 215, 3) := by decide +kernel
theorem d2_41 : decode method_2_code 41 = .ok (.if_icmp .eq 10, 3) := by decide +kernel
theorem d2_44 : decode method_2_code 44 = .ok (.iload_n 0, 1) := by decide +kernel
theorem d2_45 : decode method_2_code 45 = .ok (.sipush 247, 3) := by decide +kernel
theorem d2_48 : decode method_2_code 48 = .ok (.if_icmp .ne 5, 3) := by decide +kernel
theorem d2_51 : decode method_2_code 51 = .ok (.iconst 1, 1) := by decide +kernel
theorem d2_52 : decode method_2_code 52 = .ok (.ireturn, 1) := by decide +kernel
theorem d2_53 : decode method_2_code 53 = .ok (.iload_n 0, 1) := by decide +kernel
theorem d2_54 : decode method_2_code 54 = .ok (.sipush 768, 3) := by decide +kernel
theorem d2_57 : decode method_2_code 57 = .ok (.if_icmp .lt 12, 3) := by decide +kernel
theorem d2_60 : decode method_2_code 60 = .ok (.iload_n 0, 1) := by decide +kernel
theorem d2_61 : decode method_2_code 61 = .ok (.sipush 879, 3) := by decide +kernel
theorem d2_64 : decode method_2_code 64 = .ok (.if_icmp .gt 5, 3) := by decide +kernel
theorem d2_67 : decode method_2_code 67 = .ok (.iconst 1, 1) := by decide +kernel
theorem d2_68 : decode method_2_code 68 = .ok (.ireturn, 1) := by decide +kernel
theorem d2_69 : decode method_2_code 69 = .ok (.iload_n 0, 1) := by decide +kernel
theorem d2_70 : decode method_2_code 70 = .ok (.sipush 894, 3) := by decide +kernel
theorem d2_73 : decode method_2_code 73 = .ok (.if_icmp .ne 5, 3) := by decide +kernel
theorem d2_76 : decode method_2_code 76 = .ok (.iconst 1, 1) := by decide +kernel
theorem d2_77 : decode method_2_code 77 = .ok (.ireturn, 1) := by decide +kernel
theorem d2_78 : decode method_2_code 78 = .ok (.iload_n 0, 1) := by decide +kernel
theorem d2_79 : decode method_2_code 79 = .ok (.sipush 8192, 3) := by decide +kernel
theorem d2_82 : decode method_2_code 82 = .ok (.if_icmp .lt 12, 3) := by decide +kernel
theorem d2_85 : decode method_2_code 85 = .ok (.iload_n 0, 1) := by decide +kernel
theorem d2_86 : decode method_2_code 86 = .ok (.sipush 8203, 3) := by decide +kernel
theorem d2_89 : decode method_2_code 89 = .ok (.if_icmp .gt 5, 3) := by decide +kernel
theorem d2_92 : decode method_2_code 92 = .ok (.iconst 1, 1) := by decide +kernel
theorem d2_93 : decode method_2_code 93 = .ok (.ireturn, 1) := by decide +kernel
theorem d2_94 : decode method_2_code 94 = .ok (.iload_n 0, 1) := by decide +kernel
theorem d2_95 : decode method_2_code 95 = .ok (.sipush 8206, 3) := by decide +kernel
theorem d2_98 : decode method_2_code 98 = .ok (.if_icmp .lt 12, 3) := by decide +kernel
theorem d2_101 : decode method_2_code 101 = .ok (.iload_n 0, 1) := by decide +kernel
theorem d2_102 : decode method_2_code 102 = .ok (.sipush 8303, 3) := by decide +kernel
theorem d2_105 : decode method_2_code 105 = .ok (.if_icmp .gt 5, 3) := by decide +kernel
theorem d2_108 : decode method_2_code 108 = .ok (.iconst 1, 1) := by decide +kernel
theorem d2_109 : decode method_2_code 109 = .ok (.ireturn, 1) := by decide +kernel
theorem d2_110 : decode method_2_code 110 = .ok (.iload_n 0, 1) := by decide +kernel
theorem d2_111 : decode method_2_code 111 = .ok (.sipush 8592, 3) := by decide +kernel
theorem d2_114 : decode method_2_code 114 = .ok (.if_icmp .lt 12, 3) := by decide +kernel
theorem d2_117 : decode method_2_code 117 = .ok (.iload_n 0, 1) := by decide +kernel
theorem d2_118 : decode method_2_code 118 = .ok (.sipush 11263, 3) := by decide +kernel
theorem d2_121 : decode method_2_code 121 = .ok (.if_icmp .gt 5, 3) := by decide +kernel
theorem d2_124 : decode method_2_code 124 = .ok (.iconst 1, 1) := by decide +kernel
theorem d2_125 : decode method_2_code 125 = .ok (.ireturn, 1) := by decide +kernel
theorem d2_126 : decode method_2_code 126 = .ok (.iload_n 0, 1) := by decide +kernel
theorem d2_127 : decode method_2_code 127 = .ok (.sipush 12272, 3) := by decide +kernel
theorem d2_130 : decode method_2_code 130 = .ok (.if_icmp .lt 12, 3) := by decide +kernel
theorem d2_133 : decode method_2_code 133 = .ok (.iload_n 0, 1) := by decide +kernel
theorem d2_134 : decode method_2_code 134 = .ok (.sipush 12288, 3) := by decide +kernel
theorem d2_137 : decode method_2_code 137 = .ok (.if_icmp .gt 5, 3) := by decide +kernel
theorem d2_140 : decode method_2_code 140 = .ok (.iconst 1, 1) := by decide +kernel
theorem d2_141 : decode method_2_code 141 = .ok (.ireturn, 1) := by decide +kernel
theorem d2_142 : decode method_2_code 142 = .ok (.iload_n 0, 1) := by decide +kernel
theorem d2_143 : decode method_2_code 143 = .ok (.ldc 7, 2) := by decide +kernel
theorem d2_145 : decode method_2_code 145 = .ok (.if_icmp .lt 11, 3) := by decide +kernel
theorem d2_148 : decode method_2_code 148 = .ok (.iload_n 0, 1) := by decide +kernel
theorem d2_149 : decode method_2_code 149 = .ok (.ldc 8, 2) := by decide +kernel
theorem d2_151 : decode method_2_code 151 = .ok (.if_icmp .gt 5, 3) := by decide +kernel
theorem d2_154 : decode method_2_code 154 = .ok (.iconst 1, 1) := by decide +kernel
theorem d2_155 : decode method_2_code 155 = .ok (.ireturn, 1) := by decide +kernel
theorem d2_156 : decode method_2_code 156 = .ok (.iload_n 0, 1) := by decide +kernel
theorem d2_157 : decode method_2_code 157 = .ok (.ldc 9, 2) := by decide +kernel
theorem d2_159 : decode method_2_code 159 = .ok (.if_icmp .lt 11, 3) := by decide +kernel
theorem d2_162 : decode method_2_code 162 = .ok (.iload_n 0, 1) := by decide +kernel
theorem d2_163 : decode method_2_code 163 = .ok (.ldc 10, 2) := by decide +kernel
theorem d2_165 : decode method_2_code 165 = .ok (.if_icmp .gt 5, 3) := by decide +kernel
theorem d2_168 : decode method_2_code 168 = .ok (.iconst 1, 1) := by decide +kernel
theorem d2_169 : decode method_2_code 169 = .ok (.ireturn, 1) := by decide +kernel
theorem d2_170 : decode method_2_code 170 = .ok (.iload_n 0, 1) := by decide +kernel
theorem d2_171 : decode method_2_code 171 = .ok (.ldc 11, 2) := by decide +kernel
theorem d2_173 : decode method_2_code 173 = .ok (.if_icmp .lt 11, 3) := by decide +kernel
theorem d2_176 : decode method_2_code 176 = .ok (.iload_n 0, 1) := by decide +kernel
theorem d2_177 : decode method_2_code 177 = .ok (.ldc 12, 2) := by decide +kernel
theorem d2_179 : decode method_2_code 179 = .ok (.if_icmp .gt 5, 3) := by decide +kernel
theorem d2_182 : decode method_2_code 182 = .ok (.iconst 1, 1) := by decide +kernel
theorem d2_183 : decode method_2_code 183 = .ok (.ireturn, 1) := by decide +kernel
theorem d2_184 : decode method_2_code 184 = .ok (.iload_n 0, 1) := by decide +kernel
theorem d2_185 : decode method_2_code 185 = .ok (.ldc 13, 2) := by decide +kernel
theorem d2_187 : decode method_2_code 187 = .ok (.if_icmp .le 7, 3) := by decide +kernel
theorem d2_190 : decode method_2_code 190 = .ok (.iconst 1, 1) := by decide +kernel
theorem d2_191 : decode method_2_code 191 = .ok (.goto 4, 3) := by decide +kernel
theorem d2_194 : decode method_2_code 194 = .ok (.iconst 0, 1) := by decide +kernel
theorem d2_195 : decode method_2_code 195 = .ok (.ireturn, 1) := by decide +kernel
theorem pn2 : plainName "com/example/triadne/triadne/TerminalsIsPnCharsBasePinLaw" = true := by first | (simp [plainName, overriddenIn]; done) | decide +kernel
theorem ef2 (m : MethodId) (q1 : Int32) : entryFrame m #[(.int q1)] 1 = mkF m 0 #[.val (.int q1)] [] := by first | (simp [entryFrame, mkF, argsToLocals, Value.category]; done) | rfl
def g2_187_1 (q1 : Int32) : Int32 := if (983039 : Int32) < q1 then (1 : Int32) else (0 : Int32)
def g2_j184 (q1 : Int32) : Int32 := (g2_187_1 q1)
def g2_179_2 (q1 : Int32) : Int32 := if (65535 : Int32) < q1 then (g2_j184 q1) else (1 : Int32)
def g2_173_3 (q1 : Int32) : Int32 := if q1 < (65534 : Int32) then (g2_j184 q1) else (g2_179_2 q1)
def g2_j170 (q1 : Int32) : Int32 := (g2_173_3 q1)
def g2_165_4 (q1 : Int32) : Int32 := if (65007 : Int32) < q1 then (g2_j170 q1) else (1 : Int32)
def g2_159_5 (q1 : Int32) : Int32 := if q1 < (64976 : Int32) then (g2_j170 q1) else (g2_165_4 q1)
def g2_j156 (q1 : Int32) : Int32 := (g2_159_5 q1)
def g2_151_6 (q1 : Int32) : Int32 := if (63743 : Int32) < q1 then (g2_j156 q1) else (1 : Int32)
def g2_145_7 (q1 : Int32) : Int32 := if q1 < (55296 : Int32) then (g2_j156 q1) else (g2_151_6 q1)
def g2_j142 (q1 : Int32) : Int32 := (g2_145_7 q1)
def g2_137_8 (q1 : Int32) : Int32 := if (12288 : Int32) < q1 then (g2_j142 q1) else (1 : Int32)
def g2_130_9 (q1 : Int32) : Int32 := if q1 < (12272 : Int32) then (g2_j142 q1) else (g2_137_8 q1)
def g2_j126 (q1 : Int32) : Int32 := (g2_130_9 q1)
def g2_121_10 (q1 : Int32) : Int32 := if (11263 : Int32) < q1 then (g2_j126 q1) else (1 : Int32)
def g2_114_11 (q1 : Int32) : Int32 := if q1 < (8592 : Int32) then (g2_j126 q1) else (g2_121_10 q1)
def g2_j110 (q1 : Int32) : Int32 := (g2_114_11 q1)
def g2_105_12 (q1 : Int32) : Int32 := if (8303 : Int32) < q1 then (g2_j110 q1) else (1 : Int32)
def g2_98_13 (q1 : Int32) : Int32 := if q1 < (8206 : Int32) then (g2_j110 q1) else (g2_105_12 q1)
def g2_j94 (q1 : Int32) : Int32 := (g2_98_13 q1)
def g2_89_14 (q1 : Int32) : Int32 := if (8203 : Int32) < q1 then (g2_j94 q1) else (1 : Int32)
def g2_82_15 (q1 : Int32) : Int32 := if q1 < (8192 : Int32) then (g2_j94 q1) else (g2_89_14 q1)
def g2_73_16 (q1 : Int32) : Int32 := if q1 = (894 : Int32) then (1 : Int32) else (g2_82_15 q1)
def g2_j69 (q1 : Int32) : Int32 := (g2_73_16 q1)
def g2_64_17 (q1 : Int32) : Int32 := if (879 : Int32) < q1 then (g2_j69 q1) else (1 : Int32)
def g2_57_18 (q1 : Int32) : Int32 := if q1 < (768 : Int32) then (g2_j69 q1) else (g2_64_17 q1)
def g2_48_19 (q1 : Int32) : Int32 := if q1 = (247 : Int32) then (1 : Int32) else (g2_57_18 q1)
def g2_41_20 (q1 : Int32) : Int32 := if q1 = (215 : Int32) then (1 : Int32) else (g2_48_19 q1)
def g2_j37 (q1 : Int32) : Int32 := (g2_41_20 q1)
def g2_32_21 (q1 : Int32) : Int32 := if (191 : Int32) < q1 then (g2_j37 q1) else (1 : Int32)
def g2_25_22 (q1 : Int32) : Int32 := if q1 < (123 : Int32) then (g2_j37 q1) else (g2_32_21 q1)
def g2_j22 (q1 : Int32) : Int32 := (g2_25_22 q1)
def g2_17_23 (q1 : Int32) : Int32 := if (96 : Int32) < q1 then (g2_j22 q1) else (1 : Int32)
def g2_11_24 (q1 : Int32) : Int32 := if q1 < (91 : Int32) then (g2_j22 q1) else (g2_17_23 q1)
def g2_3_25 (q1 : Int32) : Int32 := if q1 < (65 : Int32) then (1 : Int32) else (g2_11_24 q1)
def f2 (q1 : Int32) : Int32 := (g2_3_25 q1)
set_option maxRecDepth 65536 in
set_option maxHeartbeats 40000000 in
theorem rm2 (l : Launch) (Z : State) (a0 : Array Value) (hw : ∀ d ∈ tables_1, d.before a0 Z = true) (ws : List Jvm.Cond) (q1 : Int32) (h0 : Heap) (n0 : Nat) (Z0 : n0 ≤ h0.size) :
    MetFree l (⟨"com/example/triadne/triadne/TerminalsIsPnCharsBasePinLaw", "inGap", "(I)Z"⟩ : MethodName) (head1 (Jvm.Cond.code (⟨"com/example/triadne/triadne/TerminalsIsPnCharsBasePinLaw", "inGap", "(I)Z"⟩ : MethodName) method_2_code 1 (some .boolean) :: ws) ({ frames := 0, cells := 0, slots := 0, locals := 0 } : Room)) (fun a U => a = #[(.int q1)] ∧ Z.Warmed39 U.vm ∧ U.heap = h0) (fun _ _ _ _ _ => True) (fun _ U o U' => ∃ v L, o = .returned v ∧ PI n0 h0 (f2 q1) v U'.heap L ∧ FrameEnd U o U' L ({ frames := 0, cells := 0, slots := 0, locals := 0 } : Room).cells ({ frames := 0, cells := 0, slots := 0, locals := 0 } : Room).slots) := by
  refine MetFree.of_bodySF (plainFor_of_name pn2) hisR ?_
  intro p e s m args below meth c s₁ Bd hml0 hP hK
  obtain ⟨rfl, hZ, hh⟩ := hP
  have hx := Bd.exec
  have hby := Bd.bytes
  have hml : c.maxLocals = 1 := hml0
  have hown : s.vm.findClass "com/example/triadne/triadne/TerminalsIsPnCharsBasePinLaw" = some m.cls := findClass_of_methodNamed Bd.named
  have X0 : Stand p l e ({ frames := 0, cells := 0, slots := 0, locals := 0 } : Room) s m #[(.int q1)] below meth c s₁ [] 0 0 := Stand.of_body Bd
  have e0 : s₁.heap = h0 := by rw [← hh, Bd.state]; rfl
  have N0 := Fr.nil n0
  show OGo p e below (Out s ({ frames := 0, cells := 0, slots := 0, locals := 0 } : Room).cells ({ frames := 0, cells := 0, slots := 0, locals := 0 } : Room).slots (PI n0 h0 (f2 q1))) (s₁.setTop (entryFrame m #[(.int q1)] 1))
  have J184 : ∀ (T : State) (locs : List Loc) (X : Stand p l e ({ frames := 0, cells := 0, slots := 0, locals := 0 } : Room) s m #[(.int q1)] below meth c T locs 0 0) (eT : T.heap = h0) (N : Fr n0 locs), OGo p e below (Out s ({ frames := 0, cells := 0, slots := 0, locals := 0 } : Room).cells ({ frames := 0, cells := 0, slots := 0, locals := 0 } : Room).slots (PI n0 h0 (g2_j184 q1))) (T.setTop (mkF m 184 #[.val (.int q1)] [])) := by
    intro T locs X eT N
    show OGo p e below (Out s ({ frames := 0, cells := 0, slots := 0, locals := 0 } : Room).cells ({ frames := 0, cells := 0, slots := 0, locals := 0 } : Room).slots (PI n0 h0 (g2_187_1 q1))) (T.setTop (mkF m 184 #[.val (.int q1)] []))
    refine OGo.st (fun t k => XS.iloadN X.here hx rfl (hb hby d2_184) rfl k) ?_
    show OGo p e below _ (T.setTop (mkF m 185 #[.val (.int q1)] [(.int q1)]))
    refine OGo.st (fun t k => X.ldcInt hx hown (mvT hZ (hw _ (List.mem_of_getElem? (i := 7) rfl))) (g := (mkF m 185 #[.val (.int q1)] [(.int q1)])) rfl (hb hby d2_185) t k) ?_
    show OGo p e below _ (T.setTop (mkF m 187 #[.val (.int q1)] [(.int (983039 : Int32)), (.int q1)]))
    by_cases hc187_1 : (983039 : Int32) < q1
    · refine OGo.eqvI (show (g2_187_1 q1) = (1 : Int32) from if_pos hc187_1) ?_
      refine OGo.st (fun t k => XS.icmpNo X.here hx rfl (hb hby d2_187) rfl (tlt hc187_1).2.2.2 k) ?_
      show OGo p e below _ (T.setTop (mkF m 190 #[.val (.int q1)] []))
      refine OGo.st (fun t k => XS.iconst X.here hx rfl (hb hby d2_190) k) ?_
      show OGo p e below _ (T.setTop (mkF m 191 #[.val (.int q1)] [(.int (1 : Int32))]))
      refine OGo.st (fun t k => XS.goto X.here hx rfl (pc0 := 191) (pc' := 195) rfl (hb hby d2_191) (by decide) (by decide) k) ?_
      show OGo p e below _ (T.setTop (mkF m 195 #[.val (.int q1)] [(.int (1 : Int32))]))
      exact OGo.outN X hx (t := .boolean) Bd.returns (by simp) Bd.notSynchronized (hb hby d2_195) ⟨rfl, N, eT⟩ (by decide) (by decide)
    · refine OGo.eqvI (show (g2_187_1 q1) = (0 : Int32) from if_neg hc187_1) ?_
      refine OGo.st (fun t k => XS.icmpYes X.here hx rfl (pc0 := 187) (pc' := 194) rfl (hb hby d2_187) rfl (flt hc187_1).2.2.2 (by decide) (by decide) k) ?_
      show OGo p e below _ (T.setTop (mkF m 194 #[.val (.int q1)] []))
      refine OGo.st (fun t k => XS.iconst X.here hx rfl (hb hby d2_194) k) ?_
      show OGo p e below _ (T.setTop (mkF m 195 #[.val (.int q1)] [(.int (0 : Int32))]))
      exact OGo.outN X hx (t := .boolean) Bd.returns (by simp) Bd.notSynchronized (hb hby d2_195) ⟨rfl, N, eT⟩ (by decide) (by decide)
  have J170 : ∀ (T : State) (locs : List Loc) (X : Stand p l e ({ frames := 0, cells := 0, slots := 0, locals := 0 } : Room) s m #[(.int q1)] below meth c T locs 0 0) (eT : T.heap = h0) (N : Fr n0 locs), OGo p e below (Out s ({ frames := 0, cells := 0, slots := 0, locals := 0 } : Room).cells ({ frames := 0, cells := 0, slots := 0, locals := 0 } : Room).slots (PI n0 h0 (g2_j170 q1))) (T.setTop (mkF m 170 #[.val (.int q1)] [])) := by
    intro T locs X eT N
    show OGo p e below (Out s ({ frames := 0, cells := 0, slots := 0, locals := 0 } : Room).cells ({ frames := 0, cells := 0, slots := 0, locals := 0 } : Room).slots (PI n0 h0 (g2_173_3 q1))) (T.setTop (mkF m 170 #[.val (.int q1)] []))
    refine OGo.st (fun t k => XS.iloadN X.here hx rfl (hb hby d2_170) rfl k) ?_
    show OGo p e below _ (T.setTop (mkF m 171 #[.val (.int q1)] [(.int q1)]))
    refine OGo.st (fun t k => X.ldcInt hx hown (mvT hZ (hw _ (List.mem_of_getElem? (i := 22) rfl))) (g := (mkF m 171 #[.val (.int q1)] [(.int q1)])) rfl (hb hby d2_171) t k) ?_
    show OGo p e below _ (T.setTop (mkF m 173 #[.val (.int q1)] [(.int (65534 : Int32)), (.int q1)]))
    by_cases hc173_2 : q1 < (65534 : Int32)
    · refine OGo.eqvI (show (g2_173_3 q1) = (g2_j184 q1) from if_pos hc173_2) ?_
      refine OGo.st (fun t k => XS.icmpYes X.here hx rfl (pc0 := 173) (pc' := 184) rfl (hb hby d2_173) rfl (tlt hc173_2).1 (by decide) (by decide) k) ?_
      show OGo p e below _ (T.setTop (mkF m 184 #[.val (.int q1)] []))
      exact J184 T _ X eT N 
    · refine OGo.eqvI (show (g2_173_3 q1) = (g2_179_2 q1) from if_neg hc173_2) ?_
      refine OGo.st (fun t k => XS.icmpNo X.here hx rfl (hb hby d2_173) rfl (flt hc173_2).1 k) ?_
      show OGo p e below _ (T.setTop (mkF m 176 #[.val (.int q1)] []))
      refine OGo.st (fun t k => XS.iloadN X.here hx rfl (hb hby d2_176) rfl k) ?_
      show OGo p e below _ (T.setTop (mkF m 177 #[.val (.int q1)] [(.int q1)]))
      refine OGo.st (fun t k => X.ldcInt hx hown (mvT hZ (hw _ (List.mem_of_getElem? (i := 29) rfl))) (g := (mkF m 177 #[.val (.int q1)] [(.int q1)])) rfl (hb hby d2_177) t k) ?_
      show OGo p e below _ (T.setTop (mkF m 179 #[.val (.int q1)] [(.int (65535 : Int32)), (.int q1)]))
      by_cases hc179_3 : (65535 : Int32) < q1
      · refine OGo.eqvI (show (g2_179_2 q1) = (g2_j184 q1) from if_pos hc179_3) ?_
        refine OGo.st (fun t k => XS.icmpYes X.here hx rfl (pc0 := 179) (pc' := 184) rfl (hb hby d2_179) rfl (tlt hc179_3).2.2.1 (by decide) (by decide) k) ?_
        show OGo p e below _ (T.setTop (mkF m 184 #[.val (.int q1)] []))
        exact J184 T _ X eT N 
      · refine OGo.eqvI (show (g2_179_2 q1) = (1 : Int32) from if_neg hc179_3) ?_
        refine OGo.st (fun t k => XS.icmpNo X.here hx rfl (hb hby d2_179) rfl (flt hc179_3).2.2.1 k) ?_
        show OGo p e below _ (T.setTop (mkF m 182 #[.val (.int q1)] []))
        refine OGo.st (fun t k => XS.iconst X.here hx rfl (hb hby d2_182) k) ?_
        show OGo p e below _ (T.setTop (mkF m 183 #[.val (.int q1)] [(.int (1 : Int32))]))
        exact OGo.outN X hx (t := .boolean) Bd.returns (by simp) Bd.notSynchronized (hb hby d2_183) ⟨rfl, N, eT⟩ (by decide) (by decide)
  have J156 : ∀ (T : State) (locs : List Loc) (X : Stand p l e ({ frames := 0, cells := 0, slots := 0, locals := 0 } : Room) s m #[(.int q1)] below meth c T locs 0 0) (eT : T.heap = h0) (N : Fr n0 locs), OGo p e below (Out s ({ frames := 0, cells := 0, slots := 0, locals := 0 } : Room).cells ({ frames := 0, cells := 0, slots := 0, locals := 0 } : Room).slots (PI n0 h0 (g2_j156 q1))) (T.setTop (mkF m 156 #[.val (.int q1)] [])) := by
    intro T locs X eT N
    show OGo p e below (Out s ({ frames := 0, cells := 0, slots := 0, locals := 0 } : Room).cells ({ frames := 0, cells := 0, slots := 0, locals := 0 } : Room).slots (PI n0 h0 (g2_159_5 q1))) (T.setTop (mkF m 156 #[.val (.int q1)] []))
    refine OGo.st (fun t k => XS.iloadN X.here hx rfl (hb hby d2_156) rfl k) ?_
    show OGo p e below _ (T.setTop (mkF m 157 #[.val (.int q1)] [(.int q1)]))
    refine OGo.st (fun t k => X.ldcInt hx hown (mvT hZ (hw _ (List.mem_of_getElem? (i := 21) rfl))) (g := (mkF m 157 #[.val (.int q1)] [(.int q1)])) rfl (hb hby d2_157) t k) ?_
    show OGo p e below _ (T.setTop (mkF m 159 #[.val (.int q1)] [(.int (64976 : Int32)), (.int q1)]))
    by_cases hc159_4 : q1 < (64976 : Int32)
    · refine OGo.eqvI (show (g2_159_5 q1) = (g2_j170 q1) from if_pos hc159_4) ?_
      refine OGo.st (fun t k => XS.icmpYes X.here hx rfl (pc0 := 159) (pc' := 170) rfl (hb hby d2_159) rfl (tlt hc159_4).1 (by decide) (by decide) k) ?_
      show OGo p e below _ (T.setTop (mkF m 170 #[.val (.int q1)] []))
      exact J170 T _ X eT N 
    · refine OGo.eqvI (show (g2_159_5 q1) = (g2_165_4 q1) from if_neg hc159_4) ?_
      refine OGo.st (fun t k => XS.icmpNo X.here hx rfl (hb hby d2_159) rfl (flt hc159_4).1 k) ?_
      show OGo p e below _ (T.setTop (mkF m 162 #[.val (.int q1)] []))
      refine OGo.st (fun t k => XS.iloadN X.here hx rfl (hb hby d2_162) rfl k) ?_
      show OGo p e below _ (T.setTop (mkF m 163 #[.val (.int q1)] [(.int q1)]))
      refine OGo.st (fun t k => X.ldcInt hx hown (mvT hZ (hw _ (List.mem_of_getElem? (i := 28) rfl))) (g := (mkF m 163 #[.val (.int q1)] [(.int q1)])) rfl (hb hby d2_163) t k) ?_
      show OGo p e below _ (T.setTop (mkF m 165 #[.val (.int q1)] [(.int (65007 : Int32)), (.int q1)]))
      by_cases hc165_5 : (65007 : Int32) < q1
      · refine OGo.eqvI (show (g2_165_4 q1) = (g2_j170 q1) from if_pos hc165_5) ?_
        refine OGo.st (fun t k => XS.icmpYes X.here hx rfl (pc0 := 165) (pc' := 170) rfl (hb hby d2_165) rfl (tlt hc165_5).2.2.1 (by decide) (by decide) k) ?_
        show OGo p e below _ (T.setTop (mkF m 170 #[.val (.int q1)] []))
        exact J170 T _ X eT N 
      · refine OGo.eqvI (show (g2_165_4 q1) = (1 : Int32) from if_neg hc165_5) ?_
        refine OGo.st (fun t k => XS.icmpNo X.here hx rfl (hb hby d2_165) rfl (flt hc165_5).2.2.1 k) ?_
        show OGo p e below _ (T.setTop (mkF m 168 #[.val (.int q1)] []))
        refine OGo.st (fun t k => XS.iconst X.here hx rfl (hb hby d2_168) k) ?_
        show OGo p e below _ (T.setTop (mkF m 169 #[.val (.int q1)] [(.int (1 : Int32))]))
        exact OGo.outN X hx (t := .boolean) Bd.returns (by simp) Bd.notSynchronized (hb hby d2_169) ⟨rfl, N, eT⟩ (by decide) (by decide)
  have J142 : ∀ (T : State) (locs : List Loc) (X : Stand p l e ({ frames := 0, cells := 0, slots := 0, locals := 0 } : Room) s m #[(.int q1)] below meth c T locs 0 0) (eT : T.heap = h0) (N : Fr n0 locs), OGo p e below (Out s ({ frames := 0, cells := 0, slots := 0, locals := 0 } : Room).cells ({ frames := 0, cells := 0, slots := 0, locals := 0 } : Room).slots (PI n0 h0 (g2_j142 q1))) (T.setTop (mkF m 142 #[.val (.int q1)] [])) := by
    intro T locs X eT N
    show OGo p e below (Out s ({ frames := 0, cells := 0, slots := 0, locals := 0 } : Room).cells ({ frames := 0, cells := 0, slots := 0, locals := 0 } : Room).slots (PI n0 h0 (g2_145_7 q1))) (T.setTop (mkF m 142 #[.val (.int q1)] []))
    refine OGo.st (fun t k => XS.iloadN X.here hx rfl (hb hby d2_142) rfl k) ?_
    show OGo p e below _ (T.setTop (mkF m 143 #[.val (.int q1)] [(.int q1)]))
    refine OGo.st (fun t k => X.ldcInt hx hown (mvT hZ (hw _ (List.mem_of_getElem? (i := 20) rfl))) (g := (mkF m 143 #[.val (.int q1)] [(.int q1)])) rfl (hb hby d2_143) t k) ?_
    show OGo p e below _ (T.setTop (mkF m 145 #[.val (.int q1)] [(.int (55296 : Int32)), (.int q1)]))
    by_cases hc145_6 : q1 < (55296 : Int32)
    · refine OGo.eqvI (show (g2_145_7 q1) = (g2_j156 q1) from if_pos hc145_6) ?_
      refine OGo.st (fun t k => XS.icmpYes X.here hx rfl (pc0 := 145) (pc' := 156) rfl (hb hby d2_145) rfl (tlt hc145_6).1 (by decide) (by decide) k) ?_
      show OGo p e below _ (T.setTop (mkF m 156 #[.val (.int q1)] []))
      exact J156 T _ X eT N 
    · refine OGo.eqvI (show (g2_145_7 q1) = (g2_151_6 q1) from if_neg hc145_6) ?_
      refine OGo.st (fun t k => XS.icmpNo X.here hx rfl (hb hby d2_145) rfl (flt hc145_6).1 k) ?_
      show OGo p e below _ (T.setTop (mkF m 148 #[.val (.int q1)] []))
      refine OGo.st (fun t k => XS.iloadN X.here hx rfl (hb hby d2_148) rfl k) ?_
      show OGo p e below _ (T.setTop (mkF m 149 #[.val (.int q1)] [(.int q1)]))
      refine OGo.st (fun t k => X.ldcInt hx hown (mvT hZ (hw _ (List.mem_of_getElem? (i := 27) rfl))) (g := (mkF m 149 #[.val (.int q1)] [(.int q1)])) rfl (hb hby d2_149) t k) ?_
      show OGo p e below _ (T.setTop (mkF m 151 #[.val (.int q1)] [(.int (63743 : Int32)), (.int q1)]))
      by_cases hc151_7 : (63743 : Int32) < q1
      · refine OGo.eqvI (show (g2_151_6 q1) = (g2_j156 q1) from if_pos hc151_7) ?_
        refine OGo.st (fun t k => XS.icmpYes X.here hx rfl (pc0 := 151) (pc' := 156) rfl (hb hby d2_151) rfl (tlt hc151_7).2.2.1 (by decide) (by decide) k) ?_
        show OGo p e below _ (T.setTop (mkF m 156 #[.val (.int q1)] []))
        exact J156 T _ X eT N 
      · refine OGo.eqvI (show (g2_151_6 q1) = (1 : Int32) from if_neg hc151_7) ?_
        refine OGo.st (fun t k => XS.icmpNo X.here hx rfl (hb hby d2_151) rfl (flt hc151_7).2.2.1 k) ?_
        show OGo p e below _ (T.setTop (mkF m 154 #[.val (.int q1)] []))
        refine OGo.st (fun t k => XS.iconst X.here hx rfl (hb hby d2_154) k) ?_
        show OGo p e below _ (T.setTop (mkF m 155 #[.val (.int q1)] [(.int (1 : Int32))]))
        exact OGo.outN X hx (t := .boolean) Bd.returns (by simp) Bd.notSynchronized (hb hby d2_155) ⟨rfl, N, eT⟩ (by decide) (by decide)
  have J126 : ∀ (T : State) (locs : List Loc) (X : Stand p l e ({ frames := 0, cells := 0, slots := 0, locals := 0 } : Room) s m #[(.int q1)] below meth c T locs 0 0) (eT : T.heap = h0) (N : Fr n0 locs), OGo p e below (Out s ({ frames := 0, cells := 0, slots := 0, locals := 0 } : Room).cells ({ frames := 0, cells := 0, slots := 0, locals := 0 } : Room).slots (PI n0 h0 (g2_j126 q1))) (T.setTop (mkF m 126 #[.val (.int q1)] [])) := by
    intro T locs X eT N
    show OGo p e below (Out s ({ frames := 0, cells := 0, slots := 0, locals := 0 } : Room).cells ({ frames := 0, cells := 0, slots := 0, locals := 0 } : Room).slots (PI n0 h0 (g2_130_9 q1))) (T.setTop (mkF m 126 #[.val (.int q1)] []))
    refine OGo.st (fun t k => XS.iloadN X.here hx rfl (hb hby d2_126) rfl k) ?_
    show OGo p e below _ (T.setTop (mkF m 127 #[.val (.int q1)] [(.int q1)]))
    refine OGo.st (fun t k => XS.sipush X.here hx rfl (hb hby d2_127) k) ?_
    show OGo p e below _ (T.setTop (mkF m 130 #[.val (.int q1)] [(.int (12272 : Int32)), (.int q1)]))
    by_cases hc130_8 : q1 < (12272 : Int32)
    · refine OGo.eqvI (show (g2_130_9 q1) = (g2_j142 q1) from if_pos hc130_8) ?_
      refine OGo.st (fun t k => XS.icmpYes X.here hx rfl (pc0 := 130) (pc' := 142) rfl (hb hby d2_130) rfl (tlt hc130_8).1 (by decide) (by decide) k) ?_
      show OGo p e below _ (T.setTop (mkF m 142 #[.val (.int q1)] []))
      exact J142 T _ X eT N 
    · refine OGo.eqvI (show (g2_130_9 q1) = (g2_137_8 q1) from if_neg hc130_8) ?_
      refine OGo.st (fun t k => XS.icmpNo X.here hx rfl (hb hby d2_130) rfl (flt hc130_8).1 k) ?_
      show OGo p e below _ (T.setTop (mkF m 133 #[.val (.int q1)] []))
      refine OGo.st (fun t k => XS.iloadN X.here hx rfl (hb hby d2_133) rfl k) ?_
      show OGo p e below _ (T.setTop (mkF m 134 #[.val (.int q1)] [(.int q1)]))
      refine OGo.st (fun t k => XS.sipush X.here hx rfl (hb hby d2_134) k) ?_
      show OGo p e below _ (T.setTop (mkF m 137 #[.val (.int q1)] [(.int (12288 : Int32)), (.int q1)]))
      by_cases hc137_9 : (12288 : Int32) < q1
      · refine OGo.eqvI (show (g2_137_8 q1) = (g2_j142 q1) from if_pos hc137_9) ?_
        refine OGo.st (fun t k => XS.icmpYes X.here hx rfl (pc0 := 137) (pc' := 142) rfl (hb hby d2_137) rfl (tlt hc137_9).2.2.1 (by decide) (by decide) k) ?_
        show OGo p e below _ (T.setTop (mkF m 142 #[.val (.int q1)] []))
        exact J142 T _ X eT N 
      · refine OGo.eqvI (show (g2_137_8 q1) = (1 : Int32) from if_neg hc137_9) ?_
        refine OGo.st (fun t k => XS.icmpNo X.here hx rfl (hb hby d2_137) rfl (flt hc137_9).2.2.1 k) ?_
        show OGo p e below _ (T.setTop (mkF m 140 #[.val (.int q1)] []))
        refine OGo.st (fun t k => XS.iconst X.here hx rfl (hb hby d2_140) k) ?_
        show OGo p e below _ (T.setTop (mkF m 141 #[.val (.int q1)] [(.int (1 : Int32))]))
        exact OGo.outN X hx (t := .boolean) Bd.returns (by simp) Bd.notSynchronized (hb hby d2_141) ⟨rfl, N, eT⟩ (by decide) (by decide)
  have J110 : ∀ (T : State) (locs : List Loc) (X : Stand p l e ({ frames := 0, cells := 0, slots := 0, locals := 0 } : Room) s m #[(.int q1)] below meth c T locs 0 0) (eT : T.heap = h0) (N : Fr n0 locs), OGo p e below (Out s ({ frames := 0, cells := 0, slots := 0, locals := 0 } : Room).cells ({ frames := 0, cells := 0, slots := 0, locals := 0 } : Room).slots (PI n0 h0 (g2_j110 q1))) (T.setTop (mkF m 110 #[.val (.int q1)] [])) := by
    intro T locs X eT N
    show OGo p e below (Out s ({ frames := 0, cells := 0, slots := 0, locals := 0 } : Room).cells ({ frames := 0, cells := 0, slots := 0, locals := 0 } : Room).slots (PI n0 h0 (g2_114_11 q1))) (T.setTop (mkF m 110 #[.val (.int q1)] []))
    refine OGo.st (fun t k => XS.iloadN X.here hx rfl (hb hby d2_110) rfl k) ?_
    show OGo p e below _ (T.setTop (mkF m 111 #[.val (.int q1)] [(.int q1)]))
    refine OGo.st (fun t k => XS.sipush X.here hx rfl (hb hby d2_111) k) ?_
    show OGo p e below _ (T.setTop (mkF m 114 #[.val (.int q1)] [(.int (8592 : Int32)), (.int q1)]))
    by_cases hc114_10 : q1 < (8592 : Int32)
    · refine OGo.eqvI (show (g2_114_11 q1) = (g2_j126 q1) from if_pos hc114_10) ?_
      refine OGo.st (fun t k => XS.icmpYes X.here hx rfl (pc0 := 114) (pc' := 126) rfl (hb hby d2_114) rfl (tlt hc114_10).1 (by decide) (by decide) k) ?_
      show OGo p e below _ (T.setTop (mkF m 126 #[.val (.int q1)] []))
      exact J126 T _ X eT N 
    · refine OGo.eqvI (show (g2_114_11 q1) = (g2_121_10 q1) from if_neg hc114_10) ?_
      refine OGo.st (fun t k => XS.icmpNo X.here hx rfl (hb hby d2_114) rfl (flt hc114_10).1 k) ?_
      show OGo p e below _ (T.setTop (mkF m 117 #[.val (.int q1)] []))
      refine OGo.st (fun t k => XS.iloadN X.here hx rfl (hb hby d2_117) rfl k) ?_
      show OGo p e below _ (T.setTop (mkF m 118 #[.val (.int q1)] [(.int q1)]))
      refine OGo.st (fun t k => XS.sipush X.here hx rfl (hb hby d2_118) k) ?_
      show OGo p e below _ (T.setTop (mkF m 121 #[.val (.int q1)] [(.int (11263 : Int32)), (.int q1)]))
      by_cases hc121_11 : (11263 : Int32) < q1
      · refine OGo.eqvI (show (g2_121_10 q1) = (g2_j126 q1) from if_pos hc121_11) ?_
        refine OGo.st (fun t k => XS.icmpYes X.here hx rfl (pc0 := 121) (pc' := 126) rfl (hb hby d2_121) rfl (tlt hc121_11).2.2.1 (by decide) (by decide) k) ?_
        show OGo p e below _ (T.setTop (mkF m 126 #[.val (.int q1)] []))
        exact J126 T _ X eT N 
      · refine OGo.eqvI (show (g2_121_10 q1) = (1 : Int32) from if_neg hc121_11) ?_
        refine OGo.st (fun t k => XS.icmpNo X.here hx rfl (hb hby d2_121) rfl (flt hc121_11).2.2.1 k) ?_
        show OGo p e below _ (T.setTop (mkF m 124 #[.val (.int q1)] []))
        refine OGo.st (fun t k => XS.iconst X.here hx rfl (hb hby d2_124) k) ?_
        show OGo p e below _ (T.setTop (mkF m 125 #[.val (.int q1)] [(.int (1 : Int32))]))
        exact OGo.outN X hx (t := .boolean) Bd.returns (by simp) Bd.notSynchronized (hb hby d2_125) ⟨rfl, N, eT⟩ (by decide) (by decide)
  have J94 : ∀ (T : State) (locs : List Loc) (X : Stand p l e ({ frames := 0, cells := 0, slots := 0, locals := 0 } : Room) s m #[(.int q1)] below meth c T locs 0 0) (eT : T.heap = h0) (N : Fr n0 locs), OGo p e below (Out s ({ frames := 0, cells := 0, slots := 0, locals := 0 } : Room).cells ({ frames := 0, cells := 0, slots := 0, locals := 0 } : Room).slots (PI n0 h0 (g2_j94 q1))) (T.setTop (mkF m 94 #[.val (.int q1)] [])) := by
    intro T locs X eT N
    show OGo p e below (Out s ({ frames := 0, cells := 0, slots := 0, locals := 0 } : Room).cells ({ frames := 0, cells := 0, slots := 0, locals := 0 } : Room).slots (PI n0 h0 (g2_98_13 q1))) (T.setTop (mkF m 94 #[.val (.int q1)] []))
    refine OGo.st (fun t k => XS.iloadN X.here hx rfl (hb hby d2_94) rfl k) ?_
    show OGo p e below _ (T.setTop (mkF m 95 #[.val (.int q1)] [(.int q1)]))
    refine OGo.st (fun t k => XS.sipush X.here hx rfl (hb hby d2_95) k) ?_
    show OGo p e below _ (T.setTop (mkF m 98 #[.val (.int q1)] [(.int (8206 : Int32)), (.int q1)]))
    by_cases hc98_12 : q1 < (8206 : Int32)
    · refine OGo.eqvI (show (g2_98_13 q1) = (g2_j110 q1) from if_pos hc98_12) ?_
      refine OGo.st (fun t k => XS.icmpYes X.here hx rfl (pc0 := 98) (pc' := 110) rfl (hb hby d2_98) rfl (tlt hc98_12).1 (by decide) (by decide) k) ?_
      show OGo p e below _ (T.setTop (mkF m 110 #[.val (.int q1)] []))
      exact J110 T _ X eT N 
    · refine OGo.eqvI (show (g2_98_13 q1) = (g2_105_12 q1) from if_neg hc98_12) ?_
      refine OGo.st (fun t k => XS.icmpNo X.here hx rfl (hb hby d2_98) rfl (flt hc98_12).1 k) ?_
      show OGo p e below _ (T.setTop (mkF m 101 #[.val (.int q1)] []))
      refine OGo.st (fun t k => XS.iloadN X.here hx rfl (hb hby d2_101) rfl k) ?_
      show OGo p e below _ (T.setTop (mkF m 102 #[.val (.int q1)] [(.int q1)]))
      refine OGo.st (fun t k => XS.sipush X.here hx rfl (hb hby d2_102) k) ?_
      show OGo p e below _ (T.setTop (mkF m 105 #[.val (.int q1)] [(.int (8303 : Int32)), (.int q1)]))
      by_cases hc105_13 : (8303 : Int32) < q1
      · refine OGo.eqvI (show (g2_105_12 q1) = (g2_j110 q1) from if_pos hc105_13) ?_
        refine OGo.st (fun t k => XS.icmpYes X.here hx rfl (pc0 := 105) (pc' := 110) rfl (hb hby d2_105) rfl (tlt hc105_13).2.2.1 (by decide) (by decide) k) ?_
        show OGo p e below _ (T.setTop (mkF m 110 #[.val (.int q1)] []))
        exact J110 T _ X eT N 
      · refine OGo.eqvI (show (g2_105_12 q1) = (1 : Int32) from if_neg hc105_13) ?_
        refine OGo.st (fun t k => XS.icmpNo X.here hx rfl (hb hby d2_105) rfl (flt hc105_13).2.2.1 k) ?_
        show OGo p e below _ (T.setTop (mkF m 108 #[.val (.int q1)] []))
        refine OGo.st (fun t k => XS.iconst X.here hx rfl (hb hby d2_108) k) ?_
        show OGo p e below _ (T.setTop (mkF m 109 #[.val (.int q1)] [(.int (1 : Int32))]))
        exact OGo.outN X hx (t := .boolean) Bd.returns (by simp) Bd.notSynchronized (hb hby d2_109) ⟨rfl, N, eT⟩ (by decide) (by decide)
  have J69 : ∀ (T : State) (locs : List Loc) (X : Stand p l e ({ frames := 0, cells := 0, slots := 0, locals := 0 } : Room) s m #[(.int q1)] below meth c T locs 0 0) (eT : T.heap = h0) (N : Fr n0 locs), OGo p e below (Out s ({ frames := 0, cells := 0, slots := 0, locals := 0 } : Room).cells ({ frames := 0, cells := 0, slots := 0, locals := 0 } : Room).slots (PI n0 h0 (g2_j69 q1))) (T.setTop (mkF m 69 #[.val (.int q1)] [])) := by
    intro T locs X eT N
    show OGo p e below (Out s ({ frames := 0, cells := 0, slots := 0, locals := 0 } : Room).cells ({ frames := 0, cells := 0, slots := 0, locals := 0 } : Room).slots (PI n0 h0 (g2_73_16 q1))) (T.setTop (mkF m 69 #[.val (.int q1)] []))
    refine OGo.st (fun t k => XS.iloadN X.here hx rfl (hb hby d2_69) rfl k) ?_
    show OGo p e below _ (T.setTop (mkF m 70 #[.val (.int q1)] [(.int q1)]))
    refine OGo.st (fun t k => XS.sipush X.here hx rfl (hb hby d2_70) k) ?_
    show OGo p e below _ (T.setTop (mkF m 73 #[.val (.int q1)] [(.int (894 : Int32)), (.int q1)]))
    by_cases hc73_14 : q1 = (894 : Int32)
    · refine OGo.eqvI (show (g2_73_16 q1) = (1 : Int32) from if_pos hc73_14) ?_
      refine OGo.st (fun t k => XS.icmpNo X.here hx rfl (hb hby d2_73) rfl (teq hc73_14).2 k) ?_
      show OGo p e below _ (T.setTop (mkF m 76 #[.val (.int q1)] []))
      refine OGo.st (fun t k => XS.iconst X.here hx rfl (hb hby d2_76) k) ?_
      show OGo p e below _ (T.setTop (mkF m 77 #[.val (.int q1)] [(.int (1 : Int32))]))
      exact OGo.outN X hx (t := .boolean) Bd.returns (by simp) Bd.notSynchronized (hb hby d2_77) ⟨rfl, N, eT⟩ (by decide) (by decide)
    · refine OGo.eqvI (show (g2_73_16 q1) = (g2_82_15 q1) from if_neg hc73_14) ?_
      refine OGo.st (fun t k => XS.icmpYes X.here hx rfl (pc0 := 73) (pc' := 78) rfl (hb hby d2_73) rfl (feq hc73_14).2 (by decide) (by decide) k) ?_
      show OGo p e below _ (T.setTop (mkF m 78 #[.val (.int q1)] []))
      refine OGo.st (fun t k => XS.iloadN X.here hx rfl (hb hby d2_78) rfl k) ?_
      show OGo p e below _ (T.setTop (mkF m 79 #[.val (.int q1)] [(.int q1)]))
      refine OGo.st (fun t k => XS.sipush X.here hx rfl (hb hby d2_79) k) ?_
      show OGo p e below _ (T.setTop (mkF m 82 #[.val (.int q1)] [(.int (8192 : Int32)), (.int q1)]))
      by_cases hc82_15 : q1 < (8192 : Int32)
      · refine OGo.eqvI (show (g2_82_15 q1) = (g2_j94 q1) from if_pos hc82_15) ?_
        refine OGo.st (fun t k => XS.icmpYes X.here hx rfl (pc0 := 82) (pc' := 94) rfl (hb hby d2_82) rfl (tlt hc82_15).1 (by decide) (by decide) k) ?_
        show OGo p e below _ (T.setTop (mkF m 94 #[.val (.int q1)] []))
        exact J94 T _ X eT N 
      · refine OGo.eqvI (show (g2_82_15 q1) = (g2_89_14 q1) from if_neg hc82_15) ?_
        refine OGo.st (fun t k => XS.icmpNo X.here hx rfl (hb hby d2_82) rfl (flt hc82_15).1 k) ?_
        show OGo p e below _ (T.setTop (mkF m 85 #[.val (.int q1)] []))
        refine OGo.st (fun t k => XS.iloadN X.here hx rfl (hb hby d2_85) rfl k) ?_
        show OGo p e below _ (T.setTop (mkF m 86 #[.val (.int q1)] [(.int q1)]))
        refine OGo.st (fun t k => XS.sipush X.here hx rfl (hb hby d2_86) k) ?_
        show OGo p e below _ (T.setTop (mkF m 89 #[.val (.int q1)] [(.int (8203 : Int32)), (.int q1)]))
        by_cases hc89_16 : (8203 : Int32) < q1
        · refine OGo.eqvI (show (g2_89_14 q1) = (g2_j94 q1) from if_pos hc89_16) ?_
          refine OGo.st (fun t k => XS.icmpYes X.here hx rfl (pc0 := 89) (pc' := 94) rfl (hb hby d2_89) rfl (tlt hc89_16).2.2.1 (by decide) (by decide) k) ?_
          show OGo p e below _ (T.setTop (mkF m 94 #[.val (.int q1)] []))
          exact J94 T _ X eT N 
        · refine OGo.eqvI (show (g2_89_14 q1) = (1 : Int32) from if_neg hc89_16) ?_
          refine OGo.st (fun t k => XS.icmpNo X.here hx rfl (hb hby d2_89) rfl (flt hc89_16).2.2.1 k) ?_
          show OGo p e below _ (T.setTop (mkF m 92 #[.val (.int q1)] []))
          refine OGo.st (fun t k => XS.iconst X.here hx rfl (hb hby d2_92) k) ?_
          show OGo p e below _ (T.setTop (mkF m 93 #[.val (.int q1)] [(.int (1 : Int32))]))
          exact OGo.outN X hx (t := .boolean) Bd.returns (by simp) Bd.notSynchronized (hb hby d2_93) ⟨rfl, N, eT⟩ (by decide) (by decide)
  have J37 : ∀ (T : State) (locs : List Loc) (X : Stand p l e ({ frames := 0, cells := 0, slots := 0, locals := 0 } : Room) s m #[(.int q1)] below meth c T locs 0 0) (eT : T.heap = h0) (N : Fr n0 locs), OGo p e below (Out s ({ frames := 0, cells := 0, slots := 0, locals := 0 } : Room).cells ({ frames := 0, cells := 0, slots := 0, locals := 0 } : Room).slots (PI n0 h0 (g2_j37 q1))) (T.setTop (mkF m 37 #[.val (.int q1)] [])) := by
    intro T locs X eT N
    show OGo p e below (Out s ({ frames := 0, cells := 0, slots := 0, locals := 0 } : Room).cells ({ frames := 0, cells := 0, slots := 0, locals := 0 } : Room).slots (PI n0 h0 (g2_41_20 q1))) (T.setTop (mkF m 37 #[.val (.int q1)] []))
    refine OGo.st (fun t k => XS.iloadN X.here hx rfl (hb hby d2_37) rfl k) ?_
    show OGo p e below _ (T.setTop (mkF m 38 #[.val (.int q1)] [(.int q1)]))
    refine OGo.st (fun t k => XS.sipush X.here hx rfl (hb hby d2_38) k) ?_
    show OGo p e below _ (T.setTop (mkF m 41 #[.val (.int q1)] [(.int (215 : Int32)), (.int q1)]))
    by_cases hc41_17 : q1 = (215 : Int32)
    · refine OGo.eqvI (show (g2_41_20 q1) = (1 : Int32) from if_pos hc41_17) ?_
      refine OGo.st (fun t k => XS.icmpYes X.here hx rfl (pc0 := 41) (pc' := 51) rfl (hb hby d2_41) rfl (teq hc41_17).1 (by decide) (by decide) k) ?_
      show OGo p e below _ (T.setTop (mkF m 51 #[.val (.int q1)] []))
      refine OGo.st (fun t k => XS.iconst X.here hx rfl (hb hby d2_51) k) ?_
      show OGo p e below _ (T.setTop (mkF m 52 #[.val (.int q1)] [(.int (1 : Int32))]))
      exact OGo.outN X hx (t := .boolean) Bd.returns (by simp) Bd.notSynchronized (hb hby d2_52) ⟨rfl, N, eT⟩ (by decide) (by decide)
    · refine OGo.eqvI (show (g2_41_20 q1) = (g2_48_19 q1) from if_neg hc41_17) ?_
      refine OGo.st (fun t k => XS.icmpNo X.here hx rfl (hb hby d2_41) rfl (feq hc41_17).1 k) ?_
      show OGo p e below _ (T.setTop (mkF m 44 #[.val (.int q1)] []))
      refine OGo.st (fun t k => XS.iloadN X.here hx rfl (hb hby d2_44) rfl k) ?_
      show OGo p e below _ (T.setTop (mkF m 45 #[.val (.int q1)] [(.int q1)]))
      refine OGo.st (fun t k => XS.sipush X.here hx rfl (hb hby d2_45) k) ?_
      show OGo p e below _ (T.setTop (mkF m 48 #[.val (.int q1)] [(.int (247 : Int32)), (.int q1)]))
      by_cases hc48_18 : q1 = (247 : Int32)
      · refine OGo.eqvI (show (g2_48_19 q1) = (1 : Int32) from if_pos hc48_18) ?_
        refine OGo.st (fun t k => XS.icmpNo X.here hx rfl (hb hby d2_48) rfl (teq hc48_18).2 k) ?_
        show OGo p e below _ (T.setTop (mkF m 51 #[.val (.int q1)] []))
        refine OGo.st (fun t k => XS.iconst X.here hx rfl (hb hby d2_51) k) ?_
        show OGo p e below _ (T.setTop (mkF m 52 #[.val (.int q1)] [(.int (1 : Int32))]))
        exact OGo.outN X hx (t := .boolean) Bd.returns (by simp) Bd.notSynchronized (hb hby d2_52) ⟨rfl, N, eT⟩ (by decide) (by decide)
      · refine OGo.eqvI (show (g2_48_19 q1) = (g2_57_18 q1) from if_neg hc48_18) ?_
        refine OGo.st (fun t k => XS.icmpYes X.here hx rfl (pc0 := 48) (pc' := 53) rfl (hb hby d2_48) rfl (feq hc48_18).2 (by decide) (by decide) k) ?_
        show OGo p e below _ (T.setTop (mkF m 53 #[.val (.int q1)] []))
        refine OGo.st (fun t k => XS.iloadN X.here hx rfl (hb hby d2_53) rfl k) ?_
        show OGo p e below _ (T.setTop (mkF m 54 #[.val (.int q1)] [(.int q1)]))
        refine OGo.st (fun t k => XS.sipush X.here hx rfl (hb hby d2_54) k) ?_
        show OGo p e below _ (T.setTop (mkF m 57 #[.val (.int q1)] [(.int (768 : Int32)), (.int q1)]))
        by_cases hc57_19 : q1 < (768 : Int32)
        · refine OGo.eqvI (show (g2_57_18 q1) = (g2_j69 q1) from if_pos hc57_19) ?_
          refine OGo.st (fun t k => XS.icmpYes X.here hx rfl (pc0 := 57) (pc' := 69) rfl (hb hby d2_57) rfl (tlt hc57_19).1 (by decide) (by decide) k) ?_
          show OGo p e below _ (T.setTop (mkF m 69 #[.val (.int q1)] []))
          exact J69 T _ X eT N 
        · refine OGo.eqvI (show (g2_57_18 q1) = (g2_64_17 q1) from if_neg hc57_19) ?_
          refine OGo.st (fun t k => XS.icmpNo X.here hx rfl (hb hby d2_57) rfl (flt hc57_19).1 k) ?_
          show OGo p e below _ (T.setTop (mkF m 60 #[.val (.int q1)] []))
          refine OGo.st (fun t k => XS.iloadN X.here hx rfl (hb hby d2_60) rfl k) ?_
          show OGo p e below _ (T.setTop (mkF m 61 #[.val (.int q1)] [(.int q1)]))
          refine OGo.st (fun t k => XS.sipush X.here hx rfl (hb hby d2_61) k) ?_
          show OGo p e below _ (T.setTop (mkF m 64 #[.val (.int q1)] [(.int (879 : Int32)), (.int q1)]))
          by_cases hc64_20 : (879 : Int32) < q1
          · refine OGo.eqvI (show (g2_64_17 q1) = (g2_j69 q1) from if_pos hc64_20) ?_
            refine OGo.st (fun t k => XS.icmpYes X.here hx rfl (pc0 := 64) (pc' := 69) rfl (hb hby d2_64) rfl (tlt hc64_20).2.2.1 (by decide) (by decide) k) ?_
            show OGo p e below _ (T.setTop (mkF m 69 #[.val (.int q1)] []))
            exact J69 T _ X eT N 
          · refine OGo.eqvI (show (g2_64_17 q1) = (1 : Int32) from if_neg hc64_20) ?_
            refine OGo.st (fun t k => XS.icmpNo X.here hx rfl (hb hby d2_64) rfl (flt hc64_20).2.2.1 k) ?_
            show OGo p e below _ (T.setTop (mkF m 67 #[.val (.int q1)] []))
            refine OGo.st (fun t k => XS.iconst X.here hx rfl (hb hby d2_67) k) ?_
            show OGo p e below _ (T.setTop (mkF m 68 #[.val (.int q1)] [(.int (1 : Int32))]))
            exact OGo.outN X hx (t := .boolean) Bd.returns (by simp) Bd.notSynchronized (hb hby d2_68) ⟨rfl, N, eT⟩ (by decide) (by decide)
  have J22 : ∀ (T : State) (locs : List Loc) (X : Stand p l e ({ frames := 0, cells := 0, slots := 0, locals := 0 } : Room) s m #[(.int q1)] below meth c T locs 0 0) (eT : T.heap = h0) (N : Fr n0 locs), OGo p e below (Out s ({ frames := 0, cells := 0, slots := 0, locals := 0 } : Room).cells ({ frames := 0, cells := 0, slots := 0, locals := 0 } : Room).slots (PI n0 h0 (g2_j22 q1))) (T.setTop (mkF m 22 #[.val (.int q1)] [])) := by
    intro T locs X eT N
    show OGo p e below (Out s ({ frames := 0, cells := 0, slots := 0, locals := 0 } : Room).cells ({ frames := 0, cells := 0, slots := 0, locals := 0 } : Room).slots (PI n0 h0 (g2_25_22 q1))) (T.setTop (mkF m 22 #[.val (.int q1)] []))
    refine OGo.st (fun t k => XS.iloadN X.here hx rfl (hb hby d2_22) rfl k) ?_
    show OGo p e below _ (T.setTop (mkF m 23 #[.val (.int q1)] [(.int q1)]))
    refine OGo.st (fun t k => XS.bipush X.here hx rfl (hb hby d2_23) k) ?_
    show OGo p e below _ (T.setTop (mkF m 25 #[.val (.int q1)] [(.int (123 : Int32)), (.int q1)]))
    by_cases hc25_21 : q1 < (123 : Int32)
    · refine OGo.eqvI (show (g2_25_22 q1) = (g2_j37 q1) from if_pos hc25_21) ?_
      refine OGo.st (fun t k => XS.icmpYes X.here hx rfl (pc0 := 25) (pc' := 37) rfl (hb hby d2_25) rfl (tlt hc25_21).1 (by decide) (by decide) k) ?_
      show OGo p e below _ (T.setTop (mkF m 37 #[.val (.int q1)] []))
      exact J37 T _ X eT N 
    · refine OGo.eqvI (show (g2_25_22 q1) = (g2_32_21 q1) from if_neg hc25_21) ?_
      refine OGo.st (fun t k => XS.icmpNo X.here hx rfl (hb hby d2_25) rfl (flt hc25_21).1 k) ?_
      show OGo p e below _ (T.setTop (mkF m 28 #[.val (.int q1)] []))
      refine OGo.st (fun t k => XS.iloadN X.here hx rfl (hb hby d2_28) rfl k) ?_
      show OGo p e below _ (T.setTop (mkF m 29 #[.val (.int q1)] [(.int q1)]))
      refine OGo.st (fun t k => XS.sipush X.here hx rfl (hb hby d2_29) k) ?_
      show OGo p e below _ (T.setTop (mkF m 32 #[.val (.int q1)] [(.int (191 : Int32)), (.int q1)]))
      by_cases hc32_22 : (191 : Int32) < q1
      · refine OGo.eqvI (show (g2_32_21 q1) = (g2_j37 q1) from if_pos hc32_22) ?_
        refine OGo.st (fun t k => XS.icmpYes X.here hx rfl (pc0 := 32) (pc' := 37) rfl (hb hby d2_32) rfl (tlt hc32_22).2.2.1 (by decide) (by decide) k) ?_
        show OGo p e below _ (T.setTop (mkF m 37 #[.val (.int q1)] []))
        exact J37 T _ X eT N 
      · refine OGo.eqvI (show (g2_32_21 q1) = (1 : Int32) from if_neg hc32_22) ?_
        refine OGo.st (fun t k => XS.icmpNo X.here hx rfl (hb hby d2_32) rfl (flt hc32_22).2.2.1 k) ?_
        show OGo p e below _ (T.setTop (mkF m 35 #[.val (.int q1)] []))
        refine OGo.st (fun t k => XS.iconst X.here hx rfl (hb hby d2_35) k) ?_
        show OGo p e below _ (T.setTop (mkF m 36 #[.val (.int q1)] [(.int (1 : Int32))]))
        exact OGo.outN X hx (t := .boolean) Bd.returns (by simp) Bd.notSynchronized (hb hby d2_36) ⟨rfl, N, eT⟩ (by decide) (by decide)
  refine OGo.st (fun t k => castTop (ef2 m q1) k) ?_
  show OGo p e below (Out s ({ frames := 0, cells := 0, slots := 0, locals := 0 } : Room).cells ({ frames := 0, cells := 0, slots := 0, locals := 0 } : Room).slots (PI n0 h0 (g2_3_25 q1))) (s₁.setTop (mkF m 0 #[.val (.int q1)] []))
  refine OGo.st (fun t k => XS.iloadN X0.here hx rfl (hb hby d2_0) rfl k) ?_
  show OGo p e below _ (s₁.setTop (mkF m 1 #[.val (.int q1)] [(.int q1)]))
  refine OGo.st (fun t k => XS.bipush X0.here hx rfl (hb hby d2_1) k) ?_
  show OGo p e below _ (s₁.setTop (mkF m 3 #[.val (.int q1)] [(.int (65 : Int32)), (.int q1)]))
  by_cases hc3_23 : q1 < (65 : Int32)
  · refine OGo.eqvI (show (g2_3_25 q1) = (1 : Int32) from if_pos hc3_23) ?_
    refine OGo.st (fun t k => XS.icmpNo X0.here hx rfl (hb hby d2_3) rfl (tlt hc3_23).2.1 k) ?_
    show OGo p e below _ (s₁.setTop (mkF m 6 #[.val (.int q1)] []))
    refine OGo.st (fun t k => XS.iconst X0.here hx rfl (hb hby d2_6) k) ?_
    show OGo p e below _ (s₁.setTop (mkF m 7 #[.val (.int q1)] [(.int (1 : Int32))]))
    exact OGo.outN X0 hx (t := .boolean) Bd.returns (by simp) Bd.notSynchronized (hb hby d2_7) ⟨rfl, N0, e0⟩ (by decide) (by decide)
  · refine OGo.eqvI (show (g2_3_25 q1) = (g2_11_24 q1) from if_neg hc3_23) ?_
    refine OGo.st (fun t k => XS.icmpYes X0.here hx rfl (pc0 := 3) (pc' := 8) rfl (hb hby d2_3) rfl (flt hc3_23).2.1 (by decide) (by decide) k) ?_
    show OGo p e below _ (s₁.setTop (mkF m 8 #[.val (.int q1)] []))
    refine OGo.st (fun t k => XS.iloadN X0.here hx rfl (hb hby d2_8) rfl k) ?_
    show OGo p e below _ (s₁.setTop (mkF m 9 #[.val (.int q1)] [(.int q1)]))
    refine OGo.st (fun t k => XS.bipush X0.here hx rfl (hb hby d2_9) k) ?_
    show OGo p e below _ (s₁.setTop (mkF m 11 #[.val (.int q1)] [(.int (91 : Int32)), (.int q1)]))
    by_cases hc11_24 : q1 < (91 : Int32)
    · refine OGo.eqvI (show (g2_11_24 q1) = (g2_j22 q1) from if_pos hc11_24) ?_
      refine OGo.st (fun t k => XS.icmpYes X0.here hx rfl (pc0 := 11) (pc' := 22) rfl (hb hby d2_11) rfl (tlt hc11_24).1 (by decide) (by decide) k) ?_
      show OGo p e below _ (s₁.setTop (mkF m 22 #[.val (.int q1)] []))
      exact J22 s₁ _ X0 e0 N0 
    · refine OGo.eqvI (show (g2_11_24 q1) = (g2_17_23 q1) from if_neg hc11_24) ?_
      refine OGo.st (fun t k => XS.icmpNo X0.here hx rfl (hb hby d2_11) rfl (flt hc11_24).1 k) ?_
      show OGo p e below _ (s₁.setTop (mkF m 14 #[.val (.int q1)] []))
      refine OGo.st (fun t k => XS.iloadN X0.here hx rfl (hb hby d2_14) rfl k) ?_
      show OGo p e below _ (s₁.setTop (mkF m 15 #[.val (.int q1)] [(.int q1)]))
      refine OGo.st (fun t k => XS.bipush X0.here hx rfl (hb hby d2_15) k) ?_
      show OGo p e below _ (s₁.setTop (mkF m 17 #[.val (.int q1)] [(.int (96 : Int32)), (.int q1)]))
      by_cases hc17_25 : (96 : Int32) < q1
      · refine OGo.eqvI (show (g2_17_23 q1) = (g2_j22 q1) from if_pos hc17_25) ?_
        refine OGo.st (fun t k => XS.icmpYes X0.here hx rfl (pc0 := 17) (pc' := 22) rfl (hb hby d2_17) rfl (tlt hc17_25).2.2.1 (by decide) (by decide) k) ?_
        show OGo p e below _ (s₁.setTop (mkF m 22 #[.val (.int q1)] []))
        exact J22 s₁ _ X0 e0 N0 
      · refine OGo.eqvI (show (g2_17_23 q1) = (1 : Int32) from if_neg hc17_25) ?_
        refine OGo.st (fun t k => XS.icmpNo X0.here hx rfl (hb hby d2_17) rfl (flt hc17_25).2.2.1 k) ?_
        show OGo p e below _ (s₁.setTop (mkF m 20 #[.val (.int q1)] []))
        refine OGo.st (fun t k => XS.iconst X0.here hx rfl (hb hby d2_20) k) ?_
        show OGo p e below _ (s₁.setTop (mkF m 21 #[.val (.int q1)] [(.int (1 : Int32))]))
        exact OGo.outN X0 hx (t := .boolean) Bd.returns (by simp) Bd.notSynchronized (hb hby d2_21) ⟨rfl, N0, e0⟩ (by decide) (by decide)
theorem pn0 : plainName "com/example/triadne/triadne/TerminalsIsPnCharsBasePinLaw" = true := by first | (simp [plainName, overriddenIn]; done) | decide +kernel
theorem pd0_0 : parseMethodDescriptor "(I)Z" = some ⟨[.int], some .boolean⟩ := by decide +kernel
theorem ef0 (m : MethodId) (q1 : Int32) (q2 : Int32) (q3 : Int32) : entryFrame m #[(.int q1), (.int q2), (.int q3)] maxLocals = mkF m 0 #[.val (.int q1), .val (.int q2), .val (.int q3), .unset, .unset, .unset, .unset] [] := by first | (simp [entryFrame, mkF, argsToLocals, Value.category, maxLocals]; done) | rfl
def g0_262_1 (q1 : Int32) (q2 : Int32) (q3 : Int32) (j253_l4 : Int32) (j253_l5 : Int32) (j253_s0 : Int32) : Int32 := if j253_s0 = (0 : Int32) then (0 : Int32) else (1 : Int32)
def g0_257_2 (q1 : Int32) (q2 : Int32) (q3 : Int32) (j253_l4 : Int32) (j253_l5 : Int32) (j253_s0 : Int32) : Int32 := if j253_l5 = (0 : Int32) then (0 : Int32) else (g0_262_1 q1 q2 q3 j253_l4 j253_l5 j253_s0)
def g0_j253 (q1 : Int32) (q2 : Int32) (q3 : Int32) (j253_l4 : Int32) (j253_l5 : Int32) (j253_s0 : Int32) : Int32 := (g0_257_2 q1 q2 q3 j253_l4 j253_l5 j253_s0)
def g0_245_3 (q1 : Int32) (q2 : Int32) (q3 : Int32) (j245_l4 : Int32) (j245_l5 : Int32) (j245_s0 : Int32) (j245_s1 : Int32) : Int32 := if j245_s1 = j245_s0 then (g0_j253 q1 q2 q3 j245_l4 j245_l5 (1 : Int32)) else (g0_j253 q1 q2 q3 j245_l4 j245_l5 (0 : Int32))
def g0_j245 (q1 : Int32) (q2 : Int32) (q3 : Int32) (j245_l4 : Int32) (j245_l5 : Int32) (j245_s0 : Int32) (j245_s1 : Int32) : Int32 := (g0_245_3 q1 q2 q3 j245_l4 j245_l5 j245_s0 j245_s1)
def g0_237_4 (q1 : Int32) (q2 : Int32) (q3 : Int32) (j225_l4 : Int32) (j225_s0 : Int32) : Int32 := if (f2 j225_l4) = (0 : Int32) then (g0_j245 q1 q2 q3 j225_l4 j225_s0 (1 : Int32) (f1 j225_l4)) else (g0_j245 q1 q2 q3 j225_l4 j225_s0 (0 : Int32) (f1 j225_l4))
def g0_j225 (q1 : Int32) (q2 : Int32) (q3 : Int32) (j225_l4 : Int32) (j225_s0 : Int32) : Int32 := (g0_237_4 q1 q2 q3 j225_l4 j225_s0)
def g0_217_5 (q1 : Int32) (q2 : Int32) (q3 : Int32) (j217_l4 : Int32) (j217_s0 : Int32) : Int32 := if (f1 q1) = j217_s0 then (g0_j225 q1 q2 q3 j217_l4 (1 : Int32)) else (g0_j225 q1 q2 q3 j217_l4 (0 : Int32))
def g0_j217 (q1 : Int32) (q2 : Int32) (q3 : Int32) (j217_l4 : Int32) (j217_s0 : Int32) : Int32 := (g0_217_5 q1 q2 q3 j217_l4 j217_s0)
def g0_209_6 (q1 : Int32) (q2 : Int32) (q3 : Int32) (w37 : Int32) : Int32 := if (f2 q1) = (0 : Int32) then (g0_j217 q1 q2 q3 (w37 + ((q3 &&& (3 : Int32)) - (1 : Int32))) (1 : Int32)) else (g0_j217 q1 q2 q3 (w37 + ((q3 &&& (3 : Int32)) - (1 : Int32))) (0 : Int32))
theorem own_g1_j173 (q1 : Int32) : (((¬ (q1.toInt < 65536) ∧ ¬ (983039 < q1.toInt))) → g1_j173 q1 = 1) ∧ (¬ ((¬ (q1.toInt < 65536) ∧ ¬ (983039 < q1.toInt))) → g1_j173 q1 = 0) := by
  by_cases h0 : q1 < (65536 : Int32)
  · have _ := trivial
    rw [show g1_j173 q1 = (0 : Int32) from (if_pos h0)]
    simp only [Int32.lt_iff_toInt_lt, ← Int32.toInt_inj, Int32.reduceToInt] at h0
    exact ⟨fun q => absurd q (by omega), fun _ => rfl⟩
  · have _ := trivial
    by_cases h1 : (983039 : Int32) < q1
    · have _ := trivial
      rw [show g1_j173 q1 = (0 : Int32) from ((if_neg h0).trans (if_pos h1))]
      simp only [Int32.lt_iff_toInt_lt, ← Int32.toInt_inj, Int32.reduceToInt] at h0 h1
      exact ⟨fun q => absurd q (by omega), fun _ => rfl⟩
    · have _ := trivial
      rw [show g1_j173 q1 = (1 : Int32) from ((if_neg h0).trans (if_neg h1))]
      simp only [Int32.lt_iff_toInt_lt, ← Int32.toInt_inj, Int32.reduceToInt] at h0 h1
      exact ⟨fun _ => rfl, fun q => absurd (by omega) q⟩
theorem own_g1_j161 (q1 : Int32) : (((¬ (q1.toInt < 65008) ∧ ¬ (65533 < q1.toInt)) ∨ (¬ (q1.toInt < 65536) ∧ ¬ (983039 < q1.toInt))) → g1_j161 q1 = 1) ∧ (¬ ((¬ (q1.toInt < 65008) ∧ ¬ (65533 < q1.toInt)) ∨ (¬ (q1.toInt < 65536) ∧ ¬ (983039 < q1.toInt))) → g1_j161 q1 = 0) := by
  have ih := own_g1_j173 q1
  by_cases h0 : q1 < (65008 : Int32)
  · have _ := trivial
    rw [show g1_j161 q1 = (g1_j173 q1) from (if_pos h0)]
    simp only [Int32.lt_iff_toInt_lt, ← Int32.toInt_inj, Int32.reduceToInt] at h0
    exact ⟨fun q => ih.1 (by omega), fun q => ih.2 (by omega)⟩
  · have _ := trivial
    by_cases h1 : (65533 : Int32) < q1
    · have _ := trivial
      rw [show g1_j161 q1 = (g1_j173 q1) from ((if_neg h0).trans (if_pos h1))]
      simp only [Int32.lt_iff_toInt_lt, ← Int32.toInt_inj, Int32.reduceToInt] at h0 h1
      exact ⟨fun q => ih.1 (by omega), fun q => ih.2 (by omega)⟩
    · have _ := trivial
      rw [show g1_j161 q1 = (1 : Int32) from ((if_neg h0).trans (if_neg h1))]
      simp only [Int32.lt_iff_toInt_lt, ← Int32.toInt_inj, Int32.reduceToInt] at h0 h1
      exact ⟨fun _ => rfl, fun q => absurd (by omega) q⟩
theorem own_g1_j149 (q1 : Int32) : (((¬ (q1.toInt < 63744) ∧ ¬ (64975 < q1.toInt)) ∨ (¬ (q1.toInt < 65008) ∧ ¬ (65533 < q1.toInt)) ∨ (¬ (q1.toInt < 65536) ∧ ¬ (983039 < q1.toInt))) → g1_j149 q1 = 1) ∧ (¬ ((¬ (q1.toInt < 63744) ∧ ¬ (64975 < q1.toInt)) ∨ (¬ (q1.toInt < 65008) ∧ ¬ (65533 < q1.toInt)) ∨ (¬ (q1.toInt < 65536) ∧ ¬ (983039 < q1.toInt))) → g1_j149 q1 = 0) := by
  have ih := own_g1_j161 q1
  by_cases h0 : q1 < (63744 : Int32)
  · have _ := trivial
    rw [show g1_j149 q1 = (g1_j161 q1) from (if_pos h0)]
    simp only [Int32.lt_iff_toInt_lt, ← Int32.toInt_inj, Int32.reduceToInt] at h0
    exact ⟨fun q => ih.1 (by omega), fun q => ih.2 (by omega)⟩
  · have _ := trivial
    by_cases h1 : (64975 : Int32) < q1
    · have _ := trivial
      rw [show g1_j149 q1 = (g1_j161 q1) from ((if_neg h0).trans (if_pos h1))]
      simp only [Int32.lt_iff_toInt_lt, ← Int32.toInt_inj, Int32.reduceToInt] at h0 h1
      exact ⟨fun q => ih.1 (by omega), fun q => ih.2 (by omega)⟩
    · have _ := trivial
      rw [show g1_j149 q1 = (1 : Int32) from ((if_neg h0).trans (if_neg h1))]
      simp only [Int32.lt_iff_toInt_lt, ← Int32.toInt_inj, Int32.reduceToInt] at h0 h1
      exact ⟨fun _ => rfl, fun q => absurd (by omega) q⟩
theorem own_g1_j136 (q1 : Int32) : (((¬ (q1.toInt < 12289) ∧ ¬ (55295 < q1.toInt)) ∨ (¬ (q1.toInt < 63744) ∧ ¬ (64975 < q1.toInt)) ∨ (¬ (q1.toInt < 65008) ∧ ¬ (65533 < q1.toInt)) ∨ (¬ (q1.toInt < 65536) ∧ ¬ (983039 < q1.toInt))) → g1_j136 q1 = 1) ∧ (¬ ((¬ (q1.toInt < 12289) ∧ ¬ (55295 < q1.toInt)) ∨ (¬ (q1.toInt < 63744) ∧ ¬ (64975 < q1.toInt)) ∨ (¬ (q1.toInt < 65008) ∧ ¬ (65533 < q1.toInt)) ∨ (¬ (q1.toInt < 65536) ∧ ¬ (983039 < q1.toInt))) → g1_j136 q1 = 0) := by
  have ih := own_g1_j149 q1
  by_cases h0 : q1 < (12289 : Int32)
  · have _ := trivial
    rw [show g1_j136 q1 = (g1_j149 q1) from (if_pos h0)]
    simp only [Int32.lt_iff_toInt_lt, ← Int32.toInt_inj, Int32.reduceToInt] at h0
    exact ⟨fun q => ih.1 (by omega), fun q => ih.2 (by omega)⟩
  · have _ := trivial
    by_cases h1 : (55295 : Int32) < q1
    · have _ := trivial
      rw [show g1_j136 q1 = (g1_j149 q1) from ((if_neg h0).trans (if_pos h1))]
      simp only [Int32.lt_iff_toInt_lt, ← Int32.toInt_inj, Int32.reduceToInt] at h0 h1
      exact ⟨fun q => ih.1 (by omega), fun q => ih.2 (by omega)⟩
    · have _ := trivial
      rw [show g1_j136 q1 = (1 : Int32) from ((if_neg h0).trans (if_neg h1))]
      simp only [Int32.lt_iff_toInt_lt, ← Int32.toInt_inj, Int32.reduceToInt] at h0 h1
      exact ⟨fun _ => rfl, fun q => absurd (by omega) q⟩
theorem own_g1_j122 (q1 : Int32) : (((¬ (q1.toInt < 11264) ∧ ¬ (12271 < q1.toInt)) ∨ (¬ (q1.toInt < 12289) ∧ ¬ (55295 < q1.toInt)) ∨ (¬ (q1.toInt < 63744) ∧ ¬ (64975 < q1.toInt)) ∨ (¬ (q1.toInt < 65008) ∧ ¬ (65533 < q1.toInt)) ∨ (¬ (q1.toInt < 65536) ∧ ¬ (983039 < q1.toInt))) → g1_j122 q1 = 1) ∧ (¬ ((¬ (q1.toInt < 11264) ∧ ¬ (12271 < q1.toInt)) ∨ (¬ (q1.toInt < 12289) ∧ ¬ (55295 < q1.toInt)) ∨ (¬ (q1.toInt < 63744) ∧ ¬ (64975 < q1.toInt)) ∨ (¬ (q1.toInt < 65008) ∧ ¬ (65533 < q1.toInt)) ∨ (¬ (q1.toInt < 65536) ∧ ¬ (983039 < q1.toInt))) → g1_j122 q1 = 0) := by
  have ih := own_g1_j136 q1
  by_cases h0 : q1 < (11264 : Int32)
  · have _ := trivial
    rw [show g1_j122 q1 = (g1_j136 q1) from (if_pos h0)]
    simp only [Int32.lt_iff_toInt_lt, ← Int32.toInt_inj, Int32.reduceToInt] at h0
    exact ⟨fun q => ih.1 (by omega), fun q => ih.2 (by omega)⟩
  · have _ := trivial
    by_cases h1 : (12271 : Int32) < q1
    · have _ := trivial
      rw [show g1_j122 q1 = (g1_j136 q1) from ((if_neg h0).trans (if_pos h1))]
      simp only [Int32.lt_iff_toInt_lt, ← Int32.toInt_inj, Int32.reduceToInt] at h0 h1
      exact ⟨fun q => ih.1 (by omega), fun q => ih.2 (by omega)⟩
    · have _ := trivial
      rw [show g1_j122 q1 = (1 : Int32) from ((if_neg h0).trans (if_neg h1))]
      simp only [Int32.lt_iff_toInt_lt, ← Int32.toInt_inj, Int32.reduceToInt] at h0 h1
      exact ⟨fun _ => rfl, fun q => absurd (by omega) q⟩
theorem own_g1_j108 (q1 : Int32) : (((¬ (q1.toInt < 8304) ∧ ¬ (8591 < q1.toInt)) ∨ (¬ (q1.toInt < 11264) ∧ ¬ (12271 < q1.toInt)) ∨ (¬ (q1.toInt < 12289) ∧ ¬ (55295 < q1.toInt)) ∨ (¬ (q1.toInt < 63744) ∧ ¬ (64975 < q1.toInt)) ∨ (¬ (q1.toInt < 65008) ∧ ¬ (65533 < q1.toInt)) ∨ (¬ (q1.toInt < 65536) ∧ ¬ (983039 < q1.toInt))) → g1_j108 q1 = 1) ∧ (¬ ((¬ (q1.toInt < 8304) ∧ ¬ (8591 < q1.toInt)) ∨ (¬ (q1.toInt < 11264) ∧ ¬ (12271 < q1.toInt)) ∨ (¬ (q1.toInt < 12289) ∧ ¬ (55295 < q1.toInt)) ∨ (¬ (q1.toInt < 63744) ∧ ¬ (64975 < q1.toInt)) ∨ (¬ (q1.toInt < 65008) ∧ ¬ (65533 < q1.toInt)) ∨ (¬ (q1.toInt < 65536) ∧ ¬ (983039 < q1.toInt))) → g1_j108 q1 = 0) := by
  have ih := own_g1_j122 q1
  by_cases h0 : q1 < (8304 : Int32)
  · have _ := trivial
    rw [show g1_j108 q1 = (g1_j122 q1) from (if_pos h0)]
    simp only [Int32.lt_iff_toInt_lt, ← Int32.toInt_inj, Int32.reduceToInt] at h0
    exact ⟨fun q => ih.1 (by omega), fun q => ih.2 (by omega)⟩
  · have _ := trivial
    by_cases h1 : (8591 : Int32) < q1
    · have _ := trivial
      rw [show g1_j108 q1 = (g1_j122 q1) from ((if_neg h0).trans (if_pos h1))]
      simp only [Int32.lt_iff_toInt_lt, ← Int32.toInt_inj, Int32.reduceToInt] at h0 h1
      exact ⟨fun q => ih.1 (by omega), fun q => ih.2 (by omega)⟩
    · have _ := trivial
      rw [show g1_j108 q1 = (1 : Int32) from ((if_neg h0).trans (if_neg h1))]
      simp only [Int32.lt_iff_toInt_lt, ← Int32.toInt_inj, Int32.reduceToInt] at h0 h1
      exact ⟨fun _ => rfl, fun q => absurd (by omega) q⟩
theorem own_g1_j94 (q1 : Int32) : (((¬ (q1.toInt < 8204) ∧ ¬ (8205 < q1.toInt)) ∨ (¬ (q1.toInt < 8304) ∧ ¬ (8591 < q1.toInt)) ∨ (¬ (q1.toInt < 11264) ∧ ¬ (12271 < q1.toInt)) ∨ (¬ (q1.toInt < 12289) ∧ ¬ (55295 < q1.toInt)) ∨ (¬ (q1.toInt < 63744) ∧ ¬ (64975 < q1.toInt)) ∨ (¬ (q1.toInt < 65008) ∧ ¬ (65533 < q1.toInt)) ∨ (¬ (q1.toInt < 65536) ∧ ¬ (983039 < q1.toInt))) → g1_j94 q1 = 1) ∧ (¬ ((¬ (q1.toInt < 8204) ∧ ¬ (8205 < q1.toInt)) ∨ (¬ (q1.toInt < 8304) ∧ ¬ (8591 < q1.toInt)) ∨ (¬ (q1.toInt < 11264) ∧ ¬ (12271 < q1.toInt)) ∨ (¬ (q1.toInt < 12289) ∧ ¬ (55295 < q1.toInt)) ∨ (¬ (q1.toInt < 63744) ∧ ¬ (64975 < q1.toInt)) ∨ (¬ (q1.toInt < 65008) ∧ ¬ (65533 < q1.toInt)) ∨ (¬ (q1.toInt < 65536) ∧ ¬ (983039 < q1.toInt))) → g1_j94 q1 = 0) := by
  have ih := own_g1_j108 q1
  by_cases h0 : q1 < (8204 : Int32)
  · have _ := trivial
    rw [show g1_j94 q1 = (g1_j108 q1) from (if_pos h0)]
    simp only [Int32.lt_iff_toInt_lt, ← Int32.toInt_inj, Int32.reduceToInt] at h0
    exact ⟨fun q => ih.1 (by omega), fun q => ih.2 (by omega)⟩
  · have _ := trivial
    by_cases h1 : (8205 : Int32) < q1
    · have _ := trivial
      rw [show g1_j94 q1 = (g1_j108 q1) from ((if_neg h0).trans (if_pos h1))]
      simp only [Int32.lt_iff_toInt_lt, ← Int32.toInt_inj, Int32.reduceToInt] at h0 h1
      exact ⟨fun q => ih.1 (by omega), fun q => ih.2 (by omega)⟩
    · have _ := trivial
      rw [show g1_j94 q1 = (1 : Int32) from ((if_neg h0).trans (if_neg h1))]
      simp only [Int32.lt_iff_toInt_lt, ← Int32.toInt_inj, Int32.reduceToInt] at h0 h1
      exact ⟨fun _ => rfl, fun q => absurd (by omega) q⟩
theorem own_g1_j80 (q1 : Int32) : (((¬ (q1.toInt < 895) ∧ ¬ (8191 < q1.toInt)) ∨ (¬ (q1.toInt < 8204) ∧ ¬ (8205 < q1.toInt)) ∨ (¬ (q1.toInt < 8304) ∧ ¬ (8591 < q1.toInt)) ∨ (¬ (q1.toInt < 11264) ∧ ¬ (12271 < q1.toInt)) ∨ (¬ (q1.toInt < 12289) ∧ ¬ (55295 < q1.toInt)) ∨ (¬ (q1.toInt < 63744) ∧ ¬ (64975 < q1.toInt)) ∨ (¬ (q1.toInt < 65008) ∧ ¬ (65533 < q1.toInt)) ∨ (¬ (q1.toInt < 65536) ∧ ¬ (983039 < q1.toInt))) → g1_j80 q1 = 1) ∧ (¬ ((¬ (q1.toInt < 895) ∧ ¬ (8191 < q1.toInt)) ∨ (¬ (q1.toInt < 8204) ∧ ¬ (8205 < q1.toInt)) ∨ (¬ (q1.toInt < 8304) ∧ ¬ (8591 < q1.toInt)) ∨ (¬ (q1.toInt < 11264) ∧ ¬ (12271 < q1.toInt)) ∨ (¬ (q1.toInt < 12289) ∧ ¬ (55295 < q1.toInt)) ∨ (¬ (q1.toInt < 63744) ∧ ¬ (64975 < q1.toInt)) ∨ (¬ (q1.toInt < 65008) ∧ ¬ (65533 < q1.toInt)) ∨ (¬ (q1.toInt < 65536) ∧ ¬ (983039 < q1.toInt))) → g1_j80 q1 = 0) := by
  have ih := own_g1_j94 q1
  by_cases h0 : q1 < (895 : Int32)
  · have _ := trivial
    rw [show g1_j80 q1 = (g1_j94 q1) from (if_pos h0)]
    simp only [Int32.lt_iff_toInt_lt, ← Int32.toInt_inj, Int32.reduceToInt] at h0
    exact ⟨fun q => ih.1 (by omega), fun q => ih.2 (by omega)⟩
  · have _ := trivial
    by_cases h1 : (8191 : Int32) < q1
    · have _ := trivial
      rw [show g1_j80 q1 = (g1_j94 q1) from ((if_neg h0).trans (if_pos h1))]
      simp only [Int32.lt_iff_toInt_lt, ← Int32.toInt_inj, Int32.reduceToInt] at h0 h1
      exact ⟨fun q => ih.1 (by omega), fun q => ih.2 (by omega)⟩
    · have _ := trivial
      rw [show g1_j80 q1 = (1 : Int32) from ((if_neg h0).trans (if_neg h1))]
      simp only [Int32.lt_iff_toInt_lt, ← Int32.toInt_inj, Int32.reduceToInt] at h0 h1
      exact ⟨fun _ => rfl, fun q => absurd (by omega) q⟩
theorem own_g1_j66 (q1 : Int32) : (((¬ (q1.toInt < 880) ∧ ¬ (893 < q1.toInt)) ∨ (¬ (q1.toInt < 895) ∧ ¬ (8191 < q1.toInt)) ∨ (¬ (q1.toInt < 8204) ∧ ¬ (8205 < q1.toInt)) ∨ (¬ (q1.toInt < 8304) ∧ ¬ (8591 < q1.toInt)) ∨ (¬ (q1.toInt < 11264) ∧ ¬ (12271 < q1.toInt)) ∨ (¬ (q1.toInt < 12289) ∧ ¬ (55295 < q1.toInt)) ∨ (¬ (q1.toInt < 63744) ∧ ¬ (64975 < q1.toInt)) ∨ (¬ (q1.toInt < 65008) ∧ ¬ (65533 < q1.toInt)) ∨ (¬ (q1.toInt < 65536) ∧ ¬ (983039 < q1.toInt))) → g1_j66 q1 = 1) ∧ (¬ ((¬ (q1.toInt < 880) ∧ ¬ (893 < q1.toInt)) ∨ (¬ (q1.toInt < 895) ∧ ¬ (8191 < q1.toInt)) ∨ (¬ (q1.toInt < 8204) ∧ ¬ (8205 < q1.toInt)) ∨ (¬ (q1.toInt < 8304) ∧ ¬ (8591 < q1.toInt)) ∨ (¬ (q1.toInt < 11264) ∧ ¬ (12271 < q1.toInt)) ∨ (¬ (q1.toInt < 12289) ∧ ¬ (55295 < q1.toInt)) ∨ (¬ (q1.toInt < 63744) ∧ ¬ (64975 < q1.toInt)) ∨ (¬ (q1.toInt < 65008) ∧ ¬ (65533 < q1.toInt)) ∨ (¬ (q1.toInt < 65536) ∧ ¬ (983039 < q1.toInt))) → g1_j66 q1 = 0) := by
  have ih := own_g1_j80 q1
  by_cases h0 : q1 < (880 : Int32)
  · have _ := trivial
    rw [show g1_j66 q1 = (g1_j80 q1) from (if_pos h0)]
    simp only [Int32.lt_iff_toInt_lt, ← Int32.toInt_inj, Int32.reduceToInt] at h0
    exact ⟨fun q => ih.1 (by omega), fun q => ih.2 (by omega)⟩
  · have _ := trivial
    by_cases h1 : (893 : Int32) < q1
    · have _ := trivial
      rw [show g1_j66 q1 = (g1_j80 q1) from ((if_neg h0).trans (if_pos h1))]
      simp only [Int32.lt_iff_toInt_lt, ← Int32.toInt_inj, Int32.reduceToInt] at h0 h1
      exact ⟨fun q => ih.1 (by omega), fun q => ih.2 (by omega)⟩
    · have _ := trivial
      rw [show g1_j66 q1 = (1 : Int32) from ((if_neg h0).trans (if_neg h1))]
      simp only [Int32.lt_iff_toInt_lt, ← Int32.toInt_inj, Int32.reduceToInt] at h0 h1
      exact ⟨fun _ => rfl, fun q => absurd (by omega) q⟩
theorem own_g1_j52 (q1 : Int32) : (((¬ (q1.toInt < 248) ∧ ¬ (767 < q1.toInt)) ∨ (¬ (q1.toInt < 880) ∧ ¬ (893 < q1.toInt)) ∨ (¬ (q1.toInt < 895) ∧ ¬ (8191 < q1.toInt)) ∨ (¬ (q1.toInt < 8204) ∧ ¬ (8205 < q1.toInt)) ∨ (¬ (q1.toInt < 8304) ∧ ¬ (8591 < q1.toInt)) ∨ (¬ (q1.toInt < 11264) ∧ ¬ (12271 < q1.toInt)) ∨ (¬ (q1.toInt < 12289) ∧ ¬ (55295 < q1.toInt)) ∨ (¬ (q1.toInt < 63744) ∧ ¬ (64975 < q1.toInt)) ∨ (¬ (q1.toInt < 65008) ∧ ¬ (65533 < q1.toInt)) ∨ (¬ (q1.toInt < 65536) ∧ ¬ (983039 < q1.toInt))) → g1_j52 q1 = 1) ∧ (¬ ((¬ (q1.toInt < 248) ∧ ¬ (767 < q1.toInt)) ∨ (¬ (q1.toInt < 880) ∧ ¬ (893 < q1.toInt)) ∨ (¬ (q1.toInt < 895) ∧ ¬ (8191 < q1.toInt)) ∨ (¬ (q1.toInt < 8204) ∧ ¬ (8205 < q1.toInt)) ∨ (¬ (q1.toInt < 8304) ∧ ¬ (8591 < q1.toInt)) ∨ (¬ (q1.toInt < 11264) ∧ ¬ (12271 < q1.toInt)) ∨ (¬ (q1.toInt < 12289) ∧ ¬ (55295 < q1.toInt)) ∨ (¬ (q1.toInt < 63744) ∧ ¬ (64975 < q1.toInt)) ∨ (¬ (q1.toInt < 65008) ∧ ¬ (65533 < q1.toInt)) ∨ (¬ (q1.toInt < 65536) ∧ ¬ (983039 < q1.toInt))) → g1_j52 q1 = 0) := by
  have ih := own_g1_j66 q1
  by_cases h0 : q1 < (248 : Int32)
  · have _ := trivial
    rw [show g1_j52 q1 = (g1_j66 q1) from (if_pos h0)]
    simp only [Int32.lt_iff_toInt_lt, ← Int32.toInt_inj, Int32.reduceToInt] at h0
    exact ⟨fun q => ih.1 (by omega), fun q => ih.2 (by omega)⟩
  · have _ := trivial
    by_cases h1 : (767 : Int32) < q1
    · have _ := trivial
      rw [show g1_j52 q1 = (g1_j66 q1) from ((if_neg h0).trans (if_pos h1))]
      simp only [Int32.lt_iff_toInt_lt, ← Int32.toInt_inj, Int32.reduceToInt] at h0 h1
      exact ⟨fun q => ih.1 (by omega), fun q => ih.2 (by omega)⟩
    · have _ := trivial
      rw [show g1_j52 q1 = (1 : Int32) from ((if_neg h0).trans (if_neg h1))]
      simp only [Int32.lt_iff_toInt_lt, ← Int32.toInt_inj, Int32.reduceToInt] at h0 h1
      exact ⟨fun _ => rfl, fun q => absurd (by omega) q⟩
theorem own_g1_j38 (q1 : Int32) : (((¬ (q1.toInt < 216) ∧ ¬ (246 < q1.toInt)) ∨ (¬ (q1.toInt < 248) ∧ ¬ (767 < q1.toInt)) ∨ (¬ (q1.toInt < 880) ∧ ¬ (893 < q1.toInt)) ∨ (¬ (q1.toInt < 895) ∧ ¬ (8191 < q1.toInt)) ∨ (¬ (q1.toInt < 8204) ∧ ¬ (8205 < q1.toInt)) ∨ (¬ (q1.toInt < 8304) ∧ ¬ (8591 < q1.toInt)) ∨ (¬ (q1.toInt < 11264) ∧ ¬ (12271 < q1.toInt)) ∨ (¬ (q1.toInt < 12289) ∧ ¬ (55295 < q1.toInt)) ∨ (¬ (q1.toInt < 63744) ∧ ¬ (64975 < q1.toInt)) ∨ (¬ (q1.toInt < 65008) ∧ ¬ (65533 < q1.toInt)) ∨ (¬ (q1.toInt < 65536) ∧ ¬ (983039 < q1.toInt))) → g1_j38 q1 = 1) ∧ (¬ ((¬ (q1.toInt < 216) ∧ ¬ (246 < q1.toInt)) ∨ (¬ (q1.toInt < 248) ∧ ¬ (767 < q1.toInt)) ∨ (¬ (q1.toInt < 880) ∧ ¬ (893 < q1.toInt)) ∨ (¬ (q1.toInt < 895) ∧ ¬ (8191 < q1.toInt)) ∨ (¬ (q1.toInt < 8204) ∧ ¬ (8205 < q1.toInt)) ∨ (¬ (q1.toInt < 8304) ∧ ¬ (8591 < q1.toInt)) ∨ (¬ (q1.toInt < 11264) ∧ ¬ (12271 < q1.toInt)) ∨ (¬ (q1.toInt < 12289) ∧ ¬ (55295 < q1.toInt)) ∨ (¬ (q1.toInt < 63744) ∧ ¬ (64975 < q1.toInt)) ∨ (¬ (q1.toInt < 65008) ∧ ¬ (65533 < q1.toInt)) ∨ (¬ (q1.toInt < 65536) ∧ ¬ (983039 < q1.toInt))) → g1_j38 q1 = 0) := by
  have ih := own_g1_j52 q1
  by_cases h0 : q1 < (216 : Int32)
  · have _ := trivial
    rw [show g1_j38 q1 = (g1_j52 q1) from (if_pos h0)]
    simp only [Int32.lt_iff_toInt_lt, ← Int32.toInt_inj, Int32.reduceToInt] at h0
    exact ⟨fun q => ih.1 (by omega), fun q => ih.2 (by omega)⟩
  · have _ := trivial
    by_cases h1 : (246 : Int32) < q1
    · have _ := trivial
      rw [show g1_j38 q1 = (g1_j52 q1) from ((if_neg h0).trans (if_pos h1))]
      simp only [Int32.lt_iff_toInt_lt, ← Int32.toInt_inj, Int32.reduceToInt] at h0 h1
      exact ⟨fun q => ih.1 (by omega), fun q => ih.2 (by omega)⟩
    · have _ := trivial
      rw [show g1_j38 q1 = (1 : Int32) from ((if_neg h0).trans (if_neg h1))]
      simp only [Int32.lt_iff_toInt_lt, ← Int32.toInt_inj, Int32.reduceToInt] at h0 h1
      exact ⟨fun _ => rfl, fun q => absurd (by omega) q⟩
theorem own_g1_j24 (q1 : Int32) : (((¬ (q1.toInt < 192) ∧ ¬ (214 < q1.toInt)) ∨ (¬ (q1.toInt < 216) ∧ ¬ (246 < q1.toInt)) ∨ (¬ (q1.toInt < 248) ∧ ¬ (767 < q1.toInt)) ∨ (¬ (q1.toInt < 880) ∧ ¬ (893 < q1.toInt)) ∨ (¬ (q1.toInt < 895) ∧ ¬ (8191 < q1.toInt)) ∨ (¬ (q1.toInt < 8204) ∧ ¬ (8205 < q1.toInt)) ∨ (¬ (q1.toInt < 8304) ∧ ¬ (8591 < q1.toInt)) ∨ (¬ (q1.toInt < 11264) ∧ ¬ (12271 < q1.toInt)) ∨ (¬ (q1.toInt < 12289) ∧ ¬ (55295 < q1.toInt)) ∨ (¬ (q1.toInt < 63744) ∧ ¬ (64975 < q1.toInt)) ∨ (¬ (q1.toInt < 65008) ∧ ¬ (65533 < q1.toInt)) ∨ (¬ (q1.toInt < 65536) ∧ ¬ (983039 < q1.toInt))) → g1_j24 q1 = 1) ∧ (¬ ((¬ (q1.toInt < 192) ∧ ¬ (214 < q1.toInt)) ∨ (¬ (q1.toInt < 216) ∧ ¬ (246 < q1.toInt)) ∨ (¬ (q1.toInt < 248) ∧ ¬ (767 < q1.toInt)) ∨ (¬ (q1.toInt < 880) ∧ ¬ (893 < q1.toInt)) ∨ (¬ (q1.toInt < 895) ∧ ¬ (8191 < q1.toInt)) ∨ (¬ (q1.toInt < 8204) ∧ ¬ (8205 < q1.toInt)) ∨ (¬ (q1.toInt < 8304) ∧ ¬ (8591 < q1.toInt)) ∨ (¬ (q1.toInt < 11264) ∧ ¬ (12271 < q1.toInt)) ∨ (¬ (q1.toInt < 12289) ∧ ¬ (55295 < q1.toInt)) ∨ (¬ (q1.toInt < 63744) ∧ ¬ (64975 < q1.toInt)) ∨ (¬ (q1.toInt < 65008) ∧ ¬ (65533 < q1.toInt)) ∨ (¬ (q1.toInt < 65536) ∧ ¬ (983039 < q1.toInt))) → g1_j24 q1 = 0) := by
  have ih := own_g1_j38 q1
  by_cases h0 : q1 < (192 : Int32)
  · have _ := trivial
    rw [show g1_j24 q1 = (g1_j38 q1) from (if_pos h0)]
    simp only [Int32.lt_iff_toInt_lt, ← Int32.toInt_inj, Int32.reduceToInt] at h0
    exact ⟨fun q => ih.1 (by omega), fun q => ih.2 (by omega)⟩
  · have _ := trivial
    by_cases h1 : (214 : Int32) < q1
    · have _ := trivial
      rw [show g1_j24 q1 = (g1_j38 q1) from ((if_neg h0).trans (if_pos h1))]
      simp only [Int32.lt_iff_toInt_lt, ← Int32.toInt_inj, Int32.reduceToInt] at h0 h1
      exact ⟨fun q => ih.1 (by omega), fun q => ih.2 (by omega)⟩
    · have _ := trivial
      rw [show g1_j24 q1 = (1 : Int32) from ((if_neg h0).trans (if_neg h1))]
      simp only [Int32.lt_iff_toInt_lt, ← Int32.toInt_inj, Int32.reduceToInt] at h0 h1
      exact ⟨fun _ => rfl, fun q => absurd (by omega) q⟩
theorem own_g1_j12 (q1 : Int32) : (((¬ (q1.toInt < 97) ∧ ¬ (122 < q1.toInt)) ∨ (¬ (q1.toInt < 192) ∧ ¬ (214 < q1.toInt)) ∨ (¬ (q1.toInt < 216) ∧ ¬ (246 < q1.toInt)) ∨ (¬ (q1.toInt < 248) ∧ ¬ (767 < q1.toInt)) ∨ (¬ (q1.toInt < 880) ∧ ¬ (893 < q1.toInt)) ∨ (¬ (q1.toInt < 895) ∧ ¬ (8191 < q1.toInt)) ∨ (¬ (q1.toInt < 8204) ∧ ¬ (8205 < q1.toInt)) ∨ (¬ (q1.toInt < 8304) ∧ ¬ (8591 < q1.toInt)) ∨ (¬ (q1.toInt < 11264) ∧ ¬ (12271 < q1.toInt)) ∨ (¬ (q1.toInt < 12289) ∧ ¬ (55295 < q1.toInt)) ∨ (¬ (q1.toInt < 63744) ∧ ¬ (64975 < q1.toInt)) ∨ (¬ (q1.toInt < 65008) ∧ ¬ (65533 < q1.toInt)) ∨ (¬ (q1.toInt < 65536) ∧ ¬ (983039 < q1.toInt))) → g1_j12 q1 = 1) ∧ (¬ ((¬ (q1.toInt < 97) ∧ ¬ (122 < q1.toInt)) ∨ (¬ (q1.toInt < 192) ∧ ¬ (214 < q1.toInt)) ∨ (¬ (q1.toInt < 216) ∧ ¬ (246 < q1.toInt)) ∨ (¬ (q1.toInt < 248) ∧ ¬ (767 < q1.toInt)) ∨ (¬ (q1.toInt < 880) ∧ ¬ (893 < q1.toInt)) ∨ (¬ (q1.toInt < 895) ∧ ¬ (8191 < q1.toInt)) ∨ (¬ (q1.toInt < 8204) ∧ ¬ (8205 < q1.toInt)) ∨ (¬ (q1.toInt < 8304) ∧ ¬ (8591 < q1.toInt)) ∨ (¬ (q1.toInt < 11264) ∧ ¬ (12271 < q1.toInt)) ∨ (¬ (q1.toInt < 12289) ∧ ¬ (55295 < q1.toInt)) ∨ (¬ (q1.toInt < 63744) ∧ ¬ (64975 < q1.toInt)) ∨ (¬ (q1.toInt < 65008) ∧ ¬ (65533 < q1.toInt)) ∨ (¬ (q1.toInt < 65536) ∧ ¬ (983039 < q1.toInt))) → g1_j12 q1 = 0) := by
  have ih := own_g1_j24 q1
  by_cases h0 : q1 < (97 : Int32)
  · have _ := trivial
    rw [show g1_j12 q1 = (g1_j24 q1) from (if_pos h0)]
    simp only [Int32.lt_iff_toInt_lt, ← Int32.toInt_inj, Int32.reduceToInt] at h0
    exact ⟨fun q => ih.1 (by omega), fun q => ih.2 (by omega)⟩
  · have _ := trivial
    by_cases h1 : (122 : Int32) < q1
    · have _ := trivial
      rw [show g1_j12 q1 = (g1_j24 q1) from ((if_neg h0).trans (if_pos h1))]
      simp only [Int32.lt_iff_toInt_lt, ← Int32.toInt_inj, Int32.reduceToInt] at h0 h1
      exact ⟨fun q => ih.1 (by omega), fun q => ih.2 (by omega)⟩
    · have _ := trivial
      rw [show g1_j12 q1 = (1 : Int32) from ((if_neg h0).trans (if_neg h1))]
      simp only [Int32.lt_iff_toInt_lt, ← Int32.toInt_inj, Int32.reduceToInt] at h0 h1
      exact ⟨fun _ => rfl, fun q => absurd (by omega) q⟩
theorem own_f1 (q1 : Int32) : (((¬ (q1.toInt < 65) ∧ ¬ (90 < q1.toInt)) ∨ (¬ (q1.toInt < 97) ∧ ¬ (122 < q1.toInt)) ∨ (¬ (q1.toInt < 192) ∧ ¬ (214 < q1.toInt)) ∨ (¬ (q1.toInt < 216) ∧ ¬ (246 < q1.toInt)) ∨ (¬ (q1.toInt < 248) ∧ ¬ (767 < q1.toInt)) ∨ (¬ (q1.toInt < 880) ∧ ¬ (893 < q1.toInt)) ∨ (¬ (q1.toInt < 895) ∧ ¬ (8191 < q1.toInt)) ∨ (¬ (q1.toInt < 8204) ∧ ¬ (8205 < q1.toInt)) ∨ (¬ (q1.toInt < 8304) ∧ ¬ (8591 < q1.toInt)) ∨ (¬ (q1.toInt < 11264) ∧ ¬ (12271 < q1.toInt)) ∨ (¬ (q1.toInt < 12289) ∧ ¬ (55295 < q1.toInt)) ∨ (¬ (q1.toInt < 63744) ∧ ¬ (64975 < q1.toInt)) ∨ (¬ (q1.toInt < 65008) ∧ ¬ (65533 < q1.toInt)) ∨ (¬ (q1.toInt < 65536) ∧ ¬ (983039 < q1.toInt))) → f1 q1 = 1) ∧ (¬ ((¬ (q1.toInt < 65) ∧ ¬ (90 < q1.toInt)) ∨ (¬ (q1.toInt < 97) ∧ ¬ (122 < q1.toInt)) ∨ (¬ (q1.toInt < 192) ∧ ¬ (214 < q1.toInt)) ∨ (¬ (q1.toInt < 216) ∧ ¬ (246 < q1.toInt)) ∨ (¬ (q1.toInt < 248) ∧ ¬ (767 < q1.toInt)) ∨ (¬ (q1.toInt < 880) ∧ ¬ (893 < q1.toInt)) ∨ (¬ (q1.toInt < 895) ∧ ¬ (8191 < q1.toInt)) ∨ (¬ (q1.toInt < 8204) ∧ ¬ (8205 < q1.toInt)) ∨ (¬ (q1.toInt < 8304) ∧ ¬ (8591 < q1.toInt)) ∨ (¬ (q1.toInt < 11264) ∧ ¬ (12271 < q1.toInt)) ∨ (¬ (q1.toInt < 12289) ∧ ¬ (55295 < q1.toInt)) ∨ (¬ (q1.toInt < 63744) ∧ ¬ (64975 < q1.toInt)) ∨ (¬ (q1.toInt < 65008) ∧ ¬ (65533 < q1.toInt)) ∨ (¬ (q1.toInt < 65536) ∧ ¬ (983039 < q1.toInt))) → f1 q1 = 0) := by
  have ih := own_g1_j12 q1
  by_cases h0 : q1 < (65 : Int32)
  · have _ := trivial
    rw [show f1 q1 = (g1_j12 q1) from (if_pos h0)]
    simp only [Int32.lt_iff_toInt_lt, ← Int32.toInt_inj, Int32.reduceToInt] at h0
    exact ⟨fun q => ih.1 (by omega), fun q => ih.2 (by omega)⟩
  · have _ := trivial
    by_cases h1 : (90 : Int32) < q1
    · have _ := trivial
      rw [show f1 q1 = (g1_j12 q1) from ((if_neg h0).trans (if_pos h1))]
      simp only [Int32.lt_iff_toInt_lt, ← Int32.toInt_inj, Int32.reduceToInt] at h0 h1
      exact ⟨fun q => ih.1 (by omega), fun q => ih.2 (by omega)⟩
    · have _ := trivial
      rw [show f1 q1 = (1 : Int32) from ((if_neg h0).trans (if_neg h1))]
      simp only [Int32.lt_iff_toInt_lt, ← Int32.toInt_inj, Int32.reduceToInt] at h0 h1
      exact ⟨fun _ => rfl, fun q => absurd (by omega) q⟩
theorem own_g2_j184 (q1 : Int32) : (((983039 < q1.toInt)) → g2_j184 q1 = 1) ∧ (¬ ((983039 < q1.toInt)) → g2_j184 q1 = 0) := by
  by_cases h0 : (983039 : Int32) < q1
  · have _ := trivial
    rw [show g2_j184 q1 = (1 : Int32) from (if_pos h0)]
    simp only [Int32.lt_iff_toInt_lt, ← Int32.toInt_inj, Int32.reduceToInt] at h0
    exact ⟨fun _ => rfl, fun q => absurd (by omega) q⟩
  · have _ := trivial
    rw [show g2_j184 q1 = (0 : Int32) from (if_neg h0)]
    simp only [Int32.lt_iff_toInt_lt, ← Int32.toInt_inj, Int32.reduceToInt] at h0
    exact ⟨fun q => absurd q (by omega), fun _ => rfl⟩
theorem own_g2_j170 (q1 : Int32) : (((¬ (q1.toInt < 65534) ∧ ¬ (65535 < q1.toInt)) ∨ (983039 < q1.toInt)) → g2_j170 q1 = 1) ∧ (¬ ((¬ (q1.toInt < 65534) ∧ ¬ (65535 < q1.toInt)) ∨ (983039 < q1.toInt)) → g2_j170 q1 = 0) := by
  have ih := own_g2_j184 q1
  by_cases h0 : q1 < (65534 : Int32)
  · have _ := trivial
    rw [show g2_j170 q1 = (g2_j184 q1) from (if_pos h0)]
    simp only [Int32.lt_iff_toInt_lt, ← Int32.toInt_inj, Int32.reduceToInt] at h0
    exact ⟨fun q => ih.1 (by omega), fun q => ih.2 (by omega)⟩
  · have _ := trivial
    by_cases h1 : (65535 : Int32) < q1
    · have _ := trivial
      rw [show g2_j170 q1 = (g2_j184 q1) from ((if_neg h0).trans (if_pos h1))]
      simp only [Int32.lt_iff_toInt_lt, ← Int32.toInt_inj, Int32.reduceToInt] at h0 h1
      exact ⟨fun q => ih.1 (by omega), fun q => ih.2 (by omega)⟩
    · have _ := trivial
      rw [show g2_j170 q1 = (1 : Int32) from ((if_neg h0).trans (if_neg h1))]
      simp only [Int32.lt_iff_toInt_lt, ← Int32.toInt_inj, Int32.reduceToInt] at h0 h1
      exact ⟨fun _ => rfl, fun q => absurd (by omega) q⟩
theorem own_g2_j156 (q1 : Int32) : (((¬ (q1.toInt < 64976) ∧ ¬ (65007 < q1.toInt)) ∨ (¬ (q1.toInt < 65534) ∧ ¬ (65535 < q1.toInt)) ∨ (983039 < q1.toInt)) → g2_j156 q1 = 1) ∧ (¬ ((¬ (q1.toInt < 64976) ∧ ¬ (65007 < q1.toInt)) ∨ (¬ (q1.toInt < 65534) ∧ ¬ (65535 < q1.toInt)) ∨ (983039 < q1.toInt)) → g2_j156 q1 = 0) := by
  have ih := own_g2_j170 q1
  by_cases h0 : q1 < (64976 : Int32)
  · have _ := trivial
    rw [show g2_j156 q1 = (g2_j170 q1) from (if_pos h0)]
    simp only [Int32.lt_iff_toInt_lt, ← Int32.toInt_inj, Int32.reduceToInt] at h0
    exact ⟨fun q => ih.1 (by omega), fun q => ih.2 (by omega)⟩
  · have _ := trivial
    by_cases h1 : (65007 : Int32) < q1
    · have _ := trivial
      rw [show g2_j156 q1 = (g2_j170 q1) from ((if_neg h0).trans (if_pos h1))]
      simp only [Int32.lt_iff_toInt_lt, ← Int32.toInt_inj, Int32.reduceToInt] at h0 h1
      exact ⟨fun q => ih.1 (by omega), fun q => ih.2 (by omega)⟩
    · have _ := trivial
      rw [show g2_j156 q1 = (1 : Int32) from ((if_neg h0).trans (if_neg h1))]
      simp only [Int32.lt_iff_toInt_lt, ← Int32.toInt_inj, Int32.reduceToInt] at h0 h1
      exact ⟨fun _ => rfl, fun q => absurd (by omega) q⟩
theorem own_g2_j142 (q1 : Int32) : (((¬ (q1.toInt < 55296) ∧ ¬ (63743 < q1.toInt)) ∨ (¬ (q1.toInt < 64976) ∧ ¬ (65007 < q1.toInt)) ∨ (¬ (q1.toInt < 65534) ∧ ¬ (65535 < q1.toInt)) ∨ (983039 < q1.toInt)) → g2_j142 q1 = 1) ∧ (¬ ((¬ (q1.toInt < 55296) ∧ ¬ (63743 < q1.toInt)) ∨ (¬ (q1.toInt < 64976) ∧ ¬ (65007 < q1.toInt)) ∨ (¬ (q1.toInt < 65534) ∧ ¬ (65535 < q1.toInt)) ∨ (983039 < q1.toInt)) → g2_j142 q1 = 0) := by
  have ih := own_g2_j156 q1
  by_cases h0 : q1 < (55296 : Int32)
  · have _ := trivial
    rw [show g2_j142 q1 = (g2_j156 q1) from (if_pos h0)]
    simp only [Int32.lt_iff_toInt_lt, ← Int32.toInt_inj, Int32.reduceToInt] at h0
    exact ⟨fun q => ih.1 (by omega), fun q => ih.2 (by omega)⟩
  · have _ := trivial
    by_cases h1 : (63743 : Int32) < q1
    · have _ := trivial
      rw [show g2_j142 q1 = (g2_j156 q1) from ((if_neg h0).trans (if_pos h1))]
      simp only [Int32.lt_iff_toInt_lt, ← Int32.toInt_inj, Int32.reduceToInt] at h0 h1
      exact ⟨fun q => ih.1 (by omega), fun q => ih.2 (by omega)⟩
    · have _ := trivial
      rw [show g2_j142 q1 = (1 : Int32) from ((if_neg h0).trans (if_neg h1))]
      simp only [Int32.lt_iff_toInt_lt, ← Int32.toInt_inj, Int32.reduceToInt] at h0 h1
      exact ⟨fun _ => rfl, fun q => absurd (by omega) q⟩
theorem own_g2_j126 (q1 : Int32) : (((¬ (q1.toInt < 12272) ∧ ¬ (12288 < q1.toInt)) ∨ (¬ (q1.toInt < 55296) ∧ ¬ (63743 < q1.toInt)) ∨ (¬ (q1.toInt < 64976) ∧ ¬ (65007 < q1.toInt)) ∨ (¬ (q1.toInt < 65534) ∧ ¬ (65535 < q1.toInt)) ∨ (983039 < q1.toInt)) → g2_j126 q1 = 1) ∧ (¬ ((¬ (q1.toInt < 12272) ∧ ¬ (12288 < q1.toInt)) ∨ (¬ (q1.toInt < 55296) ∧ ¬ (63743 < q1.toInt)) ∨ (¬ (q1.toInt < 64976) ∧ ¬ (65007 < q1.toInt)) ∨ (¬ (q1.toInt < 65534) ∧ ¬ (65535 < q1.toInt)) ∨ (983039 < q1.toInt)) → g2_j126 q1 = 0) := by
  have ih := own_g2_j142 q1
  by_cases h0 : q1 < (12272 : Int32)
  · have _ := trivial
    rw [show g2_j126 q1 = (g2_j142 q1) from (if_pos h0)]
    simp only [Int32.lt_iff_toInt_lt, ← Int32.toInt_inj, Int32.reduceToInt] at h0
    exact ⟨fun q => ih.1 (by omega), fun q => ih.2 (by omega)⟩
  · have _ := trivial
    by_cases h1 : (12288 : Int32) < q1
    · have _ := trivial
      rw [show g2_j126 q1 = (g2_j142 q1) from ((if_neg h0).trans (if_pos h1))]
      simp only [Int32.lt_iff_toInt_lt, ← Int32.toInt_inj, Int32.reduceToInt] at h0 h1
      exact ⟨fun q => ih.1 (by omega), fun q => ih.2 (by omega)⟩
    · have _ := trivial
      rw [show g2_j126 q1 = (1 : Int32) from ((if_neg h0).trans (if_neg h1))]
      simp only [Int32.lt_iff_toInt_lt, ← Int32.toInt_inj, Int32.reduceToInt] at h0 h1
      exact ⟨fun _ => rfl, fun q => absurd (by omega) q⟩
theorem own_g2_j110 (q1 : Int32) : (((¬ (q1.toInt < 8592) ∧ ¬ (11263 < q1.toInt)) ∨ (¬ (q1.toInt < 12272) ∧ ¬ (12288 < q1.toInt)) ∨ (¬ (q1.toInt < 55296) ∧ ¬ (63743 < q1.toInt)) ∨ (¬ (q1.toInt < 64976) ∧ ¬ (65007 < q1.toInt)) ∨ (¬ (q1.toInt < 65534) ∧ ¬ (65535 < q1.toInt)) ∨ (983039 < q1.toInt)) → g2_j110 q1 = 1) ∧ (¬ ((¬ (q1.toInt < 8592) ∧ ¬ (11263 < q1.toInt)) ∨ (¬ (q1.toInt < 12272) ∧ ¬ (12288 < q1.toInt)) ∨ (¬ (q1.toInt < 55296) ∧ ¬ (63743 < q1.toInt)) ∨ (¬ (q1.toInt < 64976) ∧ ¬ (65007 < q1.toInt)) ∨ (¬ (q1.toInt < 65534) ∧ ¬ (65535 < q1.toInt)) ∨ (983039 < q1.toInt)) → g2_j110 q1 = 0) := by
  have ih := own_g2_j126 q1
  by_cases h0 : q1 < (8592 : Int32)
  · have _ := trivial
    rw [show g2_j110 q1 = (g2_j126 q1) from (if_pos h0)]
    simp only [Int32.lt_iff_toInt_lt, ← Int32.toInt_inj, Int32.reduceToInt] at h0
    exact ⟨fun q => ih.1 (by omega), fun q => ih.2 (by omega)⟩
  · have _ := trivial
    by_cases h1 : (11263 : Int32) < q1
    · have _ := trivial
      rw [show g2_j110 q1 = (g2_j126 q1) from ((if_neg h0).trans (if_pos h1))]
      simp only [Int32.lt_iff_toInt_lt, ← Int32.toInt_inj, Int32.reduceToInt] at h0 h1
      exact ⟨fun q => ih.1 (by omega), fun q => ih.2 (by omega)⟩
    · have _ := trivial
      rw [show g2_j110 q1 = (1 : Int32) from ((if_neg h0).trans (if_neg h1))]
      simp only [Int32.lt_iff_toInt_lt, ← Int32.toInt_inj, Int32.reduceToInt] at h0 h1
      exact ⟨fun _ => rfl, fun q => absurd (by omega) q⟩
theorem own_g2_j94 (q1 : Int32) : (((¬ (q1.toInt < 8206) ∧ ¬ (8303 < q1.toInt)) ∨ (¬ (q1.toInt < 8592) ∧ ¬ (11263 < q1.toInt)) ∨ (¬ (q1.toInt < 12272) ∧ ¬ (12288 < q1.toInt)) ∨ (¬ (q1.toInt < 55296) ∧ ¬ (63743 < q1.toInt)) ∨ (¬ (q1.toInt < 64976) ∧ ¬ (65007 < q1.toInt)) ∨ (¬ (q1.toInt < 65534) ∧ ¬ (65535 < q1.toInt)) ∨ (983039 < q1.toInt)) → g2_j94 q1 = 1) ∧ (¬ ((¬ (q1.toInt < 8206) ∧ ¬ (8303 < q1.toInt)) ∨ (¬ (q1.toInt < 8592) ∧ ¬ (11263 < q1.toInt)) ∨ (¬ (q1.toInt < 12272) ∧ ¬ (12288 < q1.toInt)) ∨ (¬ (q1.toInt < 55296) ∧ ¬ (63743 < q1.toInt)) ∨ (¬ (q1.toInt < 64976) ∧ ¬ (65007 < q1.toInt)) ∨ (¬ (q1.toInt < 65534) ∧ ¬ (65535 < q1.toInt)) ∨ (983039 < q1.toInt)) → g2_j94 q1 = 0) := by
  have ih := own_g2_j110 q1
  by_cases h0 : q1 < (8206 : Int32)
  · have _ := trivial
    rw [show g2_j94 q1 = (g2_j110 q1) from (if_pos h0)]
    simp only [Int32.lt_iff_toInt_lt, ← Int32.toInt_inj, Int32.reduceToInt] at h0
    exact ⟨fun q => ih.1 (by omega), fun q => ih.2 (by omega)⟩
  · have _ := trivial
    by_cases h1 : (8303 : Int32) < q1
    · have _ := trivial
      rw [show g2_j94 q1 = (g2_j110 q1) from ((if_neg h0).trans (if_pos h1))]
      simp only [Int32.lt_iff_toInt_lt, ← Int32.toInt_inj, Int32.reduceToInt] at h0 h1
      exact ⟨fun q => ih.1 (by omega), fun q => ih.2 (by omega)⟩
    · have _ := trivial
      rw [show g2_j94 q1 = (1 : Int32) from ((if_neg h0).trans (if_neg h1))]
      simp only [Int32.lt_iff_toInt_lt, ← Int32.toInt_inj, Int32.reduceToInt] at h0 h1
      exact ⟨fun _ => rfl, fun q => absurd (by omega) q⟩
theorem own_g2_j69 (q1 : Int32) : (((q1.toInt = 894) ∨ (¬ (q1.toInt = 894) ∧ ¬ (q1.toInt < 8192) ∧ ¬ (8203 < q1.toInt)) ∨ (¬ (q1.toInt < 8206) ∧ ¬ (8303 < q1.toInt)) ∨ (¬ (q1.toInt < 8592) ∧ ¬ (11263 < q1.toInt)) ∨ (¬ (q1.toInt < 12272) ∧ ¬ (12288 < q1.toInt)) ∨ (¬ (q1.toInt < 55296) ∧ ¬ (63743 < q1.toInt)) ∨ (¬ (q1.toInt < 64976) ∧ ¬ (65007 < q1.toInt)) ∨ (¬ (q1.toInt < 65534) ∧ ¬ (65535 < q1.toInt)) ∨ (983039 < q1.toInt)) → g2_j69 q1 = 1) ∧ (¬ ((q1.toInt = 894) ∨ (¬ (q1.toInt = 894) ∧ ¬ (q1.toInt < 8192) ∧ ¬ (8203 < q1.toInt)) ∨ (¬ (q1.toInt < 8206) ∧ ¬ (8303 < q1.toInt)) ∨ (¬ (q1.toInt < 8592) ∧ ¬ (11263 < q1.toInt)) ∨ (¬ (q1.toInt < 12272) ∧ ¬ (12288 < q1.toInt)) ∨ (¬ (q1.toInt < 55296) ∧ ¬ (63743 < q1.toInt)) ∨ (¬ (q1.toInt < 64976) ∧ ¬ (65007 < q1.toInt)) ∨ (¬ (q1.toInt < 65534) ∧ ¬ (65535 < q1.toInt)) ∨ (983039 < q1.toInt)) → g2_j69 q1 = 0) := by
  have ih := own_g2_j94 q1
  by_cases h0 : q1 = (894 : Int32)
  · have _ := trivial
    rw [show g2_j69 q1 = (1 : Int32) from (if_pos h0)]
    simp only [Int32.lt_iff_toInt_lt, ← Int32.toInt_inj, Int32.reduceToInt] at h0
    exact ⟨fun _ => rfl, fun q => absurd (by omega) q⟩
  · have _ := trivial
    by_cases h1 : q1 < (8192 : Int32)
    · have _ := trivial
      rw [show g2_j69 q1 = (g2_j94 q1) from ((if_neg h0).trans (if_pos h1))]
      simp only [Int32.lt_iff_toInt_lt, ← Int32.toInt_inj, Int32.reduceToInt] at h0 h1
      exact ⟨fun q => ih.1 (by omega), fun q => ih.2 (by omega)⟩
    · have _ := trivial
      by_cases h2 : (8203 : Int32) < q1
      · have _ := trivial
        rw [show g2_j69 q1 = (g2_j94 q1) from (((if_neg h0).trans (if_neg h1)).trans (if_pos h2))]
        simp only [Int32.lt_iff_toInt_lt, ← Int32.toInt_inj, Int32.reduceToInt] at h0 h1 h2
        exact ⟨fun q => ih.1 (by omega), fun q => ih.2 (by omega)⟩
      · have _ := trivial
        rw [show g2_j69 q1 = (1 : Int32) from (((if_neg h0).trans (if_neg h1)).trans (if_neg h2))]
        simp only [Int32.lt_iff_toInt_lt, ← Int32.toInt_inj, Int32.reduceToInt] at h0 h1 h2
        exact ⟨fun _ => rfl, fun q => absurd (by omega) q⟩
theorem own_g2_j37 (q1 : Int32) : (((q1.toInt = 215) ∨ (¬ (q1.toInt = 215) ∧ q1.toInt = 247) ∨ (¬ (q1.toInt = 215) ∧ ¬ (q1.toInt = 247) ∧ ¬ (q1.toInt < 768) ∧ ¬ (879 < q1.toInt)) ∨ (q1.toInt = 894) ∨ (¬ (q1.toInt = 894) ∧ ¬ (q1.toInt < 8192) ∧ ¬ (8203 < q1.toInt)) ∨ (¬ (q1.toInt < 8206) ∧ ¬ (8303 < q1.toInt)) ∨ (¬ (q1.toInt < 8592) ∧ ¬ (11263 < q1.toInt)) ∨ (¬ (q1.toInt < 12272) ∧ ¬ (12288 < q1.toInt)) ∨ (¬ (q1.toInt < 55296) ∧ ¬ (63743 < q1.toInt)) ∨ (¬ (q1.toInt < 64976) ∧ ¬ (65007 < q1.toInt)) ∨ (¬ (q1.toInt < 65534) ∧ ¬ (65535 < q1.toInt)) ∨ (983039 < q1.toInt)) → g2_j37 q1 = 1) ∧ (¬ ((q1.toInt = 215) ∨ (¬ (q1.toInt = 215) ∧ q1.toInt = 247) ∨ (¬ (q1.toInt = 215) ∧ ¬ (q1.toInt = 247) ∧ ¬ (q1.toInt < 768) ∧ ¬ (879 < q1.toInt)) ∨ (q1.toInt = 894) ∨ (¬ (q1.toInt = 894) ∧ ¬ (q1.toInt < 8192) ∧ ¬ (8203 < q1.toInt)) ∨ (¬ (q1.toInt < 8206) ∧ ¬ (8303 < q1.toInt)) ∨ (¬ (q1.toInt < 8592) ∧ ¬ (11263 < q1.toInt)) ∨ (¬ (q1.toInt < 12272) ∧ ¬ (12288 < q1.toInt)) ∨ (¬ (q1.toInt < 55296) ∧ ¬ (63743 < q1.toInt)) ∨ (¬ (q1.toInt < 64976) ∧ ¬ (65007 < q1.toInt)) ∨ (¬ (q1.toInt < 65534) ∧ ¬ (65535 < q1.toInt)) ∨ (983039 < q1.toInt)) → g2_j37 q1 = 0) := by
  have ih := own_g2_j69 q1
  by_cases h0 : q1 = (215 : Int32)
  · have _ := trivial
    rw [show g2_j37 q1 = (1 : Int32) from (if_pos h0)]
    simp only [Int32.lt_iff_toInt_lt, ← Int32.toInt_inj, Int32.reduceToInt] at h0
    exact ⟨fun _ => rfl, fun q => absurd (by omega) q⟩
  · have _ := trivial
    by_cases h1 : q1 = (247 : Int32)
    · have _ := trivial
      rw [show g2_j37 q1 = (1 : Int32) from ((if_neg h0).trans (if_pos h1))]
      simp only [Int32.lt_iff_toInt_lt, ← Int32.toInt_inj, Int32.reduceToInt] at h0 h1
      exact ⟨fun _ => rfl, fun q => absurd (by omega) q⟩
    · have _ := trivial
      by_cases h2 : q1 < (768 : Int32)
      · have _ := trivial
        rw [show g2_j37 q1 = (g2_j69 q1) from (((if_neg h0).trans (if_neg h1)).trans (if_pos h2))]
        simp only [Int32.lt_iff_toInt_lt, ← Int32.toInt_inj, Int32.reduceToInt] at h0 h1 h2
        exact ⟨fun q => ih.1 (by omega), fun q => ih.2 (by omega)⟩
      · have _ := trivial
        by_cases h3 : (879 : Int32) < q1
        · have _ := trivial
          rw [show g2_j37 q1 = (g2_j69 q1) from ((((if_neg h0).trans (if_neg h1)).trans (if_neg h2)).trans (if_pos h3))]
          simp only [Int32.lt_iff_toInt_lt, ← Int32.toInt_inj, Int32.reduceToInt] at h0 h1 h2 h3
          exact ⟨fun q => ih.1 (by omega), fun q => ih.2 (by omega)⟩
        · have _ := trivial
          rw [show g2_j37 q1 = (1 : Int32) from ((((if_neg h0).trans (if_neg h1)).trans (if_neg h2)).trans (if_neg h3))]
          simp only [Int32.lt_iff_toInt_lt, ← Int32.toInt_inj, Int32.reduceToInt] at h0 h1 h2 h3
          exact ⟨fun _ => rfl, fun q => absurd (by omega) q⟩
theorem own_g2_j22 (q1 : Int32) : (((¬ (q1.toInt < 123) ∧ ¬ (191 < q1.toInt)) ∨ (q1.toInt = 215) ∨ (¬ (q1.toInt = 215) ∧ q1.toInt = 247) ∨ (¬ (q1.toInt = 215) ∧ ¬ (q1.toInt = 247) ∧ ¬ (q1.toInt < 768) ∧ ¬ (879 < q1.toInt)) ∨ (q1.toInt = 894) ∨ (¬ (q1.toInt = 894) ∧ ¬ (q1.toInt < 8192) ∧ ¬ (8203 < q1.toInt)) ∨ (¬ (q1.toInt < 8206) ∧ ¬ (8303 < q1.toInt)) ∨ (¬ (q1.toInt < 8592) ∧ ¬ (11263 < q1.toInt)) ∨ (¬ (q1.toInt < 12272) ∧ ¬ (12288 < q1.toInt)) ∨ (¬ (q1.toInt < 55296) ∧ ¬ (63743 < q1.toInt)) ∨ (¬ (q1.toInt < 64976) ∧ ¬ (65007 < q1.toInt)) ∨ (¬ (q1.toInt < 65534) ∧ ¬ (65535 < q1.toInt)) ∨ (983039 < q1.toInt)) → g2_j22 q1 = 1) ∧ (¬ ((¬ (q1.toInt < 123) ∧ ¬ (191 < q1.toInt)) ∨ (q1.toInt = 215) ∨ (¬ (q1.toInt = 215) ∧ q1.toInt = 247) ∨ (¬ (q1.toInt = 215) ∧ ¬ (q1.toInt = 247) ∧ ¬ (q1.toInt < 768) ∧ ¬ (879 < q1.toInt)) ∨ (q1.toInt = 894) ∨ (¬ (q1.toInt = 894) ∧ ¬ (q1.toInt < 8192) ∧ ¬ (8203 < q1.toInt)) ∨ (¬ (q1.toInt < 8206) ∧ ¬ (8303 < q1.toInt)) ∨ (¬ (q1.toInt < 8592) ∧ ¬ (11263 < q1.toInt)) ∨ (¬ (q1.toInt < 12272) ∧ ¬ (12288 < q1.toInt)) ∨ (¬ (q1.toInt < 55296) ∧ ¬ (63743 < q1.toInt)) ∨ (¬ (q1.toInt < 64976) ∧ ¬ (65007 < q1.toInt)) ∨ (¬ (q1.toInt < 65534) ∧ ¬ (65535 < q1.toInt)) ∨ (983039 < q1.toInt)) → g2_j22 q1 = 0) := by
  have ih := own_g2_j37 q1
  by_cases h0 : q1 < (123 : Int32)
  · have _ := trivial
    rw [show g2_j22 q1 = (g2_j37 q1) from (if_pos h0)]
    simp only [Int32.lt_iff_toInt_lt, ← Int32.toInt_inj, Int32.reduceToInt] at h0
    exact ⟨fun q => ih.1 (by omega), fun q => ih.2 (by omega)⟩
  · have _ := trivial
    by_cases h1 : (191 : Int32) < q1
    · have _ := trivial
      rw [show g2_j22 q1 = (g2_j37 q1) from ((if_neg h0).trans (if_pos h1))]
      simp only [Int32.lt_iff_toInt_lt, ← Int32.toInt_inj, Int32.reduceToInt] at h0 h1
      exact ⟨fun q => ih.1 (by omega), fun q => ih.2 (by omega)⟩
    · have _ := trivial
      rw [show g2_j22 q1 = (1 : Int32) from ((if_neg h0).trans (if_neg h1))]
      simp only [Int32.lt_iff_toInt_lt, ← Int32.toInt_inj, Int32.reduceToInt] at h0 h1
      exact ⟨fun _ => rfl, fun q => absurd (by omega) q⟩
theorem own_f2 (q1 : Int32) : (((q1.toInt < 65) ∨ (¬ (q1.toInt < 65) ∧ ¬ (q1.toInt < 91) ∧ ¬ (96 < q1.toInt)) ∨ (¬ (q1.toInt < 123) ∧ ¬ (191 < q1.toInt)) ∨ (q1.toInt = 215) ∨ (¬ (q1.toInt = 215) ∧ q1.toInt = 247) ∨ (¬ (q1.toInt = 215) ∧ ¬ (q1.toInt = 247) ∧ ¬ (q1.toInt < 768) ∧ ¬ (879 < q1.toInt)) ∨ (q1.toInt = 894) ∨ (¬ (q1.toInt = 894) ∧ ¬ (q1.toInt < 8192) ∧ ¬ (8203 < q1.toInt)) ∨ (¬ (q1.toInt < 8206) ∧ ¬ (8303 < q1.toInt)) ∨ (¬ (q1.toInt < 8592) ∧ ¬ (11263 < q1.toInt)) ∨ (¬ (q1.toInt < 12272) ∧ ¬ (12288 < q1.toInt)) ∨ (¬ (q1.toInt < 55296) ∧ ¬ (63743 < q1.toInt)) ∨ (¬ (q1.toInt < 64976) ∧ ¬ (65007 < q1.toInt)) ∨ (¬ (q1.toInt < 65534) ∧ ¬ (65535 < q1.toInt)) ∨ (983039 < q1.toInt)) → f2 q1 = 1) ∧ (¬ ((q1.toInt < 65) ∨ (¬ (q1.toInt < 65) ∧ ¬ (q1.toInt < 91) ∧ ¬ (96 < q1.toInt)) ∨ (¬ (q1.toInt < 123) ∧ ¬ (191 < q1.toInt)) ∨ (q1.toInt = 215) ∨ (¬ (q1.toInt = 215) ∧ q1.toInt = 247) ∨ (¬ (q1.toInt = 215) ∧ ¬ (q1.toInt = 247) ∧ ¬ (q1.toInt < 768) ∧ ¬ (879 < q1.toInt)) ∨ (q1.toInt = 894) ∨ (¬ (q1.toInt = 894) ∧ ¬ (q1.toInt < 8192) ∧ ¬ (8203 < q1.toInt)) ∨ (¬ (q1.toInt < 8206) ∧ ¬ (8303 < q1.toInt)) ∨ (¬ (q1.toInt < 8592) ∧ ¬ (11263 < q1.toInt)) ∨ (¬ (q1.toInt < 12272) ∧ ¬ (12288 < q1.toInt)) ∨ (¬ (q1.toInt < 55296) ∧ ¬ (63743 < q1.toInt)) ∨ (¬ (q1.toInt < 64976) ∧ ¬ (65007 < q1.toInt)) ∨ (¬ (q1.toInt < 65534) ∧ ¬ (65535 < q1.toInt)) ∨ (983039 < q1.toInt)) → f2 q1 = 0) := by
  have ih := own_g2_j22 q1
  by_cases h0 : q1 < (65 : Int32)
  · have _ := trivial
    rw [show f2 q1 = (1 : Int32) from (if_pos h0)]
    simp only [Int32.lt_iff_toInt_lt, ← Int32.toInt_inj, Int32.reduceToInt] at h0
    exact ⟨fun _ => rfl, fun q => absurd (by omega) q⟩
  · have _ := trivial
    by_cases h1 : q1 < (91 : Int32)
    · have _ := trivial
      rw [show f2 q1 = (g2_j22 q1) from ((if_neg h0).trans (if_pos h1))]
      simp only [Int32.lt_iff_toInt_lt, ← Int32.toInt_inj, Int32.reduceToInt] at h0 h1
      exact ⟨fun q => ih.1 (by omega), fun q => ih.2 (by omega)⟩
    · have _ := trivial
      by_cases h2 : (96 : Int32) < q1
      · have _ := trivial
        rw [show f2 q1 = (g2_j22 q1) from (((if_neg h0).trans (if_neg h1)).trans (if_pos h2))]
        simp only [Int32.lt_iff_toInt_lt, ← Int32.toInt_inj, Int32.reduceToInt] at h0 h1 h2
        exact ⟨fun q => ih.1 (by omega), fun q => ih.2 (by omega)⟩
      · have _ := trivial
        rw [show f2 q1 = (1 : Int32) from (((if_neg h0).trans (if_neg h1)).trans (if_neg h2))]
        simp only [Int32.lt_iff_toInt_lt, ← Int32.toInt_inj, Int32.reduceToInt] at h0 h1 h2
        exact ⟨fun _ => rfl, fun q => absurd (by omega) q⟩
theorem own_alt (q1 : Int32) : (f1 q1 = 1 ∧ f2 q1 = 0) ∨ (f1 q1 = 0 ∧ f2 q1 = 1) := by
  have h1 := own_f1 q1
  have h2 := own_f2 q1
  by_cases k : (¬ (q1.toInt < 65) ∧ ¬ (90 < q1.toInt)) ∨ (¬ (q1.toInt < 97) ∧ ¬ (122 < q1.toInt)) ∨ (¬ (q1.toInt < 192) ∧ ¬ (214 < q1.toInt)) ∨ (¬ (q1.toInt < 216) ∧ ¬ (246 < q1.toInt)) ∨ (¬ (q1.toInt < 248) ∧ ¬ (767 < q1.toInt)) ∨ (¬ (q1.toInt < 880) ∧ ¬ (893 < q1.toInt)) ∨ (¬ (q1.toInt < 895) ∧ ¬ (8191 < q1.toInt)) ∨ (¬ (q1.toInt < 8204) ∧ ¬ (8205 < q1.toInt)) ∨ (¬ (q1.toInt < 8304) ∧ ¬ (8591 < q1.toInt)) ∨ (¬ (q1.toInt < 11264) ∧ ¬ (12271 < q1.toInt)) ∨ (¬ (q1.toInt < 12289) ∧ ¬ (55295 < q1.toInt)) ∨ (¬ (q1.toInt < 63744) ∧ ¬ (64975 < q1.toInt)) ∨ (¬ (q1.toInt < 65008) ∧ ¬ (65533 < q1.toInt)) ∨ (¬ (q1.toInt < 65536) ∧ ¬ (983039 < q1.toInt))
  · exact Or.inl ⟨h1.1 k, h2.2 (by omega)⟩
  · exact Or.inr ⟨h1.2 k, h2.1 (by omega)⟩
theorem own_225 (q1 q2 q3 x : Int32) : g0_j225 q1 q2 q3 x 1 = 1 := by
  rcases own_alt x with ⟨k1, k2⟩ | ⟨k1, k2⟩ <;> simp +decide [g0_262_1, g0_257_2, g0_j253, g0_245_3, g0_j245, g0_237_4, g0_j225, g0_217_5, g0_j217, g0_209_6, k1, k2]
theorem law_eq (q1 q2 q3 w : Int32) : g0_209_6 q1 q2 q3 w = 1 := by
  rcases own_alt q1 with ⟨k1, k2⟩ | ⟨k1, k2⟩
  · simp only [g0_209_6, g0_j217, g0_217_5, k1, k2, own_225, reduceIte]
  · have e1 : ¬ (1 : Int32) = 0 := by decide
    simp only [g0_209_6, g0_j217, g0_217_5, k1, k2, own_225, e1, reduceIte]
set_option maxRecDepth 65536 in
set_option maxHeartbeats 40000000 in
theorem rm0 (l : Launch) (Z : State) (a0 : Array Value) (hw : ∀ d ∈ tables_1, d.before a0 Z = true) (ws : List Jvm.Cond) (q1 : Int32) (q2 : Int32) (q3 : Int32) (h0 : Heap) (n0 : Nat) (Z0 : n0 ≤ h0.size) :
    MetFree l x (head1 (Jvm.Cond.code x code maxLocals ret :: ws) room_1) (fun a U => a = #[(.int q1), (.int q2), (.int q3)] ∧ Z.Warmed39 U.vm ∧ U.heap = h0) (fun _ _ _ _ _ => True) (fun _ U o U' => ∃ v L, o = .returned v ∧ PF n0 1 v U'.heap L ∧ FrameEnd U o U' L room_1.cells room_1.slots) := by
  refine MetFree.of_bodySF (plainFor_of_name pn0) hisR ?_
  intro p e s m args below meth c s₁ Bd hml0 hP hK
  obtain ⟨rfl, hZ, hh⟩ := hP
  have hx := Bd.exec
  have hby := Bd.bytes
  have hml : c.maxLocals = 7 := hml0
  have hown : s.vm.findClass "com/example/triadne/triadne/TerminalsIsPnCharsBasePinLaw" = some m.cls := findClass_of_methodNamed Bd.named
  have X0 : Stand p l e room_1 s m #[(.int q1), (.int q2), (.int q3)] below meth c s₁ [] 0 0 := Stand.of_body Bd
  have e0 : s₁.heap = h0 := by rw [← hh, Bd.state]; rfl
  have N0 := Fr.nil n0
  show OGo p e below (Out s room_1.cells room_1.slots (PF n0 1)) (s₁.setTop (entryFrame m #[(.int q1), (.int q2), (.int q3)] maxLocals))
  have J253 : ∀ (T : State) (locs : List Loc) (hT : Heap) (X : Stand p l e room_1 s m #[(.int q1), (.int q2), (.int q3)] below meth c T locs 1 28) (eT : T.heap = hT) (N : Fr n0 locs) (ZT : n0 ≤ hT.size) (j253_l3 : Addr) (j253_l4 : Int32) (j253_l5 : Int32) (j253_s0 : Int32), OGo p e below (Out s room_1.cells room_1.slots (PF n0 (g0_j253 q1 q2 q3 j253_l4 j253_l5 j253_s0))) (T.setTop (mkF m 253 #[.val (.int q1), .val (.int q2), .val (.int q3), .val (.ref j253_l3), .val (.int j253_l4), .val (.int j253_l5), .unset] [(.int j253_s0)])) := by
    intro T locs hT X eT N ZT j253_l3 j253_l4 j253_l5 j253_s0
    show OGo p e below (Out s room_1.cells room_1.slots (PF n0 (g0_257_2 q1 q2 q3 j253_l4 j253_l5 j253_s0))) (T.setTop (mkF m 253 #[.val (.int q1), .val (.int q2), .val (.int q3), .val (.ref j253_l3), .val (.int j253_l4), .val (.int j253_l5), .unset] [(.int j253_s0)]))
    refine OGo.st (fun t k => XS.istore X.here hx rfl (hb hby at_253) rfl (l' := #[.val (.int q1), .val (.int q2), .val (.int q3), .val (.ref j253_l3), .val (.int j253_l4), .val (.int j253_l5), .val (.int j253_s0)]) rfl k) ?_
    show OGo p e below _ (T.setTop (mkF m 255 #[.val (.int q1), .val (.int q2), .val (.int q3), .val (.ref j253_l3), .val (.int j253_l4), .val (.int j253_l5), .val (.int j253_s0)] []))
    refine OGo.st (fun t k => XS.iload X.here hx rfl (hb hby at_255) rfl k) ?_
    show OGo p e below _ (T.setTop (mkF m 257 #[.val (.int q1), .val (.int q2), .val (.int q3), .val (.ref j253_l3), .val (.int j253_l4), .val (.int j253_l5), .val (.int j253_s0)] [(.int j253_l5)]))
    by_cases hc257_1 : j253_l5 = (0 : Int32)
    · refine OGo.eqvF (show (g0_257_2 q1 q2 q3 j253_l4 j253_l5 j253_s0) = (0 : Int32) from if_pos hc257_1) ?_
      refine OGo.st (fun t k => XS.ifYes X.here hx rfl (pc0 := 257) (pc' := 269) rfl (hb hby at_257) rfl ((if0 _ _).trans (teq hc257_1).1) (by decide) (by decide) k) ?_
      show OGo p e below _ (T.setTop (mkF m 269 #[.val (.int q1), .val (.int q2), .val (.int q3), .val (.ref j253_l3), .val (.int j253_l4), .val (.int j253_l5), .val (.int j253_s0)] []))
      refine OGo.st (fun t k => XS.iconst X.here hx rfl (hb hby at_269) k) ?_
      show OGo p e below _ (T.setTop (mkF m 270 #[.val (.int q1), .val (.int q2), .val (.int q3), .val (.ref j253_l3), .val (.int j253_l4), .val (.int j253_l5), .val (.int j253_s0)] [(.int (0 : Int32))]))
      exact OGo.outN X hx (t := .boolean) Bd.returns (by simp) Bd.notSynchronized (hb hby at_270) ⟨rfl, N⟩ (by decide) (by decide)
    · refine OGo.eqvF (show (g0_257_2 q1 q2 q3 j253_l4 j253_l5 j253_s0) = (g0_262_1 q1 q2 q3 j253_l4 j253_l5 j253_s0) from if_neg hc257_1) ?_
      refine OGo.st (fun t k => XS.ifNo X.here hx rfl (hb hby at_257) rfl ((if0 _ _).trans (feq hc257_1).1) k) ?_
      show OGo p e below _ (T.setTop (mkF m 260 #[.val (.int q1), .val (.int q2), .val (.int q3), .val (.ref j253_l3), .val (.int j253_l4), .val (.int j253_l5), .val (.int j253_s0)] []))
      refine OGo.st (fun t k => XS.iload X.here hx rfl (hb hby at_260) rfl k) ?_
      show OGo p e below _ (T.setTop (mkF m 262 #[.val (.int q1), .val (.int q2), .val (.int q3), .val (.ref j253_l3), .val (.int j253_l4), .val (.int j253_l5), .val (.int j253_s0)] [(.int j253_s0)]))
      by_cases hc262_2 : j253_s0 = (0 : Int32)
      · refine OGo.eqvF (show (g0_262_1 q1 q2 q3 j253_l4 j253_l5 j253_s0) = (0 : Int32) from if_pos hc262_2) ?_
        refine OGo.st (fun t k => XS.ifYes X.here hx rfl (pc0 := 262) (pc' := 269) rfl (hb hby at_262) rfl ((if0 _ _).trans (teq hc262_2).1) (by decide) (by decide) k) ?_
        show OGo p e below _ (T.setTop (mkF m 269 #[.val (.int q1), .val (.int q2), .val (.int q3), .val (.ref j253_l3), .val (.int j253_l4), .val (.int j253_l5), .val (.int j253_s0)] []))
        refine OGo.st (fun t k => XS.iconst X.here hx rfl (hb hby at_269) k) ?_
        show OGo p e below _ (T.setTop (mkF m 270 #[.val (.int q1), .val (.int q2), .val (.int q3), .val (.ref j253_l3), .val (.int j253_l4), .val (.int j253_l5), .val (.int j253_s0)] [(.int (0 : Int32))]))
        exact OGo.outN X hx (t := .boolean) Bd.returns (by simp) Bd.notSynchronized (hb hby at_270) ⟨rfl, N⟩ (by decide) (by decide)
      · refine OGo.eqvF (show (g0_262_1 q1 q2 q3 j253_l4 j253_l5 j253_s0) = (1 : Int32) from if_neg hc262_2) ?_
        refine OGo.st (fun t k => XS.ifNo X.here hx rfl (hb hby at_262) rfl ((if0 _ _).trans (feq hc262_2).1) k) ?_
        show OGo p e below _ (T.setTop (mkF m 265 #[.val (.int q1), .val (.int q2), .val (.int q3), .val (.ref j253_l3), .val (.int j253_l4), .val (.int j253_l5), .val (.int j253_s0)] []))
        refine OGo.st (fun t k => XS.iconst X.here hx rfl (hb hby at_265) k) ?_
        show OGo p e below _ (T.setTop (mkF m 266 #[.val (.int q1), .val (.int q2), .val (.int q3), .val (.ref j253_l3), .val (.int j253_l4), .val (.int j253_l5), .val (.int j253_s0)] [(.int (1 : Int32))]))
        refine OGo.st (fun t k => XS.goto X.here hx rfl (pc0 := 266) (pc' := 270) rfl (hb hby at_266) (by decide) (by decide) k) ?_
        show OGo p e below _ (T.setTop (mkF m 270 #[.val (.int q1), .val (.int q2), .val (.int q3), .val (.ref j253_l3), .val (.int j253_l4), .val (.int j253_l5), .val (.int j253_s0)] [(.int (1 : Int32))]))
        exact OGo.outN X hx (t := .boolean) Bd.returns (by simp) Bd.notSynchronized (hb hby at_270) ⟨rfl, N⟩ (by decide) (by decide)
  have J245 : ∀ (T : State) (locs : List Loc) (hT : Heap) (X : Stand p l e room_1 s m #[(.int q1), (.int q2), (.int q3)] below meth c T locs 1 28) (eT : T.heap = hT) (N : Fr n0 locs) (ZT : n0 ≤ hT.size) (j245_l3 : Addr) (j245_l4 : Int32) (j245_l5 : Int32) (j245_s0 : Int32) (j245_s1 : Int32), OGo p e below (Out s room_1.cells room_1.slots (PF n0 (g0_j245 q1 q2 q3 j245_l4 j245_l5 j245_s0 j245_s1))) (T.setTop (mkF m 245 #[.val (.int q1), .val (.int q2), .val (.int q3), .val (.ref j245_l3), .val (.int j245_l4), .val (.int j245_l5), .unset] [(.int j245_s0), (.int j245_s1)])) := by
    intro T locs hT X eT N ZT j245_l3 j245_l4 j245_l5 j245_s0 j245_s1
    show OGo p e below (Out s room_1.cells room_1.slots (PF n0 (g0_245_3 q1 q2 q3 j245_l4 j245_l5 j245_s0 j245_s1))) (T.setTop (mkF m 245 #[.val (.int q1), .val (.int q2), .val (.int q3), .val (.ref j245_l3), .val (.int j245_l4), .val (.int j245_l5), .unset] [(.int j245_s0), (.int j245_s1)]))
    by_cases hc245_3 : j245_s1 = j245_s0
    · refine OGo.eqvF (show (g0_245_3 q1 q2 q3 j245_l4 j245_l5 j245_s0 j245_s1) = (g0_j253 q1 q2 q3 j245_l4 j245_l5 (1 : Int32)) from if_pos hc245_3) ?_
      refine OGo.st (fun t k => XS.icmpNo X.here hx rfl (hb hby at_245) rfl (teq hc245_3).2 k) ?_
      show OGo p e below _ (T.setTop (mkF m 248 #[.val (.int q1), .val (.int q2), .val (.int q3), .val (.ref j245_l3), .val (.int j245_l4), .val (.int j245_l5), .unset] []))
      refine OGo.st (fun t k => XS.iconst X.here hx rfl (hb hby at_248) k) ?_
      show OGo p e below _ (T.setTop (mkF m 249 #[.val (.int q1), .val (.int q2), .val (.int q3), .val (.ref j245_l3), .val (.int j245_l4), .val (.int j245_l5), .unset] [(.int (1 : Int32))]))
      refine OGo.st (fun t k => XS.goto X.here hx rfl (pc0 := 249) (pc' := 253) rfl (hb hby at_249) (by decide) (by decide) k) ?_
      show OGo p e below _ (T.setTop (mkF m 253 #[.val (.int q1), .val (.int q2), .val (.int q3), .val (.ref j245_l3), .val (.int j245_l4), .val (.int j245_l5), .unset] [(.int (1 : Int32))]))
      exact J253 T _ hT X eT N ZT j245_l3 j245_l4 j245_l5 (1 : Int32)
    · refine OGo.eqvF (show (g0_245_3 q1 q2 q3 j245_l4 j245_l5 j245_s0 j245_s1) = (g0_j253 q1 q2 q3 j245_l4 j245_l5 (0 : Int32)) from if_neg hc245_3) ?_
      refine OGo.st (fun t k => XS.icmpYes X.here hx rfl (pc0 := 245) (pc' := 252) rfl (hb hby at_245) rfl (feq hc245_3).2 (by decide) (by decide) k) ?_
      show OGo p e below _ (T.setTop (mkF m 252 #[.val (.int q1), .val (.int q2), .val (.int q3), .val (.ref j245_l3), .val (.int j245_l4), .val (.int j245_l5), .unset] []))
      refine OGo.st (fun t k => XS.iconst X.here hx rfl (hb hby at_252) k) ?_
      show OGo p e below _ (T.setTop (mkF m 253 #[.val (.int q1), .val (.int q2), .val (.int q3), .val (.ref j245_l3), .val (.int j245_l4), .val (.int j245_l5), .unset] [(.int (0 : Int32))]))
      exact J253 T _ hT X eT N ZT j245_l3 j245_l4 j245_l5 (0 : Int32)
  have J225 : ∀ (T : State) (locs : List Loc) (hT : Heap) (X : Stand p l e room_1 s m #[(.int q1), (.int q2), (.int q3)] below meth c T locs 1 28) (eT : T.heap = hT) (N : Fr n0 locs) (ZT : n0 ≤ hT.size) (j225_l3 : Addr) (j225_l4 : Int32) (j225_s0 : Int32), OGo p e below (Out s room_1.cells room_1.slots (PF n0 (g0_j225 q1 q2 q3 j225_l4 j225_s0))) (T.setTop (mkF m 225 #[.val (.int q1), .val (.int q2), .val (.int q3), .val (.ref j225_l3), .val (.int j225_l4), .unset, .unset] [(.int j225_s0)])) := by
    intro T locs hT X eT N ZT j225_l3 j225_l4 j225_s0
    show OGo p e below (Out s room_1.cells room_1.slots (PF n0 (g0_237_4 q1 q2 q3 j225_l4 j225_s0))) (T.setTop (mkF m 225 #[.val (.int q1), .val (.int q2), .val (.int q3), .val (.ref j225_l3), .val (.int j225_l4), .unset, .unset] [(.int j225_s0)]))
    refine OGo.st (fun t k => XS.istore X.here hx rfl (hb hby at_225) rfl (l' := #[.val (.int q1), .val (.int q2), .val (.int q3), .val (.ref j225_l3), .val (.int j225_l4), .val (.int j225_s0), .unset]) rfl k) ?_
    show OGo p e below _ (T.setTop (mkF m 227 #[.val (.int q1), .val (.int q2), .val (.int q3), .val (.ref j225_l3), .val (.int j225_l4), .val (.int j225_s0), .unset] []))
    refine OGo.st (fun t k => XS.iload X.here hx rfl (hb hby at_227) rfl k) ?_
    show OGo p e below _ (T.setTop (mkF m 229 #[.val (.int q1), .val (.int q2), .val (.int q3), .val (.ref j225_l3), .val (.int j225_l4), .val (.int j225_s0), .unset] [(.int j225_l4)]))
    obtain ⟨_, _, ⟨T4, L4, k4, n4⟩, -, X4, ⟨Lc4, hQ4, l4, y4, z4⟩, st4⟩ := Jvm.LawKit.callS X hx (y := (⟨"com/example/triadne/triadne/Terminals", "isPnCharsBase", "(I)Z"⟩ : MethodName)) hown (mvT hZ (hw _ (List.mem_of_getElem? (i := 9) rfl))) (mvT hZ (hw _ (List.mem_of_getElem? (i := 10) rfl))) (mvT hZ (hw _ (List.mem_of_getElem? (i := 11) rfl))) (mvT hZ (hw _ (List.mem_of_getElem? (i := 12) rfl))) (by decide) (backOf (W := 0) (rm1 l Z a0 hw [] j225_l4 hT n0 ZT) hZ (hw _ (List.mem_of_getElem? (i := 12) rfl)) (hw _ (List.mem_of_getElem? (i := 11) rfl)) (by decide) (by decide)) (g := (mkF m 229 #[.val (.int q1), .val (.int q2), .val (.int q3), .val (.ref j225_l3), .val (.int j225_l4), .val (.int j225_s0), .unset] [(.int j225_l4)])) rfl (by rw [hml]; rfl) (argsL := [(.int j225_l4)]) (rest := []) (lenOf pd0_0 rfl) rfl (by show 2 * 0 + _ ≤ _; exact Nat.le_of_eq rfl) (hb hby at_229) (fun _ _ => ⟨rfl, eT, (by decide : 1 + 0 ≤ _), (by decide : 28 + 0 ≤ _)⟩)
    dsimp only [Pt.U, Pt.locs, Pt.cells, Pt.slots] at X4 l4 y4 z4 st4 hQ4
    subst l4 y4 z4
    obtain ⟨rfl, Nq4, e4⟩ := hQ4
    have N4 := Fr.app N Nq4
    obtain ⟨lo4, X4, N4⟩ : ∃ L, Stand p l e room_1 s m #[(.int q1), (.int q2), (.int q3)] below meth c T4 L 1 28 ∧ Fr n0 L := ⟨_, X4, N4⟩
    refine OGo.st (fun t k => st4 t k) ?_
    show OGo p e below _ (T4.setTop (mkF m 232 #[.val (.int q1), .val (.int q2), .val (.int q3), .val (.ref j225_l3), .val (.int j225_l4), .val (.int j225_s0), .unset] [(.int (f1 j225_l4))]))
    refine OGo.st (fun t k => XS.iload X4.here hx rfl (hb hby at_232) rfl k) ?_
    show OGo p e below _ (T4.setTop (mkF m 234 #[.val (.int q1), .val (.int q2), .val (.int q3), .val (.ref j225_l3), .val (.int j225_l4), .val (.int j225_s0), .unset] [(.int j225_l4), (.int (f1 j225_l4))]))
    obtain ⟨_, _, ⟨T5, L5, k5, n5⟩, -, X5, ⟨Lc5, hQ5, l5, y5, z5⟩, st5⟩ := Jvm.LawKit.callS X4 hx (y := (⟨"com/example/triadne/triadne/TerminalsIsPnCharsBasePinLaw", "inGap", "(I)Z"⟩ : MethodName)) hown (mvT hZ (hw _ (List.mem_of_getElem? (i := 16) rfl))) (mvT hZ (hw _ (List.mem_of_getElem? (i := 17) rfl))) (mvT hZ (hw _ (List.mem_of_getElem? (i := 18) rfl))) (mvT hZ (hw _ (List.mem_of_getElem? (i := 19) rfl))) (by decide) (backOf (W := 1) (rm2 l Z a0 hw [] j225_l4 hT n0 ZT) hZ (hw _ (List.mem_of_getElem? (i := 19) rfl)) (hw _ (List.mem_of_getElem? (i := 18) rfl)) (by decide) (by decide)) (g := (mkF m 234 #[.val (.int q1), .val (.int q2), .val (.int q3), .val (.ref j225_l3), .val (.int j225_l4), .val (.int j225_s0), .unset] [(.int j225_l4), (.int (f1 j225_l4))])) rfl (by rw [hml]; rfl) (argsL := [(.int j225_l4)]) (rest := [(.int (f1 j225_l4))]) (lenOf pd0_0 rfl) rfl (by show 2 * 0 + _ ≤ _; exact Nat.le_of_eq rfl) (hb hby at_234) (fun _ _ => ⟨rfl, e4, (by decide : 1 + 0 ≤ _), (by decide : 28 + 0 ≤ _)⟩)
    dsimp only [Pt.U, Pt.locs, Pt.cells, Pt.slots] at X5 l5 y5 z5 st5 hQ5
    subst l5 y5 z5
    obtain ⟨rfl, Nq5, e5⟩ := hQ5
    have N5 := Fr.app N4 Nq5
    obtain ⟨lo5, X5, N5⟩ : ∃ L, Stand p l e room_1 s m #[(.int q1), (.int q2), (.int q3)] below meth c T5 L 1 28 ∧ Fr n0 L := ⟨_, X5, N5⟩
    refine OGo.st (fun t k => st5 t k) ?_
    show OGo p e below _ (T5.setTop (mkF m 237 #[.val (.int q1), .val (.int q2), .val (.int q3), .val (.ref j225_l3), .val (.int j225_l4), .val (.int j225_s0), .unset] [(.int (f2 j225_l4)), (.int (f1 j225_l4))]))
    by_cases hc237_6 : (f2 j225_l4) = (0 : Int32)
    · refine OGo.eqvF (show (g0_237_4 q1 q2 q3 j225_l4 j225_s0) = (g0_j245 q1 q2 q3 j225_l4 j225_s0 (1 : Int32) (f1 j225_l4)) from if_pos hc237_6) ?_
      refine OGo.st (fun t k => XS.ifNo X5.here hx rfl (hb hby at_237) rfl ((if0 _ _).trans (teq hc237_6).2) k) ?_
      show OGo p e below _ (T5.setTop (mkF m 240 #[.val (.int q1), .val (.int q2), .val (.int q3), .val (.ref j225_l3), .val (.int j225_l4), .val (.int j225_s0), .unset] [(.int (f1 j225_l4))]))
      refine OGo.st (fun t k => XS.iconst X5.here hx rfl (hb hby at_240) k) ?_
      show OGo p e below _ (T5.setTop (mkF m 241 #[.val (.int q1), .val (.int q2), .val (.int q3), .val (.ref j225_l3), .val (.int j225_l4), .val (.int j225_s0), .unset] [(.int (1 : Int32)), (.int (f1 j225_l4))]))
      refine OGo.st (fun t k => XS.goto X5.here hx rfl (pc0 := 241) (pc' := 245) rfl (hb hby at_241) (by decide) (by decide) k) ?_
      show OGo p e below _ (T5.setTop (mkF m 245 #[.val (.int q1), .val (.int q2), .val (.int q3), .val (.ref j225_l3), .val (.int j225_l4), .val (.int j225_s0), .unset] [(.int (1 : Int32)), (.int (f1 j225_l4))]))
      exact J245 T5 _ hT X5 e5 N5 ZT j225_l3 j225_l4 j225_s0 (1 : Int32) (f1 j225_l4)
    · refine OGo.eqvF (show (g0_237_4 q1 q2 q3 j225_l4 j225_s0) = (g0_j245 q1 q2 q3 j225_l4 j225_s0 (0 : Int32) (f1 j225_l4)) from if_neg hc237_6) ?_
      refine OGo.st (fun t k => XS.ifYes X5.here hx rfl (pc0 := 237) (pc' := 244) rfl (hb hby at_237) rfl ((if0 _ _).trans (feq hc237_6).2) (by decide) (by decide) k) ?_
      show OGo p e below _ (T5.setTop (mkF m 244 #[.val (.int q1), .val (.int q2), .val (.int q3), .val (.ref j225_l3), .val (.int j225_l4), .val (.int j225_s0), .unset] [(.int (f1 j225_l4))]))
      refine OGo.st (fun t k => XS.iconst X5.here hx rfl (hb hby at_244) k) ?_
      show OGo p e below _ (T5.setTop (mkF m 245 #[.val (.int q1), .val (.int q2), .val (.int q3), .val (.ref j225_l3), .val (.int j225_l4), .val (.int j225_s0), .unset] [(.int (0 : Int32)), (.int (f1 j225_l4))]))
      exact J245 T5 _ hT X5 e5 N5 ZT j225_l3 j225_l4 j225_s0 (0 : Int32) (f1 j225_l4)
  have J217 : ∀ (T : State) (locs : List Loc) (hT : Heap) (X : Stand p l e room_1 s m #[(.int q1), (.int q2), (.int q3)] below meth c T locs 1 28) (eT : T.heap = hT) (N : Fr n0 locs) (ZT : n0 ≤ hT.size) (j217_l3 : Addr) (j217_l4 : Int32) (j217_s0 : Int32), OGo p e below (Out s room_1.cells room_1.slots (PF n0 (g0_j217 q1 q2 q3 j217_l4 j217_s0))) (T.setTop (mkF m 217 #[.val (.int q1), .val (.int q2), .val (.int q3), .val (.ref j217_l3), .val (.int j217_l4), .unset, .unset] [(.int j217_s0), (.int (f1 q1))])) := by
    intro T locs hT X eT N ZT j217_l3 j217_l4 j217_s0
    show OGo p e below (Out s room_1.cells room_1.slots (PF n0 (g0_217_5 q1 q2 q3 j217_l4 j217_s0))) (T.setTop (mkF m 217 #[.val (.int q1), .val (.int q2), .val (.int q3), .val (.ref j217_l3), .val (.int j217_l4), .unset, .unset] [(.int j217_s0), (.int (f1 q1))]))
    by_cases hc217_7 : (f1 q1) = j217_s0
    · refine OGo.eqvF (show (g0_217_5 q1 q2 q3 j217_l4 j217_s0) = (g0_j225 q1 q2 q3 j217_l4 (1 : Int32)) from if_pos hc217_7) ?_
      refine OGo.st (fun t k => XS.icmpNo X.here hx rfl (hb hby at_217) rfl (teq hc217_7).2 k) ?_
      show OGo p e below _ (T.setTop (mkF m 220 #[.val (.int q1), .val (.int q2), .val (.int q3), .val (.ref j217_l3), .val (.int j217_l4), .unset, .unset] []))
      refine OGo.st (fun t k => XS.iconst X.here hx rfl (hb hby at_220) k) ?_
      show OGo p e below _ (T.setTop (mkF m 221 #[.val (.int q1), .val (.int q2), .val (.int q3), .val (.ref j217_l3), .val (.int j217_l4), .unset, .unset] [(.int (1 : Int32))]))
      refine OGo.st (fun t k => XS.goto X.here hx rfl (pc0 := 221) (pc' := 225) rfl (hb hby at_221) (by decide) (by decide) k) ?_
      show OGo p e below _ (T.setTop (mkF m 225 #[.val (.int q1), .val (.int q2), .val (.int q3), .val (.ref j217_l3), .val (.int j217_l4), .unset, .unset] [(.int (1 : Int32))]))
      exact J225 T _ hT X eT N ZT j217_l3 j217_l4 (1 : Int32)
    · refine OGo.eqvF (show (g0_217_5 q1 q2 q3 j217_l4 j217_s0) = (g0_j225 q1 q2 q3 j217_l4 (0 : Int32)) from if_neg hc217_7) ?_
      refine OGo.st (fun t k => XS.icmpYes X.here hx rfl (pc0 := 217) (pc' := 224) rfl (hb hby at_217) rfl (feq hc217_7).2 (by decide) (by decide) k) ?_
      show OGo p e below _ (T.setTop (mkF m 224 #[.val (.int q1), .val (.int q2), .val (.int q3), .val (.ref j217_l3), .val (.int j217_l4), .unset, .unset] []))
      refine OGo.st (fun t k => XS.iconst X.here hx rfl (hb hby at_224) k) ?_
      show OGo p e below _ (T.setTop (mkF m 225 #[.val (.int q1), .val (.int q2), .val (.int q3), .val (.ref j217_l3), .val (.int j217_l4), .unset, .unset] [(.int (0 : Int32))]))
      exact J225 T _ hT X eT N ZT j217_l3 j217_l4 (0 : Int32)
  refine OGo.st (fun t k => castTop (ef0 m q1 q2 q3) k) ?_
  show OGo p e below (Out s room_1.cells room_1.slots (PF n0 1)) (s₁.setTop (mkF m 0 #[.val (.int q1), .val (.int q2), .val (.int q3), .unset, .unset, .unset, .unset] []))
  refine OGo.st (fun t k => XS.bipush X0.here hx rfl (hb hby at_0) k) ?_
  show OGo p e below _ (s₁.setTop (mkF m 2 #[.val (.int q1), .val (.int q2), .val (.int q3), .unset, .unset, .unset, .unset] [(.int (28 : Int32))]))
  obtain ⟨T8, h8, k8, X8, e8, E8, A8, st8⟩ := newP X0 hx hZ (hw _ (List.mem_of_getElem? (i := 0) rfl)) e0 (g := (mkF m 2 #[.val (.int q1), .val (.int q2), .val (.int q3), .unset, .unset, .unset, .unset] [(.int (28 : Int32))])) rfl (hb hby at_2) rfl (by decide) (cap := 28) (by decide) (by decide) (by decide) (by decide)
  obtain ⟨b8, g8⟩ : ∃ z, z = h0.size := ⟨_, rfl⟩
  rw [← g8] at A8 st8
  have O8 : OA Z h8 b8 .int 28 (fun _ => 0) := OA.new A8 (by decide) rfl
  have gb8 : n0 ≤ b8 := Nat.le_trans Z0 (Nat.le_of_eq g8.symm)
  have Z8 : n0 ≤ h8.size := Nat.le_trans Z0 E8.1
  obtain ⟨lo8, X8, N8⟩ : ∃ L, Stand p l e room_1 s m #[(.int q1), (.int q2), (.int q3)] below meth c T8 L 1 28 ∧ Fr n0 L := ⟨_, X8, N0⟩
  refine OGo.st (fun t k => st8 t k) ?_
  show OGo p e below _ (T8.setTop (mkF m 4 #[.val (.int q1), .val (.int q2), .val (.int q3), .unset, .unset, .unset, .unset] [(.ref b8)]))
  refine OGo.st (fun t k => XS.dup X8.here hx rfl (hb hby at_4) rfl rfl k) ?_
  show OGo p e below _ (T8.setTop (mkF m 5 #[.val (.int q1), .val (.int q2), .val (.int q3), .unset, .unset, .unset, .unset] [(.ref b8), (.ref b8)]))
  refine OGo.st (fun t k => XS.iconst X8.here hx rfl (hb hby at_5) k) ?_
  show OGo p e below _ (T8.setTop (mkF m 6 #[.val (.int q1), .val (.int q2), .val (.int q3), .unset, .unset, .unset, .unset] [(.int (0 : Int32)), (.ref b8), (.ref b8)]))
  refine OGo.st (fun t k => XS.bipush X8.here hx rfl (hb hby at_6) k) ?_
  show OGo p e below _ (T8.setTop (mkF m 8 #[.val (.int q1), .val (.int q2), .val (.int q3), .unset, .unset, .unset, .unset] [(.int (65 : Int32)), (.int (0 : Int32)), (.ref b8), (.ref b8)]))
  obtain ⟨T9, h9, X9, e9, W9, O9', st9⟩ := OA.stI X8 hx hZ e8 O8 (j := (0 : Int32)) (x := (65 : Int32)) (k := 0) (by decide) (by decide) (by decide) (g := (mkF m 8 #[.val (.int q1), .val (.int q2), .val (.int q3), .unset, .unset, .unset, .unset] [(.int (65 : Int32)), (.int (0 : Int32)), (.ref b8), (.ref b8)])) rfl rfl (hb hby at_8)
  obtain ⟨fa9, hf9⟩ : ∃ z, z = oset (fun _ => 0) 0 (65 : Int32) := ⟨_, rfl⟩
  have O9 := O9'
  rw [← hf9] at O9
  have N9 := Fr.snoc X9 N8 gb8
  have Z9 : n0 ≤ h9.size := Nat.le_trans Z8 (Keep.of_wr W9).1
  obtain ⟨lo9, X9, N9⟩ : ∃ L, Stand p l e room_1 s m #[(.int q1), (.int q2), (.int q3)] below meth c T9 L 1 28 ∧ Fr n0 L := ⟨_, X9, N9⟩
  refine OGo.st (fun t k => st9 t k) ?_
  show OGo p e below _ (T9.setTop (mkF m 9 #[.val (.int q1), .val (.int q2), .val (.int q3), .unset, .unset, .unset, .unset] [(.ref b8)]))
  refine OGo.st (fun t k => XS.dup X9.here hx rfl (hb hby at_9) rfl rfl k) ?_
  show OGo p e below _ (T9.setTop (mkF m 10 #[.val (.int q1), .val (.int q2), .val (.int q3), .unset, .unset, .unset, .unset] [(.ref b8), (.ref b8)]))
  refine OGo.st (fun t k => XS.iconst X9.here hx rfl (hb hby at_10) k) ?_
  show OGo p e below _ (T9.setTop (mkF m 11 #[.val (.int q1), .val (.int q2), .val (.int q3), .unset, .unset, .unset, .unset] [(.int (1 : Int32)), (.ref b8), (.ref b8)]))
  refine OGo.st (fun t k => XS.bipush X9.here hx rfl (hb hby at_11) k) ?_
  show OGo p e below _ (T9.setTop (mkF m 13 #[.val (.int q1), .val (.int q2), .val (.int q3), .unset, .unset, .unset, .unset] [(.int (90 : Int32)), (.int (1 : Int32)), (.ref b8), (.ref b8)]))
  obtain ⟨T10, h10, X10, e10, W10, O10', st10⟩ := OA.stI X9 hx hZ e9 O9 (j := (1 : Int32)) (x := (90 : Int32)) (k := 1) (by decide) (by decide) (by decide) (g := (mkF m 13 #[.val (.int q1), .val (.int q2), .val (.int q3), .unset, .unset, .unset, .unset] [(.int (90 : Int32)), (.int (1 : Int32)), (.ref b8), (.ref b8)])) rfl rfl (hb hby at_13)
  obtain ⟨fa10, hf10⟩ : ∃ z, z = oset fa9 1 (90 : Int32) := ⟨_, rfl⟩
  have O10 := O10'
  rw [← hf10] at O10
  have N10 := Fr.snoc X10 N9 gb8
  have Z10 : n0 ≤ h10.size := Nat.le_trans Z9 (Keep.of_wr W10).1
  obtain ⟨lo10, X10, N10⟩ : ∃ L, Stand p l e room_1 s m #[(.int q1), (.int q2), (.int q3)] below meth c T10 L 1 28 ∧ Fr n0 L := ⟨_, X10, N10⟩
  refine OGo.st (fun t k => st10 t k) ?_
  show OGo p e below _ (T10.setTop (mkF m 14 #[.val (.int q1), .val (.int q2), .val (.int q3), .unset, .unset, .unset, .unset] [(.ref b8)]))
  refine OGo.st (fun t k => XS.dup X10.here hx rfl (hb hby at_14) rfl rfl k) ?_
  show OGo p e below _ (T10.setTop (mkF m 15 #[.val (.int q1), .val (.int q2), .val (.int q3), .unset, .unset, .unset, .unset] [(.ref b8), (.ref b8)]))
  refine OGo.st (fun t k => XS.iconst X10.here hx rfl (hb hby at_15) k) ?_
  show OGo p e below _ (T10.setTop (mkF m 16 #[.val (.int q1), .val (.int q2), .val (.int q3), .unset, .unset, .unset, .unset] [(.int (2 : Int32)), (.ref b8), (.ref b8)]))
  refine OGo.st (fun t k => XS.bipush X10.here hx rfl (hb hby at_16) k) ?_
  show OGo p e below _ (T10.setTop (mkF m 18 #[.val (.int q1), .val (.int q2), .val (.int q3), .unset, .unset, .unset, .unset] [(.int (97 : Int32)), (.int (2 : Int32)), (.ref b8), (.ref b8)]))
  obtain ⟨T11, h11, X11, e11, W11, O11', st11⟩ := OA.stI X10 hx hZ e10 O10 (j := (2 : Int32)) (x := (97 : Int32)) (k := 2) (by decide) (by decide) (by decide) (g := (mkF m 18 #[.val (.int q1), .val (.int q2), .val (.int q3), .unset, .unset, .unset, .unset] [(.int (97 : Int32)), (.int (2 : Int32)), (.ref b8), (.ref b8)])) rfl rfl (hb hby at_18)
  obtain ⟨fa11, hf11⟩ : ∃ z, z = oset fa10 2 (97 : Int32) := ⟨_, rfl⟩
  have O11 := O11'
  rw [← hf11] at O11
  have N11 := Fr.snoc X11 N10 gb8
  have Z11 : n0 ≤ h11.size := Nat.le_trans Z10 (Keep.of_wr W11).1
  obtain ⟨lo11, X11, N11⟩ : ∃ L, Stand p l e room_1 s m #[(.int q1), (.int q2), (.int q3)] below meth c T11 L 1 28 ∧ Fr n0 L := ⟨_, X11, N11⟩
  refine OGo.st (fun t k => st11 t k) ?_
  show OGo p e below _ (T11.setTop (mkF m 19 #[.val (.int q1), .val (.int q2), .val (.int q3), .unset, .unset, .unset, .unset] [(.ref b8)]))
  refine OGo.st (fun t k => XS.dup X11.here hx rfl (hb hby at_19) rfl rfl k) ?_
  show OGo p e below _ (T11.setTop (mkF m 20 #[.val (.int q1), .val (.int q2), .val (.int q3), .unset, .unset, .unset, .unset] [(.ref b8), (.ref b8)]))
  refine OGo.st (fun t k => XS.iconst X11.here hx rfl (hb hby at_20) k) ?_
  show OGo p e below _ (T11.setTop (mkF m 21 #[.val (.int q1), .val (.int q2), .val (.int q3), .unset, .unset, .unset, .unset] [(.int (3 : Int32)), (.ref b8), (.ref b8)]))
  refine OGo.st (fun t k => XS.bipush X11.here hx rfl (hb hby at_21) k) ?_
  show OGo p e below _ (T11.setTop (mkF m 23 #[.val (.int q1), .val (.int q2), .val (.int q3), .unset, .unset, .unset, .unset] [(.int (122 : Int32)), (.int (3 : Int32)), (.ref b8), (.ref b8)]))
  obtain ⟨T12, h12, X12, e12, W12, O12', st12⟩ := OA.stI X11 hx hZ e11 O11 (j := (3 : Int32)) (x := (122 : Int32)) (k := 3) (by decide) (by decide) (by decide) (g := (mkF m 23 #[.val (.int q1), .val (.int q2), .val (.int q3), .unset, .unset, .unset, .unset] [(.int (122 : Int32)), (.int (3 : Int32)), (.ref b8), (.ref b8)])) rfl rfl (hb hby at_23)
  obtain ⟨fa12, hf12⟩ : ∃ z, z = oset fa11 3 (122 : Int32) := ⟨_, rfl⟩
  have O12 := O12'
  rw [← hf12] at O12
  have N12 := Fr.snoc X12 N11 gb8
  have Z12 : n0 ≤ h12.size := Nat.le_trans Z11 (Keep.of_wr W12).1
  obtain ⟨lo12, X12, N12⟩ : ∃ L, Stand p l e room_1 s m #[(.int q1), (.int q2), (.int q3)] below meth c T12 L 1 28 ∧ Fr n0 L := ⟨_, X12, N12⟩
  refine OGo.st (fun t k => st12 t k) ?_
  show OGo p e below _ (T12.setTop (mkF m 24 #[.val (.int q1), .val (.int q2), .val (.int q3), .unset, .unset, .unset, .unset] [(.ref b8)]))
  refine OGo.st (fun t k => XS.dup X12.here hx rfl (hb hby at_24) rfl rfl k) ?_
  show OGo p e below _ (T12.setTop (mkF m 25 #[.val (.int q1), .val (.int q2), .val (.int q3), .unset, .unset, .unset, .unset] [(.ref b8), (.ref b8)]))
  refine OGo.st (fun t k => XS.iconst X12.here hx rfl (hb hby at_25) k) ?_
  show OGo p e below _ (T12.setTop (mkF m 26 #[.val (.int q1), .val (.int q2), .val (.int q3), .unset, .unset, .unset, .unset] [(.int (4 : Int32)), (.ref b8), (.ref b8)]))
  refine OGo.st (fun t k => XS.sipush X12.here hx rfl (hb hby at_26) k) ?_
  show OGo p e below _ (T12.setTop (mkF m 29 #[.val (.int q1), .val (.int q2), .val (.int q3), .unset, .unset, .unset, .unset] [(.int (192 : Int32)), (.int (4 : Int32)), (.ref b8), (.ref b8)]))
  obtain ⟨T13, h13, X13, e13, W13, O13', st13⟩ := OA.stI X12 hx hZ e12 O12 (j := (4 : Int32)) (x := (192 : Int32)) (k := 4) (by decide) (by decide) (by decide) (g := (mkF m 29 #[.val (.int q1), .val (.int q2), .val (.int q3), .unset, .unset, .unset, .unset] [(.int (192 : Int32)), (.int (4 : Int32)), (.ref b8), (.ref b8)])) rfl rfl (hb hby at_29)
  obtain ⟨fa13, hf13⟩ : ∃ z, z = oset fa12 4 (192 : Int32) := ⟨_, rfl⟩
  have O13 := O13'
  rw [← hf13] at O13
  have N13 := Fr.snoc X13 N12 gb8
  have Z13 : n0 ≤ h13.size := Nat.le_trans Z12 (Keep.of_wr W13).1
  obtain ⟨lo13, X13, N13⟩ : ∃ L, Stand p l e room_1 s m #[(.int q1), (.int q2), (.int q3)] below meth c T13 L 1 28 ∧ Fr n0 L := ⟨_, X13, N13⟩
  refine OGo.st (fun t k => st13 t k) ?_
  show OGo p e below _ (T13.setTop (mkF m 30 #[.val (.int q1), .val (.int q2), .val (.int q3), .unset, .unset, .unset, .unset] [(.ref b8)]))
  refine OGo.st (fun t k => XS.dup X13.here hx rfl (hb hby at_30) rfl rfl k) ?_
  show OGo p e below _ (T13.setTop (mkF m 31 #[.val (.int q1), .val (.int q2), .val (.int q3), .unset, .unset, .unset, .unset] [(.ref b8), (.ref b8)]))
  refine OGo.st (fun t k => XS.iconst X13.here hx rfl (hb hby at_31) k) ?_
  show OGo p e below _ (T13.setTop (mkF m 32 #[.val (.int q1), .val (.int q2), .val (.int q3), .unset, .unset, .unset, .unset] [(.int (5 : Int32)), (.ref b8), (.ref b8)]))
  refine OGo.st (fun t k => XS.sipush X13.here hx rfl (hb hby at_32) k) ?_
  show OGo p e below _ (T13.setTop (mkF m 35 #[.val (.int q1), .val (.int q2), .val (.int q3), .unset, .unset, .unset, .unset] [(.int (214 : Int32)), (.int (5 : Int32)), (.ref b8), (.ref b8)]))
  obtain ⟨T14, h14, X14, e14, W14, O14', st14⟩ := OA.stI X13 hx hZ e13 O13 (j := (5 : Int32)) (x := (214 : Int32)) (k := 5) (by decide) (by decide) (by decide) (g := (mkF m 35 #[.val (.int q1), .val (.int q2), .val (.int q3), .unset, .unset, .unset, .unset] [(.int (214 : Int32)), (.int (5 : Int32)), (.ref b8), (.ref b8)])) rfl rfl (hb hby at_35)
  obtain ⟨fa14, hf14⟩ : ∃ z, z = oset fa13 5 (214 : Int32) := ⟨_, rfl⟩
  have O14 := O14'
  rw [← hf14] at O14
  have N14 := Fr.snoc X14 N13 gb8
  have Z14 : n0 ≤ h14.size := Nat.le_trans Z13 (Keep.of_wr W14).1
  obtain ⟨lo14, X14, N14⟩ : ∃ L, Stand p l e room_1 s m #[(.int q1), (.int q2), (.int q3)] below meth c T14 L 1 28 ∧ Fr n0 L := ⟨_, X14, N14⟩
  refine OGo.st (fun t k => st14 t k) ?_
  show OGo p e below _ (T14.setTop (mkF m 36 #[.val (.int q1), .val (.int q2), .val (.int q3), .unset, .unset, .unset, .unset] [(.ref b8)]))
  refine OGo.st (fun t k => XS.dup X14.here hx rfl (hb hby at_36) rfl rfl k) ?_
  show OGo p e below _ (T14.setTop (mkF m 37 #[.val (.int q1), .val (.int q2), .val (.int q3), .unset, .unset, .unset, .unset] [(.ref b8), (.ref b8)]))
  refine OGo.st (fun t k => XS.bipush X14.here hx rfl (hb hby at_37) k) ?_
  show OGo p e below _ (T14.setTop (mkF m 39 #[.val (.int q1), .val (.int q2), .val (.int q3), .unset, .unset, .unset, .unset] [(.int (6 : Int32)), (.ref b8), (.ref b8)]))
  refine OGo.st (fun t k => XS.sipush X14.here hx rfl (hb hby at_39) k) ?_
  show OGo p e below _ (T14.setTop (mkF m 42 #[.val (.int q1), .val (.int q2), .val (.int q3), .unset, .unset, .unset, .unset] [(.int (216 : Int32)), (.int (6 : Int32)), (.ref b8), (.ref b8)]))
  obtain ⟨T15, h15, X15, e15, W15, O15', st15⟩ := OA.stI X14 hx hZ e14 O14 (j := (6 : Int32)) (x := (216 : Int32)) (k := 6) (by decide) (by decide) (by decide) (g := (mkF m 42 #[.val (.int q1), .val (.int q2), .val (.int q3), .unset, .unset, .unset, .unset] [(.int (216 : Int32)), (.int (6 : Int32)), (.ref b8), (.ref b8)])) rfl rfl (hb hby at_42)
  obtain ⟨fa15, hf15⟩ : ∃ z, z = oset fa14 6 (216 : Int32) := ⟨_, rfl⟩
  have O15 := O15'
  rw [← hf15] at O15
  have N15 := Fr.snoc X15 N14 gb8
  have Z15 : n0 ≤ h15.size := Nat.le_trans Z14 (Keep.of_wr W15).1
  obtain ⟨lo15, X15, N15⟩ : ∃ L, Stand p l e room_1 s m #[(.int q1), (.int q2), (.int q3)] below meth c T15 L 1 28 ∧ Fr n0 L := ⟨_, X15, N15⟩
  refine OGo.st (fun t k => st15 t k) ?_
  show OGo p e below _ (T15.setTop (mkF m 43 #[.val (.int q1), .val (.int q2), .val (.int q3), .unset, .unset, .unset, .unset] [(.ref b8)]))
  refine OGo.st (fun t k => XS.dup X15.here hx rfl (hb hby at_43) rfl rfl k) ?_
  show OGo p e below _ (T15.setTop (mkF m 44 #[.val (.int q1), .val (.int q2), .val (.int q3), .unset, .unset, .unset, .unset] [(.ref b8), (.ref b8)]))
  refine OGo.st (fun t k => XS.bipush X15.here hx rfl (hb hby at_44) k) ?_
  show OGo p e below _ (T15.setTop (mkF m 46 #[.val (.int q1), .val (.int q2), .val (.int q3), .unset, .unset, .unset, .unset] [(.int (7 : Int32)), (.ref b8), (.ref b8)]))
  refine OGo.st (fun t k => XS.sipush X15.here hx rfl (hb hby at_46) k) ?_
  show OGo p e below _ (T15.setTop (mkF m 49 #[.val (.int q1), .val (.int q2), .val (.int q3), .unset, .unset, .unset, .unset] [(.int (246 : Int32)), (.int (7 : Int32)), (.ref b8), (.ref b8)]))
  obtain ⟨T16, h16, X16, e16, W16, O16', st16⟩ := OA.stI X15 hx hZ e15 O15 (j := (7 : Int32)) (x := (246 : Int32)) (k := 7) (by decide) (by decide) (by decide) (g := (mkF m 49 #[.val (.int q1), .val (.int q2), .val (.int q3), .unset, .unset, .unset, .unset] [(.int (246 : Int32)), (.int (7 : Int32)), (.ref b8), (.ref b8)])) rfl rfl (hb hby at_49)
  obtain ⟨fa16, hf16⟩ : ∃ z, z = oset fa15 7 (246 : Int32) := ⟨_, rfl⟩
  have O16 := O16'
  rw [← hf16] at O16
  have N16 := Fr.snoc X16 N15 gb8
  have Z16 : n0 ≤ h16.size := Nat.le_trans Z15 (Keep.of_wr W16).1
  obtain ⟨lo16, X16, N16⟩ : ∃ L, Stand p l e room_1 s m #[(.int q1), (.int q2), (.int q3)] below meth c T16 L 1 28 ∧ Fr n0 L := ⟨_, X16, N16⟩
  refine OGo.st (fun t k => st16 t k) ?_
  show OGo p e below _ (T16.setTop (mkF m 50 #[.val (.int q1), .val (.int q2), .val (.int q3), .unset, .unset, .unset, .unset] [(.ref b8)]))
  refine OGo.st (fun t k => XS.dup X16.here hx rfl (hb hby at_50) rfl rfl k) ?_
  show OGo p e below _ (T16.setTop (mkF m 51 #[.val (.int q1), .val (.int q2), .val (.int q3), .unset, .unset, .unset, .unset] [(.ref b8), (.ref b8)]))
  refine OGo.st (fun t k => XS.bipush X16.here hx rfl (hb hby at_51) k) ?_
  show OGo p e below _ (T16.setTop (mkF m 53 #[.val (.int q1), .val (.int q2), .val (.int q3), .unset, .unset, .unset, .unset] [(.int (8 : Int32)), (.ref b8), (.ref b8)]))
  refine OGo.st (fun t k => XS.sipush X16.here hx rfl (hb hby at_53) k) ?_
  show OGo p e below _ (T16.setTop (mkF m 56 #[.val (.int q1), .val (.int q2), .val (.int q3), .unset, .unset, .unset, .unset] [(.int (248 : Int32)), (.int (8 : Int32)), (.ref b8), (.ref b8)]))
  obtain ⟨T17, h17, X17, e17, W17, O17', st17⟩ := OA.stI X16 hx hZ e16 O16 (j := (8 : Int32)) (x := (248 : Int32)) (k := 8) (by decide) (by decide) (by decide) (g := (mkF m 56 #[.val (.int q1), .val (.int q2), .val (.int q3), .unset, .unset, .unset, .unset] [(.int (248 : Int32)), (.int (8 : Int32)), (.ref b8), (.ref b8)])) rfl rfl (hb hby at_56)
  obtain ⟨fa17, hf17⟩ : ∃ z, z = oset fa16 8 (248 : Int32) := ⟨_, rfl⟩
  have O17 := O17'
  rw [← hf17] at O17
  have N17 := Fr.snoc X17 N16 gb8
  have Z17 : n0 ≤ h17.size := Nat.le_trans Z16 (Keep.of_wr W17).1
  obtain ⟨lo17, X17, N17⟩ : ∃ L, Stand p l e room_1 s m #[(.int q1), (.int q2), (.int q3)] below meth c T17 L 1 28 ∧ Fr n0 L := ⟨_, X17, N17⟩
  refine OGo.st (fun t k => st17 t k) ?_
  show OGo p e below _ (T17.setTop (mkF m 57 #[.val (.int q1), .val (.int q2), .val (.int q3), .unset, .unset, .unset, .unset] [(.ref b8)]))
  refine OGo.st (fun t k => XS.dup X17.here hx rfl (hb hby at_57) rfl rfl k) ?_
  show OGo p e below _ (T17.setTop (mkF m 58 #[.val (.int q1), .val (.int q2), .val (.int q3), .unset, .unset, .unset, .unset] [(.ref b8), (.ref b8)]))
  refine OGo.st (fun t k => XS.bipush X17.here hx rfl (hb hby at_58) k) ?_
  show OGo p e below _ (T17.setTop (mkF m 60 #[.val (.int q1), .val (.int q2), .val (.int q3), .unset, .unset, .unset, .unset] [(.int (9 : Int32)), (.ref b8), (.ref b8)]))
  refine OGo.st (fun t k => XS.sipush X17.here hx rfl (hb hby at_60) k) ?_
  show OGo p e below _ (T17.setTop (mkF m 63 #[.val (.int q1), .val (.int q2), .val (.int q3), .unset, .unset, .unset, .unset] [(.int (767 : Int32)), (.int (9 : Int32)), (.ref b8), (.ref b8)]))
  obtain ⟨T18, h18, X18, e18, W18, O18', st18⟩ := OA.stI X17 hx hZ e17 O17 (j := (9 : Int32)) (x := (767 : Int32)) (k := 9) (by decide) (by decide) (by decide) (g := (mkF m 63 #[.val (.int q1), .val (.int q2), .val (.int q3), .unset, .unset, .unset, .unset] [(.int (767 : Int32)), (.int (9 : Int32)), (.ref b8), (.ref b8)])) rfl rfl (hb hby at_63)
  obtain ⟨fa18, hf18⟩ : ∃ z, z = oset fa17 9 (767 : Int32) := ⟨_, rfl⟩
  have O18 := O18'
  rw [← hf18] at O18
  have N18 := Fr.snoc X18 N17 gb8
  have Z18 : n0 ≤ h18.size := Nat.le_trans Z17 (Keep.of_wr W18).1
  obtain ⟨lo18, X18, N18⟩ : ∃ L, Stand p l e room_1 s m #[(.int q1), (.int q2), (.int q3)] below meth c T18 L 1 28 ∧ Fr n0 L := ⟨_, X18, N18⟩
  refine OGo.st (fun t k => st18 t k) ?_
  show OGo p e below _ (T18.setTop (mkF m 64 #[.val (.int q1), .val (.int q2), .val (.int q3), .unset, .unset, .unset, .unset] [(.ref b8)]))
  refine OGo.st (fun t k => XS.dup X18.here hx rfl (hb hby at_64) rfl rfl k) ?_
  show OGo p e below _ (T18.setTop (mkF m 65 #[.val (.int q1), .val (.int q2), .val (.int q3), .unset, .unset, .unset, .unset] [(.ref b8), (.ref b8)]))
  refine OGo.st (fun t k => XS.bipush X18.here hx rfl (hb hby at_65) k) ?_
  show OGo p e below _ (T18.setTop (mkF m 67 #[.val (.int q1), .val (.int q2), .val (.int q3), .unset, .unset, .unset, .unset] [(.int (10 : Int32)), (.ref b8), (.ref b8)]))
  refine OGo.st (fun t k => XS.sipush X18.here hx rfl (hb hby at_67) k) ?_
  show OGo p e below _ (T18.setTop (mkF m 70 #[.val (.int q1), .val (.int q2), .val (.int q3), .unset, .unset, .unset, .unset] [(.int (880 : Int32)), (.int (10 : Int32)), (.ref b8), (.ref b8)]))
  obtain ⟨T19, h19, X19, e19, W19, O19', st19⟩ := OA.stI X18 hx hZ e18 O18 (j := (10 : Int32)) (x := (880 : Int32)) (k := 10) (by decide) (by decide) (by decide) (g := (mkF m 70 #[.val (.int q1), .val (.int q2), .val (.int q3), .unset, .unset, .unset, .unset] [(.int (880 : Int32)), (.int (10 : Int32)), (.ref b8), (.ref b8)])) rfl rfl (hb hby at_70)
  obtain ⟨fa19, hf19⟩ : ∃ z, z = oset fa18 10 (880 : Int32) := ⟨_, rfl⟩
  have O19 := O19'
  rw [← hf19] at O19
  have N19 := Fr.snoc X19 N18 gb8
  have Z19 : n0 ≤ h19.size := Nat.le_trans Z18 (Keep.of_wr W19).1
  obtain ⟨lo19, X19, N19⟩ : ∃ L, Stand p l e room_1 s m #[(.int q1), (.int q2), (.int q3)] below meth c T19 L 1 28 ∧ Fr n0 L := ⟨_, X19, N19⟩
  refine OGo.st (fun t k => st19 t k) ?_
  show OGo p e below _ (T19.setTop (mkF m 71 #[.val (.int q1), .val (.int q2), .val (.int q3), .unset, .unset, .unset, .unset] [(.ref b8)]))
  refine OGo.st (fun t k => XS.dup X19.here hx rfl (hb hby at_71) rfl rfl k) ?_
  show OGo p e below _ (T19.setTop (mkF m 72 #[.val (.int q1), .val (.int q2), .val (.int q3), .unset, .unset, .unset, .unset] [(.ref b8), (.ref b8)]))
  refine OGo.st (fun t k => XS.bipush X19.here hx rfl (hb hby at_72) k) ?_
  show OGo p e below _ (T19.setTop (mkF m 74 #[.val (.int q1), .val (.int q2), .val (.int q3), .unset, .unset, .unset, .unset] [(.int (11 : Int32)), (.ref b8), (.ref b8)]))
  refine OGo.st (fun t k => XS.sipush X19.here hx rfl (hb hby at_74) k) ?_
  show OGo p e below _ (T19.setTop (mkF m 77 #[.val (.int q1), .val (.int q2), .val (.int q3), .unset, .unset, .unset, .unset] [(.int (893 : Int32)), (.int (11 : Int32)), (.ref b8), (.ref b8)]))
  obtain ⟨T20, h20, X20, e20, W20, O20', st20⟩ := OA.stI X19 hx hZ e19 O19 (j := (11 : Int32)) (x := (893 : Int32)) (k := 11) (by decide) (by decide) (by decide) (g := (mkF m 77 #[.val (.int q1), .val (.int q2), .val (.int q3), .unset, .unset, .unset, .unset] [(.int (893 : Int32)), (.int (11 : Int32)), (.ref b8), (.ref b8)])) rfl rfl (hb hby at_77)
  obtain ⟨fa20, hf20⟩ : ∃ z, z = oset fa19 11 (893 : Int32) := ⟨_, rfl⟩
  have O20 := O20'
  rw [← hf20] at O20
  have N20 := Fr.snoc X20 N19 gb8
  have Z20 : n0 ≤ h20.size := Nat.le_trans Z19 (Keep.of_wr W20).1
  obtain ⟨lo20, X20, N20⟩ : ∃ L, Stand p l e room_1 s m #[(.int q1), (.int q2), (.int q3)] below meth c T20 L 1 28 ∧ Fr n0 L := ⟨_, X20, N20⟩
  refine OGo.st (fun t k => st20 t k) ?_
  show OGo p e below _ (T20.setTop (mkF m 78 #[.val (.int q1), .val (.int q2), .val (.int q3), .unset, .unset, .unset, .unset] [(.ref b8)]))
  refine OGo.st (fun t k => XS.dup X20.here hx rfl (hb hby at_78) rfl rfl k) ?_
  show OGo p e below _ (T20.setTop (mkF m 79 #[.val (.int q1), .val (.int q2), .val (.int q3), .unset, .unset, .unset, .unset] [(.ref b8), (.ref b8)]))
  refine OGo.st (fun t k => XS.bipush X20.here hx rfl (hb hby at_79) k) ?_
  show OGo p e below _ (T20.setTop (mkF m 81 #[.val (.int q1), .val (.int q2), .val (.int q3), .unset, .unset, .unset, .unset] [(.int (12 : Int32)), (.ref b8), (.ref b8)]))
  refine OGo.st (fun t k => XS.sipush X20.here hx rfl (hb hby at_81) k) ?_
  show OGo p e below _ (T20.setTop (mkF m 84 #[.val (.int q1), .val (.int q2), .val (.int q3), .unset, .unset, .unset, .unset] [(.int (895 : Int32)), (.int (12 : Int32)), (.ref b8), (.ref b8)]))
  obtain ⟨T21, h21, X21, e21, W21, O21', st21⟩ := OA.stI X20 hx hZ e20 O20 (j := (12 : Int32)) (x := (895 : Int32)) (k := 12) (by decide) (by decide) (by decide) (g := (mkF m 84 #[.val (.int q1), .val (.int q2), .val (.int q3), .unset, .unset, .unset, .unset] [(.int (895 : Int32)), (.int (12 : Int32)), (.ref b8), (.ref b8)])) rfl rfl (hb hby at_84)
  obtain ⟨fa21, hf21⟩ : ∃ z, z = oset fa20 12 (895 : Int32) := ⟨_, rfl⟩
  have O21 := O21'
  rw [← hf21] at O21
  have N21 := Fr.snoc X21 N20 gb8
  have Z21 : n0 ≤ h21.size := Nat.le_trans Z20 (Keep.of_wr W21).1
  obtain ⟨lo21, X21, N21⟩ : ∃ L, Stand p l e room_1 s m #[(.int q1), (.int q2), (.int q3)] below meth c T21 L 1 28 ∧ Fr n0 L := ⟨_, X21, N21⟩
  refine OGo.st (fun t k => st21 t k) ?_
  show OGo p e below _ (T21.setTop (mkF m 85 #[.val (.int q1), .val (.int q2), .val (.int q3), .unset, .unset, .unset, .unset] [(.ref b8)]))
  refine OGo.st (fun t k => XS.dup X21.here hx rfl (hb hby at_85) rfl rfl k) ?_
  show OGo p e below _ (T21.setTop (mkF m 86 #[.val (.int q1), .val (.int q2), .val (.int q3), .unset, .unset, .unset, .unset] [(.ref b8), (.ref b8)]))
  refine OGo.st (fun t k => XS.bipush X21.here hx rfl (hb hby at_86) k) ?_
  show OGo p e below _ (T21.setTop (mkF m 88 #[.val (.int q1), .val (.int q2), .val (.int q3), .unset, .unset, .unset, .unset] [(.int (13 : Int32)), (.ref b8), (.ref b8)]))
  refine OGo.st (fun t k => XS.sipush X21.here hx rfl (hb hby at_88) k) ?_
  show OGo p e below _ (T21.setTop (mkF m 91 #[.val (.int q1), .val (.int q2), .val (.int q3), .unset, .unset, .unset, .unset] [(.int (8191 : Int32)), (.int (13 : Int32)), (.ref b8), (.ref b8)]))
  obtain ⟨T22, h22, X22, e22, W22, O22', st22⟩ := OA.stI X21 hx hZ e21 O21 (j := (13 : Int32)) (x := (8191 : Int32)) (k := 13) (by decide) (by decide) (by decide) (g := (mkF m 91 #[.val (.int q1), .val (.int q2), .val (.int q3), .unset, .unset, .unset, .unset] [(.int (8191 : Int32)), (.int (13 : Int32)), (.ref b8), (.ref b8)])) rfl rfl (hb hby at_91)
  obtain ⟨fa22, hf22⟩ : ∃ z, z = oset fa21 13 (8191 : Int32) := ⟨_, rfl⟩
  have O22 := O22'
  rw [← hf22] at O22
  have N22 := Fr.snoc X22 N21 gb8
  have Z22 : n0 ≤ h22.size := Nat.le_trans Z21 (Keep.of_wr W22).1
  obtain ⟨lo22, X22, N22⟩ : ∃ L, Stand p l e room_1 s m #[(.int q1), (.int q2), (.int q3)] below meth c T22 L 1 28 ∧ Fr n0 L := ⟨_, X22, N22⟩
  refine OGo.st (fun t k => st22 t k) ?_
  show OGo p e below _ (T22.setTop (mkF m 92 #[.val (.int q1), .val (.int q2), .val (.int q3), .unset, .unset, .unset, .unset] [(.ref b8)]))
  refine OGo.st (fun t k => XS.dup X22.here hx rfl (hb hby at_92) rfl rfl k) ?_
  show OGo p e below _ (T22.setTop (mkF m 93 #[.val (.int q1), .val (.int q2), .val (.int q3), .unset, .unset, .unset, .unset] [(.ref b8), (.ref b8)]))
  refine OGo.st (fun t k => XS.bipush X22.here hx rfl (hb hby at_93) k) ?_
  show OGo p e below _ (T22.setTop (mkF m 95 #[.val (.int q1), .val (.int q2), .val (.int q3), .unset, .unset, .unset, .unset] [(.int (14 : Int32)), (.ref b8), (.ref b8)]))
  refine OGo.st (fun t k => XS.sipush X22.here hx rfl (hb hby at_95) k) ?_
  show OGo p e below _ (T22.setTop (mkF m 98 #[.val (.int q1), .val (.int q2), .val (.int q3), .unset, .unset, .unset, .unset] [(.int (8204 : Int32)), (.int (14 : Int32)), (.ref b8), (.ref b8)]))
  obtain ⟨T23, h23, X23, e23, W23, O23', st23⟩ := OA.stI X22 hx hZ e22 O22 (j := (14 : Int32)) (x := (8204 : Int32)) (k := 14) (by decide) (by decide) (by decide) (g := (mkF m 98 #[.val (.int q1), .val (.int q2), .val (.int q3), .unset, .unset, .unset, .unset] [(.int (8204 : Int32)), (.int (14 : Int32)), (.ref b8), (.ref b8)])) rfl rfl (hb hby at_98)
  obtain ⟨fa23, hf23⟩ : ∃ z, z = oset fa22 14 (8204 : Int32) := ⟨_, rfl⟩
  have O23 := O23'
  rw [← hf23] at O23
  have N23 := Fr.snoc X23 N22 gb8
  have Z23 : n0 ≤ h23.size := Nat.le_trans Z22 (Keep.of_wr W23).1
  obtain ⟨lo23, X23, N23⟩ : ∃ L, Stand p l e room_1 s m #[(.int q1), (.int q2), (.int q3)] below meth c T23 L 1 28 ∧ Fr n0 L := ⟨_, X23, N23⟩
  refine OGo.st (fun t k => st23 t k) ?_
  show OGo p e below _ (T23.setTop (mkF m 99 #[.val (.int q1), .val (.int q2), .val (.int q3), .unset, .unset, .unset, .unset] [(.ref b8)]))
  refine OGo.st (fun t k => XS.dup X23.here hx rfl (hb hby at_99) rfl rfl k) ?_
  show OGo p e below _ (T23.setTop (mkF m 100 #[.val (.int q1), .val (.int q2), .val (.int q3), .unset, .unset, .unset, .unset] [(.ref b8), (.ref b8)]))
  refine OGo.st (fun t k => XS.bipush X23.here hx rfl (hb hby at_100) k) ?_
  show OGo p e below _ (T23.setTop (mkF m 102 #[.val (.int q1), .val (.int q2), .val (.int q3), .unset, .unset, .unset, .unset] [(.int (15 : Int32)), (.ref b8), (.ref b8)]))
  refine OGo.st (fun t k => XS.sipush X23.here hx rfl (hb hby at_102) k) ?_
  show OGo p e below _ (T23.setTop (mkF m 105 #[.val (.int q1), .val (.int q2), .val (.int q3), .unset, .unset, .unset, .unset] [(.int (8205 : Int32)), (.int (15 : Int32)), (.ref b8), (.ref b8)]))
  obtain ⟨T24, h24, X24, e24, W24, O24', st24⟩ := OA.stI X23 hx hZ e23 O23 (j := (15 : Int32)) (x := (8205 : Int32)) (k := 15) (by decide) (by decide) (by decide) (g := (mkF m 105 #[.val (.int q1), .val (.int q2), .val (.int q3), .unset, .unset, .unset, .unset] [(.int (8205 : Int32)), (.int (15 : Int32)), (.ref b8), (.ref b8)])) rfl rfl (hb hby at_105)
  obtain ⟨fa24, hf24⟩ : ∃ z, z = oset fa23 15 (8205 : Int32) := ⟨_, rfl⟩
  have O24 := O24'
  rw [← hf24] at O24
  have N24 := Fr.snoc X24 N23 gb8
  have Z24 : n0 ≤ h24.size := Nat.le_trans Z23 (Keep.of_wr W24).1
  obtain ⟨lo24, X24, N24⟩ : ∃ L, Stand p l e room_1 s m #[(.int q1), (.int q2), (.int q3)] below meth c T24 L 1 28 ∧ Fr n0 L := ⟨_, X24, N24⟩
  refine OGo.st (fun t k => st24 t k) ?_
  show OGo p e below _ (T24.setTop (mkF m 106 #[.val (.int q1), .val (.int q2), .val (.int q3), .unset, .unset, .unset, .unset] [(.ref b8)]))
  refine OGo.st (fun t k => XS.dup X24.here hx rfl (hb hby at_106) rfl rfl k) ?_
  show OGo p e below _ (T24.setTop (mkF m 107 #[.val (.int q1), .val (.int q2), .val (.int q3), .unset, .unset, .unset, .unset] [(.ref b8), (.ref b8)]))
  refine OGo.st (fun t k => XS.bipush X24.here hx rfl (hb hby at_107) k) ?_
  show OGo p e below _ (T24.setTop (mkF m 109 #[.val (.int q1), .val (.int q2), .val (.int q3), .unset, .unset, .unset, .unset] [(.int (16 : Int32)), (.ref b8), (.ref b8)]))
  refine OGo.st (fun t k => XS.sipush X24.here hx rfl (hb hby at_109) k) ?_
  show OGo p e below _ (T24.setTop (mkF m 112 #[.val (.int q1), .val (.int q2), .val (.int q3), .unset, .unset, .unset, .unset] [(.int (8304 : Int32)), (.int (16 : Int32)), (.ref b8), (.ref b8)]))
  obtain ⟨T25, h25, X25, e25, W25, O25', st25⟩ := OA.stI X24 hx hZ e24 O24 (j := (16 : Int32)) (x := (8304 : Int32)) (k := 16) (by decide) (by decide) (by decide) (g := (mkF m 112 #[.val (.int q1), .val (.int q2), .val (.int q3), .unset, .unset, .unset, .unset] [(.int (8304 : Int32)), (.int (16 : Int32)), (.ref b8), (.ref b8)])) rfl rfl (hb hby at_112)
  obtain ⟨fa25, hf25⟩ : ∃ z, z = oset fa24 16 (8304 : Int32) := ⟨_, rfl⟩
  have O25 := O25'
  rw [← hf25] at O25
  have N25 := Fr.snoc X25 N24 gb8
  have Z25 : n0 ≤ h25.size := Nat.le_trans Z24 (Keep.of_wr W25).1
  obtain ⟨lo25, X25, N25⟩ : ∃ L, Stand p l e room_1 s m #[(.int q1), (.int q2), (.int q3)] below meth c T25 L 1 28 ∧ Fr n0 L := ⟨_, X25, N25⟩
  refine OGo.st (fun t k => st25 t k) ?_
  show OGo p e below _ (T25.setTop (mkF m 113 #[.val (.int q1), .val (.int q2), .val (.int q3), .unset, .unset, .unset, .unset] [(.ref b8)]))
  refine OGo.st (fun t k => XS.dup X25.here hx rfl (hb hby at_113) rfl rfl k) ?_
  show OGo p e below _ (T25.setTop (mkF m 114 #[.val (.int q1), .val (.int q2), .val (.int q3), .unset, .unset, .unset, .unset] [(.ref b8), (.ref b8)]))
  refine OGo.st (fun t k => XS.bipush X25.here hx rfl (hb hby at_114) k) ?_
  show OGo p e below _ (T25.setTop (mkF m 116 #[.val (.int q1), .val (.int q2), .val (.int q3), .unset, .unset, .unset, .unset] [(.int (17 : Int32)), (.ref b8), (.ref b8)]))
  refine OGo.st (fun t k => XS.sipush X25.here hx rfl (hb hby at_116) k) ?_
  show OGo p e below _ (T25.setTop (mkF m 119 #[.val (.int q1), .val (.int q2), .val (.int q3), .unset, .unset, .unset, .unset] [(.int (8591 : Int32)), (.int (17 : Int32)), (.ref b8), (.ref b8)]))
  obtain ⟨T26, h26, X26, e26, W26, O26', st26⟩ := OA.stI X25 hx hZ e25 O25 (j := (17 : Int32)) (x := (8591 : Int32)) (k := 17) (by decide) (by decide) (by decide) (g := (mkF m 119 #[.val (.int q1), .val (.int q2), .val (.int q3), .unset, .unset, .unset, .unset] [(.int (8591 : Int32)), (.int (17 : Int32)), (.ref b8), (.ref b8)])) rfl rfl (hb hby at_119)
  obtain ⟨fa26, hf26⟩ : ∃ z, z = oset fa25 17 (8591 : Int32) := ⟨_, rfl⟩
  have O26 := O26'
  rw [← hf26] at O26
  have N26 := Fr.snoc X26 N25 gb8
  have Z26 : n0 ≤ h26.size := Nat.le_trans Z25 (Keep.of_wr W26).1
  obtain ⟨lo26, X26, N26⟩ : ∃ L, Stand p l e room_1 s m #[(.int q1), (.int q2), (.int q3)] below meth c T26 L 1 28 ∧ Fr n0 L := ⟨_, X26, N26⟩
  refine OGo.st (fun t k => st26 t k) ?_
  show OGo p e below _ (T26.setTop (mkF m 120 #[.val (.int q1), .val (.int q2), .val (.int q3), .unset, .unset, .unset, .unset] [(.ref b8)]))
  refine OGo.st (fun t k => XS.dup X26.here hx rfl (hb hby at_120) rfl rfl k) ?_
  show OGo p e below _ (T26.setTop (mkF m 121 #[.val (.int q1), .val (.int q2), .val (.int q3), .unset, .unset, .unset, .unset] [(.ref b8), (.ref b8)]))
  refine OGo.st (fun t k => XS.bipush X26.here hx rfl (hb hby at_121) k) ?_
  show OGo p e below _ (T26.setTop (mkF m 123 #[.val (.int q1), .val (.int q2), .val (.int q3), .unset, .unset, .unset, .unset] [(.int (18 : Int32)), (.ref b8), (.ref b8)]))
  refine OGo.st (fun t k => XS.sipush X26.here hx rfl (hb hby at_123) k) ?_
  show OGo p e below _ (T26.setTop (mkF m 126 #[.val (.int q1), .val (.int q2), .val (.int q3), .unset, .unset, .unset, .unset] [(.int (11264 : Int32)), (.int (18 : Int32)), (.ref b8), (.ref b8)]))
  obtain ⟨T27, h27, X27, e27, W27, O27', st27⟩ := OA.stI X26 hx hZ e26 O26 (j := (18 : Int32)) (x := (11264 : Int32)) (k := 18) (by decide) (by decide) (by decide) (g := (mkF m 126 #[.val (.int q1), .val (.int q2), .val (.int q3), .unset, .unset, .unset, .unset] [(.int (11264 : Int32)), (.int (18 : Int32)), (.ref b8), (.ref b8)])) rfl rfl (hb hby at_126)
  obtain ⟨fa27, hf27⟩ : ∃ z, z = oset fa26 18 (11264 : Int32) := ⟨_, rfl⟩
  have O27 := O27'
  rw [← hf27] at O27
  have N27 := Fr.snoc X27 N26 gb8
  have Z27 : n0 ≤ h27.size := Nat.le_trans Z26 (Keep.of_wr W27).1
  obtain ⟨lo27, X27, N27⟩ : ∃ L, Stand p l e room_1 s m #[(.int q1), (.int q2), (.int q3)] below meth c T27 L 1 28 ∧ Fr n0 L := ⟨_, X27, N27⟩
  refine OGo.st (fun t k => st27 t k) ?_
  show OGo p e below _ (T27.setTop (mkF m 127 #[.val (.int q1), .val (.int q2), .val (.int q3), .unset, .unset, .unset, .unset] [(.ref b8)]))
  refine OGo.st (fun t k => XS.dup X27.here hx rfl (hb hby at_127) rfl rfl k) ?_
  show OGo p e below _ (T27.setTop (mkF m 128 #[.val (.int q1), .val (.int q2), .val (.int q3), .unset, .unset, .unset, .unset] [(.ref b8), (.ref b8)]))
  refine OGo.st (fun t k => XS.bipush X27.here hx rfl (hb hby at_128) k) ?_
  show OGo p e below _ (T27.setTop (mkF m 130 #[.val (.int q1), .val (.int q2), .val (.int q3), .unset, .unset, .unset, .unset] [(.int (19 : Int32)), (.ref b8), (.ref b8)]))
  refine OGo.st (fun t k => XS.sipush X27.here hx rfl (hb hby at_130) k) ?_
  show OGo p e below _ (T27.setTop (mkF m 133 #[.val (.int q1), .val (.int q2), .val (.int q3), .unset, .unset, .unset, .unset] [(.int (12271 : Int32)), (.int (19 : Int32)), (.ref b8), (.ref b8)]))
  obtain ⟨T28, h28, X28, e28, W28, O28', st28⟩ := OA.stI X27 hx hZ e27 O27 (j := (19 : Int32)) (x := (12271 : Int32)) (k := 19) (by decide) (by decide) (by decide) (g := (mkF m 133 #[.val (.int q1), .val (.int q2), .val (.int q3), .unset, .unset, .unset, .unset] [(.int (12271 : Int32)), (.int (19 : Int32)), (.ref b8), (.ref b8)])) rfl rfl (hb hby at_133)
  obtain ⟨fa28, hf28⟩ : ∃ z, z = oset fa27 19 (12271 : Int32) := ⟨_, rfl⟩
  have O28 := O28'
  rw [← hf28] at O28
  have N28 := Fr.snoc X28 N27 gb8
  have Z28 : n0 ≤ h28.size := Nat.le_trans Z27 (Keep.of_wr W28).1
  obtain ⟨lo28, X28, N28⟩ : ∃ L, Stand p l e room_1 s m #[(.int q1), (.int q2), (.int q3)] below meth c T28 L 1 28 ∧ Fr n0 L := ⟨_, X28, N28⟩
  refine OGo.st (fun t k => st28 t k) ?_
  show OGo p e below _ (T28.setTop (mkF m 134 #[.val (.int q1), .val (.int q2), .val (.int q3), .unset, .unset, .unset, .unset] [(.ref b8)]))
  refine OGo.st (fun t k => XS.dup X28.here hx rfl (hb hby at_134) rfl rfl k) ?_
  show OGo p e below _ (T28.setTop (mkF m 135 #[.val (.int q1), .val (.int q2), .val (.int q3), .unset, .unset, .unset, .unset] [(.ref b8), (.ref b8)]))
  refine OGo.st (fun t k => XS.bipush X28.here hx rfl (hb hby at_135) k) ?_
  show OGo p e below _ (T28.setTop (mkF m 137 #[.val (.int q1), .val (.int q2), .val (.int q3), .unset, .unset, .unset, .unset] [(.int (20 : Int32)), (.ref b8), (.ref b8)]))
  refine OGo.st (fun t k => XS.sipush X28.here hx rfl (hb hby at_137) k) ?_
  show OGo p e below _ (T28.setTop (mkF m 140 #[.val (.int q1), .val (.int q2), .val (.int q3), .unset, .unset, .unset, .unset] [(.int (12289 : Int32)), (.int (20 : Int32)), (.ref b8), (.ref b8)]))
  obtain ⟨T29, h29, X29, e29, W29, O29', st29⟩ := OA.stI X28 hx hZ e28 O28 (j := (20 : Int32)) (x := (12289 : Int32)) (k := 20) (by decide) (by decide) (by decide) (g := (mkF m 140 #[.val (.int q1), .val (.int q2), .val (.int q3), .unset, .unset, .unset, .unset] [(.int (12289 : Int32)), (.int (20 : Int32)), (.ref b8), (.ref b8)])) rfl rfl (hb hby at_140)
  obtain ⟨fa29, hf29⟩ : ∃ z, z = oset fa28 20 (12289 : Int32) := ⟨_, rfl⟩
  have O29 := O29'
  rw [← hf29] at O29
  have N29 := Fr.snoc X29 N28 gb8
  have Z29 : n0 ≤ h29.size := Nat.le_trans Z28 (Keep.of_wr W29).1
  obtain ⟨lo29, X29, N29⟩ : ∃ L, Stand p l e room_1 s m #[(.int q1), (.int q2), (.int q3)] below meth c T29 L 1 28 ∧ Fr n0 L := ⟨_, X29, N29⟩
  refine OGo.st (fun t k => st29 t k) ?_
  show OGo p e below _ (T29.setTop (mkF m 141 #[.val (.int q1), .val (.int q2), .val (.int q3), .unset, .unset, .unset, .unset] [(.ref b8)]))
  refine OGo.st (fun t k => XS.dup X29.here hx rfl (hb hby at_141) rfl rfl k) ?_
  show OGo p e below _ (T29.setTop (mkF m 142 #[.val (.int q1), .val (.int q2), .val (.int q3), .unset, .unset, .unset, .unset] [(.ref b8), (.ref b8)]))
  refine OGo.st (fun t k => XS.bipush X29.here hx rfl (hb hby at_142) k) ?_
  show OGo p e below _ (T29.setTop (mkF m 144 #[.val (.int q1), .val (.int q2), .val (.int q3), .unset, .unset, .unset, .unset] [(.int (21 : Int32)), (.ref b8), (.ref b8)]))
  refine OGo.st (fun t k => X29.ldcInt hx hown (mvT hZ (hw _ (List.mem_of_getElem? (i := 1) rfl))) (g := (mkF m 144 #[.val (.int q1), .val (.int q2), .val (.int q3), .unset, .unset, .unset, .unset] [(.int (21 : Int32)), (.ref b8), (.ref b8)])) rfl (hb hby at_144) t k) ?_
  show OGo p e below _ (T29.setTop (mkF m 146 #[.val (.int q1), .val (.int q2), .val (.int q3), .unset, .unset, .unset, .unset] [(.int (55295 : Int32)), (.int (21 : Int32)), (.ref b8), (.ref b8)]))
  obtain ⟨T30, h30, X30, e30, W30, O30', st30⟩ := OA.stI X29 hx hZ e29 O29 (j := (21 : Int32)) (x := (55295 : Int32)) (k := 21) (by decide) (by decide) (by decide) (g := (mkF m 146 #[.val (.int q1), .val (.int q2), .val (.int q3), .unset, .unset, .unset, .unset] [(.int (55295 : Int32)), (.int (21 : Int32)), (.ref b8), (.ref b8)])) rfl rfl (hb hby at_146)
  obtain ⟨fa30, hf30⟩ : ∃ z, z = oset fa29 21 (55295 : Int32) := ⟨_, rfl⟩
  have O30 := O30'
  rw [← hf30] at O30
  have N30 := Fr.snoc X30 N29 gb8
  have Z30 : n0 ≤ h30.size := Nat.le_trans Z29 (Keep.of_wr W30).1
  obtain ⟨lo30, X30, N30⟩ : ∃ L, Stand p l e room_1 s m #[(.int q1), (.int q2), (.int q3)] below meth c T30 L 1 28 ∧ Fr n0 L := ⟨_, X30, N30⟩
  refine OGo.st (fun t k => st30 t k) ?_
  show OGo p e below _ (T30.setTop (mkF m 147 #[.val (.int q1), .val (.int q2), .val (.int q3), .unset, .unset, .unset, .unset] [(.ref b8)]))
  refine OGo.st (fun t k => XS.dup X30.here hx rfl (hb hby at_147) rfl rfl k) ?_
  show OGo p e below _ (T30.setTop (mkF m 148 #[.val (.int q1), .val (.int q2), .val (.int q3), .unset, .unset, .unset, .unset] [(.ref b8), (.ref b8)]))
  refine OGo.st (fun t k => XS.bipush X30.here hx rfl (hb hby at_148) k) ?_
  show OGo p e below _ (T30.setTop (mkF m 150 #[.val (.int q1), .val (.int q2), .val (.int q3), .unset, .unset, .unset, .unset] [(.int (22 : Int32)), (.ref b8), (.ref b8)]))
  refine OGo.st (fun t k => X30.ldcInt hx hown (mvT hZ (hw _ (List.mem_of_getElem? (i := 2) rfl))) (g := (mkF m 150 #[.val (.int q1), .val (.int q2), .val (.int q3), .unset, .unset, .unset, .unset] [(.int (22 : Int32)), (.ref b8), (.ref b8)])) rfl (hb hby at_150) t k) ?_
  show OGo p e below _ (T30.setTop (mkF m 152 #[.val (.int q1), .val (.int q2), .val (.int q3), .unset, .unset, .unset, .unset] [(.int (63744 : Int32)), (.int (22 : Int32)), (.ref b8), (.ref b8)]))
  obtain ⟨T31, h31, X31, e31, W31, O31', st31⟩ := OA.stI X30 hx hZ e30 O30 (j := (22 : Int32)) (x := (63744 : Int32)) (k := 22) (by decide) (by decide) (by decide) (g := (mkF m 152 #[.val (.int q1), .val (.int q2), .val (.int q3), .unset, .unset, .unset, .unset] [(.int (63744 : Int32)), (.int (22 : Int32)), (.ref b8), (.ref b8)])) rfl rfl (hb hby at_152)
  obtain ⟨fa31, hf31⟩ : ∃ z, z = oset fa30 22 (63744 : Int32) := ⟨_, rfl⟩
  have O31 := O31'
  rw [← hf31] at O31
  have N31 := Fr.snoc X31 N30 gb8
  have Z31 : n0 ≤ h31.size := Nat.le_trans Z30 (Keep.of_wr W31).1
  obtain ⟨lo31, X31, N31⟩ : ∃ L, Stand p l e room_1 s m #[(.int q1), (.int q2), (.int q3)] below meth c T31 L 1 28 ∧ Fr n0 L := ⟨_, X31, N31⟩
  refine OGo.st (fun t k => st31 t k) ?_
  show OGo p e below _ (T31.setTop (mkF m 153 #[.val (.int q1), .val (.int q2), .val (.int q3), .unset, .unset, .unset, .unset] [(.ref b8)]))
  refine OGo.st (fun t k => XS.dup X31.here hx rfl (hb hby at_153) rfl rfl k) ?_
  show OGo p e below _ (T31.setTop (mkF m 154 #[.val (.int q1), .val (.int q2), .val (.int q3), .unset, .unset, .unset, .unset] [(.ref b8), (.ref b8)]))
  refine OGo.st (fun t k => XS.bipush X31.here hx rfl (hb hby at_154) k) ?_
  show OGo p e below _ (T31.setTop (mkF m 156 #[.val (.int q1), .val (.int q2), .val (.int q3), .unset, .unset, .unset, .unset] [(.int (23 : Int32)), (.ref b8), (.ref b8)]))
  refine OGo.st (fun t k => X31.ldcInt hx hown (mvT hZ (hw _ (List.mem_of_getElem? (i := 3) rfl))) (g := (mkF m 156 #[.val (.int q1), .val (.int q2), .val (.int q3), .unset, .unset, .unset, .unset] [(.int (23 : Int32)), (.ref b8), (.ref b8)])) rfl (hb hby at_156) t k) ?_
  show OGo p e below _ (T31.setTop (mkF m 158 #[.val (.int q1), .val (.int q2), .val (.int q3), .unset, .unset, .unset, .unset] [(.int (64975 : Int32)), (.int (23 : Int32)), (.ref b8), (.ref b8)]))
  obtain ⟨T32, h32, X32, e32, W32, O32', st32⟩ := OA.stI X31 hx hZ e31 O31 (j := (23 : Int32)) (x := (64975 : Int32)) (k := 23) (by decide) (by decide) (by decide) (g := (mkF m 158 #[.val (.int q1), .val (.int q2), .val (.int q3), .unset, .unset, .unset, .unset] [(.int (64975 : Int32)), (.int (23 : Int32)), (.ref b8), (.ref b8)])) rfl rfl (hb hby at_158)
  obtain ⟨fa32, hf32⟩ : ∃ z, z = oset fa31 23 (64975 : Int32) := ⟨_, rfl⟩
  have O32 := O32'
  rw [← hf32] at O32
  have N32 := Fr.snoc X32 N31 gb8
  have Z32 : n0 ≤ h32.size := Nat.le_trans Z31 (Keep.of_wr W32).1
  obtain ⟨lo32, X32, N32⟩ : ∃ L, Stand p l e room_1 s m #[(.int q1), (.int q2), (.int q3)] below meth c T32 L 1 28 ∧ Fr n0 L := ⟨_, X32, N32⟩
  refine OGo.st (fun t k => st32 t k) ?_
  show OGo p e below _ (T32.setTop (mkF m 159 #[.val (.int q1), .val (.int q2), .val (.int q3), .unset, .unset, .unset, .unset] [(.ref b8)]))
  refine OGo.st (fun t k => XS.dup X32.here hx rfl (hb hby at_159) rfl rfl k) ?_
  show OGo p e below _ (T32.setTop (mkF m 160 #[.val (.int q1), .val (.int q2), .val (.int q3), .unset, .unset, .unset, .unset] [(.ref b8), (.ref b8)]))
  refine OGo.st (fun t k => XS.bipush X32.here hx rfl (hb hby at_160) k) ?_
  show OGo p e below _ (T32.setTop (mkF m 162 #[.val (.int q1), .val (.int q2), .val (.int q3), .unset, .unset, .unset, .unset] [(.int (24 : Int32)), (.ref b8), (.ref b8)]))
  refine OGo.st (fun t k => X32.ldcInt hx hown (mvT hZ (hw _ (List.mem_of_getElem? (i := 4) rfl))) (g := (mkF m 162 #[.val (.int q1), .val (.int q2), .val (.int q3), .unset, .unset, .unset, .unset] [(.int (24 : Int32)), (.ref b8), (.ref b8)])) rfl (hb hby at_162) t k) ?_
  show OGo p e below _ (T32.setTop (mkF m 164 #[.val (.int q1), .val (.int q2), .val (.int q3), .unset, .unset, .unset, .unset] [(.int (65008 : Int32)), (.int (24 : Int32)), (.ref b8), (.ref b8)]))
  obtain ⟨T33, h33, X33, e33, W33, O33', st33⟩ := OA.stI X32 hx hZ e32 O32 (j := (24 : Int32)) (x := (65008 : Int32)) (k := 24) (by decide) (by decide) (by decide) (g := (mkF m 164 #[.val (.int q1), .val (.int q2), .val (.int q3), .unset, .unset, .unset, .unset] [(.int (65008 : Int32)), (.int (24 : Int32)), (.ref b8), (.ref b8)])) rfl rfl (hb hby at_164)
  obtain ⟨fa33, hf33⟩ : ∃ z, z = oset fa32 24 (65008 : Int32) := ⟨_, rfl⟩
  have O33 := O33'
  rw [← hf33] at O33
  have N33 := Fr.snoc X33 N32 gb8
  have Z33 : n0 ≤ h33.size := Nat.le_trans Z32 (Keep.of_wr W33).1
  obtain ⟨lo33, X33, N33⟩ : ∃ L, Stand p l e room_1 s m #[(.int q1), (.int q2), (.int q3)] below meth c T33 L 1 28 ∧ Fr n0 L := ⟨_, X33, N33⟩
  refine OGo.st (fun t k => st33 t k) ?_
  show OGo p e below _ (T33.setTop (mkF m 165 #[.val (.int q1), .val (.int q2), .val (.int q3), .unset, .unset, .unset, .unset] [(.ref b8)]))
  refine OGo.st (fun t k => XS.dup X33.here hx rfl (hb hby at_165) rfl rfl k) ?_
  show OGo p e below _ (T33.setTop (mkF m 166 #[.val (.int q1), .val (.int q2), .val (.int q3), .unset, .unset, .unset, .unset] [(.ref b8), (.ref b8)]))
  refine OGo.st (fun t k => XS.bipush X33.here hx rfl (hb hby at_166) k) ?_
  show OGo p e below _ (T33.setTop (mkF m 168 #[.val (.int q1), .val (.int q2), .val (.int q3), .unset, .unset, .unset, .unset] [(.int (25 : Int32)), (.ref b8), (.ref b8)]))
  refine OGo.st (fun t k => X33.ldcInt hx hown (mvT hZ (hw _ (List.mem_of_getElem? (i := 5) rfl))) (g := (mkF m 168 #[.val (.int q1), .val (.int q2), .val (.int q3), .unset, .unset, .unset, .unset] [(.int (25 : Int32)), (.ref b8), (.ref b8)])) rfl (hb hby at_168) t k) ?_
  show OGo p e below _ (T33.setTop (mkF m 170 #[.val (.int q1), .val (.int q2), .val (.int q3), .unset, .unset, .unset, .unset] [(.int (65533 : Int32)), (.int (25 : Int32)), (.ref b8), (.ref b8)]))
  obtain ⟨T34, h34, X34, e34, W34, O34', st34⟩ := OA.stI X33 hx hZ e33 O33 (j := (25 : Int32)) (x := (65533 : Int32)) (k := 25) (by decide) (by decide) (by decide) (g := (mkF m 170 #[.val (.int q1), .val (.int q2), .val (.int q3), .unset, .unset, .unset, .unset] [(.int (65533 : Int32)), (.int (25 : Int32)), (.ref b8), (.ref b8)])) rfl rfl (hb hby at_170)
  obtain ⟨fa34, hf34⟩ : ∃ z, z = oset fa33 25 (65533 : Int32) := ⟨_, rfl⟩
  have O34 := O34'
  rw [← hf34] at O34
  have N34 := Fr.snoc X34 N33 gb8
  have Z34 : n0 ≤ h34.size := Nat.le_trans Z33 (Keep.of_wr W34).1
  obtain ⟨lo34, X34, N34⟩ : ∃ L, Stand p l e room_1 s m #[(.int q1), (.int q2), (.int q3)] below meth c T34 L 1 28 ∧ Fr n0 L := ⟨_, X34, N34⟩
  refine OGo.st (fun t k => st34 t k) ?_
  show OGo p e below _ (T34.setTop (mkF m 171 #[.val (.int q1), .val (.int q2), .val (.int q3), .unset, .unset, .unset, .unset] [(.ref b8)]))
  refine OGo.st (fun t k => XS.dup X34.here hx rfl (hb hby at_171) rfl rfl k) ?_
  show OGo p e below _ (T34.setTop (mkF m 172 #[.val (.int q1), .val (.int q2), .val (.int q3), .unset, .unset, .unset, .unset] [(.ref b8), (.ref b8)]))
  refine OGo.st (fun t k => XS.bipush X34.here hx rfl (hb hby at_172) k) ?_
  show OGo p e below _ (T34.setTop (mkF m 174 #[.val (.int q1), .val (.int q2), .val (.int q3), .unset, .unset, .unset, .unset] [(.int (26 : Int32)), (.ref b8), (.ref b8)]))
  refine OGo.st (fun t k => X34.ldcInt hx hown (mvT hZ (hw _ (List.mem_of_getElem? (i := 6) rfl))) (g := (mkF m 174 #[.val (.int q1), .val (.int q2), .val (.int q3), .unset, .unset, .unset, .unset] [(.int (26 : Int32)), (.ref b8), (.ref b8)])) rfl (hb hby at_174) t k) ?_
  show OGo p e below _ (T34.setTop (mkF m 176 #[.val (.int q1), .val (.int q2), .val (.int q3), .unset, .unset, .unset, .unset] [(.int (65536 : Int32)), (.int (26 : Int32)), (.ref b8), (.ref b8)]))
  obtain ⟨T35, h35, X35, e35, W35, O35', st35⟩ := OA.stI X34 hx hZ e34 O34 (j := (26 : Int32)) (x := (65536 : Int32)) (k := 26) (by decide) (by decide) (by decide) (g := (mkF m 176 #[.val (.int q1), .val (.int q2), .val (.int q3), .unset, .unset, .unset, .unset] [(.int (65536 : Int32)), (.int (26 : Int32)), (.ref b8), (.ref b8)])) rfl rfl (hb hby at_176)
  obtain ⟨fa35, hf35⟩ : ∃ z, z = oset fa34 26 (65536 : Int32) := ⟨_, rfl⟩
  have O35 := O35'
  rw [← hf35] at O35
  have N35 := Fr.snoc X35 N34 gb8
  have Z35 : n0 ≤ h35.size := Nat.le_trans Z34 (Keep.of_wr W35).1
  obtain ⟨lo35, X35, N35⟩ : ∃ L, Stand p l e room_1 s m #[(.int q1), (.int q2), (.int q3)] below meth c T35 L 1 28 ∧ Fr n0 L := ⟨_, X35, N35⟩
  refine OGo.st (fun t k => st35 t k) ?_
  show OGo p e below _ (T35.setTop (mkF m 177 #[.val (.int q1), .val (.int q2), .val (.int q3), .unset, .unset, .unset, .unset] [(.ref b8)]))
  refine OGo.st (fun t k => XS.dup X35.here hx rfl (hb hby at_177) rfl rfl k) ?_
  show OGo p e below _ (T35.setTop (mkF m 178 #[.val (.int q1), .val (.int q2), .val (.int q3), .unset, .unset, .unset, .unset] [(.ref b8), (.ref b8)]))
  refine OGo.st (fun t k => XS.bipush X35.here hx rfl (hb hby at_178) k) ?_
  show OGo p e below _ (T35.setTop (mkF m 180 #[.val (.int q1), .val (.int q2), .val (.int q3), .unset, .unset, .unset, .unset] [(.int (27 : Int32)), (.ref b8), (.ref b8)]))
  refine OGo.st (fun t k => X35.ldcInt hx hown (mvT hZ (hw _ (List.mem_of_getElem? (i := 7) rfl))) (g := (mkF m 180 #[.val (.int q1), .val (.int q2), .val (.int q3), .unset, .unset, .unset, .unset] [(.int (27 : Int32)), (.ref b8), (.ref b8)])) rfl (hb hby at_180) t k) ?_
  show OGo p e below _ (T35.setTop (mkF m 182 #[.val (.int q1), .val (.int q2), .val (.int q3), .unset, .unset, .unset, .unset] [(.int (983039 : Int32)), (.int (27 : Int32)), (.ref b8), (.ref b8)]))
  obtain ⟨T36, h36, X36, e36, W36, O36', st36⟩ := OA.stI X35 hx hZ e35 O35 (j := (27 : Int32)) (x := (983039 : Int32)) (k := 27) (by decide) (by decide) (by decide) (g := (mkF m 182 #[.val (.int q1), .val (.int q2), .val (.int q3), .unset, .unset, .unset, .unset] [(.int (983039 : Int32)), (.int (27 : Int32)), (.ref b8), (.ref b8)])) rfl rfl (hb hby at_182)
  obtain ⟨fa36, hf36⟩ : ∃ z, z = oset fa35 27 (983039 : Int32) := ⟨_, rfl⟩
  have O36 := O36'
  rw [← hf36] at O36
  have N36 := Fr.snoc X36 N35 gb8
  have Z36 : n0 ≤ h36.size := Nat.le_trans Z35 (Keep.of_wr W36).1
  obtain ⟨lo36, X36, N36⟩ : ∃ L, Stand p l e room_1 s m #[(.int q1), (.int q2), (.int q3)] below meth c T36 L 1 28 ∧ Fr n0 L := ⟨_, X36, N36⟩
  refine OGo.st (fun t k => st36 t k) ?_
  show OGo p e below _ (T36.setTop (mkF m 183 #[.val (.int q1), .val (.int q2), .val (.int q3), .unset, .unset, .unset, .unset] [(.ref b8)]))
  refine OGo.st (fun t k => XS.astoreN X36.here hx rfl (hb hby at_183) rfl rfl (l' := #[.val (.int q1), .val (.int q2), .val (.int q3), .val (.ref b8), .unset, .unset, .unset]) rfl k) ?_
  show OGo p e below _ (T36.setTop (mkF m 184 #[.val (.int q1), .val (.int q2), .val (.int q3), .val (.ref b8), .unset, .unset, .unset] []))
  refine OGo.st (fun t k => XS.aloadN X36.here hx rfl (hb hby at_184) rfl rfl k) ?_
  show OGo p e below _ (T36.setTop (mkF m 185 #[.val (.int q1), .val (.int q2), .val (.int q3), .val (.ref b8), .unset, .unset, .unset] [(.ref b8)]))
  refine OGo.st (fun t k => XS.iloadN X36.here hx rfl (hb hby at_185) rfl k) ?_
  show OGo p e below _ (T36.setTop (mkF m 186 #[.val (.int q1), .val (.int q2), .val (.int q3), .val (.ref b8), .unset, .unset, .unset] [(.int q2), (.ref b8)]))
  refine OGo.st (fun t k => X36.ldcInt hx hown (mvT hZ (hw _ (List.mem_of_getElem? (i := 8) rfl))) (g := (mkF m 186 #[.val (.int q1), .val (.int q2), .val (.int q3), .val (.ref b8), .unset, .unset, .unset] [(.int q2), (.ref b8)])) rfl (hb hby at_186) t k) ?_
  show OGo p e below _ (T36.setTop (mkF m 188 #[.val (.int q1), .val (.int q2), .val (.int q3), .val (.ref b8), .unset, .unset, .unset] [(.int (2147483647 : Int32)), (.int q2), (.ref b8)]))
  refine OGo.st (fun t k => XS.iand X36.here hx rfl (hb hby at_188) rfl k) ?_
  show OGo p e below _ (T36.setTop (mkF m 189 #[.val (.int q1), .val (.int q2), .val (.int q3), .val (.ref b8), .unset, .unset, .unset] [(.int (q2 &&& (2147483647 : Int32))), (.ref b8)]))
  refine OGo.st (fun t k => XS.bipush X36.here hx rfl (hb hby at_189) k) ?_
  show OGo p e below _ (T36.setTop (mkF m 191 #[.val (.int q1), .val (.int q2), .val (.int q3), .val (.ref b8), .unset, .unset, .unset] [(.int (28 : Int32)), (.int (q2 &&& (2147483647 : Int32))), (.ref b8)]))
  refine OGo.st (fun t k => XS.irem X36.here hx rfl (hb hby at_191) rfl (by decide) k) ?_
  show OGo p e below _ (T36.setTop (mkF m 192 #[.val (.int q1), .val (.int q2), .val (.int q3), .val (.ref b8), .unset, .unset, .unset] [(.int ((q2 &&& (2147483647 : Int32)) - ((q2 &&& (2147483647 : Int32)) / (28 : Int32)) * (28 : Int32))), (.ref b8)]))
  refine OGo.st (fun t k => OA.ldI X36 hx hZ e36 O36 (j := ((q2 &&& (2147483647 : Int32)) - ((q2 &&& (2147483647 : Int32)) / (28 : Int32)) * (28 : Int32))) (k := (((q2 &&& (2147483647 : Int32)) - ((q2 &&& (2147483647 : Int32)) / (28 : Int32)) * (28 : Int32))).toNatClampNeg) (own_idx q2).1 rfl (own_idx q2).2 (g := (mkF m 192 #[.val (.int q1), .val (.int q2), .val (.int q3), .val (.ref b8), .unset, .unset, .unset] [(.int ((q2 &&& (2147483647 : Int32)) - ((q2 &&& (2147483647 : Int32)) / (28 : Int32)) * (28 : Int32))), (.ref b8)])) rfl rfl (hb hby at_192) t k) ?_
  show OGo p e below _ (T36.setTop (mkF m 193 #[.val (.int q1), .val (.int q2), .val (.int q3), .val (.ref b8), .unset, .unset, .unset] [(.int (fa36 (((q2 &&& (2147483647 : Int32)) - ((q2 &&& (2147483647 : Int32)) / (28 : Int32)) * (28 : Int32))).toNatClampNeg))]))
  generalize hw_w37 : (fa36 (((q2 &&& (2147483647 : Int32)) - ((q2 &&& (2147483647 : Int32)) / (28 : Int32)) * (28 : Int32))).toNatClampNeg) = w37
  refine OGo.st (fun t k => XS.iloadN X36.here hx rfl (hb hby at_193) rfl k) ?_
  show OGo p e below _ (T36.setTop (mkF m 194 #[.val (.int q1), .val (.int q2), .val (.int q3), .val (.ref b8), .unset, .unset, .unset] [(.int q3), (.int w37)]))
  refine OGo.st (fun t k => XS.iconst X36.here hx rfl (hb hby at_194) k) ?_
  show OGo p e below _ (T36.setTop (mkF m 195 #[.val (.int q1), .val (.int q2), .val (.int q3), .val (.ref b8), .unset, .unset, .unset] [(.int (3 : Int32)), (.int q3), (.int w37)]))
  refine OGo.st (fun t k => XS.iand X36.here hx rfl (hb hby at_195) rfl k) ?_
  show OGo p e below _ (T36.setTop (mkF m 196 #[.val (.int q1), .val (.int q2), .val (.int q3), .val (.ref b8), .unset, .unset, .unset] [(.int (q3 &&& (3 : Int32))), (.int w37)]))
  refine OGo.st (fun t k => XS.iconst X36.here hx rfl (hb hby at_196) k) ?_
  show OGo p e below _ (T36.setTop (mkF m 197 #[.val (.int q1), .val (.int q2), .val (.int q3), .val (.ref b8), .unset, .unset, .unset] [(.int (1 : Int32)), (.int (q3 &&& (3 : Int32))), (.int w37)]))
  refine OGo.st (fun t k => XS.isub X36.here hx rfl (hb hby at_197) rfl k) ?_
  show OGo p e below _ (T36.setTop (mkF m 198 #[.val (.int q1), .val (.int q2), .val (.int q3), .val (.ref b8), .unset, .unset, .unset] [(.int ((q3 &&& (3 : Int32)) - (1 : Int32))), (.int w37)]))
  refine OGo.st (fun t k => XS.iadd X36.here hx rfl (hb hby at_198) rfl k) ?_
  show OGo p e below _ (T36.setTop (mkF m 199 #[.val (.int q1), .val (.int q2), .val (.int q3), .val (.ref b8), .unset, .unset, .unset] [(.int (w37 + ((q3 &&& (3 : Int32)) - (1 : Int32))))]))
  refine OGo.st (fun t k => XS.istore X36.here hx rfl (hb hby at_199) rfl (l' := #[.val (.int q1), .val (.int q2), .val (.int q3), .val (.ref b8), .val (.int (w37 + ((q3 &&& (3 : Int32)) - (1 : Int32)))), .unset, .unset]) rfl k) ?_
  show OGo p e below _ (T36.setTop (mkF m 201 #[.val (.int q1), .val (.int q2), .val (.int q3), .val (.ref b8), .val (.int (w37 + ((q3 &&& (3 : Int32)) - (1 : Int32)))), .unset, .unset] []))
  refine OGo.st (fun t k => XS.iloadN X36.here hx rfl (hb hby at_201) rfl k) ?_
  show OGo p e below _ (T36.setTop (mkF m 202 #[.val (.int q1), .val (.int q2), .val (.int q3), .val (.ref b8), .val (.int (w37 + ((q3 &&& (3 : Int32)) - (1 : Int32)))), .unset, .unset] [(.int q1)]))
  obtain ⟨_, _, ⟨T38, L38, k38, n38⟩, -, X38, ⟨Lc38, hQ38, l38, y38, z38⟩, st38⟩ := Jvm.LawKit.callS X36 hx (y := (⟨"com/example/triadne/triadne/Terminals", "isPnCharsBase", "(I)Z"⟩ : MethodName)) hown (mvT hZ (hw _ (List.mem_of_getElem? (i := 9) rfl))) (mvT hZ (hw _ (List.mem_of_getElem? (i := 10) rfl))) (mvT hZ (hw _ (List.mem_of_getElem? (i := 11) rfl))) (mvT hZ (hw _ (List.mem_of_getElem? (i := 12) rfl))) (by decide) (backOf (W := 0) (rm1 l Z a0 hw [] q1 h36 n0 Z36) hZ (hw _ (List.mem_of_getElem? (i := 12) rfl)) (hw _ (List.mem_of_getElem? (i := 11) rfl)) (by decide) (by decide)) (g := (mkF m 202 #[.val (.int q1), .val (.int q2), .val (.int q3), .val (.ref b8), .val (.int (w37 + ((q3 &&& (3 : Int32)) - (1 : Int32)))), .unset, .unset] [(.int q1)])) rfl (by rw [hml]; rfl) (argsL := [(.int q1)]) (rest := []) (lenOf pd0_0 rfl) rfl (by show 2 * 0 + _ ≤ _; exact Nat.le_of_eq rfl) (hb hby at_202) (fun _ _ => ⟨rfl, e36, (by decide : 1 + 0 ≤ _), (by decide : 28 + 0 ≤ _)⟩)
  dsimp only [Pt.U, Pt.locs, Pt.cells, Pt.slots] at X38 l38 y38 z38 st38 hQ38
  subst l38 y38 z38
  obtain ⟨rfl, Nq38, e38⟩ := hQ38
  have N38 := Fr.app N36 Nq38
  obtain ⟨lo38, X38, N38⟩ : ∃ L, Stand p l e room_1 s m #[(.int q1), (.int q2), (.int q3)] below meth c T38 L 1 28 ∧ Fr n0 L := ⟨_, X38, N38⟩
  refine OGo.st (fun t k => st38 t k) ?_
  show OGo p e below _ (T38.setTop (mkF m 205 #[.val (.int q1), .val (.int q2), .val (.int q3), .val (.ref b8), .val (.int (w37 + ((q3 &&& (3 : Int32)) - (1 : Int32)))), .unset, .unset] [(.int (f1 q1))]))
  refine OGo.st (fun t k => XS.iloadN X38.here hx rfl (hb hby at_205) rfl k) ?_
  show OGo p e below _ (T38.setTop (mkF m 206 #[.val (.int q1), .val (.int q2), .val (.int q3), .val (.ref b8), .val (.int (w37 + ((q3 &&& (3 : Int32)) - (1 : Int32)))), .unset, .unset] [(.int q1), (.int (f1 q1))]))
  obtain ⟨_, _, ⟨T39, L39, k39, n39⟩, -, X39, ⟨Lc39, hQ39, l39, y39, z39⟩, st39⟩ := Jvm.LawKit.callS X38 hx (y := (⟨"com/example/triadne/triadne/TerminalsIsPnCharsBasePinLaw", "inGap", "(I)Z"⟩ : MethodName)) hown (mvT hZ (hw _ (List.mem_of_getElem? (i := 16) rfl))) (mvT hZ (hw _ (List.mem_of_getElem? (i := 17) rfl))) (mvT hZ (hw _ (List.mem_of_getElem? (i := 18) rfl))) (mvT hZ (hw _ (List.mem_of_getElem? (i := 19) rfl))) (by decide) (backOf (W := 1) (rm2 l Z a0 hw [] q1 h36 n0 Z36) hZ (hw _ (List.mem_of_getElem? (i := 19) rfl)) (hw _ (List.mem_of_getElem? (i := 18) rfl)) (by decide) (by decide)) (g := (mkF m 206 #[.val (.int q1), .val (.int q2), .val (.int q3), .val (.ref b8), .val (.int (w37 + ((q3 &&& (3 : Int32)) - (1 : Int32)))), .unset, .unset] [(.int q1), (.int (f1 q1))])) rfl (by rw [hml]; rfl) (argsL := [(.int q1)]) (rest := [(.int (f1 q1))]) (lenOf pd0_0 rfl) rfl (by show 2 * 0 + _ ≤ _; exact Nat.le_of_eq rfl) (hb hby at_206) (fun _ _ => ⟨rfl, e38, (by decide : 1 + 0 ≤ _), (by decide : 28 + 0 ≤ _)⟩)
  dsimp only [Pt.U, Pt.locs, Pt.cells, Pt.slots] at X39 l39 y39 z39 st39 hQ39
  subst l39 y39 z39
  obtain ⟨rfl, Nq39, e39⟩ := hQ39
  have N39 := Fr.app N38 Nq39
  obtain ⟨lo39, X39, N39⟩ : ∃ L, Stand p l e room_1 s m #[(.int q1), (.int q2), (.int q3)] below meth c T39 L 1 28 ∧ Fr n0 L := ⟨_, X39, N39⟩
  refine OGo.st (fun t k => st39 t k) ?_
  show OGo p e below _ (T39.setTop (mkF m 209 #[.val (.int q1), .val (.int q2), .val (.int q3), .val (.ref b8), .val (.int (w37 + ((q3 &&& (3 : Int32)) - (1 : Int32)))), .unset, .unset] [(.int (f2 q1)), (.int (f1 q1))]))
  refine OGo.eqvF (law_eq q1 q2 q3 w37).symm ?_
  by_cases hc209_40 : (f2 q1) = (0 : Int32)
  · refine OGo.eqvF (show (g0_209_6 q1 q2 q3 w37) = (g0_j217 q1 q2 q3 (w37 + ((q3 &&& (3 : Int32)) - (1 : Int32))) (1 : Int32)) from if_pos hc209_40) ?_
    refine OGo.st (fun t k => XS.ifNo X39.here hx rfl (hb hby at_209) rfl ((if0 _ _).trans (teq hc209_40).2) k) ?_
    show OGo p e below _ (T39.setTop (mkF m 212 #[.val (.int q1), .val (.int q2), .val (.int q3), .val (.ref b8), .val (.int (w37 + ((q3 &&& (3 : Int32)) - (1 : Int32)))), .unset, .unset] [(.int (f1 q1))]))
    refine OGo.st (fun t k => XS.iconst X39.here hx rfl (hb hby at_212) k) ?_
    show OGo p e below _ (T39.setTop (mkF m 213 #[.val (.int q1), .val (.int q2), .val (.int q3), .val (.ref b8), .val (.int (w37 + ((q3 &&& (3 : Int32)) - (1 : Int32)))), .unset, .unset] [(.int (1 : Int32)), (.int (f1 q1))]))
    refine OGo.st (fun t k => XS.goto X39.here hx rfl (pc0 := 213) (pc' := 217) rfl (hb hby at_213) (by decide) (by decide) k) ?_
    show OGo p e below _ (T39.setTop (mkF m 217 #[.val (.int q1), .val (.int q2), .val (.int q3), .val (.ref b8), .val (.int (w37 + ((q3 &&& (3 : Int32)) - (1 : Int32)))), .unset, .unset] [(.int (1 : Int32)), (.int (f1 q1))]))
    exact J217 T39 _ h36 X39 e39 N39 Z36 b8 (w37 + ((q3 &&& (3 : Int32)) - (1 : Int32))) (1 : Int32)
  · refine OGo.eqvF (show (g0_209_6 q1 q2 q3 w37) = (g0_j217 q1 q2 q3 (w37 + ((q3 &&& (3 : Int32)) - (1 : Int32))) (0 : Int32)) from if_neg hc209_40) ?_
    refine OGo.st (fun t k => XS.ifYes X39.here hx rfl (pc0 := 209) (pc' := 216) rfl (hb hby at_209) rfl ((if0 _ _).trans (feq hc209_40).2) (by decide) (by decide) k) ?_
    show OGo p e below _ (T39.setTop (mkF m 216 #[.val (.int q1), .val (.int q2), .val (.int q3), .val (.ref b8), .val (.int (w37 + ((q3 &&& (3 : Int32)) - (1 : Int32)))), .unset, .unset] [(.int (f1 q1))]))
    refine OGo.st (fun t k => XS.iconst X39.here hx rfl (hb hby at_216) k) ?_
    show OGo p e below _ (T39.setTop (mkF m 217 #[.val (.int q1), .val (.int q2), .val (.int q3), .val (.ref b8), .val (.int (w37 + ((q3 &&& (3 : Int32)) - (1 : Int32)))), .unset, .unset] [(.int (0 : Int32)), (.int (f1 q1))]))
    exact J217 T39 _ h36 X39 e39 N39 Z36 b8 (w37 + ((q3 &&& (3 : Int32)) - (1 : Int32))) (0 : Int32)
set_option maxRecDepth 65536 in
set_option maxHeartbeats 40000000 in
theorem comes_1 {Post : Tables → Env → Array Value → State → Outcome → State → Prop} (hpost : ∀ tb e args s v u, (limb_1_1.after args s (.returned v) u = true ∧ limb_1_2.after args s (.returned v) u = true ∧ True) → FrameEnd s (.returned v) u (Jvm.fieldLocs frame_1_writes args s ++ Jvm.arrayLocs frame_1_arrays args s ++ Jvm.staticLocs frame_1_statics s) 16 128 → Post tb e args s (.returned v) u) :
    ArmFor flags0 classFile x code maxLocals ret World_1 tables_1 room_1 Calls_1 rest_1 Pre_1 Post := by
  intro l hfl _ _ p e ha hc hk s m args below hf hA hF happ hP
  obtain ⟨hcalls, hrest, hpre⟩ := hP
  obtain ⟨-, -, -, hnamed, -, -, -, hat⟩ := (Spec.applies_iff hf).mp happ
  obtain ⟨hg, hn⟩ := and_e (Cond.before_iff.mp (show (Jvm.Cond.and given_1 narrow_1).before args s = true from hpre))
  obtain ⟨gg1, gg2⟩ := and_e hg
  obtain ⟨gg3, gg4⟩ := and_e gg2
  obtain ⟨gg5, gg6⟩ := and_e gg4
  obtain ⟨w0, w1, w2, rfl⟩ : ∃ w0 w1 w2 : Value, args = #[w0, w1, w2] := by
    have hs : args.size = 3 := by simpa [Cond.value, given_1] using gg1
    obtain ⟨L⟩ := args
    match L, hs with
    | [w0, w1, w2], _ => exact ⟨w0, w1, w2, rfl⟩
  have hw := fun d (hd : d ∈ tables_1) => atoms_spec (ws := Jvm.Cond.code x code maxLocals ret :: tables_1) hat d (List.mem_cons_of_mem _ hd)
  obtain ⟨i0, ei0⟩ := is_v gg3
  obtain rfl : w0 = (.int i0) := Option.some.inj ei0
  obtain ⟨i1, ei1⟩ := is_v gg5
  obtain rfl : w1 = (.int i1) := Option.some.inj ei1
  obtain ⟨i2, ei2⟩ := is_v gg6
  obtain rfl : w2 = (.int i2) := Option.some.inj ei2
  obtain ⟨n, o, h1, h2, h3, _, L, rfl, ⟨rfl, N⟩, hq⟩ := rm0 l s _ hw tables_1 i0 i1 i2 s.heap s.heap.size (Nat.le_refl _) p e ha hc hk s m _ below hf ((Spec.applies_iff_loose hf).mp happ).1 ⟨rfl, State.Warmed39.refl s, rfl⟩ trivial
  refine ⟨n, _, h1, h2, h3, hpost _ _ _ _ _ _ ⟨Cond.after_iff.mpr rfl, Cond.after_iff.mpr (eq_i res_at (Term.int_eval (1)) rfl), trivial⟩ ⟨hq.1, hq.2.1, (hq.2.2.sift fun y hy => Or.inr (N y hy)).mono (by decide) (by decide)⟩⟩
theorem main_1_1 : Claimed_1_1 := comes_1 fun _ _ _ _ _ _ h hF => ⟨h.1, hF⟩
theorem main_1_2 : Claimed_1_2 := comes_1 fun _ _ _ _ _ _ h hF => ⟨h.2.1, hF⟩
end Jvm.Pilot.@@N@@
namespace Jvm.Pilot.@@N@@
open Jvm Jvm.ClassFile Sem Op Lib Jvm.Free Jvm.Stand Jvm.Pilot.@@N@@.Jvm.D
/-! MADE BY PROGRAM (witnessworld.py) out of the Statement's table words and the real class files: 9 classes; the members and pool entries that the words name. The judged class is class 1, her method 2. -/
namespace start1
open Jvm.ClassFile
def u (s : String) : CpInfo := .utf8 (stringToUtf16 s)
/-- a pool by its gaps: so many unusable entries, then the entry; so many at the end -/
def gap : Nat → List CpInfo → List CpInfo
  | 0, r => r
  | n + 1, r => .unusable :: gap n r
def poolList (es : List (Nat × CpInfo)) (last : Nat) : List CpInfo := es.foldr (fun e r => gap e.1 (e.2 :: r)) (gap last [])
def pool (es : List (Nat × CpInfo)) (last : Nat) : Array CpInfo := ⟨poolList es last⟩
def fileOf (pool : Array CpInfo) (this : Nat) (attrs : Array Attribute := #[]) (ms : Array MethodInfo := #[]) (fl : Nat := 33) (sup : Nat := 0) (ifs : Array Nat := #[]) (fds : Array FieldInfo := #[]) : ClassFile where
  minorVersion := 0
  majorVersion := 65
  constantPool := pool
  accessFlags := fl
  thisClass := this
  superClass := sup
  interfaces := ifs
  fields := fds
  methods := ms
  attributes := attrs
def plain (name : String) (sup : Option ClassId) : Class where
  name := name
  kind := .ordinary
  loader := none
  accessFlags := 33
  super := sup
  interfaces := #[]
  cf := none
  fields := #[]
  methods := #[]
  instanceTypes := #[]
  staticTypes := #[]
  resolved := #[]
  callSites := []
  init := .initialized
  statics := none
  mirror := none

def pool0 : Array CpInfo := pool [(5, u "<init>"), (0, u "()V"), (1, .class_ 10), (1, u "java/lang/Object")] 113

def k0m0 : Method := { name := "<init>", desc := "()V", sig := { parameters := [], returnType := none }, accessFlags := 1, code := none }
/-- java/lang/Object -/
def k0 : Class := { plain "java/lang/Object" none with
  accessFlags := 33
  interfaces := #[]
  cf := some (fileOf pool0 8 #[] #[{ accessFlags := 1, nameIndex := 5, descriptorIndex := 6, attributes := #[] }] 33 0 #[] #[])
  fields := #[]
  methods := #[k0m0]
  instanceTypes := #[]
  staticTypes := #[]
  resolved := Array.replicate 124 none
  statics := none }

def pool1 : Array CpInfo := pool [(2, .class_ 4), (1, u "java/lang/Object"), (0, u "<init>"), (0, u "()V"), (0, .integer 55296), (0, .integer 63743), (0, .integer 64976), (0, .integer 65007), (0, .integer 65534), (0, .integer 65535), (0, .integer 983039), (0, .integer 55295), (0, .integer 63744), (0, .integer 64975), (0, .integer 65008), (0, .integer 65533), (0, .integer 65536), (0, .integer 2147483647), (0, .methodref 22 23), (0, .class_ 24), (0, .nameAndType 25 26), (0, u "com/example/triadne/triadne/Terminals"), (0, u "isPnCharsBase"), (0, u "(I)Z"), (0, .methodref 28 29), (0, .class_ 30), (0, .nameAndType 31 26), (0, u "com/example/triadne/triadne/TerminalsIsPnCharsBasePinLaw"), (0, u "inGap"), (3, u "law"), (0, u "(III)Z")] 4

def k1m0 : Method := { name := "<init>", desc := "()V", sig := { parameters := [], returnType := none }, accessFlags := 2, code := none }
def k1c1 : Code := { maxStack := 2, maxLocals := 1, code := method_2_code, exceptionTable := #[], attributes := #[] }
def k1m1 : Method := { name := "inGap", desc := "(I)Z", sig := { parameters := [.int], returnType := some .boolean }, accessFlags := 10, code := some k1c1 }
def k1c2 : Code := { maxStack := 4, maxLocals := 7, code := code, exceptionTable := #[], attributes := #[] }
def k1m2 : Method := { name := "law", desc := "(III)Z", sig := { parameters := [.int, .int, .int], returnType := some .boolean }, accessFlags := 9, code := some k1c2 }
/-- com/example/triadne/triadne/TerminalsIsPnCharsBasePinLaw -/
def k1 : Class := { plain "com/example/triadne/triadne/TerminalsIsPnCharsBasePinLaw" (some 0) with
  accessFlags := 49
  interfaces := #[]
  cf := some (fileOf pool1 28 #[] #[{ accessFlags := 2, nameIndex := 5, descriptorIndex := 6, attributes := #[] }, { accessFlags := 10, nameIndex := 31, descriptorIndex := 26, attributes := #[] }, { accessFlags := 9, nameIndex := 35, descriptorIndex := 36, attributes := #[] }] 49 2 #[] #[])
  fields := #[]
  methods := #[k1m0, k1m1, k1m2]
  instanceTypes := #[]
  staticTypes := #[]
  resolved := Array.replicate 41 none
  statics := none }

def pool2 : Array CpInfo := pool [(2, .class_ 4), (1, u "java/lang/Object"), (0, u "<init>"), (0, u "()V"), (6, .integer 55295), (0, .integer 63744), (0, .integer 64975), (0, .integer 65008), (0, .integer 65533), (0, .integer 65536), (0, .integer 983039), (1, .class_ 23), (1, u "com/example/triadne/triadne/Terminals"), (0, u "isPnCharsBase"), (0, u "(I)Z"), (8, u "IRI_ASCII"), (0, u "[Z"), (0, .class_ 37), (0, u "com/example/triadne/triadne/Terminals$InputAhead"), (33, .class_ 72), (0, u "com/example/triadne/triadne/Terminals$TextAhead"), (4, .class_ 79), (1, u "com/example/triadne/triadne/Terminals$Ahead"), (90, u "STRING_ASCII_DOUBLE"), (2, u "STRING_ASCII_SINGLE"), (55, u "PN_CHARS_ASCII"), (33, u "PN_LOCAL_ASCII"), (2, u "VARNAME_ASCII")] 53

def k2m0 : Method := { name := "<init>", desc := "()V", sig := { parameters := [], returnType := none }, accessFlags := 2, code := none }
def k2c1 : Code := { maxStack := 2, maxLocals := 1, code := prog_157_method_3_code, exceptionTable := #[], attributes := #[] }
def k2m1 : Method := { name := "isPnCharsBase", desc := "(I)Z", sig := { parameters := [.int], returnType := some .boolean }, accessFlags := 8, code := some k2c1 }
/-- com/example/triadne/triadne/Terminals -/
def k2 : Class := { plain "com/example/triadne/triadne/Terminals" (some 0) with
  accessFlags := 48
  interfaces := #[]
  cf := some (fileOf pool2 21 #[.nestMembers #[36, 71, 77]] #[{ accessFlags := 2, nameIndex := 5, descriptorIndex := 6, attributes := #[] }, { accessFlags := 8, nameIndex := 24, descriptorIndex := 25, attributes := #[] }] 48 2 #[] #[{ accessFlags := 26, nameIndex := 34, descriptorIndex := 35, attributes := #[] }, { accessFlags := 26, nameIndex := 170, descriptorIndex := 35, attributes := #[] }, { accessFlags := 26, nameIndex := 173, descriptorIndex := 35, attributes := #[] }, { accessFlags := 24, nameIndex := 229, descriptorIndex := 35, attributes := #[] }, { accessFlags := 24, nameIndex := 263, descriptorIndex := 35, attributes := #[] }, { accessFlags := 24, nameIndex := 266, descriptorIndex := 35, attributes := #[] }])
  fields := #[{ name := "IRI_ASCII", type := (.array .boolean), accessFlags := 26, slot := 0, constantValue := 0 }, { name := "STRING_ASCII_DOUBLE", type := (.array .boolean), accessFlags := 26, slot := 1, constantValue := 0 }, { name := "STRING_ASCII_SINGLE", type := (.array .boolean), accessFlags := 26, slot := 2, constantValue := 0 }, { name := "PN_CHARS_ASCII", type := (.array .boolean), accessFlags := 24, slot := 3, constantValue := 0 }, { name := "PN_LOCAL_ASCII", type := (.array .boolean), accessFlags := 24, slot := 4, constantValue := 0 }, { name := "VARNAME_ASCII", type := (.array .boolean), accessFlags := 24, slot := 5, constantValue := 0 }]
  methods := #[k2m0, k2m1]
  instanceTypes := #[]
  staticTypes := #[(.array .boolean), (.array .boolean), (.array .boolean), (.array .boolean), (.array .boolean), (.array .boolean)]
  resolved := Array.replicate 320 none
  statics := none }

def pool3 : Array CpInfo := pool [(1, u "java/lang/Cloneable"), (0, .class_ 1), (0, u "java/lang/Object"), (0, .class_ 3)] 3

/-- java/lang/Cloneable -/
def k3 : Class := { plain "java/lang/Cloneable" (some 0) with
  accessFlags := 1537
  interfaces := #[]
  cf := some (fileOf pool3 2 #[] #[] 1537 4 #[] #[])
  fields := #[]
  methods := #[]
  instanceTypes := #[]
  staticTypes := #[]
  resolved := Array.replicate 8 none
  statics := none }

def pool4 : Array CpInfo := pool [(1, u "java/io/Serializable"), (0, .class_ 1), (0, u "java/lang/Object"), (0, .class_ 3)] 3

/-- java/io/Serializable -/
def k4 : Class := { plain "java/io/Serializable" (some 0) with
  accessFlags := 1537
  interfaces := #[]
  cf := some (fileOf pool4 2 #[] #[] 1537 4 #[] #[])
  fields := #[]
  methods := #[]
  instanceTypes := #[]
  staticTypes := #[]
  resolved := Array.replicate 8 none
  statics := none }

/-- the primitive byte -/
def k5 : Class := { plain "byte" none with kind := .primitive 'B', accessFlags := 0x411 }
/-- [B -/
def k6 : Class := { plain "[B" (some 0) with kind := .array 5 .byte, interfaces := #[3, 4], accessFlags := 1041 }

/-- the primitive int -/
def k7 : Class := { plain "int" none with kind := .primitive 'I', accessFlags := 0x411 }
/-- [I -/
def k8 : Class := { plain "[I" (some 0) with kind := .array 7 .int, interfaces := #[3, 4], accessFlags := 1041 }

def heap : Heap := #[]
def classes : Array Class := #[k0, k1, k2, k3, k4, k5, k6, k7, k8]
def interned : List (Array UInt16 × Addr) := []
def slotsUsed : Nat := 0
def theMethod : MethodId := ⟨1, 2⟩
def args0 : Array Value := #[.int 5, .int 300, .int 7]
def aboutOver (below : List Frame) : State where
  vm := { classes := classes, interned := interned.toArray }
  heap := heap
  slotsUsed := slotsUsed
  threads := #[{ frames := .invoking theMethod args0 :: below }]
def below0 : List Frame := [.native { method := ⟨0, 0⟩, args := #[] }]
def about1 : State := aboutOver below0
def p0 : Program := .bare "" "" ""
def e0 : Env := launch0.env 0 0 0
theorem w_frames : about1.frames = Frame.invoking theMethod args0 :: below0 := rfl
set_option maxRecDepth 65536 in
theorem w_args : argsFit about1.vm theMethod args0 = true := by decide +kernel
set_option maxRecDepth 65536 in
theorem w_heap : heapFits about1 = true := by decide +kernel
set_option maxRecDepth 65536 in
theorem w_runnable : about1.curStatus? = some .runnable := by decide +kernel
set_option maxRecDepth 65536 in
theorem w_alone : about1.alone = true := by decide +kernel
set_option maxRecDepth 65536 in
theorem w_named : about1.methodNamed? x = some theMethod := by decide +kernel
set_option maxRecDepth 65536 in
theorem w_hears : about1.hears theMethod below0 = true := by decide +kernel
set_option maxRecDepth 65536 in
theorem w_ripe : about1.ripe theMethod args0 below0 = true := by decide +kernel
theorem w_running : about1.status = .running := rfl
set_option maxRecDepth 65536 in
theorem w_room : about1.hasRoom e0.platform room_1 = true :=
  launch0.hasRoom_least _ room_1 (by decide +kernel) (by decide +kernel) (by decide +kernel) (by decide +kernel) (by decide +kernel) (by decide +kernel)
theorem allAtoms_all (ts : List Jvm.Cond) (a : Array Jvm.Value) (st : Jvm.State) : (allAtoms ts).before a st = ts.all (fun c => c.before a st) := by
  induction ts with
  | nil => rfl
  | cons c t ih =>
    show (Jvm.Cond.and c (allAtoms t)).before a st = _
    rw [Jvm.Cond.before_and, ih, List.all_cons]
def words1 : List Jvm.Cond := Jvm.Cond.code x code maxLocals ret :: tables_1
/-- a 'code' word, met by the world's own term for the bytes: nothing is compared byte by byte -/
theorem code_word {y : MethodName} {bytes : ByteArray} {mx : Nat} {rt : Option FieldType} {a : Array Value} {s : State} {m : MethodId} {meth : Method} {c : Code} (h1 : s.methodNamed? y = some m) (h2 : s.vm.method? m = some meth) (h3 : meth.code = some c) (h4 : c.code = bytes)
    (h5 : (c.maxLocals == mx && c.exceptionTable.isEmpty && decide (c.maxStack ≤ mostOperands) && decide (meth.sig.returnType = rt) && !meth.locks && decide (parseMethodDescriptor y.desc = some meth.sig)) = true) : (Jvm.Cond.code y bytes mx rt).before a s = true := by
  simp only [Bool.and_eq_true, beq_iff_eq, Bool.not_eq_true', decide_eq_true_eq] at h5
  obtain ⟨⟨⟨⟨⟨g1, g2⟩, g3⟩, g4⟩, g5⟩, g6⟩ := h5
  simp [Cond.before, Cond.holds, Cond.value, h1, h2, h3, h4, g1, g2, g3, g4, g5, g6]
def isCode : Jvm.Cond → Bool
  | .code _ _ _ _ => true
  | _ => false
theorem all_split {L : List Jvm.Cond} {P : Jvm.Cond → Bool} (h1 : L.all (fun c => isCode c || P c) = true) (h2 : ∀ c ∈ L.filter isCode, P c = true) : L.all P = true := by
  refine List.all_eq_true.mpr fun c hc => ?_
  have h := List.all_eq_true.mp h1 c hc
  rcases Bool.eq_false_or_eq_true (isCode c) with hi | hi
  · exact h2 c (List.mem_filter.mpr ⟨hc, hi⟩)
  · simpa [hi] using h
set_option maxRecDepth 65536 in
theorem w_c0 : (Jvm.Cond.code x code maxLocals ret).before args0 about1 = true := code_word (m := ⟨1, 2⟩) (meth := k1m2) (c := k1c2) (by decide +kernel) rfl rfl rfl (by decide +kernel)
set_option maxRecDepth 65536 in
theorem w_c1 : (Jvm.Cond.code ({ cls := "com/example/triadne/triadne/Terminals", name := "isPnCharsBase", desc := "(I)Z" } : Jvm.MethodName) prog_157_method_3_code (1 : Nat) (Option.some Jvm.ClassFile.FieldType.boolean)).before args0 about1 = true := code_word (m := ⟨2, 1⟩) (meth := k2m1) (c := k2c1) (by decide +kernel) rfl rfl rfl (by decide +kernel)
set_option maxRecDepth 65536 in
theorem w_c2 : (Jvm.Cond.code ({ cls := "com/example/triadne/triadne/TerminalsIsPnCharsBasePinLaw", name := "inGap", desc := "(I)Z" } : Jvm.MethodName) method_2_code (1 : Nat) (Option.some Jvm.ClassFile.FieldType.boolean)).before args0 about1 = true := code_word (m := ⟨1, 1⟩) (meth := k1m1) (c := k1c1) (by decide +kernel) rfl rfl rfl (by decide +kernel)
def codes1 : List Jvm.Cond := [Jvm.Cond.code x code maxLocals ret, Jvm.Cond.code ({ cls := "com/example/triadne/triadne/Terminals", name := "isPnCharsBase", desc := "(I)Z" } : Jvm.MethodName) prog_157_method_3_code (1 : Nat) (Option.some Jvm.ClassFile.FieldType.boolean), Jvm.Cond.code ({ cls := "com/example/triadne/triadne/TerminalsIsPnCharsBasePinLaw", name := "inGap", desc := "(I)Z" } : Jvm.MethodName) method_2_code (1 : Nat) (Option.some Jvm.ClassFile.FieldType.boolean)]
set_option maxRecDepth 65536 in
theorem codes_eq : words1.filter isCode = codes1 := rfl
theorem w_codes : ∀ c ∈ words1.filter isCode, c.before args0 about1 = true := by
  rw [codes_eq]
  intro c hc
  simp only [codes1, List.mem_cons, List.not_mem_nil, or_false] at hc
  rcases hc with rfl | rfl | rfl
  · exact w_c0
  · exact w_c1
  · exact w_c2
set_option maxRecDepth 65536 in
theorem w_t1 : (words1.take 24).all (fun c => isCode c || c.before args0 about1) = true := by decide +kernel
set_option maxRecDepth 65536 in
theorem w_t2 : (words1.drop 24).all (fun c => isCode c || c.before args0 about1) = true := by decide +kernel
theorem w_tables : (allAtoms (Jvm.Cond.code x code maxLocals ret :: tables_1)).before args0 about1 = true := by
  rw [allAtoms_all]
  show words1.all (fun c => c.before args0 about1) = true
  refine all_split ?_ w_codes
  rw [← List.take_append_drop 24 words1, List.all_append, w_t1, w_t2]
  rfl
set_option maxRecDepth 65536 in
theorem w_case : (Jvm.Cond.and given_1 narrow_1).before args0 about1 = true := by decide +kernel
theorem w_applies : (headSpec (Jvm.Cond.code x code maxLocals ret :: tables_1) room_1).applies x e0.platform about1 = true :=
  (Spec.applies_iff w_frames).mpr ⟨w_running, w_runnable, w_alone, w_named, w_hears, w_ripe, w_room, w_tables⟩
theorem atStart : AtStart classFile x code maxLocals ret World_1 tables_1 room_1 Calls_1 rest_1 Pre_1 launch0 p0 e0 about1 theMethod args0 below0 :=
  ⟨lists_1, trivial, launch0.admits_env _ _ _, launch0.least_env, fairChoices_fair.cas, fairChoices_fair.clock, w_frames, w_args, w_heap, w_applies, trivial, trivial, w_case⟩
end start1
theorem witness_1 : WitnessClaimed_1 := ⟨start1.p0, start1.e0, start1.about1, start1.theMethod, start1.args0, start1.below0, start1.atStart⟩
end Jvm.Pilot.@@N@@
