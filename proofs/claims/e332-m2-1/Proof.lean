import JvmDerived
import JvmDerived.Pilot.@@N@@Statement
import JvmDerived.Pilot.@@N@@Code
set_option linter.unusedVariables false
set_option linter.unusedSimpArgs false
namespace Jvm.RoadKit
open Sem ClassFile Op Lib Jvm.Stand Jvm.Free Jvm.LawKit
section New
variable {p : Program} {l : Launch} {e : Env} {R : Room} {s : State} {m : MethodId} {args : Array Value} {below : List Frame} {meth : Method} {c : Code} {T : State} {locs : List Loc} {cells slots : Nat}
theorem retI (X : Stand p l e R s m args below meth c T locs cells slots) (hx : p.tables.exec = Jvm.exec) {pc : Nat} {Ls : Array Slot} {z : Int32} {rest : List Value} (hret : meth.sig.returnType = some .int) (hd : decode c.code pc = .ok (.ireturn, 1)) {fs : List Frame}
    (hl : ∀ (f : JFrame) (acts : List Action), f.method = m → f.locked = none → f.entered = [] → (doReturn e (T.setTop f) acts (some (.int z))).1 = T.setFrames fs) : Steps p.tables e below (T.setTop (mkF m pc Ls (.int z :: rest))) (T.setFrames fs) := by
  have hm' : T.vm.method? m = some meth := X.method'
  have hn : narrow .int (.int z) = .int z := rfl
  show Steps p.tables e below (T.setTop { method := m, pc := pc, locals := Ls, stack := _ :: rest, locked := none }) _
  jvm_step X.here [X.here.top, hx, hd, hm', hret, hn]
  first | (intro acts; rw [hl _ acts rfl rfl rfl]) | rw [hl _ _ rfl rfl rfl]
  exact Steps.refl _
end New
end Jvm.RoadKit
namespace Jvm.Pilot.@@N@@
open Jvm Jvm.ClassFile Sem Op Lib Jvm.Free Jvm.Stand Jvm.LawKit Jvm.RoadKit Bundle Jvm.Pilot.@@N@@.Jvm.D
section Own
variable {p : Program} {l : Launch} {e : Env} {R : Room} {s : State} {m : MethodId} {args : Array Value} {below : List Frame} {meth : Method} {c : Code} {T : State} {locs : List Loc} {cells slots : Nat}
/-- from the state A the run comes to an end of the invocation of which Q holds -/
def OGo (p : Program) (e : Env) (below : List Frame) (Q : Outcome → State → Prop) (A : State) : Prop :=
  ∃ s₂ o, Steps p.tables e below A s₂ ∧ s₂.status = .running ∧ Ended s₂ below o ∧ Q o s₂
theorem OGo.st {Q : Outcome → State → Prop} {A B : State} (h : ∀ t, Steps p.tables e below B t → Steps p.tables e below A t) (g : OGo p e below Q B) : OGo p e below Q A := by
  obtain ⟨s₂, o, k, r⟩ := g
  exact ⟨s₂, o, h _ k, r⟩
/-- what a contract says of the end -/
def Out (s : State) (cells slots : Nat) (Q : Option Value → Heap → List Loc → Prop) (o : Outcome) (U : State) : Prop :=
  ∃ v L, o = .returned v ∧ Q v U.heap L ∧ FrameEnd s o U L cells slots
/-- it returns the int z (the long z), and the heap is as it was -/
def PI (n0 : Nat) (h0 : Heap) (z : Int32) (v : Option Value) (h : Heap) (L : List Loc) : Prop := v = some (.int z) ∧ Fr n0 L ∧ h = h0
def PJ (n0 : Nat) (h0 : Heap) (z : Int64) (v : Option Value) (h : Heap) (L : List Loc) : Prop := v = some (.long z) ∧ Fr n0 L ∧ h = h0
def PF (n0 : Nat) (z : Int32) (v : Option Value) (h : Heap) (L : List Loc) : Prop := v = some (.int z) ∧ Fr n0 L
theorem OGo.eqvF {C S n0 : Nat} {z z' : Int32} {A : State} (q : z = z') (g : OGo p e below (Out s C S (PF n0 z')) A) : OGo p e below (Out s C S (PF n0 z)) A := q ▸ g
theorem OGo.eqvI {C S n0 : Nat} {h0 : Heap} {z z' : Int32} {A : State} (q : z = z') (g : OGo p e below (Out s C S (PI n0 h0 z')) A) : OGo p e below (Out s C S (PI n0 h0 z)) A := q ▸ g
theorem OGo.eqvJ {C S n0 : Nat} {h0 : Heap} {z z' : Int64} {A : State} (q : z = z') (g : OGo p e below (Out s C S (PJ n0 h0 z')) A) : OGo p e below (Out s C S (PJ n0 h0 z)) A := q ▸ g
theorem OGo.outI (X : Stand p l e R s m args below meth c T locs cells slots) (hx : p.tables.exec = Jvm.exec) (hret : meth.sig.returnType = some .int) (hlk : meth.locks = false) {pc : Nat} {Ls : Array Slot} {z : Int32} {rest : List Value} (hd : decode c.code pc = .ok (.ireturn, 1))
    {Q : Option Value → Heap → List Loc → Prop} {C S : Nat} (hq : Q (some (.int z)) T.heap locs) (hC : cells ≤ C) (hS : slots ≤ S) : OGo p e below (Out s C S Q) (T.setTop (mkF m pc Ls (.int z :: rest))) := by
  obtain ⟨fs, hr, hrun, hended, hW, hsame⟩ := X.leave (v := some (.int z)) (fun h => by rw [hret] at h; cases h) hlk
  exact ⟨_, _, retI X hx hret hd hr, hrun, hended, _, _, rfl, hq, ⟨_, rfl⟩, hW, hsame.mono hC hS⟩
theorem OGo.outN (X : Stand p l e R s m args below meth c T locs cells slots) (hx : p.tables.exec = Jvm.exec) {t : FieldType} (hret : meth.sig.returnType = some t) (ht : t = .boolean ∨ t = .byte ∨ t = .char ∨ t = .short) (hlk : meth.locks = false) {pc : Nat} {Ls : Array Slot} {z : Int32} {rest : List Value} (hd : decode c.code pc = .ok (.ireturn, 1))
    {Q : Option Value → Heap → List Loc → Prop} {C S : Nat} (hq : Q (some (.int (nar t z))) T.heap locs) (hC : cells ≤ C) (hS : slots ≤ S) : OGo p e below (Out s C S Q) (T.setTop (mkF m pc Ls (.int z :: rest))) := by
  obtain ⟨fs, hr, hrun, hended, hW, hsame⟩ := X.leave (v := some (.int (nar t z))) (fun h => by rw [hret] at h; cases h) hlk
  exact ⟨_, _, retN X hx hret ht hd hr, hrun, hended, _, _, rfl, hq, ⟨_, rfl⟩, hW, hsame.mono hC hS⟩
theorem OGo.outJ (X : Stand p l e R s m args below meth c T locs cells slots) (hx : p.tables.exec = Jvm.exec) (hret : meth.sig.returnType = some .long) (hlk : meth.locks = false) {pc : Nat} {Ls : Array Slot} {z : Int64} (hd : decode c.code pc = .ok (.lreturn, 1))
    {Q : Option Value → Heap → List Loc → Prop} {C S : Nat} (hq : Q (some (.long z)) T.heap locs) (hC : cells ≤ C) (hS : slots ≤ S) : OGo p e below (Out s C S Q) (T.setTop (mkF m pc Ls [.long z])) := by
  obtain ⟨fs, hr, hrun, hended, hW, hsame⟩ := X.leave (v := some (.long z)) (fun h => by rw [hret] at h; cases h) hlk
  exact ⟨_, _, X.lreturnOut hx hret hd hr, hrun, hended, _, _, rfl, hq, ⟨_, rfl⟩, hW, hsame.mono hC hS⟩
theorem OGo.outV (X : Stand p l e R s m args below meth c T locs cells slots) (hx : p.tables.exec = Jvm.exec) (hret : meth.sig.returnType = none) (hlk : meth.locks = false) {pc : Nat} {Ls : Array Slot} (hd : decode c.code pc = .ok (.return_, 1))
    {Q : Option Value → Heap → List Loc → Prop} {C S : Nat} (hq : Q none T.heap locs) (hC : cells ≤ C) (hS : slots ≤ S) : OGo p e below (Out s C S Q) (T.setTop (mkF m pc Ls [])) := by
  obtain ⟨fs, hr, hrun, hended, hW, hsame⟩ := X.leave (v := none) (fun _ => rfl) hlk
  exact ⟨_, _, X.returnOut hx hret hd hr, hrun, hended, _, _, rfl, hq, ⟨_, rfl⟩, hW, hsame.mono hC hS⟩
end Own
section OwnH
variable {p : Program} {l : Launch} {e : Env} {R : Room} {s : State} {m : MethodId} {args : Array Value} {below : List Frame} {meth : Method} {c : Code} {T : State} {locs : List Loc} {cells slots : Nat} {Z : State} {a0 : Array Value} {h h' : Heap} {a b : Addr} {ty : FieldType} {n : Nat} {f : Nat → Int32}
def oset (f : Nat → Int32) (k : Nat) (x : Int32) : Nat → Int32 := fun j => if j = k then x else f j
/-- at a lies an array of kind ty, of n places, whose place i holds the int f i -/
def OA (Z : State) (h : Heap) (a : Addr) (ty : FieldType) (n : Nat) (f : Nat → Int32) : Prop := ∃ c : Cell, Arr Z h a c ty ∧ c.slots.size = n ∧ ∀ i, i < n → c.slots[i]? = some (.int (f i))
theorem OA.lt (A : OA Z h a ty n f) : a < h.size := by obtain ⟨c, A, -⟩ := A; exact A.lt
theorem OA.ext (A : OA Z h a ty n f) (E : Ext h h') : OA Z h' a ty n f := by obtain ⟨c, A, r⟩ := A; exact ⟨c, A.ext E, r⟩
theorem OA.other {sl : Nat} {v : Value} (A : OA Z h b ty n f) (W : Wr h h' a sl v) (q : b ≠ a) : OA Z h' b ty n f := by obtain ⟨c, A, r⟩ := A; exact ⟨c, A.other W q, r⟩
theorem OA.keep {ws : List Addr} (A : OA Z h a ty n f) (K : Keep h h' ws) (q : a ∉ ws) : OA Z h' a ty n f := by obtain ⟨c, A, r⟩ := A; exact ⟨c, ⟨K.2.1 a c A.1 q, A.2⟩, r⟩
theorem OA.new {k : ClassId} {z : Int32} (A : Arr Z h a (newA k ty z) ty) (hz : z.toNatClampNeg = n) (hd : defaultValue ty = .int 0) : OA Z h a ty n (fun _ => 0) :=
  ⟨_, A, (sz_new _ _ _).trans hz, fun i hi => by
    have e : (newA k ty z).slots = Array.replicate z.toNatClampNeg (defaultValue ty) := rfl
    rw [e, hz, hd, Array.getElem?_replicate, if_pos hi]⟩
theorem OA.set {k : Nat} {x : Int32} (A : OA Z h a ty n f) (W : Wr h h' a k (.int x)) : OA Z h' a ty n (oset f k x) := by
  obtain ⟨c, A, S, H⟩ := A
  have hs : (c.setSlot k (.int x)).slots = c.slots.setIfInBounds k (.int x) := rfl
  refine ⟨_, A.same W, ?_, fun i hi => ?_⟩
  · rw [hs, Array.size_setIfInBounds, S]
  · rw [hs]
    by_cases q : i = k
    · subst q
      rw [Array.getElem?_setIfInBounds_self_of_lt (by omega)]
      simp [oset]
    · rw [Array.getElem?_setIfInBounds_ne (Ne.symm q), H i hi]
      simp [oset, q]
theorem OA.eqf {g : Nat → Int32} (A : OA Z h a ty n f) (q : ∀ i, i < n → f i = g i) : OA Z h a ty n g := by
  obtain ⟨c, A, S, H⟩ := A
  exact ⟨c, A, S, fun i hi => by rw [H i hi, q i hi]⟩
theorem oin {cl : Cell} {j : Int32} {k : Nat} (S : cl.slots.size = n) (hj : ¬ j < 0) (hk : j.toNatClampNeg = k) (hkn : k < n) : ¬ (j < 0 ∨ cl.slots.size ≤ j.toNatClampNeg) := by
  rintro (q | q)
  · exact hj q
  · rw [S, hk] at q; omega
theorem OA.stI (X : Stand p l e R s m args below meth c T locs cells slots) (hx : p.tables.exec = Jvm.exec) (hZ : Z.Warmed39 s.vm) (eT : T.heap = h) (A : OA Z h a .int n f) {j x : Int32} {k : Nat} (hj : ¬ j < 0) (hk : j.toNatClampNeg = k) (hkn : k < n) {g : JFrame} (hg : g.method = m) {rest : List Value} (hs : g.stack = .int x :: .int j :: .ref a :: rest) (hd : decode c.code g.pc = .ok (.iastore, 1)) :
    ∃ T' h', Stand p l e R s m args below meth c T' (locs ++ [⟨a, k⟩]) cells slots ∧ T'.heap = h' ∧ Wr h h' a k (.int x) ∧ OA Z h' a .int n (oset f k x) ∧ ∀ target, Steps p.tables e below (T'.setTop { g with pc := g.pc + 1, stack := rest }) target → Steps p.tables e below (T.setTop g) target := by
  obtain ⟨cl, Ar, S, H⟩ := A
  obtain ⟨T', h', X', e', W, st⟩ := Jvm.RoadKit.stI X hx hZ eT Ar (j := j) (x := x) (oin S hj hk hkn) hg hs hd
  subst hk
  exact ⟨T', h', X', e', W, OA.set ⟨cl, Ar, S, H⟩ W, st⟩
theorem OA.stB (X : Stand p l e R s m args below meth c T locs cells slots) (hx : p.tables.exec = Jvm.exec) (hZ : Z.Warmed39 s.vm) (eT : T.heap = h) (A : OA Z h a .byte n f) {j x : Int32} {k : Nat} (hj : ¬ j < 0) (hk : j.toNatClampNeg = k) (hkn : k < n) {g : JFrame} (hg : g.method = m) {rest : List Value} (hs : g.stack = .int x :: .int j :: .ref a :: rest) (hd : decode c.code g.pc = .ok (.bastore, 1)) :
    ∃ T' h', Stand p l e R s m args below meth c T' (locs ++ [⟨a, k⟩]) cells slots ∧ T'.heap = h' ∧ Wr h h' a k (.int x.toInt8.toInt32) ∧ OA Z h' a .byte n (oset f k x.toInt8.toInt32) ∧ ∀ target, Steps p.tables e below (T'.setTop { g with pc := g.pc + 1, stack := rest }) target → Steps p.tables e below (T.setTop g) target := by
  obtain ⟨cl, Ar, S, H⟩ := A
  obtain ⟨T', h', X', e', W, st⟩ := Jvm.RoadKit.stB X hx hZ eT Ar (j := j) (x := x) (oin S hj hk hkn) hg hs hd
  subst hk
  exact ⟨T', h', X', e', W, OA.set ⟨cl, Ar, S, H⟩ W, st⟩
theorem OA.ldI (X : Stand p l e R s m args below meth c T locs cells slots) (hx : p.tables.exec = Jvm.exec) (hZ : Z.Warmed39 s.vm) (eT : T.heap = h) (A : OA Z h a .int n f) {j : Int32} {k : Nat} (hj : ¬ j < 0) (hk : j.toNatClampNeg = k) (hkn : k < n) {g : JFrame} (hg : g.method = m) {rest : List Value} (hs : g.stack = .int j :: .ref a :: rest) (hd : decode c.code g.pc = .ok (.iaload, 1)) (target : State)
    (kt : Steps p.tables e below (T.setTop { g with pc := g.pc + 1, stack := .int (f k) :: rest }) target) : Steps p.tables e below (T.setTop g) target := by
  obtain ⟨cl, Ar, S, H⟩ := A
  exact X.iaload hx (j := j) (v := .int (f k)) (by rw [eT]; exact Ar.1) (State.isArrayOf_alike hZ.alike Ar.2.1) Ar.2.2 (oin S hj hk hkn) (by rw [hk]; exact H k hkn) (g := g) hg hs hd target kt
theorem OA.ldB (X : Stand p l e R s m args below meth c T locs cells slots) (hx : p.tables.exec = Jvm.exec) (hZ : Z.Warmed39 s.vm) (eT : T.heap = h) (A : OA Z h a .byte n f) {j : Int32} {k : Nat} (hj : ¬ j < 0) (hk : j.toNatClampNeg = k) (hkn : k < n) {g : JFrame} (hg : g.method = m) {rest : List Value} (hs : g.stack = .int j :: .ref a :: rest) (hd : decode c.code g.pc = .ok (.baload, 1)) (target : State)
    (kt : Steps p.tables e below (T.setTop { g with pc := g.pc + 1, stack := .int (f k) :: rest }) target) : Steps p.tables e below (T.setTop g) target := by
  obtain ⟨cl, Ar, S, H⟩ := A
  exact X.baloadBytes hx (j := j) (v := .int (f k)) (by rw [eT]; exact Ar.1) (State.isArrayOf_alike hZ.alike Ar.2.1) Ar.2.2 (oin S hj hk hkn) (by rw [hk]; exact H k hkn) (g := g) hg hs hd target kt
theorem OA.len (X : Stand p l e R s m args below meth c T locs cells slots) (hx : p.tables.exec = Jvm.exec) (hZ : Z.Warmed39 s.vm) (eT : T.heap = h) (A : OA Z h a ty n f) {z : Int32} (hz : n.toInt32 = z) {g : JFrame} (hg : g.method = m) {rest : List Value} (hs : g.stack = .ref a :: rest) (hd : decode c.code g.pc = .ok (.arraylength, 1)) (target : State)
    (kt : Steps p.tables e below (T.setTop { g with pc := g.pc + 1, stack := .int z :: rest }) target) : Steps p.tables e below (T.setTop g) target := by
  obtain ⟨cl, Ar, S, H⟩ := A
  refine X.arraylength hx (by rw [eT]; exact Ar.1) (State.isArrayOf_alike hZ.alike Ar.2.1) (g := g) hg hs hd target ?_
  rw [S, hz]; exact kt
/-- a private method is the one that is chosen -/
theorem osel {y : MethodName} {k : Nat} (hZ : Z.Warmed39 s.vm) (wi : (Cond.instantiable y.cls k).before a0 Z = true) (wp : (Cond.privateMethod y).before a0 Z = true) (wm : (Cond.instanceMethod y).before a0 Z = true) (hy : y.cls ≠ "java/lang/invoke/MethodHandle" ∧ y.cls ≠ "java/lang/invoke/VarHandle") : (Cond.selects y.cls y y).before args s = true := by
  have w : (Cond.instantiable y.cls k).before args s = true := mv hZ wi
  obtain ⟨cc, kk, h1, h2, h3, h4, -⟩ := Cond.instantiable_spec w
  have h5 : kk.isInterface = false := by
    cases q : kk.isInterface
    · rfl
    · rw [q] at h4; simp at h4
  exact Jvm.Stand.selects_self_of_private h1 h2 h5 (Cond.privateMethod_at (mvP hZ wp (args := args))) (mv hZ wm) hy
end OwnH
section OwnL
variable {p : Program} {l : Launch} {e : Env} {R : Room} {s : State} {m : MethodId} {args : Array Value} {below : List Frame} {meth : Method} {c : Code} {T : State} {locs : List Loc} {cells slots : Nat} {Z : State} {a0 : Array Value} {h h' : Heap} {a b : Addr} {n : Nat} {f : Nat → Int64}
def osetL (f : Nat → Int64) (k : Nat) (x : Int64) : Nat → Int64 := fun j => if j = k then x else f j
/-- at a lies an array of longs, of n places, whose place i holds f i -/
def OL (Z : State) (h : Heap) (a : Addr) (n : Nat) (f : Nat → Int64) : Prop := ∃ c : Cell, Arr Z h a c .long ∧ c.slots.size = n ∧ ∀ i, i < n → c.slots[i]? = some (.long (f i))
theorem OL.lt (A : OL Z h a n f) : a < h.size := by obtain ⟨c, A, -⟩ := A; exact A.lt
theorem OL.ext (A : OL Z h a n f) (E : Ext h h') : OL Z h' a n f := by obtain ⟨c, A, r⟩ := A; exact ⟨c, A.ext E, r⟩
theorem OL.other {sl : Nat} {v : Value} (A : OL Z h b n f) (W : Wr h h' a sl v) (q : b ≠ a) : OL Z h' b n f := by obtain ⟨c, A, r⟩ := A; exact ⟨c, A.other W q, r⟩
theorem OL.keep {ws : List Addr} (A : OL Z h a n f) (K : Keep h h' ws) (q : a ∉ ws) : OL Z h' a n f := by obtain ⟨c, A, r⟩ := A; exact ⟨c, ⟨K.2.1 a c A.1 q, A.2⟩, r⟩
theorem OL.new {k : ClassId} {z : Int32} (A : Arr Z h a (newA k .long z) .long) (hz : z.toNatClampNeg = n) : OL Z h a n (fun _ => 0) :=
  ⟨_, A, (sz_new _ _ _).trans hz, fun i hi => by
    have e : (newA k .long z).slots = Array.replicate z.toNatClampNeg (defaultValue .long) := rfl
    have hd : defaultValue .long = .long 0 := rfl
    rw [e, hz, hd, Array.getElem?_replicate, if_pos hi]⟩
theorem OL.set {k : Nat} {x : Int64} (A : OL Z h a n f) (W : Wr h h' a k (.long x)) : OL Z h' a n (osetL f k x) := by
  obtain ⟨c, A, S, H⟩ := A
  have hs : (c.setSlot k (.long x)).slots = c.slots.setIfInBounds k (.long x) := rfl
  refine ⟨_, A.same W, ?_, fun i hi => ?_⟩
  · rw [hs, Array.size_setIfInBounds, S]
  · rw [hs]
    by_cases q : i = k
    · subst q
      rw [Array.getElem?_setIfInBounds_self_of_lt (by omega)]
      simp [osetL]
    · rw [Array.getElem?_setIfInBounds_ne (Ne.symm q), H i hi]
      simp [osetL, q]
theorem OL.stJ (X : Stand p l e R s m args below meth c T locs cells slots) (hx : p.tables.exec = Jvm.exec) (hZ : Z.Warmed39 s.vm) (eT : T.heap = h) (A : OL Z h a n f) {j : Int32} {x : Int64} {k : Nat} (hj : ¬ j < 0) (hk : j.toNatClampNeg = k) (hkn : k < n) {g : JFrame} (hg : g.method = m) {rest : List Value} (hs : g.stack = .long x :: .int j :: .ref a :: rest) (hd : decode c.code g.pc = .ok (.lastore, 1)) :
    ∃ T' h', Stand p l e R s m args below meth c T' (locs ++ [⟨a, k⟩]) cells slots ∧ T'.heap = h' ∧ Wr h h' a k (.long x) ∧ OL Z h' a n (osetL f k x) ∧ ∀ target, Steps p.tables e below (T'.setTop { g with pc := g.pc + 1, stack := rest }) target → Steps p.tables e below (T.setTop g) target := by
  obtain ⟨cl, Ar, S, H⟩ := A
  obtain ⟨T', h', X', e', W, st⟩ := Jvm.RoadKit.stJ X hx hZ eT Ar (j := j) (x := x) (oin S hj hk hkn) hg hs hd
  subst hk
  exact ⟨T', h', X', e', W, OL.set ⟨cl, Ar, S, H⟩ W, st⟩
theorem OL.ldJ (X : Stand p l e R s m args below meth c T locs cells slots) (hx : p.tables.exec = Jvm.exec) (hZ : Z.Warmed39 s.vm) (eT : T.heap = h) (A : OL Z h a n f) {j : Int32} {k : Nat} (hj : ¬ j < 0) (hk : j.toNatClampNeg = k) (hkn : k < n) {g : JFrame} (hg : g.method = m) {rest : List Value} (hs : g.stack = .int j :: .ref a :: rest) (hd : decode c.code g.pc = .ok (.laload, 1)) (target : State)
    (kt : Steps p.tables e below (T.setTop { g with pc := g.pc + 1, stack := .long (f k) :: rest }) target) : Steps p.tables e below (T.setTop g) target := by
  obtain ⟨cl, Ar, S, H⟩ := A
  exact X.laload hx (j := j) (v := .long (f k)) (by rw [eT]; exact Ar.1) (State.isArrayOf_alike hZ.alike Ar.2.1) Ar.2.2 (oin S hj hk hkn) (by rw [hk]; exact H k hkn) (g := g) hg hs hd target kt
theorem odup2x1 {tb : Tables} [Ours tb] {target : State} {g : JFrame} (h : At T m c below) (hx : tb.exec = Jvm.exec) (hg : g.method = m) {x : Int64} {y : Addr} {rest : List Value} (hd : decode c.code g.pc = .ok (.dup2_x1, 1)) (hs : g.stack = .long x :: .ref y :: rest)
    (hr : Steps tb e below (T.setTop { g with pc := g.pc + 1, stack := .long x :: .ref y :: .long x :: rest }) target) : Steps tb e below (T.setTop g) target := by
  subst hg
  jvm_step h [h.top, hx, hd, hs, Value.category]
  exact hr
end OwnL
abbrev vi (x : Int32) : Slot := .val (.int x)
abbrev vl (x : Int64) : Slot := .val (.long x)
abbrev vr (x : Addr) : Slot := .val (.ref x)
theorem own_nen {a b : Nat} (h : a < b ∨ b < a) : a ≠ b := by omega
theorem own_toInt {n : Nat} (h : n < 2000) : (Int32.ofNat n).toInt = n := toInt_of rfl (by omega)
theorem own_nat {i : Nat} (h : i < 1000) : (¬ Int32.ofNat i < 0) ∧ (Int32.ofNat i).toNatClampNeg = i := by
  refine ⟨?_, clamp_of rfl (by omega)⟩
  rw [Int32.lt_iff_toInt_lt, own_toInt (by omega)]
  show ¬ (i : Int) < 0
  omega
theorem own_inc (n : Nat) : (Int32.ofNat n + (1 : Int32)) = Int32.ofNat (n + 1) := (inc_ofNat n).symm
theorem own_ne16 {n : Nat} (h : n < 16) : ¬ Int32.ofNat n = (16 : Int32) := fun q => by
  have k := own_toInt (n := n) (by omega)
  rw [q] at k
  have e : (16 : Int32).toInt = 16 := by decide
  omega
theorem own_nm1 {n : Nat} (h : n < 1000) : ¬ Int32.ofNat n = (-1 : Int32) := fun q => by
  have k := own_toInt (n := n) (by omega)
  rw [q] at k
  have e : (-1 : Int32).toInt = -1 := by decide
  omega
theorem own_lt {i k n : Nat} (h : i + (k + 1) = n) (hn : n < 1000) : Int32.ofNat i < Int32.ofNat n := by
  rw [Int32.lt_iff_toInt_lt, own_toInt (by omega), own_toInt (by omega)]
  omega
theorem own_nlt {i n : Nat} (h : i + 0 = n) (hn : n < 1000) : ¬ Int32.ofNat i < Int32.ofNat n := by
  rw [Int32.lt_iff_toInt_lt, own_toInt (by omega), own_toInt (by omega)]
  omega
theorem own_more {f : Nat → Int32} {i : Nat} {x : Int32} (h : ∀ j, j < i → f j = x) : ∀ j, j < i + 1 → oset f i x j = x := fun j hj => by
  by_cases q : j = i
  · exact if_pos q
  · exact (if_neg q).trans (h j (by omega))
theorem own_o (f : Nat → Int32) (k : Nat) (x : Int32) : oset f k x k = x := if_pos rfl
theorem own_o1 (f : Nat → Int32) (x : Int32) : oset (oset f 1 (-1)) 0 x 1 = -1 := rfl
theorem own_mask (x : Int32) (k : Nat) (hk : k < 20) : ∃ n : Nat, (x &&& (Int32.ofNat (2 ^ k - 1))) = Int32.ofNat n ∧ n < 2 ^ k := by
  have hp : 2 ^ k < 2 ^ 20 := Nat.pow_lt_pow_right (by omega) hk
  have hp0 : 0 < 2 ^ k := Nat.two_pow_pos k
  have h : ∀ b : BitVec 32, b &&& BitVec.ofNat 32 (2 ^ k - 1) = BitVec.ofNat 32 (b.toNat % 2 ^ k) := fun b => by
    apply BitVec.eq_of_toNat_eq
    have e1 : (2 ^ k - 1) % 2 ^ 32 = 2 ^ k - 1 := Nat.mod_eq_of_lt (by omega)
    have e2 : b.toNat % 2 ^ k < 2 ^ k := Nat.mod_lt _ (by omega)
    rw [BitVec.toNat_and, BitVec.toNat_ofNat, BitVec.toNat_ofNat, e1, Nat.and_two_pow_sub_one_eq_mod, Nat.mod_eq_of_lt (a := b.toNat % 2 ^ k) (by omega)]
  exact ⟨x.toBitVec.toNat % 2 ^ k, Int32.toBitVec_inj.mp (h x.toBitVec), Nat.mod_lt _ (by omega)⟩
theorem own_and3 (x : Int32) : ∃ i : Nat, (x &&& (3 : Int32)) = Int32.ofNat i ∧ i < 4 := own_mask x 2 (by omega)
theorem own_and15 (x : Int32) : ∃ i : Nat, (x &&& (15 : Int32)) = Int32.ofNat i ∧ i < 16 := own_mask x 4 (by omega)
theorem own_pos (x : Int32) : 0 ≤ (x &&& (2147483647 : Int32)).toInt := by
  have h : ∀ b : BitVec 32, 0 ≤ (b &&& 2147483647#32).toInt := fun b => by
    have k : (b &&& 2147483647#32).msb = false := by
      rw [BitVec.msb_and, show (2147483647#32).msb = false from by decide, Bool.and_false]
    rw [BitVec.toInt_eq_toNat_of_msb k]
    omega
  exact h x.toBitVec
theorem own_rem3 (y : Int32) (hy : 0 ≤ y.toInt) : (y - (y / (3 : Int32)) * (3 : Int32)) = 0 ∨ (y - (y / (3 : Int32)) * (3 : Int32)) = 1 ∨ (y - (y / (3 : Int32)) * (3 : Int32)) = 2 := by
  have hr := rem_toInt y 3
  have k : (3 : Int32).toInt = 3 := by decide
  rw [k, Int.tmod_eq_emod_of_nonneg hy] at hr
  simp only [← Int32.toInt_inj, hr, Int32.reduceToInt]
  omega
theorem own_md (q : Int32) : ∃ md : Int32, ((q &&& (2147483647 : Int32)) - ((q &&& (2147483647 : Int32)) / (3 : Int32)) * (3 : Int32)) = md ∧ (md = 0 ∨ md = 1 ∨ md = 2) := ⟨_, rfl, own_rem3 _ (own_pos q)⟩
theorem own_gs (q : Int32) : ∃ gs : Int32, ((((q &&& (2147483647 : Int32)) / (3 : Int32)) - (((q &&& (2147483647 : Int32)) / (3 : Int32)) / (3 : Int32)) * (3 : Int32)) - (1 : Int32)) = gs ∧ (gs = -1 ∨ gs = 0 ∨ gs = 1) := by
  have h := own_pos q
  generalize (q &&& (2147483647 : Int32)) = y at h ⊢
  have h2 : 0 ≤ (y / (3 : Int32)).toInt := by
    have hb := Int32.toInt_lt y
    have k : (3 : Int32).toInt = 3 := by decide
    rw [Int32.toInt_div, k, Int.tdiv_eq_ediv_of_nonneg h, Int.bmod_eq_of_le (by omega) (by omega)]
    omega
  refine ⟨_, rfl, ?_⟩
  rcases own_rem3 _ h2 with e | e | e <;> rw [e] <;> decide
def FU (Z : State) (h : Heap) (u em fr fb go ps ns fs lb sb bl pv nx pt qs ms : Addr) (gc ec fc : Int32) (sp : Int64) : Prop := Exa Z h u "com/example/lockstep/lockstep/check/StepGroups" ∧ Fld Z h u "com/example/lockstep/lockstep/check/StepGroups" "emptied" "[I" (.ref em) ∧ Fld Z h u "com/example/lockstep/lockstep/check/StepGroups" "free" "[I" (.ref fr) ∧ Fld Z h u "com/example/lockstep/lockstep/check/StepGroups" "firstOfBlock" "[I" (.ref fb) ∧ Fld Z h u "com/example/lockstep/lockstep/check/StepGroups" "groupOf" "[I" (.ref go) ∧ Fld Z h u "com/example/lockstep/lockstep/check/StepGroups" "previousStep" "[I" (.ref ps) ∧ Fld Z h u "com/example/lockstep/lockstep/check/StepGroups" "nextStep" "[I" (.ref ns) ∧ Fld Z h u "com/example/lockstep/lockstep/check/StepGroups" "firstStep" "[I" (.ref fs) ∧ Fld Z h u "com/example/lockstep/lockstep/check/StepGroups" "label" "[I" (.ref lb) ∧ Fld Z h u "com/example/lockstep/lockstep/check/StepGroups" "superBlock" "[I" (.ref sb) ∧ Fld Z h u "com/example/lockstep/lockstep/check/StepGroups" "block" "[I" (.ref bl) ∧ Fld Z h u "com/example/lockstep/lockstep/check/StepGroups" "previous" "[I" (.ref pv) ∧ Fld Z h u "com/example/lockstep/lockstep/check/StepGroups" "next" "[I" (.ref nx) ∧ Fld Z h u "com/example/lockstep/lockstep/check/StepGroups" "partner" "[I" (.ref pt) ∧ Fld Z h u "com/example/lockstep/lockstep/check/StepGroups" "partnerStamp" "[J" (.ref qs) ∧ Fld Z h u "com/example/lockstep/lockstep/check/StepGroups" "markStamp" "[J" (.ref ms) ∧ Fld Z h u "com/example/lockstep/lockstep/check/StepGroups" "groupCount" "I" (.int gc) ∧ Fld Z h u "com/example/lockstep/lockstep/check/StepGroups" "emptiedCount" "I" (.int ec) ∧ Fld Z h u "com/example/lockstep/lockstep/check/StepGroups" "freeCount" "I" (.int fc) ∧ Fld Z h u "com/example/lockstep/lockstep/check/StepGroups" "stamp" "J" (.long sp)
def ORD (u em fr fb go ps ns fs lb sb bl pv nx pt qs ms : Nat) : Prop := u < em ∧ em < fr ∧ fr < fb ∧ fb < go ∧ go < ps ∧ ps < ns ∧ ns < fs ∧ fs < lb ∧ lb < sb ∧ sb < bl ∧ bl < pv ∧ pv < nx ∧ nx < pt ∧ pt < qs ∧ qs < ms
theorem dM_0 : decode jdk_29_method_65_code 0 = .ok (.iload_n 0, 1) := by decide +kernel
theorem dM_1 : decode jdk_29_method_65_code 1 = .ok (.iload_n 1, 1) := by decide +kernel
theorem dM_2 : decode jdk_29_method_65_code 2 = .ok (.if_icmp .lt 7, 3) := by decide +kernel
theorem dM_5 : decode jdk_29_method_65_code 5 = .ok (.iload_n 0, 1) := by decide +kernel
theorem dM_6 : decode jdk_29_method_65_code 6 = .ok (.goto 4, 3) := by decide +kernel
theorem dM_9 : decode jdk_29_method_65_code 9 = .ok (.iload_n 1, 1) := by decide +kernel
theorem dM_10 : decode jdk_29_method_65_code 10 = .ok (.ireturn, 1) := by decide +kernel
theorem efM (m : MethodId) (q1 : Int32) (q2 : Int32) : entryFrame m #[(.int q1), (.int q2)] 2 = mkF m 0 #[.val (.int q1), .val (.int q2)] [] := by first | (simp [entryFrame, mkF, argsToLocals, Value.category]; done) | rfl
def gM_2_1 (q1 : Int32) (q2 : Int32) : Int32 := if q1 < q2 then q2 else q1
def fM (q1 : Int32) (q2 : Int32) : Int32 := (gM_2_1 q1 q2)
set_option maxRecDepth 65536 in
set_option maxHeartbeats 40000000 in
theorem rmM (l : Launch) (Z : State) (a0 : Array Value) (hw : ∀ d ∈ tables_1, d.before a0 Z = true) (ws : List Jvm.Cond) (q1 : Int32) (q2 : Int32) (h0 : Heap) (n0 : Nat) (Z0 : n0 ≤ h0.size) :
    MetFree l (⟨"java/lang/Math", "max", "(II)I"⟩ : MethodName) (head1 (Jvm.Cond.code (⟨"java/lang/Math", "max", "(II)I"⟩ : MethodName) jdk_29_method_65_code 2 (some .int) :: ws) ({ frames := 0, cells := 0, slots := 0, locals := 0 } : Room)) (fun a U => a = #[(.int q1), (.int q2)] ∧ Z.Warmed39 U.vm ∧ U.heap = h0) (fun _ _ _ _ _ => True) (fun _ U o U' => ∃ v L, o = .returned v ∧ PI n0 h0 (fM q1 q2) v U'.heap L ∧ FrameEnd U o U' L ({ frames := 0, cells := 0, slots := 0, locals := 0 } : Room).cells ({ frames := 0, cells := 0, slots := 0, locals := 0 } : Room).slots) := by
  refine MetFree.of_bodySF (Jvm.Free.JP.mathPlain rfl (by decide +kernel)) hisR ?_
  intro p e s m args below meth c s₁ Bd hml0 hP hK
  obtain ⟨rfl, hZ, hh⟩ := hP
  have hx := Bd.exec
  have hby := Bd.bytes
  have hml : c.maxLocals = 2 := hml0
  have hown : s.vm.findClass "java/lang/Math" = some m.cls := findClass_of_methodNamed Bd.named
  have X0 : Stand p l e ({ frames := 0, cells := 0, slots := 0, locals := 0 } : Room) s m #[(.int q1), (.int q2)] below meth c s₁ [] 0 0 := Stand.of_body Bd
  have e0 : s₁.heap = h0 := by rw [← hh, Bd.state]; rfl
  have N0 := Fr.nil n0
  show OGo p e below (Out s ({ frames := 0, cells := 0, slots := 0, locals := 0 } : Room).cells ({ frames := 0, cells := 0, slots := 0, locals := 0 } : Room).slots (PI n0 h0 (fM q1 q2))) (s₁.setTop (entryFrame m #[(.int q1), (.int q2)] 2))
  refine OGo.st (fun t kk => castTop (efM m q1 q2) kk) ?_
  show OGo p e below (Out s ({ frames := 0, cells := 0, slots := 0, locals := 0 } : Room).cells ({ frames := 0, cells := 0, slots := 0, locals := 0 } : Room).slots (PI n0 h0 (gM_2_1 q1 q2))) (s₁.setTop (mkF m 0 #[vi q1, vi q2] []))
  refine OGo.st (fun t kk => XS.iloadN X0.here hx rfl (hb hby dM_0) rfl kk) ?_
  show OGo p e below _ (s₁.setTop (mkF m 1 #[vi q1, vi q2] [(.int q1)]))
  refine OGo.st (fun t kk => XS.iloadN X0.here hx rfl (hb hby dM_1) rfl kk) ?_
  show OGo p e below _ (s₁.setTop (mkF m 2 #[vi q1, vi q2] [(.int q2), (.int q1)]))
  by_cases hc2_1 : q1 < q2
  · refine OGo.eqvI (show (gM_2_1 q1 q2) = q2 from if_pos hc2_1) ?_
    refine OGo.st (fun t kk => XS.icmpYes X0.here hx rfl (pc0 := 2) (pc' := 9) rfl (hb hby dM_2) rfl (tlt hc2_1).1 (by decide) (by decide) kk) ?_
    show OGo p e below _ (s₁.setTop (mkF m 9 #[vi q1, vi q2] []))
    refine OGo.st (fun t kk => XS.iloadN X0.here hx rfl (hb hby dM_9) rfl kk) ?_
    show OGo p e below _ (s₁.setTop (mkF m 10 #[vi q1, vi q2] [(.int q2)]))
    exact OGo.outI X0 hx Bd.returns Bd.notSynchronized (hb hby dM_10) ⟨rfl, N0, e0⟩ (by decide) (by decide)
  · refine OGo.eqvI (show (gM_2_1 q1 q2) = q1 from if_neg hc2_1) ?_
    refine OGo.st (fun t kk => XS.icmpNo X0.here hx rfl (hb hby dM_2) rfl (flt hc2_1).1 kk) ?_
    show OGo p e below _ (s₁.setTop (mkF m 5 #[vi q1, vi q2] []))
    refine OGo.st (fun t kk => XS.iloadN X0.here hx rfl (hb hby dM_5) rfl kk) ?_
    show OGo p e below _ (s₁.setTop (mkF m 6 #[vi q1, vi q2] [(.int q1)]))
    refine OGo.st (fun t kk => XS.goto X0.here hx rfl (pc0 := 6) (pc' := 10) rfl (hb hby dM_6) (by decide) (by decide) kk) ?_
    show OGo p e below _ (s₁.setTop (mkF m 10 #[vi q1, vi q2] [(.int q1)]))
    exact OGo.outI X0 hx Bd.returns Bd.notSynchronized (hb hby dM_10) ⟨rfl, N0, e0⟩ (by decide) (by decide)
def QF (Z : State) (n0 : Nat) (h0 : Heap) (a1 : Addr) (n : Nat) (q2 : Int32) (v : Option Value) (h : Heap) (L : List Loc) : Prop := v = none ∧ Fr n0 L ∧ n0 ≤ h.size ∧ Keep h0 h [a1] ∧ OA Z h a1 .int n (fun _ => q2)
theorem dF_0 : decode jdk_65_method_103_code 0 = .ok (.iconst 0, 1) := by decide +kernel
theorem dF_1 : decode jdk_65_method_103_code 1 = .ok (.istore_n 2, 1) := by decide +kernel
theorem dF_2 : decode jdk_65_method_103_code 2 = .ok (.aload_n 0, 1) := by decide +kernel
theorem dF_3 : decode jdk_65_method_103_code 3 = .ok (.arraylength, 1) := by decide +kernel
theorem dF_4 : decode jdk_65_method_103_code 4 = .ok (.istore_n 3, 1) := by decide +kernel
theorem dF_5 : decode jdk_65_method_103_code 5 = .ok (.iload_n 2, 1) := by decide +kernel
theorem dF_6 : decode jdk_65_method_103_code 6 = .ok (.iload_n 3, 1) := by decide +kernel
theorem dF_7 : decode jdk_65_method_103_code 7 = .ok (.if_icmp .ge 13, 3) := by decide +kernel
theorem dF_10 : decode jdk_65_method_103_code 10 = .ok (.aload_n 0, 1) := by decide +kernel
theorem dF_11 : decode jdk_65_method_103_code 11 = .ok (.iload_n 2, 1) := by decide +kernel
theorem dF_12 : decode jdk_65_method_103_code 12 = .ok (.iload_n 1, 1) := by decide +kernel
theorem dF_13 : decode jdk_65_method_103_code 13 = .ok (.iastore, 1) := by decide +kernel
theorem dF_14 : decode jdk_65_method_103_code 14 = .ok (.iinc 2 1, 3) := by decide +kernel
theorem dF_17 : decode jdk_65_method_103_code 17 = .ok (.goto (-12), 3) := by decide +kernel
theorem dF_20 : decode jdk_65_method_103_code 20 = .ok (.return_, 1) := by decide +kernel
theorem pnF : plainName "java/util/Arrays" = true := by first | (simp [plainName, overriddenIn]; done) | decide +kernel
theorem efF (m : MethodId) (a1 : Addr) (q2 : Int32) : entryFrame m #[(.ref a1), (.int q2)] 4 = mkF m 0 #[.val (.ref a1), .val (.int q2), .unset, .unset] [] := by first | (simp [entryFrame, mkF, argsToLocals, Value.category]; done) | rfl
set_option maxRecDepth 65536 in
set_option maxHeartbeats 40000000 in
theorem rmF (l : Launch) (Z : State) (a0 : Array Value) (hw : ∀ d ∈ tables_1, d.before a0 Z = true) (ws : List Jvm.Cond) (a1 : Addr) (q2 : Int32) (n : Nat) (f : Nat → Int32) (h0 : Heap) (n0 : Nat) (Z0 : n0 ≤ h0.size) (O0 : OA Z h0 a1 .int n f) (hn : n < 1000) (g1 : n0 ≤ a1) :
    MetFree l (⟨"java/util/Arrays", "fill", "([II)V"⟩ : MethodName) (head1 (Jvm.Cond.code (⟨"java/util/Arrays", "fill", "([II)V"⟩ : MethodName) jdk_65_method_103_code 4 none :: ws) ({ frames := 0, cells := 0, slots := 0, locals := 0 } : Room)) (fun a U => a = #[(.ref a1), (.int q2)] ∧ Z.Warmed39 U.vm ∧ U.heap = h0) (fun _ _ _ _ _ => True) (fun _ U o U' => ∃ v L, o = .returned v ∧ (QF Z n0 h0 a1 n q2) v U'.heap L ∧ FrameEnd U o U' L ({ frames := 0, cells := 0, slots := 0, locals := 0 } : Room).cells ({ frames := 0, cells := 0, slots := 0, locals := 0 } : Room).slots) := by
  refine MetFree.of_bodySF (plainFor_of_name pnF) hisR ?_
  intro p e s m args below meth c s₁ Bd hml0 hP hK
  obtain ⟨rfl, hZ, hh⟩ := hP
  have hx := Bd.exec
  have hby := Bd.bytes
  have hml : c.maxLocals = 4 := hml0
  have hown : s.vm.findClass "java/util/Arrays" = some m.cls := findClass_of_methodNamed Bd.named
  have hnm := (name_of_methodNamed Bd.named Bd.method).1
  have X0 : Stand p l e ({ frames := 0, cells := 0, slots := 0, locals := 0 } : Room) s m #[(.ref a1), (.int q2)] below meth c s₁ [] 0 0 := Stand.of_body Bd
  have e0 : s₁.heap = h0 := by rw [← hh, Bd.state]; rfl
  have N0 := Fr.nil n0
  show OGo p e below (Out s ({ frames := 0, cells := 0, slots := 0, locals := 0 } : Room).cells ({ frames := 0, cells := 0, slots := 0, locals := 0 } : Room).slots ((QF Z n0 h0 a1 n q2))) (s₁.setTop (entryFrame m #[(.ref a1), (.int q2)] 4))
  have J5 : ∀ (k i : Nat) (T : State) (locs : List Loc) (hT : Heap) (X : Stand p l e ({ frames := 0, cells := 0, slots := 0, locals := 0 } : Room) s m #[(.ref a1), (.int q2)] below meth c T locs 0 0) (eT : T.heap = hT) (N : Fr n0 locs) (ZT : n0 ≤ hT.size) (K : Keep h0 hT [a1]) (f' : Nat → Int32) (O : OA Z hT a1 .int n f') (hf : ∀ j, j < i → f' j = q2) (hik : i + k = n), OGo p e below (Out s ({ frames := 0, cells := 0, slots := 0, locals := 0 } : Room).cells ({ frames := 0, cells := 0, slots := 0, locals := 0 } : Room).slots (QF Z n0 h0 a1 n q2)) (T.setTop (mkF m 5 #[vr a1, vi q2, vi (Int32.ofNat i), vi (Int32.ofNat n)] [])) := by
    intro k
    induction k with
    | zero =>
      intro i T locs hT X eT N ZT K f' O hf hik
      refine OGo.st (fun t kk => XS.iloadN X.here hx rfl (hb hby dF_5) rfl kk) ?_
      show OGo p e below _ (T.setTop (mkF m 6 #[vr a1, vi q2, vi (Int32.ofNat i), vi (Int32.ofNat n)] [(.int (Int32.ofNat i))]))
      refine OGo.st (fun t kk => XS.iloadN X.here hx rfl (hb hby dF_6) rfl kk) ?_
      show OGo p e below _ (T.setTop (mkF m 7 #[vr a1, vi q2, vi (Int32.ofNat i), vi (Int32.ofNat n)] [(.int (Int32.ofNat n)), (.int (Int32.ofNat i))]))
      refine OGo.st (fun t kk => XS.icmpYes X.here hx rfl (pc0 := 7) (pc' := 20) rfl (hb hby dF_7) rfl (flt (own_nlt hik hn)).2.1 (by decide) (by decide) kk) ?_
      show OGo p e below _ (T.setTop (mkF m 20 #[vr a1, vi q2, vi (Int32.ofNat i), vi (Int32.ofNat n)] []))
      refine OGo.outV X hx Bd.returns Bd.notSynchronized (hb hby dF_20) ?_ (by decide) (by decide)
      rw [eT]
      exact ⟨rfl, N, ZT, K, O.eqf fun j hj => hf j (by omega)⟩
    | succ k ih =>
      intro i T locs hT X eT N ZT K f' O hf hik
      refine OGo.st (fun t kk => XS.iloadN X.here hx rfl (hb hby dF_5) rfl kk) ?_
      show OGo p e below _ (T.setTop (mkF m 6 #[vr a1, vi q2, vi (Int32.ofNat i), vi (Int32.ofNat n)] [(.int (Int32.ofNat i))]))
      refine OGo.st (fun t kk => XS.iloadN X.here hx rfl (hb hby dF_6) rfl kk) ?_
      show OGo p e below _ (T.setTop (mkF m 7 #[vr a1, vi q2, vi (Int32.ofNat i), vi (Int32.ofNat n)] [(.int (Int32.ofNat n)), (.int (Int32.ofNat i))]))
      refine OGo.st (fun t kk => XS.icmpNo X.here hx rfl (hb hby dF_7) rfl (tlt (own_lt hik hn)).2.1 kk) ?_
      show OGo p e below _ (T.setTop (mkF m 10 #[vr a1, vi q2, vi (Int32.ofNat i), vi (Int32.ofNat n)] []))
      refine OGo.st (fun t kk => XS.aloadN X.here hx rfl (hb hby dF_10) rfl rfl kk) ?_
      show OGo p e below _ (T.setTop (mkF m 11 #[vr a1, vi q2, vi (Int32.ofNat i), vi (Int32.ofNat n)] [(.ref a1)]))
      refine OGo.st (fun t kk => XS.iloadN X.here hx rfl (hb hby dF_11) rfl kk) ?_
      show OGo p e below _ (T.setTop (mkF m 12 #[vr a1, vi q2, vi (Int32.ofNat i), vi (Int32.ofNat n)] [(.int (Int32.ofNat i)), (.ref a1)]))
      refine OGo.st (fun t kk => XS.iloadN X.here hx rfl (hb hby dF_12) rfl kk) ?_
      show OGo p e below _ (T.setTop (mkF m 13 #[vr a1, vi q2, vi (Int32.ofNat i), vi (Int32.ofNat n)] [(.int q2), (.int (Int32.ofNat i)), (.ref a1)]))
      obtain ⟨T1, h1, X1, e1, W1, O1', st1⟩ := OA.stI X hx hZ eT O (j := (Int32.ofNat i)) (x := q2) (k := i) (own_nat (show i < 1000 by omega)).1 (own_nat (show i < 1000 by omega)).2 (by omega) (g := (mkF m 13 #[vr a1, vi q2, vi (Int32.ofNat i), vi (Int32.ofNat n)] [(.int q2), (.int (Int32.ofNat i)), (.ref a1)])) rfl rfl (hb hby dF_13)
      have O1 := O1'
      have N1 := Fr.snoc X1 N g1
      have Z1 : n0 ≤ h1.size := Nat.le_trans ZT (Keep.of_wr W1).1
      have K1 : Keep h0 h1 [a1] := K.wr W1 (Or.inl (List.mem_of_getElem? (i := 0) rfl))
      obtain ⟨lo1, X1, N1⟩ : ∃ L, Stand p l e ({ frames := 0, cells := 0, slots := 0, locals := 0 } : Room) s m #[(.ref a1), (.int q2)] below meth c T1 L 0 0 ∧ Fr n0 L := ⟨_, X1, N1⟩
      refine OGo.st (fun t kk => st1 t kk) ?_
      show OGo p e below _ (T1.setTop (mkF m 14 #[vr a1, vi q2, vi (Int32.ofNat i), vi (Int32.ofNat n)] []))
      refine OGo.st (fun t kk => XS.iinc X1.here hx rfl (hb hby dF_14) rfl (l' := #[vr a1, vi q2, vi ((Int32.ofNat i) + (1 : Int32)), vi (Int32.ofNat n)]) rfl kk) ?_
      show OGo p e below _ (T1.setTop (mkF m 17 #[vr a1, vi q2, vi ((Int32.ofNat i) + (1 : Int32)), vi (Int32.ofNat n)] []))
      refine OGo.st (fun t kk => XS.goto X1.here hx rfl (pc0 := 17) (pc' := 5) rfl (hb hby dF_17) (by decide) (by decide) kk) ?_
      show OGo p e below _ (T1.setTop (mkF m 5 #[vr a1, vi q2, vi ((Int32.ofNat i) + (1 : Int32)), vi (Int32.ofNat n)] []))
      rw [show (Int32.ofNat i + (1 : Int32)) = Int32.ofNat (i + 1) from (inc_ofNat i).symm]
      exact ih (i + 1) T1 _ h1 X1 e1 N1 Z1 K1 _ O1 (own_more hf) (by omega)
  refine OGo.st (fun t kk => castTop (efF m a1 q2) kk) ?_
  show OGo p e below (Out s ({ frames := 0, cells := 0, slots := 0, locals := 0 } : Room).cells ({ frames := 0, cells := 0, slots := 0, locals := 0 } : Room).slots ((QF Z n0 h0 a1 n q2))) (s₁.setTop (mkF m 0 #[vr a1, vi q2, .unset, .unset] []))
  refine OGo.st (fun t kk => XS.iconst X0.here hx rfl (hb hby dF_0) kk) ?_
  show OGo p e below _ (s₁.setTop (mkF m 1 #[vr a1, vi q2, .unset, .unset] [(.int (0 : Int32))]))
  refine OGo.st (fun t kk => XS.istoreN X0.here hx rfl (hb hby dF_1) rfl (l' := #[vr a1, vi q2, vi (0 : Int32), .unset]) rfl kk) ?_
  show OGo p e below _ (s₁.setTop (mkF m 2 #[vr a1, vi q2, vi (0 : Int32), .unset] []))
  refine OGo.st (fun t kk => XS.aloadN X0.here hx rfl (hb hby dF_2) rfl rfl kk) ?_
  show OGo p e below _ (s₁.setTop (mkF m 3 #[vr a1, vi q2, vi (0 : Int32), .unset] [(.ref a1)]))
  refine OGo.st (fun t kk => OA.len X0 hx hZ e0 O0 (z := (Int32.ofNat n)) rfl (g := (mkF m 3 #[vr a1, vi q2, vi (0 : Int32), .unset] [(.ref a1)])) rfl rfl (hb hby dF_3) t kk) ?_
  show OGo p e below _ (s₁.setTop (mkF m 4 #[vr a1, vi q2, vi (0 : Int32), .unset] [(.int (Int32.ofNat n))]))
  refine OGo.st (fun t kk => XS.istoreN X0.here hx rfl (hb hby dF_4) rfl (l' := #[vr a1, vi q2, vi (0 : Int32), vi (Int32.ofNat n)]) rfl kk) ?_
  show OGo p e below _ (s₁.setTop (mkF m 5 #[vr a1, vi q2, vi (0 : Int32), vi (Int32.ofNat n)] []))
  exact J5 n 0 s₁ _ h0 X0 e0 N0 Z0 (Keep.refl h0 _) f O0 (fun j hj => absurd hj (by omega)) (by omega)
def QL (Z : State) (n0 : Nat) (h0 : Heap) (ps ns fs go : Addr) (fps fns ffs fgo : Nat → Int32) (g : Nat) (v : Option Value) (h : Heap) (L : List Loc) : Prop := v = none ∧ Fr n0 L ∧ n0 ≤ h.size ∧ Keep h0 h [ps, ns, fs, go] ∧ OA Z h ps .int 1 (oset fps 0 (-1)) ∧ OA Z h ns .int 1 (oset fns 0 (-1)) ∧ OA Z h fs .int 16 (oset ffs g 0) ∧ OA Z h go .int 1 (oset fgo 0 (Int32.ofNat g))
theorem dL_0 : decode prog_76_method_18_code 0 = .ok (.aload_n 0, 1) := by decide +kernel
theorem dL_1 : decode prog_76_method_18_code 1 = .ok (.getfield 41, 3) := by decide +kernel
theorem dL_4 : decode prog_76_method_18_code 4 = .ok (.iload_n 2, 1) := by decide +kernel
theorem dL_5 : decode prog_76_method_18_code 5 = .ok (.iaload, 1) := by decide +kernel
theorem dL_6 : decode prog_76_method_18_code 6 = .ok (.istore_n 3, 1) := by decide +kernel
theorem dL_7 : decode prog_76_method_18_code 7 = .ok (.aload_n 0, 1) := by decide +kernel
theorem dL_8 : decode prog_76_method_18_code 8 = .ok (.getfield 29, 3) := by decide +kernel
theorem dL_11 : decode prog_76_method_18_code 11 = .ok (.iload_n 1, 1) := by decide +kernel
theorem dL_12 : decode prog_76_method_18_code 12 = .ok (.iconst (-1), 1) := by decide +kernel
theorem dL_13 : decode prog_76_method_18_code 13 = .ok (.iastore, 1) := by decide +kernel
theorem dL_14 : decode prog_76_method_18_code 14 = .ok (.aload_n 0, 1) := by decide +kernel
theorem dL_15 : decode prog_76_method_18_code 15 = .ok (.getfield 32, 3) := by decide +kernel
theorem dL_18 : decode prog_76_method_18_code 18 = .ok (.iload_n 1, 1) := by decide +kernel
theorem dL_19 : decode prog_76_method_18_code 19 = .ok (.iload_n 3, 1) := by decide +kernel
theorem dL_20 : decode prog_76_method_18_code 20 = .ok (.iastore, 1) := by decide +kernel
theorem dL_21 : decode prog_76_method_18_code 21 = .ok (.iload_n 3, 1) := by decide +kernel
theorem dL_22 : decode prog_76_method_18_code 22 = .ok (.iconst (-1), 1) := by decide +kernel
theorem dL_23 : decode prog_76_method_18_code 23 = .ok (.if_icmp .eq 10, 3) := by decide +kernel
theorem dL_33 : decode prog_76_method_18_code 33 = .ok (.aload_n 0, 1) := by decide +kernel
theorem dL_34 : decode prog_76_method_18_code 34 = .ok (.getfield 41, 3) := by decide +kernel
theorem dL_37 : decode prog_76_method_18_code 37 = .ok (.iload_n 2, 1) := by decide +kernel
theorem dL_38 : decode prog_76_method_18_code 38 = .ok (.iload_n 1, 1) := by decide +kernel
theorem dL_39 : decode prog_76_method_18_code 39 = .ok (.iastore, 1) := by decide +kernel
theorem dL_40 : decode prog_76_method_18_code 40 = .ok (.aload_n 0, 1) := by decide +kernel
theorem dL_41 : decode prog_76_method_18_code 41 = .ok (.getfield 26, 3) := by decide +kernel
theorem dL_44 : decode prog_76_method_18_code 44 = .ok (.iload_n 1, 1) := by decide +kernel
theorem dL_45 : decode prog_76_method_18_code 45 = .ok (.iload_n 2, 1) := by decide +kernel
theorem dL_46 : decode prog_76_method_18_code 46 = .ok (.iastore, 1) := by decide +kernel
theorem dL_47 : decode prog_76_method_18_code 47 = .ok (.return_, 1) := by decide +kernel
theorem pnL : plainName "com/example/lockstep/lockstep/check/StepGroups" = true := by first | (simp [plainName, overriddenIn]; done) | decide +kernel
theorem efL (m : MethodId) (u : Addr) (g : Nat) : entryFrame m #[(.ref u), (.int (0 : Int32)), (.int (Int32.ofNat g))] 4 = mkF m 0 #[.val (.ref u), .val (.int (0 : Int32)), .val (.int (Int32.ofNat g)), .unset] [] := by first | (simp [entryFrame, mkF, argsToLocals, Value.category]; done) | rfl
set_option maxRecDepth 65536 in
set_option maxHeartbeats 40000000 in
theorem rmL (l : Launch) (Z : State) (a0 : Array Value) (hw : ∀ d ∈ tables_1, d.before a0 Z = true) (ws : List Jvm.Cond) (u : Addr) (g : Nat) (em : Addr) (fr : Addr) (fb : Addr) (go : Addr) (ps : Addr) (ns : Addr) (fs : Addr) (lb : Addr) (sb : Addr) (bl : Addr) (pv : Addr) (nx : Addr) (pt : Addr) (qs : Addr) (ms : Addr) (gc : Int32) (ec : Int32) (fc : Int32) (sp : Int64) (fps : Nat → Int32) (fns : Nat → Int32) (ffs : Nat → Int32) (fgo : Nat → Int32) (h0 : Heap) (n0 : Nat) (Z0 : n0 ≤ h0.size) (U : FU Z h0 u em fr fb go ps ns fs lb sb bl pv nx pt qs ms gc ec fc sp) (ho : ORD u em fr fb go ps ns fs lb sb bl pv nx pt qs ms) (gu : n0 ≤ u) (O_ps : OA Z h0 ps .int 1 fps) (O_ns : OA Z h0 ns .int 1 fns) (O_fs : OA Z h0 fs .int 16 ffs) (O_go : OA Z h0 go .int 1 fgo) (hgl : g < 16) (hg : ffs g = -1) :
    MetFree l (⟨"com/example/lockstep/lockstep/check/StepGroups", "link", "(II)V"⟩ : MethodName) (head1 (Jvm.Cond.code (⟨"com/example/lockstep/lockstep/check/StepGroups", "link", "(II)V"⟩ : MethodName) prog_76_method_18_code 4 none :: ws) ({ frames := 0, cells := 0, slots := 0, locals := 0 } : Room)) (fun a U => a = #[(.ref u), (.int (0 : Int32)), (.int (Int32.ofNat g))] ∧ Z.Warmed39 U.vm ∧ U.heap = h0) (fun _ _ _ _ _ => True) (fun _ U o U' => ∃ v L, o = .returned v ∧ (QL Z n0 h0 ps ns fs go fps fns ffs fgo g) v U'.heap L ∧ FrameEnd U o U' L ({ frames := 0, cells := 0, slots := 0, locals := 0 } : Room).cells ({ frames := 0, cells := 0, slots := 0, locals := 0 } : Room).slots) := by
  refine MetFree.of_bodySF (plainFor_of_name pnL) hisR ?_
  intro p e s m args below meth c s₁ Bd hml0 hP hK
  obtain ⟨rfl, hZ, hh⟩ := hP
  have hx := Bd.exec
  have hby := Bd.bytes
  have hml : c.maxLocals = 4 := hml0
  have hown : s.vm.findClass "com/example/lockstep/lockstep/check/StepGroups" = some m.cls := findClass_of_methodNamed Bd.named
  have hnm := (name_of_methodNamed Bd.named Bd.method).1
  have X0 : Stand p l e ({ frames := 0, cells := 0, slots := 0, locals := 0 } : Room) s m #[(.ref u), (.int (0 : Int32)), (.int (Int32.ofNat g))] below meth c s₁ [] 0 0 := Stand.of_body Bd
  have e0 : s₁.heap = h0 := by rw [← hh, Bd.state]; rfl
  have N0 := Fr.nil n0
  show OGo p e below (Out s ({ frames := 0, cells := 0, slots := 0, locals := 0 } : Room).cells ({ frames := 0, cells := 0, slots := 0, locals := 0 } : Room).slots ((QL Z n0 h0 ps ns fs go fps fns ffs fgo g))) (s₁.setTop (entryFrame m #[(.ref u), (.int (0 : Int32)), (.int (Int32.ofNat g))] 4))
  have ho0 := ho; obtain ⟨o1, o2, o3, o4, o5, o6, o7, o8, o9, o10, o11, o12, o13, o14, o15⟩ := ho
  obtain ⟨E0, F0_emptied, F0_free, F0_firstOfBlock, F0_groupOf, F0_previousStep, F0_nextStep, F0_firstStep, F0_label, F0_superBlock, F0_block, F0_previous, F0_next, F0_partner, F0_partnerStamp, F0_markStamp, F0_groupCount, F0_emptiedCount, F0_freeCount, F0_stamp⟩ := U
  have g_ps : n0 ≤ ps := by omega
  have n_u_ps : u ≠ ps := own_nen (by omega)
  have n_ps_ns : ps ≠ ns := own_nen (by omega)
  have g_ns : n0 ≤ ns := by omega
  have n_u_ns : u ≠ ns := own_nen (by omega)
  have n_ps_fs : ps ≠ fs := own_nen (by omega)
  have n_ns_fs : ns ≠ fs := own_nen (by omega)
  have g_fs : n0 ≤ fs := by omega
  have n_u_fs : u ≠ fs := own_nen (by omega)
  have n_go_ps : go ≠ ps := own_nen (by omega)
  have n_go_ns : go ≠ ns := own_nen (by omega)
  have n_go_fs : go ≠ fs := own_nen (by omega)
  have g_go : n0 ≤ go := by omega
  refine OGo.st (fun t kk => castTop (efL m u g) kk) ?_
  show OGo p e below (Out s ({ frames := 0, cells := 0, slots := 0, locals := 0 } : Room).cells ({ frames := 0, cells := 0, slots := 0, locals := 0 } : Room).slots ((QL Z n0 h0 ps ns fs go fps fns ffs fgo g))) (s₁.setTop (mkF m 0 #[vr u, vi (0 : Int32), vi (Int32.ofNat g), .unset] []))
  refine OGo.st (fun t kk => XS.aloadN X0.here hx rfl (hb hby dL_0) rfl rfl kk) ?_
  show OGo p e below _ (s₁.setTop (mkF m 1 #[vr u, vi (0 : Int32), vi (Int32.ofNat g), .unset] [(.ref u)]))
  obtain ⟨T1, X1, e1, st1⟩ := getF X0 hx hZ hown (host := "") (Or.inl (hw _ (List.mem_of_getElem? (i := 32) rfl))) Via.refl e0 F0_firstStep (g := (mkF m 1 #[vr u, vi (0 : Int32), vi (Int32.ofNat g), .unset] [(.ref u)])) rfl rfl (hb hby dL_1)
  refine OGo.st (fun t kk => st1 t kk) ?_
  show OGo p e below _ (T1.setTop (mkF m 4 #[vr u, vi (0 : Int32), vi (Int32.ofNat g), .unset] [(.ref fs)]))
  refine OGo.st (fun t kk => XS.iloadN X1.here hx rfl (hb hby dL_4) rfl kk) ?_
  show OGo p e below _ (T1.setTop (mkF m 5 #[vr u, vi (0 : Int32), vi (Int32.ofNat g), .unset] [(.int (Int32.ofNat g)), (.ref fs)]))
  refine OGo.st (fun t kk => OA.ldI X1 hx hZ e1 O_fs (j := (Int32.ofNat g)) (k := g) (own_nat (show g < 1000 by omega)).1 (own_nat (show g < 1000 by omega)).2 (by omega) (g := (mkF m 5 #[vr u, vi (0 : Int32), vi (Int32.ofNat g), .unset] [(.int (Int32.ofNat g)), (.ref fs)])) rfl rfl (hb hby dL_5) t kk) ?_
  show OGo p e below _ (T1.setTop (mkF m 6 #[vr u, vi (0 : Int32), vi (Int32.ofNat g), .unset] [(.int (ffs g))]))
  rw [hg]
  show OGo p e below _ (T1.setTop (mkF m 6 #[vr u, vi (0 : Int32), vi (Int32.ofNat g), .unset] [(.int (-1 : Int32))]))
  refine OGo.st (fun t kk => XS.istoreN X1.here hx rfl (hb hby dL_6) rfl (l' := #[vr u, vi (0 : Int32), vi (Int32.ofNat g), vi (-1 : Int32)]) rfl kk) ?_
  show OGo p e below _ (T1.setTop (mkF m 7 #[vr u, vi (0 : Int32), vi (Int32.ofNat g), vi (-1 : Int32)] []))
  refine OGo.st (fun t kk => XS.aloadN X1.here hx rfl (hb hby dL_7) rfl rfl kk) ?_
  show OGo p e below _ (T1.setTop (mkF m 8 #[vr u, vi (0 : Int32), vi (Int32.ofNat g), vi (-1 : Int32)] [(.ref u)]))
  obtain ⟨T2, X2, e2, st2⟩ := getF X1 hx hZ hown (host := "") (Or.inl (hw _ (List.mem_of_getElem? (i := 24) rfl))) Via.refl e1 F0_previousStep (g := (mkF m 8 #[vr u, vi (0 : Int32), vi (Int32.ofNat g), vi (-1 : Int32)] [(.ref u)])) rfl rfl (hb hby dL_8)
  refine OGo.st (fun t kk => st2 t kk) ?_
  show OGo p e below _ (T2.setTop (mkF m 11 #[vr u, vi (0 : Int32), vi (Int32.ofNat g), vi (-1 : Int32)] [(.ref ps)]))
  refine OGo.st (fun t kk => XS.iloadN X2.here hx rfl (hb hby dL_11) rfl kk) ?_
  show OGo p e below _ (T2.setTop (mkF m 12 #[vr u, vi (0 : Int32), vi (Int32.ofNat g), vi (-1 : Int32)] [(.int (0 : Int32)), (.ref ps)]))
  refine OGo.st (fun t kk => XS.iconst X2.here hx rfl (hb hby dL_12) kk) ?_
  show OGo p e below _ (T2.setTop (mkF m 13 #[vr u, vi (0 : Int32), vi (Int32.ofNat g), vi (-1 : Int32)] [(.int (-1 : Int32)), (.int (0 : Int32)), (.ref ps)]))
  obtain ⟨T3, h3, X3, e3, W3, O3', st3⟩ := OA.stI X2 hx hZ e2 O_ps (j := (0 : Int32)) (x := (-1 : Int32)) (k := 0) (by decide) (by decide) (by decide) (g := (mkF m 13 #[vr u, vi (0 : Int32), vi (Int32.ofNat g), vi (-1 : Int32)] [(.int (-1 : Int32)), (.int (0 : Int32)), (.ref ps)])) rfl rfl (hb hby dL_13)
  have O3 := O3'
  have N3 := Fr.snoc X3 N0 g_ps
  have Z3 : n0 ≤ h3.size := Nat.le_trans Z0 (Keep.of_wr W3).1
  have K3 : Keep h0 h3 [ps, ns, fs, go] := (Keep.refl h0 _).wr W3 (Or.inl (List.mem_of_getElem? (i := 0) rfl))
  obtain ⟨lo3, X3, N3⟩ : ∃ L, Stand p l e ({ frames := 0, cells := 0, slots := 0, locals := 0 } : Room) s m #[(.ref u), (.int (0 : Int32)), (.int (Int32.ofNat g))] below meth c T3 L 0 0 ∧ Fr n0 L := ⟨_, X3, N3⟩
  refine OGo.st (fun t kk => st3 t kk) ?_
  show OGo p e below _ (T3.setTop (mkF m 14 #[vr u, vi (0 : Int32), vi (Int32.ofNat g), vi (-1 : Int32)] []))
  refine OGo.st (fun t kk => XS.aloadN X3.here hx rfl (hb hby dL_14) rfl rfl kk) ?_
  show OGo p e below _ (T3.setTop (mkF m 15 #[vr u, vi (0 : Int32), vi (Int32.ofNat g), vi (-1 : Int32)] [(.ref u)]))
  have c4 := (F0_nextStep.other W3 (Or.inl n_u_ps))
  obtain ⟨T5, X5, e5, st5⟩ := getF X3 hx hZ hown (host := "") (Or.inl (hw _ (List.mem_of_getElem? (i := 26) rfl))) Via.refl e3 c4 (g := (mkF m 15 #[vr u, vi (0 : Int32), vi (Int32.ofNat g), vi (-1 : Int32)] [(.ref u)])) rfl rfl (hb hby dL_15)
  refine OGo.st (fun t kk => st5 t kk) ?_
  show OGo p e below _ (T5.setTop (mkF m 18 #[vr u, vi (0 : Int32), vi (Int32.ofNat g), vi (-1 : Int32)] [(.ref ns)]))
  refine OGo.st (fun t kk => XS.iloadN X5.here hx rfl (hb hby dL_18) rfl kk) ?_
  show OGo p e below _ (T5.setTop (mkF m 19 #[vr u, vi (0 : Int32), vi (Int32.ofNat g), vi (-1 : Int32)] [(.int (0 : Int32)), (.ref ns)]))
  refine OGo.st (fun t kk => XS.iloadN X5.here hx rfl (hb hby dL_19) rfl kk) ?_
  show OGo p e below _ (T5.setTop (mkF m 20 #[vr u, vi (0 : Int32), vi (Int32.ofNat g), vi (-1 : Int32)] [(.int (-1 : Int32)), (.int (0 : Int32)), (.ref ns)]))
  have c7 := (O_ns.other W3 (Ne.symm n_ps_ns))
  obtain ⟨T6, h6, X6, e6, W6, O6', st6⟩ := OA.stI X5 hx hZ e5 c7 (j := (0 : Int32)) (x := (-1 : Int32)) (k := 0) (by decide) (by decide) (by decide) (g := (mkF m 20 #[vr u, vi (0 : Int32), vi (Int32.ofNat g), vi (-1 : Int32)] [(.int (-1 : Int32)), (.int (0 : Int32)), (.ref ns)])) rfl rfl (hb hby dL_20)
  have O6 := O6'
  have N6 := Fr.snoc X6 N3 g_ns
  have Z6 : n0 ≤ h6.size := Nat.le_trans Z3 (Keep.of_wr W6).1
  have K6 : Keep h0 h6 [ps, ns, fs, go] := K3.wr W6 (Or.inl (List.mem_of_getElem? (i := 1) rfl))
  obtain ⟨lo6, X6, N6⟩ : ∃ L, Stand p l e ({ frames := 0, cells := 0, slots := 0, locals := 0 } : Room) s m #[(.ref u), (.int (0 : Int32)), (.int (Int32.ofNat g))] below meth c T6 L 0 0 ∧ Fr n0 L := ⟨_, X6, N6⟩
  refine OGo.st (fun t kk => st6 t kk) ?_
  show OGo p e below _ (T6.setTop (mkF m 21 #[vr u, vi (0 : Int32), vi (Int32.ofNat g), vi (-1 : Int32)] []))
  refine OGo.st (fun t kk => XS.iloadN X6.here hx rfl (hb hby dL_21) rfl kk) ?_
  show OGo p e below _ (T6.setTop (mkF m 22 #[vr u, vi (0 : Int32), vi (Int32.ofNat g), vi (-1 : Int32)] [(.int (-1 : Int32))]))
  refine OGo.st (fun t kk => XS.iconst X6.here hx rfl (hb hby dL_22) kk) ?_
  show OGo p e below _ (T6.setTop (mkF m 23 #[vr u, vi (0 : Int32), vi (Int32.ofNat g), vi (-1 : Int32)] [(.int (-1 : Int32)), (.int (-1 : Int32))]))
  refine OGo.st (fun t kk => XS.icmpYes X6.here hx rfl (pc0 := 23) (pc' := 33) rfl (hb hby dL_23) rfl (teq (by decide : ((-1 : Int32) = (-1 : Int32)))).1 (by decide) (by decide) kk) ?_
  show OGo p e below _ (T6.setTop (mkF m 33 #[vr u, vi (0 : Int32), vi (Int32.ofNat g), vi (-1 : Int32)] []))
  refine OGo.st (fun t kk => XS.aloadN X6.here hx rfl (hb hby dL_33) rfl rfl kk) ?_
  show OGo p e below _ (T6.setTop (mkF m 34 #[vr u, vi (0 : Int32), vi (Int32.ofNat g), vi (-1 : Int32)] [(.ref u)]))
  have c8 := ((F0_firstStep.other W3 (Or.inl n_u_ps)).other W6 (Or.inl n_u_ns))
  obtain ⟨T9, X9, e9, st9⟩ := getF X6 hx hZ hown (host := "") (Or.inl (hw _ (List.mem_of_getElem? (i := 32) rfl))) Via.refl e6 c8 (g := (mkF m 34 #[vr u, vi (0 : Int32), vi (Int32.ofNat g), vi (-1 : Int32)] [(.ref u)])) rfl rfl (hb hby dL_34)
  refine OGo.st (fun t kk => st9 t kk) ?_
  show OGo p e below _ (T9.setTop (mkF m 37 #[vr u, vi (0 : Int32), vi (Int32.ofNat g), vi (-1 : Int32)] [(.ref fs)]))
  refine OGo.st (fun t kk => XS.iloadN X9.here hx rfl (hb hby dL_37) rfl kk) ?_
  show OGo p e below _ (T9.setTop (mkF m 38 #[vr u, vi (0 : Int32), vi (Int32.ofNat g), vi (-1 : Int32)] [(.int (Int32.ofNat g)), (.ref fs)]))
  refine OGo.st (fun t kk => XS.iloadN X9.here hx rfl (hb hby dL_38) rfl kk) ?_
  show OGo p e below _ (T9.setTop (mkF m 39 #[vr u, vi (0 : Int32), vi (Int32.ofNat g), vi (-1 : Int32)] [(.int (0 : Int32)), (.int (Int32.ofNat g)), (.ref fs)]))
  have c11 := ((O_fs.other W3 (Ne.symm n_ps_fs)).other W6 (Ne.symm n_ns_fs))
  obtain ⟨T10, h10, X10, e10, W10, O10', st10⟩ := OA.stI X9 hx hZ e9 c11 (j := (Int32.ofNat g)) (x := (0 : Int32)) (k := g) (own_nat (show g < 1000 by omega)).1 (own_nat (show g < 1000 by omega)).2 (by omega) (g := (mkF m 39 #[vr u, vi (0 : Int32), vi (Int32.ofNat g), vi (-1 : Int32)] [(.int (0 : Int32)), (.int (Int32.ofNat g)), (.ref fs)])) rfl rfl (hb hby dL_39)
  have O10 := O10'
  have N10 := Fr.snoc X10 N6 g_fs
  have Z10 : n0 ≤ h10.size := Nat.le_trans Z6 (Keep.of_wr W10).1
  have K10 : Keep h0 h10 [ps, ns, fs, go] := K6.wr W10 (Or.inl (List.mem_of_getElem? (i := 2) rfl))
  obtain ⟨lo10, X10, N10⟩ : ∃ L, Stand p l e ({ frames := 0, cells := 0, slots := 0, locals := 0 } : Room) s m #[(.ref u), (.int (0 : Int32)), (.int (Int32.ofNat g))] below meth c T10 L 0 0 ∧ Fr n0 L := ⟨_, X10, N10⟩
  refine OGo.st (fun t kk => st10 t kk) ?_
  show OGo p e below _ (T10.setTop (mkF m 40 #[vr u, vi (0 : Int32), vi (Int32.ofNat g), vi (-1 : Int32)] []))
  refine OGo.st (fun t kk => XS.aloadN X10.here hx rfl (hb hby dL_40) rfl rfl kk) ?_
  show OGo p e below _ (T10.setTop (mkF m 41 #[vr u, vi (0 : Int32), vi (Int32.ofNat g), vi (-1 : Int32)] [(.ref u)]))
  have c12 := (((F0_groupOf.other W3 (Or.inl n_u_ps)).other W6 (Or.inl n_u_ns)).other W10 (Or.inl n_u_fs))
  obtain ⟨T13, X13, e13, st13⟩ := getF X10 hx hZ hown (host := "") (Or.inl (hw _ (List.mem_of_getElem? (i := 22) rfl))) Via.refl e10 c12 (g := (mkF m 41 #[vr u, vi (0 : Int32), vi (Int32.ofNat g), vi (-1 : Int32)] [(.ref u)])) rfl rfl (hb hby dL_41)
  refine OGo.st (fun t kk => st13 t kk) ?_
  show OGo p e below _ (T13.setTop (mkF m 44 #[vr u, vi (0 : Int32), vi (Int32.ofNat g), vi (-1 : Int32)] [(.ref go)]))
  refine OGo.st (fun t kk => XS.iloadN X13.here hx rfl (hb hby dL_44) rfl kk) ?_
  show OGo p e below _ (T13.setTop (mkF m 45 #[vr u, vi (0 : Int32), vi (Int32.ofNat g), vi (-1 : Int32)] [(.int (0 : Int32)), (.ref go)]))
  refine OGo.st (fun t kk => XS.iloadN X13.here hx rfl (hb hby dL_45) rfl kk) ?_
  show OGo p e below _ (T13.setTop (mkF m 46 #[vr u, vi (0 : Int32), vi (Int32.ofNat g), vi (-1 : Int32)] [(.int (Int32.ofNat g)), (.int (0 : Int32)), (.ref go)]))
  have c15 := (((O_go.other W3 n_go_ps).other W6 n_go_ns).other W10 n_go_fs)
  obtain ⟨T14, h14, X14, e14, W14, O14', st14⟩ := OA.stI X13 hx hZ e13 c15 (j := (0 : Int32)) (x := (Int32.ofNat g)) (k := 0) (by decide) (by decide) (by decide) (g := (mkF m 46 #[vr u, vi (0 : Int32), vi (Int32.ofNat g), vi (-1 : Int32)] [(.int (Int32.ofNat g)), (.int (0 : Int32)), (.ref go)])) rfl rfl (hb hby dL_46)
  have O14 := O14'
  have N14 := Fr.snoc X14 N10 g_go
  have Z14 : n0 ≤ h14.size := Nat.le_trans Z10 (Keep.of_wr W14).1
  have K14 : Keep h0 h14 [ps, ns, fs, go] := K10.wr W14 (Or.inl (List.mem_of_getElem? (i := 3) rfl))
  obtain ⟨lo14, X14, N14⟩ : ∃ L, Stand p l e ({ frames := 0, cells := 0, slots := 0, locals := 0 } : Room) s m #[(.ref u), (.int (0 : Int32)), (.int (Int32.ofNat g))] below meth c T14 L 0 0 ∧ Fr n0 L := ⟨_, X14, N14⟩
  refine OGo.st (fun t kk => st14 t kk) ?_
  show OGo p e below _ (T14.setTop (mkF m 47 #[vr u, vi (0 : Int32), vi (Int32.ofNat g), vi (-1 : Int32)] []))
  have c16 := (((O3.other W6 n_ps_ns).other W10 n_ps_fs).other W14 (Ne.symm n_go_ps))
  have c17 := ((O6.other W10 n_ns_fs).other W14 (Ne.symm n_go_ns))
  have c18 := (O10.other W14 (Ne.symm n_go_fs))
  refine OGo.outV X14 hx Bd.returns Bd.notSynchronized (hb hby dL_47) ?_ (by decide) (by decide)
  rw [e14]
  exact ⟨rfl, N14, Z14, K14, c16, c17, c18, O14⟩
def mkPv (f : Nat → Int32) (gn : Nat) (x : Int32) : Nat → Int32 := if x = (-1 : Int32) then oset f gn (-1) else oset (oset f gn (-1)) 0 (Int32.ofNat gn)
def QK (Z : State) (n0 : Nat) (h0 : Heap) (u em fr fb go ps ns fs lb sb bl pv nx pt qs ms : Addr) (lab sup : Int32) (k gn : Nat) (ec : Int32) (sp : Int64) (ffs flb fsb fbl : Nat → Int32) (fqs fms : Nat → Int64) (fpv fnx ffb : Nat → Int32) (w : Nat → Int32) (x : Int32) (v : Option Value) (h : Heap) (L : List Loc) : Prop := v = some (.int (Int32.ofNat gn)) ∧ Fr n0 L ∧ n0 ≤ h.size ∧ Keep h0 h [u, fs, lb, sb, bl, qs, ms, pv, nx, fb] ∧ FU Z h u em fr fb go ps ns fs lb sb bl pv nx pt qs ms (Int32.ofNat (gn + 1)) ec 0 sp ∧ OA Z h fs .int 16 (oset ffs gn (-1)) ∧ OA Z h lb .int 16 (oset flb gn lab) ∧ OA Z h sb .int 16 (oset fsb gn sup) ∧ OA Z h bl .int 16 (oset fbl gn (Int32.ofNat k)) ∧ OL Z h qs 16 (osetL fqs gn 0) ∧ OL Z h ms 16 (osetL fms gn 0) ∧ OA Z h pv .int 16 w ∧ OA Z h nx .int 16 (oset fnx gn x) ∧ OA Z h fb .int 16 (oset ffb k (Int32.ofNat gn))
theorem dK_0 : decode prog_76_method_19_code 0 = .ok (.aload_n 0, 1) := by decide +kernel
theorem dK_1 : decode prog_76_method_19_code 1 = .ok (.getfield 86, 3) := by decide +kernel
theorem dK_4 : decode prog_76_method_19_code 4 = .ok (.ifCond .le 24, 3) := by decide +kernel
theorem dK_28 : decode prog_76_method_19_code 28 = .ok (.aload_n 0, 1) := by decide +kernel
theorem dK_29 : decode prog_76_method_19_code 29 = .ok (.dup, 1) := by decide +kernel
theorem dK_30 : decode prog_76_method_19_code 30 = .ok (.getfield 117, 3) := by decide +kernel
theorem dK_33 : decode prog_76_method_19_code 33 = .ok (.dup_x1, 1) := by decide +kernel
theorem dK_34 : decode prog_76_method_19_code 34 = .ok (.iconst 1, 1) := by decide +kernel
theorem dK_35 : decode prog_76_method_19_code 35 = .ok (.iadd, 1) := by decide +kernel
theorem dK_36 : decode prog_76_method_19_code 36 = .ok (.putfield 117, 3) := by decide +kernel
theorem dK_39 : decode prog_76_method_19_code 39 = .ok (.istore 4, 2) := by decide +kernel
theorem dK_41 : decode prog_76_method_19_code 41 = .ok (.iload 4, 2) := by decide +kernel
theorem dK_43 : decode prog_76_method_19_code 43 = .ok (.aload_n 0, 1) := by decide +kernel
theorem dK_44 : decode prog_76_method_19_code 44 = .ok (.getfield 41, 3) := by decide +kernel
theorem dK_47 : decode prog_76_method_19_code 47 = .ok (.arraylength, 1) := by decide +kernel
theorem dK_48 : decode prog_76_method_19_code 48 = .ok (.if_icmp .ne 132, 3) := by decide +kernel
theorem dK_180 : decode prog_76_method_19_code 180 = .ok (.aload_n 0, 1) := by decide +kernel
theorem dK_181 : decode prog_76_method_19_code 181 = .ok (.getfield 41, 3) := by decide +kernel
theorem dK_184 : decode prog_76_method_19_code 184 = .ok (.iload 4, 2) := by decide +kernel
theorem dK_186 : decode prog_76_method_19_code 186 = .ok (.iconst (-1), 1) := by decide +kernel
theorem dK_187 : decode prog_76_method_19_code 187 = .ok (.iastore, 1) := by decide +kernel
theorem dK_188 : decode prog_76_method_19_code 188 = .ok (.aload_n 0, 1) := by decide +kernel
theorem dK_189 : decode prog_76_method_19_code 189 = .ok (.getfield 44, 3) := by decide +kernel
theorem dK_192 : decode prog_76_method_19_code 192 = .ok (.iload 4, 2) := by decide +kernel
theorem dK_194 : decode prog_76_method_19_code 194 = .ok (.iload_n 1, 1) := by decide +kernel
theorem dK_195 : decode prog_76_method_19_code 195 = .ok (.iastore, 1) := by decide +kernel
theorem dK_196 : decode prog_76_method_19_code 196 = .ok (.aload_n 0, 1) := by decide +kernel
theorem dK_197 : decode prog_76_method_19_code 197 = .ok (.getfield 47, 3) := by decide +kernel
theorem dK_200 : decode prog_76_method_19_code 200 = .ok (.iload 4, 2) := by decide +kernel
theorem dK_202 : decode prog_76_method_19_code 202 = .ok (.iload_n 2, 1) := by decide +kernel
theorem dK_203 : decode prog_76_method_19_code 203 = .ok (.iastore, 1) := by decide +kernel
theorem dK_204 : decode prog_76_method_19_code 204 = .ok (.aload_n 0, 1) := by decide +kernel
theorem dK_205 : decode prog_76_method_19_code 205 = .ok (.getfield 50, 3) := by decide +kernel
theorem dK_208 : decode prog_76_method_19_code 208 = .ok (.iload 4, 2) := by decide +kernel
theorem dK_210 : decode prog_76_method_19_code 210 = .ok (.iload_n 3, 1) := by decide +kernel
theorem dK_211 : decode prog_76_method_19_code 211 = .ok (.iastore, 1) := by decide +kernel
theorem dK_212 : decode prog_76_method_19_code 212 = .ok (.aload_n 0, 1) := by decide +kernel
theorem dK_213 : decode prog_76_method_19_code 213 = .ok (.getfield 62, 3) := by decide +kernel
theorem dK_216 : decode prog_76_method_19_code 216 = .ok (.iload 4, 2) := by decide +kernel
theorem dK_218 : decode prog_76_method_19_code 218 = .ok (.lconst 0, 1) := by decide +kernel
theorem dK_219 : decode prog_76_method_19_code 219 = .ok (.lastore, 1) := by decide +kernel
theorem dK_220 : decode prog_76_method_19_code 220 = .ok (.aload_n 0, 1) := by decide +kernel
theorem dK_221 : decode prog_76_method_19_code 221 = .ok (.getfield 65, 3) := by decide +kernel
theorem dK_224 : decode prog_76_method_19_code 224 = .ok (.iload 4, 2) := by decide +kernel
theorem dK_226 : decode prog_76_method_19_code 226 = .ok (.lconst 0, 1) := by decide +kernel
theorem dK_227 : decode prog_76_method_19_code 227 = .ok (.lastore, 1) := by decide +kernel
theorem dK_228 : decode prog_76_method_19_code 228 = .ok (.aload_n 0, 1) := by decide +kernel
theorem dK_229 : decode prog_76_method_19_code 229 = .ok (.getfield 16, 3) := by decide +kernel
theorem dK_232 : decode prog_76_method_19_code 232 = .ok (.iload_n 3, 1) := by decide +kernel
theorem dK_233 : decode prog_76_method_19_code 233 = .ok (.iaload, 1) := by decide +kernel
theorem dK_234 : decode prog_76_method_19_code 234 = .ok (.istore 5, 2) := by decide +kernel
theorem dK_236 : decode prog_76_method_19_code 236 = .ok (.aload_n 0, 1) := by decide +kernel
theorem dK_237 : decode prog_76_method_19_code 237 = .ok (.getfield 53, 3) := by decide +kernel
theorem dK_240 : decode prog_76_method_19_code 240 = .ok (.iload 4, 2) := by decide +kernel
theorem dK_242 : decode prog_76_method_19_code 242 = .ok (.iconst (-1), 1) := by decide +kernel
theorem dK_243 : decode prog_76_method_19_code 243 = .ok (.iastore, 1) := by decide +kernel
theorem dK_244 : decode prog_76_method_19_code 244 = .ok (.aload_n 0, 1) := by decide +kernel
theorem dK_245 : decode prog_76_method_19_code 245 = .ok (.getfield 56, 3) := by decide +kernel
theorem dK_248 : decode prog_76_method_19_code 248 = .ok (.iload 4, 2) := by decide +kernel
theorem dK_250 : decode prog_76_method_19_code 250 = .ok (.iload 5, 2) := by decide +kernel
theorem dK_252 : decode prog_76_method_19_code 252 = .ok (.iastore, 1) := by decide +kernel
theorem dK_253 : decode prog_76_method_19_code 253 = .ok (.iload 5, 2) := by decide +kernel
theorem dK_255 : decode prog_76_method_19_code 255 = .ok (.iconst (-1), 1) := by decide +kernel
theorem dK_256 : decode prog_76_method_19_code 256 = .ok (.if_icmp .eq 12, 3) := by decide +kernel
theorem dK_259 : decode prog_76_method_19_code 259 = .ok (.aload_n 0, 1) := by decide +kernel
theorem dK_260 : decode prog_76_method_19_code 260 = .ok (.getfield 53, 3) := by decide +kernel
theorem dK_263 : decode prog_76_method_19_code 263 = .ok (.iload 5, 2) := by decide +kernel
theorem dK_265 : decode prog_76_method_19_code 265 = .ok (.iload 4, 2) := by decide +kernel
theorem dK_267 : decode prog_76_method_19_code 267 = .ok (.iastore, 1) := by decide +kernel
theorem dK_268 : decode prog_76_method_19_code 268 = .ok (.aload_n 0, 1) := by decide +kernel
theorem dK_269 : decode prog_76_method_19_code 269 = .ok (.getfield 16, 3) := by decide +kernel
theorem dK_272 : decode prog_76_method_19_code 272 = .ok (.iload_n 3, 1) := by decide +kernel
theorem dK_273 : decode prog_76_method_19_code 273 = .ok (.iload 4, 2) := by decide +kernel
theorem dK_275 : decode prog_76_method_19_code 275 = .ok (.iastore, 1) := by decide +kernel
theorem dK_276 : decode prog_76_method_19_code 276 = .ok (.iload 4, 2) := by decide +kernel
theorem dK_278 : decode prog_76_method_19_code 278 = .ok (.ireturn, 1) := by decide +kernel
theorem pnK : plainName "com/example/lockstep/lockstep/check/StepGroups" = true := by first | (simp [plainName, overriddenIn]; done) | decide +kernel
theorem efK (m : MethodId) (u : Addr) (lab : Int32) (sup : Int32) (k : Nat) : entryFrame m #[(.ref u), (.int lab), (.int sup), (.int (Int32.ofNat k))] 6 = mkF m 0 #[.val (.ref u), .val (.int lab), .val (.int sup), .val (.int (Int32.ofNat k)), .unset, .unset] [] := by first | (simp [entryFrame, mkF, argsToLocals, Value.category]; done) | rfl
set_option maxRecDepth 65536 in
set_option maxHeartbeats 40000000 in
theorem rmK (l : Launch) (Z : State) (a0 : Array Value) (hw : ∀ d ∈ tables_1, d.before a0 Z = true) (ws : List Jvm.Cond) (u : Addr) (lab : Int32) (sup : Int32) (k : Nat) (em : Addr) (fr : Addr) (fb : Addr) (go : Addr) (ps : Addr) (ns : Addr) (fs : Addr) (lb : Addr) (sb : Addr) (bl : Addr) (pv : Addr) (nx : Addr) (pt : Addr) (qs : Addr) (ms : Addr) (gn : Nat) (ec : Int32) (sp : Int64) (ffs : Nat → Int32) (flb : Nat → Int32) (fsb : Nat → Int32) (fbl : Nat → Int32) (fqs : Nat → Int64) (fms : Nat → Int64) (fpv : Nat → Int32) (fnx : Nat → Int32) (ffb : Nat → Int32) (h0 : Heap) (n0 : Nat) (Z0 : n0 ≤ h0.size) (U : FU Z h0 u em fr fb go ps ns fs lb sb bl pv nx pt qs ms (Int32.ofNat gn) ec 0 sp) (ho : ORD u em fr fb go ps ns fs lb sb bl pv nx pt qs ms) (gu : n0 ≤ u) (O_fs : OA Z h0 fs .int 16 ffs) (O_lb : OA Z h0 lb .int 16 flb) (O_sb : OA Z h0 sb .int 16 fsb) (O_bl : OA Z h0 bl .int 16 fbl) (O_qs : OL Z h0 qs 16 fqs) (O_ms : OL Z h0 ms 16 fms) (O_pv : OA Z h0 pv .int 16 fpv) (O_nx : OA Z h0 nx .int 16 fnx) (O_fb : OA Z h0 fb .int 16 ffb) (hgn : gn < 16) (hk : k < 16) (hfk : ffb k = -1 ∨ ffb k = 0) :
    MetFree l (⟨"com/example/lockstep/lockstep/check/StepGroups", "make", "(III)I"⟩ : MethodName) (head1 (Jvm.Cond.code (⟨"com/example/lockstep/lockstep/check/StepGroups", "make", "(III)I"⟩ : MethodName) prog_76_method_19_code 6 (some .int) :: ws) ({ frames := 0, cells := 0, slots := 0, locals := 0 } : Room)) (fun a U => a = #[(.ref u), (.int lab), (.int sup), (.int (Int32.ofNat k))] ∧ Z.Warmed39 U.vm ∧ U.heap = h0) (fun _ _ _ _ _ => True) (fun _ U o U' => ∃ v L, o = .returned v ∧ (QK Z n0 h0 u em fr fb go ps ns fs lb sb bl pv nx pt qs ms lab sup k gn ec sp ffs flb fsb fbl fqs fms fpv fnx ffb (mkPv fpv gn (ffb k)) (ffb k)) v U'.heap L ∧ FrameEnd U o U' L ({ frames := 0, cells := 0, slots := 0, locals := 0 } : Room).cells ({ frames := 0, cells := 0, slots := 0, locals := 0 } : Room).slots) := by
  refine MetFree.of_bodySF (plainFor_of_name pnK) hisR ?_
  intro p e s m args below meth c s₁ Bd hml0 hP hK
  obtain ⟨rfl, hZ, hh⟩ := hP
  have hx := Bd.exec
  have hby := Bd.bytes
  have hml : c.maxLocals = 6 := hml0
  have hown : s.vm.findClass "com/example/lockstep/lockstep/check/StepGroups" = some m.cls := findClass_of_methodNamed Bd.named
  have hnm := (name_of_methodNamed Bd.named Bd.method).1
  have X0 : Stand p l e ({ frames := 0, cells := 0, slots := 0, locals := 0 } : Room) s m #[(.ref u), (.int lab), (.int sup), (.int (Int32.ofNat k))] below meth c s₁ [] 0 0 := Stand.of_body Bd
  have e0 : s₁.heap = h0 := by rw [← hh, Bd.state]; rfl
  have N0 := Fr.nil n0
  show OGo p e below (Out s ({ frames := 0, cells := 0, slots := 0, locals := 0 } : Room).cells ({ frames := 0, cells := 0, slots := 0, locals := 0 } : Room).slots ((QK Z n0 h0 u em fr fb go ps ns fs lb sb bl pv nx pt qs ms lab sup k gn ec sp ffs flb fsb fbl fqs fms fpv fnx ffb (mkPv fpv gn (ffb k)) (ffb k)))) (s₁.setTop (entryFrame m #[(.ref u), (.int lab), (.int sup), (.int (Int32.ofNat k))] 6))
  have ho0 := ho; obtain ⟨o1, o2, o3, o4, o5, o6, o7, o8, o9, o10, o11, o12, o13, o14, o15⟩ := ho
  obtain ⟨E0, F0_emptied, F0_free, F0_firstOfBlock, F0_groupOf, F0_previousStep, F0_nextStep, F0_firstStep, F0_label, F0_superBlock, F0_block, F0_previous, F0_next, F0_partner, F0_partnerStamp, F0_markStamp, F0_groupCount, F0_emptiedCount, F0_freeCount, F0_stamp⟩ := U
  have n_u_fs : u ≠ fs := own_nen (by omega)
  have g_fs : n0 ≤ fs := by omega
  have n_u_lb : u ≠ lb := own_nen (by omega)
  have n_fs_lb : fs ≠ lb := own_nen (by omega)
  have g_lb : n0 ≤ lb := by omega
  have n_u_sb : u ≠ sb := own_nen (by omega)
  have n_fs_sb : fs ≠ sb := own_nen (by omega)
  have n_lb_sb : lb ≠ sb := own_nen (by omega)
  have g_sb : n0 ≤ sb := by omega
  have n_u_bl : u ≠ bl := own_nen (by omega)
  have n_fs_bl : fs ≠ bl := own_nen (by omega)
  have n_lb_bl : lb ≠ bl := own_nen (by omega)
  have n_sb_bl : sb ≠ bl := own_nen (by omega)
  have g_bl : n0 ≤ bl := by omega
  have n_u_qs : u ≠ qs := own_nen (by omega)
  have n_fs_qs : fs ≠ qs := own_nen (by omega)
  have n_lb_qs : lb ≠ qs := own_nen (by omega)
  have n_sb_qs : sb ≠ qs := own_nen (by omega)
  have n_bl_qs : bl ≠ qs := own_nen (by omega)
  have g_qs : n0 ≤ qs := by omega
  have n_u_ms : u ≠ ms := own_nen (by omega)
  have n_fs_ms : fs ≠ ms := own_nen (by omega)
  have n_lb_ms : lb ≠ ms := own_nen (by omega)
  have n_sb_ms : sb ≠ ms := own_nen (by omega)
  have n_bl_ms : bl ≠ ms := own_nen (by omega)
  have n_qs_ms : qs ≠ ms := own_nen (by omega)
  have g_ms : n0 ≤ ms := by omega
  have n_u_fb : u ≠ fb := own_nen (by omega)
  have n_fb_fs : fb ≠ fs := own_nen (by omega)
  have n_fb_lb : fb ≠ lb := own_nen (by omega)
  have n_fb_sb : fb ≠ sb := own_nen (by omega)
  have n_fb_bl : fb ≠ bl := own_nen (by omega)
  have n_fb_qs : fb ≠ qs := own_nen (by omega)
  have n_fb_ms : fb ≠ ms := own_nen (by omega)
  have n_u_pv : u ≠ pv := own_nen (by omega)
  have n_fs_pv : fs ≠ pv := own_nen (by omega)
  have n_lb_pv : lb ≠ pv := own_nen (by omega)
  have n_sb_pv : sb ≠ pv := own_nen (by omega)
  have n_bl_pv : bl ≠ pv := own_nen (by omega)
  have n_pv_qs : pv ≠ qs := own_nen (by omega)
  have n_pv_ms : pv ≠ ms := own_nen (by omega)
  have g_pv : n0 ≤ pv := by omega
  have n_u_nx : u ≠ nx := own_nen (by omega)
  have n_fs_nx : fs ≠ nx := own_nen (by omega)
  have n_lb_nx : lb ≠ nx := own_nen (by omega)
  have n_sb_nx : sb ≠ nx := own_nen (by omega)
  have n_bl_nx : bl ≠ nx := own_nen (by omega)
  have n_nx_qs : nx ≠ qs := own_nen (by omega)
  have n_nx_ms : nx ≠ ms := own_nen (by omega)
  have n_pv_nx : pv ≠ nx := own_nen (by omega)
  have g_nx : n0 ≤ nx := by omega
  have n_fb_pv : fb ≠ pv := own_nen (by omega)
  have n_fb_nx : fb ≠ nx := own_nen (by omega)
  have g_fb : n0 ≤ fb := by omega
  refine OGo.st (fun t kk => castTop (efK m u lab sup k) kk) ?_
  show OGo p e below (Out s ({ frames := 0, cells := 0, slots := 0, locals := 0 } : Room).cells ({ frames := 0, cells := 0, slots := 0, locals := 0 } : Room).slots ((QK Z n0 h0 u em fr fb go ps ns fs lb sb bl pv nx pt qs ms lab sup k gn ec sp ffs flb fsb fbl fqs fms fpv fnx ffb (mkPv fpv gn (ffb k)) (ffb k)))) (s₁.setTop (mkF m 0 #[vr u, vi lab, vi sup, vi (Int32.ofNat k), .unset, .unset] []))
  rcases hfk with hf1 | hf1
  · rw [show mkPv fpv gn (ffb k) = oset fpv gn (-1) from if_pos hf1, hf1]
    refine OGo.st (fun t kk => XS.aloadN X0.here hx rfl (hb hby dK_0) rfl rfl kk) ?_
    show OGo p e below _ (s₁.setTop (mkF m 1 #[vr u, vi lab, vi sup, vi (Int32.ofNat k), .unset, .unset] [(.ref u)]))
    obtain ⟨T1, X1, e1, st1⟩ := getF X0 hx hZ hown (host := "") (Or.inl (hw _ (List.mem_of_getElem? (i := 58) rfl))) Via.refl e0 F0_freeCount (g := (mkF m 1 #[vr u, vi lab, vi sup, vi (Int32.ofNat k), .unset, .unset] [(.ref u)])) rfl rfl (hb hby dK_1)
    refine OGo.st (fun t kk => st1 t kk) ?_
    show OGo p e below _ (T1.setTop (mkF m 4 #[vr u, vi lab, vi sup, vi (Int32.ofNat k), .unset, .unset] [(.int (0 : Int32))]))
    refine OGo.st (fun t kk => XS.ifYes X1.here hx rfl (pc0 := 4) (pc' := 28) rfl (hb hby dK_4) rfl ((if0 _ _).trans (flt (by decide : ¬ ((0 : Int32) < (0 : Int32)))).2.2.2) (by decide) (by decide) kk) ?_
    show OGo p e below _ (T1.setTop (mkF m 28 #[vr u, vi lab, vi sup, vi (Int32.ofNat k), .unset, .unset] []))
    refine OGo.st (fun t kk => XS.aloadN X1.here hx rfl (hb hby dK_28) rfl rfl kk) ?_
    show OGo p e below _ (T1.setTop (mkF m 29 #[vr u, vi lab, vi sup, vi (Int32.ofNat k), .unset, .unset] [(.ref u)]))
    refine OGo.st (fun t kk => XS.dup X1.here hx rfl (hb hby dK_29) rfl rfl kk) ?_
    show OGo p e below _ (T1.setTop (mkF m 30 #[vr u, vi lab, vi sup, vi (Int32.ofNat k), .unset, .unset] [(.ref u), (.ref u)]))
    obtain ⟨T2, X2, e2, st2⟩ := getF X1 hx hZ hown (host := "") (Or.inl (hw _ (List.mem_of_getElem? (i := 60) rfl))) Via.refl e1 F0_groupCount (g := (mkF m 30 #[vr u, vi lab, vi sup, vi (Int32.ofNat k), .unset, .unset] [(.ref u), (.ref u)])) rfl rfl (hb hby dK_30)
    refine OGo.st (fun t kk => st2 t kk) ?_
    show OGo p e below _ (T2.setTop (mkF m 33 #[vr u, vi lab, vi sup, vi (Int32.ofNat k), .unset, .unset] [(.int (Int32.ofNat gn)), (.ref u)]))
    refine OGo.st (fun t kk => XS.dupX1 X2.here hx rfl (hb hby dK_33) rfl rfl rfl kk) ?_
    show OGo p e below _ (T2.setTop (mkF m 34 #[vr u, vi lab, vi sup, vi (Int32.ofNat k), .unset, .unset] [(.int (Int32.ofNat gn)), (.ref u), (.int (Int32.ofNat gn))]))
    refine OGo.st (fun t kk => XS.iconst X2.here hx rfl (hb hby dK_34) kk) ?_
    show OGo p e below _ (T2.setTop (mkF m 35 #[vr u, vi lab, vi sup, vi (Int32.ofNat k), .unset, .unset] [(.int (1 : Int32)), (.int (Int32.ofNat gn)), (.ref u), (.int (Int32.ofNat gn))]))
    refine OGo.st (fun t kk => XS.iadd X2.here hx rfl (hb hby dK_35) rfl kk) ?_
    show OGo p e below _ (T2.setTop (mkF m 36 #[vr u, vi lab, vi sup, vi (Int32.ofNat k), .unset, .unset] [(.int ((Int32.ofNat gn) + (1 : Int32))), (.ref u), (.int (Int32.ofNat gn))]))
    rw [own_inc gn]
    show OGo p e below _ (T2.setTop (mkF m 36 #[vr u, vi lab, vi sup, vi (Int32.ofNat k), .unset, .unset] [(.int (Int32.ofNat (gn + 1))), (.ref u), (.int (Int32.ofNat gn))]))
    obtain ⟨T3, h3, X3, e3, W3, st3⟩ := putF X2 hx hZ hown (host := "") (Or.inl (hw _ (List.mem_of_getElem? (i := 60) rfl))) Via.refl e2 F0_groupCount E0 (Or.inl (hw _ (List.mem_of_getElem? (i := 61) rfl))) (hw _ (List.mem_of_getElem? (i := 2) rfl)) (ty := .int) (by decide) rfl rfl (g := (mkF m 36 #[vr u, vi lab, vi sup, vi (Int32.ofNat k), .unset, .unset] [(.int (Int32.ofNat (gn + 1))), (.ref u), (.int (Int32.ofNat gn))])) rfl rfl (hb hby dK_36)
    have Fw3 := F0_groupCount.same W3
    have N3 := Fr.snoc X3 N0 gu
    have Z3 : n0 ≤ h3.size := Nat.le_trans Z0 (Keep.of_wr W3).1
    have K3 : Keep h0 h3 [u, fs, lb, sb, bl, qs, ms, pv, nx, fb] := (Keep.refl h0 _).wr W3 (Or.inl (List.mem_of_getElem? (i := 0) rfl))
    obtain ⟨lo3, X3, N3⟩ : ∃ L, Stand p l e ({ frames := 0, cells := 0, slots := 0, locals := 0 } : Room) s m #[(.ref u), (.int lab), (.int sup), (.int (Int32.ofNat k))] below meth c T3 L 0 0 ∧ Fr n0 L := ⟨_, X3, N3⟩
    refine OGo.st (fun t kk => st3 t kk) ?_
    show OGo p e below _ (T3.setTop (mkF m 39 #[vr u, vi lab, vi sup, vi (Int32.ofNat k), .unset, .unset] [(.int (Int32.ofNat gn))]))
    refine OGo.st (fun t kk => XS.istore X3.here hx rfl (hb hby dK_39) rfl (l' := #[vr u, vi lab, vi sup, vi (Int32.ofNat k), vi (Int32.ofNat gn), .unset]) rfl kk) ?_
    show OGo p e below _ (T3.setTop (mkF m 41 #[vr u, vi lab, vi sup, vi (Int32.ofNat k), vi (Int32.ofNat gn), .unset] []))
    refine OGo.st (fun t kk => XS.iload X3.here hx rfl (hb hby dK_41) rfl kk) ?_
    show OGo p e below _ (T3.setTop (mkF m 43 #[vr u, vi lab, vi sup, vi (Int32.ofNat k), vi (Int32.ofNat gn), .unset] [(.int (Int32.ofNat gn))]))
    refine OGo.st (fun t kk => XS.aloadN X3.here hx rfl (hb hby dK_43) rfl rfl kk) ?_
    show OGo p e below _ (T3.setTop (mkF m 44 #[vr u, vi lab, vi sup, vi (Int32.ofNat k), vi (Int32.ofNat gn), .unset] [(.ref u), (.int (Int32.ofNat gn))]))
    have c4 := (F0_firstStep.other W3 (Or.inr (slot_ne (Or.inl (hw _ (List.mem_of_getElem? (i := 33) rfl))) (Or.inl (hw _ (List.mem_of_getElem? (i := 61) rfl))) (by decide) (t := (.array .int)) (t' := .int) (by decide) (by decide))))
    obtain ⟨T5, X5, e5, st5⟩ := getF X3 hx hZ hown (host := "") (Or.inl (hw _ (List.mem_of_getElem? (i := 32) rfl))) Via.refl e3 c4 (g := (mkF m 44 #[vr u, vi lab, vi sup, vi (Int32.ofNat k), vi (Int32.ofNat gn), .unset] [(.ref u), (.int (Int32.ofNat gn))])) rfl rfl (hb hby dK_44)
    refine OGo.st (fun t kk => st5 t kk) ?_
    show OGo p e below _ (T5.setTop (mkF m 47 #[vr u, vi lab, vi sup, vi (Int32.ofNat k), vi (Int32.ofNat gn), .unset] [(.ref fs), (.int (Int32.ofNat gn))]))
    have c6 := (O_fs.other W3 (Ne.symm n_u_fs))
    refine OGo.st (fun t kk => OA.len X5 hx hZ e5 c6 (z := (16 : Int32)) (by decide) (g := (mkF m 47 #[vr u, vi lab, vi sup, vi (Int32.ofNat k), vi (Int32.ofNat gn), .unset] [(.ref fs), (.int (Int32.ofNat gn))])) rfl rfl (hb hby dK_47) t kk) ?_
    show OGo p e below _ (T5.setTop (mkF m 48 #[vr u, vi lab, vi sup, vi (Int32.ofNat k), vi (Int32.ofNat gn), .unset] [(.int (16 : Int32)), (.int (Int32.ofNat gn))]))
    refine OGo.st (fun t kk => XS.icmpYes X5.here hx rfl (pc0 := 48) (pc' := 180) rfl (hb hby dK_48) rfl (feq (own_ne16 hgn)).2 (by decide) (by decide) kk) ?_
    show OGo p e below _ (T5.setTop (mkF m 180 #[vr u, vi lab, vi sup, vi (Int32.ofNat k), vi (Int32.ofNat gn), .unset] []))
    refine OGo.st (fun t kk => XS.aloadN X5.here hx rfl (hb hby dK_180) rfl rfl kk) ?_
    show OGo p e below _ (T5.setTop (mkF m 181 #[vr u, vi lab, vi sup, vi (Int32.ofNat k), vi (Int32.ofNat gn), .unset] [(.ref u)]))
    obtain ⟨T7, X7, e7, st7⟩ := getF X5 hx hZ hown (host := "") (Or.inl (hw _ (List.mem_of_getElem? (i := 32) rfl))) Via.refl e5 c4 (g := (mkF m 181 #[vr u, vi lab, vi sup, vi (Int32.ofNat k), vi (Int32.ofNat gn), .unset] [(.ref u)])) rfl rfl (hb hby dK_181)
    refine OGo.st (fun t kk => st7 t kk) ?_
    show OGo p e below _ (T7.setTop (mkF m 184 #[vr u, vi lab, vi sup, vi (Int32.ofNat k), vi (Int32.ofNat gn), .unset] [(.ref fs)]))
    refine OGo.st (fun t kk => XS.iload X7.here hx rfl (hb hby dK_184) rfl kk) ?_
    show OGo p e below _ (T7.setTop (mkF m 186 #[vr u, vi lab, vi sup, vi (Int32.ofNat k), vi (Int32.ofNat gn), .unset] [(.int (Int32.ofNat gn)), (.ref fs)]))
    refine OGo.st (fun t kk => XS.iconst X7.here hx rfl (hb hby dK_186) kk) ?_
    show OGo p e below _ (T7.setTop (mkF m 187 #[vr u, vi lab, vi sup, vi (Int32.ofNat k), vi (Int32.ofNat gn), .unset] [(.int (-1 : Int32)), (.int (Int32.ofNat gn)), (.ref fs)]))
    obtain ⟨T8, h8, X8, e8, W8, O8', st8⟩ := OA.stI X7 hx hZ e7 c6 (j := (Int32.ofNat gn)) (x := (-1 : Int32)) (k := gn) (own_nat (show gn < 1000 by omega)).1 (own_nat (show gn < 1000 by omega)).2 (by omega) (g := (mkF m 187 #[vr u, vi lab, vi sup, vi (Int32.ofNat k), vi (Int32.ofNat gn), .unset] [(.int (-1 : Int32)), (.int (Int32.ofNat gn)), (.ref fs)])) rfl rfl (hb hby dK_187)
    have O8 := O8'
    have N8 := Fr.snoc X8 N3 g_fs
    have Z8 : n0 ≤ h8.size := Nat.le_trans Z3 (Keep.of_wr W8).1
    have K8 : Keep h0 h8 [u, fs, lb, sb, bl, qs, ms, pv, nx, fb] := K3.wr W8 (Or.inl (List.mem_of_getElem? (i := 1) rfl))
    obtain ⟨lo8, X8, N8⟩ : ∃ L, Stand p l e ({ frames := 0, cells := 0, slots := 0, locals := 0 } : Room) s m #[(.ref u), (.int lab), (.int sup), (.int (Int32.ofNat k))] below meth c T8 L 0 0 ∧ Fr n0 L := ⟨_, X8, N8⟩
    refine OGo.st (fun t kk => st8 t kk) ?_
    show OGo p e below _ (T8.setTop (mkF m 188 #[vr u, vi lab, vi sup, vi (Int32.ofNat k), vi (Int32.ofNat gn), .unset] []))
    refine OGo.st (fun t kk => XS.aloadN X8.here hx rfl (hb hby dK_188) rfl rfl kk) ?_
    show OGo p e below _ (T8.setTop (mkF m 189 #[vr u, vi lab, vi sup, vi (Int32.ofNat k), vi (Int32.ofNat gn), .unset] [(.ref u)]))
    have c9 := ((F0_label.other W3 (Or.inr (slot_ne (Or.inl (hw _ (List.mem_of_getElem? (i := 35) rfl))) (Or.inl (hw _ (List.mem_of_getElem? (i := 61) rfl))) (by decide) (t := (.array .int)) (t' := .int) (by decide) (by decide)))).other W8 (Or.inl n_u_fs))
    obtain ⟨T10, X10, e10, st10⟩ := getF X8 hx hZ hown (host := "") (Or.inl (hw _ (List.mem_of_getElem? (i := 34) rfl))) Via.refl e8 c9 (g := (mkF m 189 #[vr u, vi lab, vi sup, vi (Int32.ofNat k), vi (Int32.ofNat gn), .unset] [(.ref u)])) rfl rfl (hb hby dK_189)
    refine OGo.st (fun t kk => st10 t kk) ?_
    show OGo p e below _ (T10.setTop (mkF m 192 #[vr u, vi lab, vi sup, vi (Int32.ofNat k), vi (Int32.ofNat gn), .unset] [(.ref lb)]))
    refine OGo.st (fun t kk => XS.iload X10.here hx rfl (hb hby dK_192) rfl kk) ?_
    show OGo p e below _ (T10.setTop (mkF m 194 #[vr u, vi lab, vi sup, vi (Int32.ofNat k), vi (Int32.ofNat gn), .unset] [(.int (Int32.ofNat gn)), (.ref lb)]))
    refine OGo.st (fun t kk => XS.iloadN X10.here hx rfl (hb hby dK_194) rfl kk) ?_
    show OGo p e below _ (T10.setTop (mkF m 195 #[vr u, vi lab, vi sup, vi (Int32.ofNat k), vi (Int32.ofNat gn), .unset] [(.int lab), (.int (Int32.ofNat gn)), (.ref lb)]))
    have c12 := ((O_lb.other W3 (Ne.symm n_u_lb)).other W8 (Ne.symm n_fs_lb))
    obtain ⟨T11, h11, X11, e11, W11, O11', st11⟩ := OA.stI X10 hx hZ e10 c12 (j := (Int32.ofNat gn)) (x := lab) (k := gn) (own_nat (show gn < 1000 by omega)).1 (own_nat (show gn < 1000 by omega)).2 (by omega) (g := (mkF m 195 #[vr u, vi lab, vi sup, vi (Int32.ofNat k), vi (Int32.ofNat gn), .unset] [(.int lab), (.int (Int32.ofNat gn)), (.ref lb)])) rfl rfl (hb hby dK_195)
    have O11 := O11'
    have N11 := Fr.snoc X11 N8 g_lb
    have Z11 : n0 ≤ h11.size := Nat.le_trans Z8 (Keep.of_wr W11).1
    have K11 : Keep h0 h11 [u, fs, lb, sb, bl, qs, ms, pv, nx, fb] := K8.wr W11 (Or.inl (List.mem_of_getElem? (i := 2) rfl))
    obtain ⟨lo11, X11, N11⟩ : ∃ L, Stand p l e ({ frames := 0, cells := 0, slots := 0, locals := 0 } : Room) s m #[(.ref u), (.int lab), (.int sup), (.int (Int32.ofNat k))] below meth c T11 L 0 0 ∧ Fr n0 L := ⟨_, X11, N11⟩
    refine OGo.st (fun t kk => st11 t kk) ?_
    show OGo p e below _ (T11.setTop (mkF m 196 #[vr u, vi lab, vi sup, vi (Int32.ofNat k), vi (Int32.ofNat gn), .unset] []))
    refine OGo.st (fun t kk => XS.aloadN X11.here hx rfl (hb hby dK_196) rfl rfl kk) ?_
    show OGo p e below _ (T11.setTop (mkF m 197 #[vr u, vi lab, vi sup, vi (Int32.ofNat k), vi (Int32.ofNat gn), .unset] [(.ref u)]))
    have c13 := (((F0_superBlock.other W3 (Or.inr (slot_ne (Or.inl (hw _ (List.mem_of_getElem? (i := 37) rfl))) (Or.inl (hw _ (List.mem_of_getElem? (i := 61) rfl))) (by decide) (t := (.array .int)) (t' := .int) (by decide) (by decide)))).other W8 (Or.inl n_u_fs)).other W11 (Or.inl n_u_lb))
    obtain ⟨T14, X14, e14, st14⟩ := getF X11 hx hZ hown (host := "") (Or.inl (hw _ (List.mem_of_getElem? (i := 36) rfl))) Via.refl e11 c13 (g := (mkF m 197 #[vr u, vi lab, vi sup, vi (Int32.ofNat k), vi (Int32.ofNat gn), .unset] [(.ref u)])) rfl rfl (hb hby dK_197)
    refine OGo.st (fun t kk => st14 t kk) ?_
    show OGo p e below _ (T14.setTop (mkF m 200 #[vr u, vi lab, vi sup, vi (Int32.ofNat k), vi (Int32.ofNat gn), .unset] [(.ref sb)]))
    refine OGo.st (fun t kk => XS.iload X14.here hx rfl (hb hby dK_200) rfl kk) ?_
    show OGo p e below _ (T14.setTop (mkF m 202 #[vr u, vi lab, vi sup, vi (Int32.ofNat k), vi (Int32.ofNat gn), .unset] [(.int (Int32.ofNat gn)), (.ref sb)]))
    refine OGo.st (fun t kk => XS.iloadN X14.here hx rfl (hb hby dK_202) rfl kk) ?_
    show OGo p e below _ (T14.setTop (mkF m 203 #[vr u, vi lab, vi sup, vi (Int32.ofNat k), vi (Int32.ofNat gn), .unset] [(.int sup), (.int (Int32.ofNat gn)), (.ref sb)]))
    have c16 := (((O_sb.other W3 (Ne.symm n_u_sb)).other W8 (Ne.symm n_fs_sb)).other W11 (Ne.symm n_lb_sb))
    obtain ⟨T15, h15, X15, e15, W15, O15', st15⟩ := OA.stI X14 hx hZ e14 c16 (j := (Int32.ofNat gn)) (x := sup) (k := gn) (own_nat (show gn < 1000 by omega)).1 (own_nat (show gn < 1000 by omega)).2 (by omega) (g := (mkF m 203 #[vr u, vi lab, vi sup, vi (Int32.ofNat k), vi (Int32.ofNat gn), .unset] [(.int sup), (.int (Int32.ofNat gn)), (.ref sb)])) rfl rfl (hb hby dK_203)
    have O15 := O15'
    have N15 := Fr.snoc X15 N11 g_sb
    have Z15 : n0 ≤ h15.size := Nat.le_trans Z11 (Keep.of_wr W15).1
    have K15 : Keep h0 h15 [u, fs, lb, sb, bl, qs, ms, pv, nx, fb] := K11.wr W15 (Or.inl (List.mem_of_getElem? (i := 3) rfl))
    obtain ⟨lo15, X15, N15⟩ : ∃ L, Stand p l e ({ frames := 0, cells := 0, slots := 0, locals := 0 } : Room) s m #[(.ref u), (.int lab), (.int sup), (.int (Int32.ofNat k))] below meth c T15 L 0 0 ∧ Fr n0 L := ⟨_, X15, N15⟩
    refine OGo.st (fun t kk => st15 t kk) ?_
    show OGo p e below _ (T15.setTop (mkF m 204 #[vr u, vi lab, vi sup, vi (Int32.ofNat k), vi (Int32.ofNat gn), .unset] []))
    refine OGo.st (fun t kk => XS.aloadN X15.here hx rfl (hb hby dK_204) rfl rfl kk) ?_
    show OGo p e below _ (T15.setTop (mkF m 205 #[vr u, vi lab, vi sup, vi (Int32.ofNat k), vi (Int32.ofNat gn), .unset] [(.ref u)]))
    have c17 := ((((F0_block.other W3 (Or.inr (slot_ne (Or.inl (hw _ (List.mem_of_getElem? (i := 39) rfl))) (Or.inl (hw _ (List.mem_of_getElem? (i := 61) rfl))) (by decide) (t := (.array .int)) (t' := .int) (by decide) (by decide)))).other W8 (Or.inl n_u_fs)).other W11 (Or.inl n_u_lb)).other W15 (Or.inl n_u_sb))
    obtain ⟨T18, X18, e18, st18⟩ := getF X15 hx hZ hown (host := "") (Or.inl (hw _ (List.mem_of_getElem? (i := 38) rfl))) Via.refl e15 c17 (g := (mkF m 205 #[vr u, vi lab, vi sup, vi (Int32.ofNat k), vi (Int32.ofNat gn), .unset] [(.ref u)])) rfl rfl (hb hby dK_205)
    refine OGo.st (fun t kk => st18 t kk) ?_
    show OGo p e below _ (T18.setTop (mkF m 208 #[vr u, vi lab, vi sup, vi (Int32.ofNat k), vi (Int32.ofNat gn), .unset] [(.ref bl)]))
    refine OGo.st (fun t kk => XS.iload X18.here hx rfl (hb hby dK_208) rfl kk) ?_
    show OGo p e below _ (T18.setTop (mkF m 210 #[vr u, vi lab, vi sup, vi (Int32.ofNat k), vi (Int32.ofNat gn), .unset] [(.int (Int32.ofNat gn)), (.ref bl)]))
    refine OGo.st (fun t kk => XS.iloadN X18.here hx rfl (hb hby dK_210) rfl kk) ?_
    show OGo p e below _ (T18.setTop (mkF m 211 #[vr u, vi lab, vi sup, vi (Int32.ofNat k), vi (Int32.ofNat gn), .unset] [(.int (Int32.ofNat k)), (.int (Int32.ofNat gn)), (.ref bl)]))
    have c20 := ((((O_bl.other W3 (Ne.symm n_u_bl)).other W8 (Ne.symm n_fs_bl)).other W11 (Ne.symm n_lb_bl)).other W15 (Ne.symm n_sb_bl))
    obtain ⟨T19, h19, X19, e19, W19, O19', st19⟩ := OA.stI X18 hx hZ e18 c20 (j := (Int32.ofNat gn)) (x := (Int32.ofNat k)) (k := gn) (own_nat (show gn < 1000 by omega)).1 (own_nat (show gn < 1000 by omega)).2 (by omega) (g := (mkF m 211 #[vr u, vi lab, vi sup, vi (Int32.ofNat k), vi (Int32.ofNat gn), .unset] [(.int (Int32.ofNat k)), (.int (Int32.ofNat gn)), (.ref bl)])) rfl rfl (hb hby dK_211)
    have O19 := O19'
    have N19 := Fr.snoc X19 N15 g_bl
    have Z19 : n0 ≤ h19.size := Nat.le_trans Z15 (Keep.of_wr W19).1
    have K19 : Keep h0 h19 [u, fs, lb, sb, bl, qs, ms, pv, nx, fb] := K15.wr W19 (Or.inl (List.mem_of_getElem? (i := 4) rfl))
    obtain ⟨lo19, X19, N19⟩ : ∃ L, Stand p l e ({ frames := 0, cells := 0, slots := 0, locals := 0 } : Room) s m #[(.ref u), (.int lab), (.int sup), (.int (Int32.ofNat k))] below meth c T19 L 0 0 ∧ Fr n0 L := ⟨_, X19, N19⟩
    refine OGo.st (fun t kk => st19 t kk) ?_
    show OGo p e below _ (T19.setTop (mkF m 212 #[vr u, vi lab, vi sup, vi (Int32.ofNat k), vi (Int32.ofNat gn), .unset] []))
    refine OGo.st (fun t kk => XS.aloadN X19.here hx rfl (hb hby dK_212) rfl rfl kk) ?_
    show OGo p e below _ (T19.setTop (mkF m 213 #[vr u, vi lab, vi sup, vi (Int32.ofNat k), vi (Int32.ofNat gn), .unset] [(.ref u)]))
    have c21 := (((((F0_partnerStamp.other W3 (Or.inr (slot_ne (Or.inl (hw _ (List.mem_of_getElem? (i := 47) rfl))) (Or.inl (hw _ (List.mem_of_getElem? (i := 61) rfl))) (by decide) (t := (.array .long)) (t' := .int) (by decide) (by decide)))).other W8 (Or.inl n_u_fs)).other W11 (Or.inl n_u_lb)).other W15 (Or.inl n_u_sb)).other W19 (Or.inl n_u_bl))
    obtain ⟨T22, X22, e22, st22⟩ := getF X19 hx hZ hown (host := "") (Or.inl (hw _ (List.mem_of_getElem? (i := 46) rfl))) Via.refl e19 c21 (g := (mkF m 213 #[vr u, vi lab, vi sup, vi (Int32.ofNat k), vi (Int32.ofNat gn), .unset] [(.ref u)])) rfl rfl (hb hby dK_213)
    refine OGo.st (fun t kk => st22 t kk) ?_
    show OGo p e below _ (T22.setTop (mkF m 216 #[vr u, vi lab, vi sup, vi (Int32.ofNat k), vi (Int32.ofNat gn), .unset] [(.ref qs)]))
    refine OGo.st (fun t kk => XS.iload X22.here hx rfl (hb hby dK_216) rfl kk) ?_
    show OGo p e below _ (T22.setTop (mkF m 218 #[vr u, vi lab, vi sup, vi (Int32.ofNat k), vi (Int32.ofNat gn), .unset] [(.int (Int32.ofNat gn)), (.ref qs)]))
    refine OGo.st (fun t kk => XS.lconst X22.here hx rfl (hb hby dK_218) kk) ?_
    show OGo p e below _ (T22.setTop (mkF m 219 #[vr u, vi lab, vi sup, vi (Int32.ofNat k), vi (Int32.ofNat gn), .unset] [(.long (0 : Int64)), (.int (Int32.ofNat gn)), (.ref qs)]))
    have c24 := (((((O_qs.other W3 (Ne.symm n_u_qs)).other W8 (Ne.symm n_fs_qs)).other W11 (Ne.symm n_lb_qs)).other W15 (Ne.symm n_sb_qs)).other W19 (Ne.symm n_bl_qs))
    obtain ⟨T23, h23, X23, e23, W23, O23', st23⟩ := OL.stJ X22 hx hZ e22 c24 (j := (Int32.ofNat gn)) (x := (0 : Int64)) (k := gn) (own_nat (show gn < 1000 by omega)).1 (own_nat (show gn < 1000 by omega)).2 (by omega) (g := (mkF m 219 #[vr u, vi lab, vi sup, vi (Int32.ofNat k), vi (Int32.ofNat gn), .unset] [(.long (0 : Int64)), (.int (Int32.ofNat gn)), (.ref qs)])) rfl rfl (hb hby dK_219)
    have O23 := O23'
    have N23 := Fr.snoc X23 N19 g_qs
    have Z23 : n0 ≤ h23.size := Nat.le_trans Z19 (Keep.of_wr W23).1
    have K23 : Keep h0 h23 [u, fs, lb, sb, bl, qs, ms, pv, nx, fb] := K19.wr W23 (Or.inl (List.mem_of_getElem? (i := 5) rfl))
    obtain ⟨lo23, X23, N23⟩ : ∃ L, Stand p l e ({ frames := 0, cells := 0, slots := 0, locals := 0 } : Room) s m #[(.ref u), (.int lab), (.int sup), (.int (Int32.ofNat k))] below meth c T23 L 0 0 ∧ Fr n0 L := ⟨_, X23, N23⟩
    refine OGo.st (fun t kk => st23 t kk) ?_
    show OGo p e below _ (T23.setTop (mkF m 220 #[vr u, vi lab, vi sup, vi (Int32.ofNat k), vi (Int32.ofNat gn), .unset] []))
    refine OGo.st (fun t kk => XS.aloadN X23.here hx rfl (hb hby dK_220) rfl rfl kk) ?_
    show OGo p e below _ (T23.setTop (mkF m 221 #[vr u, vi lab, vi sup, vi (Int32.ofNat k), vi (Int32.ofNat gn), .unset] [(.ref u)]))
    have c25 := ((((((F0_markStamp.other W3 (Or.inr (slot_ne (Or.inl (hw _ (List.mem_of_getElem? (i := 49) rfl))) (Or.inl (hw _ (List.mem_of_getElem? (i := 61) rfl))) (by decide) (t := (.array .long)) (t' := .int) (by decide) (by decide)))).other W8 (Or.inl n_u_fs)).other W11 (Or.inl n_u_lb)).other W15 (Or.inl n_u_sb)).other W19 (Or.inl n_u_bl)).other W23 (Or.inl n_u_qs))
    obtain ⟨T26, X26, e26, st26⟩ := getF X23 hx hZ hown (host := "") (Or.inl (hw _ (List.mem_of_getElem? (i := 48) rfl))) Via.refl e23 c25 (g := (mkF m 221 #[vr u, vi lab, vi sup, vi (Int32.ofNat k), vi (Int32.ofNat gn), .unset] [(.ref u)])) rfl rfl (hb hby dK_221)
    refine OGo.st (fun t kk => st26 t kk) ?_
    show OGo p e below _ (T26.setTop (mkF m 224 #[vr u, vi lab, vi sup, vi (Int32.ofNat k), vi (Int32.ofNat gn), .unset] [(.ref ms)]))
    refine OGo.st (fun t kk => XS.iload X26.here hx rfl (hb hby dK_224) rfl kk) ?_
    show OGo p e below _ (T26.setTop (mkF m 226 #[vr u, vi lab, vi sup, vi (Int32.ofNat k), vi (Int32.ofNat gn), .unset] [(.int (Int32.ofNat gn)), (.ref ms)]))
    refine OGo.st (fun t kk => XS.lconst X26.here hx rfl (hb hby dK_226) kk) ?_
    show OGo p e below _ (T26.setTop (mkF m 227 #[vr u, vi lab, vi sup, vi (Int32.ofNat k), vi (Int32.ofNat gn), .unset] [(.long (0 : Int64)), (.int (Int32.ofNat gn)), (.ref ms)]))
    have c28 := ((((((O_ms.other W3 (Ne.symm n_u_ms)).other W8 (Ne.symm n_fs_ms)).other W11 (Ne.symm n_lb_ms)).other W15 (Ne.symm n_sb_ms)).other W19 (Ne.symm n_bl_ms)).other W23 (Ne.symm n_qs_ms))
    obtain ⟨T27, h27, X27, e27, W27, O27', st27⟩ := OL.stJ X26 hx hZ e26 c28 (j := (Int32.ofNat gn)) (x := (0 : Int64)) (k := gn) (own_nat (show gn < 1000 by omega)).1 (own_nat (show gn < 1000 by omega)).2 (by omega) (g := (mkF m 227 #[vr u, vi lab, vi sup, vi (Int32.ofNat k), vi (Int32.ofNat gn), .unset] [(.long (0 : Int64)), (.int (Int32.ofNat gn)), (.ref ms)])) rfl rfl (hb hby dK_227)
    have O27 := O27'
    have N27 := Fr.snoc X27 N23 g_ms
    have Z27 : n0 ≤ h27.size := Nat.le_trans Z23 (Keep.of_wr W27).1
    have K27 : Keep h0 h27 [u, fs, lb, sb, bl, qs, ms, pv, nx, fb] := K23.wr W27 (Or.inl (List.mem_of_getElem? (i := 6) rfl))
    obtain ⟨lo27, X27, N27⟩ : ∃ L, Stand p l e ({ frames := 0, cells := 0, slots := 0, locals := 0 } : Room) s m #[(.ref u), (.int lab), (.int sup), (.int (Int32.ofNat k))] below meth c T27 L 0 0 ∧ Fr n0 L := ⟨_, X27, N27⟩
    refine OGo.st (fun t kk => st27 t kk) ?_
    show OGo p e below _ (T27.setTop (mkF m 228 #[vr u, vi lab, vi sup, vi (Int32.ofNat k), vi (Int32.ofNat gn), .unset] []))
    refine OGo.st (fun t kk => XS.aloadN X27.here hx rfl (hb hby dK_228) rfl rfl kk) ?_
    show OGo p e below _ (T27.setTop (mkF m 229 #[vr u, vi lab, vi sup, vi (Int32.ofNat k), vi (Int32.ofNat gn), .unset] [(.ref u)]))
    have c29 := (((((((F0_firstOfBlock.other W3 (Or.inr (slot_ne (Or.inl (hw _ (List.mem_of_getElem? (i := 16) rfl))) (Or.inl (hw _ (List.mem_of_getElem? (i := 61) rfl))) (by decide) (t := (.array .int)) (t' := .int) (by decide) (by decide)))).other W8 (Or.inl n_u_fs)).other W11 (Or.inl n_u_lb)).other W15 (Or.inl n_u_sb)).other W19 (Or.inl n_u_bl)).other W23 (Or.inl n_u_qs)).other W27 (Or.inl n_u_ms))
    obtain ⟨T30, X30, e30, st30⟩ := getF X27 hx hZ hown (host := "") (Or.inl (hw _ (List.mem_of_getElem? (i := 15) rfl))) Via.refl e27 c29 (g := (mkF m 229 #[vr u, vi lab, vi sup, vi (Int32.ofNat k), vi (Int32.ofNat gn), .unset] [(.ref u)])) rfl rfl (hb hby dK_229)
    refine OGo.st (fun t kk => st30 t kk) ?_
    show OGo p e below _ (T30.setTop (mkF m 232 #[vr u, vi lab, vi sup, vi (Int32.ofNat k), vi (Int32.ofNat gn), .unset] [(.ref fb)]))
    refine OGo.st (fun t kk => XS.iloadN X30.here hx rfl (hb hby dK_232) rfl kk) ?_
    show OGo p e below _ (T30.setTop (mkF m 233 #[vr u, vi lab, vi sup, vi (Int32.ofNat k), vi (Int32.ofNat gn), .unset] [(.int (Int32.ofNat k)), (.ref fb)]))
    have c31 := (((((((O_fb.other W3 (Ne.symm n_u_fb)).other W8 n_fb_fs).other W11 n_fb_lb).other W15 n_fb_sb).other W19 n_fb_bl).other W23 n_fb_qs).other W27 n_fb_ms)
    refine OGo.st (fun t kk => OA.ldI X30 hx hZ e30 c31 (j := (Int32.ofNat k)) (k := k) (own_nat (show k < 1000 by omega)).1 (own_nat (show k < 1000 by omega)).2 (by omega) (g := (mkF m 233 #[vr u, vi lab, vi sup, vi (Int32.ofNat k), vi (Int32.ofNat gn), .unset] [(.int (Int32.ofNat k)), (.ref fb)])) rfl rfl (hb hby dK_233) t kk) ?_
    show OGo p e below _ (T30.setTop (mkF m 234 #[vr u, vi lab, vi sup, vi (Int32.ofNat k), vi (Int32.ofNat gn), .unset] [(.int (ffb k))]))
    rw [hf1]
    show OGo p e below _ (T30.setTop (mkF m 234 #[vr u, vi lab, vi sup, vi (Int32.ofNat k), vi (Int32.ofNat gn), .unset] [(.int (-1 : Int32))]))
    refine OGo.st (fun t kk => XS.istore X30.here hx rfl (hb hby dK_234) rfl (l' := #[vr u, vi lab, vi sup, vi (Int32.ofNat k), vi (Int32.ofNat gn), vi (-1 : Int32)]) rfl kk) ?_
    show OGo p e below _ (T30.setTop (mkF m 236 #[vr u, vi lab, vi sup, vi (Int32.ofNat k), vi (Int32.ofNat gn), vi (-1 : Int32)] []))
    refine OGo.st (fun t kk => XS.aloadN X30.here hx rfl (hb hby dK_236) rfl rfl kk) ?_
    show OGo p e below _ (T30.setTop (mkF m 237 #[vr u, vi lab, vi sup, vi (Int32.ofNat k), vi (Int32.ofNat gn), vi (-1 : Int32)] [(.ref u)]))
    have c32 := (((((((F0_previous.other W3 (Or.inr (slot_ne (Or.inl (hw _ (List.mem_of_getElem? (i := 41) rfl))) (Or.inl (hw _ (List.mem_of_getElem? (i := 61) rfl))) (by decide) (t := (.array .int)) (t' := .int) (by decide) (by decide)))).other W8 (Or.inl n_u_fs)).other W11 (Or.inl n_u_lb)).other W15 (Or.inl n_u_sb)).other W19 (Or.inl n_u_bl)).other W23 (Or.inl n_u_qs)).other W27 (Or.inl n_u_ms))
    obtain ⟨T33, X33, e33, st33⟩ := getF X30 hx hZ hown (host := "") (Or.inl (hw _ (List.mem_of_getElem? (i := 40) rfl))) Via.refl e30 c32 (g := (mkF m 237 #[vr u, vi lab, vi sup, vi (Int32.ofNat k), vi (Int32.ofNat gn), vi (-1 : Int32)] [(.ref u)])) rfl rfl (hb hby dK_237)
    refine OGo.st (fun t kk => st33 t kk) ?_
    show OGo p e below _ (T33.setTop (mkF m 240 #[vr u, vi lab, vi sup, vi (Int32.ofNat k), vi (Int32.ofNat gn), vi (-1 : Int32)] [(.ref pv)]))
    refine OGo.st (fun t kk => XS.iload X33.here hx rfl (hb hby dK_240) rfl kk) ?_
    show OGo p e below _ (T33.setTop (mkF m 242 #[vr u, vi lab, vi sup, vi (Int32.ofNat k), vi (Int32.ofNat gn), vi (-1 : Int32)] [(.int (Int32.ofNat gn)), (.ref pv)]))
    refine OGo.st (fun t kk => XS.iconst X33.here hx rfl (hb hby dK_242) kk) ?_
    show OGo p e below _ (T33.setTop (mkF m 243 #[vr u, vi lab, vi sup, vi (Int32.ofNat k), vi (Int32.ofNat gn), vi (-1 : Int32)] [(.int (-1 : Int32)), (.int (Int32.ofNat gn)), (.ref pv)]))
    have c35 := (((((((O_pv.other W3 (Ne.symm n_u_pv)).other W8 (Ne.symm n_fs_pv)).other W11 (Ne.symm n_lb_pv)).other W15 (Ne.symm n_sb_pv)).other W19 (Ne.symm n_bl_pv)).other W23 n_pv_qs).other W27 n_pv_ms)
    obtain ⟨T34, h34, X34, e34, W34, O34', st34⟩ := OA.stI X33 hx hZ e33 c35 (j := (Int32.ofNat gn)) (x := (-1 : Int32)) (k := gn) (own_nat (show gn < 1000 by omega)).1 (own_nat (show gn < 1000 by omega)).2 (by omega) (g := (mkF m 243 #[vr u, vi lab, vi sup, vi (Int32.ofNat k), vi (Int32.ofNat gn), vi (-1 : Int32)] [(.int (-1 : Int32)), (.int (Int32.ofNat gn)), (.ref pv)])) rfl rfl (hb hby dK_243)
    have O34 := O34'
    have N34 := Fr.snoc X34 N27 g_pv
    have Z34 : n0 ≤ h34.size := Nat.le_trans Z27 (Keep.of_wr W34).1
    have K34 : Keep h0 h34 [u, fs, lb, sb, bl, qs, ms, pv, nx, fb] := K27.wr W34 (Or.inl (List.mem_of_getElem? (i := 7) rfl))
    obtain ⟨lo34, X34, N34⟩ : ∃ L, Stand p l e ({ frames := 0, cells := 0, slots := 0, locals := 0 } : Room) s m #[(.ref u), (.int lab), (.int sup), (.int (Int32.ofNat k))] below meth c T34 L 0 0 ∧ Fr n0 L := ⟨_, X34, N34⟩
    refine OGo.st (fun t kk => st34 t kk) ?_
    show OGo p e below _ (T34.setTop (mkF m 244 #[vr u, vi lab, vi sup, vi (Int32.ofNat k), vi (Int32.ofNat gn), vi (-1 : Int32)] []))
    refine OGo.st (fun t kk => XS.aloadN X34.here hx rfl (hb hby dK_244) rfl rfl kk) ?_
    show OGo p e below _ (T34.setTop (mkF m 245 #[vr u, vi lab, vi sup, vi (Int32.ofNat k), vi (Int32.ofNat gn), vi (-1 : Int32)] [(.ref u)]))
    have c36 := ((((((((F0_next.other W3 (Or.inr (slot_ne (Or.inl (hw _ (List.mem_of_getElem? (i := 43) rfl))) (Or.inl (hw _ (List.mem_of_getElem? (i := 61) rfl))) (by decide) (t := (.array .int)) (t' := .int) (by decide) (by decide)))).other W8 (Or.inl n_u_fs)).other W11 (Or.inl n_u_lb)).other W15 (Or.inl n_u_sb)).other W19 (Or.inl n_u_bl)).other W23 (Or.inl n_u_qs)).other W27 (Or.inl n_u_ms)).other W34 (Or.inl n_u_pv))
    obtain ⟨T37, X37, e37, st37⟩ := getF X34 hx hZ hown (host := "") (Or.inl (hw _ (List.mem_of_getElem? (i := 42) rfl))) Via.refl e34 c36 (g := (mkF m 245 #[vr u, vi lab, vi sup, vi (Int32.ofNat k), vi (Int32.ofNat gn), vi (-1 : Int32)] [(.ref u)])) rfl rfl (hb hby dK_245)
    refine OGo.st (fun t kk => st37 t kk) ?_
    show OGo p e below _ (T37.setTop (mkF m 248 #[vr u, vi lab, vi sup, vi (Int32.ofNat k), vi (Int32.ofNat gn), vi (-1 : Int32)] [(.ref nx)]))
    refine OGo.st (fun t kk => XS.iload X37.here hx rfl (hb hby dK_248) rfl kk) ?_
    show OGo p e below _ (T37.setTop (mkF m 250 #[vr u, vi lab, vi sup, vi (Int32.ofNat k), vi (Int32.ofNat gn), vi (-1 : Int32)] [(.int (Int32.ofNat gn)), (.ref nx)]))
    refine OGo.st (fun t kk => XS.iload X37.here hx rfl (hb hby dK_250) rfl kk) ?_
    show OGo p e below _ (T37.setTop (mkF m 252 #[vr u, vi lab, vi sup, vi (Int32.ofNat k), vi (Int32.ofNat gn), vi (-1 : Int32)] [(.int (-1 : Int32)), (.int (Int32.ofNat gn)), (.ref nx)]))
    have c39 := ((((((((O_nx.other W3 (Ne.symm n_u_nx)).other W8 (Ne.symm n_fs_nx)).other W11 (Ne.symm n_lb_nx)).other W15 (Ne.symm n_sb_nx)).other W19 (Ne.symm n_bl_nx)).other W23 n_nx_qs).other W27 n_nx_ms).other W34 (Ne.symm n_pv_nx))
    obtain ⟨T38, h38, X38, e38, W38, O38', st38⟩ := OA.stI X37 hx hZ e37 c39 (j := (Int32.ofNat gn)) (x := (-1 : Int32)) (k := gn) (own_nat (show gn < 1000 by omega)).1 (own_nat (show gn < 1000 by omega)).2 (by omega) (g := (mkF m 252 #[vr u, vi lab, vi sup, vi (Int32.ofNat k), vi (Int32.ofNat gn), vi (-1 : Int32)] [(.int (-1 : Int32)), (.int (Int32.ofNat gn)), (.ref nx)])) rfl rfl (hb hby dK_252)
    have O38 := O38'
    have N38 := Fr.snoc X38 N34 g_nx
    have Z38 : n0 ≤ h38.size := Nat.le_trans Z34 (Keep.of_wr W38).1
    have K38 : Keep h0 h38 [u, fs, lb, sb, bl, qs, ms, pv, nx, fb] := K34.wr W38 (Or.inl (List.mem_of_getElem? (i := 8) rfl))
    obtain ⟨lo38, X38, N38⟩ : ∃ L, Stand p l e ({ frames := 0, cells := 0, slots := 0, locals := 0 } : Room) s m #[(.ref u), (.int lab), (.int sup), (.int (Int32.ofNat k))] below meth c T38 L 0 0 ∧ Fr n0 L := ⟨_, X38, N38⟩
    refine OGo.st (fun t kk => st38 t kk) ?_
    show OGo p e below _ (T38.setTop (mkF m 253 #[vr u, vi lab, vi sup, vi (Int32.ofNat k), vi (Int32.ofNat gn), vi (-1 : Int32)] []))
    refine OGo.st (fun t kk => XS.iload X38.here hx rfl (hb hby dK_253) rfl kk) ?_
    show OGo p e below _ (T38.setTop (mkF m 255 #[vr u, vi lab, vi sup, vi (Int32.ofNat k), vi (Int32.ofNat gn), vi (-1 : Int32)] [(.int (-1 : Int32))]))
    refine OGo.st (fun t kk => XS.iconst X38.here hx rfl (hb hby dK_255) kk) ?_
    show OGo p e below _ (T38.setTop (mkF m 256 #[vr u, vi lab, vi sup, vi (Int32.ofNat k), vi (Int32.ofNat gn), vi (-1 : Int32)] [(.int (-1 : Int32)), (.int (-1 : Int32))]))
    refine OGo.st (fun t kk => XS.icmpYes X38.here hx rfl (pc0 := 256) (pc' := 268) rfl (hb hby dK_256) rfl (teq (by decide : ((-1 : Int32) = (-1 : Int32)))).1 (by decide) (by decide) kk) ?_
    show OGo p e below _ (T38.setTop (mkF m 268 #[vr u, vi lab, vi sup, vi (Int32.ofNat k), vi (Int32.ofNat gn), vi (-1 : Int32)] []))
    refine OGo.st (fun t kk => XS.aloadN X38.here hx rfl (hb hby dK_268) rfl rfl kk) ?_
    show OGo p e below _ (T38.setTop (mkF m 269 #[vr u, vi lab, vi sup, vi (Int32.ofNat k), vi (Int32.ofNat gn), vi (-1 : Int32)] [(.ref u)]))
    have c40 := ((c29.other W34 (Or.inl n_u_pv)).other W38 (Or.inl n_u_nx))
    obtain ⟨T41, X41, e41, st41⟩ := getF X38 hx hZ hown (host := "") (Or.inl (hw _ (List.mem_of_getElem? (i := 15) rfl))) Via.refl e38 c40 (g := (mkF m 269 #[vr u, vi lab, vi sup, vi (Int32.ofNat k), vi (Int32.ofNat gn), vi (-1 : Int32)] [(.ref u)])) rfl rfl (hb hby dK_269)
    refine OGo.st (fun t kk => st41 t kk) ?_
    show OGo p e below _ (T41.setTop (mkF m 272 #[vr u, vi lab, vi sup, vi (Int32.ofNat k), vi (Int32.ofNat gn), vi (-1 : Int32)] [(.ref fb)]))
    refine OGo.st (fun t kk => XS.iloadN X41.here hx rfl (hb hby dK_272) rfl kk) ?_
    show OGo p e below _ (T41.setTop (mkF m 273 #[vr u, vi lab, vi sup, vi (Int32.ofNat k), vi (Int32.ofNat gn), vi (-1 : Int32)] [(.int (Int32.ofNat k)), (.ref fb)]))
    refine OGo.st (fun t kk => XS.iload X41.here hx rfl (hb hby dK_273) rfl kk) ?_
    show OGo p e below _ (T41.setTop (mkF m 275 #[vr u, vi lab, vi sup, vi (Int32.ofNat k), vi (Int32.ofNat gn), vi (-1 : Int32)] [(.int (Int32.ofNat gn)), (.int (Int32.ofNat k)), (.ref fb)]))
    have c43 := ((c31.other W34 n_fb_pv).other W38 n_fb_nx)
    obtain ⟨T42, h42, X42, e42, W42, O42', st42⟩ := OA.stI X41 hx hZ e41 c43 (j := (Int32.ofNat k)) (x := (Int32.ofNat gn)) (k := k) (own_nat (show k < 1000 by omega)).1 (own_nat (show k < 1000 by omega)).2 (by omega) (g := (mkF m 275 #[vr u, vi lab, vi sup, vi (Int32.ofNat k), vi (Int32.ofNat gn), vi (-1 : Int32)] [(.int (Int32.ofNat gn)), (.int (Int32.ofNat k)), (.ref fb)])) rfl rfl (hb hby dK_275)
    have O42 := O42'
    have N42 := Fr.snoc X42 N38 g_fb
    have Z42 : n0 ≤ h42.size := Nat.le_trans Z38 (Keep.of_wr W42).1
    have K42 : Keep h0 h42 [u, fs, lb, sb, bl, qs, ms, pv, nx, fb] := K38.wr W42 (Or.inl (List.mem_of_getElem? (i := 9) rfl))
    obtain ⟨lo42, X42, N42⟩ : ∃ L, Stand p l e ({ frames := 0, cells := 0, slots := 0, locals := 0 } : Room) s m #[(.ref u), (.int lab), (.int sup), (.int (Int32.ofNat k))] below meth c T42 L 0 0 ∧ Fr n0 L := ⟨_, X42, N42⟩
    refine OGo.st (fun t kk => st42 t kk) ?_
    show OGo p e below _ (T42.setTop (mkF m 276 #[vr u, vi lab, vi sup, vi (Int32.ofNat k), vi (Int32.ofNat gn), vi (-1 : Int32)] []))
    refine OGo.st (fun t kk => XS.iload X42.here hx rfl (hb hby dK_276) rfl kk) ?_
    show OGo p e below _ (T42.setTop (mkF m 278 #[vr u, vi lab, vi sup, vi (Int32.ofNat k), vi (Int32.ofNat gn), vi (-1 : Int32)] [(.int (Int32.ofNat gn))]))
    have c44 := ((((((((((E0.wr W3).wr W8).wr W11).wr W15).wr W19).wr W23).wr W27).wr W34).wr W38).wr W42)
    have c45 := ((((((((((F0_emptied.other W3 (Or.inr (slot_ne (Or.inl (hw _ (List.mem_of_getElem? (i := 12) rfl))) (Or.inl (hw _ (List.mem_of_getElem? (i := 61) rfl))) (by decide) (t := (.array .int)) (t' := .int) (by decide) (by decide)))).other W8 (Or.inl n_u_fs)).other W11 (Or.inl n_u_lb)).other W15 (Or.inl n_u_sb)).other W19 (Or.inl n_u_bl)).other W23 (Or.inl n_u_qs)).other W27 (Or.inl n_u_ms)).other W34 (Or.inl n_u_pv)).other W38 (Or.inl n_u_nx)).other W42 (Or.inl n_u_fb))
    have c46 := ((((((((((F0_free.other W3 (Or.inr (slot_ne (Or.inl (hw _ (List.mem_of_getElem? (i := 14) rfl))) (Or.inl (hw _ (List.mem_of_getElem? (i := 61) rfl))) (by decide) (t := (.array .int)) (t' := .int) (by decide) (by decide)))).other W8 (Or.inl n_u_fs)).other W11 (Or.inl n_u_lb)).other W15 (Or.inl n_u_sb)).other W19 (Or.inl n_u_bl)).other W23 (Or.inl n_u_qs)).other W27 (Or.inl n_u_ms)).other W34 (Or.inl n_u_pv)).other W38 (Or.inl n_u_nx)).other W42 (Or.inl n_u_fb))
    have c47 := (c40.other W42 (Or.inl n_u_fb))
    have c48 := ((((((((((F0_groupOf.other W3 (Or.inr (slot_ne (Or.inr (hw _ (List.mem_of_getElem? (i := 23) rfl))) (Or.inl (hw _ (List.mem_of_getElem? (i := 61) rfl))) (by decide) (t := (.array .int)) (t' := .int) (by decide) (by decide)))).other W8 (Or.inl n_u_fs)).other W11 (Or.inl n_u_lb)).other W15 (Or.inl n_u_sb)).other W19 (Or.inl n_u_bl)).other W23 (Or.inl n_u_qs)).other W27 (Or.inl n_u_ms)).other W34 (Or.inl n_u_pv)).other W38 (Or.inl n_u_nx)).other W42 (Or.inl n_u_fb))
    have c49 := ((((((((((F0_previousStep.other W3 (Or.inr (slot_ne (Or.inr (hw _ (List.mem_of_getElem? (i := 25) rfl))) (Or.inl (hw _ (List.mem_of_getElem? (i := 61) rfl))) (by decide) (t := (.array .int)) (t' := .int) (by decide) (by decide)))).other W8 (Or.inl n_u_fs)).other W11 (Or.inl n_u_lb)).other W15 (Or.inl n_u_sb)).other W19 (Or.inl n_u_bl)).other W23 (Or.inl n_u_qs)).other W27 (Or.inl n_u_ms)).other W34 (Or.inl n_u_pv)).other W38 (Or.inl n_u_nx)).other W42 (Or.inl n_u_fb))
    have c50 := ((((((((((F0_nextStep.other W3 (Or.inr (slot_ne (Or.inr (hw _ (List.mem_of_getElem? (i := 27) rfl))) (Or.inl (hw _ (List.mem_of_getElem? (i := 61) rfl))) (by decide) (t := (.array .int)) (t' := .int) (by decide) (by decide)))).other W8 (Or.inl n_u_fs)).other W11 (Or.inl n_u_lb)).other W15 (Or.inl n_u_sb)).other W19 (Or.inl n_u_bl)).other W23 (Or.inl n_u_qs)).other W27 (Or.inl n_u_ms)).other W34 (Or.inl n_u_pv)).other W38 (Or.inl n_u_nx)).other W42 (Or.inl n_u_fb))
    have c51 := (((((((((c4.other W8 (Or.inl n_u_fs)).other W11 (Or.inl n_u_lb)).other W15 (Or.inl n_u_sb)).other W19 (Or.inl n_u_bl)).other W23 (Or.inl n_u_qs)).other W27 (Or.inl n_u_ms)).other W34 (Or.inl n_u_pv)).other W38 (Or.inl n_u_nx)).other W42 (Or.inl n_u_fb))
    have c52 := ((((((((c9.other W11 (Or.inl n_u_lb)).other W15 (Or.inl n_u_sb)).other W19 (Or.inl n_u_bl)).other W23 (Or.inl n_u_qs)).other W27 (Or.inl n_u_ms)).other W34 (Or.inl n_u_pv)).other W38 (Or.inl n_u_nx)).other W42 (Or.inl n_u_fb))
    have c53 := (((((((c13.other W15 (Or.inl n_u_sb)).other W19 (Or.inl n_u_bl)).other W23 (Or.inl n_u_qs)).other W27 (Or.inl n_u_ms)).other W34 (Or.inl n_u_pv)).other W38 (Or.inl n_u_nx)).other W42 (Or.inl n_u_fb))
    have c54 := ((((((c17.other W19 (Or.inl n_u_bl)).other W23 (Or.inl n_u_qs)).other W27 (Or.inl n_u_ms)).other W34 (Or.inl n_u_pv)).other W38 (Or.inl n_u_nx)).other W42 (Or.inl n_u_fb))
    have c55 := (((c32.other W34 (Or.inl n_u_pv)).other W38 (Or.inl n_u_nx)).other W42 (Or.inl n_u_fb))
    have c56 := ((c36.other W38 (Or.inl n_u_nx)).other W42 (Or.inl n_u_fb))
    have c57 := ((((((((((F0_partner.other W3 (Or.inr (slot_ne (Or.inl (hw _ (List.mem_of_getElem? (i := 45) rfl))) (Or.inl (hw _ (List.mem_of_getElem? (i := 61) rfl))) (by decide) (t := (.array .int)) (t' := .int) (by decide) (by decide)))).other W8 (Or.inl n_u_fs)).other W11 (Or.inl n_u_lb)).other W15 (Or.inl n_u_sb)).other W19 (Or.inl n_u_bl)).other W23 (Or.inl n_u_qs)).other W27 (Or.inl n_u_ms)).other W34 (Or.inl n_u_pv)).other W38 (Or.inl n_u_nx)).other W42 (Or.inl n_u_fb))
    have c58 := (((((c21.other W23 (Or.inl n_u_qs)).other W27 (Or.inl n_u_ms)).other W34 (Or.inl n_u_pv)).other W38 (Or.inl n_u_nx)).other W42 (Or.inl n_u_fb))
    have c59 := ((((c25.other W27 (Or.inl n_u_ms)).other W34 (Or.inl n_u_pv)).other W38 (Or.inl n_u_nx)).other W42 (Or.inl n_u_fb))
    have c60 := (((((((((Fw3.other W8 (Or.inl n_u_fs)).other W11 (Or.inl n_u_lb)).other W15 (Or.inl n_u_sb)).other W19 (Or.inl n_u_bl)).other W23 (Or.inl n_u_qs)).other W27 (Or.inl n_u_ms)).other W34 (Or.inl n_u_pv)).other W38 (Or.inl n_u_nx)).other W42 (Or.inl n_u_fb))
    have c61 := ((((((((((F0_emptiedCount.other W3 (Or.inr (slot_ne (Or.inl (hw _ (List.mem_of_getElem? (i := 72) rfl))) (Or.inl (hw _ (List.mem_of_getElem? (i := 61) rfl))) (by decide) (t := .int) (t' := .int) (by decide) (by decide)))).other W8 (Or.inl n_u_fs)).other W11 (Or.inl n_u_lb)).other W15 (Or.inl n_u_sb)).other W19 (Or.inl n_u_bl)).other W23 (Or.inl n_u_qs)).other W27 (Or.inl n_u_ms)).other W34 (Or.inl n_u_pv)).other W38 (Or.inl n_u_nx)).other W42 (Or.inl n_u_fb))
    have c62 := ((((((((((F0_freeCount.other W3 (Or.inr (slot_ne (Or.inl (hw _ (List.mem_of_getElem? (i := 59) rfl))) (Or.inl (hw _ (List.mem_of_getElem? (i := 61) rfl))) (by decide) (t := .int) (t' := .int) (by decide) (by decide)))).other W8 (Or.inl n_u_fs)).other W11 (Or.inl n_u_lb)).other W15 (Or.inl n_u_sb)).other W19 (Or.inl n_u_bl)).other W23 (Or.inl n_u_qs)).other W27 (Or.inl n_u_ms)).other W34 (Or.inl n_u_pv)).other W38 (Or.inl n_u_nx)).other W42 (Or.inl n_u_fb))
    have c63 := ((((((((((F0_stamp.other W3 (Or.inr (slot_ne (Or.inl (hw _ (List.mem_of_getElem? (i := 74) rfl))) (Or.inl (hw _ (List.mem_of_getElem? (i := 61) rfl))) (by decide) (t := .long) (t' := .int) (by decide) (by decide)))).other W8 (Or.inl n_u_fs)).other W11 (Or.inl n_u_lb)).other W15 (Or.inl n_u_sb)).other W19 (Or.inl n_u_bl)).other W23 (Or.inl n_u_qs)).other W27 (Or.inl n_u_ms)).other W34 (Or.inl n_u_pv)).other W38 (Or.inl n_u_nx)).other W42 (Or.inl n_u_fb))
    have c64 := ((((((((O8.other W11 n_fs_lb).other W15 n_fs_sb).other W19 n_fs_bl).other W23 n_fs_qs).other W27 n_fs_ms).other W34 n_fs_pv).other W38 n_fs_nx).other W42 (Ne.symm n_fb_fs))
    have c65 := (((((((O11.other W15 n_lb_sb).other W19 n_lb_bl).other W23 n_lb_qs).other W27 n_lb_ms).other W34 n_lb_pv).other W38 n_lb_nx).other W42 (Ne.symm n_fb_lb))
    have c66 := ((((((O15.other W19 n_sb_bl).other W23 n_sb_qs).other W27 n_sb_ms).other W34 n_sb_pv).other W38 n_sb_nx).other W42 (Ne.symm n_fb_sb))
    have c67 := (((((O19.other W23 n_bl_qs).other W27 n_bl_ms).other W34 n_bl_pv).other W38 n_bl_nx).other W42 (Ne.symm n_fb_bl))
    have c68 := ((((O23.other W27 n_qs_ms).other W34 (Ne.symm n_pv_qs)).other W38 (Ne.symm n_nx_qs)).other W42 (Ne.symm n_fb_qs))
    have c69 := (((O27.other W34 (Ne.symm n_pv_ms)).other W38 (Ne.symm n_nx_ms)).other W42 (Ne.symm n_fb_ms))
    have c70 := ((O34.other W38 n_pv_nx).other W42 (Ne.symm n_fb_pv))
    have c71 := (O38.other W42 (Ne.symm n_fb_nx))
    refine OGo.outI X42 hx Bd.returns Bd.notSynchronized (hb hby dK_278) ?_ (by decide) (by decide)
    rw [e42]
    exact ⟨rfl, N42, Z42, K42, ⟨c44, c45, c46, c47, c48, c49, c50, c51, c52, c53, c54, c55, c56, c57, c58, c59, c60, c61, c62, c63⟩, c64, c65, c66, c67, c68, c69, c70, c71, O42⟩
  · rw [show mkPv fpv gn (ffb k) = oset (oset fpv gn (-1)) 0 (Int32.ofNat gn) from if_neg (by rw [hf1]; decide), hf1]
    refine OGo.st (fun t kk => XS.aloadN X0.here hx rfl (hb hby dK_0) rfl rfl kk) ?_
    show OGo p e below _ (s₁.setTop (mkF m 1 #[vr u, vi lab, vi sup, vi (Int32.ofNat k), .unset, .unset] [(.ref u)]))
    obtain ⟨T72, X72, e72, st72⟩ := getF X0 hx hZ hown (host := "") (Or.inl (hw _ (List.mem_of_getElem? (i := 58) rfl))) Via.refl e0 F0_freeCount (g := (mkF m 1 #[vr u, vi lab, vi sup, vi (Int32.ofNat k), .unset, .unset] [(.ref u)])) rfl rfl (hb hby dK_1)
    refine OGo.st (fun t kk => st72 t kk) ?_
    show OGo p e below _ (T72.setTop (mkF m 4 #[vr u, vi lab, vi sup, vi (Int32.ofNat k), .unset, .unset] [(.int (0 : Int32))]))
    refine OGo.st (fun t kk => XS.ifYes X72.here hx rfl (pc0 := 4) (pc' := 28) rfl (hb hby dK_4) rfl ((if0 _ _).trans (flt (by decide : ¬ ((0 : Int32) < (0 : Int32)))).2.2.2) (by decide) (by decide) kk) ?_
    show OGo p e below _ (T72.setTop (mkF m 28 #[vr u, vi lab, vi sup, vi (Int32.ofNat k), .unset, .unset] []))
    refine OGo.st (fun t kk => XS.aloadN X72.here hx rfl (hb hby dK_28) rfl rfl kk) ?_
    show OGo p e below _ (T72.setTop (mkF m 29 #[vr u, vi lab, vi sup, vi (Int32.ofNat k), .unset, .unset] [(.ref u)]))
    refine OGo.st (fun t kk => XS.dup X72.here hx rfl (hb hby dK_29) rfl rfl kk) ?_
    show OGo p e below _ (T72.setTop (mkF m 30 #[vr u, vi lab, vi sup, vi (Int32.ofNat k), .unset, .unset] [(.ref u), (.ref u)]))
    obtain ⟨T73, X73, e73, st73⟩ := getF X72 hx hZ hown (host := "") (Or.inl (hw _ (List.mem_of_getElem? (i := 60) rfl))) Via.refl e72 F0_groupCount (g := (mkF m 30 #[vr u, vi lab, vi sup, vi (Int32.ofNat k), .unset, .unset] [(.ref u), (.ref u)])) rfl rfl (hb hby dK_30)
    refine OGo.st (fun t kk => st73 t kk) ?_
    show OGo p e below _ (T73.setTop (mkF m 33 #[vr u, vi lab, vi sup, vi (Int32.ofNat k), .unset, .unset] [(.int (Int32.ofNat gn)), (.ref u)]))
    refine OGo.st (fun t kk => XS.dupX1 X73.here hx rfl (hb hby dK_33) rfl rfl rfl kk) ?_
    show OGo p e below _ (T73.setTop (mkF m 34 #[vr u, vi lab, vi sup, vi (Int32.ofNat k), .unset, .unset] [(.int (Int32.ofNat gn)), (.ref u), (.int (Int32.ofNat gn))]))
    refine OGo.st (fun t kk => XS.iconst X73.here hx rfl (hb hby dK_34) kk) ?_
    show OGo p e below _ (T73.setTop (mkF m 35 #[vr u, vi lab, vi sup, vi (Int32.ofNat k), .unset, .unset] [(.int (1 : Int32)), (.int (Int32.ofNat gn)), (.ref u), (.int (Int32.ofNat gn))]))
    refine OGo.st (fun t kk => XS.iadd X73.here hx rfl (hb hby dK_35) rfl kk) ?_
    show OGo p e below _ (T73.setTop (mkF m 36 #[vr u, vi lab, vi sup, vi (Int32.ofNat k), .unset, .unset] [(.int ((Int32.ofNat gn) + (1 : Int32))), (.ref u), (.int (Int32.ofNat gn))]))
    rw [own_inc gn]
    show OGo p e below _ (T73.setTop (mkF m 36 #[vr u, vi lab, vi sup, vi (Int32.ofNat k), .unset, .unset] [(.int (Int32.ofNat (gn + 1))), (.ref u), (.int (Int32.ofNat gn))]))
    obtain ⟨T74, h74, X74, e74, W74, st74⟩ := putF X73 hx hZ hown (host := "") (Or.inl (hw _ (List.mem_of_getElem? (i := 60) rfl))) Via.refl e73 F0_groupCount E0 (Or.inl (hw _ (List.mem_of_getElem? (i := 61) rfl))) (hw _ (List.mem_of_getElem? (i := 2) rfl)) (ty := .int) (by decide) rfl rfl (g := (mkF m 36 #[vr u, vi lab, vi sup, vi (Int32.ofNat k), .unset, .unset] [(.int (Int32.ofNat (gn + 1))), (.ref u), (.int (Int32.ofNat gn))])) rfl rfl (hb hby dK_36)
    have Fw74 := F0_groupCount.same W74
    have N74 := Fr.snoc X74 N0 gu
    have Z74 : n0 ≤ h74.size := Nat.le_trans Z0 (Keep.of_wr W74).1
    have K74 : Keep h0 h74 [u, fs, lb, sb, bl, qs, ms, pv, nx, fb] := (Keep.refl h0 _).wr W74 (Or.inl (List.mem_of_getElem? (i := 0) rfl))
    obtain ⟨lo74, X74, N74⟩ : ∃ L, Stand p l e ({ frames := 0, cells := 0, slots := 0, locals := 0 } : Room) s m #[(.ref u), (.int lab), (.int sup), (.int (Int32.ofNat k))] below meth c T74 L 0 0 ∧ Fr n0 L := ⟨_, X74, N74⟩
    refine OGo.st (fun t kk => st74 t kk) ?_
    show OGo p e below _ (T74.setTop (mkF m 39 #[vr u, vi lab, vi sup, vi (Int32.ofNat k), .unset, .unset] [(.int (Int32.ofNat gn))]))
    refine OGo.st (fun t kk => XS.istore X74.here hx rfl (hb hby dK_39) rfl (l' := #[vr u, vi lab, vi sup, vi (Int32.ofNat k), vi (Int32.ofNat gn), .unset]) rfl kk) ?_
    show OGo p e below _ (T74.setTop (mkF m 41 #[vr u, vi lab, vi sup, vi (Int32.ofNat k), vi (Int32.ofNat gn), .unset] []))
    refine OGo.st (fun t kk => XS.iload X74.here hx rfl (hb hby dK_41) rfl kk) ?_
    show OGo p e below _ (T74.setTop (mkF m 43 #[vr u, vi lab, vi sup, vi (Int32.ofNat k), vi (Int32.ofNat gn), .unset] [(.int (Int32.ofNat gn))]))
    refine OGo.st (fun t kk => XS.aloadN X74.here hx rfl (hb hby dK_43) rfl rfl kk) ?_
    show OGo p e below _ (T74.setTop (mkF m 44 #[vr u, vi lab, vi sup, vi (Int32.ofNat k), vi (Int32.ofNat gn), .unset] [(.ref u), (.int (Int32.ofNat gn))]))
    have c75 := (F0_firstStep.other W74 (Or.inr (slot_ne (Or.inl (hw _ (List.mem_of_getElem? (i := 33) rfl))) (Or.inl (hw _ (List.mem_of_getElem? (i := 61) rfl))) (by decide) (t := (.array .int)) (t' := .int) (by decide) (by decide))))
    obtain ⟨T76, X76, e76, st76⟩ := getF X74 hx hZ hown (host := "") (Or.inl (hw _ (List.mem_of_getElem? (i := 32) rfl))) Via.refl e74 c75 (g := (mkF m 44 #[vr u, vi lab, vi sup, vi (Int32.ofNat k), vi (Int32.ofNat gn), .unset] [(.ref u), (.int (Int32.ofNat gn))])) rfl rfl (hb hby dK_44)
    refine OGo.st (fun t kk => st76 t kk) ?_
    show OGo p e below _ (T76.setTop (mkF m 47 #[vr u, vi lab, vi sup, vi (Int32.ofNat k), vi (Int32.ofNat gn), .unset] [(.ref fs), (.int (Int32.ofNat gn))]))
    have c77 := (O_fs.other W74 (Ne.symm n_u_fs))
    refine OGo.st (fun t kk => OA.len X76 hx hZ e76 c77 (z := (16 : Int32)) (by decide) (g := (mkF m 47 #[vr u, vi lab, vi sup, vi (Int32.ofNat k), vi (Int32.ofNat gn), .unset] [(.ref fs), (.int (Int32.ofNat gn))])) rfl rfl (hb hby dK_47) t kk) ?_
    show OGo p e below _ (T76.setTop (mkF m 48 #[vr u, vi lab, vi sup, vi (Int32.ofNat k), vi (Int32.ofNat gn), .unset] [(.int (16 : Int32)), (.int (Int32.ofNat gn))]))
    refine OGo.st (fun t kk => XS.icmpYes X76.here hx rfl (pc0 := 48) (pc' := 180) rfl (hb hby dK_48) rfl (feq (own_ne16 hgn)).2 (by decide) (by decide) kk) ?_
    show OGo p e below _ (T76.setTop (mkF m 180 #[vr u, vi lab, vi sup, vi (Int32.ofNat k), vi (Int32.ofNat gn), .unset] []))
    refine OGo.st (fun t kk => XS.aloadN X76.here hx rfl (hb hby dK_180) rfl rfl kk) ?_
    show OGo p e below _ (T76.setTop (mkF m 181 #[vr u, vi lab, vi sup, vi (Int32.ofNat k), vi (Int32.ofNat gn), .unset] [(.ref u)]))
    obtain ⟨T78, X78, e78, st78⟩ := getF X76 hx hZ hown (host := "") (Or.inl (hw _ (List.mem_of_getElem? (i := 32) rfl))) Via.refl e76 c75 (g := (mkF m 181 #[vr u, vi lab, vi sup, vi (Int32.ofNat k), vi (Int32.ofNat gn), .unset] [(.ref u)])) rfl rfl (hb hby dK_181)
    refine OGo.st (fun t kk => st78 t kk) ?_
    show OGo p e below _ (T78.setTop (mkF m 184 #[vr u, vi lab, vi sup, vi (Int32.ofNat k), vi (Int32.ofNat gn), .unset] [(.ref fs)]))
    refine OGo.st (fun t kk => XS.iload X78.here hx rfl (hb hby dK_184) rfl kk) ?_
    show OGo p e below _ (T78.setTop (mkF m 186 #[vr u, vi lab, vi sup, vi (Int32.ofNat k), vi (Int32.ofNat gn), .unset] [(.int (Int32.ofNat gn)), (.ref fs)]))
    refine OGo.st (fun t kk => XS.iconst X78.here hx rfl (hb hby dK_186) kk) ?_
    show OGo p e below _ (T78.setTop (mkF m 187 #[vr u, vi lab, vi sup, vi (Int32.ofNat k), vi (Int32.ofNat gn), .unset] [(.int (-1 : Int32)), (.int (Int32.ofNat gn)), (.ref fs)]))
    obtain ⟨T79, h79, X79, e79, W79, O79', st79⟩ := OA.stI X78 hx hZ e78 c77 (j := (Int32.ofNat gn)) (x := (-1 : Int32)) (k := gn) (own_nat (show gn < 1000 by omega)).1 (own_nat (show gn < 1000 by omega)).2 (by omega) (g := (mkF m 187 #[vr u, vi lab, vi sup, vi (Int32.ofNat k), vi (Int32.ofNat gn), .unset] [(.int (-1 : Int32)), (.int (Int32.ofNat gn)), (.ref fs)])) rfl rfl (hb hby dK_187)
    have O79 := O79'
    have N79 := Fr.snoc X79 N74 g_fs
    have Z79 : n0 ≤ h79.size := Nat.le_trans Z74 (Keep.of_wr W79).1
    have K79 : Keep h0 h79 [u, fs, lb, sb, bl, qs, ms, pv, nx, fb] := K74.wr W79 (Or.inl (List.mem_of_getElem? (i := 1) rfl))
    obtain ⟨lo79, X79, N79⟩ : ∃ L, Stand p l e ({ frames := 0, cells := 0, slots := 0, locals := 0 } : Room) s m #[(.ref u), (.int lab), (.int sup), (.int (Int32.ofNat k))] below meth c T79 L 0 0 ∧ Fr n0 L := ⟨_, X79, N79⟩
    refine OGo.st (fun t kk => st79 t kk) ?_
    show OGo p e below _ (T79.setTop (mkF m 188 #[vr u, vi lab, vi sup, vi (Int32.ofNat k), vi (Int32.ofNat gn), .unset] []))
    refine OGo.st (fun t kk => XS.aloadN X79.here hx rfl (hb hby dK_188) rfl rfl kk) ?_
    show OGo p e below _ (T79.setTop (mkF m 189 #[vr u, vi lab, vi sup, vi (Int32.ofNat k), vi (Int32.ofNat gn), .unset] [(.ref u)]))
    have c80 := ((F0_label.other W74 (Or.inr (slot_ne (Or.inl (hw _ (List.mem_of_getElem? (i := 35) rfl))) (Or.inl (hw _ (List.mem_of_getElem? (i := 61) rfl))) (by decide) (t := (.array .int)) (t' := .int) (by decide) (by decide)))).other W79 (Or.inl n_u_fs))
    obtain ⟨T81, X81, e81, st81⟩ := getF X79 hx hZ hown (host := "") (Or.inl (hw _ (List.mem_of_getElem? (i := 34) rfl))) Via.refl e79 c80 (g := (mkF m 189 #[vr u, vi lab, vi sup, vi (Int32.ofNat k), vi (Int32.ofNat gn), .unset] [(.ref u)])) rfl rfl (hb hby dK_189)
    refine OGo.st (fun t kk => st81 t kk) ?_
    show OGo p e below _ (T81.setTop (mkF m 192 #[vr u, vi lab, vi sup, vi (Int32.ofNat k), vi (Int32.ofNat gn), .unset] [(.ref lb)]))
    refine OGo.st (fun t kk => XS.iload X81.here hx rfl (hb hby dK_192) rfl kk) ?_
    show OGo p e below _ (T81.setTop (mkF m 194 #[vr u, vi lab, vi sup, vi (Int32.ofNat k), vi (Int32.ofNat gn), .unset] [(.int (Int32.ofNat gn)), (.ref lb)]))
    refine OGo.st (fun t kk => XS.iloadN X81.here hx rfl (hb hby dK_194) rfl kk) ?_
    show OGo p e below _ (T81.setTop (mkF m 195 #[vr u, vi lab, vi sup, vi (Int32.ofNat k), vi (Int32.ofNat gn), .unset] [(.int lab), (.int (Int32.ofNat gn)), (.ref lb)]))
    have c83 := ((O_lb.other W74 (Ne.symm n_u_lb)).other W79 (Ne.symm n_fs_lb))
    obtain ⟨T82, h82, X82, e82, W82, O82', st82⟩ := OA.stI X81 hx hZ e81 c83 (j := (Int32.ofNat gn)) (x := lab) (k := gn) (own_nat (show gn < 1000 by omega)).1 (own_nat (show gn < 1000 by omega)).2 (by omega) (g := (mkF m 195 #[vr u, vi lab, vi sup, vi (Int32.ofNat k), vi (Int32.ofNat gn), .unset] [(.int lab), (.int (Int32.ofNat gn)), (.ref lb)])) rfl rfl (hb hby dK_195)
    have O82 := O82'
    have N82 := Fr.snoc X82 N79 g_lb
    have Z82 : n0 ≤ h82.size := Nat.le_trans Z79 (Keep.of_wr W82).1
    have K82 : Keep h0 h82 [u, fs, lb, sb, bl, qs, ms, pv, nx, fb] := K79.wr W82 (Or.inl (List.mem_of_getElem? (i := 2) rfl))
    obtain ⟨lo82, X82, N82⟩ : ∃ L, Stand p l e ({ frames := 0, cells := 0, slots := 0, locals := 0 } : Room) s m #[(.ref u), (.int lab), (.int sup), (.int (Int32.ofNat k))] below meth c T82 L 0 0 ∧ Fr n0 L := ⟨_, X82, N82⟩
    refine OGo.st (fun t kk => st82 t kk) ?_
    show OGo p e below _ (T82.setTop (mkF m 196 #[vr u, vi lab, vi sup, vi (Int32.ofNat k), vi (Int32.ofNat gn), .unset] []))
    refine OGo.st (fun t kk => XS.aloadN X82.here hx rfl (hb hby dK_196) rfl rfl kk) ?_
    show OGo p e below _ (T82.setTop (mkF m 197 #[vr u, vi lab, vi sup, vi (Int32.ofNat k), vi (Int32.ofNat gn), .unset] [(.ref u)]))
    have c84 := (((F0_superBlock.other W74 (Or.inr (slot_ne (Or.inl (hw _ (List.mem_of_getElem? (i := 37) rfl))) (Or.inl (hw _ (List.mem_of_getElem? (i := 61) rfl))) (by decide) (t := (.array .int)) (t' := .int) (by decide) (by decide)))).other W79 (Or.inl n_u_fs)).other W82 (Or.inl n_u_lb))
    obtain ⟨T85, X85, e85, st85⟩ := getF X82 hx hZ hown (host := "") (Or.inl (hw _ (List.mem_of_getElem? (i := 36) rfl))) Via.refl e82 c84 (g := (mkF m 197 #[vr u, vi lab, vi sup, vi (Int32.ofNat k), vi (Int32.ofNat gn), .unset] [(.ref u)])) rfl rfl (hb hby dK_197)
    refine OGo.st (fun t kk => st85 t kk) ?_
    show OGo p e below _ (T85.setTop (mkF m 200 #[vr u, vi lab, vi sup, vi (Int32.ofNat k), vi (Int32.ofNat gn), .unset] [(.ref sb)]))
    refine OGo.st (fun t kk => XS.iload X85.here hx rfl (hb hby dK_200) rfl kk) ?_
    show OGo p e below _ (T85.setTop (mkF m 202 #[vr u, vi lab, vi sup, vi (Int32.ofNat k), vi (Int32.ofNat gn), .unset] [(.int (Int32.ofNat gn)), (.ref sb)]))
    refine OGo.st (fun t kk => XS.iloadN X85.here hx rfl (hb hby dK_202) rfl kk) ?_
    show OGo p e below _ (T85.setTop (mkF m 203 #[vr u, vi lab, vi sup, vi (Int32.ofNat k), vi (Int32.ofNat gn), .unset] [(.int sup), (.int (Int32.ofNat gn)), (.ref sb)]))
    have c87 := (((O_sb.other W74 (Ne.symm n_u_sb)).other W79 (Ne.symm n_fs_sb)).other W82 (Ne.symm n_lb_sb))
    obtain ⟨T86, h86, X86, e86, W86, O86', st86⟩ := OA.stI X85 hx hZ e85 c87 (j := (Int32.ofNat gn)) (x := sup) (k := gn) (own_nat (show gn < 1000 by omega)).1 (own_nat (show gn < 1000 by omega)).2 (by omega) (g := (mkF m 203 #[vr u, vi lab, vi sup, vi (Int32.ofNat k), vi (Int32.ofNat gn), .unset] [(.int sup), (.int (Int32.ofNat gn)), (.ref sb)])) rfl rfl (hb hby dK_203)
    have O86 := O86'
    have N86 := Fr.snoc X86 N82 g_sb
    have Z86 : n0 ≤ h86.size := Nat.le_trans Z82 (Keep.of_wr W86).1
    have K86 : Keep h0 h86 [u, fs, lb, sb, bl, qs, ms, pv, nx, fb] := K82.wr W86 (Or.inl (List.mem_of_getElem? (i := 3) rfl))
    obtain ⟨lo86, X86, N86⟩ : ∃ L, Stand p l e ({ frames := 0, cells := 0, slots := 0, locals := 0 } : Room) s m #[(.ref u), (.int lab), (.int sup), (.int (Int32.ofNat k))] below meth c T86 L 0 0 ∧ Fr n0 L := ⟨_, X86, N86⟩
    refine OGo.st (fun t kk => st86 t kk) ?_
    show OGo p e below _ (T86.setTop (mkF m 204 #[vr u, vi lab, vi sup, vi (Int32.ofNat k), vi (Int32.ofNat gn), .unset] []))
    refine OGo.st (fun t kk => XS.aloadN X86.here hx rfl (hb hby dK_204) rfl rfl kk) ?_
    show OGo p e below _ (T86.setTop (mkF m 205 #[vr u, vi lab, vi sup, vi (Int32.ofNat k), vi (Int32.ofNat gn), .unset] [(.ref u)]))
    have c88 := ((((F0_block.other W74 (Or.inr (slot_ne (Or.inl (hw _ (List.mem_of_getElem? (i := 39) rfl))) (Or.inl (hw _ (List.mem_of_getElem? (i := 61) rfl))) (by decide) (t := (.array .int)) (t' := .int) (by decide) (by decide)))).other W79 (Or.inl n_u_fs)).other W82 (Or.inl n_u_lb)).other W86 (Or.inl n_u_sb))
    obtain ⟨T89, X89, e89, st89⟩ := getF X86 hx hZ hown (host := "") (Or.inl (hw _ (List.mem_of_getElem? (i := 38) rfl))) Via.refl e86 c88 (g := (mkF m 205 #[vr u, vi lab, vi sup, vi (Int32.ofNat k), vi (Int32.ofNat gn), .unset] [(.ref u)])) rfl rfl (hb hby dK_205)
    refine OGo.st (fun t kk => st89 t kk) ?_
    show OGo p e below _ (T89.setTop (mkF m 208 #[vr u, vi lab, vi sup, vi (Int32.ofNat k), vi (Int32.ofNat gn), .unset] [(.ref bl)]))
    refine OGo.st (fun t kk => XS.iload X89.here hx rfl (hb hby dK_208) rfl kk) ?_
    show OGo p e below _ (T89.setTop (mkF m 210 #[vr u, vi lab, vi sup, vi (Int32.ofNat k), vi (Int32.ofNat gn), .unset] [(.int (Int32.ofNat gn)), (.ref bl)]))
    refine OGo.st (fun t kk => XS.iloadN X89.here hx rfl (hb hby dK_210) rfl kk) ?_
    show OGo p e below _ (T89.setTop (mkF m 211 #[vr u, vi lab, vi sup, vi (Int32.ofNat k), vi (Int32.ofNat gn), .unset] [(.int (Int32.ofNat k)), (.int (Int32.ofNat gn)), (.ref bl)]))
    have c91 := ((((O_bl.other W74 (Ne.symm n_u_bl)).other W79 (Ne.symm n_fs_bl)).other W82 (Ne.symm n_lb_bl)).other W86 (Ne.symm n_sb_bl))
    obtain ⟨T90, h90, X90, e90, W90, O90', st90⟩ := OA.stI X89 hx hZ e89 c91 (j := (Int32.ofNat gn)) (x := (Int32.ofNat k)) (k := gn) (own_nat (show gn < 1000 by omega)).1 (own_nat (show gn < 1000 by omega)).2 (by omega) (g := (mkF m 211 #[vr u, vi lab, vi sup, vi (Int32.ofNat k), vi (Int32.ofNat gn), .unset] [(.int (Int32.ofNat k)), (.int (Int32.ofNat gn)), (.ref bl)])) rfl rfl (hb hby dK_211)
    have O90 := O90'
    have N90 := Fr.snoc X90 N86 g_bl
    have Z90 : n0 ≤ h90.size := Nat.le_trans Z86 (Keep.of_wr W90).1
    have K90 : Keep h0 h90 [u, fs, lb, sb, bl, qs, ms, pv, nx, fb] := K86.wr W90 (Or.inl (List.mem_of_getElem? (i := 4) rfl))
    obtain ⟨lo90, X90, N90⟩ : ∃ L, Stand p l e ({ frames := 0, cells := 0, slots := 0, locals := 0 } : Room) s m #[(.ref u), (.int lab), (.int sup), (.int (Int32.ofNat k))] below meth c T90 L 0 0 ∧ Fr n0 L := ⟨_, X90, N90⟩
    refine OGo.st (fun t kk => st90 t kk) ?_
    show OGo p e below _ (T90.setTop (mkF m 212 #[vr u, vi lab, vi sup, vi (Int32.ofNat k), vi (Int32.ofNat gn), .unset] []))
    refine OGo.st (fun t kk => XS.aloadN X90.here hx rfl (hb hby dK_212) rfl rfl kk) ?_
    show OGo p e below _ (T90.setTop (mkF m 213 #[vr u, vi lab, vi sup, vi (Int32.ofNat k), vi (Int32.ofNat gn), .unset] [(.ref u)]))
    have c92 := (((((F0_partnerStamp.other W74 (Or.inr (slot_ne (Or.inl (hw _ (List.mem_of_getElem? (i := 47) rfl))) (Or.inl (hw _ (List.mem_of_getElem? (i := 61) rfl))) (by decide) (t := (.array .long)) (t' := .int) (by decide) (by decide)))).other W79 (Or.inl n_u_fs)).other W82 (Or.inl n_u_lb)).other W86 (Or.inl n_u_sb)).other W90 (Or.inl n_u_bl))
    obtain ⟨T93, X93, e93, st93⟩ := getF X90 hx hZ hown (host := "") (Or.inl (hw _ (List.mem_of_getElem? (i := 46) rfl))) Via.refl e90 c92 (g := (mkF m 213 #[vr u, vi lab, vi sup, vi (Int32.ofNat k), vi (Int32.ofNat gn), .unset] [(.ref u)])) rfl rfl (hb hby dK_213)
    refine OGo.st (fun t kk => st93 t kk) ?_
    show OGo p e below _ (T93.setTop (mkF m 216 #[vr u, vi lab, vi sup, vi (Int32.ofNat k), vi (Int32.ofNat gn), .unset] [(.ref qs)]))
    refine OGo.st (fun t kk => XS.iload X93.here hx rfl (hb hby dK_216) rfl kk) ?_
    show OGo p e below _ (T93.setTop (mkF m 218 #[vr u, vi lab, vi sup, vi (Int32.ofNat k), vi (Int32.ofNat gn), .unset] [(.int (Int32.ofNat gn)), (.ref qs)]))
    refine OGo.st (fun t kk => XS.lconst X93.here hx rfl (hb hby dK_218) kk) ?_
    show OGo p e below _ (T93.setTop (mkF m 219 #[vr u, vi lab, vi sup, vi (Int32.ofNat k), vi (Int32.ofNat gn), .unset] [(.long (0 : Int64)), (.int (Int32.ofNat gn)), (.ref qs)]))
    have c95 := (((((O_qs.other W74 (Ne.symm n_u_qs)).other W79 (Ne.symm n_fs_qs)).other W82 (Ne.symm n_lb_qs)).other W86 (Ne.symm n_sb_qs)).other W90 (Ne.symm n_bl_qs))
    obtain ⟨T94, h94, X94, e94, W94, O94', st94⟩ := OL.stJ X93 hx hZ e93 c95 (j := (Int32.ofNat gn)) (x := (0 : Int64)) (k := gn) (own_nat (show gn < 1000 by omega)).1 (own_nat (show gn < 1000 by omega)).2 (by omega) (g := (mkF m 219 #[vr u, vi lab, vi sup, vi (Int32.ofNat k), vi (Int32.ofNat gn), .unset] [(.long (0 : Int64)), (.int (Int32.ofNat gn)), (.ref qs)])) rfl rfl (hb hby dK_219)
    have O94 := O94'
    have N94 := Fr.snoc X94 N90 g_qs
    have Z94 : n0 ≤ h94.size := Nat.le_trans Z90 (Keep.of_wr W94).1
    have K94 : Keep h0 h94 [u, fs, lb, sb, bl, qs, ms, pv, nx, fb] := K90.wr W94 (Or.inl (List.mem_of_getElem? (i := 5) rfl))
    obtain ⟨lo94, X94, N94⟩ : ∃ L, Stand p l e ({ frames := 0, cells := 0, slots := 0, locals := 0 } : Room) s m #[(.ref u), (.int lab), (.int sup), (.int (Int32.ofNat k))] below meth c T94 L 0 0 ∧ Fr n0 L := ⟨_, X94, N94⟩
    refine OGo.st (fun t kk => st94 t kk) ?_
    show OGo p e below _ (T94.setTop (mkF m 220 #[vr u, vi lab, vi sup, vi (Int32.ofNat k), vi (Int32.ofNat gn), .unset] []))
    refine OGo.st (fun t kk => XS.aloadN X94.here hx rfl (hb hby dK_220) rfl rfl kk) ?_
    show OGo p e below _ (T94.setTop (mkF m 221 #[vr u, vi lab, vi sup, vi (Int32.ofNat k), vi (Int32.ofNat gn), .unset] [(.ref u)]))
    have c96 := ((((((F0_markStamp.other W74 (Or.inr (slot_ne (Or.inl (hw _ (List.mem_of_getElem? (i := 49) rfl))) (Or.inl (hw _ (List.mem_of_getElem? (i := 61) rfl))) (by decide) (t := (.array .long)) (t' := .int) (by decide) (by decide)))).other W79 (Or.inl n_u_fs)).other W82 (Or.inl n_u_lb)).other W86 (Or.inl n_u_sb)).other W90 (Or.inl n_u_bl)).other W94 (Or.inl n_u_qs))
    obtain ⟨T97, X97, e97, st97⟩ := getF X94 hx hZ hown (host := "") (Or.inl (hw _ (List.mem_of_getElem? (i := 48) rfl))) Via.refl e94 c96 (g := (mkF m 221 #[vr u, vi lab, vi sup, vi (Int32.ofNat k), vi (Int32.ofNat gn), .unset] [(.ref u)])) rfl rfl (hb hby dK_221)
    refine OGo.st (fun t kk => st97 t kk) ?_
    show OGo p e below _ (T97.setTop (mkF m 224 #[vr u, vi lab, vi sup, vi (Int32.ofNat k), vi (Int32.ofNat gn), .unset] [(.ref ms)]))
    refine OGo.st (fun t kk => XS.iload X97.here hx rfl (hb hby dK_224) rfl kk) ?_
    show OGo p e below _ (T97.setTop (mkF m 226 #[vr u, vi lab, vi sup, vi (Int32.ofNat k), vi (Int32.ofNat gn), .unset] [(.int (Int32.ofNat gn)), (.ref ms)]))
    refine OGo.st (fun t kk => XS.lconst X97.here hx rfl (hb hby dK_226) kk) ?_
    show OGo p e below _ (T97.setTop (mkF m 227 #[vr u, vi lab, vi sup, vi (Int32.ofNat k), vi (Int32.ofNat gn), .unset] [(.long (0 : Int64)), (.int (Int32.ofNat gn)), (.ref ms)]))
    have c99 := ((((((O_ms.other W74 (Ne.symm n_u_ms)).other W79 (Ne.symm n_fs_ms)).other W82 (Ne.symm n_lb_ms)).other W86 (Ne.symm n_sb_ms)).other W90 (Ne.symm n_bl_ms)).other W94 (Ne.symm n_qs_ms))
    obtain ⟨T98, h98, X98, e98, W98, O98', st98⟩ := OL.stJ X97 hx hZ e97 c99 (j := (Int32.ofNat gn)) (x := (0 : Int64)) (k := gn) (own_nat (show gn < 1000 by omega)).1 (own_nat (show gn < 1000 by omega)).2 (by omega) (g := (mkF m 227 #[vr u, vi lab, vi sup, vi (Int32.ofNat k), vi (Int32.ofNat gn), .unset] [(.long (0 : Int64)), (.int (Int32.ofNat gn)), (.ref ms)])) rfl rfl (hb hby dK_227)
    have O98 := O98'
    have N98 := Fr.snoc X98 N94 g_ms
    have Z98 : n0 ≤ h98.size := Nat.le_trans Z94 (Keep.of_wr W98).1
    have K98 : Keep h0 h98 [u, fs, lb, sb, bl, qs, ms, pv, nx, fb] := K94.wr W98 (Or.inl (List.mem_of_getElem? (i := 6) rfl))
    obtain ⟨lo98, X98, N98⟩ : ∃ L, Stand p l e ({ frames := 0, cells := 0, slots := 0, locals := 0 } : Room) s m #[(.ref u), (.int lab), (.int sup), (.int (Int32.ofNat k))] below meth c T98 L 0 0 ∧ Fr n0 L := ⟨_, X98, N98⟩
    refine OGo.st (fun t kk => st98 t kk) ?_
    show OGo p e below _ (T98.setTop (mkF m 228 #[vr u, vi lab, vi sup, vi (Int32.ofNat k), vi (Int32.ofNat gn), .unset] []))
    refine OGo.st (fun t kk => XS.aloadN X98.here hx rfl (hb hby dK_228) rfl rfl kk) ?_
    show OGo p e below _ (T98.setTop (mkF m 229 #[vr u, vi lab, vi sup, vi (Int32.ofNat k), vi (Int32.ofNat gn), .unset] [(.ref u)]))
    have c100 := (((((((F0_firstOfBlock.other W74 (Or.inr (slot_ne (Or.inl (hw _ (List.mem_of_getElem? (i := 16) rfl))) (Or.inl (hw _ (List.mem_of_getElem? (i := 61) rfl))) (by decide) (t := (.array .int)) (t' := .int) (by decide) (by decide)))).other W79 (Or.inl n_u_fs)).other W82 (Or.inl n_u_lb)).other W86 (Or.inl n_u_sb)).other W90 (Or.inl n_u_bl)).other W94 (Or.inl n_u_qs)).other W98 (Or.inl n_u_ms))
    obtain ⟨T101, X101, e101, st101⟩ := getF X98 hx hZ hown (host := "") (Or.inl (hw _ (List.mem_of_getElem? (i := 15) rfl))) Via.refl e98 c100 (g := (mkF m 229 #[vr u, vi lab, vi sup, vi (Int32.ofNat k), vi (Int32.ofNat gn), .unset] [(.ref u)])) rfl rfl (hb hby dK_229)
    refine OGo.st (fun t kk => st101 t kk) ?_
    show OGo p e below _ (T101.setTop (mkF m 232 #[vr u, vi lab, vi sup, vi (Int32.ofNat k), vi (Int32.ofNat gn), .unset] [(.ref fb)]))
    refine OGo.st (fun t kk => XS.iloadN X101.here hx rfl (hb hby dK_232) rfl kk) ?_
    show OGo p e below _ (T101.setTop (mkF m 233 #[vr u, vi lab, vi sup, vi (Int32.ofNat k), vi (Int32.ofNat gn), .unset] [(.int (Int32.ofNat k)), (.ref fb)]))
    have c102 := (((((((O_fb.other W74 (Ne.symm n_u_fb)).other W79 n_fb_fs).other W82 n_fb_lb).other W86 n_fb_sb).other W90 n_fb_bl).other W94 n_fb_qs).other W98 n_fb_ms)
    refine OGo.st (fun t kk => OA.ldI X101 hx hZ e101 c102 (j := (Int32.ofNat k)) (k := k) (own_nat (show k < 1000 by omega)).1 (own_nat (show k < 1000 by omega)).2 (by omega) (g := (mkF m 233 #[vr u, vi lab, vi sup, vi (Int32.ofNat k), vi (Int32.ofNat gn), .unset] [(.int (Int32.ofNat k)), (.ref fb)])) rfl rfl (hb hby dK_233) t kk) ?_
    show OGo p e below _ (T101.setTop (mkF m 234 #[vr u, vi lab, vi sup, vi (Int32.ofNat k), vi (Int32.ofNat gn), .unset] [(.int (ffb k))]))
    rw [hf1]
    show OGo p e below _ (T101.setTop (mkF m 234 #[vr u, vi lab, vi sup, vi (Int32.ofNat k), vi (Int32.ofNat gn), .unset] [(.int (0 : Int32))]))
    refine OGo.st (fun t kk => XS.istore X101.here hx rfl (hb hby dK_234) rfl (l' := #[vr u, vi lab, vi sup, vi (Int32.ofNat k), vi (Int32.ofNat gn), vi (0 : Int32)]) rfl kk) ?_
    show OGo p e below _ (T101.setTop (mkF m 236 #[vr u, vi lab, vi sup, vi (Int32.ofNat k), vi (Int32.ofNat gn), vi (0 : Int32)] []))
    refine OGo.st (fun t kk => XS.aloadN X101.here hx rfl (hb hby dK_236) rfl rfl kk) ?_
    show OGo p e below _ (T101.setTop (mkF m 237 #[vr u, vi lab, vi sup, vi (Int32.ofNat k), vi (Int32.ofNat gn), vi (0 : Int32)] [(.ref u)]))
    have c103 := (((((((F0_previous.other W74 (Or.inr (slot_ne (Or.inl (hw _ (List.mem_of_getElem? (i := 41) rfl))) (Or.inl (hw _ (List.mem_of_getElem? (i := 61) rfl))) (by decide) (t := (.array .int)) (t' := .int) (by decide) (by decide)))).other W79 (Or.inl n_u_fs)).other W82 (Or.inl n_u_lb)).other W86 (Or.inl n_u_sb)).other W90 (Or.inl n_u_bl)).other W94 (Or.inl n_u_qs)).other W98 (Or.inl n_u_ms))
    obtain ⟨T104, X104, e104, st104⟩ := getF X101 hx hZ hown (host := "") (Or.inl (hw _ (List.mem_of_getElem? (i := 40) rfl))) Via.refl e101 c103 (g := (mkF m 237 #[vr u, vi lab, vi sup, vi (Int32.ofNat k), vi (Int32.ofNat gn), vi (0 : Int32)] [(.ref u)])) rfl rfl (hb hby dK_237)
    refine OGo.st (fun t kk => st104 t kk) ?_
    show OGo p e below _ (T104.setTop (mkF m 240 #[vr u, vi lab, vi sup, vi (Int32.ofNat k), vi (Int32.ofNat gn), vi (0 : Int32)] [(.ref pv)]))
    refine OGo.st (fun t kk => XS.iload X104.here hx rfl (hb hby dK_240) rfl kk) ?_
    show OGo p e below _ (T104.setTop (mkF m 242 #[vr u, vi lab, vi sup, vi (Int32.ofNat k), vi (Int32.ofNat gn), vi (0 : Int32)] [(.int (Int32.ofNat gn)), (.ref pv)]))
    refine OGo.st (fun t kk => XS.iconst X104.here hx rfl (hb hby dK_242) kk) ?_
    show OGo p e below _ (T104.setTop (mkF m 243 #[vr u, vi lab, vi sup, vi (Int32.ofNat k), vi (Int32.ofNat gn), vi (0 : Int32)] [(.int (-1 : Int32)), (.int (Int32.ofNat gn)), (.ref pv)]))
    have c106 := (((((((O_pv.other W74 (Ne.symm n_u_pv)).other W79 (Ne.symm n_fs_pv)).other W82 (Ne.symm n_lb_pv)).other W86 (Ne.symm n_sb_pv)).other W90 (Ne.symm n_bl_pv)).other W94 n_pv_qs).other W98 n_pv_ms)
    obtain ⟨T105, h105, X105, e105, W105, O105', st105⟩ := OA.stI X104 hx hZ e104 c106 (j := (Int32.ofNat gn)) (x := (-1 : Int32)) (k := gn) (own_nat (show gn < 1000 by omega)).1 (own_nat (show gn < 1000 by omega)).2 (by omega) (g := (mkF m 243 #[vr u, vi lab, vi sup, vi (Int32.ofNat k), vi (Int32.ofNat gn), vi (0 : Int32)] [(.int (-1 : Int32)), (.int (Int32.ofNat gn)), (.ref pv)])) rfl rfl (hb hby dK_243)
    have O105 := O105'
    have N105 := Fr.snoc X105 N98 g_pv
    have Z105 : n0 ≤ h105.size := Nat.le_trans Z98 (Keep.of_wr W105).1
    have K105 : Keep h0 h105 [u, fs, lb, sb, bl, qs, ms, pv, nx, fb] := K98.wr W105 (Or.inl (List.mem_of_getElem? (i := 7) rfl))
    obtain ⟨lo105, X105, N105⟩ : ∃ L, Stand p l e ({ frames := 0, cells := 0, slots := 0, locals := 0 } : Room) s m #[(.ref u), (.int lab), (.int sup), (.int (Int32.ofNat k))] below meth c T105 L 0 0 ∧ Fr n0 L := ⟨_, X105, N105⟩
    refine OGo.st (fun t kk => st105 t kk) ?_
    show OGo p e below _ (T105.setTop (mkF m 244 #[vr u, vi lab, vi sup, vi (Int32.ofNat k), vi (Int32.ofNat gn), vi (0 : Int32)] []))
    refine OGo.st (fun t kk => XS.aloadN X105.here hx rfl (hb hby dK_244) rfl rfl kk) ?_
    show OGo p e below _ (T105.setTop (mkF m 245 #[vr u, vi lab, vi sup, vi (Int32.ofNat k), vi (Int32.ofNat gn), vi (0 : Int32)] [(.ref u)]))
    have c107 := ((((((((F0_next.other W74 (Or.inr (slot_ne (Or.inl (hw _ (List.mem_of_getElem? (i := 43) rfl))) (Or.inl (hw _ (List.mem_of_getElem? (i := 61) rfl))) (by decide) (t := (.array .int)) (t' := .int) (by decide) (by decide)))).other W79 (Or.inl n_u_fs)).other W82 (Or.inl n_u_lb)).other W86 (Or.inl n_u_sb)).other W90 (Or.inl n_u_bl)).other W94 (Or.inl n_u_qs)).other W98 (Or.inl n_u_ms)).other W105 (Or.inl n_u_pv))
    obtain ⟨T108, X108, e108, st108⟩ := getF X105 hx hZ hown (host := "") (Or.inl (hw _ (List.mem_of_getElem? (i := 42) rfl))) Via.refl e105 c107 (g := (mkF m 245 #[vr u, vi lab, vi sup, vi (Int32.ofNat k), vi (Int32.ofNat gn), vi (0 : Int32)] [(.ref u)])) rfl rfl (hb hby dK_245)
    refine OGo.st (fun t kk => st108 t kk) ?_
    show OGo p e below _ (T108.setTop (mkF m 248 #[vr u, vi lab, vi sup, vi (Int32.ofNat k), vi (Int32.ofNat gn), vi (0 : Int32)] [(.ref nx)]))
    refine OGo.st (fun t kk => XS.iload X108.here hx rfl (hb hby dK_248) rfl kk) ?_
    show OGo p e below _ (T108.setTop (mkF m 250 #[vr u, vi lab, vi sup, vi (Int32.ofNat k), vi (Int32.ofNat gn), vi (0 : Int32)] [(.int (Int32.ofNat gn)), (.ref nx)]))
    refine OGo.st (fun t kk => XS.iload X108.here hx rfl (hb hby dK_250) rfl kk) ?_
    show OGo p e below _ (T108.setTop (mkF m 252 #[vr u, vi lab, vi sup, vi (Int32.ofNat k), vi (Int32.ofNat gn), vi (0 : Int32)] [(.int (0 : Int32)), (.int (Int32.ofNat gn)), (.ref nx)]))
    have c110 := ((((((((O_nx.other W74 (Ne.symm n_u_nx)).other W79 (Ne.symm n_fs_nx)).other W82 (Ne.symm n_lb_nx)).other W86 (Ne.symm n_sb_nx)).other W90 (Ne.symm n_bl_nx)).other W94 n_nx_qs).other W98 n_nx_ms).other W105 (Ne.symm n_pv_nx))
    obtain ⟨T109, h109, X109, e109, W109, O109', st109⟩ := OA.stI X108 hx hZ e108 c110 (j := (Int32.ofNat gn)) (x := (0 : Int32)) (k := gn) (own_nat (show gn < 1000 by omega)).1 (own_nat (show gn < 1000 by omega)).2 (by omega) (g := (mkF m 252 #[vr u, vi lab, vi sup, vi (Int32.ofNat k), vi (Int32.ofNat gn), vi (0 : Int32)] [(.int (0 : Int32)), (.int (Int32.ofNat gn)), (.ref nx)])) rfl rfl (hb hby dK_252)
    have O109 := O109'
    have N109 := Fr.snoc X109 N105 g_nx
    have Z109 : n0 ≤ h109.size := Nat.le_trans Z105 (Keep.of_wr W109).1
    have K109 : Keep h0 h109 [u, fs, lb, sb, bl, qs, ms, pv, nx, fb] := K105.wr W109 (Or.inl (List.mem_of_getElem? (i := 8) rfl))
    obtain ⟨lo109, X109, N109⟩ : ∃ L, Stand p l e ({ frames := 0, cells := 0, slots := 0, locals := 0 } : Room) s m #[(.ref u), (.int lab), (.int sup), (.int (Int32.ofNat k))] below meth c T109 L 0 0 ∧ Fr n0 L := ⟨_, X109, N109⟩
    refine OGo.st (fun t kk => st109 t kk) ?_
    show OGo p e below _ (T109.setTop (mkF m 253 #[vr u, vi lab, vi sup, vi (Int32.ofNat k), vi (Int32.ofNat gn), vi (0 : Int32)] []))
    refine OGo.st (fun t kk => XS.iload X109.here hx rfl (hb hby dK_253) rfl kk) ?_
    show OGo p e below _ (T109.setTop (mkF m 255 #[vr u, vi lab, vi sup, vi (Int32.ofNat k), vi (Int32.ofNat gn), vi (0 : Int32)] [(.int (0 : Int32))]))
    refine OGo.st (fun t kk => XS.iconst X109.here hx rfl (hb hby dK_255) kk) ?_
    show OGo p e below _ (T109.setTop (mkF m 256 #[vr u, vi lab, vi sup, vi (Int32.ofNat k), vi (Int32.ofNat gn), vi (0 : Int32)] [(.int (-1 : Int32)), (.int (0 : Int32))]))
    refine OGo.st (fun t kk => XS.icmpNo X109.here hx rfl (hb hby dK_256) rfl (feq (by decide : ¬ ((0 : Int32) = (-1 : Int32)))).1 kk) ?_
    show OGo p e below _ (T109.setTop (mkF m 259 #[vr u, vi lab, vi sup, vi (Int32.ofNat k), vi (Int32.ofNat gn), vi (0 : Int32)] []))
    refine OGo.st (fun t kk => XS.aloadN X109.here hx rfl (hb hby dK_259) rfl rfl kk) ?_
    show OGo p e below _ (T109.setTop (mkF m 260 #[vr u, vi lab, vi sup, vi (Int32.ofNat k), vi (Int32.ofNat gn), vi (0 : Int32)] [(.ref u)]))
    have c111 := ((c103.other W105 (Or.inl n_u_pv)).other W109 (Or.inl n_u_nx))
    obtain ⟨T112, X112, e112, st112⟩ := getF X109 hx hZ hown (host := "") (Or.inl (hw _ (List.mem_of_getElem? (i := 40) rfl))) Via.refl e109 c111 (g := (mkF m 260 #[vr u, vi lab, vi sup, vi (Int32.ofNat k), vi (Int32.ofNat gn), vi (0 : Int32)] [(.ref u)])) rfl rfl (hb hby dK_260)
    refine OGo.st (fun t kk => st112 t kk) ?_
    show OGo p e below _ (T112.setTop (mkF m 263 #[vr u, vi lab, vi sup, vi (Int32.ofNat k), vi (Int32.ofNat gn), vi (0 : Int32)] [(.ref pv)]))
    refine OGo.st (fun t kk => XS.iload X112.here hx rfl (hb hby dK_263) rfl kk) ?_
    show OGo p e below _ (T112.setTop (mkF m 265 #[vr u, vi lab, vi sup, vi (Int32.ofNat k), vi (Int32.ofNat gn), vi (0 : Int32)] [(.int (0 : Int32)), (.ref pv)]))
    refine OGo.st (fun t kk => XS.iload X112.here hx rfl (hb hby dK_265) rfl kk) ?_
    show OGo p e below _ (T112.setTop (mkF m 267 #[vr u, vi lab, vi sup, vi (Int32.ofNat k), vi (Int32.ofNat gn), vi (0 : Int32)] [(.int (Int32.ofNat gn)), (.int (0 : Int32)), (.ref pv)]))
    have c114 := (O105.other W109 n_pv_nx)
    obtain ⟨T113, h113, X113, e113, W113, O113', st113⟩ := OA.stI X112 hx hZ e112 c114 (j := (0 : Int32)) (x := (Int32.ofNat gn)) (k := 0) (by decide) (by decide) (by decide) (g := (mkF m 267 #[vr u, vi lab, vi sup, vi (Int32.ofNat k), vi (Int32.ofNat gn), vi (0 : Int32)] [(.int (Int32.ofNat gn)), (.int (0 : Int32)), (.ref pv)])) rfl rfl (hb hby dK_267)
    have O113 := O113'
    have N113 := Fr.snoc X113 N109 g_pv
    have Z113 : n0 ≤ h113.size := Nat.le_trans Z109 (Keep.of_wr W113).1
    have K113 : Keep h0 h113 [u, fs, lb, sb, bl, qs, ms, pv, nx, fb] := K109.wr W113 (Or.inl (List.mem_of_getElem? (i := 7) rfl))
    obtain ⟨lo113, X113, N113⟩ : ∃ L, Stand p l e ({ frames := 0, cells := 0, slots := 0, locals := 0 } : Room) s m #[(.ref u), (.int lab), (.int sup), (.int (Int32.ofNat k))] below meth c T113 L 0 0 ∧ Fr n0 L := ⟨_, X113, N113⟩
    refine OGo.st (fun t kk => st113 t kk) ?_
    show OGo p e below _ (T113.setTop (mkF m 268 #[vr u, vi lab, vi sup, vi (Int32.ofNat k), vi (Int32.ofNat gn), vi (0 : Int32)] []))
    refine OGo.st (fun t kk => XS.aloadN X113.here hx rfl (hb hby dK_268) rfl rfl kk) ?_
    show OGo p e below _ (T113.setTop (mkF m 269 #[vr u, vi lab, vi sup, vi (Int32.ofNat k), vi (Int32.ofNat gn), vi (0 : Int32)] [(.ref u)]))
    have c115 := (((c100.other W105 (Or.inl n_u_pv)).other W109 (Or.inl n_u_nx)).other W113 (Or.inl n_u_pv))
    obtain ⟨T116, X116, e116, st116⟩ := getF X113 hx hZ hown (host := "") (Or.inl (hw _ (List.mem_of_getElem? (i := 15) rfl))) Via.refl e113 c115 (g := (mkF m 269 #[vr u, vi lab, vi sup, vi (Int32.ofNat k), vi (Int32.ofNat gn), vi (0 : Int32)] [(.ref u)])) rfl rfl (hb hby dK_269)
    refine OGo.st (fun t kk => st116 t kk) ?_
    show OGo p e below _ (T116.setTop (mkF m 272 #[vr u, vi lab, vi sup, vi (Int32.ofNat k), vi (Int32.ofNat gn), vi (0 : Int32)] [(.ref fb)]))
    refine OGo.st (fun t kk => XS.iloadN X116.here hx rfl (hb hby dK_272) rfl kk) ?_
    show OGo p e below _ (T116.setTop (mkF m 273 #[vr u, vi lab, vi sup, vi (Int32.ofNat k), vi (Int32.ofNat gn), vi (0 : Int32)] [(.int (Int32.ofNat k)), (.ref fb)]))
    refine OGo.st (fun t kk => XS.iload X116.here hx rfl (hb hby dK_273) rfl kk) ?_
    show OGo p e below _ (T116.setTop (mkF m 275 #[vr u, vi lab, vi sup, vi (Int32.ofNat k), vi (Int32.ofNat gn), vi (0 : Int32)] [(.int (Int32.ofNat gn)), (.int (Int32.ofNat k)), (.ref fb)]))
    have c118 := (((c102.other W105 n_fb_pv).other W109 n_fb_nx).other W113 n_fb_pv)
    obtain ⟨T117, h117, X117, e117, W117, O117', st117⟩ := OA.stI X116 hx hZ e116 c118 (j := (Int32.ofNat k)) (x := (Int32.ofNat gn)) (k := k) (own_nat (show k < 1000 by omega)).1 (own_nat (show k < 1000 by omega)).2 (by omega) (g := (mkF m 275 #[vr u, vi lab, vi sup, vi (Int32.ofNat k), vi (Int32.ofNat gn), vi (0 : Int32)] [(.int (Int32.ofNat gn)), (.int (Int32.ofNat k)), (.ref fb)])) rfl rfl (hb hby dK_275)
    have O117 := O117'
    have N117 := Fr.snoc X117 N113 g_fb
    have Z117 : n0 ≤ h117.size := Nat.le_trans Z113 (Keep.of_wr W117).1
    have K117 : Keep h0 h117 [u, fs, lb, sb, bl, qs, ms, pv, nx, fb] := K113.wr W117 (Or.inl (List.mem_of_getElem? (i := 9) rfl))
    obtain ⟨lo117, X117, N117⟩ : ∃ L, Stand p l e ({ frames := 0, cells := 0, slots := 0, locals := 0 } : Room) s m #[(.ref u), (.int lab), (.int sup), (.int (Int32.ofNat k))] below meth c T117 L 0 0 ∧ Fr n0 L := ⟨_, X117, N117⟩
    refine OGo.st (fun t kk => st117 t kk) ?_
    show OGo p e below _ (T117.setTop (mkF m 276 #[vr u, vi lab, vi sup, vi (Int32.ofNat k), vi (Int32.ofNat gn), vi (0 : Int32)] []))
    refine OGo.st (fun t kk => XS.iload X117.here hx rfl (hb hby dK_276) rfl kk) ?_
    show OGo p e below _ (T117.setTop (mkF m 278 #[vr u, vi lab, vi sup, vi (Int32.ofNat k), vi (Int32.ofNat gn), vi (0 : Int32)] [(.int (Int32.ofNat gn))]))
    have c119 := (((((((((((E0.wr W74).wr W79).wr W82).wr W86).wr W90).wr W94).wr W98).wr W105).wr W109).wr W113).wr W117)
    have c120 := (((((((((((F0_emptied.other W74 (Or.inr (slot_ne (Or.inl (hw _ (List.mem_of_getElem? (i := 12) rfl))) (Or.inl (hw _ (List.mem_of_getElem? (i := 61) rfl))) (by decide) (t := (.array .int)) (t' := .int) (by decide) (by decide)))).other W79 (Or.inl n_u_fs)).other W82 (Or.inl n_u_lb)).other W86 (Or.inl n_u_sb)).other W90 (Or.inl n_u_bl)).other W94 (Or.inl n_u_qs)).other W98 (Or.inl n_u_ms)).other W105 (Or.inl n_u_pv)).other W109 (Or.inl n_u_nx)).other W113 (Or.inl n_u_pv)).other W117 (Or.inl n_u_fb))
    have c121 := (((((((((((F0_free.other W74 (Or.inr (slot_ne (Or.inl (hw _ (List.mem_of_getElem? (i := 14) rfl))) (Or.inl (hw _ (List.mem_of_getElem? (i := 61) rfl))) (by decide) (t := (.array .int)) (t' := .int) (by decide) (by decide)))).other W79 (Or.inl n_u_fs)).other W82 (Or.inl n_u_lb)).other W86 (Or.inl n_u_sb)).other W90 (Or.inl n_u_bl)).other W94 (Or.inl n_u_qs)).other W98 (Or.inl n_u_ms)).other W105 (Or.inl n_u_pv)).other W109 (Or.inl n_u_nx)).other W113 (Or.inl n_u_pv)).other W117 (Or.inl n_u_fb))
    have c122 := (c115.other W117 (Or.inl n_u_fb))
    have c123 := (((((((((((F0_groupOf.other W74 (Or.inr (slot_ne (Or.inr (hw _ (List.mem_of_getElem? (i := 23) rfl))) (Or.inl (hw _ (List.mem_of_getElem? (i := 61) rfl))) (by decide) (t := (.array .int)) (t' := .int) (by decide) (by decide)))).other W79 (Or.inl n_u_fs)).other W82 (Or.inl n_u_lb)).other W86 (Or.inl n_u_sb)).other W90 (Or.inl n_u_bl)).other W94 (Or.inl n_u_qs)).other W98 (Or.inl n_u_ms)).other W105 (Or.inl n_u_pv)).other W109 (Or.inl n_u_nx)).other W113 (Or.inl n_u_pv)).other W117 (Or.inl n_u_fb))
    have c124 := (((((((((((F0_previousStep.other W74 (Or.inr (slot_ne (Or.inr (hw _ (List.mem_of_getElem? (i := 25) rfl))) (Or.inl (hw _ (List.mem_of_getElem? (i := 61) rfl))) (by decide) (t := (.array .int)) (t' := .int) (by decide) (by decide)))).other W79 (Or.inl n_u_fs)).other W82 (Or.inl n_u_lb)).other W86 (Or.inl n_u_sb)).other W90 (Or.inl n_u_bl)).other W94 (Or.inl n_u_qs)).other W98 (Or.inl n_u_ms)).other W105 (Or.inl n_u_pv)).other W109 (Or.inl n_u_nx)).other W113 (Or.inl n_u_pv)).other W117 (Or.inl n_u_fb))
    have c125 := (((((((((((F0_nextStep.other W74 (Or.inr (slot_ne (Or.inr (hw _ (List.mem_of_getElem? (i := 27) rfl))) (Or.inl (hw _ (List.mem_of_getElem? (i := 61) rfl))) (by decide) (t := (.array .int)) (t' := .int) (by decide) (by decide)))).other W79 (Or.inl n_u_fs)).other W82 (Or.inl n_u_lb)).other W86 (Or.inl n_u_sb)).other W90 (Or.inl n_u_bl)).other W94 (Or.inl n_u_qs)).other W98 (Or.inl n_u_ms)).other W105 (Or.inl n_u_pv)).other W109 (Or.inl n_u_nx)).other W113 (Or.inl n_u_pv)).other W117 (Or.inl n_u_fb))
    have c126 := ((((((((((c75.other W79 (Or.inl n_u_fs)).other W82 (Or.inl n_u_lb)).other W86 (Or.inl n_u_sb)).other W90 (Or.inl n_u_bl)).other W94 (Or.inl n_u_qs)).other W98 (Or.inl n_u_ms)).other W105 (Or.inl n_u_pv)).other W109 (Or.inl n_u_nx)).other W113 (Or.inl n_u_pv)).other W117 (Or.inl n_u_fb))
    have c127 := (((((((((c80.other W82 (Or.inl n_u_lb)).other W86 (Or.inl n_u_sb)).other W90 (Or.inl n_u_bl)).other W94 (Or.inl n_u_qs)).other W98 (Or.inl n_u_ms)).other W105 (Or.inl n_u_pv)).other W109 (Or.inl n_u_nx)).other W113 (Or.inl n_u_pv)).other W117 (Or.inl n_u_fb))
    have c128 := ((((((((c84.other W86 (Or.inl n_u_sb)).other W90 (Or.inl n_u_bl)).other W94 (Or.inl n_u_qs)).other W98 (Or.inl n_u_ms)).other W105 (Or.inl n_u_pv)).other W109 (Or.inl n_u_nx)).other W113 (Or.inl n_u_pv)).other W117 (Or.inl n_u_fb))
    have c129 := (((((((c88.other W90 (Or.inl n_u_bl)).other W94 (Or.inl n_u_qs)).other W98 (Or.inl n_u_ms)).other W105 (Or.inl n_u_pv)).other W109 (Or.inl n_u_nx)).other W113 (Or.inl n_u_pv)).other W117 (Or.inl n_u_fb))
    have c130 := ((c111.other W113 (Or.inl n_u_pv)).other W117 (Or.inl n_u_fb))
    have c131 := (((c107.other W109 (Or.inl n_u_nx)).other W113 (Or.inl n_u_pv)).other W117 (Or.inl n_u_fb))
    have c132 := (((((((((((F0_partner.other W74 (Or.inr (slot_ne (Or.inl (hw _ (List.mem_of_getElem? (i := 45) rfl))) (Or.inl (hw _ (List.mem_of_getElem? (i := 61) rfl))) (by decide) (t := (.array .int)) (t' := .int) (by decide) (by decide)))).other W79 (Or.inl n_u_fs)).other W82 (Or.inl n_u_lb)).other W86 (Or.inl n_u_sb)).other W90 (Or.inl n_u_bl)).other W94 (Or.inl n_u_qs)).other W98 (Or.inl n_u_ms)).other W105 (Or.inl n_u_pv)).other W109 (Or.inl n_u_nx)).other W113 (Or.inl n_u_pv)).other W117 (Or.inl n_u_fb))
    have c133 := ((((((c92.other W94 (Or.inl n_u_qs)).other W98 (Or.inl n_u_ms)).other W105 (Or.inl n_u_pv)).other W109 (Or.inl n_u_nx)).other W113 (Or.inl n_u_pv)).other W117 (Or.inl n_u_fb))
    have c134 := (((((c96.other W98 (Or.inl n_u_ms)).other W105 (Or.inl n_u_pv)).other W109 (Or.inl n_u_nx)).other W113 (Or.inl n_u_pv)).other W117 (Or.inl n_u_fb))
    have c135 := ((((((((((Fw74.other W79 (Or.inl n_u_fs)).other W82 (Or.inl n_u_lb)).other W86 (Or.inl n_u_sb)).other W90 (Or.inl n_u_bl)).other W94 (Or.inl n_u_qs)).other W98 (Or.inl n_u_ms)).other W105 (Or.inl n_u_pv)).other W109 (Or.inl n_u_nx)).other W113 (Or.inl n_u_pv)).other W117 (Or.inl n_u_fb))
    have c136 := (((((((((((F0_emptiedCount.other W74 (Or.inr (slot_ne (Or.inl (hw _ (List.mem_of_getElem? (i := 72) rfl))) (Or.inl (hw _ (List.mem_of_getElem? (i := 61) rfl))) (by decide) (t := .int) (t' := .int) (by decide) (by decide)))).other W79 (Or.inl n_u_fs)).other W82 (Or.inl n_u_lb)).other W86 (Or.inl n_u_sb)).other W90 (Or.inl n_u_bl)).other W94 (Or.inl n_u_qs)).other W98 (Or.inl n_u_ms)).other W105 (Or.inl n_u_pv)).other W109 (Or.inl n_u_nx)).other W113 (Or.inl n_u_pv)).other W117 (Or.inl n_u_fb))
    have c137 := (((((((((((F0_freeCount.other W74 (Or.inr (slot_ne (Or.inl (hw _ (List.mem_of_getElem? (i := 59) rfl))) (Or.inl (hw _ (List.mem_of_getElem? (i := 61) rfl))) (by decide) (t := .int) (t' := .int) (by decide) (by decide)))).other W79 (Or.inl n_u_fs)).other W82 (Or.inl n_u_lb)).other W86 (Or.inl n_u_sb)).other W90 (Or.inl n_u_bl)).other W94 (Or.inl n_u_qs)).other W98 (Or.inl n_u_ms)).other W105 (Or.inl n_u_pv)).other W109 (Or.inl n_u_nx)).other W113 (Or.inl n_u_pv)).other W117 (Or.inl n_u_fb))
    have c138 := (((((((((((F0_stamp.other W74 (Or.inr (slot_ne (Or.inl (hw _ (List.mem_of_getElem? (i := 74) rfl))) (Or.inl (hw _ (List.mem_of_getElem? (i := 61) rfl))) (by decide) (t := .long) (t' := .int) (by decide) (by decide)))).other W79 (Or.inl n_u_fs)).other W82 (Or.inl n_u_lb)).other W86 (Or.inl n_u_sb)).other W90 (Or.inl n_u_bl)).other W94 (Or.inl n_u_qs)).other W98 (Or.inl n_u_ms)).other W105 (Or.inl n_u_pv)).other W109 (Or.inl n_u_nx)).other W113 (Or.inl n_u_pv)).other W117 (Or.inl n_u_fb))
    have c139 := (((((((((O79.other W82 n_fs_lb).other W86 n_fs_sb).other W90 n_fs_bl).other W94 n_fs_qs).other W98 n_fs_ms).other W105 n_fs_pv).other W109 n_fs_nx).other W113 n_fs_pv).other W117 (Ne.symm n_fb_fs))
    have c140 := ((((((((O82.other W86 n_lb_sb).other W90 n_lb_bl).other W94 n_lb_qs).other W98 n_lb_ms).other W105 n_lb_pv).other W109 n_lb_nx).other W113 n_lb_pv).other W117 (Ne.symm n_fb_lb))
    have c141 := (((((((O86.other W90 n_sb_bl).other W94 n_sb_qs).other W98 n_sb_ms).other W105 n_sb_pv).other W109 n_sb_nx).other W113 n_sb_pv).other W117 (Ne.symm n_fb_sb))
    have c142 := ((((((O90.other W94 n_bl_qs).other W98 n_bl_ms).other W105 n_bl_pv).other W109 n_bl_nx).other W113 n_bl_pv).other W117 (Ne.symm n_fb_bl))
    have c143 := (((((O94.other W98 n_qs_ms).other W105 (Ne.symm n_pv_qs)).other W109 (Ne.symm n_nx_qs)).other W113 (Ne.symm n_pv_qs)).other W117 (Ne.symm n_fb_qs))
    have c144 := ((((O98.other W105 (Ne.symm n_pv_ms)).other W109 (Ne.symm n_nx_ms)).other W113 (Ne.symm n_pv_ms)).other W117 (Ne.symm n_fb_ms))
    have c145 := (O113.other W117 (Ne.symm n_fb_pv))
    have c146 := ((O109.other W113 (Ne.symm n_pv_nx)).other W117 (Ne.symm n_fb_nx))
    refine OGo.outI X117 hx Bd.returns Bd.notSynchronized (hb hby dK_278) ?_ (by decide) (by decide)
    rw [e117]
    exact ⟨rfl, N117, Z117, K117, ⟨c119, c120, c121, c122, c123, c124, c125, c126, c127, c128, c129, c130, c131, c132, c133, c134, c135, c136, c137, c138⟩, c139, c140, c141, c142, c143, c144, c145, c146, O117⟩
def QS (Z : State) (n0 : Nat) (h0 : Heap) (u em fr fb go ps ns fs lb sb bl pv nx pt qs ms : Addr) (gc fc : Int32) (sp : Int64) (v : Option Value) (h : Heap) (L : List Loc) : Prop := v = some (.long sp) ∧ Fr n0 L ∧ n0 ≤ h.size ∧ Keep h0 h [u] ∧ FU Z h u em fr fb go ps ns fs lb sb bl pv nx pt qs ms gc 0 fc sp
theorem dS_0 : decode prog_76_method_2_code 0 = .ok (.iconst 0, 1) := by decide +kernel
theorem dS_1 : decode prog_76_method_2_code 1 = .ok (.istore_n 1, 1) := by decide +kernel
theorem dS_2 : decode prog_76_method_2_code 2 = .ok (.iload_n 1, 1) := by decide +kernel
theorem dS_3 : decode prog_76_method_2_code 3 = .ok (.aload_n 0, 1) := by decide +kernel
theorem dS_4 : decode prog_76_method_2_code 4 = .ok (.getfield 82, 3) := by decide +kernel
theorem dS_7 : decode prog_76_method_2_code 7 = .ok (.if_icmp .ge 68, 3) := by decide +kernel
theorem dS_75 : decode prog_76_method_2_code 75 = .ok (.aload_n 0, 1) := by decide +kernel
theorem dS_76 : decode prog_76_method_2_code 76 = .ok (.iconst 0, 1) := by decide +kernel
theorem dS_77 : decode prog_76_method_2_code 77 = .ok (.putfield 82, 3) := by decide +kernel
theorem dS_80 : decode prog_76_method_2_code 80 = .ok (.aload_n 0, 1) := by decide +kernel
theorem dS_81 : decode prog_76_method_2_code 81 = .ok (.dup, 1) := by decide +kernel
theorem dS_82 : decode prog_76_method_2_code 82 = .ok (.getfield 99, 3) := by decide +kernel
theorem dS_85 : decode prog_76_method_2_code 85 = .ok (.lconst 1, 1) := by decide +kernel
theorem dS_86 : decode prog_76_method_2_code 86 = .ok (.ladd, 1) := by decide +kernel
theorem dS_87 : decode prog_76_method_2_code 87 = .ok (.dup2_x1, 1) := by decide +kernel
theorem dS_88 : decode prog_76_method_2_code 88 = .ok (.putfield 99, 3) := by decide +kernel
theorem dS_91 : decode prog_76_method_2_code 91 = .ok (.lreturn, 1) := by decide +kernel
theorem pnS : plainName "com/example/lockstep/lockstep/check/StepGroups" = true := by first | (simp [plainName, overriddenIn]; done) | decide +kernel
theorem efS (m : MethodId) (u : Addr) : entryFrame m #[(.ref u)] 2 = mkF m 0 #[.val (.ref u), .unset] [] := by first | (simp [entryFrame, mkF, argsToLocals, Value.category]; done) | rfl
set_option maxRecDepth 65536 in
set_option maxHeartbeats 40000000 in
theorem rmS (l : Launch) (Z : State) (a0 : Array Value) (hw : ∀ d ∈ tables_1, d.before a0 Z = true) (ws : List Jvm.Cond) (u : Addr) (em : Addr) (fr : Addr) (fb : Addr) (go : Addr) (ps : Addr) (ns : Addr) (fs : Addr) (lb : Addr) (sb : Addr) (bl : Addr) (pv : Addr) (nx : Addr) (pt : Addr) (qs : Addr) (ms : Addr) (gc : Int32) (fc : Int32) (sp : Int64) (h0 : Heap) (n0 : Nat) (Z0 : n0 ≤ h0.size) (U : FU Z h0 u em fr fb go ps ns fs lb sb bl pv nx pt qs ms gc 0 fc sp) (ho : ORD u em fr fb go ps ns fs lb sb bl pv nx pt qs ms) (gu : n0 ≤ u) :
    MetFree l (⟨"com/example/lockstep/lockstep/check/StepGroups", "newStamp", "()J"⟩ : MethodName) (head1 (Jvm.Cond.code (⟨"com/example/lockstep/lockstep/check/StepGroups", "newStamp", "()J"⟩ : MethodName) prog_76_method_2_code 2 (some .long) :: ws) ({ frames := 0, cells := 0, slots := 0, locals := 0 } : Room)) (fun a U => a = #[(.ref u)] ∧ Z.Warmed39 U.vm ∧ U.heap = h0) (fun _ _ _ _ _ => True) (fun _ U o U' => ∃ v L, o = .returned v ∧ (QS Z n0 h0 u em fr fb go ps ns fs lb sb bl pv nx pt qs ms gc fc (sp + 1)) v U'.heap L ∧ FrameEnd U o U' L ({ frames := 0, cells := 0, slots := 0, locals := 0 } : Room).cells ({ frames := 0, cells := 0, slots := 0, locals := 0 } : Room).slots) := by
  refine MetFree.of_bodySF (plainFor_of_name pnS) hisR ?_
  intro p e s m args below meth c s₁ Bd hml0 hP hK
  obtain ⟨rfl, hZ, hh⟩ := hP
  have hx := Bd.exec
  have hby := Bd.bytes
  have hml : c.maxLocals = 2 := hml0
  have hown : s.vm.findClass "com/example/lockstep/lockstep/check/StepGroups" = some m.cls := findClass_of_methodNamed Bd.named
  have hnm := (name_of_methodNamed Bd.named Bd.method).1
  have X0 : Stand p l e ({ frames := 0, cells := 0, slots := 0, locals := 0 } : Room) s m #[(.ref u)] below meth c s₁ [] 0 0 := Stand.of_body Bd
  have e0 : s₁.heap = h0 := by rw [← hh, Bd.state]; rfl
  have N0 := Fr.nil n0
  show OGo p e below (Out s ({ frames := 0, cells := 0, slots := 0, locals := 0 } : Room).cells ({ frames := 0, cells := 0, slots := 0, locals := 0 } : Room).slots ((QS Z n0 h0 u em fr fb go ps ns fs lb sb bl pv nx pt qs ms gc fc (sp + 1)))) (s₁.setTop (entryFrame m #[(.ref u)] 2))
  have ho0 := ho; obtain ⟨o1, o2, o3, o4, o5, o6, o7, o8, o9, o10, o11, o12, o13, o14, o15⟩ := ho
  obtain ⟨E0, F0_emptied, F0_free, F0_firstOfBlock, F0_groupOf, F0_previousStep, F0_nextStep, F0_firstStep, F0_label, F0_superBlock, F0_block, F0_previous, F0_next, F0_partner, F0_partnerStamp, F0_markStamp, F0_groupCount, F0_emptiedCount, F0_freeCount, F0_stamp⟩ := U
  refine OGo.st (fun t kk => castTop (efS m u) kk) ?_
  show OGo p e below (Out s ({ frames := 0, cells := 0, slots := 0, locals := 0 } : Room).cells ({ frames := 0, cells := 0, slots := 0, locals := 0 } : Room).slots ((QS Z n0 h0 u em fr fb go ps ns fs lb sb bl pv nx pt qs ms gc fc (sp + 1)))) (s₁.setTop (mkF m 0 #[vr u, .unset] []))
  refine OGo.st (fun t kk => XS.iconst X0.here hx rfl (hb hby dS_0) kk) ?_
  show OGo p e below _ (s₁.setTop (mkF m 1 #[vr u, .unset] [(.int (0 : Int32))]))
  refine OGo.st (fun t kk => XS.istoreN X0.here hx rfl (hb hby dS_1) rfl (l' := #[vr u, vi (0 : Int32)]) rfl kk) ?_
  show OGo p e below _ (s₁.setTop (mkF m 2 #[vr u, vi (0 : Int32)] []))
  refine OGo.st (fun t kk => XS.iloadN X0.here hx rfl (hb hby dS_2) rfl kk) ?_
  show OGo p e below _ (s₁.setTop (mkF m 3 #[vr u, vi (0 : Int32)] [(.int (0 : Int32))]))
  refine OGo.st (fun t kk => XS.aloadN X0.here hx rfl (hb hby dS_3) rfl rfl kk) ?_
  show OGo p e below _ (s₁.setTop (mkF m 4 #[vr u, vi (0 : Int32)] [(.ref u), (.int (0 : Int32))]))
  obtain ⟨T1, X1, e1, st1⟩ := getF X0 hx hZ hown (host := "") (Or.inl (hw _ (List.mem_of_getElem? (i := 71) rfl))) Via.refl e0 F0_emptiedCount (g := (mkF m 4 #[vr u, vi (0 : Int32)] [(.ref u), (.int (0 : Int32))])) rfl rfl (hb hby dS_4)
  refine OGo.st (fun t kk => st1 t kk) ?_
  show OGo p e below _ (T1.setTop (mkF m 7 #[vr u, vi (0 : Int32)] [(.int (0 : Int32)), (.int (0 : Int32))]))
  refine OGo.st (fun t kk => XS.icmpYes X1.here hx rfl (pc0 := 7) (pc' := 75) rfl (hb hby dS_7) rfl (flt (by decide : ¬ ((0 : Int32) < (0 : Int32)))).2.1 (by decide) (by decide) kk) ?_
  show OGo p e below _ (T1.setTop (mkF m 75 #[vr u, vi (0 : Int32)] []))
  refine OGo.st (fun t kk => XS.aloadN X1.here hx rfl (hb hby dS_75) rfl rfl kk) ?_
  show OGo p e below _ (T1.setTop (mkF m 76 #[vr u, vi (0 : Int32)] [(.ref u)]))
  refine OGo.st (fun t kk => XS.iconst X1.here hx rfl (hb hby dS_76) kk) ?_
  show OGo p e below _ (T1.setTop (mkF m 77 #[vr u, vi (0 : Int32)] [(.int (0 : Int32)), (.ref u)]))
  obtain ⟨T2, h2, X2, e2, W2, st2⟩ := putF X1 hx hZ hown (host := "") (Or.inl (hw _ (List.mem_of_getElem? (i := 71) rfl))) Via.refl e1 F0_emptiedCount E0 (Or.inl (hw _ (List.mem_of_getElem? (i := 72) rfl))) (hw _ (List.mem_of_getElem? (i := 2) rfl)) (ty := .int) (by decide) rfl rfl (g := (mkF m 77 #[vr u, vi (0 : Int32)] [(.int (0 : Int32)), (.ref u)])) rfl rfl (hb hby dS_77)
  have Fw2 := F0_emptiedCount.same W2
  have N2 := Fr.snoc X2 N0 gu
  have Z2 : n0 ≤ h2.size := Nat.le_trans Z0 (Keep.of_wr W2).1
  have K2 : Keep h0 h2 [u] := (Keep.refl h0 _).wr W2 (Or.inl (List.mem_of_getElem? (i := 0) rfl))
  obtain ⟨lo2, X2, N2⟩ : ∃ L, Stand p l e ({ frames := 0, cells := 0, slots := 0, locals := 0 } : Room) s m #[(.ref u)] below meth c T2 L 0 0 ∧ Fr n0 L := ⟨_, X2, N2⟩
  refine OGo.st (fun t kk => st2 t kk) ?_
  show OGo p e below _ (T2.setTop (mkF m 80 #[vr u, vi (0 : Int32)] []))
  refine OGo.st (fun t kk => XS.aloadN X2.here hx rfl (hb hby dS_80) rfl rfl kk) ?_
  show OGo p e below _ (T2.setTop (mkF m 81 #[vr u, vi (0 : Int32)] [(.ref u)]))
  refine OGo.st (fun t kk => XS.dup X2.here hx rfl (hb hby dS_81) rfl rfl kk) ?_
  show OGo p e below _ (T2.setTop (mkF m 82 #[vr u, vi (0 : Int32)] [(.ref u), (.ref u)]))
  have c3 := (F0_stamp.other W2 (Or.inr (slot_ne (Or.inl (hw _ (List.mem_of_getElem? (i := 74) rfl))) (Or.inl (hw _ (List.mem_of_getElem? (i := 72) rfl))) (by decide) (t := .long) (t' := .int) (by decide) (by decide))))
  obtain ⟨T4, X4, e4, st4⟩ := getF X2 hx hZ hown (host := "") (Or.inl (hw _ (List.mem_of_getElem? (i := 73) rfl))) Via.refl e2 c3 (g := (mkF m 82 #[vr u, vi (0 : Int32)] [(.ref u), (.ref u)])) rfl rfl (hb hby dS_82)
  refine OGo.st (fun t kk => st4 t kk) ?_
  show OGo p e below _ (T4.setTop (mkF m 85 #[vr u, vi (0 : Int32)] [(.long sp), (.ref u)]))
  refine OGo.st (fun t kk => XS.lconst X4.here hx rfl (hb hby dS_85) kk) ?_
  show OGo p e below _ (T4.setTop (mkF m 86 #[vr u, vi (0 : Int32)] [(.long (1 : Int64)), (.long sp), (.ref u)]))
  refine OGo.st (fun t kk => XS.ladd X4.here hx rfl (hb hby dS_86) rfl kk) ?_
  show OGo p e below _ (T4.setTop (mkF m 87 #[vr u, vi (0 : Int32)] [(.long (sp + (1 : Int64))), (.ref u)]))
  refine OGo.st (fun t kk => odup2x1 X4.here hx rfl (hb hby dS_87) rfl kk) ?_
  show OGo p e below _ (T4.setTop (mkF m 88 #[vr u, vi (0 : Int32)] [(.long (sp + (1 : Int64))), (.ref u), (.long (sp + (1 : Int64)))]))
  have c5 := (E0.wr W2)
  obtain ⟨T6, h6, X6, e6, W6, st6⟩ := putF X4 hx hZ hown (host := "") (Or.inl (hw _ (List.mem_of_getElem? (i := 73) rfl))) Via.refl e4 c3 c5 (Or.inl (hw _ (List.mem_of_getElem? (i := 74) rfl))) (hw _ (List.mem_of_getElem? (i := 2) rfl)) (ty := .long) (by decide) rfl rfl (g := (mkF m 88 #[vr u, vi (0 : Int32)] [(.long (sp + (1 : Int64))), (.ref u), (.long (sp + (1 : Int64)))])) rfl rfl (hb hby dS_88)
  have Fw6 := c3.same W6
  have N6 := Fr.snoc X6 N2 gu
  have Z6 : n0 ≤ h6.size := Nat.le_trans Z2 (Keep.of_wr W6).1
  have K6 : Keep h0 h6 [u] := K2.wr W6 (Or.inl (List.mem_of_getElem? (i := 0) rfl))
  obtain ⟨lo6, X6, N6⟩ : ∃ L, Stand p l e ({ frames := 0, cells := 0, slots := 0, locals := 0 } : Room) s m #[(.ref u)] below meth c T6 L 0 0 ∧ Fr n0 L := ⟨_, X6, N6⟩
  refine OGo.st (fun t kk => st6 t kk) ?_
  show OGo p e below _ (T6.setTop (mkF m 91 #[vr u, vi (0 : Int32)] [(.long (sp + (1 : Int64)))]))
  have c7 := (c5.wr W6)
  have c8 := ((F0_emptied.other W2 (Or.inr (slot_ne (Or.inl (hw _ (List.mem_of_getElem? (i := 12) rfl))) (Or.inl (hw _ (List.mem_of_getElem? (i := 72) rfl))) (by decide) (t := (.array .int)) (t' := .int) (by decide) (by decide)))).other W6 (Or.inr (slot_ne (Or.inl (hw _ (List.mem_of_getElem? (i := 12) rfl))) (Or.inl (hw _ (List.mem_of_getElem? (i := 74) rfl))) (by decide) (t := (.array .int)) (t' := .long) (by decide) (by decide))))
  have c9 := ((F0_free.other W2 (Or.inr (slot_ne (Or.inl (hw _ (List.mem_of_getElem? (i := 14) rfl))) (Or.inl (hw _ (List.mem_of_getElem? (i := 72) rfl))) (by decide) (t := (.array .int)) (t' := .int) (by decide) (by decide)))).other W6 (Or.inr (slot_ne (Or.inl (hw _ (List.mem_of_getElem? (i := 14) rfl))) (Or.inl (hw _ (List.mem_of_getElem? (i := 74) rfl))) (by decide) (t := (.array .int)) (t' := .long) (by decide) (by decide))))
  have c10 := ((F0_firstOfBlock.other W2 (Or.inr (slot_ne (Or.inl (hw _ (List.mem_of_getElem? (i := 16) rfl))) (Or.inl (hw _ (List.mem_of_getElem? (i := 72) rfl))) (by decide) (t := (.array .int)) (t' := .int) (by decide) (by decide)))).other W6 (Or.inr (slot_ne (Or.inl (hw _ (List.mem_of_getElem? (i := 16) rfl))) (Or.inl (hw _ (List.mem_of_getElem? (i := 74) rfl))) (by decide) (t := (.array .int)) (t' := .long) (by decide) (by decide))))
  have c11 := ((F0_groupOf.other W2 (Or.inr (slot_ne (Or.inr (hw _ (List.mem_of_getElem? (i := 23) rfl))) (Or.inl (hw _ (List.mem_of_getElem? (i := 72) rfl))) (by decide) (t := (.array .int)) (t' := .int) (by decide) (by decide)))).other W6 (Or.inr (slot_ne (Or.inr (hw _ (List.mem_of_getElem? (i := 23) rfl))) (Or.inl (hw _ (List.mem_of_getElem? (i := 74) rfl))) (by decide) (t := (.array .int)) (t' := .long) (by decide) (by decide))))
  have c12 := ((F0_previousStep.other W2 (Or.inr (slot_ne (Or.inr (hw _ (List.mem_of_getElem? (i := 25) rfl))) (Or.inl (hw _ (List.mem_of_getElem? (i := 72) rfl))) (by decide) (t := (.array .int)) (t' := .int) (by decide) (by decide)))).other W6 (Or.inr (slot_ne (Or.inr (hw _ (List.mem_of_getElem? (i := 25) rfl))) (Or.inl (hw _ (List.mem_of_getElem? (i := 74) rfl))) (by decide) (t := (.array .int)) (t' := .long) (by decide) (by decide))))
  have c13 := ((F0_nextStep.other W2 (Or.inr (slot_ne (Or.inr (hw _ (List.mem_of_getElem? (i := 27) rfl))) (Or.inl (hw _ (List.mem_of_getElem? (i := 72) rfl))) (by decide) (t := (.array .int)) (t' := .int) (by decide) (by decide)))).other W6 (Or.inr (slot_ne (Or.inr (hw _ (List.mem_of_getElem? (i := 27) rfl))) (Or.inl (hw _ (List.mem_of_getElem? (i := 74) rfl))) (by decide) (t := (.array .int)) (t' := .long) (by decide) (by decide))))
  have c14 := ((F0_firstStep.other W2 (Or.inr (slot_ne (Or.inl (hw _ (List.mem_of_getElem? (i := 33) rfl))) (Or.inl (hw _ (List.mem_of_getElem? (i := 72) rfl))) (by decide) (t := (.array .int)) (t' := .int) (by decide) (by decide)))).other W6 (Or.inr (slot_ne (Or.inl (hw _ (List.mem_of_getElem? (i := 33) rfl))) (Or.inl (hw _ (List.mem_of_getElem? (i := 74) rfl))) (by decide) (t := (.array .int)) (t' := .long) (by decide) (by decide))))
  have c15 := ((F0_label.other W2 (Or.inr (slot_ne (Or.inl (hw _ (List.mem_of_getElem? (i := 35) rfl))) (Or.inl (hw _ (List.mem_of_getElem? (i := 72) rfl))) (by decide) (t := (.array .int)) (t' := .int) (by decide) (by decide)))).other W6 (Or.inr (slot_ne (Or.inl (hw _ (List.mem_of_getElem? (i := 35) rfl))) (Or.inl (hw _ (List.mem_of_getElem? (i := 74) rfl))) (by decide) (t := (.array .int)) (t' := .long) (by decide) (by decide))))
  have c16 := ((F0_superBlock.other W2 (Or.inr (slot_ne (Or.inl (hw _ (List.mem_of_getElem? (i := 37) rfl))) (Or.inl (hw _ (List.mem_of_getElem? (i := 72) rfl))) (by decide) (t := (.array .int)) (t' := .int) (by decide) (by decide)))).other W6 (Or.inr (slot_ne (Or.inl (hw _ (List.mem_of_getElem? (i := 37) rfl))) (Or.inl (hw _ (List.mem_of_getElem? (i := 74) rfl))) (by decide) (t := (.array .int)) (t' := .long) (by decide) (by decide))))
  have c17 := ((F0_block.other W2 (Or.inr (slot_ne (Or.inl (hw _ (List.mem_of_getElem? (i := 39) rfl))) (Or.inl (hw _ (List.mem_of_getElem? (i := 72) rfl))) (by decide) (t := (.array .int)) (t' := .int) (by decide) (by decide)))).other W6 (Or.inr (slot_ne (Or.inl (hw _ (List.mem_of_getElem? (i := 39) rfl))) (Or.inl (hw _ (List.mem_of_getElem? (i := 74) rfl))) (by decide) (t := (.array .int)) (t' := .long) (by decide) (by decide))))
  have c18 := ((F0_previous.other W2 (Or.inr (slot_ne (Or.inl (hw _ (List.mem_of_getElem? (i := 41) rfl))) (Or.inl (hw _ (List.mem_of_getElem? (i := 72) rfl))) (by decide) (t := (.array .int)) (t' := .int) (by decide) (by decide)))).other W6 (Or.inr (slot_ne (Or.inl (hw _ (List.mem_of_getElem? (i := 41) rfl))) (Or.inl (hw _ (List.mem_of_getElem? (i := 74) rfl))) (by decide) (t := (.array .int)) (t' := .long) (by decide) (by decide))))
  have c19 := ((F0_next.other W2 (Or.inr (slot_ne (Or.inl (hw _ (List.mem_of_getElem? (i := 43) rfl))) (Or.inl (hw _ (List.mem_of_getElem? (i := 72) rfl))) (by decide) (t := (.array .int)) (t' := .int) (by decide) (by decide)))).other W6 (Or.inr (slot_ne (Or.inl (hw _ (List.mem_of_getElem? (i := 43) rfl))) (Or.inl (hw _ (List.mem_of_getElem? (i := 74) rfl))) (by decide) (t := (.array .int)) (t' := .long) (by decide) (by decide))))
  have c20 := ((F0_partner.other W2 (Or.inr (slot_ne (Or.inl (hw _ (List.mem_of_getElem? (i := 45) rfl))) (Or.inl (hw _ (List.mem_of_getElem? (i := 72) rfl))) (by decide) (t := (.array .int)) (t' := .int) (by decide) (by decide)))).other W6 (Or.inr (slot_ne (Or.inl (hw _ (List.mem_of_getElem? (i := 45) rfl))) (Or.inl (hw _ (List.mem_of_getElem? (i := 74) rfl))) (by decide) (t := (.array .int)) (t' := .long) (by decide) (by decide))))
  have c21 := ((F0_partnerStamp.other W2 (Or.inr (slot_ne (Or.inl (hw _ (List.mem_of_getElem? (i := 47) rfl))) (Or.inl (hw _ (List.mem_of_getElem? (i := 72) rfl))) (by decide) (t := (.array .long)) (t' := .int) (by decide) (by decide)))).other W6 (Or.inr (slot_ne (Or.inl (hw _ (List.mem_of_getElem? (i := 47) rfl))) (Or.inl (hw _ (List.mem_of_getElem? (i := 74) rfl))) (by decide) (t := (.array .long)) (t' := .long) (by decide) (by decide))))
  have c22 := ((F0_markStamp.other W2 (Or.inr (slot_ne (Or.inl (hw _ (List.mem_of_getElem? (i := 49) rfl))) (Or.inl (hw _ (List.mem_of_getElem? (i := 72) rfl))) (by decide) (t := (.array .long)) (t' := .int) (by decide) (by decide)))).other W6 (Or.inr (slot_ne (Or.inl (hw _ (List.mem_of_getElem? (i := 49) rfl))) (Or.inl (hw _ (List.mem_of_getElem? (i := 74) rfl))) (by decide) (t := (.array .long)) (t' := .long) (by decide) (by decide))))
  have c23 := ((F0_groupCount.other W2 (Or.inr (slot_ne (Or.inl (hw _ (List.mem_of_getElem? (i := 61) rfl))) (Or.inl (hw _ (List.mem_of_getElem? (i := 72) rfl))) (by decide) (t := .int) (t' := .int) (by decide) (by decide)))).other W6 (Or.inr (slot_ne (Or.inl (hw _ (List.mem_of_getElem? (i := 61) rfl))) (Or.inl (hw _ (List.mem_of_getElem? (i := 74) rfl))) (by decide) (t := .int) (t' := .long) (by decide) (by decide))))
  have c24 := (Fw2.other W6 (Or.inr (slot_ne (Or.inl (hw _ (List.mem_of_getElem? (i := 72) rfl))) (Or.inl (hw _ (List.mem_of_getElem? (i := 74) rfl))) (by decide) (t := .int) (t' := .long) (by decide) (by decide))))
  have c25 := ((F0_freeCount.other W2 (Or.inr (slot_ne (Or.inl (hw _ (List.mem_of_getElem? (i := 59) rfl))) (Or.inl (hw _ (List.mem_of_getElem? (i := 72) rfl))) (by decide) (t := .int) (t' := .int) (by decide) (by decide)))).other W6 (Or.inr (slot_ne (Or.inl (hw _ (List.mem_of_getElem? (i := 59) rfl))) (Or.inl (hw _ (List.mem_of_getElem? (i := 74) rfl))) (by decide) (t := .int) (t' := .long) (by decide) (by decide))))
  refine OGo.outJ X6 hx Bd.returns Bd.notSynchronized (hb hby dS_91) ?_ (by decide) (by decide)
  rw [e6]
  exact ⟨rfl, N6, Z6, K6, ⟨c7, c8, c9, c10, c11, c12, c13, c14, c15, c16, c17, c18, c19, c20, c21, c22, c23, c24, c25, Fw6⟩⟩
def QN (n0 : Nat) (h0 : Heap) (ws : List Addr) (v : Option Value) (h : Heap) (L : List Loc) : Prop := v = none ∧ Fr n0 L ∧ n0 ≤ h.size ∧ Keep h0 h ws
theorem dU_0 : decode prog_76_method_20_code 0 = .ok (.aload_n 0, 1) := by decide +kernel
theorem dU_1 : decode prog_76_method_20_code 1 = .ok (.getfield 53, 3) := by decide +kernel
theorem dU_4 : decode prog_76_method_20_code 4 = .ok (.iload_n 1, 1) := by decide +kernel
theorem dU_5 : decode prog_76_method_20_code 5 = .ok (.iaload, 1) := by decide +kernel
theorem dU_6 : decode prog_76_method_20_code 6 = .ok (.istore_n 2, 1) := by decide +kernel
theorem dU_7 : decode prog_76_method_20_code 7 = .ok (.aload_n 0, 1) := by decide +kernel
theorem dU_8 : decode prog_76_method_20_code 8 = .ok (.getfield 56, 3) := by decide +kernel
theorem dU_11 : decode prog_76_method_20_code 11 = .ok (.iload_n 1, 1) := by decide +kernel
theorem dU_12 : decode prog_76_method_20_code 12 = .ok (.iaload, 1) := by decide +kernel
theorem dU_13 : decode prog_76_method_20_code 13 = .ok (.istore_n 3, 1) := by decide +kernel
theorem dU_14 : decode prog_76_method_20_code 14 = .ok (.iload_n 2, 1) := by decide +kernel
theorem dU_15 : decode prog_76_method_20_code 15 = .ok (.iconst (-1), 1) := by decide +kernel
theorem dU_16 : decode prog_76_method_20_code 16 = .ok (.if_icmp .ne 18, 3) := by decide +kernel
theorem dU_19 : decode prog_76_method_20_code 19 = .ok (.aload_n 0, 1) := by decide +kernel
theorem dU_20 : decode prog_76_method_20_code 20 = .ok (.getfield 16, 3) := by decide +kernel
theorem dU_23 : decode prog_76_method_20_code 23 = .ok (.aload_n 0, 1) := by decide +kernel
theorem dU_24 : decode prog_76_method_20_code 24 = .ok (.getfield 50, 3) := by decide +kernel
theorem dU_27 : decode prog_76_method_20_code 27 = .ok (.iload_n 1, 1) := by decide +kernel
theorem dU_28 : decode prog_76_method_20_code 28 = .ok (.iaload, 1) := by decide +kernel
theorem dU_29 : decode prog_76_method_20_code 29 = .ok (.iload_n 3, 1) := by decide +kernel
theorem dU_30 : decode prog_76_method_20_code 30 = .ok (.iastore, 1) := by decide +kernel
theorem dU_31 : decode prog_76_method_20_code 31 = .ok (.goto 10, 3) := by decide +kernel
theorem dU_34 : decode prog_76_method_20_code 34 = .ok (.aload_n 0, 1) := by decide +kernel
theorem dU_35 : decode prog_76_method_20_code 35 = .ok (.getfield 56, 3) := by decide +kernel
theorem dU_38 : decode prog_76_method_20_code 38 = .ok (.iload_n 2, 1) := by decide +kernel
theorem dU_39 : decode prog_76_method_20_code 39 = .ok (.iload_n 3, 1) := by decide +kernel
theorem dU_40 : decode prog_76_method_20_code 40 = .ok (.iastore, 1) := by decide +kernel
theorem dU_41 : decode prog_76_method_20_code 41 = .ok (.iload_n 3, 1) := by decide +kernel
theorem dU_42 : decode prog_76_method_20_code 42 = .ok (.iconst (-1), 1) := by decide +kernel
theorem dU_43 : decode prog_76_method_20_code 43 = .ok (.if_icmp .eq 10, 3) := by decide +kernel
theorem dU_53 : decode prog_76_method_20_code 53 = .ok (.return_, 1) := by decide +kernel
theorem pnU : plainName "com/example/lockstep/lockstep/check/StepGroups" = true := by first | (simp [plainName, overriddenIn]; done) | decide +kernel
theorem efU (m : MethodId) (u : Addr) : entryFrame m #[(.ref u), (.int (0 : Int32))] 4 = mkF m 0 #[.val (.ref u), .val (.int (0 : Int32)), .unset, .unset] [] := by first | (simp [entryFrame, mkF, argsToLocals, Value.category]; done) | rfl
set_option maxRecDepth 65536 in
set_option maxHeartbeats 40000000 in
theorem rmU (l : Launch) (Z : State) (a0 : Array Value) (hw : ∀ d ∈ tables_1, d.before a0 Z = true) (ws : List Jvm.Cond) (u : Addr) (em : Addr) (fr : Addr) (fb : Addr) (go : Addr) (ps : Addr) (ns : Addr) (fs : Addr) (lb : Addr) (sb : Addr) (bl : Addr) (pv : Addr) (nx : Addr) (pt : Addr) (qs : Addr) (ms : Addr) (gc : Int32) (ec : Int32) (fc : Int32) (sp : Int64) (fpv : Nat → Int32) (fnx : Nat → Int32) (fbl : Nat → Int32) (ffb : Nat → Int32) (h0 : Heap) (n0 : Nat) (Z0 : n0 ≤ h0.size) (U : FU Z h0 u em fr fb go ps ns fs lb sb bl pv nx pt qs ms gc ec fc sp) (ho : ORD u em fr fb go ps ns fs lb sb bl pv nx pt qs ms) (gu : n0 ≤ u) (O_pv : OA Z h0 pv .int 16 fpv) (O_nx : OA Z h0 nx .int 16 fnx) (O_bl : OA Z h0 bl .int 16 fbl) (O_fb : OA Z h0 fb .int 16 ffb) (hp : fpv 0 = -1 ∨ fpv 0 = 1) (hn : fnx 0 = -1) (hbq : fbl 0 = 0) :
    MetFree l (⟨"com/example/lockstep/lockstep/check/StepGroups", "unlink", "(I)V"⟩ : MethodName) (head1 (Jvm.Cond.code (⟨"com/example/lockstep/lockstep/check/StepGroups", "unlink", "(I)V"⟩ : MethodName) prog_76_method_20_code 4 none :: ws) ({ frames := 0, cells := 0, slots := 0, locals := 0 } : Room)) (fun a U => a = #[(.ref u), (.int (0 : Int32))] ∧ Z.Warmed39 U.vm ∧ U.heap = h0) (fun _ _ _ _ _ => True) (fun _ U o U' => ∃ v L, o = .returned v ∧ (QN n0 h0 [fb, nx]) v U'.heap L ∧ FrameEnd U o U' L ({ frames := 0, cells := 0, slots := 0, locals := 0 } : Room).cells ({ frames := 0, cells := 0, slots := 0, locals := 0 } : Room).slots) := by
  refine MetFree.of_bodySF (plainFor_of_name pnU) hisR ?_
  intro p e s m args below meth c s₁ Bd hml0 hP hK
  obtain ⟨rfl, hZ, hh⟩ := hP
  have hx := Bd.exec
  have hby := Bd.bytes
  have hml : c.maxLocals = 4 := hml0
  have hown : s.vm.findClass "com/example/lockstep/lockstep/check/StepGroups" = some m.cls := findClass_of_methodNamed Bd.named
  have hnm := (name_of_methodNamed Bd.named Bd.method).1
  have X0 : Stand p l e ({ frames := 0, cells := 0, slots := 0, locals := 0 } : Room) s m #[(.ref u), (.int (0 : Int32))] below meth c s₁ [] 0 0 := Stand.of_body Bd
  have e0 : s₁.heap = h0 := by rw [← hh, Bd.state]; rfl
  have N0 := Fr.nil n0
  show OGo p e below (Out s ({ frames := 0, cells := 0, slots := 0, locals := 0 } : Room).cells ({ frames := 0, cells := 0, slots := 0, locals := 0 } : Room).slots ((QN n0 h0 [fb, nx]))) (s₁.setTop (entryFrame m #[(.ref u), (.int (0 : Int32))] 4))
  have ho0 := ho; obtain ⟨o1, o2, o3, o4, o5, o6, o7, o8, o9, o10, o11, o12, o13, o14, o15⟩ := ho
  obtain ⟨E0, F0_emptied, F0_free, F0_firstOfBlock, F0_groupOf, F0_previousStep, F0_nextStep, F0_firstStep, F0_label, F0_superBlock, F0_block, F0_previous, F0_next, F0_partner, F0_partnerStamp, F0_markStamp, F0_groupCount, F0_emptiedCount, F0_freeCount, F0_stamp⟩ := U
  have g_fb : n0 ≤ fb := by omega
  have g_nx : n0 ≤ nx := by omega
  refine OGo.st (fun t kk => castTop (efU m u) kk) ?_
  show OGo p e below (Out s ({ frames := 0, cells := 0, slots := 0, locals := 0 } : Room).cells ({ frames := 0, cells := 0, slots := 0, locals := 0 } : Room).slots ((QN n0 h0 [fb, nx]))) (s₁.setTop (mkF m 0 #[vr u, vi (0 : Int32), .unset, .unset] []))
  rcases hp with hp | hp
  · have _ := trivial
    refine OGo.st (fun t kk => XS.aloadN X0.here hx rfl (hb hby dU_0) rfl rfl kk) ?_
    show OGo p e below _ (s₁.setTop (mkF m 1 #[vr u, vi (0 : Int32), .unset, .unset] [(.ref u)]))
    obtain ⟨T1, X1, e1, st1⟩ := getF X0 hx hZ hown (host := "") (Or.inl (hw _ (List.mem_of_getElem? (i := 40) rfl))) Via.refl e0 F0_previous (g := (mkF m 1 #[vr u, vi (0 : Int32), .unset, .unset] [(.ref u)])) rfl rfl (hb hby dU_1)
    refine OGo.st (fun t kk => st1 t kk) ?_
    show OGo p e below _ (T1.setTop (mkF m 4 #[vr u, vi (0 : Int32), .unset, .unset] [(.ref pv)]))
    refine OGo.st (fun t kk => XS.iloadN X1.here hx rfl (hb hby dU_4) rfl kk) ?_
    show OGo p e below _ (T1.setTop (mkF m 5 #[vr u, vi (0 : Int32), .unset, .unset] [(.int (0 : Int32)), (.ref pv)]))
    refine OGo.st (fun t kk => OA.ldI X1 hx hZ e1 O_pv (j := (0 : Int32)) (k := 0) (by decide) (by decide) (by decide) (g := (mkF m 5 #[vr u, vi (0 : Int32), .unset, .unset] [(.int (0 : Int32)), (.ref pv)])) rfl rfl (hb hby dU_5) t kk) ?_
    show OGo p e below _ (T1.setTop (mkF m 6 #[vr u, vi (0 : Int32), .unset, .unset] [(.int (fpv 0))]))
    rw [hp]
    show OGo p e below _ (T1.setTop (mkF m 6 #[vr u, vi (0 : Int32), .unset, .unset] [(.int (-1 : Int32))]))
    refine OGo.st (fun t kk => XS.istoreN X1.here hx rfl (hb hby dU_6) rfl (l' := #[vr u, vi (0 : Int32), vi (-1 : Int32), .unset]) rfl kk) ?_
    show OGo p e below _ (T1.setTop (mkF m 7 #[vr u, vi (0 : Int32), vi (-1 : Int32), .unset] []))
    refine OGo.st (fun t kk => XS.aloadN X1.here hx rfl (hb hby dU_7) rfl rfl kk) ?_
    show OGo p e below _ (T1.setTop (mkF m 8 #[vr u, vi (0 : Int32), vi (-1 : Int32), .unset] [(.ref u)]))
    obtain ⟨T2, X2, e2, st2⟩ := getF X1 hx hZ hown (host := "") (Or.inl (hw _ (List.mem_of_getElem? (i := 42) rfl))) Via.refl e1 F0_next (g := (mkF m 8 #[vr u, vi (0 : Int32), vi (-1 : Int32), .unset] [(.ref u)])) rfl rfl (hb hby dU_8)
    refine OGo.st (fun t kk => st2 t kk) ?_
    show OGo p e below _ (T2.setTop (mkF m 11 #[vr u, vi (0 : Int32), vi (-1 : Int32), .unset] [(.ref nx)]))
    refine OGo.st (fun t kk => XS.iloadN X2.here hx rfl (hb hby dU_11) rfl kk) ?_
    show OGo p e below _ (T2.setTop (mkF m 12 #[vr u, vi (0 : Int32), vi (-1 : Int32), .unset] [(.int (0 : Int32)), (.ref nx)]))
    refine OGo.st (fun t kk => OA.ldI X2 hx hZ e2 O_nx (j := (0 : Int32)) (k := 0) (by decide) (by decide) (by decide) (g := (mkF m 12 #[vr u, vi (0 : Int32), vi (-1 : Int32), .unset] [(.int (0 : Int32)), (.ref nx)])) rfl rfl (hb hby dU_12) t kk) ?_
    show OGo p e below _ (T2.setTop (mkF m 13 #[vr u, vi (0 : Int32), vi (-1 : Int32), .unset] [(.int (fnx 0))]))
    rw [hn]
    show OGo p e below _ (T2.setTop (mkF m 13 #[vr u, vi (0 : Int32), vi (-1 : Int32), .unset] [(.int (-1 : Int32))]))
    refine OGo.st (fun t kk => XS.istoreN X2.here hx rfl (hb hby dU_13) rfl (l' := #[vr u, vi (0 : Int32), vi (-1 : Int32), vi (-1 : Int32)]) rfl kk) ?_
    show OGo p e below _ (T2.setTop (mkF m 14 #[vr u, vi (0 : Int32), vi (-1 : Int32), vi (-1 : Int32)] []))
    refine OGo.st (fun t kk => XS.iloadN X2.here hx rfl (hb hby dU_14) rfl kk) ?_
    show OGo p e below _ (T2.setTop (mkF m 15 #[vr u, vi (0 : Int32), vi (-1 : Int32), vi (-1 : Int32)] [(.int (-1 : Int32))]))
    refine OGo.st (fun t kk => XS.iconst X2.here hx rfl (hb hby dU_15) kk) ?_
    show OGo p e below _ (T2.setTop (mkF m 16 #[vr u, vi (0 : Int32), vi (-1 : Int32), vi (-1 : Int32)] [(.int (-1 : Int32)), (.int (-1 : Int32))]))
    refine OGo.st (fun t kk => XS.icmpNo X2.here hx rfl (hb hby dU_16) rfl (teq (by decide : ((-1 : Int32) = (-1 : Int32)))).2 kk) ?_
    show OGo p e below _ (T2.setTop (mkF m 19 #[vr u, vi (0 : Int32), vi (-1 : Int32), vi (-1 : Int32)] []))
    refine OGo.st (fun t kk => XS.aloadN X2.here hx rfl (hb hby dU_19) rfl rfl kk) ?_
    show OGo p e below _ (T2.setTop (mkF m 20 #[vr u, vi (0 : Int32), vi (-1 : Int32), vi (-1 : Int32)] [(.ref u)]))
    obtain ⟨T3, X3, e3, st3⟩ := getF X2 hx hZ hown (host := "") (Or.inl (hw _ (List.mem_of_getElem? (i := 15) rfl))) Via.refl e2 F0_firstOfBlock (g := (mkF m 20 #[vr u, vi (0 : Int32), vi (-1 : Int32), vi (-1 : Int32)] [(.ref u)])) rfl rfl (hb hby dU_20)
    refine OGo.st (fun t kk => st3 t kk) ?_
    show OGo p e below _ (T3.setTop (mkF m 23 #[vr u, vi (0 : Int32), vi (-1 : Int32), vi (-1 : Int32)] [(.ref fb)]))
    refine OGo.st (fun t kk => XS.aloadN X3.here hx rfl (hb hby dU_23) rfl rfl kk) ?_
    show OGo p e below _ (T3.setTop (mkF m 24 #[vr u, vi (0 : Int32), vi (-1 : Int32), vi (-1 : Int32)] [(.ref u), (.ref fb)]))
    obtain ⟨T4, X4, e4, st4⟩ := getF X3 hx hZ hown (host := "") (Or.inl (hw _ (List.mem_of_getElem? (i := 38) rfl))) Via.refl e3 F0_block (g := (mkF m 24 #[vr u, vi (0 : Int32), vi (-1 : Int32), vi (-1 : Int32)] [(.ref u), (.ref fb)])) rfl rfl (hb hby dU_24)
    refine OGo.st (fun t kk => st4 t kk) ?_
    show OGo p e below _ (T4.setTop (mkF m 27 #[vr u, vi (0 : Int32), vi (-1 : Int32), vi (-1 : Int32)] [(.ref bl), (.ref fb)]))
    refine OGo.st (fun t kk => XS.iloadN X4.here hx rfl (hb hby dU_27) rfl kk) ?_
    show OGo p e below _ (T4.setTop (mkF m 28 #[vr u, vi (0 : Int32), vi (-1 : Int32), vi (-1 : Int32)] [(.int (0 : Int32)), (.ref bl), (.ref fb)]))
    refine OGo.st (fun t kk => OA.ldI X4 hx hZ e4 O_bl (j := (0 : Int32)) (k := 0) (by decide) (by decide) (by decide) (g := (mkF m 28 #[vr u, vi (0 : Int32), vi (-1 : Int32), vi (-1 : Int32)] [(.int (0 : Int32)), (.ref bl), (.ref fb)])) rfl rfl (hb hby dU_28) t kk) ?_
    show OGo p e below _ (T4.setTop (mkF m 29 #[vr u, vi (0 : Int32), vi (-1 : Int32), vi (-1 : Int32)] [(.int (fbl 0)), (.ref fb)]))
    rw [hbq]
    show OGo p e below _ (T4.setTop (mkF m 29 #[vr u, vi (0 : Int32), vi (-1 : Int32), vi (-1 : Int32)] [(.int (0 : Int32)), (.ref fb)]))
    refine OGo.st (fun t kk => XS.iloadN X4.here hx rfl (hb hby dU_29) rfl kk) ?_
    show OGo p e below _ (T4.setTop (mkF m 30 #[vr u, vi (0 : Int32), vi (-1 : Int32), vi (-1 : Int32)] [(.int (-1 : Int32)), (.int (0 : Int32)), (.ref fb)]))
    obtain ⟨T5, h5, X5, e5, W5, O5', st5⟩ := OA.stI X4 hx hZ e4 O_fb (j := (0 : Int32)) (x := (-1 : Int32)) (k := 0) (by decide) (by decide) (by decide) (g := (mkF m 30 #[vr u, vi (0 : Int32), vi (-1 : Int32), vi (-1 : Int32)] [(.int (-1 : Int32)), (.int (0 : Int32)), (.ref fb)])) rfl rfl (hb hby dU_30)
    have O5 := O5'
    have N5 := Fr.snoc X5 N0 g_fb
    have Z5 : n0 ≤ h5.size := Nat.le_trans Z0 (Keep.of_wr W5).1
    have K5 : Keep h0 h5 [fb, nx] := (Keep.refl h0 _).wr W5 (Or.inl (List.mem_of_getElem? (i := 0) rfl))
    obtain ⟨lo5, X5, N5⟩ : ∃ L, Stand p l e ({ frames := 0, cells := 0, slots := 0, locals := 0 } : Room) s m #[(.ref u), (.int (0 : Int32))] below meth c T5 L 0 0 ∧ Fr n0 L := ⟨_, X5, N5⟩
    refine OGo.st (fun t kk => st5 t kk) ?_
    show OGo p e below _ (T5.setTop (mkF m 31 #[vr u, vi (0 : Int32), vi (-1 : Int32), vi (-1 : Int32)] []))
    refine OGo.st (fun t kk => XS.goto X5.here hx rfl (pc0 := 31) (pc' := 41) rfl (hb hby dU_31) (by decide) (by decide) kk) ?_
    show OGo p e below _ (T5.setTop (mkF m 41 #[vr u, vi (0 : Int32), vi (-1 : Int32), vi (-1 : Int32)] []))
    refine OGo.st (fun t kk => XS.iloadN X5.here hx rfl (hb hby dU_41) rfl kk) ?_
    show OGo p e below _ (T5.setTop (mkF m 42 #[vr u, vi (0 : Int32), vi (-1 : Int32), vi (-1 : Int32)] [(.int (-1 : Int32))]))
    refine OGo.st (fun t kk => XS.iconst X5.here hx rfl (hb hby dU_42) kk) ?_
    show OGo p e below _ (T5.setTop (mkF m 43 #[vr u, vi (0 : Int32), vi (-1 : Int32), vi (-1 : Int32)] [(.int (-1 : Int32)), (.int (-1 : Int32))]))
    refine OGo.st (fun t kk => XS.icmpYes X5.here hx rfl (pc0 := 43) (pc' := 53) rfl (hb hby dU_43) rfl (teq (by decide : ((-1 : Int32) = (-1 : Int32)))).1 (by decide) (by decide) kk) ?_
    show OGo p e below _ (T5.setTop (mkF m 53 #[vr u, vi (0 : Int32), vi (-1 : Int32), vi (-1 : Int32)] []))
    refine OGo.outV X5 hx Bd.returns Bd.notSynchronized (hb hby dU_53) ?_ (by decide) (by decide)
    rw [e5]
    exact ⟨rfl, N5, Z5, K5⟩
  · have _ := trivial
    refine OGo.st (fun t kk => XS.aloadN X0.here hx rfl (hb hby dU_0) rfl rfl kk) ?_
    show OGo p e below _ (s₁.setTop (mkF m 1 #[vr u, vi (0 : Int32), .unset, .unset] [(.ref u)]))
    obtain ⟨T6, X6, e6, st6⟩ := getF X0 hx hZ hown (host := "") (Or.inl (hw _ (List.mem_of_getElem? (i := 40) rfl))) Via.refl e0 F0_previous (g := (mkF m 1 #[vr u, vi (0 : Int32), .unset, .unset] [(.ref u)])) rfl rfl (hb hby dU_1)
    refine OGo.st (fun t kk => st6 t kk) ?_
    show OGo p e below _ (T6.setTop (mkF m 4 #[vr u, vi (0 : Int32), .unset, .unset] [(.ref pv)]))
    refine OGo.st (fun t kk => XS.iloadN X6.here hx rfl (hb hby dU_4) rfl kk) ?_
    show OGo p e below _ (T6.setTop (mkF m 5 #[vr u, vi (0 : Int32), .unset, .unset] [(.int (0 : Int32)), (.ref pv)]))
    refine OGo.st (fun t kk => OA.ldI X6 hx hZ e6 O_pv (j := (0 : Int32)) (k := 0) (by decide) (by decide) (by decide) (g := (mkF m 5 #[vr u, vi (0 : Int32), .unset, .unset] [(.int (0 : Int32)), (.ref pv)])) rfl rfl (hb hby dU_5) t kk) ?_
    show OGo p e below _ (T6.setTop (mkF m 6 #[vr u, vi (0 : Int32), .unset, .unset] [(.int (fpv 0))]))
    rw [hp]
    show OGo p e below _ (T6.setTop (mkF m 6 #[vr u, vi (0 : Int32), .unset, .unset] [(.int (1 : Int32))]))
    refine OGo.st (fun t kk => XS.istoreN X6.here hx rfl (hb hby dU_6) rfl (l' := #[vr u, vi (0 : Int32), vi (1 : Int32), .unset]) rfl kk) ?_
    show OGo p e below _ (T6.setTop (mkF m 7 #[vr u, vi (0 : Int32), vi (1 : Int32), .unset] []))
    refine OGo.st (fun t kk => XS.aloadN X6.here hx rfl (hb hby dU_7) rfl rfl kk) ?_
    show OGo p e below _ (T6.setTop (mkF m 8 #[vr u, vi (0 : Int32), vi (1 : Int32), .unset] [(.ref u)]))
    obtain ⟨T7, X7, e7, st7⟩ := getF X6 hx hZ hown (host := "") (Or.inl (hw _ (List.mem_of_getElem? (i := 42) rfl))) Via.refl e6 F0_next (g := (mkF m 8 #[vr u, vi (0 : Int32), vi (1 : Int32), .unset] [(.ref u)])) rfl rfl (hb hby dU_8)
    refine OGo.st (fun t kk => st7 t kk) ?_
    show OGo p e below _ (T7.setTop (mkF m 11 #[vr u, vi (0 : Int32), vi (1 : Int32), .unset] [(.ref nx)]))
    refine OGo.st (fun t kk => XS.iloadN X7.here hx rfl (hb hby dU_11) rfl kk) ?_
    show OGo p e below _ (T7.setTop (mkF m 12 #[vr u, vi (0 : Int32), vi (1 : Int32), .unset] [(.int (0 : Int32)), (.ref nx)]))
    refine OGo.st (fun t kk => OA.ldI X7 hx hZ e7 O_nx (j := (0 : Int32)) (k := 0) (by decide) (by decide) (by decide) (g := (mkF m 12 #[vr u, vi (0 : Int32), vi (1 : Int32), .unset] [(.int (0 : Int32)), (.ref nx)])) rfl rfl (hb hby dU_12) t kk) ?_
    show OGo p e below _ (T7.setTop (mkF m 13 #[vr u, vi (0 : Int32), vi (1 : Int32), .unset] [(.int (fnx 0))]))
    rw [hn]
    show OGo p e below _ (T7.setTop (mkF m 13 #[vr u, vi (0 : Int32), vi (1 : Int32), .unset] [(.int (-1 : Int32))]))
    refine OGo.st (fun t kk => XS.istoreN X7.here hx rfl (hb hby dU_13) rfl (l' := #[vr u, vi (0 : Int32), vi (1 : Int32), vi (-1 : Int32)]) rfl kk) ?_
    show OGo p e below _ (T7.setTop (mkF m 14 #[vr u, vi (0 : Int32), vi (1 : Int32), vi (-1 : Int32)] []))
    refine OGo.st (fun t kk => XS.iloadN X7.here hx rfl (hb hby dU_14) rfl kk) ?_
    show OGo p e below _ (T7.setTop (mkF m 15 #[vr u, vi (0 : Int32), vi (1 : Int32), vi (-1 : Int32)] [(.int (1 : Int32))]))
    refine OGo.st (fun t kk => XS.iconst X7.here hx rfl (hb hby dU_15) kk) ?_
    show OGo p e below _ (T7.setTop (mkF m 16 #[vr u, vi (0 : Int32), vi (1 : Int32), vi (-1 : Int32)] [(.int (-1 : Int32)), (.int (1 : Int32))]))
    refine OGo.st (fun t kk => XS.icmpYes X7.here hx rfl (pc0 := 16) (pc' := 34) rfl (hb hby dU_16) rfl (feq (by decide : ¬ ((1 : Int32) = (-1 : Int32)))).2 (by decide) (by decide) kk) ?_
    show OGo p e below _ (T7.setTop (mkF m 34 #[vr u, vi (0 : Int32), vi (1 : Int32), vi (-1 : Int32)] []))
    refine OGo.st (fun t kk => XS.aloadN X7.here hx rfl (hb hby dU_34) rfl rfl kk) ?_
    show OGo p e below _ (T7.setTop (mkF m 35 #[vr u, vi (0 : Int32), vi (1 : Int32), vi (-1 : Int32)] [(.ref u)]))
    obtain ⟨T8, X8, e8, st8⟩ := getF X7 hx hZ hown (host := "") (Or.inl (hw _ (List.mem_of_getElem? (i := 42) rfl))) Via.refl e7 F0_next (g := (mkF m 35 #[vr u, vi (0 : Int32), vi (1 : Int32), vi (-1 : Int32)] [(.ref u)])) rfl rfl (hb hby dU_35)
    refine OGo.st (fun t kk => st8 t kk) ?_
    show OGo p e below _ (T8.setTop (mkF m 38 #[vr u, vi (0 : Int32), vi (1 : Int32), vi (-1 : Int32)] [(.ref nx)]))
    refine OGo.st (fun t kk => XS.iloadN X8.here hx rfl (hb hby dU_38) rfl kk) ?_
    show OGo p e below _ (T8.setTop (mkF m 39 #[vr u, vi (0 : Int32), vi (1 : Int32), vi (-1 : Int32)] [(.int (1 : Int32)), (.ref nx)]))
    refine OGo.st (fun t kk => XS.iloadN X8.here hx rfl (hb hby dU_39) rfl kk) ?_
    show OGo p e below _ (T8.setTop (mkF m 40 #[vr u, vi (0 : Int32), vi (1 : Int32), vi (-1 : Int32)] [(.int (-1 : Int32)), (.int (1 : Int32)), (.ref nx)]))
    obtain ⟨T9, h9, X9, e9, W9, O9', st9⟩ := OA.stI X8 hx hZ e8 O_nx (j := (1 : Int32)) (x := (-1 : Int32)) (k := 1) (by decide) (by decide) (by decide) (g := (mkF m 40 #[vr u, vi (0 : Int32), vi (1 : Int32), vi (-1 : Int32)] [(.int (-1 : Int32)), (.int (1 : Int32)), (.ref nx)])) rfl rfl (hb hby dU_40)
    have O9 := O9'
    have N9 := Fr.snoc X9 N0 g_nx
    have Z9 : n0 ≤ h9.size := Nat.le_trans Z0 (Keep.of_wr W9).1
    have K9 : Keep h0 h9 [fb, nx] := (Keep.refl h0 _).wr W9 (Or.inl (List.mem_of_getElem? (i := 1) rfl))
    obtain ⟨lo9, X9, N9⟩ : ∃ L, Stand p l e ({ frames := 0, cells := 0, slots := 0, locals := 0 } : Room) s m #[(.ref u), (.int (0 : Int32))] below meth c T9 L 0 0 ∧ Fr n0 L := ⟨_, X9, N9⟩
    refine OGo.st (fun t kk => st9 t kk) ?_
    show OGo p e below _ (T9.setTop (mkF m 41 #[vr u, vi (0 : Int32), vi (1 : Int32), vi (-1 : Int32)] []))
    refine OGo.st (fun t kk => XS.iloadN X9.here hx rfl (hb hby dU_41) rfl kk) ?_
    show OGo p e below _ (T9.setTop (mkF m 42 #[vr u, vi (0 : Int32), vi (1 : Int32), vi (-1 : Int32)] [(.int (-1 : Int32))]))
    refine OGo.st (fun t kk => XS.iconst X9.here hx rfl (hb hby dU_42) kk) ?_
    show OGo p e below _ (T9.setTop (mkF m 43 #[vr u, vi (0 : Int32), vi (1 : Int32), vi (-1 : Int32)] [(.int (-1 : Int32)), (.int (-1 : Int32))]))
    refine OGo.st (fun t kk => XS.icmpYes X9.here hx rfl (pc0 := 43) (pc' := 53) rfl (hb hby dU_43) rfl (teq (by decide : ((-1 : Int32) = (-1 : Int32)))).1 (by decide) (by decide) kk) ?_
    show OGo p e below _ (T9.setTop (mkF m 53 #[vr u, vi (0 : Int32), vi (1 : Int32), vi (-1 : Int32)] []))
    refine OGo.outV X9 hx Bd.returns Bd.notSynchronized (hb hby dU_53) ?_ (by decide) (by decide)
    rw [e9]
    exact ⟨rfl, N9, Z9, K9⟩
def QV (Z : State) (n0 : Nat) (u em fr fb go ps ns fs lb sb bl pv nx pt qs ms : Addr) (lab : Int32) (k : Nat) (sup : Int32) (v : Option Value) (h : Heap) (L : List Loc) : Prop := v = none ∧ Fr n0 L ∧ n0 ≤ h.size ∧ FU Z h u em fr fb go ps ns fs lb sb bl pv nx pt qs ms (Int32.ofNat (1 + 1)) 1 0 1 ∧ ∃ ffs flb fbl fsb : Nat → Int32, OA Z h fs .int 16 ffs ∧ OA Z h lb .int 16 flb ∧ OA Z h bl .int 16 fbl ∧ OA Z h sb .int 16 fsb ∧ ffs 0 = -1 ∧ ffs 1 = 0 ∧ flb 1 = lab ∧ fbl 1 = Int32.ofNat k ∧ fsb 1 = sup
theorem own_fk {f : Nat → Int32} {k : Nat} (h : (k = 0 ∧ f k = 0) ∨ (¬ k = 0 ∧ f k = -1)) : f k = -1 ∨ f k = 0 := by
  rcases h with ⟨-, h⟩ | ⟨-, h⟩
  · exact Or.inr h
  · exact Or.inl h
theorem own_up {f g : Nat → Int32} {k : Nat} (h : (k = 0 ∧ f k = 0) ∨ (¬ k = 0 ∧ f k = -1)) (hg : g 0 = -1) : mkPv g 1 (f k) 0 = -1 ∨ mkPv g 1 (f k) 0 = 1 := by
  rcases h with ⟨-, h⟩ | ⟨-, h⟩
  · right
    rw [h]
    rfl
  · left
    rw [h]
    exact hg
theorem own_un {g : Nat → Int32} {x : Int32} (hg : g 0 = -1) : oset g 1 x 0 = -1 := hg
theorem own_ub {g : Nat → Int32} {x : Int32} (hg : g 0 = 0) : oset g 1 x 0 = 0 := hg
theorem own_ne01 : ¬ (lcmpW (0 : Int64) (1 : Int64)) = (0 : Int32) := by decide
theorem own_g {gi : Int32} {gn : Nat} (h : gi = -1 ∨ (gi = Int32.ofNat gn ∧ gn < 16)) (hn : ¬ gi = (-1 : Int32)) : (¬ gi < 0) ∧ gi.toNatClampNeg = gn ∧ gn < 16 := by
  rcases h with h | ⟨rfl, h⟩
  · exact absurd h hn
  · exact ⟨(own_nat (by omega)).1, (own_nat (by omega)).2, h⟩

theorem dV_0 : decode prog_76_method_17_code 0 = .ok (.aload_n 0, 1) := by decide +kernel
theorem dV_1 : decode prog_76_method_17_code 1 = .ok (.getfield 62, 3) := by decide +kernel
theorem dV_4 : decode prog_76_method_17_code 4 = .ok (.iload_n 2, 1) := by decide +kernel
theorem dV_5 : decode prog_76_method_17_code 5 = .ok (.laload, 1) := by decide +kernel
theorem dV_6 : decode prog_76_method_17_code 6 = .ok (.lload_n 3, 1) := by decide +kernel
theorem dV_7 : decode prog_76_method_17_code 7 = .ok (.lcmp, 1) := by decide +kernel
theorem dV_8 : decode prog_76_method_17_code 8 = .ok (.ifCond .eq 34, 3) := by decide +kernel
theorem dV_11 : decode prog_76_method_17_code 11 = .ok (.aload_n 0, 1) := by decide +kernel
theorem dV_12 : decode prog_76_method_17_code 12 = .ok (.aload_n 0, 1) := by decide +kernel
theorem dV_13 : decode prog_76_method_17_code 13 = .ok (.getfield 44, 3) := by decide +kernel
theorem dV_16 : decode prog_76_method_17_code 16 = .ok (.iload_n 2, 1) := by decide +kernel
theorem dV_17 : decode prog_76_method_17_code 17 = .ok (.iaload, 1) := by decide +kernel
theorem dV_18 : decode prog_76_method_17_code 18 = .ok (.iload 6, 2) := by decide +kernel
theorem dV_20 : decode prog_76_method_17_code 20 = .ok (.iload 5, 2) := by decide +kernel
theorem dV_22 : decode prog_76_method_17_code 22 = .ok (.invokevirtual 74, 3) := by decide +kernel
theorem dV_25 : decode prog_76_method_17_code 25 = .ok (.istore 7, 2) := by decide +kernel
theorem dV_27 : decode prog_76_method_17_code 27 = .ok (.aload_n 0, 1) := by decide +kernel
theorem dV_28 : decode prog_76_method_17_code 28 = .ok (.getfield 62, 3) := by decide +kernel
theorem dV_31 : decode prog_76_method_17_code 31 = .ok (.iload_n 2, 1) := by decide +kernel
theorem dV_32 : decode prog_76_method_17_code 32 = .ok (.lload_n 3, 1) := by decide +kernel
theorem dV_33 : decode prog_76_method_17_code 33 = .ok (.lastore, 1) := by decide +kernel
theorem dV_34 : decode prog_76_method_17_code 34 = .ok (.aload_n 0, 1) := by decide +kernel
theorem dV_35 : decode prog_76_method_17_code 35 = .ok (.getfield 59, 3) := by decide +kernel
theorem dV_38 : decode prog_76_method_17_code 38 = .ok (.iload_n 2, 1) := by decide +kernel
theorem dV_39 : decode prog_76_method_17_code 39 = .ok (.iload 7, 2) := by decide +kernel
theorem dV_41 : decode prog_76_method_17_code 41 = .ok (.iastore, 1) := by decide +kernel
theorem dV_42 : decode prog_76_method_17_code 42 = .ok (.aload_n 0, 1) := by decide +kernel
theorem dV_43 : decode prog_76_method_17_code 43 = .ok (.getfield 29, 3) := by decide +kernel
theorem dV_46 : decode prog_76_method_17_code 46 = .ok (.iload_n 1, 1) := by decide +kernel
theorem dV_47 : decode prog_76_method_17_code 47 = .ok (.iaload, 1) := by decide +kernel
theorem dV_48 : decode prog_76_method_17_code 48 = .ok (.istore 7, 2) := by decide +kernel
theorem dV_50 : decode prog_76_method_17_code 50 = .ok (.aload_n 0, 1) := by decide +kernel
theorem dV_51 : decode prog_76_method_17_code 51 = .ok (.getfield 32, 3) := by decide +kernel
theorem dV_54 : decode prog_76_method_17_code 54 = .ok (.iload_n 1, 1) := by decide +kernel
theorem dV_55 : decode prog_76_method_17_code 55 = .ok (.iaload, 1) := by decide +kernel
theorem dV_56 : decode prog_76_method_17_code 56 = .ok (.istore 8, 2) := by decide +kernel
theorem dV_58 : decode prog_76_method_17_code 58 = .ok (.iload 7, 2) := by decide +kernel
theorem dV_60 : decode prog_76_method_17_code 60 = .ok (.iconst (-1), 1) := by decide +kernel
theorem dV_61 : decode prog_76_method_17_code 61 = .ok (.if_icmp .ne 14, 3) := by decide +kernel
theorem dV_64 : decode prog_76_method_17_code 64 = .ok (.aload_n 0, 1) := by decide +kernel
theorem dV_65 : decode prog_76_method_17_code 65 = .ok (.getfield 41, 3) := by decide +kernel
theorem dV_68 : decode prog_76_method_17_code 68 = .ok (.iload_n 2, 1) := by decide +kernel
theorem dV_69 : decode prog_76_method_17_code 69 = .ok (.iload 8, 2) := by decide +kernel
theorem dV_71 : decode prog_76_method_17_code 71 = .ok (.iastore, 1) := by decide +kernel
theorem dV_72 : decode prog_76_method_17_code 72 = .ok (.goto 12, 3) := by decide +kernel
theorem dV_84 : decode prog_76_method_17_code 84 = .ok (.iload 8, 2) := by decide +kernel
theorem dV_86 : decode prog_76_method_17_code 86 = .ok (.iconst (-1), 1) := by decide +kernel
theorem dV_87 : decode prog_76_method_17_code 87 = .ok (.if_icmp .eq 12, 3) := by decide +kernel
theorem dV_99 : decode prog_76_method_17_code 99 = .ok (.aload_n 0, 1) := by decide +kernel
theorem dV_100 : decode prog_76_method_17_code 100 = .ok (.getfield 41, 3) := by decide +kernel
theorem dV_103 : decode prog_76_method_17_code 103 = .ok (.iload_n 2, 1) := by decide +kernel
theorem dV_104 : decode prog_76_method_17_code 104 = .ok (.iaload, 1) := by decide +kernel
theorem dV_105 : decode prog_76_method_17_code 105 = .ok (.iconst (-1), 1) := by decide +kernel
theorem dV_106 : decode prog_76_method_17_code 106 = .ok (.if_icmp .ne 62, 3) := by decide +kernel
theorem dV_109 : decode prog_76_method_17_code 109 = .ok (.aload_n 0, 1) := by decide +kernel
theorem dV_110 : decode prog_76_method_17_code 110 = .ok (.iload_n 2, 1) := by decide +kernel
theorem dV_111 : decode prog_76_method_17_code 111 = .ok (.invokevirtual 113, 3) := by decide +kernel
theorem dV_114 : decode prog_76_method_17_code 114 = .ok (.aload_n 0, 1) := by decide +kernel
theorem dV_115 : decode prog_76_method_17_code 115 = .ok (.getfield 82, 3) := by decide +kernel
theorem dV_118 : decode prog_76_method_17_code 118 = .ok (.aload_n 0, 1) := by decide +kernel
theorem dV_119 : decode prog_76_method_17_code 119 = .ok (.getfield 7, 3) := by decide +kernel
theorem dV_122 : decode prog_76_method_17_code 122 = .ok (.arraylength, 1) := by decide +kernel
theorem dV_123 : decode prog_76_method_17_code 123 = .ok (.if_icmp .ne 28, 3) := by decide +kernel
theorem dV_151 : decode prog_76_method_17_code 151 = .ok (.aload_n 0, 1) := by decide +kernel
theorem dV_152 : decode prog_76_method_17_code 152 = .ok (.getfield 7, 3) := by decide +kernel
theorem dV_155 : decode prog_76_method_17_code 155 = .ok (.aload_n 0, 1) := by decide +kernel
theorem dV_156 : decode prog_76_method_17_code 156 = .ok (.dup, 1) := by decide +kernel
theorem dV_157 : decode prog_76_method_17_code 157 = .ok (.getfield 82, 3) := by decide +kernel
theorem dV_160 : decode prog_76_method_17_code 160 = .ok (.dup_x1, 1) := by decide +kernel
theorem dV_161 : decode prog_76_method_17_code 161 = .ok (.iconst 1, 1) := by decide +kernel
theorem dV_162 : decode prog_76_method_17_code 162 = .ok (.iadd, 1) := by decide +kernel
theorem dV_163 : decode prog_76_method_17_code 163 = .ok (.putfield 82, 3) := by decide +kernel
theorem dV_166 : decode prog_76_method_17_code 166 = .ok (.iload_n 2, 1) := by decide +kernel
theorem dV_167 : decode prog_76_method_17_code 167 = .ok (.iastore, 1) := by decide +kernel
theorem dV_168 : decode prog_76_method_17_code 168 = .ok (.aload_n 0, 1) := by decide +kernel
theorem dV_169 : decode prog_76_method_17_code 169 = .ok (.iload_n 1, 1) := by decide +kernel
theorem dV_170 : decode prog_76_method_17_code 170 = .ok (.aload_n 0, 1) := by decide +kernel
theorem dV_171 : decode prog_76_method_17_code 171 = .ok (.getfield 59, 3) := by decide +kernel
theorem dV_174 : decode prog_76_method_17_code 174 = .ok (.iload_n 2, 1) := by decide +kernel
theorem dV_175 : decode prog_76_method_17_code 175 = .ok (.iaload, 1) := by decide +kernel
theorem dV_176 : decode prog_76_method_17_code 176 = .ok (.invokevirtual 78, 3) := by decide +kernel
theorem dV_179 : decode prog_76_method_17_code 179 = .ok (.return_, 1) := by decide +kernel
theorem pnV : plainName "com/example/lockstep/lockstep/check/StepGroups" = true := by first | (simp [plainName, overriddenIn]; done) | decide +kernel
theorem pdV_0 : parseMethodDescriptor "(III)I" = some ⟨[.int, .int, .int], some .int⟩ := by decide +kernel
theorem pdV_1 : parseMethodDescriptor "(I)V" = some ⟨[.int], none⟩ := by decide +kernel
theorem pdV_2 : parseMethodDescriptor "(II)V" = some ⟨[.int, .int], none⟩ := by decide +kernel
theorem efV (m : MethodId) (u : Addr) (k : Nat) (sup : Int32) : entryFrame m #[(.ref u), (.int (0 : Int32)), (.int (0 : Int32)), (.long (1 : Int64)), (.int (Int32.ofNat k)), (.int sup)] 9 = mkF m 0 #[.val (.ref u), .val (.int (0 : Int32)), .val (.int (0 : Int32)), .val (.long (1 : Int64)), .second, .val (.int (Int32.ofNat k)), .val (.int sup), .unset, .unset] [] := by first | (simp [entryFrame, mkF, argsToLocals, Value.category]; done) | rfl
set_option maxRecDepth 65536 in
set_option maxHeartbeats 40000000 in
theorem rmV (l : Launch) (Z : State) (a0 : Array Value) (hw : ∀ d ∈ tables_1, d.before a0 Z = true) (ws : List Jvm.Cond) (u : Addr) (k : Nat) (sup : Int32) (em : Addr) (fr : Addr) (fb : Addr) (go : Addr) (ps : Addr) (ns : Addr) (fs : Addr) (lb : Addr) (sb : Addr) (bl : Addr) (pv : Addr) (nx : Addr) (pt : Addr) (qs : Addr) (ms : Addr) (lab : Int32) (fem : Nat → Int32) (ffb : Nat → Int32) (fgo : Nat → Int32) (fps : Nat → Int32) (fns : Nat → Int32) (ffs : Nat → Int32) (flb : Nat → Int32) (fsb : Nat → Int32) (fbl : Nat → Int32) (fpv : Nat → Int32) (fnx : Nat → Int32) (fpt : Nat → Int32) (fqs : Nat → Int64) (fms : Nat → Int64) (h0 : Heap) (n0 : Nat) (Z0 : n0 ≤ h0.size) (U : FU Z h0 u em fr fb go ps ns fs lb sb bl pv nx pt qs ms (Int32.ofNat 1) 0 0 1) (ho : ORD u em fr fb go ps ns fs lb sb bl pv nx pt qs ms) (gu : n0 ≤ u) (O_em : OA Z h0 em .int 16 fem) (O_fb : OA Z h0 fb .int 16 ffb) (O_go : OA Z h0 go .int 1 fgo) (O_ps : OA Z h0 ps .int 1 fps) (O_ns : OA Z h0 ns .int 1 fns) (O_fs : OA Z h0 fs .int 16 ffs) (O_lb : OA Z h0 lb .int 16 flb) (O_sb : OA Z h0 sb .int 16 fsb) (O_bl : OA Z h0 bl .int 16 fbl) (O_pv : OA Z h0 pv .int 16 fpv) (O_nx : OA Z h0 nx .int 16 fnx) (O_pt : OA Z h0 pt .int 16 fpt) (O_qs : OL Z h0 qs 16 fqs) (O_ms : OL Z h0 ms 16 fms) (hqs : fqs 0 = 0) (hlb : flb 0 = lab) (hps : fps 0 = -1) (hns : fns 0 = -1) (hpv : fpv 0 = -1) (hnx : fnx 0 = -1) (hbl : fbl 0 = 0) (hk : k < 16) (hfk0 : (k = 0 ∧ ffb k = 0) ∨ (¬ k = 0 ∧ ffb k = -1)) :
    MetFree l (⟨"com/example/lockstep/lockstep/check/StepGroups", "move", "(IIJII)V"⟩ : MethodName) (head1 (Jvm.Cond.code (⟨"com/example/lockstep/lockstep/check/StepGroups", "move", "(IIJII)V"⟩ : MethodName) prog_76_method_17_code 9 none :: ws) ({ frames := 1, cells := 0, slots := 0, locals := 17 } : Room)) (fun a U => a = #[(.ref u), (.int (0 : Int32)), (.int (0 : Int32)), (.long (1 : Int64)), (.int (Int32.ofNat k)), (.int sup)] ∧ Z.Warmed39 U.vm ∧ U.heap = h0) (fun _ _ _ _ _ => True) (fun _ U o U' => ∃ v L, o = .returned v ∧ (QV Z n0 u em fr fb go ps ns fs lb sb bl pv nx pt qs ms lab k sup) v U'.heap L ∧ FrameEnd U o U' L ({ frames := 1, cells := 0, slots := 0, locals := 17 } : Room).cells ({ frames := 1, cells := 0, slots := 0, locals := 17 } : Room).slots) := by
  refine MetFree.of_bodySF (plainFor_of_name pnV) hisR ?_
  intro p e s m args below meth c s₁ Bd hml0 hP hK
  obtain ⟨rfl, hZ, hh⟩ := hP
  have hx := Bd.exec
  have hby := Bd.bytes
  have hml : c.maxLocals = 9 := hml0
  have hown : s.vm.findClass "com/example/lockstep/lockstep/check/StepGroups" = some m.cls := findClass_of_methodNamed Bd.named
  have hnm := (name_of_methodNamed Bd.named Bd.method).1
  have X0 : Stand p l e ({ frames := 1, cells := 0, slots := 0, locals := 17 } : Room) s m #[(.ref u), (.int (0 : Int32)), (.int (0 : Int32)), (.long (1 : Int64)), (.int (Int32.ofNat k)), (.int sup)] below meth c s₁ [] 0 0 := Stand.of_body Bd
  have e0 : s₁.heap = h0 := by rw [← hh, Bd.state]; rfl
  have N0 := Fr.nil n0
  show OGo p e below (Out s ({ frames := 1, cells := 0, slots := 0, locals := 17 } : Room).cells ({ frames := 1, cells := 0, slots := 0, locals := 17 } : Room).slots ((QV Z n0 u em fr fb go ps ns fs lb sb bl pv nx pt qs ms lab k sup))) (s₁.setTop (entryFrame m #[(.ref u), (.int (0 : Int32)), (.int (0 : Int32)), (.long (1 : Int64)), (.int (Int32.ofNat k)), (.int sup)] 9))
  have ho0 := ho; obtain ⟨o1, o2, o3, o4, o5, o6, o7, o8, o9, o10, o11, o12, o13, o14, o15⟩ := ho
  obtain ⟨E0, F0_emptied, F0_free, F0_firstOfBlock, F0_groupOf, F0_previousStep, F0_nextStep, F0_firstStep, F0_label, F0_superBlock, F0_block, F0_previous, F0_next, F0_partner, F0_partnerStamp, F0_markStamp, F0_groupCount, F0_emptiedCount, F0_freeCount, F0_stamp⟩ := U
  have hfk := own_fk hfk0
  have g_qs : n0 ≤ qs := by omega
  have n_u_qs : u ≠ qs := own_nen (by omega)
  have n_fb_pt : fb ≠ pt := own_nen (by omega)
  have n_nx_pt : nx ≠ pt := own_nen (by omega)
  have n_pv_pt : pv ≠ pt := own_nen (by omega)
  have n_pt_ms : pt ≠ ms := own_nen (by omega)
  have n_pt_qs : pt ≠ qs := own_nen (by omega)
  have n_bl_pt : bl ≠ pt := own_nen (by omega)
  have n_sb_pt : sb ≠ pt := own_nen (by omega)
  have n_lb_pt : lb ≠ pt := own_nen (by omega)
  have n_fs_pt : fs ≠ pt := own_nen (by omega)
  have n_u_pt : u ≠ pt := own_nen (by omega)
  have g_pt : n0 ≤ pt := by omega
  have n_fb_ps : fb ≠ ps := own_nen (by omega)
  have n_ps_nx : ps ≠ nx := own_nen (by omega)
  have n_ps_pv : ps ≠ pv := own_nen (by omega)
  have n_ps_ms : ps ≠ ms := own_nen (by omega)
  have n_ps_qs : ps ≠ qs := own_nen (by omega)
  have n_ps_bl : ps ≠ bl := own_nen (by omega)
  have n_ps_sb : ps ≠ sb := own_nen (by omega)
  have n_ps_lb : ps ≠ lb := own_nen (by omega)
  have n_ps_fs : ps ≠ fs := own_nen (by omega)
  have n_u_ps : u ≠ ps := own_nen (by omega)
  have n_ps_pt : ps ≠ pt := own_nen (by omega)
  have n_fb_ns : fb ≠ ns := own_nen (by omega)
  have n_ns_nx : ns ≠ nx := own_nen (by omega)
  have n_ns_pv : ns ≠ pv := own_nen (by omega)
  have n_ns_ms : ns ≠ ms := own_nen (by omega)
  have n_ns_qs : ns ≠ qs := own_nen (by omega)
  have n_ns_bl : ns ≠ bl := own_nen (by omega)
  have n_ns_sb : ns ≠ sb := own_nen (by omega)
  have n_ns_lb : ns ≠ lb := own_nen (by omega)
  have n_ns_fs : ns ≠ fs := own_nen (by omega)
  have n_u_ns : u ≠ ns := own_nen (by omega)
  have n_ns_pt : ns ≠ pt := own_nen (by omega)
  have n_fs_qs : fs ≠ qs := own_nen (by omega)
  have g_fs : n0 ≤ fs := by omega
  have n_u_fs : u ≠ fs := own_nen (by omega)
  have n_pv_qs : pv ≠ qs := own_nen (by omega)
  have n_fs_pv : fs ≠ pv := own_nen (by omega)
  have n_nx_qs : nx ≠ qs := own_nen (by omega)
  have n_fs_nx : fs ≠ nx := own_nen (by omega)
  have n_bl_qs : bl ≠ qs := own_nen (by omega)
  have n_fs_bl : fs ≠ bl := own_nen (by omega)
  have n_fb_qs : fb ≠ qs := own_nen (by omega)
  have n_fb_fs : fb ≠ fs := own_nen (by omega)
  have n_u_nx : u ≠ nx := own_nen (by omega)
  have n_u_fb : u ≠ fb := own_nen (by omega)
  have n_em_fb : em ≠ fb := own_nen (by omega)
  have n_em_nx : em ≠ nx := own_nen (by omega)
  have n_em_pv : em ≠ pv := own_nen (by omega)
  have n_em_ms : em ≠ ms := own_nen (by omega)
  have n_em_qs : em ≠ qs := own_nen (by omega)
  have n_em_bl : em ≠ bl := own_nen (by omega)
  have n_em_sb : em ≠ sb := own_nen (by omega)
  have n_em_lb : em ≠ lb := own_nen (by omega)
  have n_em_fs : em ≠ fs := own_nen (by omega)
  have n_u_em : u ≠ em := own_nen (by omega)
  have n_em_pt : em ≠ pt := own_nen (by omega)
  have g_em : n0 ≤ em := by omega
  have n_em_ps : em ≠ ps := own_nen (by omega)
  have n_em_ns : em ≠ ns := own_nen (by omega)
  have n_fb_go : fb ≠ go := own_nen (by omega)
  have n_go_nx : go ≠ nx := own_nen (by omega)
  have n_go_pv : go ≠ pv := own_nen (by omega)
  have n_go_ms : go ≠ ms := own_nen (by omega)
  have n_go_qs : go ≠ qs := own_nen (by omega)
  have n_go_bl : go ≠ bl := own_nen (by omega)
  have n_go_sb : go ≠ sb := own_nen (by omega)
  have n_go_lb : go ≠ lb := own_nen (by omega)
  have n_go_fs : go ≠ fs := own_nen (by omega)
  have n_u_go : u ≠ go := own_nen (by omega)
  have n_go_pt : go ≠ pt := own_nen (by omega)
  have n_em_go : em ≠ go := own_nen (by omega)
  have n_lb_qs : lb ≠ qs := own_nen (by omega)
  have n_fs_lb : fs ≠ lb := own_nen (by omega)
  have n_lb_nx : lb ≠ nx := own_nen (by omega)
  have n_fb_lb : fb ≠ lb := own_nen (by omega)
  have n_u_lb : u ≠ lb := own_nen (by omega)
  have n_bl_nx : bl ≠ nx := own_nen (by omega)
  have n_fb_bl : fb ≠ bl := own_nen (by omega)
  have n_u_bl : u ≠ bl := own_nen (by omega)
  have n_sb_qs : sb ≠ qs := own_nen (by omega)
  have n_fs_sb : fs ≠ sb := own_nen (by omega)
  have n_sb_nx : sb ≠ nx := own_nen (by omega)
  have n_fb_sb : fb ≠ sb := own_nen (by omega)
  have n_u_sb : u ≠ sb := own_nen (by omega)
  refine OGo.st (fun t kk => castTop (efV m u k sup) kk) ?_
  show OGo p e below (Out s ({ frames := 1, cells := 0, slots := 0, locals := 17 } : Room).cells ({ frames := 1, cells := 0, slots := 0, locals := 17 } : Room).slots ((QV Z n0 u em fr fb go ps ns fs lb sb bl pv nx pt qs ms lab k sup))) (s₁.setTop (mkF m 0 #[vr u, vi (0 : Int32), vi (0 : Int32), vl (1 : Int64), .second, vi (Int32.ofNat k), vi sup, .unset, .unset] []))
  refine OGo.st (fun t kk => XS.aloadN X0.here hx rfl (hb hby dV_0) rfl rfl kk) ?_
  show OGo p e below _ (s₁.setTop (mkF m 1 #[vr u, vi (0 : Int32), vi (0 : Int32), vl (1 : Int64), .second, vi (Int32.ofNat k), vi sup, .unset, .unset] [(.ref u)]))
  obtain ⟨T1, X1, e1, st1⟩ := getF X0 hx hZ hown (host := "") (Or.inl (hw _ (List.mem_of_getElem? (i := 46) rfl))) Via.refl e0 F0_partnerStamp (g := (mkF m 1 #[vr u, vi (0 : Int32), vi (0 : Int32), vl (1 : Int64), .second, vi (Int32.ofNat k), vi sup, .unset, .unset] [(.ref u)])) rfl rfl (hb hby dV_1)
  refine OGo.st (fun t kk => st1 t kk) ?_
  show OGo p e below _ (T1.setTop (mkF m 4 #[vr u, vi (0 : Int32), vi (0 : Int32), vl (1 : Int64), .second, vi (Int32.ofNat k), vi sup, .unset, .unset] [(.ref qs)]))
  refine OGo.st (fun t kk => XS.iloadN X1.here hx rfl (hb hby dV_4) rfl kk) ?_
  show OGo p e below _ (T1.setTop (mkF m 5 #[vr u, vi (0 : Int32), vi (0 : Int32), vl (1 : Int64), .second, vi (Int32.ofNat k), vi sup, .unset, .unset] [(.int (0 : Int32)), (.ref qs)]))
  refine OGo.st (fun t kk => OL.ldJ X1 hx hZ e1 O_qs (j := (0 : Int32)) (k := 0) (by decide) (by decide) (by decide) (g := (mkF m 5 #[vr u, vi (0 : Int32), vi (0 : Int32), vl (1 : Int64), .second, vi (Int32.ofNat k), vi sup, .unset, .unset] [(.int (0 : Int32)), (.ref qs)])) rfl rfl (hb hby dV_5) t kk) ?_
  show OGo p e below _ (T1.setTop (mkF m 6 #[vr u, vi (0 : Int32), vi (0 : Int32), vl (1 : Int64), .second, vi (Int32.ofNat k), vi sup, .unset, .unset] [(.long (fqs 0))]))
  rw [hqs]
  show OGo p e below _ (T1.setTop (mkF m 6 #[vr u, vi (0 : Int32), vi (0 : Int32), vl (1 : Int64), .second, vi (Int32.ofNat k), vi sup, .unset, .unset] [(.long (0 : Int64))]))
  refine OGo.st (fun t kk => XS.lloadN X1.here hx rfl (hb hby dV_6) rfl kk) ?_
  show OGo p e below _ (T1.setTop (mkF m 7 #[vr u, vi (0 : Int32), vi (0 : Int32), vl (1 : Int64), .second, vi (Int32.ofNat k), vi sup, .unset, .unset] [(.long (1 : Int64)), (.long (0 : Int64))]))
  refine OGo.st (fun t kk => XS.lcmp X1.here hx rfl (hb hby dV_7) rfl kk) ?_
  show OGo p e below _ (T1.setTop (mkF m 8 #[vr u, vi (0 : Int32), vi (0 : Int32), vl (1 : Int64), .second, vi (Int32.ofNat k), vi sup, .unset, .unset] [(.int (lcmpW (0 : Int64) (1 : Int64)))]))
  refine OGo.st (fun t kk => XS.ifNo X1.here hx rfl (hb hby dV_8) rfl ((if0 _ _).trans (feq own_ne01).1) kk) ?_
  show OGo p e below _ (T1.setTop (mkF m 11 #[vr u, vi (0 : Int32), vi (0 : Int32), vl (1 : Int64), .second, vi (Int32.ofNat k), vi sup, .unset, .unset] []))
  refine OGo.st (fun t kk => XS.aloadN X1.here hx rfl (hb hby dV_11) rfl rfl kk) ?_
  show OGo p e below _ (T1.setTop (mkF m 12 #[vr u, vi (0 : Int32), vi (0 : Int32), vl (1 : Int64), .second, vi (Int32.ofNat k), vi sup, .unset, .unset] [(.ref u)]))
  refine OGo.st (fun t kk => XS.aloadN X1.here hx rfl (hb hby dV_12) rfl rfl kk) ?_
  show OGo p e below _ (T1.setTop (mkF m 13 #[vr u, vi (0 : Int32), vi (0 : Int32), vl (1 : Int64), .second, vi (Int32.ofNat k), vi sup, .unset, .unset] [(.ref u), (.ref u)]))
  obtain ⟨T2, X2, e2, st2⟩ := getF X1 hx hZ hown (host := "") (Or.inl (hw _ (List.mem_of_getElem? (i := 34) rfl))) Via.refl e1 F0_label (g := (mkF m 13 #[vr u, vi (0 : Int32), vi (0 : Int32), vl (1 : Int64), .second, vi (Int32.ofNat k), vi sup, .unset, .unset] [(.ref u), (.ref u)])) rfl rfl (hb hby dV_13)
  refine OGo.st (fun t kk => st2 t kk) ?_
  show OGo p e below _ (T2.setTop (mkF m 16 #[vr u, vi (0 : Int32), vi (0 : Int32), vl (1 : Int64), .second, vi (Int32.ofNat k), vi sup, .unset, .unset] [(.ref lb), (.ref u)]))
  refine OGo.st (fun t kk => XS.iloadN X2.here hx rfl (hb hby dV_16) rfl kk) ?_
  show OGo p e below _ (T2.setTop (mkF m 17 #[vr u, vi (0 : Int32), vi (0 : Int32), vl (1 : Int64), .second, vi (Int32.ofNat k), vi sup, .unset, .unset] [(.int (0 : Int32)), (.ref lb), (.ref u)]))
  refine OGo.st (fun t kk => OA.ldI X2 hx hZ e2 O_lb (j := (0 : Int32)) (k := 0) (by decide) (by decide) (by decide) (g := (mkF m 17 #[vr u, vi (0 : Int32), vi (0 : Int32), vl (1 : Int64), .second, vi (Int32.ofNat k), vi sup, .unset, .unset] [(.int (0 : Int32)), (.ref lb), (.ref u)])) rfl rfl (hb hby dV_17) t kk) ?_
  show OGo p e below _ (T2.setTop (mkF m 18 #[vr u, vi (0 : Int32), vi (0 : Int32), vl (1 : Int64), .second, vi (Int32.ofNat k), vi sup, .unset, .unset] [(.int (flb 0)), (.ref u)]))
  rw [hlb]
  show OGo p e below _ (T2.setTop (mkF m 18 #[vr u, vi (0 : Int32), vi (0 : Int32), vl (1 : Int64), .second, vi (Int32.ofNat k), vi sup, .unset, .unset] [(.int lab), (.ref u)]))
  refine OGo.st (fun t kk => XS.iload X2.here hx rfl (hb hby dV_18) rfl kk) ?_
  show OGo p e below _ (T2.setTop (mkF m 20 #[vr u, vi (0 : Int32), vi (0 : Int32), vl (1 : Int64), .second, vi (Int32.ofNat k), vi sup, .unset, .unset] [(.int sup), (.int lab), (.ref u)]))
  refine OGo.st (fun t kk => XS.iload X2.here hx rfl (hb hby dV_20) rfl kk) ?_
  show OGo p e below _ (T2.setTop (mkF m 22 #[vr u, vi (0 : Int32), vi (0 : Int32), vl (1 : Int64), .second, vi (Int32.ofNat k), vi sup, .unset, .unset] [(.int (Int32.ofNat k)), (.int sup), (.int lab), (.ref u)]))
  obtain ⟨cq3, q3, q3'⟩ := E0.cell
  obtain ⟨_, _, ⟨T3, L3, k3, n3⟩, -, X3, ⟨Lc3, hQ3, l3, y3, z3⟩, st3⟩ := X2.privateBack hx (y := (⟨"com/example/lockstep/lockstep/check/StepGroups", "make", "(III)I"⟩ : MethodName)) hown (mvT hZ (hw _ (List.mem_of_getElem? (i := 54) rfl))) (mvT hZ (hw _ (List.mem_of_getElem? (i := 55) rfl))) (osel (y := (⟨"com/example/lockstep/lockstep/check/StepGroups", "make", "(III)I"⟩ : MethodName)) hZ (hw _ (List.mem_of_getElem? (i := 2) rfl)) (hw _ (List.mem_of_getElem? (i := 56) rfl)) (hw _ (List.mem_of_getElem? (i := 55) rfl)) (by decide)) (Cond.privateMethod_at (mvP hZ (hw _ (List.mem_of_getElem? (i := 56) rfl)) (args := #[]))) (mvT hZ (hw _ (List.mem_of_getElem? (i := 57) rfl))) (by decide) (backOf (W := 0) (rmK l Z a0 hw [] u lab sup k em fr fb go ps ns fs lb sb bl pv nx pt qs ms 1 (0 : Int32) (1 : Int64) ffs flb fsb fbl fqs fms fpv fnx ffb h0 n0 Z0 ⟨E0, F0_emptied, F0_free, F0_firstOfBlock, F0_groupOf, F0_previousStep, F0_nextStep, F0_firstStep, F0_label, F0_superBlock, F0_block, F0_previous, F0_next, F0_partner, F0_partnerStamp, F0_markStamp, F0_groupCount, F0_emptiedCount, F0_freeCount, F0_stamp⟩ ho0 gu O_fs O_lb O_sb O_bl O_qs O_ms O_pv O_nx O_fb (by omega) (by omega) hfk) hZ (hw _ (List.mem_of_getElem? (i := 57) rfl)) (hw _ (List.mem_of_getElem? (i := 3) rfl)) (by decide) (by decide)) (g := (mkF m 22 #[vr u, vi (0 : Int32), vi (0 : Int32), vl (1 : Int64), .second, vi (Int32.ofNat k), vi sup, .unset, .unset] [(.int (Int32.ofNat k)), (.int sup), (.int lab), (.ref u)])) rfl (by rw [hml]; rfl) (Steps.refl _) (a := u) (by rw [e2]; exact q3) q3' (argsL := [(.int lab), (.int sup), (.int (Int32.ofNat k))]) (rest := []) (lenOf pdV_0 rfl) rfl (by show 2 * 0 + _ ≤ _; exact Nat.le_of_eq rfl) (hb hby dV_22) (fun _ _ => ⟨rfl, e2, (by decide : 0 + 0 ≤ _), (by decide : 0 + 0 ≤ _)⟩)
  dsimp only [Pt.U, Pt.locs, Pt.cells, Pt.slots] at X3 l3 y3 z3 st3 hQ3
  subst l3 y3 z3
  obtain ⟨rfl, Nq3, Z3, K3, Uq3, Ofs_3, Olb_3, Osb_3, Obl_3, Oqs_3, Oms_3, Opv_3, Onx_3, Ofb_3⟩ := hQ3
  have N3 := Fr.app N0 Nq3
  obtain ⟨E3, F3_emptied, F3_free, F3_firstOfBlock, F3_groupOf, F3_previousStep, F3_nextStep, F3_firstStep, F3_label, F3_superBlock, F3_block, F3_previous, F3_next, F3_partner, F3_partnerStamp, F3_markStamp, F3_groupCount, F3_emptiedCount, F3_freeCount, F3_stamp⟩ := Uq3
  obtain ⟨lo3, X3, N3⟩ : ∃ L, Stand p l e ({ frames := 1, cells := 0, slots := 0, locals := 17 } : Room) s m #[(.ref u), (.int (0 : Int32)), (.int (0 : Int32)), (.long (1 : Int64)), (.int (Int32.ofNat k)), (.int sup)] below meth c T3 L 0 0 ∧ Fr n0 L := ⟨_, X3, N3⟩
  refine OGo.st (fun t kk => st3.trans kk) ?_
  show OGo p e below _ (T3.setTop (mkF m 25 #[vr u, vi (0 : Int32), vi (0 : Int32), vl (1 : Int64), .second, vi (Int32.ofNat k), vi sup, .unset, .unset] [(.int (Int32.ofNat 1))]))
  refine OGo.st (fun t kk => XS.istore X3.here hx rfl (hb hby dV_25) rfl (l' := #[vr u, vi (0 : Int32), vi (0 : Int32), vl (1 : Int64), .second, vi (Int32.ofNat k), vi sup, vi (Int32.ofNat 1), .unset]) rfl kk) ?_
  show OGo p e below _ (T3.setTop (mkF m 27 #[vr u, vi (0 : Int32), vi (0 : Int32), vl (1 : Int64), .second, vi (Int32.ofNat k), vi sup, vi (Int32.ofNat 1), .unset] []))
  refine OGo.st (fun t kk => XS.aloadN X3.here hx rfl (hb hby dV_27) rfl rfl kk) ?_
  show OGo p e below _ (T3.setTop (mkF m 28 #[vr u, vi (0 : Int32), vi (0 : Int32), vl (1 : Int64), .second, vi (Int32.ofNat k), vi sup, vi (Int32.ofNat 1), .unset] [(.ref u)]))
  obtain ⟨T4, X4, e4, st4⟩ := getF X3 hx hZ hown (host := "") (Or.inl (hw _ (List.mem_of_getElem? (i := 46) rfl))) Via.refl rfl F3_partnerStamp (g := (mkF m 28 #[vr u, vi (0 : Int32), vi (0 : Int32), vl (1 : Int64), .second, vi (Int32.ofNat k), vi sup, vi (Int32.ofNat 1), .unset] [(.ref u)])) rfl rfl (hb hby dV_28)
  refine OGo.st (fun t kk => st4 t kk) ?_
  show OGo p e below _ (T4.setTop (mkF m 31 #[vr u, vi (0 : Int32), vi (0 : Int32), vl (1 : Int64), .second, vi (Int32.ofNat k), vi sup, vi (Int32.ofNat 1), .unset] [(.ref qs)]))
  refine OGo.st (fun t kk => XS.iloadN X4.here hx rfl (hb hby dV_31) rfl kk) ?_
  show OGo p e below _ (T4.setTop (mkF m 32 #[vr u, vi (0 : Int32), vi (0 : Int32), vl (1 : Int64), .second, vi (Int32.ofNat k), vi sup, vi (Int32.ofNat 1), .unset] [(.int (0 : Int32)), (.ref qs)]))
  refine OGo.st (fun t kk => XS.lloadN X4.here hx rfl (hb hby dV_32) rfl kk) ?_
  show OGo p e below _ (T4.setTop (mkF m 33 #[vr u, vi (0 : Int32), vi (0 : Int32), vl (1 : Int64), .second, vi (Int32.ofNat k), vi sup, vi (Int32.ofNat 1), .unset] [(.long (1 : Int64)), (.int (0 : Int32)), (.ref qs)]))
  obtain ⟨T5, h5, X5, e5, W5, O5', st5⟩ := OL.stJ X4 hx hZ e4 Oqs_3 (j := (0 : Int32)) (x := (1 : Int64)) (k := 0) (by decide) (by decide) (by decide) (g := (mkF m 33 #[vr u, vi (0 : Int32), vi (0 : Int32), vl (1 : Int64), .second, vi (Int32.ofNat k), vi sup, vi (Int32.ofNat 1), .unset] [(.long (1 : Int64)), (.int (0 : Int32)), (.ref qs)])) rfl rfl (hb hby dV_33)
  have O5 := O5'
  have N5 := Fr.snoc X5 N3 g_qs
  have Z5 : n0 ≤ h5.size := Nat.le_trans Z3 (Keep.of_wr W5).1
  obtain ⟨lo5, X5, N5⟩ : ∃ L, Stand p l e ({ frames := 1, cells := 0, slots := 0, locals := 17 } : Room) s m #[(.ref u), (.int (0 : Int32)), (.int (0 : Int32)), (.long (1 : Int64)), (.int (Int32.ofNat k)), (.int sup)] below meth c T5 L 0 0 ∧ Fr n0 L := ⟨_, X5, N5⟩
  refine OGo.st (fun t kk => st5 t kk) ?_
  show OGo p e below _ (T5.setTop (mkF m 34 #[vr u, vi (0 : Int32), vi (0 : Int32), vl (1 : Int64), .second, vi (Int32.ofNat k), vi sup, vi (Int32.ofNat 1), .unset] []))
  refine OGo.st (fun t kk => XS.aloadN X5.here hx rfl (hb hby dV_34) rfl rfl kk) ?_
  show OGo p e below _ (T5.setTop (mkF m 35 #[vr u, vi (0 : Int32), vi (0 : Int32), vl (1 : Int64), .second, vi (Int32.ofNat k), vi sup, vi (Int32.ofNat 1), .unset] [(.ref u)]))
  have c6 := (F3_partner.other W5 (Or.inl n_u_qs))
  obtain ⟨T7, X7, e7, st7⟩ := getF X5 hx hZ hown (host := "") (Or.inl (hw _ (List.mem_of_getElem? (i := 44) rfl))) Via.refl e5 c6 (g := (mkF m 35 #[vr u, vi (0 : Int32), vi (0 : Int32), vl (1 : Int64), .second, vi (Int32.ofNat k), vi sup, vi (Int32.ofNat 1), .unset] [(.ref u)])) rfl rfl (hb hby dV_35)
  refine OGo.st (fun t kk => st7 t kk) ?_
  show OGo p e below _ (T7.setTop (mkF m 38 #[vr u, vi (0 : Int32), vi (0 : Int32), vl (1 : Int64), .second, vi (Int32.ofNat k), vi sup, vi (Int32.ofNat 1), .unset] [(.ref pt)]))
  refine OGo.st (fun t kk => XS.iloadN X7.here hx rfl (hb hby dV_38) rfl kk) ?_
  show OGo p e below _ (T7.setTop (mkF m 39 #[vr u, vi (0 : Int32), vi (0 : Int32), vl (1 : Int64), .second, vi (Int32.ofNat k), vi sup, vi (Int32.ofNat 1), .unset] [(.int (0 : Int32)), (.ref pt)]))
  refine OGo.st (fun t kk => XS.iload X7.here hx rfl (hb hby dV_39) rfl kk) ?_
  show OGo p e below _ (T7.setTop (mkF m 41 #[vr u, vi (0 : Int32), vi (0 : Int32), vl (1 : Int64), .second, vi (Int32.ofNat k), vi sup, vi (Int32.ofNat 1), .unset] [(.int (Int32.ofNat 1)), (.int (0 : Int32)), (.ref pt)]))
  have c9 := ((O_pt.keep K3 (ninS (Ne.symm n_u_pt) (ninS (Ne.symm n_fs_pt) (ninS (Ne.symm n_lb_pt) (ninS (Ne.symm n_sb_pt) (ninS (Ne.symm n_bl_pt) (ninS n_pt_qs (ninS n_pt_ms (ninS (Ne.symm n_pv_pt) (ninS (Ne.symm n_nx_pt) (ninS (Ne.symm n_fb_pt) nin0))))))))))).other W5 n_pt_qs)
  obtain ⟨T8, h8, X8, e8, W8, O8', st8⟩ := OA.stI X7 hx hZ e7 c9 (j := (0 : Int32)) (x := (Int32.ofNat 1)) (k := 0) (by decide) (by decide) (by decide) (g := (mkF m 41 #[vr u, vi (0 : Int32), vi (0 : Int32), vl (1 : Int64), .second, vi (Int32.ofNat k), vi sup, vi (Int32.ofNat 1), .unset] [(.int (Int32.ofNat 1)), (.int (0 : Int32)), (.ref pt)])) rfl rfl (hb hby dV_41)
  have O8 := O8'
  have N8 := Fr.snoc X8 N5 g_pt
  have Z8 : n0 ≤ h8.size := Nat.le_trans Z5 (Keep.of_wr W8).1
  obtain ⟨lo8, X8, N8⟩ : ∃ L, Stand p l e ({ frames := 1, cells := 0, slots := 0, locals := 17 } : Room) s m #[(.ref u), (.int (0 : Int32)), (.int (0 : Int32)), (.long (1 : Int64)), (.int (Int32.ofNat k)), (.int sup)] below meth c T8 L 0 0 ∧ Fr n0 L := ⟨_, X8, N8⟩
  refine OGo.st (fun t kk => st8 t kk) ?_
  show OGo p e below _ (T8.setTop (mkF m 42 #[vr u, vi (0 : Int32), vi (0 : Int32), vl (1 : Int64), .second, vi (Int32.ofNat k), vi sup, vi (Int32.ofNat 1), .unset] []))
  refine OGo.st (fun t kk => XS.aloadN X8.here hx rfl (hb hby dV_42) rfl rfl kk) ?_
  show OGo p e below _ (T8.setTop (mkF m 43 #[vr u, vi (0 : Int32), vi (0 : Int32), vl (1 : Int64), .second, vi (Int32.ofNat k), vi sup, vi (Int32.ofNat 1), .unset] [(.ref u)]))
  have c10 := ((F3_previousStep.other W5 (Or.inl n_u_qs)).other W8 (Or.inl n_u_pt))
  obtain ⟨T11, X11, e11, st11⟩ := getF X8 hx hZ hown (host := "") (Or.inl (hw _ (List.mem_of_getElem? (i := 24) rfl))) Via.refl e8 c10 (g := (mkF m 43 #[vr u, vi (0 : Int32), vi (0 : Int32), vl (1 : Int64), .second, vi (Int32.ofNat k), vi sup, vi (Int32.ofNat 1), .unset] [(.ref u)])) rfl rfl (hb hby dV_43)
  refine OGo.st (fun t kk => st11 t kk) ?_
  show OGo p e below _ (T11.setTop (mkF m 46 #[vr u, vi (0 : Int32), vi (0 : Int32), vl (1 : Int64), .second, vi (Int32.ofNat k), vi sup, vi (Int32.ofNat 1), .unset] [(.ref ps)]))
  refine OGo.st (fun t kk => XS.iloadN X11.here hx rfl (hb hby dV_46) rfl kk) ?_
  show OGo p e below _ (T11.setTop (mkF m 47 #[vr u, vi (0 : Int32), vi (0 : Int32), vl (1 : Int64), .second, vi (Int32.ofNat k), vi sup, vi (Int32.ofNat 1), .unset] [(.int (0 : Int32)), (.ref ps)]))
  have c12 := (((O_ps.keep K3 (ninS (Ne.symm n_u_ps) (ninS n_ps_fs (ninS n_ps_lb (ninS n_ps_sb (ninS n_ps_bl (ninS n_ps_qs (ninS n_ps_ms (ninS n_ps_pv (ninS n_ps_nx (ninS (Ne.symm n_fb_ps) nin0))))))))))).other W5 n_ps_qs).other W8 n_ps_pt)
  refine OGo.st (fun t kk => OA.ldI X11 hx hZ e11 c12 (j := (0 : Int32)) (k := 0) (by decide) (by decide) (by decide) (g := (mkF m 47 #[vr u, vi (0 : Int32), vi (0 : Int32), vl (1 : Int64), .second, vi (Int32.ofNat k), vi sup, vi (Int32.ofNat 1), .unset] [(.int (0 : Int32)), (.ref ps)])) rfl rfl (hb hby dV_47) t kk) ?_
  show OGo p e below _ (T11.setTop (mkF m 48 #[vr u, vi (0 : Int32), vi (0 : Int32), vl (1 : Int64), .second, vi (Int32.ofNat k), vi sup, vi (Int32.ofNat 1), .unset] [(.int (fps 0))]))
  rw [hps]
  show OGo p e below _ (T11.setTop (mkF m 48 #[vr u, vi (0 : Int32), vi (0 : Int32), vl (1 : Int64), .second, vi (Int32.ofNat k), vi sup, vi (Int32.ofNat 1), .unset] [(.int (-1 : Int32))]))
  refine OGo.st (fun t kk => XS.istore X11.here hx rfl (hb hby dV_48) rfl (l' := #[vr u, vi (0 : Int32), vi (0 : Int32), vl (1 : Int64), .second, vi (Int32.ofNat k), vi sup, vi (-1 : Int32), .unset]) rfl kk) ?_
  show OGo p e below _ (T11.setTop (mkF m 50 #[vr u, vi (0 : Int32), vi (0 : Int32), vl (1 : Int64), .second, vi (Int32.ofNat k), vi sup, vi (-1 : Int32), .unset] []))
  refine OGo.st (fun t kk => XS.aloadN X11.here hx rfl (hb hby dV_50) rfl rfl kk) ?_
  show OGo p e below _ (T11.setTop (mkF m 51 #[vr u, vi (0 : Int32), vi (0 : Int32), vl (1 : Int64), .second, vi (Int32.ofNat k), vi sup, vi (-1 : Int32), .unset] [(.ref u)]))
  have c13 := ((F3_nextStep.other W5 (Or.inl n_u_qs)).other W8 (Or.inl n_u_pt))
  obtain ⟨T14, X14, e14, st14⟩ := getF X11 hx hZ hown (host := "") (Or.inl (hw _ (List.mem_of_getElem? (i := 26) rfl))) Via.refl e11 c13 (g := (mkF m 51 #[vr u, vi (0 : Int32), vi (0 : Int32), vl (1 : Int64), .second, vi (Int32.ofNat k), vi sup, vi (-1 : Int32), .unset] [(.ref u)])) rfl rfl (hb hby dV_51)
  refine OGo.st (fun t kk => st14 t kk) ?_
  show OGo p e below _ (T14.setTop (mkF m 54 #[vr u, vi (0 : Int32), vi (0 : Int32), vl (1 : Int64), .second, vi (Int32.ofNat k), vi sup, vi (-1 : Int32), .unset] [(.ref ns)]))
  refine OGo.st (fun t kk => XS.iloadN X14.here hx rfl (hb hby dV_54) rfl kk) ?_
  show OGo p e below _ (T14.setTop (mkF m 55 #[vr u, vi (0 : Int32), vi (0 : Int32), vl (1 : Int64), .second, vi (Int32.ofNat k), vi sup, vi (-1 : Int32), .unset] [(.int (0 : Int32)), (.ref ns)]))
  have c15 := (((O_ns.keep K3 (ninS (Ne.symm n_u_ns) (ninS n_ns_fs (ninS n_ns_lb (ninS n_ns_sb (ninS n_ns_bl (ninS n_ns_qs (ninS n_ns_ms (ninS n_ns_pv (ninS n_ns_nx (ninS (Ne.symm n_fb_ns) nin0))))))))))).other W5 n_ns_qs).other W8 n_ns_pt)
  refine OGo.st (fun t kk => OA.ldI X14 hx hZ e14 c15 (j := (0 : Int32)) (k := 0) (by decide) (by decide) (by decide) (g := (mkF m 55 #[vr u, vi (0 : Int32), vi (0 : Int32), vl (1 : Int64), .second, vi (Int32.ofNat k), vi sup, vi (-1 : Int32), .unset] [(.int (0 : Int32)), (.ref ns)])) rfl rfl (hb hby dV_55) t kk) ?_
  show OGo p e below _ (T14.setTop (mkF m 56 #[vr u, vi (0 : Int32), vi (0 : Int32), vl (1 : Int64), .second, vi (Int32.ofNat k), vi sup, vi (-1 : Int32), .unset] [(.int (fns 0))]))
  rw [hns]
  show OGo p e below _ (T14.setTop (mkF m 56 #[vr u, vi (0 : Int32), vi (0 : Int32), vl (1 : Int64), .second, vi (Int32.ofNat k), vi sup, vi (-1 : Int32), .unset] [(.int (-1 : Int32))]))
  refine OGo.st (fun t kk => XS.istore X14.here hx rfl (hb hby dV_56) rfl (l' := #[vr u, vi (0 : Int32), vi (0 : Int32), vl (1 : Int64), .second, vi (Int32.ofNat k), vi sup, vi (-1 : Int32), vi (-1 : Int32)]) rfl kk) ?_
  show OGo p e below _ (T14.setTop (mkF m 58 #[vr u, vi (0 : Int32), vi (0 : Int32), vl (1 : Int64), .second, vi (Int32.ofNat k), vi sup, vi (-1 : Int32), vi (-1 : Int32)] []))
  refine OGo.st (fun t kk => XS.iload X14.here hx rfl (hb hby dV_58) rfl kk) ?_
  show OGo p e below _ (T14.setTop (mkF m 60 #[vr u, vi (0 : Int32), vi (0 : Int32), vl (1 : Int64), .second, vi (Int32.ofNat k), vi sup, vi (-1 : Int32), vi (-1 : Int32)] [(.int (-1 : Int32))]))
  refine OGo.st (fun t kk => XS.iconst X14.here hx rfl (hb hby dV_60) kk) ?_
  show OGo p e below _ (T14.setTop (mkF m 61 #[vr u, vi (0 : Int32), vi (0 : Int32), vl (1 : Int64), .second, vi (Int32.ofNat k), vi sup, vi (-1 : Int32), vi (-1 : Int32)] [(.int (-1 : Int32)), (.int (-1 : Int32))]))
  refine OGo.st (fun t kk => XS.icmpNo X14.here hx rfl (hb hby dV_61) rfl (teq (by decide : ((-1 : Int32) = (-1 : Int32)))).2 kk) ?_
  show OGo p e below _ (T14.setTop (mkF m 64 #[vr u, vi (0 : Int32), vi (0 : Int32), vl (1 : Int64), .second, vi (Int32.ofNat k), vi sup, vi (-1 : Int32), vi (-1 : Int32)] []))
  refine OGo.st (fun t kk => XS.aloadN X14.here hx rfl (hb hby dV_64) rfl rfl kk) ?_
  show OGo p e below _ (T14.setTop (mkF m 65 #[vr u, vi (0 : Int32), vi (0 : Int32), vl (1 : Int64), .second, vi (Int32.ofNat k), vi sup, vi (-1 : Int32), vi (-1 : Int32)] [(.ref u)]))
  have c16 := ((F3_firstStep.other W5 (Or.inl n_u_qs)).other W8 (Or.inl n_u_pt))
  obtain ⟨T17, X17, e17, st17⟩ := getF X14 hx hZ hown (host := "") (Or.inl (hw _ (List.mem_of_getElem? (i := 32) rfl))) Via.refl e14 c16 (g := (mkF m 65 #[vr u, vi (0 : Int32), vi (0 : Int32), vl (1 : Int64), .second, vi (Int32.ofNat k), vi sup, vi (-1 : Int32), vi (-1 : Int32)] [(.ref u)])) rfl rfl (hb hby dV_65)
  refine OGo.st (fun t kk => st17 t kk) ?_
  show OGo p e below _ (T17.setTop (mkF m 68 #[vr u, vi (0 : Int32), vi (0 : Int32), vl (1 : Int64), .second, vi (Int32.ofNat k), vi sup, vi (-1 : Int32), vi (-1 : Int32)] [(.ref fs)]))
  refine OGo.st (fun t kk => XS.iloadN X17.here hx rfl (hb hby dV_68) rfl kk) ?_
  show OGo p e below _ (T17.setTop (mkF m 69 #[vr u, vi (0 : Int32), vi (0 : Int32), vl (1 : Int64), .second, vi (Int32.ofNat k), vi sup, vi (-1 : Int32), vi (-1 : Int32)] [(.int (0 : Int32)), (.ref fs)]))
  refine OGo.st (fun t kk => XS.iload X17.here hx rfl (hb hby dV_69) rfl kk) ?_
  show OGo p e below _ (T17.setTop (mkF m 71 #[vr u, vi (0 : Int32), vi (0 : Int32), vl (1 : Int64), .second, vi (Int32.ofNat k), vi sup, vi (-1 : Int32), vi (-1 : Int32)] [(.int (-1 : Int32)), (.int (0 : Int32)), (.ref fs)]))
  have c19 := ((Ofs_3.other W5 n_fs_qs).other W8 n_fs_pt)
  obtain ⟨T18, h18, X18, e18, W18, O18', st18⟩ := OA.stI X17 hx hZ e17 c19 (j := (0 : Int32)) (x := (-1 : Int32)) (k := 0) (by decide) (by decide) (by decide) (g := (mkF m 71 #[vr u, vi (0 : Int32), vi (0 : Int32), vl (1 : Int64), .second, vi (Int32.ofNat k), vi sup, vi (-1 : Int32), vi (-1 : Int32)] [(.int (-1 : Int32)), (.int (0 : Int32)), (.ref fs)])) rfl rfl (hb hby dV_71)
  have O18 := O18'
  have N18 := Fr.snoc X18 N8 g_fs
  have Z18 : n0 ≤ h18.size := Nat.le_trans Z8 (Keep.of_wr W18).1
  obtain ⟨lo18, X18, N18⟩ : ∃ L, Stand p l e ({ frames := 1, cells := 0, slots := 0, locals := 17 } : Room) s m #[(.ref u), (.int (0 : Int32)), (.int (0 : Int32)), (.long (1 : Int64)), (.int (Int32.ofNat k)), (.int sup)] below meth c T18 L 0 0 ∧ Fr n0 L := ⟨_, X18, N18⟩
  refine OGo.st (fun t kk => st18 t kk) ?_
  show OGo p e below _ (T18.setTop (mkF m 72 #[vr u, vi (0 : Int32), vi (0 : Int32), vl (1 : Int64), .second, vi (Int32.ofNat k), vi sup, vi (-1 : Int32), vi (-1 : Int32)] []))
  refine OGo.st (fun t kk => XS.goto X18.here hx rfl (pc0 := 72) (pc' := 84) rfl (hb hby dV_72) (by decide) (by decide) kk) ?_
  show OGo p e below _ (T18.setTop (mkF m 84 #[vr u, vi (0 : Int32), vi (0 : Int32), vl (1 : Int64), .second, vi (Int32.ofNat k), vi sup, vi (-1 : Int32), vi (-1 : Int32)] []))
  refine OGo.st (fun t kk => XS.iload X18.here hx rfl (hb hby dV_84) rfl kk) ?_
  show OGo p e below _ (T18.setTop (mkF m 86 #[vr u, vi (0 : Int32), vi (0 : Int32), vl (1 : Int64), .second, vi (Int32.ofNat k), vi sup, vi (-1 : Int32), vi (-1 : Int32)] [(.int (-1 : Int32))]))
  refine OGo.st (fun t kk => XS.iconst X18.here hx rfl (hb hby dV_86) kk) ?_
  show OGo p e below _ (T18.setTop (mkF m 87 #[vr u, vi (0 : Int32), vi (0 : Int32), vl (1 : Int64), .second, vi (Int32.ofNat k), vi sup, vi (-1 : Int32), vi (-1 : Int32)] [(.int (-1 : Int32)), (.int (-1 : Int32))]))
  refine OGo.st (fun t kk => XS.icmpYes X18.here hx rfl (pc0 := 87) (pc' := 99) rfl (hb hby dV_87) rfl (teq (by decide : ((-1 : Int32) = (-1 : Int32)))).1 (by decide) (by decide) kk) ?_
  show OGo p e below _ (T18.setTop (mkF m 99 #[vr u, vi (0 : Int32), vi (0 : Int32), vl (1 : Int64), .second, vi (Int32.ofNat k), vi sup, vi (-1 : Int32), vi (-1 : Int32)] []))
  refine OGo.st (fun t kk => XS.aloadN X18.here hx rfl (hb hby dV_99) rfl rfl kk) ?_
  show OGo p e below _ (T18.setTop (mkF m 100 #[vr u, vi (0 : Int32), vi (0 : Int32), vl (1 : Int64), .second, vi (Int32.ofNat k), vi sup, vi (-1 : Int32), vi (-1 : Int32)] [(.ref u)]))
  have c20 := (c16.other W18 (Or.inl n_u_fs))
  obtain ⟨T21, X21, e21, st21⟩ := getF X18 hx hZ hown (host := "") (Or.inl (hw _ (List.mem_of_getElem? (i := 32) rfl))) Via.refl e18 c20 (g := (mkF m 100 #[vr u, vi (0 : Int32), vi (0 : Int32), vl (1 : Int64), .second, vi (Int32.ofNat k), vi sup, vi (-1 : Int32), vi (-1 : Int32)] [(.ref u)])) rfl rfl (hb hby dV_100)
  refine OGo.st (fun t kk => st21 t kk) ?_
  show OGo p e below _ (T21.setTop (mkF m 103 #[vr u, vi (0 : Int32), vi (0 : Int32), vl (1 : Int64), .second, vi (Int32.ofNat k), vi sup, vi (-1 : Int32), vi (-1 : Int32)] [(.ref fs)]))
  refine OGo.st (fun t kk => XS.iloadN X21.here hx rfl (hb hby dV_103) rfl kk) ?_
  show OGo p e below _ (T21.setTop (mkF m 104 #[vr u, vi (0 : Int32), vi (0 : Int32), vl (1 : Int64), .second, vi (Int32.ofNat k), vi sup, vi (-1 : Int32), vi (-1 : Int32)] [(.int (0 : Int32)), (.ref fs)]))
  refine OGo.st (fun t kk => OA.ldI X21 hx hZ e21 O18 (j := (0 : Int32)) (k := 0) (by decide) (by decide) (by decide) (g := (mkF m 104 #[vr u, vi (0 : Int32), vi (0 : Int32), vl (1 : Int64), .second, vi (Int32.ofNat k), vi sup, vi (-1 : Int32), vi (-1 : Int32)] [(.int (0 : Int32)), (.ref fs)])) rfl rfl (hb hby dV_104) t kk) ?_
  show OGo p e below _ (T21.setTop (mkF m 105 #[vr u, vi (0 : Int32), vi (0 : Int32), vl (1 : Int64), .second, vi (Int32.ofNat k), vi sup, vi (-1 : Int32), vi (-1 : Int32)] [(.int ((oset (oset ffs 1 (-1)) 0 (-1 : Int32)) 0))]))
  rw [own_o]
  show OGo p e below _ (T21.setTop (mkF m 105 #[vr u, vi (0 : Int32), vi (0 : Int32), vl (1 : Int64), .second, vi (Int32.ofNat k), vi sup, vi (-1 : Int32), vi (-1 : Int32)] [(.int (-1 : Int32))]))
  refine OGo.st (fun t kk => XS.iconst X21.here hx rfl (hb hby dV_105) kk) ?_
  show OGo p e below _ (T21.setTop (mkF m 106 #[vr u, vi (0 : Int32), vi (0 : Int32), vl (1 : Int64), .second, vi (Int32.ofNat k), vi sup, vi (-1 : Int32), vi (-1 : Int32)] [(.int (-1 : Int32)), (.int (-1 : Int32))]))
  refine OGo.st (fun t kk => XS.icmpNo X21.here hx rfl (hb hby dV_106) rfl (teq (by decide : ((-1 : Int32) = (-1 : Int32)))).2 kk) ?_
  show OGo p e below _ (T21.setTop (mkF m 109 #[vr u, vi (0 : Int32), vi (0 : Int32), vl (1 : Int64), .second, vi (Int32.ofNat k), vi sup, vi (-1 : Int32), vi (-1 : Int32)] []))
  refine OGo.st (fun t kk => XS.aloadN X21.here hx rfl (hb hby dV_109) rfl rfl kk) ?_
  show OGo p e below _ (T21.setTop (mkF m 110 #[vr u, vi (0 : Int32), vi (0 : Int32), vl (1 : Int64), .second, vi (Int32.ofNat k), vi sup, vi (-1 : Int32), vi (-1 : Int32)] [(.ref u)]))
  refine OGo.st (fun t kk => XS.iloadN X21.here hx rfl (hb hby dV_110) rfl kk) ?_
  show OGo p e below _ (T21.setTop (mkF m 111 #[vr u, vi (0 : Int32), vi (0 : Int32), vl (1 : Int64), .second, vi (Int32.ofNat k), vi sup, vi (-1 : Int32), vi (-1 : Int32)] [(.int (0 : Int32)), (.ref u)]))
  have c23 := (((E3.wr W5).wr W8).wr W18)
  have c24 := (((F3_emptied.other W5 (Or.inl n_u_qs)).other W8 (Or.inl n_u_pt)).other W18 (Or.inl n_u_fs))
  have c25 := (((F3_free.other W5 (Or.inl n_u_qs)).other W8 (Or.inl n_u_pt)).other W18 (Or.inl n_u_fs))
  have c26 := (((F3_firstOfBlock.other W5 (Or.inl n_u_qs)).other W8 (Or.inl n_u_pt)).other W18 (Or.inl n_u_fs))
  have c27 := (((F3_groupOf.other W5 (Or.inl n_u_qs)).other W8 (Or.inl n_u_pt)).other W18 (Or.inl n_u_fs))
  have c28 := (c10.other W18 (Or.inl n_u_fs))
  have c29 := (c13.other W18 (Or.inl n_u_fs))
  have c30 := (((F3_label.other W5 (Or.inl n_u_qs)).other W8 (Or.inl n_u_pt)).other W18 (Or.inl n_u_fs))
  have c31 := (((F3_superBlock.other W5 (Or.inl n_u_qs)).other W8 (Or.inl n_u_pt)).other W18 (Or.inl n_u_fs))
  have c32 := (((F3_block.other W5 (Or.inl n_u_qs)).other W8 (Or.inl n_u_pt)).other W18 (Or.inl n_u_fs))
  have c33 := (((F3_previous.other W5 (Or.inl n_u_qs)).other W8 (Or.inl n_u_pt)).other W18 (Or.inl n_u_fs))
  have c34 := (((F3_next.other W5 (Or.inl n_u_qs)).other W8 (Or.inl n_u_pt)).other W18 (Or.inl n_u_fs))
  have c35 := ((c6.other W8 (Or.inl n_u_pt)).other W18 (Or.inl n_u_fs))
  have c36 := (((F3_partnerStamp.other W5 (Or.inl n_u_qs)).other W8 (Or.inl n_u_pt)).other W18 (Or.inl n_u_fs))
  have c37 := (((F3_markStamp.other W5 (Or.inl n_u_qs)).other W8 (Or.inl n_u_pt)).other W18 (Or.inl n_u_fs))
  have c38 := (((F3_groupCount.other W5 (Or.inl n_u_qs)).other W8 (Or.inl n_u_pt)).other W18 (Or.inl n_u_fs))
  have c39 := (((F3_emptiedCount.other W5 (Or.inl n_u_qs)).other W8 (Or.inl n_u_pt)).other W18 (Or.inl n_u_fs))
  have c40 := (((F3_freeCount.other W5 (Or.inl n_u_qs)).other W8 (Or.inl n_u_pt)).other W18 (Or.inl n_u_fs))
  have c41 := (((F3_stamp.other W5 (Or.inl n_u_qs)).other W8 (Or.inl n_u_pt)).other W18 (Or.inl n_u_fs))
  have c42 := (((Opv_3.other W5 n_pv_qs).other W8 n_pv_pt).other W18 (Ne.symm n_fs_pv))
  have c43 := (((Onx_3.other W5 n_nx_qs).other W8 n_nx_pt).other W18 (Ne.symm n_fs_nx))
  have c44 := (((Obl_3.other W5 n_bl_qs).other W8 n_bl_pt).other W18 (Ne.symm n_fs_bl))
  have c45 := (((Ofb_3.other W5 n_fb_qs).other W8 n_fb_pt).other W18 n_fb_fs)
  obtain ⟨cq22, q22, q22'⟩ := c23.cell
  obtain ⟨_, _, ⟨T22, L22, k22, n22⟩, -, X22, ⟨Lc22, hQ22, l22, y22, z22⟩, st22⟩ := X21.privateBack hx (y := (⟨"com/example/lockstep/lockstep/check/StepGroups", "unlink", "(I)V"⟩ : MethodName)) hown (mvT hZ (hw _ (List.mem_of_getElem? (i := 89) rfl))) (mvT hZ (hw _ (List.mem_of_getElem? (i := 90) rfl))) (osel (y := (⟨"com/example/lockstep/lockstep/check/StepGroups", "unlink", "(I)V"⟩ : MethodName)) hZ (hw _ (List.mem_of_getElem? (i := 2) rfl)) (hw _ (List.mem_of_getElem? (i := 91) rfl)) (hw _ (List.mem_of_getElem? (i := 90) rfl)) (by decide)) (Cond.privateMethod_at (mvP hZ (hw _ (List.mem_of_getElem? (i := 91) rfl)) (args := #[]))) (mvT hZ (hw _ (List.mem_of_getElem? (i := 92) rfl))) (by decide) (backOf (W := 0) (rmU l Z a0 hw [] u em fr fb go ps ns fs lb sb bl pv nx pt qs ms (Int32.ofNat (1 + 1)) (0 : Int32) (0 : Int32) (1 : Int64) (mkPv fpv 1 (ffb k)) (oset fnx 1 (ffb k)) (oset fbl 1 (Int32.ofNat k)) (oset ffb k (Int32.ofNat 1)) h18 n0 Z18 ⟨c23, c24, c25, c26, c27, c28, c29, c20, c30, c31, c32, c33, c34, c35, c36, c37, c38, c39, c40, c41⟩ ho0 gu c42 c43 c44 c45 (own_up hfk0 hpv) (own_un hnx) (own_ub hbl)) hZ (hw _ (List.mem_of_getElem? (i := 92) rfl)) (hw _ (List.mem_of_getElem? (i := 3) rfl)) (by decide) (by decide)) (g := (mkF m 111 #[vr u, vi (0 : Int32), vi (0 : Int32), vl (1 : Int64), .second, vi (Int32.ofNat k), vi sup, vi (-1 : Int32), vi (-1 : Int32)] [(.int (0 : Int32)), (.ref u)])) rfl (by rw [hml]; rfl) (Steps.refl _) (a := u) (by rw [e21]; exact q22) q22' (argsL := [(.int (0 : Int32))]) (rest := []) (lenOf pdV_1 rfl) rfl (by show 2 * 0 + _ ≤ _; exact Nat.le_of_eq rfl) (hb hby dV_111) (fun _ _ => ⟨rfl, e21, (by decide : 0 + 0 ≤ _), (by decide : 0 + 0 ≤ _)⟩)
  dsimp only [Pt.U, Pt.locs, Pt.cells, Pt.slots] at X22 l22 y22 z22 st22 hQ22
  subst l22 y22 z22
  obtain ⟨rfl, Nq22, Z22, K22⟩ := hQ22
  have N22 := Fr.app N18 Nq22
  obtain ⟨lo22, X22, N22⟩ : ∃ L, Stand p l e ({ frames := 1, cells := 0, slots := 0, locals := 17 } : Room) s m #[(.ref u), (.int (0 : Int32)), (.int (0 : Int32)), (.long (1 : Int64)), (.int (Int32.ofNat k)), (.int sup)] below meth c T22 L 0 0 ∧ Fr n0 L := ⟨_, X22, N22⟩
  refine OGo.st (fun t kk => st22.trans kk) ?_
  show OGo p e below _ (T22.setTop (mkF m 114 #[vr u, vi (0 : Int32), vi (0 : Int32), vl (1 : Int64), .second, vi (Int32.ofNat k), vi sup, vi (-1 : Int32), vi (-1 : Int32)] []))
  refine OGo.st (fun t kk => XS.aloadN X22.here hx rfl (hb hby dV_114) rfl rfl kk) ?_
  show OGo p e below _ (T22.setTop (mkF m 115 #[vr u, vi (0 : Int32), vi (0 : Int32), vl (1 : Int64), .second, vi (Int32.ofNat k), vi sup, vi (-1 : Int32), vi (-1 : Int32)] [(.ref u)]))
  have c46 := (c39.keep K22 (ninS n_u_fb (ninS n_u_nx nin0)))
  obtain ⟨T47, X47, e47, st47⟩ := getF X22 hx hZ hown (host := "") (Or.inl (hw _ (List.mem_of_getElem? (i := 71) rfl))) Via.refl rfl c46 (g := (mkF m 115 #[vr u, vi (0 : Int32), vi (0 : Int32), vl (1 : Int64), .second, vi (Int32.ofNat k), vi sup, vi (-1 : Int32), vi (-1 : Int32)] [(.ref u)])) rfl rfl (hb hby dV_115)
  refine OGo.st (fun t kk => st47 t kk) ?_
  show OGo p e below _ (T47.setTop (mkF m 118 #[vr u, vi (0 : Int32), vi (0 : Int32), vl (1 : Int64), .second, vi (Int32.ofNat k), vi sup, vi (-1 : Int32), vi (-1 : Int32)] [(.int (0 : Int32))]))
  refine OGo.st (fun t kk => XS.aloadN X47.here hx rfl (hb hby dV_118) rfl rfl kk) ?_
  show OGo p e below _ (T47.setTop (mkF m 119 #[vr u, vi (0 : Int32), vi (0 : Int32), vl (1 : Int64), .second, vi (Int32.ofNat k), vi sup, vi (-1 : Int32), vi (-1 : Int32)] [(.ref u), (.int (0 : Int32))]))
  have c48 := (c24.keep K22 (ninS n_u_fb (ninS n_u_nx nin0)))
  obtain ⟨T49, X49, e49, st49⟩ := getF X47 hx hZ hown (host := "") (Or.inl (hw _ (List.mem_of_getElem? (i := 11) rfl))) Via.refl e47 c48 (g := (mkF m 119 #[vr u, vi (0 : Int32), vi (0 : Int32), vl (1 : Int64), .second, vi (Int32.ofNat k), vi sup, vi (-1 : Int32), vi (-1 : Int32)] [(.ref u), (.int (0 : Int32))])) rfl rfl (hb hby dV_119)
  refine OGo.st (fun t kk => st49 t kk) ?_
  show OGo p e below _ (T49.setTop (mkF m 122 #[vr u, vi (0 : Int32), vi (0 : Int32), vl (1 : Int64), .second, vi (Int32.ofNat k), vi sup, vi (-1 : Int32), vi (-1 : Int32)] [(.ref em), (.int (0 : Int32))]))
  have c50 := (((((O_em.keep K3 (ninS (Ne.symm n_u_em) (ninS n_em_fs (ninS n_em_lb (ninS n_em_sb (ninS n_em_bl (ninS n_em_qs (ninS n_em_ms (ninS n_em_pv (ninS n_em_nx (ninS n_em_fb nin0))))))))))).other W5 n_em_qs).other W8 n_em_pt).other W18 n_em_fs).keep K22 (ninS n_em_fb (ninS n_em_nx nin0)))
  refine OGo.st (fun t kk => OA.len X49 hx hZ e49 c50 (z := (16 : Int32)) (by decide) (g := (mkF m 122 #[vr u, vi (0 : Int32), vi (0 : Int32), vl (1 : Int64), .second, vi (Int32.ofNat k), vi sup, vi (-1 : Int32), vi (-1 : Int32)] [(.ref em), (.int (0 : Int32))])) rfl rfl (hb hby dV_122) t kk) ?_
  show OGo p e below _ (T49.setTop (mkF m 123 #[vr u, vi (0 : Int32), vi (0 : Int32), vl (1 : Int64), .second, vi (Int32.ofNat k), vi sup, vi (-1 : Int32), vi (-1 : Int32)] [(.int (16 : Int32)), (.int (0 : Int32))]))
  refine OGo.st (fun t kk => XS.icmpYes X49.here hx rfl (pc0 := 123) (pc' := 151) rfl (hb hby dV_123) rfl (feq (by decide : ¬ ((0 : Int32) = (16 : Int32)))).2 (by decide) (by decide) kk) ?_
  show OGo p e below _ (T49.setTop (mkF m 151 #[vr u, vi (0 : Int32), vi (0 : Int32), vl (1 : Int64), .second, vi (Int32.ofNat k), vi sup, vi (-1 : Int32), vi (-1 : Int32)] []))
  refine OGo.st (fun t kk => XS.aloadN X49.here hx rfl (hb hby dV_151) rfl rfl kk) ?_
  show OGo p e below _ (T49.setTop (mkF m 152 #[vr u, vi (0 : Int32), vi (0 : Int32), vl (1 : Int64), .second, vi (Int32.ofNat k), vi sup, vi (-1 : Int32), vi (-1 : Int32)] [(.ref u)]))
  obtain ⟨T51, X51, e51, st51⟩ := getF X49 hx hZ hown (host := "") (Or.inl (hw _ (List.mem_of_getElem? (i := 11) rfl))) Via.refl e49 c48 (g := (mkF m 152 #[vr u, vi (0 : Int32), vi (0 : Int32), vl (1 : Int64), .second, vi (Int32.ofNat k), vi sup, vi (-1 : Int32), vi (-1 : Int32)] [(.ref u)])) rfl rfl (hb hby dV_152)
  refine OGo.st (fun t kk => st51 t kk) ?_
  show OGo p e below _ (T51.setTop (mkF m 155 #[vr u, vi (0 : Int32), vi (0 : Int32), vl (1 : Int64), .second, vi (Int32.ofNat k), vi sup, vi (-1 : Int32), vi (-1 : Int32)] [(.ref em)]))
  refine OGo.st (fun t kk => XS.aloadN X51.here hx rfl (hb hby dV_155) rfl rfl kk) ?_
  show OGo p e below _ (T51.setTop (mkF m 156 #[vr u, vi (0 : Int32), vi (0 : Int32), vl (1 : Int64), .second, vi (Int32.ofNat k), vi sup, vi (-1 : Int32), vi (-1 : Int32)] [(.ref u), (.ref em)]))
  refine OGo.st (fun t kk => XS.dup X51.here hx rfl (hb hby dV_156) rfl rfl kk) ?_
  show OGo p e below _ (T51.setTop (mkF m 157 #[vr u, vi (0 : Int32), vi (0 : Int32), vl (1 : Int64), .second, vi (Int32.ofNat k), vi sup, vi (-1 : Int32), vi (-1 : Int32)] [(.ref u), (.ref u), (.ref em)]))
  obtain ⟨T52, X52, e52, st52⟩ := getF X51 hx hZ hown (host := "") (Or.inl (hw _ (List.mem_of_getElem? (i := 71) rfl))) Via.refl e51 c46 (g := (mkF m 157 #[vr u, vi (0 : Int32), vi (0 : Int32), vl (1 : Int64), .second, vi (Int32.ofNat k), vi sup, vi (-1 : Int32), vi (-1 : Int32)] [(.ref u), (.ref u), (.ref em)])) rfl rfl (hb hby dV_157)
  refine OGo.st (fun t kk => st52 t kk) ?_
  show OGo p e below _ (T52.setTop (mkF m 160 #[vr u, vi (0 : Int32), vi (0 : Int32), vl (1 : Int64), .second, vi (Int32.ofNat k), vi sup, vi (-1 : Int32), vi (-1 : Int32)] [(.int (0 : Int32)), (.ref u), (.ref em)]))
  refine OGo.st (fun t kk => XS.dupX1 X52.here hx rfl (hb hby dV_160) rfl rfl rfl kk) ?_
  show OGo p e below _ (T52.setTop (mkF m 161 #[vr u, vi (0 : Int32), vi (0 : Int32), vl (1 : Int64), .second, vi (Int32.ofNat k), vi sup, vi (-1 : Int32), vi (-1 : Int32)] [(.int (0 : Int32)), (.ref u), (.int (0 : Int32)), (.ref em)]))
  refine OGo.st (fun t kk => XS.iconst X52.here hx rfl (hb hby dV_161) kk) ?_
  show OGo p e below _ (T52.setTop (mkF m 162 #[vr u, vi (0 : Int32), vi (0 : Int32), vl (1 : Int64), .second, vi (Int32.ofNat k), vi sup, vi (-1 : Int32), vi (-1 : Int32)] [(.int (1 : Int32)), (.int (0 : Int32)), (.ref u), (.int (0 : Int32)), (.ref em)]))
  refine OGo.st (fun t kk => XS.iadd X52.here hx rfl (hb hby dV_162) rfl kk) ?_
  show OGo p e below _ (T52.setTop (mkF m 163 #[vr u, vi (0 : Int32), vi (0 : Int32), vl (1 : Int64), .second, vi (Int32.ofNat k), vi sup, vi (-1 : Int32), vi (-1 : Int32)] [(.int (1 : Int32)), (.ref u), (.int (0 : Int32)), (.ref em)]))
  have c53 := (c23.keep K22)
  obtain ⟨T54, h54, X54, e54, W54, st54⟩ := putF X52 hx hZ hown (host := "") (Or.inl (hw _ (List.mem_of_getElem? (i := 71) rfl))) Via.refl e52 c46 c53 (Or.inl (hw _ (List.mem_of_getElem? (i := 72) rfl))) (hw _ (List.mem_of_getElem? (i := 2) rfl)) (ty := .int) (by decide) rfl rfl (g := (mkF m 163 #[vr u, vi (0 : Int32), vi (0 : Int32), vl (1 : Int64), .second, vi (Int32.ofNat k), vi sup, vi (-1 : Int32), vi (-1 : Int32)] [(.int (1 : Int32)), (.ref u), (.int (0 : Int32)), (.ref em)])) rfl rfl (hb hby dV_163)
  have Fw54 := c46.same W54
  have N54 := Fr.snoc X54 N22 gu
  have Z54 : n0 ≤ h54.size := Nat.le_trans Z22 (Keep.of_wr W54).1
  obtain ⟨lo54, X54, N54⟩ : ∃ L, Stand p l e ({ frames := 1, cells := 0, slots := 0, locals := 17 } : Room) s m #[(.ref u), (.int (0 : Int32)), (.int (0 : Int32)), (.long (1 : Int64)), (.int (Int32.ofNat k)), (.int sup)] below meth c T54 L 0 0 ∧ Fr n0 L := ⟨_, X54, N54⟩
  refine OGo.st (fun t kk => st54 t kk) ?_
  show OGo p e below _ (T54.setTop (mkF m 166 #[vr u, vi (0 : Int32), vi (0 : Int32), vl (1 : Int64), .second, vi (Int32.ofNat k), vi sup, vi (-1 : Int32), vi (-1 : Int32)] [(.int (0 : Int32)), (.ref em)]))
  refine OGo.st (fun t kk => XS.iloadN X54.here hx rfl (hb hby dV_166) rfl kk) ?_
  show OGo p e below _ (T54.setTop (mkF m 167 #[vr u, vi (0 : Int32), vi (0 : Int32), vl (1 : Int64), .second, vi (Int32.ofNat k), vi sup, vi (-1 : Int32), vi (-1 : Int32)] [(.int (0 : Int32)), (.int (0 : Int32)), (.ref em)]))
  have c56 := (c50.other W54 (Ne.symm n_u_em))
  obtain ⟨T55, h55, X55, e55, W55, O55', st55⟩ := OA.stI X54 hx hZ e54 c56 (j := (0 : Int32)) (x := (0 : Int32)) (k := 0) (by decide) (by decide) (by decide) (g := (mkF m 167 #[vr u, vi (0 : Int32), vi (0 : Int32), vl (1 : Int64), .second, vi (Int32.ofNat k), vi sup, vi (-1 : Int32), vi (-1 : Int32)] [(.int (0 : Int32)), (.int (0 : Int32)), (.ref em)])) rfl rfl (hb hby dV_167)
  have O55 := O55'
  have N55 := Fr.snoc X55 N54 g_em
  have Z55 : n0 ≤ h55.size := Nat.le_trans Z54 (Keep.of_wr W55).1
  obtain ⟨lo55, X55, N55⟩ : ∃ L, Stand p l e ({ frames := 1, cells := 0, slots := 0, locals := 17 } : Room) s m #[(.ref u), (.int (0 : Int32)), (.int (0 : Int32)), (.long (1 : Int64)), (.int (Int32.ofNat k)), (.int sup)] below meth c T55 L 0 0 ∧ Fr n0 L := ⟨_, X55, N55⟩
  refine OGo.st (fun t kk => st55 t kk) ?_
  show OGo p e below _ (T55.setTop (mkF m 168 #[vr u, vi (0 : Int32), vi (0 : Int32), vl (1 : Int64), .second, vi (Int32.ofNat k), vi sup, vi (-1 : Int32), vi (-1 : Int32)] []))
  refine OGo.st (fun t kk => XS.aloadN X55.here hx rfl (hb hby dV_168) rfl rfl kk) ?_
  show OGo p e below _ (T55.setTop (mkF m 169 #[vr u, vi (0 : Int32), vi (0 : Int32), vl (1 : Int64), .second, vi (Int32.ofNat k), vi sup, vi (-1 : Int32), vi (-1 : Int32)] [(.ref u)]))
  refine OGo.st (fun t kk => XS.iloadN X55.here hx rfl (hb hby dV_169) rfl kk) ?_
  show OGo p e below _ (T55.setTop (mkF m 170 #[vr u, vi (0 : Int32), vi (0 : Int32), vl (1 : Int64), .second, vi (Int32.ofNat k), vi sup, vi (-1 : Int32), vi (-1 : Int32)] [(.int (0 : Int32)), (.ref u)]))
  refine OGo.st (fun t kk => XS.aloadN X55.here hx rfl (hb hby dV_170) rfl rfl kk) ?_
  show OGo p e below _ (T55.setTop (mkF m 171 #[vr u, vi (0 : Int32), vi (0 : Int32), vl (1 : Int64), .second, vi (Int32.ofNat k), vi sup, vi (-1 : Int32), vi (-1 : Int32)] [(.ref u), (.int (0 : Int32)), (.ref u)]))
  have c57 := (((c35.keep K22 (ninS n_u_fb (ninS n_u_nx nin0))).other W54 (Or.inr (slot_ne (Or.inl (hw _ (List.mem_of_getElem? (i := 45) rfl))) (Or.inl (hw _ (List.mem_of_getElem? (i := 72) rfl))) (by decide) (t := (.array .int)) (t' := .int) (by decide) (by decide)))).other W55 (Or.inl n_u_em))
  obtain ⟨T58, X58, e58, st58⟩ := getF X55 hx hZ hown (host := "") (Or.inl (hw _ (List.mem_of_getElem? (i := 44) rfl))) Via.refl e55 c57 (g := (mkF m 171 #[vr u, vi (0 : Int32), vi (0 : Int32), vl (1 : Int64), .second, vi (Int32.ofNat k), vi sup, vi (-1 : Int32), vi (-1 : Int32)] [(.ref u), (.int (0 : Int32)), (.ref u)])) rfl rfl (hb hby dV_171)
  refine OGo.st (fun t kk => st58 t kk) ?_
  show OGo p e below _ (T58.setTop (mkF m 174 #[vr u, vi (0 : Int32), vi (0 : Int32), vl (1 : Int64), .second, vi (Int32.ofNat k), vi sup, vi (-1 : Int32), vi (-1 : Int32)] [(.ref pt), (.int (0 : Int32)), (.ref u)]))
  refine OGo.st (fun t kk => XS.iloadN X58.here hx rfl (hb hby dV_174) rfl kk) ?_
  show OGo p e below _ (T58.setTop (mkF m 175 #[vr u, vi (0 : Int32), vi (0 : Int32), vl (1 : Int64), .second, vi (Int32.ofNat k), vi sup, vi (-1 : Int32), vi (-1 : Int32)] [(.int (0 : Int32)), (.ref pt), (.int (0 : Int32)), (.ref u)]))
  have c59 := ((((O8.other W18 (Ne.symm n_fs_pt)).keep K22 (ninS (Ne.symm n_fb_pt) (ninS (Ne.symm n_nx_pt) nin0))).other W54 (Ne.symm n_u_pt)).other W55 (Ne.symm n_em_pt))
  refine OGo.st (fun t kk => OA.ldI X58 hx hZ e58 c59 (j := (0 : Int32)) (k := 0) (by decide) (by decide) (by decide) (g := (mkF m 175 #[vr u, vi (0 : Int32), vi (0 : Int32), vl (1 : Int64), .second, vi (Int32.ofNat k), vi sup, vi (-1 : Int32), vi (-1 : Int32)] [(.int (0 : Int32)), (.ref pt), (.int (0 : Int32)), (.ref u)])) rfl rfl (hb hby dV_175) t kk) ?_
  show OGo p e below _ (T58.setTop (mkF m 176 #[vr u, vi (0 : Int32), vi (0 : Int32), vl (1 : Int64), .second, vi (Int32.ofNat k), vi sup, vi (-1 : Int32), vi (-1 : Int32)] [(.int ((oset fpt 0 (Int32.ofNat 1)) 0)), (.int (0 : Int32)), (.ref u)]))
  rw [own_o]
  show OGo p e below _ (T58.setTop (mkF m 176 #[vr u, vi (0 : Int32), vi (0 : Int32), vl (1 : Int64), .second, vi (Int32.ofNat k), vi sup, vi (-1 : Int32), vi (-1 : Int32)] [(.int (Int32.ofNat 1)), (.int (0 : Int32)), (.ref u)]))
  have c61 := ((c53.wr W54).wr W55)
  have c62 := ((c48.other W54 (Or.inr (slot_ne (Or.inl (hw _ (List.mem_of_getElem? (i := 12) rfl))) (Or.inl (hw _ (List.mem_of_getElem? (i := 72) rfl))) (by decide) (t := (.array .int)) (t' := .int) (by decide) (by decide)))).other W55 (Or.inl n_u_em))
  have c63 := (((c25.keep K22 (ninS n_u_fb (ninS n_u_nx nin0))).other W54 (Or.inr (slot_ne (Or.inl (hw _ (List.mem_of_getElem? (i := 14) rfl))) (Or.inl (hw _ (List.mem_of_getElem? (i := 72) rfl))) (by decide) (t := (.array .int)) (t' := .int) (by decide) (by decide)))).other W55 (Or.inl n_u_em))
  have c64 := (((c26.keep K22 (ninS n_u_fb (ninS n_u_nx nin0))).other W54 (Or.inr (slot_ne (Or.inl (hw _ (List.mem_of_getElem? (i := 16) rfl))) (Or.inl (hw _ (List.mem_of_getElem? (i := 72) rfl))) (by decide) (t := (.array .int)) (t' := .int) (by decide) (by decide)))).other W55 (Or.inl n_u_em))
  have c65 := (((c27.keep K22 (ninS n_u_fb (ninS n_u_nx nin0))).other W54 (Or.inr (slot_ne (Or.inr (hw _ (List.mem_of_getElem? (i := 23) rfl))) (Or.inl (hw _ (List.mem_of_getElem? (i := 72) rfl))) (by decide) (t := (.array .int)) (t' := .int) (by decide) (by decide)))).other W55 (Or.inl n_u_em))
  have c66 := (((c28.keep K22 (ninS n_u_fb (ninS n_u_nx nin0))).other W54 (Or.inr (slot_ne (Or.inr (hw _ (List.mem_of_getElem? (i := 25) rfl))) (Or.inl (hw _ (List.mem_of_getElem? (i := 72) rfl))) (by decide) (t := (.array .int)) (t' := .int) (by decide) (by decide)))).other W55 (Or.inl n_u_em))
  have c67 := (((c29.keep K22 (ninS n_u_fb (ninS n_u_nx nin0))).other W54 (Or.inr (slot_ne (Or.inr (hw _ (List.mem_of_getElem? (i := 27) rfl))) (Or.inl (hw _ (List.mem_of_getElem? (i := 72) rfl))) (by decide) (t := (.array .int)) (t' := .int) (by decide) (by decide)))).other W55 (Or.inl n_u_em))
  have c68 := (((c20.keep K22 (ninS n_u_fb (ninS n_u_nx nin0))).other W54 (Or.inr (slot_ne (Or.inl (hw _ (List.mem_of_getElem? (i := 33) rfl))) (Or.inl (hw _ (List.mem_of_getElem? (i := 72) rfl))) (by decide) (t := (.array .int)) (t' := .int) (by decide) (by decide)))).other W55 (Or.inl n_u_em))
  have c69 := (((c30.keep K22 (ninS n_u_fb (ninS n_u_nx nin0))).other W54 (Or.inr (slot_ne (Or.inl (hw _ (List.mem_of_getElem? (i := 35) rfl))) (Or.inl (hw _ (List.mem_of_getElem? (i := 72) rfl))) (by decide) (t := (.array .int)) (t' := .int) (by decide) (by decide)))).other W55 (Or.inl n_u_em))
  have c70 := (((c31.keep K22 (ninS n_u_fb (ninS n_u_nx nin0))).other W54 (Or.inr (slot_ne (Or.inl (hw _ (List.mem_of_getElem? (i := 37) rfl))) (Or.inl (hw _ (List.mem_of_getElem? (i := 72) rfl))) (by decide) (t := (.array .int)) (t' := .int) (by decide) (by decide)))).other W55 (Or.inl n_u_em))
  have c71 := (((c32.keep K22 (ninS n_u_fb (ninS n_u_nx nin0))).other W54 (Or.inr (slot_ne (Or.inl (hw _ (List.mem_of_getElem? (i := 39) rfl))) (Or.inl (hw _ (List.mem_of_getElem? (i := 72) rfl))) (by decide) (t := (.array .int)) (t' := .int) (by decide) (by decide)))).other W55 (Or.inl n_u_em))
  have c72 := (((c33.keep K22 (ninS n_u_fb (ninS n_u_nx nin0))).other W54 (Or.inr (slot_ne (Or.inl (hw _ (List.mem_of_getElem? (i := 41) rfl))) (Or.inl (hw _ (List.mem_of_getElem? (i := 72) rfl))) (by decide) (t := (.array .int)) (t' := .int) (by decide) (by decide)))).other W55 (Or.inl n_u_em))
  have c73 := (((c34.keep K22 (ninS n_u_fb (ninS n_u_nx nin0))).other W54 (Or.inr (slot_ne (Or.inl (hw _ (List.mem_of_getElem? (i := 43) rfl))) (Or.inl (hw _ (List.mem_of_getElem? (i := 72) rfl))) (by decide) (t := (.array .int)) (t' := .int) (by decide) (by decide)))).other W55 (Or.inl n_u_em))
  have c74 := (((c36.keep K22 (ninS n_u_fb (ninS n_u_nx nin0))).other W54 (Or.inr (slot_ne (Or.inl (hw _ (List.mem_of_getElem? (i := 47) rfl))) (Or.inl (hw _ (List.mem_of_getElem? (i := 72) rfl))) (by decide) (t := (.array .long)) (t' := .int) (by decide) (by decide)))).other W55 (Or.inl n_u_em))
  have c75 := (((c37.keep K22 (ninS n_u_fb (ninS n_u_nx nin0))).other W54 (Or.inr (slot_ne (Or.inl (hw _ (List.mem_of_getElem? (i := 49) rfl))) (Or.inl (hw _ (List.mem_of_getElem? (i := 72) rfl))) (by decide) (t := (.array .long)) (t' := .int) (by decide) (by decide)))).other W55 (Or.inl n_u_em))
  have c76 := (((c38.keep K22 (ninS n_u_fb (ninS n_u_nx nin0))).other W54 (Or.inr (slot_ne (Or.inl (hw _ (List.mem_of_getElem? (i := 61) rfl))) (Or.inl (hw _ (List.mem_of_getElem? (i := 72) rfl))) (by decide) (t := .int) (t' := .int) (by decide) (by decide)))).other W55 (Or.inl n_u_em))
  have c77 := (Fw54.other W55 (Or.inl n_u_em))
  have c78 := (((c40.keep K22 (ninS n_u_fb (ninS n_u_nx nin0))).other W54 (Or.inr (slot_ne (Or.inl (hw _ (List.mem_of_getElem? (i := 59) rfl))) (Or.inl (hw _ (List.mem_of_getElem? (i := 72) rfl))) (by decide) (t := .int) (t' := .int) (by decide) (by decide)))).other W55 (Or.inl n_u_em))
  have c79 := (((c41.keep K22 (ninS n_u_fb (ninS n_u_nx nin0))).other W54 (Or.inr (slot_ne (Or.inl (hw _ (List.mem_of_getElem? (i := 74) rfl))) (Or.inl (hw _ (List.mem_of_getElem? (i := 72) rfl))) (by decide) (t := .long) (t' := .int) (by decide) (by decide)))).other W55 (Or.inl n_u_em))
  have c80 := ((((c12.other W18 n_ps_fs).keep K22 (ninS (Ne.symm n_fb_ps) (ninS n_ps_nx nin0))).other W54 (Ne.symm n_u_ps)).other W55 (Ne.symm n_em_ps))
  have c81 := ((((c15.other W18 n_ns_fs).keep K22 (ninS (Ne.symm n_fb_ns) (ninS n_ns_nx nin0))).other W54 (Ne.symm n_u_ns)).other W55 (Ne.symm n_em_ns))
  have c82 := (((O18.keep K22 (ninS (Ne.symm n_fb_fs) (ninS n_fs_nx nin0))).other W54 (Ne.symm n_u_fs)).other W55 (Ne.symm n_em_fs))
  have c83 := (((((((O_go.keep K3 (ninS (Ne.symm n_u_go) (ninS n_go_fs (ninS n_go_lb (ninS n_go_sb (ninS n_go_bl (ninS n_go_qs (ninS n_go_ms (ninS n_go_pv (ninS n_go_nx (ninS (Ne.symm n_fb_go) nin0))))))))))).other W5 n_go_qs).other W8 n_go_pt).other W18 n_go_fs).keep K22 (ninS (Ne.symm n_fb_go) (ninS n_go_nx nin0))).other W54 (Ne.symm n_u_go)).other W55 (Ne.symm n_em_go))
  obtain ⟨cq60, q60, q60'⟩ := c61.cell
  obtain ⟨_, _, ⟨T60, L60, k60, n60⟩, -, X60, ⟨Lc60, hQ60, l60, y60, z60⟩, st60⟩ := X58.privateBack hx (y := (⟨"com/example/lockstep/lockstep/check/StepGroups", "link", "(II)V"⟩ : MethodName)) hown (mvT hZ (hw _ (List.mem_of_getElem? (i := 62) rfl))) (mvT hZ (hw _ (List.mem_of_getElem? (i := 63) rfl))) (osel (y := (⟨"com/example/lockstep/lockstep/check/StepGroups", "link", "(II)V"⟩ : MethodName)) hZ (hw _ (List.mem_of_getElem? (i := 2) rfl)) (hw _ (List.mem_of_getElem? (i := 64) rfl)) (hw _ (List.mem_of_getElem? (i := 63) rfl)) (by decide)) (Cond.privateMethod_at (mvP hZ (hw _ (List.mem_of_getElem? (i := 64) rfl)) (args := #[]))) (mvT hZ (hw _ (List.mem_of_getElem? (i := 65) rfl))) (by decide) (backOf (W := 0) (rmL l Z a0 hw [] u 1 em fr fb go ps ns fs lb sb bl pv nx pt qs ms (Int32.ofNat (1 + 1)) (1 : Int32) (0 : Int32) (1 : Int64) fps fns (oset (oset ffs 1 (-1)) 0 (-1 : Int32)) fgo h55 n0 Z55 ⟨c61, c62, c63, c64, c65, c66, c67, c68, c69, c70, c71, c72, c73, c57, c74, c75, c76, c77, c78, c79⟩ ho0 gu c80 c81 c82 c83 (by omega) (own_o1 _ _)) hZ (hw _ (List.mem_of_getElem? (i := 65) rfl)) (hw _ (List.mem_of_getElem? (i := 3) rfl)) (by decide) (by decide)) (g := (mkF m 176 #[vr u, vi (0 : Int32), vi (0 : Int32), vl (1 : Int64), .second, vi (Int32.ofNat k), vi sup, vi (-1 : Int32), vi (-1 : Int32)] [(.int (Int32.ofNat 1)), (.int (0 : Int32)), (.ref u)])) rfl (by rw [hml]; rfl) (Steps.refl _) (a := u) (by rw [e58]; exact q60) q60' (argsL := [(.int (0 : Int32)), (.int (Int32.ofNat 1))]) (rest := []) (lenOf pdV_2 rfl) rfl (by show 2 * 0 + _ ≤ _; exact Nat.le_of_eq rfl) (hb hby dV_176) (fun _ _ => ⟨rfl, e58, (by decide : 0 + 0 ≤ _), (by decide : 0 + 0 ≤ _)⟩)
  dsimp only [Pt.U, Pt.locs, Pt.cells, Pt.slots] at X60 l60 y60 z60 st60 hQ60
  subst l60 y60 z60
  obtain ⟨rfl, Nq60, Z60, K60, Ops_60, Ons_60, Ofs_60, Ogo_60⟩ := hQ60
  have N60 := Fr.app N55 Nq60
  obtain ⟨lo60, X60, N60⟩ : ∃ L, Stand p l e ({ frames := 1, cells := 0, slots := 0, locals := 17 } : Room) s m #[(.ref u), (.int (0 : Int32)), (.int (0 : Int32)), (.long (1 : Int64)), (.int (Int32.ofNat k)), (.int sup)] below meth c T60 L 0 0 ∧ Fr n0 L := ⟨_, X60, N60⟩
  refine OGo.st (fun t kk => st60.trans kk) ?_
  show OGo p e below _ (T60.setTop (mkF m 179 #[vr u, vi (0 : Int32), vi (0 : Int32), vl (1 : Int64), .second, vi (Int32.ofNat k), vi sup, vi (-1 : Int32), vi (-1 : Int32)] []))
  have c84 := (c61.keep K60)
  have c85 := (c62.keep K60 (ninS n_u_ps (ninS n_u_ns (ninS n_u_fs (ninS n_u_go nin0)))))
  have c86 := (c63.keep K60 (ninS n_u_ps (ninS n_u_ns (ninS n_u_fs (ninS n_u_go nin0)))))
  have c87 := (c64.keep K60 (ninS n_u_ps (ninS n_u_ns (ninS n_u_fs (ninS n_u_go nin0)))))
  have c88 := (c65.keep K60 (ninS n_u_ps (ninS n_u_ns (ninS n_u_fs (ninS n_u_go nin0)))))
  have c89 := (c66.keep K60 (ninS n_u_ps (ninS n_u_ns (ninS n_u_fs (ninS n_u_go nin0)))))
  have c90 := (c67.keep K60 (ninS n_u_ps (ninS n_u_ns (ninS n_u_fs (ninS n_u_go nin0)))))
  have c91 := (c68.keep K60 (ninS n_u_ps (ninS n_u_ns (ninS n_u_fs (ninS n_u_go nin0)))))
  have c92 := (c69.keep K60 (ninS n_u_ps (ninS n_u_ns (ninS n_u_fs (ninS n_u_go nin0)))))
  have c93 := (c70.keep K60 (ninS n_u_ps (ninS n_u_ns (ninS n_u_fs (ninS n_u_go nin0)))))
  have c94 := (c71.keep K60 (ninS n_u_ps (ninS n_u_ns (ninS n_u_fs (ninS n_u_go nin0)))))
  have c95 := (c72.keep K60 (ninS n_u_ps (ninS n_u_ns (ninS n_u_fs (ninS n_u_go nin0)))))
  have c96 := (c73.keep K60 (ninS n_u_ps (ninS n_u_ns (ninS n_u_fs (ninS n_u_go nin0)))))
  have c97 := (c57.keep K60 (ninS n_u_ps (ninS n_u_ns (ninS n_u_fs (ninS n_u_go nin0)))))
  have c98 := (c74.keep K60 (ninS n_u_ps (ninS n_u_ns (ninS n_u_fs (ninS n_u_go nin0)))))
  have c99 := (c75.keep K60 (ninS n_u_ps (ninS n_u_ns (ninS n_u_fs (ninS n_u_go nin0)))))
  have c100 := (c76.keep K60 (ninS n_u_ps (ninS n_u_ns (ninS n_u_fs (ninS n_u_go nin0)))))
  have c101 := (c77.keep K60 (ninS n_u_ps (ninS n_u_ns (ninS n_u_fs (ninS n_u_go nin0)))))
  have c102 := (c78.keep K60 (ninS n_u_ps (ninS n_u_ns (ninS n_u_fs (ninS n_u_go nin0)))))
  have c103 := (c79.keep K60 (ninS n_u_ps (ninS n_u_ns (ninS n_u_fs (ninS n_u_go nin0)))))
  have c104 := (((((((Olb_3.other W5 n_lb_qs).other W8 n_lb_pt).other W18 (Ne.symm n_fs_lb)).keep K22 (ninS (Ne.symm n_fb_lb) (ninS n_lb_nx nin0))).other W54 (Ne.symm n_u_lb)).other W55 (Ne.symm n_em_lb)).keep K60 (ninS (Ne.symm n_ps_lb) (ninS (Ne.symm n_ns_lb) (ninS (Ne.symm n_fs_lb) (ninS (Ne.symm n_go_lb) nin0)))))
  have c105 := ((((c44.keep K22 (ninS (Ne.symm n_fb_bl) (ninS n_bl_nx nin0))).other W54 (Ne.symm n_u_bl)).other W55 (Ne.symm n_em_bl)).keep K60 (ninS (Ne.symm n_ps_bl) (ninS (Ne.symm n_ns_bl) (ninS (Ne.symm n_fs_bl) (ninS (Ne.symm n_go_bl) nin0)))))
  have c106 := (((((((Osb_3.other W5 n_sb_qs).other W8 n_sb_pt).other W18 (Ne.symm n_fs_sb)).keep K22 (ninS (Ne.symm n_fb_sb) (ninS n_sb_nx nin0))).other W54 (Ne.symm n_u_sb)).other W55 (Ne.symm n_em_sb)).keep K60 (ninS (Ne.symm n_ps_sb) (ninS (Ne.symm n_ns_sb) (ninS (Ne.symm n_fs_sb) (ninS (Ne.symm n_go_sb) nin0)))))
  refine OGo.outV X60 hx Bd.returns Bd.notSynchronized (hb hby dV_179) ?_ (by decide) (by decide)
  exact ⟨rfl, N60, Z60, ⟨c84, c85, c86, c87, c88, c89, c90, c91, c92, c93, c94, c95, c96, c97, c98, c99, c100, c101, c102, c103⟩, _, _, _, _, Ofs_60, c104, c105, c106, (by simp [oset]), (by simp [oset]), (by simp [oset]), (by simp [oset]), (by simp [oset])⟩
theorem dB_0 : decode prog_76_method_4_code 0 = .ok (.aload_n 0, 1) := by decide +kernel
theorem dB_1 : decode prog_76_method_4_code 1 = .ok (.getfield 26, 3) := by decide +kernel
theorem dB_4 : decode prog_76_method_4_code 4 = .ok (.iload_n 1, 1) := by decide +kernel
theorem dB_5 : decode prog_76_method_4_code 5 = .ok (.iaload, 1) := by decide +kernel
theorem dB_6 : decode prog_76_method_4_code 6 = .ok (.istore 5, 2) := by decide +kernel
theorem dB_8 : decode prog_76_method_4_code 8 = .ok (.iload 5, 2) := by decide +kernel
theorem dB_10 : decode prog_76_method_4_code 10 = .ok (.iconst (-1), 1) := by decide +kernel
theorem dB_11 : decode prog_76_method_4_code 11 = .ok (.if_icmp .eq 20, 3) := by decide +kernel
theorem dB_14 : decode prog_76_method_4_code 14 = .ok (.aload_n 0, 1) := by decide +kernel
theorem dB_15 : decode prog_76_method_4_code 15 = .ok (.iload_n 1, 1) := by decide +kernel
theorem dB_16 : decode prog_76_method_4_code 16 = .ok (.iload 5, 2) := by decide +kernel
theorem dB_18 : decode prog_76_method_4_code 18 = .ok (.lload_n 2, 1) := by decide +kernel
theorem dB_19 : decode prog_76_method_4_code 19 = .ok (.iload 4, 2) := by decide +kernel
theorem dB_21 : decode prog_76_method_4_code 21 = .ok (.aload_n 0, 1) := by decide +kernel
theorem dB_22 : decode prog_76_method_4_code 22 = .ok (.getfield 47, 3) := by decide +kernel
theorem dB_25 : decode prog_76_method_4_code 25 = .ok (.iload 5, 2) := by decide +kernel
theorem dB_27 : decode prog_76_method_4_code 27 = .ok (.iaload, 1) := by decide +kernel
theorem dB_28 : decode prog_76_method_4_code 28 = .ok (.invokevirtual 109, 3) := by decide +kernel
theorem dB_31 : decode prog_76_method_4_code 31 = .ok (.return_, 1) := by decide +kernel
theorem pnB : plainName "com/example/lockstep/lockstep/check/StepGroups" = true := by first | (simp [plainName, overriddenIn]; done) | decide +kernel
theorem pdB_0 : parseMethodDescriptor "(IIJII)V" = some ⟨[.int, .int, .long, .int, .int], none⟩ := by decide +kernel
theorem efB (m : MethodId) (u : Addr) (k : Nat) : entryFrame m #[(.ref u), (.int (0 : Int32)), (.long (1 : Int64)), (.int (Int32.ofNat k))] 6 = mkF m 0 #[.val (.ref u), .val (.int (0 : Int32)), .val (.long (1 : Int64)), .second, .val (.int (Int32.ofNat k)), .unset] [] := by first | (simp [entryFrame, mkF, argsToLocals, Value.category]; done) | rfl
set_option maxRecDepth 65536 in
set_option maxHeartbeats 40000000 in
theorem rmB (l : Launch) (Z : State) (a0 : Array Value) (hw : ∀ d ∈ tables_1, d.before a0 Z = true) (ws : List Jvm.Cond) (u : Addr) (k : Nat) (em : Addr) (fr : Addr) (fb : Addr) (go : Addr) (ps : Addr) (ns : Addr) (fs : Addr) (lb : Addr) (sb : Addr) (bl : Addr) (pv : Addr) (nx : Addr) (pt : Addr) (qs : Addr) (ms : Addr) (lab : Int32) (fem : Nat → Int32) (ffb : Nat → Int32) (fgo : Nat → Int32) (fps : Nat → Int32) (fns : Nat → Int32) (ffs : Nat → Int32) (flb : Nat → Int32) (fsb : Nat → Int32) (fbl : Nat → Int32) (fpv : Nat → Int32) (fnx : Nat → Int32) (fpt : Nat → Int32) (fqs : Nat → Int64) (fms : Nat → Int64) (h0 : Heap) (n0 : Nat) (Z0 : n0 ≤ h0.size) (U : FU Z h0 u em fr fb go ps ns fs lb sb bl pv nx pt qs ms (Int32.ofNat 1) 0 0 1) (ho : ORD u em fr fb go ps ns fs lb sb bl pv nx pt qs ms) (gu : n0 ≤ u) (O_em : OA Z h0 em .int 16 fem) (O_fb : OA Z h0 fb .int 16 ffb) (O_go : OA Z h0 go .int 1 fgo) (O_ps : OA Z h0 ps .int 1 fps) (O_ns : OA Z h0 ns .int 1 fns) (O_fs : OA Z h0 fs .int 16 ffs) (O_lb : OA Z h0 lb .int 16 flb) (O_sb : OA Z h0 sb .int 16 fsb) (O_bl : OA Z h0 bl .int 16 fbl) (O_pv : OA Z h0 pv .int 16 fpv) (O_nx : OA Z h0 nx .int 16 fnx) (O_pt : OA Z h0 pt .int 16 fpt) (O_qs : OL Z h0 qs 16 fqs) (O_ms : OL Z h0 ms 16 fms) (hqs : fqs 0 = 0) (hlb : flb 0 = lab) (hps : fps 0 = -1) (hns : fns 0 = -1) (hpv : fpv 0 = -1) (hnx : fnx 0 = -1) (hbl : fbl 0 = 0) (hgo : fgo 0 = 0) (hsb : fsb 0 = 0) (hk : k < 16) (hfk0 : (k = 0 ∧ ffb k = 0) ∨ (¬ k = 0 ∧ ffb k = -1)) :
    MetFree l (⟨"com/example/lockstep/lockstep/check/StepGroups", "moveToBlock", "(IJI)V"⟩ : MethodName) (head1 (Jvm.Cond.code (⟨"com/example/lockstep/lockstep/check/StepGroups", "moveToBlock", "(IJI)V"⟩ : MethodName) prog_76_method_4_code 6 none :: ws) ({ frames := 2, cells := 0, slots := 0, locals := 37 } : Room)) (fun a U => a = #[(.ref u), (.int (0 : Int32)), (.long (1 : Int64)), (.int (Int32.ofNat k))] ∧ Z.Warmed39 U.vm ∧ U.heap = h0) (fun _ _ _ _ _ => True) (fun _ U o U' => ∃ v L, o = .returned v ∧ (QV Z n0 u em fr fb go ps ns fs lb sb bl pv nx pt qs ms lab k 0) v U'.heap L ∧ FrameEnd U o U' L ({ frames := 2, cells := 0, slots := 0, locals := 37 } : Room).cells ({ frames := 2, cells := 0, slots := 0, locals := 37 } : Room).slots) := by
  refine MetFree.of_bodySF (plainFor_of_name pnB) hisR ?_
  intro p e s m args below meth c s₁ Bd hml0 hP hK
  obtain ⟨rfl, hZ, hh⟩ := hP
  have hx := Bd.exec
  have hby := Bd.bytes
  have hml : c.maxLocals = 6 := hml0
  have hown : s.vm.findClass "com/example/lockstep/lockstep/check/StepGroups" = some m.cls := findClass_of_methodNamed Bd.named
  have hnm := (name_of_methodNamed Bd.named Bd.method).1
  have X0 : Stand p l e ({ frames := 2, cells := 0, slots := 0, locals := 37 } : Room) s m #[(.ref u), (.int (0 : Int32)), (.long (1 : Int64)), (.int (Int32.ofNat k))] below meth c s₁ [] 0 0 := Stand.of_body Bd
  have e0 : s₁.heap = h0 := by rw [← hh, Bd.state]; rfl
  have N0 := Fr.nil n0
  show OGo p e below (Out s ({ frames := 2, cells := 0, slots := 0, locals := 37 } : Room).cells ({ frames := 2, cells := 0, slots := 0, locals := 37 } : Room).slots ((QV Z n0 u em fr fb go ps ns fs lb sb bl pv nx pt qs ms lab k 0))) (s₁.setTop (entryFrame m #[(.ref u), (.int (0 : Int32)), (.long (1 : Int64)), (.int (Int32.ofNat k))] 6))
  have ho0 := ho; obtain ⟨o1, o2, o3, o4, o5, o6, o7, o8, o9, o10, o11, o12, o13, o14, o15⟩ := ho
  obtain ⟨E0, F0_emptied, F0_free, F0_firstOfBlock, F0_groupOf, F0_previousStep, F0_nextStep, F0_firstStep, F0_label, F0_superBlock, F0_block, F0_previous, F0_next, F0_partner, F0_partnerStamp, F0_markStamp, F0_groupCount, F0_emptiedCount, F0_freeCount, F0_stamp⟩ := U
  refine OGo.st (fun t kk => castTop (efB m u k) kk) ?_
  show OGo p e below (Out s ({ frames := 2, cells := 0, slots := 0, locals := 37 } : Room).cells ({ frames := 2, cells := 0, slots := 0, locals := 37 } : Room).slots ((QV Z n0 u em fr fb go ps ns fs lb sb bl pv nx pt qs ms lab k 0))) (s₁.setTop (mkF m 0 #[vr u, vi (0 : Int32), vl (1 : Int64), .second, vi (Int32.ofNat k), .unset] []))
  refine OGo.st (fun t kk => XS.aloadN X0.here hx rfl (hb hby dB_0) rfl rfl kk) ?_
  show OGo p e below _ (s₁.setTop (mkF m 1 #[vr u, vi (0 : Int32), vl (1 : Int64), .second, vi (Int32.ofNat k), .unset] [(.ref u)]))
  obtain ⟨T1, X1, e1, st1⟩ := getF X0 hx hZ hown (host := "") (Or.inl (hw _ (List.mem_of_getElem? (i := 22) rfl))) Via.refl e0 F0_groupOf (g := (mkF m 1 #[vr u, vi (0 : Int32), vl (1 : Int64), .second, vi (Int32.ofNat k), .unset] [(.ref u)])) rfl rfl (hb hby dB_1)
  refine OGo.st (fun t kk => st1 t kk) ?_
  show OGo p e below _ (T1.setTop (mkF m 4 #[vr u, vi (0 : Int32), vl (1 : Int64), .second, vi (Int32.ofNat k), .unset] [(.ref go)]))
  refine OGo.st (fun t kk => XS.iloadN X1.here hx rfl (hb hby dB_4) rfl kk) ?_
  show OGo p e below _ (T1.setTop (mkF m 5 #[vr u, vi (0 : Int32), vl (1 : Int64), .second, vi (Int32.ofNat k), .unset] [(.int (0 : Int32)), (.ref go)]))
  refine OGo.st (fun t kk => OA.ldI X1 hx hZ e1 O_go (j := (0 : Int32)) (k := 0) (by decide) (by decide) (by decide) (g := (mkF m 5 #[vr u, vi (0 : Int32), vl (1 : Int64), .second, vi (Int32.ofNat k), .unset] [(.int (0 : Int32)), (.ref go)])) rfl rfl (hb hby dB_5) t kk) ?_
  show OGo p e below _ (T1.setTop (mkF m 6 #[vr u, vi (0 : Int32), vl (1 : Int64), .second, vi (Int32.ofNat k), .unset] [(.int (fgo 0))]))
  rw [hgo]
  show OGo p e below _ (T1.setTop (mkF m 6 #[vr u, vi (0 : Int32), vl (1 : Int64), .second, vi (Int32.ofNat k), .unset] [(.int (0 : Int32))]))
  refine OGo.st (fun t kk => XS.istore X1.here hx rfl (hb hby dB_6) rfl (l' := #[vr u, vi (0 : Int32), vl (1 : Int64), .second, vi (Int32.ofNat k), vi (0 : Int32)]) rfl kk) ?_
  show OGo p e below _ (T1.setTop (mkF m 8 #[vr u, vi (0 : Int32), vl (1 : Int64), .second, vi (Int32.ofNat k), vi (0 : Int32)] []))
  refine OGo.st (fun t kk => XS.iload X1.here hx rfl (hb hby dB_8) rfl kk) ?_
  show OGo p e below _ (T1.setTop (mkF m 10 #[vr u, vi (0 : Int32), vl (1 : Int64), .second, vi (Int32.ofNat k), vi (0 : Int32)] [(.int (0 : Int32))]))
  refine OGo.st (fun t kk => XS.iconst X1.here hx rfl (hb hby dB_10) kk) ?_
  show OGo p e below _ (T1.setTop (mkF m 11 #[vr u, vi (0 : Int32), vl (1 : Int64), .second, vi (Int32.ofNat k), vi (0 : Int32)] [(.int (-1 : Int32)), (.int (0 : Int32))]))
  refine OGo.st (fun t kk => XS.icmpNo X1.here hx rfl (hb hby dB_11) rfl (feq (by decide : ¬ ((0 : Int32) = (-1 : Int32)))).1 kk) ?_
  show OGo p e below _ (T1.setTop (mkF m 14 #[vr u, vi (0 : Int32), vl (1 : Int64), .second, vi (Int32.ofNat k), vi (0 : Int32)] []))
  refine OGo.st (fun t kk => XS.aloadN X1.here hx rfl (hb hby dB_14) rfl rfl kk) ?_
  show OGo p e below _ (T1.setTop (mkF m 15 #[vr u, vi (0 : Int32), vl (1 : Int64), .second, vi (Int32.ofNat k), vi (0 : Int32)] [(.ref u)]))
  refine OGo.st (fun t kk => XS.iloadN X1.here hx rfl (hb hby dB_15) rfl kk) ?_
  show OGo p e below _ (T1.setTop (mkF m 16 #[vr u, vi (0 : Int32), vl (1 : Int64), .second, vi (Int32.ofNat k), vi (0 : Int32)] [(.int (0 : Int32)), (.ref u)]))
  refine OGo.st (fun t kk => XS.iload X1.here hx rfl (hb hby dB_16) rfl kk) ?_
  show OGo p e below _ (T1.setTop (mkF m 18 #[vr u, vi (0 : Int32), vl (1 : Int64), .second, vi (Int32.ofNat k), vi (0 : Int32)] [(.int (0 : Int32)), (.int (0 : Int32)), (.ref u)]))
  refine OGo.st (fun t kk => XS.lloadN X1.here hx rfl (hb hby dB_18) rfl kk) ?_
  show OGo p e below _ (T1.setTop (mkF m 19 #[vr u, vi (0 : Int32), vl (1 : Int64), .second, vi (Int32.ofNat k), vi (0 : Int32)] [(.long (1 : Int64)), (.int (0 : Int32)), (.int (0 : Int32)), (.ref u)]))
  refine OGo.st (fun t kk => XS.iload X1.here hx rfl (hb hby dB_19) rfl kk) ?_
  show OGo p e below _ (T1.setTop (mkF m 21 #[vr u, vi (0 : Int32), vl (1 : Int64), .second, vi (Int32.ofNat k), vi (0 : Int32)] [(.int (Int32.ofNat k)), (.long (1 : Int64)), (.int (0 : Int32)), (.int (0 : Int32)), (.ref u)]))
  refine OGo.st (fun t kk => XS.aloadN X1.here hx rfl (hb hby dB_21) rfl rfl kk) ?_
  show OGo p e below _ (T1.setTop (mkF m 22 #[vr u, vi (0 : Int32), vl (1 : Int64), .second, vi (Int32.ofNat k), vi (0 : Int32)] [(.ref u), (.int (Int32.ofNat k)), (.long (1 : Int64)), (.int (0 : Int32)), (.int (0 : Int32)), (.ref u)]))
  obtain ⟨T2, X2, e2, st2⟩ := getF X1 hx hZ hown (host := "") (Or.inl (hw _ (List.mem_of_getElem? (i := 36) rfl))) Via.refl e1 F0_superBlock (g := (mkF m 22 #[vr u, vi (0 : Int32), vl (1 : Int64), .second, vi (Int32.ofNat k), vi (0 : Int32)] [(.ref u), (.int (Int32.ofNat k)), (.long (1 : Int64)), (.int (0 : Int32)), (.int (0 : Int32)), (.ref u)])) rfl rfl (hb hby dB_22)
  refine OGo.st (fun t kk => st2 t kk) ?_
  show OGo p e below _ (T2.setTop (mkF m 25 #[vr u, vi (0 : Int32), vl (1 : Int64), .second, vi (Int32.ofNat k), vi (0 : Int32)] [(.ref sb), (.int (Int32.ofNat k)), (.long (1 : Int64)), (.int (0 : Int32)), (.int (0 : Int32)), (.ref u)]))
  refine OGo.st (fun t kk => XS.iload X2.here hx rfl (hb hby dB_25) rfl kk) ?_
  show OGo p e below _ (T2.setTop (mkF m 27 #[vr u, vi (0 : Int32), vl (1 : Int64), .second, vi (Int32.ofNat k), vi (0 : Int32)] [(.int (0 : Int32)), (.ref sb), (.int (Int32.ofNat k)), (.long (1 : Int64)), (.int (0 : Int32)), (.int (0 : Int32)), (.ref u)]))
  refine OGo.st (fun t kk => OA.ldI X2 hx hZ e2 O_sb (j := (0 : Int32)) (k := 0) (by decide) (by decide) (by decide) (g := (mkF m 27 #[vr u, vi (0 : Int32), vl (1 : Int64), .second, vi (Int32.ofNat k), vi (0 : Int32)] [(.int (0 : Int32)), (.ref sb), (.int (Int32.ofNat k)), (.long (1 : Int64)), (.int (0 : Int32)), (.int (0 : Int32)), (.ref u)])) rfl rfl (hb hby dB_27) t kk) ?_
  show OGo p e below _ (T2.setTop (mkF m 28 #[vr u, vi (0 : Int32), vl (1 : Int64), .second, vi (Int32.ofNat k), vi (0 : Int32)] [(.int (fsb 0)), (.int (Int32.ofNat k)), (.long (1 : Int64)), (.int (0 : Int32)), (.int (0 : Int32)), (.ref u)]))
  rw [hsb]
  show OGo p e below _ (T2.setTop (mkF m 28 #[vr u, vi (0 : Int32), vl (1 : Int64), .second, vi (Int32.ofNat k), vi (0 : Int32)] [(.int (0 : Int32)), (.int (Int32.ofNat k)), (.long (1 : Int64)), (.int (0 : Int32)), (.int (0 : Int32)), (.ref u)]))
  obtain ⟨cq3, q3, q3'⟩ := E0.cell
  obtain ⟨_, _, ⟨T3, L3, k3, n3⟩, -, X3, ⟨Lc3, hQ3, l3, y3, z3⟩, st3⟩ := X2.privateBack hx (y := (⟨"com/example/lockstep/lockstep/check/StepGroups", "move", "(IIJII)V"⟩ : MethodName)) hown (mvT hZ (hw _ (List.mem_of_getElem? (i := 85) rfl))) (mvT hZ (hw _ (List.mem_of_getElem? (i := 86) rfl))) (osel (y := (⟨"com/example/lockstep/lockstep/check/StepGroups", "move", "(IIJII)V"⟩ : MethodName)) hZ (hw _ (List.mem_of_getElem? (i := 2) rfl)) (hw _ (List.mem_of_getElem? (i := 87) rfl)) (hw _ (List.mem_of_getElem? (i := 86) rfl)) (by decide)) (Cond.privateMethod_at (mvP hZ (hw _ (List.mem_of_getElem? (i := 87) rfl)) (args := #[]))) (mvT hZ (hw _ (List.mem_of_getElem? (i := 88) rfl))) (by decide) (backOf (W := 0) (rmV l Z a0 hw [] u k (0 : Int32) em fr fb go ps ns fs lb sb bl pv nx pt qs ms lab fem ffb fgo fps fns ffs flb fsb fbl fpv fnx fpt fqs fms h0 n0 Z0 ⟨E0, F0_emptied, F0_free, F0_firstOfBlock, F0_groupOf, F0_previousStep, F0_nextStep, F0_firstStep, F0_label, F0_superBlock, F0_block, F0_previous, F0_next, F0_partner, F0_partnerStamp, F0_markStamp, F0_groupCount, F0_emptiedCount, F0_freeCount, F0_stamp⟩ ho0 gu O_em O_fb O_go O_ps O_ns O_fs O_lb O_sb O_bl O_pv O_nx O_pt O_qs O_ms hqs hlb hps hns hpv hnx hbl (by omega) hfk0) hZ (hw _ (List.mem_of_getElem? (i := 88) rfl)) (hw _ (List.mem_of_getElem? (i := 3) rfl)) (by decide) (by decide)) (g := (mkF m 28 #[vr u, vi (0 : Int32), vl (1 : Int64), .second, vi (Int32.ofNat k), vi (0 : Int32)] [(.int (0 : Int32)), (.int (Int32.ofNat k)), (.long (1 : Int64)), (.int (0 : Int32)), (.int (0 : Int32)), (.ref u)])) rfl (by rw [hml]; rfl) (Steps.refl _) (a := u) (by rw [e2]; exact q3) q3' (argsL := [(.int (0 : Int32)), (.int (0 : Int32)), (.long (1 : Int64)), (.int (Int32.ofNat k)), (.int (0 : Int32))]) (rest := []) (lenOf pdB_0 rfl) rfl (by show 2 * 0 + _ ≤ _; exact Nat.le_of_eq rfl) (hb hby dB_28) (fun _ _ => ⟨rfl, e2, (by decide : 0 + 0 ≤ _), (by decide : 0 + 0 ≤ _)⟩)
  dsimp only [Pt.U, Pt.locs, Pt.cells, Pt.slots] at X3 l3 y3 z3 st3 hQ3
  subst l3 y3 z3
  obtain ⟨rfl, Nq3, Z3, Uq3, xfs3, xlb3, xbl3, xsb3, Ofs_3, Olb_3, Obl_3, Osb_3, hx03, hx13, hx23, hx33, hx43⟩ := hQ3
  have N3 := Fr.app N0 Nq3
  obtain ⟨E3, F3_emptied, F3_free, F3_firstOfBlock, F3_groupOf, F3_previousStep, F3_nextStep, F3_firstStep, F3_label, F3_superBlock, F3_block, F3_previous, F3_next, F3_partner, F3_partnerStamp, F3_markStamp, F3_groupCount, F3_emptiedCount, F3_freeCount, F3_stamp⟩ := Uq3
  obtain ⟨lo3, X3, N3⟩ : ∃ L, Stand p l e ({ frames := 2, cells := 0, slots := 0, locals := 37 } : Room) s m #[(.ref u), (.int (0 : Int32)), (.long (1 : Int64)), (.int (Int32.ofNat k))] below meth c T3 L 0 0 ∧ Fr n0 L := ⟨_, X3, N3⟩
  refine OGo.st (fun t kk => st3.trans kk) ?_
  show OGo p e below _ (T3.setTop (mkF m 31 #[vr u, vi (0 : Int32), vl (1 : Int64), .second, vi (Int32.ofNat k), vi (0 : Int32)] []))
  refine OGo.outV X3 hx Bd.returns Bd.notSynchronized (hb hby dB_31) ?_ (by decide) (by decide)
  exact ⟨rfl, N3, Z3, ⟨E3, F3_emptied, F3_free, F3_firstOfBlock, F3_groupOf, F3_previousStep, F3_nextStep, F3_firstStep, F3_label, F3_superBlock, F3_block, F3_previous, F3_next, F3_partner, F3_partnerStamp, F3_markStamp, F3_groupCount, F3_emptiedCount, F3_freeCount, F3_stamp⟩, _, _, _, _, Ofs_3, Olb_3, Obl_3, Osb_3, hx03, hx13, hx23, hx33, hx43⟩
theorem dP_0 : decode prog_76_method_5_code 0 = .ok (.aload_n 0, 1) := by decide +kernel
theorem dP_1 : decode prog_76_method_5_code 1 = .ok (.getfield 26, 3) := by decide +kernel
theorem dP_4 : decode prog_76_method_5_code 4 = .ok (.iload_n 1, 1) := by decide +kernel
theorem dP_5 : decode prog_76_method_5_code 5 = .ok (.iaload, 1) := by decide +kernel
theorem dP_6 : decode prog_76_method_5_code 6 = .ok (.istore 5, 2) := by decide +kernel
theorem dP_8 : decode prog_76_method_5_code 8 = .ok (.aload_n 0, 1) := by decide +kernel
theorem dP_9 : decode prog_76_method_5_code 9 = .ok (.iload_n 1, 1) := by decide +kernel
theorem dP_10 : decode prog_76_method_5_code 10 = .ok (.iload 5, 2) := by decide +kernel
theorem dP_12 : decode prog_76_method_5_code 12 = .ok (.lload_n 2, 1) := by decide +kernel
theorem dP_13 : decode prog_76_method_5_code 13 = .ok (.aload_n 0, 1) := by decide +kernel
theorem dP_14 : decode prog_76_method_5_code 14 = .ok (.getfield 50, 3) := by decide +kernel
theorem dP_17 : decode prog_76_method_5_code 17 = .ok (.iload 5, 2) := by decide +kernel
theorem dP_19 : decode prog_76_method_5_code 19 = .ok (.iaload, 1) := by decide +kernel
theorem dP_20 : decode prog_76_method_5_code 20 = .ok (.iload 4, 2) := by decide +kernel
theorem dP_22 : decode prog_76_method_5_code 22 = .ok (.invokevirtual 109, 3) := by decide +kernel
theorem dP_25 : decode prog_76_method_5_code 25 = .ok (.return_, 1) := by decide +kernel
theorem pnP : plainName "com/example/lockstep/lockstep/check/StepGroups" = true := by first | (simp [plainName, overriddenIn]; done) | decide +kernel
theorem pdP_0 : parseMethodDescriptor "(IIJII)V" = some ⟨[.int, .int, .long, .int, .int], none⟩ := by decide +kernel
theorem efP (m : MethodId) (u : Addr) (sup : Int32) : entryFrame m #[(.ref u), (.int (0 : Int32)), (.long (1 : Int64)), (.int sup)] 6 = mkF m 0 #[.val (.ref u), .val (.int (0 : Int32)), .val (.long (1 : Int64)), .second, .val (.int sup), .unset] [] := by first | (simp [entryFrame, mkF, argsToLocals, Value.category]; done) | rfl
set_option maxRecDepth 65536 in
set_option maxHeartbeats 40000000 in
theorem rmP (l : Launch) (Z : State) (a0 : Array Value) (hw : ∀ d ∈ tables_1, d.before a0 Z = true) (ws : List Jvm.Cond) (u : Addr) (sup : Int32) (em : Addr) (fr : Addr) (fb : Addr) (go : Addr) (ps : Addr) (ns : Addr) (fs : Addr) (lb : Addr) (sb : Addr) (bl : Addr) (pv : Addr) (nx : Addr) (pt : Addr) (qs : Addr) (ms : Addr) (lab : Int32) (fem : Nat → Int32) (ffb : Nat → Int32) (fgo : Nat → Int32) (fps : Nat → Int32) (fns : Nat → Int32) (ffs : Nat → Int32) (flb : Nat → Int32) (fsb : Nat → Int32) (fbl : Nat → Int32) (fpv : Nat → Int32) (fnx : Nat → Int32) (fpt : Nat → Int32) (fqs : Nat → Int64) (fms : Nat → Int64) (h0 : Heap) (n0 : Nat) (Z0 : n0 ≤ h0.size) (U : FU Z h0 u em fr fb go ps ns fs lb sb bl pv nx pt qs ms (Int32.ofNat 1) 0 0 1) (ho : ORD u em fr fb go ps ns fs lb sb bl pv nx pt qs ms) (gu : n0 ≤ u) (O_em : OA Z h0 em .int 16 fem) (O_fb : OA Z h0 fb .int 16 ffb) (O_go : OA Z h0 go .int 1 fgo) (O_ps : OA Z h0 ps .int 1 fps) (O_ns : OA Z h0 ns .int 1 fns) (O_fs : OA Z h0 fs .int 16 ffs) (O_lb : OA Z h0 lb .int 16 flb) (O_sb : OA Z h0 sb .int 16 fsb) (O_bl : OA Z h0 bl .int 16 fbl) (O_pv : OA Z h0 pv .int 16 fpv) (O_nx : OA Z h0 nx .int 16 fnx) (O_pt : OA Z h0 pt .int 16 fpt) (O_qs : OL Z h0 qs 16 fqs) (O_ms : OL Z h0 ms 16 fms) (hqs : fqs 0 = 0) (hlb : flb 0 = lab) (hps : fps 0 = -1) (hns : fns 0 = -1) (hpv : fpv 0 = -1) (hnx : fnx 0 = -1) (hbl : fbl 0 = 0) (hgo : fgo 0 = 0) (hfb : ffb 0 = 0) :
    MetFree l (⟨"com/example/lockstep/lockstep/check/StepGroups", "moveToSuperBlock", "(IJI)V"⟩ : MethodName) (head1 (Jvm.Cond.code (⟨"com/example/lockstep/lockstep/check/StepGroups", "moveToSuperBlock", "(IJI)V"⟩ : MethodName) prog_76_method_5_code 6 none :: ws) ({ frames := 2, cells := 0, slots := 0, locals := 37 } : Room)) (fun a U => a = #[(.ref u), (.int (0 : Int32)), (.long (1 : Int64)), (.int sup)] ∧ Z.Warmed39 U.vm ∧ U.heap = h0) (fun _ _ _ _ _ => True) (fun _ U o U' => ∃ v L, o = .returned v ∧ (QV Z n0 u em fr fb go ps ns fs lb sb bl pv nx pt qs ms lab 0 sup) v U'.heap L ∧ FrameEnd U o U' L ({ frames := 2, cells := 0, slots := 0, locals := 37 } : Room).cells ({ frames := 2, cells := 0, slots := 0, locals := 37 } : Room).slots) := by
  refine MetFree.of_bodySF (plainFor_of_name pnP) hisR ?_
  intro p e s m args below meth c s₁ Bd hml0 hP hK
  obtain ⟨rfl, hZ, hh⟩ := hP
  have hx := Bd.exec
  have hby := Bd.bytes
  have hml : c.maxLocals = 6 := hml0
  have hown : s.vm.findClass "com/example/lockstep/lockstep/check/StepGroups" = some m.cls := findClass_of_methodNamed Bd.named
  have hnm := (name_of_methodNamed Bd.named Bd.method).1
  have X0 : Stand p l e ({ frames := 2, cells := 0, slots := 0, locals := 37 } : Room) s m #[(.ref u), (.int (0 : Int32)), (.long (1 : Int64)), (.int sup)] below meth c s₁ [] 0 0 := Stand.of_body Bd
  have e0 : s₁.heap = h0 := by rw [← hh, Bd.state]; rfl
  have N0 := Fr.nil n0
  show OGo p e below (Out s ({ frames := 2, cells := 0, slots := 0, locals := 37 } : Room).cells ({ frames := 2, cells := 0, slots := 0, locals := 37 } : Room).slots ((QV Z n0 u em fr fb go ps ns fs lb sb bl pv nx pt qs ms lab 0 sup))) (s₁.setTop (entryFrame m #[(.ref u), (.int (0 : Int32)), (.long (1 : Int64)), (.int sup)] 6))
  have ho0 := ho; obtain ⟨o1, o2, o3, o4, o5, o6, o7, o8, o9, o10, o11, o12, o13, o14, o15⟩ := ho
  obtain ⟨E0, F0_emptied, F0_free, F0_firstOfBlock, F0_groupOf, F0_previousStep, F0_nextStep, F0_firstStep, F0_label, F0_superBlock, F0_block, F0_previous, F0_next, F0_partner, F0_partnerStamp, F0_markStamp, F0_groupCount, F0_emptiedCount, F0_freeCount, F0_stamp⟩ := U
  refine OGo.st (fun t kk => castTop (efP m u sup) kk) ?_
  show OGo p e below (Out s ({ frames := 2, cells := 0, slots := 0, locals := 37 } : Room).cells ({ frames := 2, cells := 0, slots := 0, locals := 37 } : Room).slots ((QV Z n0 u em fr fb go ps ns fs lb sb bl pv nx pt qs ms lab 0 sup))) (s₁.setTop (mkF m 0 #[vr u, vi (0 : Int32), vl (1 : Int64), .second, vi sup, .unset] []))
  refine OGo.st (fun t kk => XS.aloadN X0.here hx rfl (hb hby dP_0) rfl rfl kk) ?_
  show OGo p e below _ (s₁.setTop (mkF m 1 #[vr u, vi (0 : Int32), vl (1 : Int64), .second, vi sup, .unset] [(.ref u)]))
  obtain ⟨T1, X1, e1, st1⟩ := getF X0 hx hZ hown (host := "") (Or.inl (hw _ (List.mem_of_getElem? (i := 22) rfl))) Via.refl e0 F0_groupOf (g := (mkF m 1 #[vr u, vi (0 : Int32), vl (1 : Int64), .second, vi sup, .unset] [(.ref u)])) rfl rfl (hb hby dP_1)
  refine OGo.st (fun t kk => st1 t kk) ?_
  show OGo p e below _ (T1.setTop (mkF m 4 #[vr u, vi (0 : Int32), vl (1 : Int64), .second, vi sup, .unset] [(.ref go)]))
  refine OGo.st (fun t kk => XS.iloadN X1.here hx rfl (hb hby dP_4) rfl kk) ?_
  show OGo p e below _ (T1.setTop (mkF m 5 #[vr u, vi (0 : Int32), vl (1 : Int64), .second, vi sup, .unset] [(.int (0 : Int32)), (.ref go)]))
  refine OGo.st (fun t kk => OA.ldI X1 hx hZ e1 O_go (j := (0 : Int32)) (k := 0) (by decide) (by decide) (by decide) (g := (mkF m 5 #[vr u, vi (0 : Int32), vl (1 : Int64), .second, vi sup, .unset] [(.int (0 : Int32)), (.ref go)])) rfl rfl (hb hby dP_5) t kk) ?_
  show OGo p e below _ (T1.setTop (mkF m 6 #[vr u, vi (0 : Int32), vl (1 : Int64), .second, vi sup, .unset] [(.int (fgo 0))]))
  rw [hgo]
  show OGo p e below _ (T1.setTop (mkF m 6 #[vr u, vi (0 : Int32), vl (1 : Int64), .second, vi sup, .unset] [(.int (0 : Int32))]))
  refine OGo.st (fun t kk => XS.istore X1.here hx rfl (hb hby dP_6) rfl (l' := #[vr u, vi (0 : Int32), vl (1 : Int64), .second, vi sup, vi (0 : Int32)]) rfl kk) ?_
  show OGo p e below _ (T1.setTop (mkF m 8 #[vr u, vi (0 : Int32), vl (1 : Int64), .second, vi sup, vi (0 : Int32)] []))
  refine OGo.st (fun t kk => XS.aloadN X1.here hx rfl (hb hby dP_8) rfl rfl kk) ?_
  show OGo p e below _ (T1.setTop (mkF m 9 #[vr u, vi (0 : Int32), vl (1 : Int64), .second, vi sup, vi (0 : Int32)] [(.ref u)]))
  refine OGo.st (fun t kk => XS.iloadN X1.here hx rfl (hb hby dP_9) rfl kk) ?_
  show OGo p e below _ (T1.setTop (mkF m 10 #[vr u, vi (0 : Int32), vl (1 : Int64), .second, vi sup, vi (0 : Int32)] [(.int (0 : Int32)), (.ref u)]))
  refine OGo.st (fun t kk => XS.iload X1.here hx rfl (hb hby dP_10) rfl kk) ?_
  show OGo p e below _ (T1.setTop (mkF m 12 #[vr u, vi (0 : Int32), vl (1 : Int64), .second, vi sup, vi (0 : Int32)] [(.int (0 : Int32)), (.int (0 : Int32)), (.ref u)]))
  refine OGo.st (fun t kk => XS.lloadN X1.here hx rfl (hb hby dP_12) rfl kk) ?_
  show OGo p e below _ (T1.setTop (mkF m 13 #[vr u, vi (0 : Int32), vl (1 : Int64), .second, vi sup, vi (0 : Int32)] [(.long (1 : Int64)), (.int (0 : Int32)), (.int (0 : Int32)), (.ref u)]))
  refine OGo.st (fun t kk => XS.aloadN X1.here hx rfl (hb hby dP_13) rfl rfl kk) ?_
  show OGo p e below _ (T1.setTop (mkF m 14 #[vr u, vi (0 : Int32), vl (1 : Int64), .second, vi sup, vi (0 : Int32)] [(.ref u), (.long (1 : Int64)), (.int (0 : Int32)), (.int (0 : Int32)), (.ref u)]))
  obtain ⟨T2, X2, e2, st2⟩ := getF X1 hx hZ hown (host := "") (Or.inl (hw _ (List.mem_of_getElem? (i := 38) rfl))) Via.refl e1 F0_block (g := (mkF m 14 #[vr u, vi (0 : Int32), vl (1 : Int64), .second, vi sup, vi (0 : Int32)] [(.ref u), (.long (1 : Int64)), (.int (0 : Int32)), (.int (0 : Int32)), (.ref u)])) rfl rfl (hb hby dP_14)
  refine OGo.st (fun t kk => st2 t kk) ?_
  show OGo p e below _ (T2.setTop (mkF m 17 #[vr u, vi (0 : Int32), vl (1 : Int64), .second, vi sup, vi (0 : Int32)] [(.ref bl), (.long (1 : Int64)), (.int (0 : Int32)), (.int (0 : Int32)), (.ref u)]))
  refine OGo.st (fun t kk => XS.iload X2.here hx rfl (hb hby dP_17) rfl kk) ?_
  show OGo p e below _ (T2.setTop (mkF m 19 #[vr u, vi (0 : Int32), vl (1 : Int64), .second, vi sup, vi (0 : Int32)] [(.int (0 : Int32)), (.ref bl), (.long (1 : Int64)), (.int (0 : Int32)), (.int (0 : Int32)), (.ref u)]))
  refine OGo.st (fun t kk => OA.ldI X2 hx hZ e2 O_bl (j := (0 : Int32)) (k := 0) (by decide) (by decide) (by decide) (g := (mkF m 19 #[vr u, vi (0 : Int32), vl (1 : Int64), .second, vi sup, vi (0 : Int32)] [(.int (0 : Int32)), (.ref bl), (.long (1 : Int64)), (.int (0 : Int32)), (.int (0 : Int32)), (.ref u)])) rfl rfl (hb hby dP_19) t kk) ?_
  show OGo p e below _ (T2.setTop (mkF m 20 #[vr u, vi (0 : Int32), vl (1 : Int64), .second, vi sup, vi (0 : Int32)] [(.int (fbl 0)), (.long (1 : Int64)), (.int (0 : Int32)), (.int (0 : Int32)), (.ref u)]))
  rw [hbl]
  show OGo p e below _ (T2.setTop (mkF m 20 #[vr u, vi (0 : Int32), vl (1 : Int64), .second, vi sup, vi (0 : Int32)] [(.int (0 : Int32)), (.long (1 : Int64)), (.int (0 : Int32)), (.int (0 : Int32)), (.ref u)]))
  refine OGo.st (fun t kk => XS.iload X2.here hx rfl (hb hby dP_20) rfl kk) ?_
  show OGo p e below _ (T2.setTop (mkF m 22 #[vr u, vi (0 : Int32), vl (1 : Int64), .second, vi sup, vi (0 : Int32)] [(.int sup), (.int (0 : Int32)), (.long (1 : Int64)), (.int (0 : Int32)), (.int (0 : Int32)), (.ref u)]))
  obtain ⟨cq3, q3, q3'⟩ := E0.cell
  obtain ⟨_, _, ⟨T3, L3, k3, n3⟩, -, X3, ⟨Lc3, hQ3, l3, y3, z3⟩, st3⟩ := X2.privateBack hx (y := (⟨"com/example/lockstep/lockstep/check/StepGroups", "move", "(IIJII)V"⟩ : MethodName)) hown (mvT hZ (hw _ (List.mem_of_getElem? (i := 85) rfl))) (mvT hZ (hw _ (List.mem_of_getElem? (i := 86) rfl))) (osel (y := (⟨"com/example/lockstep/lockstep/check/StepGroups", "move", "(IIJII)V"⟩ : MethodName)) hZ (hw _ (List.mem_of_getElem? (i := 2) rfl)) (hw _ (List.mem_of_getElem? (i := 87) rfl)) (hw _ (List.mem_of_getElem? (i := 86) rfl)) (by decide)) (Cond.privateMethod_at (mvP hZ (hw _ (List.mem_of_getElem? (i := 87) rfl)) (args := #[]))) (mvT hZ (hw _ (List.mem_of_getElem? (i := 88) rfl))) (by decide) (backOf (W := 0) (rmV l Z a0 hw [] u 0 sup em fr fb go ps ns fs lb sb bl pv nx pt qs ms lab fem ffb fgo fps fns ffs flb fsb fbl fpv fnx fpt fqs fms h0 n0 Z0 ⟨E0, F0_emptied, F0_free, F0_firstOfBlock, F0_groupOf, F0_previousStep, F0_nextStep, F0_firstStep, F0_label, F0_superBlock, F0_block, F0_previous, F0_next, F0_partner, F0_partnerStamp, F0_markStamp, F0_groupCount, F0_emptiedCount, F0_freeCount, F0_stamp⟩ ho0 gu O_em O_fb O_go O_ps O_ns O_fs O_lb O_sb O_bl O_pv O_nx O_pt O_qs O_ms hqs hlb hps hns hpv hnx hbl (by omega) (Or.inl ⟨rfl, hfb⟩)) hZ (hw _ (List.mem_of_getElem? (i := 88) rfl)) (hw _ (List.mem_of_getElem? (i := 3) rfl)) (by decide) (by decide)) (g := (mkF m 22 #[vr u, vi (0 : Int32), vl (1 : Int64), .second, vi sup, vi (0 : Int32)] [(.int sup), (.int (0 : Int32)), (.long (1 : Int64)), (.int (0 : Int32)), (.int (0 : Int32)), (.ref u)])) rfl (by rw [hml]; rfl) (Steps.refl _) (a := u) (by rw [e2]; exact q3) q3' (argsL := [(.int (0 : Int32)), (.int (0 : Int32)), (.long (1 : Int64)), (.int (0 : Int32)), (.int sup)]) (rest := []) (lenOf pdP_0 rfl) rfl (by show 2 * 0 + _ ≤ _; exact Nat.le_of_eq rfl) (hb hby dP_22) (fun _ _ => ⟨rfl, e2, (by decide : 0 + 0 ≤ _), (by decide : 0 + 0 ≤ _)⟩)
  dsimp only [Pt.U, Pt.locs, Pt.cells, Pt.slots] at X3 l3 y3 z3 st3 hQ3
  subst l3 y3 z3
  obtain ⟨rfl, Nq3, Z3, Uq3, xfs3, xlb3, xbl3, xsb3, Ofs_3, Olb_3, Obl_3, Osb_3, hx03, hx13, hx23, hx33, hx43⟩ := hQ3
  have N3 := Fr.app N0 Nq3
  obtain ⟨E3, F3_emptied, F3_free, F3_firstOfBlock, F3_groupOf, F3_previousStep, F3_nextStep, F3_firstStep, F3_label, F3_superBlock, F3_block, F3_previous, F3_next, F3_partner, F3_partnerStamp, F3_markStamp, F3_groupCount, F3_emptiedCount, F3_freeCount, F3_stamp⟩ := Uq3
  obtain ⟨lo3, X3, N3⟩ : ∃ L, Stand p l e ({ frames := 2, cells := 0, slots := 0, locals := 37 } : Room) s m #[(.ref u), (.int (0 : Int32)), (.long (1 : Int64)), (.int sup)] below meth c T3 L 0 0 ∧ Fr n0 L := ⟨_, X3, N3⟩
  refine OGo.st (fun t kk => st3.trans kk) ?_
  show OGo p e below _ (T3.setTop (mkF m 25 #[vr u, vi (0 : Int32), vl (1 : Int64), .second, vi sup, vi (0 : Int32)] []))
  refine OGo.outV X3 hx Bd.returns Bd.notSynchronized (hb hby dP_25) ?_ (by decide) (by decide)
  exact ⟨rfl, N3, Z3, ⟨E3, F3_emptied, F3_free, F3_firstOfBlock, F3_groupOf, F3_previousStep, F3_nextStep, F3_firstStep, F3_label, F3_superBlock, F3_block, F3_previous, F3_next, F3_partner, F3_partnerStamp, F3_markStamp, F3_groupCount, F3_emptiedCount, F3_freeCount, F3_stamp⟩, _, _, _, _, Ofs_3, Olb_3, Obl_3, Osb_3, hx03, hx13, hx23, hx33, hx43⟩
def HD (gi a b c d x y z : Int32) : Int32 := if gi = (-1 : Int32) then 0 else if a = (-1 : Int32) then 0 else if b = x then (if c = y then (if d = z then 1 else 0) else 0) else 0
theorem dH_0 : decode prog_76_method_8_code 0 = .ok (.iload_n 1, 1) := by decide +kernel
theorem dH_1 : decode prog_76_method_8_code 1 = .ok (.iconst (-1), 1) := by decide +kernel
theorem dH_2 : decode prog_76_method_8_code 2 = .ok (.if_icmp .eq 48, 3) := by decide +kernel
theorem dH_5 : decode prog_76_method_8_code 5 = .ok (.aload_n 0, 1) := by decide +kernel
theorem dH_6 : decode prog_76_method_8_code 6 = .ok (.getfield 41, 3) := by decide +kernel
theorem dH_9 : decode prog_76_method_8_code 9 = .ok (.iload_n 1, 1) := by decide +kernel
theorem dH_10 : decode prog_76_method_8_code 10 = .ok (.iaload, 1) := by decide +kernel
theorem dH_11 : decode prog_76_method_8_code 11 = .ok (.iconst (-1), 1) := by decide +kernel
theorem dH_12 : decode prog_76_method_8_code 12 = .ok (.if_icmp .eq 38, 3) := by decide +kernel
theorem dH_15 : decode prog_76_method_8_code 15 = .ok (.aload_n 0, 1) := by decide +kernel
theorem dH_16 : decode prog_76_method_8_code 16 = .ok (.getfield 44, 3) := by decide +kernel
theorem dH_19 : decode prog_76_method_8_code 19 = .ok (.iload_n 1, 1) := by decide +kernel
theorem dH_20 : decode prog_76_method_8_code 20 = .ok (.iaload, 1) := by decide +kernel
theorem dH_21 : decode prog_76_method_8_code 21 = .ok (.iload_n 2, 1) := by decide +kernel
theorem dH_22 : decode prog_76_method_8_code 22 = .ok (.if_icmp .ne 28, 3) := by decide +kernel
theorem dH_25 : decode prog_76_method_8_code 25 = .ok (.aload_n 0, 1) := by decide +kernel
theorem dH_26 : decode prog_76_method_8_code 26 = .ok (.getfield 50, 3) := by decide +kernel
theorem dH_29 : decode prog_76_method_8_code 29 = .ok (.iload_n 1, 1) := by decide +kernel
theorem dH_30 : decode prog_76_method_8_code 30 = .ok (.iaload, 1) := by decide +kernel
theorem dH_31 : decode prog_76_method_8_code 31 = .ok (.iload_n 3, 1) := by decide +kernel
theorem dH_32 : decode prog_76_method_8_code 32 = .ok (.if_icmp .ne 18, 3) := by decide +kernel
theorem dH_35 : decode prog_76_method_8_code 35 = .ok (.aload_n 0, 1) := by decide +kernel
theorem dH_36 : decode prog_76_method_8_code 36 = .ok (.getfield 47, 3) := by decide +kernel
theorem dH_39 : decode prog_76_method_8_code 39 = .ok (.iload_n 1, 1) := by decide +kernel
theorem dH_40 : decode prog_76_method_8_code 40 = .ok (.iaload, 1) := by decide +kernel
theorem dH_41 : decode prog_76_method_8_code 41 = .ok (.iload 4, 2) := by decide +kernel
theorem dH_43 : decode prog_76_method_8_code 43 = .ok (.if_icmp .ne 7, 3) := by decide +kernel
theorem dH_46 : decode prog_76_method_8_code 46 = .ok (.iconst 1, 1) := by decide +kernel
theorem dH_47 : decode prog_76_method_8_code 47 = .ok (.goto 4, 3) := by decide +kernel
theorem dH_50 : decode prog_76_method_8_code 50 = .ok (.iconst 0, 1) := by decide +kernel
theorem dH_51 : decode prog_76_method_8_code 51 = .ok (.ireturn, 1) := by decide +kernel
theorem pnH : plainName "com/example/lockstep/lockstep/check/StepGroups" = true := by first | (simp [plainName, overriddenIn]; done) | decide +kernel
theorem efH (m : MethodId) (u : Addr) (gi : Int32) (q2 : Int32) (q3 : Int32) (q4 : Int32) : entryFrame m #[(.ref u), (.int gi), (.int q2), (.int q3), (.int q4)] 5 = mkF m 0 #[.val (.ref u), .val (.int gi), .val (.int q2), .val (.int q3), .val (.int q4)] [] := by first | (simp [entryFrame, mkF, argsToLocals, Value.category]; done) | rfl
set_option maxRecDepth 65536 in
set_option maxHeartbeats 40000000 in
theorem rmH (l : Launch) (Z : State) (a0 : Array Value) (hw : ∀ d ∈ tables_1, d.before a0 Z = true) (ws : List Jvm.Cond) (u : Addr) (gi : Int32) (q2 : Int32) (q3 : Int32) (q4 : Int32) (em : Addr) (fr : Addr) (fb : Addr) (go : Addr) (ps : Addr) (ns : Addr) (fs : Addr) (lb : Addr) (sb : Addr) (bl : Addr) (pv : Addr) (nx : Addr) (pt : Addr) (qs : Addr) (ms : Addr) (gc : Int32) (ec : Int32) (fc : Int32) (sp : Int64) (ffs : Nat → Int32) (flb : Nat → Int32) (fbl : Nat → Int32) (fsb : Nat → Int32) (gn : Nat) (h0 : Heap) (n0 : Nat) (Z0 : n0 ≤ h0.size) (U : FU Z h0 u em fr fb go ps ns fs lb sb bl pv nx pt qs ms gc ec fc sp) (ho : ORD u em fr fb go ps ns fs lb sb bl pv nx pt qs ms) (gu : n0 ≤ u) (O_fs : OA Z h0 fs .int 16 ffs) (O_lb : OA Z h0 lb .int 16 flb) (O_bl : OA Z h0 bl .int 16 fbl) (O_sb : OA Z h0 sb .int 16 fsb) (hg : gi = -1 ∨ (gi = Int32.ofNat gn ∧ gn < 16)) :
    MetFree l (⟨"com/example/lockstep/lockstep/check/StepGroups", "holds", "(IIII)Z"⟩ : MethodName) (head1 (Jvm.Cond.code (⟨"com/example/lockstep/lockstep/check/StepGroups", "holds", "(IIII)Z"⟩ : MethodName) prog_76_method_8_code 5 (some .boolean) :: ws) ({ frames := 0, cells := 0, slots := 0, locals := 0 } : Room)) (fun a U => a = #[(.ref u), (.int gi), (.int q2), (.int q3), (.int q4)] ∧ Z.Warmed39 U.vm ∧ U.heap = h0) (fun _ _ _ _ _ => True) (fun _ U o U' => ∃ v L, o = .returned v ∧ PI n0 h0 (HD gi (ffs gn) (flb gn) (fbl gn) (fsb gn) q2 q3 q4) v U'.heap L ∧ FrameEnd U o U' L ({ frames := 0, cells := 0, slots := 0, locals := 0 } : Room).cells ({ frames := 0, cells := 0, slots := 0, locals := 0 } : Room).slots) := by
  refine MetFree.of_bodySF (plainFor_of_name pnH) hisR ?_
  intro p e s m args below meth c s₁ Bd hml0 hP hK
  obtain ⟨rfl, hZ, hh⟩ := hP
  have hx := Bd.exec
  have hby := Bd.bytes
  have hml : c.maxLocals = 5 := hml0
  have hown : s.vm.findClass "com/example/lockstep/lockstep/check/StepGroups" = some m.cls := findClass_of_methodNamed Bd.named
  have hnm := (name_of_methodNamed Bd.named Bd.method).1
  have X0 : Stand p l e ({ frames := 0, cells := 0, slots := 0, locals := 0 } : Room) s m #[(.ref u), (.int gi), (.int q2), (.int q3), (.int q4)] below meth c s₁ [] 0 0 := Stand.of_body Bd
  have e0 : s₁.heap = h0 := by rw [← hh, Bd.state]; rfl
  have N0 := Fr.nil n0
  show OGo p e below (Out s ({ frames := 0, cells := 0, slots := 0, locals := 0 } : Room).cells ({ frames := 0, cells := 0, slots := 0, locals := 0 } : Room).slots (PI n0 h0 (HD gi (ffs gn) (flb gn) (fbl gn) (fsb gn) q2 q3 q4))) (s₁.setTop (entryFrame m #[(.ref u), (.int gi), (.int q2), (.int q3), (.int q4)] 5))
  have ho0 := ho; obtain ⟨o1, o2, o3, o4, o5, o6, o7, o8, o9, o10, o11, o12, o13, o14, o15⟩ := ho
  obtain ⟨E0, F0_emptied, F0_free, F0_firstOfBlock, F0_groupOf, F0_previousStep, F0_nextStep, F0_firstStep, F0_label, F0_superBlock, F0_block, F0_previous, F0_next, F0_partner, F0_partnerStamp, F0_markStamp, F0_groupCount, F0_emptiedCount, F0_freeCount, F0_stamp⟩ := U
  refine OGo.st (fun t kk => castTop (efH m u gi q2 q3 q4) kk) ?_
  show OGo p e below (Out s ({ frames := 0, cells := 0, slots := 0, locals := 0 } : Room).cells ({ frames := 0, cells := 0, slots := 0, locals := 0 } : Room).slots (PI n0 h0 (HD gi (ffs gn) (flb gn) (fbl gn) (fsb gn) q2 q3 q4))) (s₁.setTop (mkF m 0 #[vr u, vi gi, vi q2, vi q3, vi q4] []))
  refine OGo.st (fun t kk => XS.iloadN X0.here hx rfl (hb hby dH_0) rfl kk) ?_
  show OGo p e below _ (s₁.setTop (mkF m 1 #[vr u, vi gi, vi q2, vi q3, vi q4] [(.int gi)]))
  refine OGo.st (fun t kk => XS.iconst X0.here hx rfl (hb hby dH_1) kk) ?_
  show OGo p e below _ (s₁.setTop (mkF m 2 #[vr u, vi gi, vi q2, vi q3, vi q4] [(.int (-1 : Int32)), (.int gi)]))
  by_cases hc2_1 : gi = (-1 : Int32)
  · refine OGo.st (fun t kk => XS.icmpYes X0.here hx rfl (pc0 := 2) (pc' := 50) rfl (hb hby dH_2) rfl (teq hc2_1).1 (by decide) (by decide) kk) ?_
    show OGo p e below _ (s₁.setTop (mkF m 50 #[vr u, vi gi, vi q2, vi q3, vi q4] []))
    refine OGo.st (fun t kk => XS.iconst X0.here hx rfl (hb hby dH_50) kk) ?_
    show OGo p e below _ (s₁.setTop (mkF m 51 #[vr u, vi gi, vi q2, vi q3, vi q4] [(.int (0 : Int32))]))
    refine OGo.eqvI (show HD gi (ffs gn) (flb gn) (fbl gn) (fsb gn) q2 q3 q4 = (0 : Int32) from by simp only [HD, hc2_1, if_true, if_false, reduceIte]) ?_
    exact OGo.outN X0 hx (t := .boolean) Bd.returns (by simp) Bd.notSynchronized (hb hby dH_51) ⟨rfl, N0, e0⟩ (by decide) (by decide)
  · refine OGo.st (fun t kk => XS.icmpNo X0.here hx rfl (hb hby dH_2) rfl (feq hc2_1).1 kk) ?_
    show OGo p e below _ (s₁.setTop (mkF m 5 #[vr u, vi gi, vi q2, vi q3, vi q4] []))
    refine OGo.st (fun t kk => XS.aloadN X0.here hx rfl (hb hby dH_5) rfl rfl kk) ?_
    show OGo p e below _ (s₁.setTop (mkF m 6 #[vr u, vi gi, vi q2, vi q3, vi q4] [(.ref u)]))
    obtain ⟨T2, X2, e2, st2⟩ := getF X0 hx hZ hown (host := "") (Or.inl (hw _ (List.mem_of_getElem? (i := 32) rfl))) Via.refl e0 F0_firstStep (g := (mkF m 6 #[vr u, vi gi, vi q2, vi q3, vi q4] [(.ref u)])) rfl rfl (hb hby dH_6)
    refine OGo.st (fun t kk => st2 t kk) ?_
    show OGo p e below _ (T2.setTop (mkF m 9 #[vr u, vi gi, vi q2, vi q3, vi q4] [(.ref fs)]))
    refine OGo.st (fun t kk => XS.iloadN X2.here hx rfl (hb hby dH_9) rfl kk) ?_
    show OGo p e below _ (T2.setTop (mkF m 10 #[vr u, vi gi, vi q2, vi q3, vi q4] [(.int gi), (.ref fs)]))
    refine OGo.st (fun t kk => OA.ldI X2 hx hZ e2 O_fs (j := gi) (k := gn) (own_g hg hc2_1).1 (own_g hg hc2_1).2.1 (own_g hg hc2_1).2.2 (g := (mkF m 10 #[vr u, vi gi, vi q2, vi q3, vi q4] [(.int gi), (.ref fs)])) rfl rfl (hb hby dH_10) t kk) ?_
    show OGo p e below _ (T2.setTop (mkF m 11 #[vr u, vi gi, vi q2, vi q3, vi q4] [(.int (ffs gn))]))
    refine OGo.st (fun t kk => XS.iconst X2.here hx rfl (hb hby dH_11) kk) ?_
    show OGo p e below _ (T2.setTop (mkF m 12 #[vr u, vi gi, vi q2, vi q3, vi q4] [(.int (-1 : Int32)), (.int (ffs gn))]))
    by_cases hc12_3 : (ffs gn) = (-1 : Int32)
    · refine OGo.st (fun t kk => XS.icmpYes X2.here hx rfl (pc0 := 12) (pc' := 50) rfl (hb hby dH_12) rfl (teq hc12_3).1 (by decide) (by decide) kk) ?_
      show OGo p e below _ (T2.setTop (mkF m 50 #[vr u, vi gi, vi q2, vi q3, vi q4] []))
      refine OGo.st (fun t kk => XS.iconst X2.here hx rfl (hb hby dH_50) kk) ?_
      show OGo p e below _ (T2.setTop (mkF m 51 #[vr u, vi gi, vi q2, vi q3, vi q4] [(.int (0 : Int32))]))
      refine OGo.eqvI (show HD gi (ffs gn) (flb gn) (fbl gn) (fsb gn) q2 q3 q4 = (0 : Int32) from by simp only [HD, hc2_1, hc12_3, if_true, if_false, reduceIte]) ?_
      exact OGo.outN X2 hx (t := .boolean) Bd.returns (by simp) Bd.notSynchronized (hb hby dH_51) ⟨rfl, N0, e2⟩ (by decide) (by decide)
    · refine OGo.st (fun t kk => XS.icmpNo X2.here hx rfl (hb hby dH_12) rfl (feq hc12_3).1 kk) ?_
      show OGo p e below _ (T2.setTop (mkF m 15 #[vr u, vi gi, vi q2, vi q3, vi q4] []))
      refine OGo.st (fun t kk => XS.aloadN X2.here hx rfl (hb hby dH_15) rfl rfl kk) ?_
      show OGo p e below _ (T2.setTop (mkF m 16 #[vr u, vi gi, vi q2, vi q3, vi q4] [(.ref u)]))
      obtain ⟨T4, X4, e4, st4⟩ := getF X2 hx hZ hown (host := "") (Or.inl (hw _ (List.mem_of_getElem? (i := 34) rfl))) Via.refl e2 F0_label (g := (mkF m 16 #[vr u, vi gi, vi q2, vi q3, vi q4] [(.ref u)])) rfl rfl (hb hby dH_16)
      refine OGo.st (fun t kk => st4 t kk) ?_
      show OGo p e below _ (T4.setTop (mkF m 19 #[vr u, vi gi, vi q2, vi q3, vi q4] [(.ref lb)]))
      refine OGo.st (fun t kk => XS.iloadN X4.here hx rfl (hb hby dH_19) rfl kk) ?_
      show OGo p e below _ (T4.setTop (mkF m 20 #[vr u, vi gi, vi q2, vi q3, vi q4] [(.int gi), (.ref lb)]))
      refine OGo.st (fun t kk => OA.ldI X4 hx hZ e4 O_lb (j := gi) (k := gn) (own_g hg hc2_1).1 (own_g hg hc2_1).2.1 (own_g hg hc2_1).2.2 (g := (mkF m 20 #[vr u, vi gi, vi q2, vi q3, vi q4] [(.int gi), (.ref lb)])) rfl rfl (hb hby dH_20) t kk) ?_
      show OGo p e below _ (T4.setTop (mkF m 21 #[vr u, vi gi, vi q2, vi q3, vi q4] [(.int (flb gn))]))
      refine OGo.st (fun t kk => XS.iloadN X4.here hx rfl (hb hby dH_21) rfl kk) ?_
      show OGo p e below _ (T4.setTop (mkF m 22 #[vr u, vi gi, vi q2, vi q3, vi q4] [(.int q2), (.int (flb gn))]))
      by_cases hc22_5 : (flb gn) = q2
      · refine OGo.st (fun t kk => XS.icmpNo X4.here hx rfl (hb hby dH_22) rfl (teq hc22_5).2 kk) ?_
        show OGo p e below _ (T4.setTop (mkF m 25 #[vr u, vi gi, vi q2, vi q3, vi q4] []))
        refine OGo.st (fun t kk => XS.aloadN X4.here hx rfl (hb hby dH_25) rfl rfl kk) ?_
        show OGo p e below _ (T4.setTop (mkF m 26 #[vr u, vi gi, vi q2, vi q3, vi q4] [(.ref u)]))
        obtain ⟨T6, X6, e6, st6⟩ := getF X4 hx hZ hown (host := "") (Or.inl (hw _ (List.mem_of_getElem? (i := 38) rfl))) Via.refl e4 F0_block (g := (mkF m 26 #[vr u, vi gi, vi q2, vi q3, vi q4] [(.ref u)])) rfl rfl (hb hby dH_26)
        refine OGo.st (fun t kk => st6 t kk) ?_
        show OGo p e below _ (T6.setTop (mkF m 29 #[vr u, vi gi, vi q2, vi q3, vi q4] [(.ref bl)]))
        refine OGo.st (fun t kk => XS.iloadN X6.here hx rfl (hb hby dH_29) rfl kk) ?_
        show OGo p e below _ (T6.setTop (mkF m 30 #[vr u, vi gi, vi q2, vi q3, vi q4] [(.int gi), (.ref bl)]))
        refine OGo.st (fun t kk => OA.ldI X6 hx hZ e6 O_bl (j := gi) (k := gn) (own_g hg hc2_1).1 (own_g hg hc2_1).2.1 (own_g hg hc2_1).2.2 (g := (mkF m 30 #[vr u, vi gi, vi q2, vi q3, vi q4] [(.int gi), (.ref bl)])) rfl rfl (hb hby dH_30) t kk) ?_
        show OGo p e below _ (T6.setTop (mkF m 31 #[vr u, vi gi, vi q2, vi q3, vi q4] [(.int (fbl gn))]))
        refine OGo.st (fun t kk => XS.iloadN X6.here hx rfl (hb hby dH_31) rfl kk) ?_
        show OGo p e below _ (T6.setTop (mkF m 32 #[vr u, vi gi, vi q2, vi q3, vi q4] [(.int q3), (.int (fbl gn))]))
        by_cases hc32_7 : (fbl gn) = q3
        · refine OGo.st (fun t kk => XS.icmpNo X6.here hx rfl (hb hby dH_32) rfl (teq hc32_7).2 kk) ?_
          show OGo p e below _ (T6.setTop (mkF m 35 #[vr u, vi gi, vi q2, vi q3, vi q4] []))
          refine OGo.st (fun t kk => XS.aloadN X6.here hx rfl (hb hby dH_35) rfl rfl kk) ?_
          show OGo p e below _ (T6.setTop (mkF m 36 #[vr u, vi gi, vi q2, vi q3, vi q4] [(.ref u)]))
          obtain ⟨T8, X8, e8, st8⟩ := getF X6 hx hZ hown (host := "") (Or.inl (hw _ (List.mem_of_getElem? (i := 36) rfl))) Via.refl e6 F0_superBlock (g := (mkF m 36 #[vr u, vi gi, vi q2, vi q3, vi q4] [(.ref u)])) rfl rfl (hb hby dH_36)
          refine OGo.st (fun t kk => st8 t kk) ?_
          show OGo p e below _ (T8.setTop (mkF m 39 #[vr u, vi gi, vi q2, vi q3, vi q4] [(.ref sb)]))
          refine OGo.st (fun t kk => XS.iloadN X8.here hx rfl (hb hby dH_39) rfl kk) ?_
          show OGo p e below _ (T8.setTop (mkF m 40 #[vr u, vi gi, vi q2, vi q3, vi q4] [(.int gi), (.ref sb)]))
          refine OGo.st (fun t kk => OA.ldI X8 hx hZ e8 O_sb (j := gi) (k := gn) (own_g hg hc2_1).1 (own_g hg hc2_1).2.1 (own_g hg hc2_1).2.2 (g := (mkF m 40 #[vr u, vi gi, vi q2, vi q3, vi q4] [(.int gi), (.ref sb)])) rfl rfl (hb hby dH_40) t kk) ?_
          show OGo p e below _ (T8.setTop (mkF m 41 #[vr u, vi gi, vi q2, vi q3, vi q4] [(.int (fsb gn))]))
          refine OGo.st (fun t kk => XS.iload X8.here hx rfl (hb hby dH_41) rfl kk) ?_
          show OGo p e below _ (T8.setTop (mkF m 43 #[vr u, vi gi, vi q2, vi q3, vi q4] [(.int q4), (.int (fsb gn))]))
          by_cases hc43_9 : (fsb gn) = q4
          · refine OGo.st (fun t kk => XS.icmpNo X8.here hx rfl (hb hby dH_43) rfl (teq hc43_9).2 kk) ?_
            show OGo p e below _ (T8.setTop (mkF m 46 #[vr u, vi gi, vi q2, vi q3, vi q4] []))
            refine OGo.st (fun t kk => XS.iconst X8.here hx rfl (hb hby dH_46) kk) ?_
            show OGo p e below _ (T8.setTop (mkF m 47 #[vr u, vi gi, vi q2, vi q3, vi q4] [(.int (1 : Int32))]))
            refine OGo.st (fun t kk => XS.goto X8.here hx rfl (pc0 := 47) (pc' := 51) rfl (hb hby dH_47) (by decide) (by decide) kk) ?_
            show OGo p e below _ (T8.setTop (mkF m 51 #[vr u, vi gi, vi q2, vi q3, vi q4] [(.int (1 : Int32))]))
            refine OGo.eqvI (show HD gi (ffs gn) (flb gn) (fbl gn) (fsb gn) q2 q3 q4 = (1 : Int32) from by simp only [HD, hc2_1, hc12_3, hc22_5, hc32_7, hc43_9, if_true, if_false, reduceIte]) ?_
            exact OGo.outN X8 hx (t := .boolean) Bd.returns (by simp) Bd.notSynchronized (hb hby dH_51) ⟨rfl, N0, e8⟩ (by decide) (by decide)
          · refine OGo.st (fun t kk => XS.icmpYes X8.here hx rfl (pc0 := 43) (pc' := 50) rfl (hb hby dH_43) rfl (feq hc43_9).2 (by decide) (by decide) kk) ?_
            show OGo p e below _ (T8.setTop (mkF m 50 #[vr u, vi gi, vi q2, vi q3, vi q4] []))
            refine OGo.st (fun t kk => XS.iconst X8.here hx rfl (hb hby dH_50) kk) ?_
            show OGo p e below _ (T8.setTop (mkF m 51 #[vr u, vi gi, vi q2, vi q3, vi q4] [(.int (0 : Int32))]))
            refine OGo.eqvI (show HD gi (ffs gn) (flb gn) (fbl gn) (fsb gn) q2 q3 q4 = (0 : Int32) from by simp only [HD, hc2_1, hc12_3, hc22_5, hc32_7, hc43_9, if_true, if_false, reduceIte]) ?_
            exact OGo.outN X8 hx (t := .boolean) Bd.returns (by simp) Bd.notSynchronized (hb hby dH_51) ⟨rfl, N0, e8⟩ (by decide) (by decide)
        · refine OGo.st (fun t kk => XS.icmpYes X6.here hx rfl (pc0 := 32) (pc' := 50) rfl (hb hby dH_32) rfl (feq hc32_7).2 (by decide) (by decide) kk) ?_
          show OGo p e below _ (T6.setTop (mkF m 50 #[vr u, vi gi, vi q2, vi q3, vi q4] []))
          refine OGo.st (fun t kk => XS.iconst X6.here hx rfl (hb hby dH_50) kk) ?_
          show OGo p e below _ (T6.setTop (mkF m 51 #[vr u, vi gi, vi q2, vi q3, vi q4] [(.int (0 : Int32))]))
          refine OGo.eqvI (show HD gi (ffs gn) (flb gn) (fbl gn) (fsb gn) q2 q3 q4 = (0 : Int32) from by simp only [HD, hc2_1, hc12_3, hc22_5, hc32_7, if_true, if_false, reduceIte]) ?_
          exact OGo.outN X6 hx (t := .boolean) Bd.returns (by simp) Bd.notSynchronized (hb hby dH_51) ⟨rfl, N0, e6⟩ (by decide) (by decide)
      · refine OGo.st (fun t kk => XS.icmpYes X4.here hx rfl (pc0 := 22) (pc' := 50) rfl (hb hby dH_22) rfl (feq hc22_5).2 (by decide) (by decide) kk) ?_
        show OGo p e below _ (T4.setTop (mkF m 50 #[vr u, vi gi, vi q2, vi q3, vi q4] []))
        refine OGo.st (fun t kk => XS.iconst X4.here hx rfl (hb hby dH_50) kk) ?_
        show OGo p e below _ (T4.setTop (mkF m 51 #[vr u, vi gi, vi q2, vi q3, vi q4] [(.int (0 : Int32))]))
        refine OGo.eqvI (show HD gi (ffs gn) (flb gn) (fbl gn) (fsb gn) q2 q3 q4 = (0 : Int32) from by simp only [HD, hc2_1, hc12_3, hc22_5, if_true, if_false, reduceIte]) ?_
        exact OGo.outN X4 hx (t := .boolean) Bd.returns (by simp) Bd.notSynchronized (hb hby dH_51) ⟨rfl, N0, e4⟩ (by decide) (by decide)
def QC (Z : State) (n0 : Nat) (u : Addr) (ln : Nat) (v : Option Value) (h : Heap) (L : List Loc) : Prop := v = none ∧ Fr n0 L ∧ n0 ≤ h.size ∧ ∃ (em fr fb go ps ns fs lb sb bl pv nx pt qs ms : Addr) (fem : Nat → Int32) (ffb : Nat → Int32) (fgo : Nat → Int32) (fps : Nat → Int32) (fns : Nat → Int32) (ffs : Nat → Int32) (flb : Nat → Int32) (fsb : Nat → Int32) (fbl : Nat → Int32) (fpv : Nat → Int32) (fnx : Nat → Int32) (fpt : Nat → Int32) (fqs : Nat → Int64) (fms : Nat → Int64), ORD u em fr fb go ps ns fs lb sb bl pv nx pt qs ms ∧ FU Z h u em fr fb go ps ns fs lb sb bl pv nx pt qs ms (Int32.ofNat (0 + 1)) 0 0 0 ∧ OA Z h em .int 16 fem ∧ OA Z h fb .int 16 ffb ∧ OA Z h go .int 1 fgo ∧ OA Z h ps .int 1 fps ∧ OA Z h ns .int 1 fns ∧ OA Z h fs .int 16 ffs ∧ OA Z h lb .int 16 flb ∧ OA Z h sb .int 16 fsb ∧ OA Z h bl .int 16 fbl ∧ OA Z h pv .int 16 fpv ∧ OA Z h nx .int 16 fnx ∧ OA Z h pt .int 16 fpt ∧ OL Z h qs 16 fqs ∧ OL Z h ms 16 fms ∧ fqs 0 = 0 ∧ flb 0 = Int32.ofNat ln ∧ fps 0 = -1 ∧ fns 0 = -1 ∧ fpv 0 = -1 ∧ fnx 0 = -1 ∧ fbl 0 = 0 ∧ fgo 0 = 0 ∧ fsb 0 = 0 ∧ (ffs 0 = 0 ∧ ffb 0 = 0 ∧ ∀ j, ¬ j = 0 → ffb j = -1)

theorem dC_0 : decode prog_76_method_1_code 0 = .ok (.aload_n 0, 1) := by decide +kernel
theorem dC_1 : decode prog_76_method_1_code 1 = .ok (.invokespecial 1, 3) := by decide +kernel
theorem dC_4 : decode prog_76_method_1_code 4 = .ok (.aload_n 0, 1) := by decide +kernel
theorem dC_5 : decode prog_76_method_1_code 5 = .ok (.bipush 16, 2) := by decide +kernel
theorem dC_7 : decode prog_76_method_1_code 7 = .ok (.newarray .int, 2) := by decide +kernel
theorem dC_9 : decode prog_76_method_1_code 9 = .ok (.putfield 7, 3) := by decide +kernel
theorem dC_12 : decode prog_76_method_1_code 12 = .ok (.aload_n 0, 1) := by decide +kernel
theorem dC_13 : decode prog_76_method_1_code 13 = .ok (.bipush 16, 2) := by decide +kernel
theorem dC_15 : decode prog_76_method_1_code 15 = .ok (.newarray .int, 2) := by decide +kernel
theorem dC_17 : decode prog_76_method_1_code 17 = .ok (.putfield 13, 3) := by decide +kernel
theorem dC_20 : decode prog_76_method_1_code 20 = .ok (.aload_n 0, 1) := by decide +kernel
theorem dC_21 : decode prog_76_method_1_code 21 = .ok (.bipush 16, 2) := by decide +kernel
theorem dC_23 : decode prog_76_method_1_code 23 = .ok (.newarray .int, 2) := by decide +kernel
theorem dC_25 : decode prog_76_method_1_code 25 = .ok (.putfield 16, 3) := by decide +kernel
theorem dC_28 : decode prog_76_method_1_code 28 = .ok (.aload_n 0, 1) := by decide +kernel
theorem dC_29 : decode prog_76_method_1_code 29 = .ok (.bipush 16, 2) := by decide +kernel
theorem dC_31 : decode prog_76_method_1_code 31 = .ok (.newarray .int, 2) := by decide +kernel
theorem dC_33 : decode prog_76_method_1_code 33 = .ok (.putfield 19, 3) := by decide +kernel
theorem dC_36 : decode prog_76_method_1_code 36 = .ok (.aload_n 0, 1) := by decide +kernel
theorem dC_37 : decode prog_76_method_1_code 37 = .ok (.bipush 16, 2) := by decide +kernel
theorem dC_39 : decode prog_76_method_1_code 39 = .ok (.newarray .long, 2) := by decide +kernel
theorem dC_41 : decode prog_76_method_1_code 41 = .ok (.putfield 22, 3) := by decide +kernel
theorem dC_44 : decode prog_76_method_1_code 44 = .ok (.aload_n 1, 1) := by decide +kernel
theorem dC_45 : decode prog_76_method_1_code 45 = .ok (.arraylength, 1) := by decide +kernel
theorem dC_46 : decode prog_76_method_1_code 46 = .ok (.istore 4, 2) := by decide +kernel
theorem dC_48 : decode prog_76_method_1_code 48 = .ok (.aload_n 0, 1) := by decide +kernel
theorem dC_49 : decode prog_76_method_1_code 49 = .ok (.iload 4, 2) := by decide +kernel
theorem dC_51 : decode prog_76_method_1_code 51 = .ok (.newarray .int, 2) := by decide +kernel
theorem dC_53 : decode prog_76_method_1_code 53 = .ok (.putfield 26, 3) := by decide +kernel
theorem dC_56 : decode prog_76_method_1_code 56 = .ok (.aload_n 0, 1) := by decide +kernel
theorem dC_57 : decode prog_76_method_1_code 57 = .ok (.iload 4, 2) := by decide +kernel
theorem dC_59 : decode prog_76_method_1_code 59 = .ok (.newarray .int, 2) := by decide +kernel
theorem dC_61 : decode prog_76_method_1_code 61 = .ok (.putfield 29, 3) := by decide +kernel
theorem dC_64 : decode prog_76_method_1_code 64 = .ok (.aload_n 0, 1) := by decide +kernel
theorem dC_65 : decode prog_76_method_1_code 65 = .ok (.iload 4, 2) := by decide +kernel
theorem dC_67 : decode prog_76_method_1_code 67 = .ok (.newarray .int, 2) := by decide +kernel
theorem dC_69 : decode prog_76_method_1_code 69 = .ok (.putfield 32, 3) := by decide +kernel
theorem dC_72 : decode prog_76_method_1_code 72 = .ok (.iload_n 2, 1) := by decide +kernel
theorem dC_73 : decode prog_76_method_1_code 73 = .ok (.bipush 16, 2) := by decide +kernel
theorem dC_75 : decode prog_76_method_1_code 75 = .ok (.invokestatic 35, 3) := by decide +kernel
theorem dC_78 : decode prog_76_method_1_code 78 = .ok (.istore 5, 2) := by decide +kernel
theorem dC_80 : decode prog_76_method_1_code 80 = .ok (.aload_n 0, 1) := by decide +kernel
theorem dC_81 : decode prog_76_method_1_code 81 = .ok (.iload 5, 2) := by decide +kernel
theorem dC_83 : decode prog_76_method_1_code 83 = .ok (.newarray .int, 2) := by decide +kernel
theorem dC_85 : decode prog_76_method_1_code 85 = .ok (.putfield 41, 3) := by decide +kernel
theorem dC_88 : decode prog_76_method_1_code 88 = .ok (.aload_n 0, 1) := by decide +kernel
theorem dC_89 : decode prog_76_method_1_code 89 = .ok (.iload 5, 2) := by decide +kernel
theorem dC_91 : decode prog_76_method_1_code 91 = .ok (.newarray .int, 2) := by decide +kernel
theorem dC_93 : decode prog_76_method_1_code 93 = .ok (.putfield 44, 3) := by decide +kernel
theorem dC_96 : decode prog_76_method_1_code 96 = .ok (.aload_n 0, 1) := by decide +kernel
theorem dC_97 : decode prog_76_method_1_code 97 = .ok (.iload 5, 2) := by decide +kernel
theorem dC_99 : decode prog_76_method_1_code 99 = .ok (.newarray .int, 2) := by decide +kernel
theorem dC_101 : decode prog_76_method_1_code 101 = .ok (.putfield 47, 3) := by decide +kernel
theorem dC_104 : decode prog_76_method_1_code 104 = .ok (.aload_n 0, 1) := by decide +kernel
theorem dC_105 : decode prog_76_method_1_code 105 = .ok (.iload 5, 2) := by decide +kernel
theorem dC_107 : decode prog_76_method_1_code 107 = .ok (.newarray .int, 2) := by decide +kernel
theorem dC_109 : decode prog_76_method_1_code 109 = .ok (.putfield 50, 3) := by decide +kernel
theorem dC_112 : decode prog_76_method_1_code 112 = .ok (.aload_n 0, 1) := by decide +kernel
theorem dC_113 : decode prog_76_method_1_code 113 = .ok (.iload 5, 2) := by decide +kernel
theorem dC_115 : decode prog_76_method_1_code 115 = .ok (.newarray .int, 2) := by decide +kernel
theorem dC_117 : decode prog_76_method_1_code 117 = .ok (.putfield 53, 3) := by decide +kernel
theorem dC_120 : decode prog_76_method_1_code 120 = .ok (.aload_n 0, 1) := by decide +kernel
theorem dC_121 : decode prog_76_method_1_code 121 = .ok (.iload 5, 2) := by decide +kernel
theorem dC_123 : decode prog_76_method_1_code 123 = .ok (.newarray .int, 2) := by decide +kernel
theorem dC_125 : decode prog_76_method_1_code 125 = .ok (.putfield 56, 3) := by decide +kernel
theorem dC_128 : decode prog_76_method_1_code 128 = .ok (.aload_n 0, 1) := by decide +kernel
theorem dC_129 : decode prog_76_method_1_code 129 = .ok (.iload 5, 2) := by decide +kernel
theorem dC_131 : decode prog_76_method_1_code 131 = .ok (.newarray .int, 2) := by decide +kernel
theorem dC_133 : decode prog_76_method_1_code 133 = .ok (.putfield 59, 3) := by decide +kernel
theorem dC_136 : decode prog_76_method_1_code 136 = .ok (.aload_n 0, 1) := by decide +kernel
theorem dC_137 : decode prog_76_method_1_code 137 = .ok (.iload 5, 2) := by decide +kernel
theorem dC_139 : decode prog_76_method_1_code 139 = .ok (.newarray .long, 2) := by decide +kernel
theorem dC_141 : decode prog_76_method_1_code 141 = .ok (.putfield 62, 3) := by decide +kernel
theorem dC_144 : decode prog_76_method_1_code 144 = .ok (.aload_n 0, 1) := by decide +kernel
theorem dC_145 : decode prog_76_method_1_code 145 = .ok (.iload 5, 2) := by decide +kernel
theorem dC_147 : decode prog_76_method_1_code 147 = .ok (.newarray .long, 2) := by decide +kernel
theorem dC_149 : decode prog_76_method_1_code 149 = .ok (.putfield 65, 3) := by decide +kernel
theorem dC_152 : decode prog_76_method_1_code 152 = .ok (.aload_n 0, 1) := by decide +kernel
theorem dC_153 : decode prog_76_method_1_code 153 = .ok (.getfield 16, 3) := by decide +kernel
theorem dC_156 : decode prog_76_method_1_code 156 = .ok (.iconst (-1), 1) := by decide +kernel
theorem dC_157 : decode prog_76_method_1_code 157 = .ok (.invokestatic 68, 3) := by decide +kernel
theorem dC_160 : decode prog_76_method_1_code 160 = .ok (.iload_n 2, 1) := by decide +kernel
theorem dC_161 : decode prog_76_method_1_code 161 = .ok (.newarray .int, 2) := by decide +kernel
theorem dC_163 : decode prog_76_method_1_code 163 = .ok (.astore 6, 2) := by decide +kernel
theorem dC_165 : decode prog_76_method_1_code 165 = .ok (.aload 6, 2) := by decide +kernel
theorem dC_167 : decode prog_76_method_1_code 167 = .ok (.iconst (-1), 1) := by decide +kernel
theorem dC_168 : decode prog_76_method_1_code 168 = .ok (.invokestatic 68, 3) := by decide +kernel
theorem dC_171 : decode prog_76_method_1_code 171 = .ok (.iload 4, 2) := by decide +kernel
theorem dC_173 : decode prog_76_method_1_code 173 = .ok (.iconst 1, 1) := by decide +kernel
theorem dC_174 : decode prog_76_method_1_code 174 = .ok (.isub, 1) := by decide +kernel
theorem dC_175 : decode prog_76_method_1_code 175 = .ok (.istore 7, 2) := by decide +kernel
theorem dC_177 : decode prog_76_method_1_code 177 = .ok (.iload 7, 2) := by decide +kernel
theorem dC_179 : decode prog_76_method_1_code 179 = .ok (.ifCond .lt 65, 3) := by decide +kernel
theorem dC_182 : decode prog_76_method_1_code 182 = .ok (.aload_n 1, 1) := by decide +kernel
theorem dC_183 : decode prog_76_method_1_code 183 = .ok (.iload 7, 2) := by decide +kernel
theorem dC_185 : decode prog_76_method_1_code 185 = .ok (.iaload, 1) := by decide +kernel
theorem dC_186 : decode prog_76_method_1_code 186 = .ok (.istore 8, 2) := by decide +kernel
theorem dC_188 : decode prog_76_method_1_code 188 = .ok (.iload 8, 2) := by decide +kernel
theorem dC_190 : decode prog_76_method_1_code 190 = .ok (.iload_n 3, 1) := by decide +kernel
theorem dC_191 : decode prog_76_method_1_code 191 = .ok (.if_icmp .ne 14, 3) := by decide +kernel
theorem dC_205 : decode prog_76_method_1_code 205 = .ok (.aload 6, 2) := by decide +kernel
theorem dC_207 : decode prog_76_method_1_code 207 = .ok (.iload 8, 2) := by decide +kernel
theorem dC_209 : decode prog_76_method_1_code 209 = .ok (.iaload, 1) := by decide +kernel
theorem dC_210 : decode prog_76_method_1_code 210 = .ok (.iconst (-1), 1) := by decide +kernel
theorem dC_211 : decode prog_76_method_1_code 211 = .ok (.if_icmp .ne 16, 3) := by decide +kernel
theorem dC_214 : decode prog_76_method_1_code 214 = .ok (.aload 6, 2) := by decide +kernel
theorem dC_216 : decode prog_76_method_1_code 216 = .ok (.iload 8, 2) := by decide +kernel
theorem dC_218 : decode prog_76_method_1_code 218 = .ok (.aload_n 0, 1) := by decide +kernel
theorem dC_219 : decode prog_76_method_1_code 219 = .ok (.iload 8, 2) := by decide +kernel
theorem dC_221 : decode prog_76_method_1_code 221 = .ok (.iconst 0, 1) := by decide +kernel
theorem dC_222 : decode prog_76_method_1_code 222 = .ok (.iconst 0, 1) := by decide +kernel
theorem dC_223 : decode prog_76_method_1_code 223 = .ok (.invokevirtual 74, 3) := by decide +kernel
theorem dC_226 : decode prog_76_method_1_code 226 = .ok (.iastore, 1) := by decide +kernel
theorem dC_227 : decode prog_76_method_1_code 227 = .ok (.aload_n 0, 1) := by decide +kernel
theorem dC_228 : decode prog_76_method_1_code 228 = .ok (.iload 7, 2) := by decide +kernel
theorem dC_230 : decode prog_76_method_1_code 230 = .ok (.aload 6, 2) := by decide +kernel
theorem dC_232 : decode prog_76_method_1_code 232 = .ok (.iload 8, 2) := by decide +kernel
theorem dC_234 : decode prog_76_method_1_code 234 = .ok (.iaload, 1) := by decide +kernel
theorem dC_235 : decode prog_76_method_1_code 235 = .ok (.invokevirtual 78, 3) := by decide +kernel
theorem dC_238 : decode prog_76_method_1_code 238 = .ok (.iinc 7 (-1), 3) := by decide +kernel
theorem dC_241 : decode prog_76_method_1_code 241 = .ok (.goto (-64), 3) := by decide +kernel
theorem dC_244 : decode prog_76_method_1_code 244 = .ok (.return_, 1) := by decide +kernel
theorem pnC : plainName "com/example/lockstep/lockstep/check/StepGroups" = true := by first | (simp [plainName, overriddenIn]; done) | decide +kernel
theorem pdC_0 : parseMethodDescriptor "(II)I" = some ⟨[.int, .int], some .int⟩ := by decide +kernel
theorem pdC_1 : parseMethodDescriptor "([II)V" = some ⟨[(.array .int), .int], none⟩ := by decide +kernel
theorem pdC_2 : parseMethodDescriptor "(III)I" = some ⟨[.int, .int, .int], some .int⟩ := by decide +kernel
theorem pdC_3 : parseMethodDescriptor "(II)V" = some ⟨[.int, .int], none⟩ := by decide +kernel
theorem efC (m : MethodId) (u : Addr) (la : Addr) : entryFrame m #[(.ref u), (.ref la), (.int (4 : Int32)), (.int (-1 : Int32))] 9 = mkF m 0 #[.val (.ref u), .val (.ref la), .val (.int (4 : Int32)), .val (.int (-1 : Int32)), .unset, .unset, .unset, .unset, .unset] [] := by first | (simp [entryFrame, mkF, argsToLocals, Value.category]; done) | rfl
set_option maxRecDepth 65536 in
set_option maxHeartbeats 40000000 in
theorem rmC (l : Launch) (Z : State) (a0 : Array Value) (hw : ∀ d ∈ tables_1, d.before a0 Z = true) (ws : List Jvm.Cond) (u : Addr) (la : Addr) (fla : Nat → Int32) (ln : Nat) (h0 : Heap) (n0 : Nat) (Z0 : n0 ≤ h0.size) (E0 : Exa Z h0 u "com/example/lockstep/lockstep/check/StepGroups") (F0_emptied : Fld Z h0 u "com/example/lockstep/lockstep/check/StepGroups" "emptied" "[I" .null) (F0_free : Fld Z h0 u "com/example/lockstep/lockstep/check/StepGroups" "free" "[I" .null) (F0_firstOfBlock : Fld Z h0 u "com/example/lockstep/lockstep/check/StepGroups" "firstOfBlock" "[I" .null) (F0_groupOf : Fld Z h0 u "com/example/lockstep/lockstep/check/StepGroups" "groupOf" "[I" .null) (F0_previousStep : Fld Z h0 u "com/example/lockstep/lockstep/check/StepGroups" "previousStep" "[I" .null) (F0_nextStep : Fld Z h0 u "com/example/lockstep/lockstep/check/StepGroups" "nextStep" "[I" .null) (F0_firstStep : Fld Z h0 u "com/example/lockstep/lockstep/check/StepGroups" "firstStep" "[I" .null) (F0_label : Fld Z h0 u "com/example/lockstep/lockstep/check/StepGroups" "label" "[I" .null) (F0_superBlock : Fld Z h0 u "com/example/lockstep/lockstep/check/StepGroups" "superBlock" "[I" .null) (F0_block : Fld Z h0 u "com/example/lockstep/lockstep/check/StepGroups" "block" "[I" .null) (F0_previous : Fld Z h0 u "com/example/lockstep/lockstep/check/StepGroups" "previous" "[I" .null) (F0_next : Fld Z h0 u "com/example/lockstep/lockstep/check/StepGroups" "next" "[I" .null) (F0_partner : Fld Z h0 u "com/example/lockstep/lockstep/check/StepGroups" "partner" "[I" .null) (F0_partnerStamp : Fld Z h0 u "com/example/lockstep/lockstep/check/StepGroups" "partnerStamp" "[J" .null) (F0_markStamp : Fld Z h0 u "com/example/lockstep/lockstep/check/StepGroups" "markStamp" "[J" .null) (F0_groupCount : Fld Z h0 u "com/example/lockstep/lockstep/check/StepGroups" "groupCount" "I" (.int (0 : Int32))) (F0_emptiedCount : Fld Z h0 u "com/example/lockstep/lockstep/check/StepGroups" "emptiedCount" "I" (.int (0 : Int32))) (F0_freeCount : Fld Z h0 u "com/example/lockstep/lockstep/check/StepGroups" "freeCount" "I" (.int (0 : Int32))) (F0_stamp : Fld Z h0 u "com/example/lockstep/lockstep/check/StepGroups" "stamp" "J" (.long (0 : Int64))) (F0_addedTo : Fld Z h0 u "com/example/lockstep/lockstep/check/StepGroups" "addedTo" "[I" .null) (F0_addedStamp : Fld Z h0 u "com/example/lockstep/lockstep/check/StepGroups" "addedStamp" "[J" .null) (Ola : OA Z h0 la .int 1 fla) (hla : fla 0 = Int32.ofNat ln) (hln : ln < 4) (hul : u ≠ la) (gu : n0 ≤ u) :
    MetFree l (⟨"com/example/lockstep/lockstep/check/StepGroups", "<init>", "([III)V"⟩ : MethodName) (head1 (Jvm.Cond.code (⟨"com/example/lockstep/lockstep/check/StepGroups", "<init>", "([III)V"⟩ : MethodName) prog_76_method_1_code 9 none :: ws) ({ frames := 1, cells := 18, slots := 231, locals := 19 } : Room)) (fun a U => a = #[(.ref u), (.ref la), (.int (4 : Int32)), (.int (-1 : Int32))] ∧ Z.Warmed39 U.vm ∧ U.heap = h0) (fun _ _ _ _ _ => True) (fun _ U o U' => ∃ v L, o = .returned v ∧ (QC Z n0 u ln) v U'.heap L ∧ FrameEnd U o U' L ({ frames := 1, cells := 18, slots := 231, locals := 19 } : Room).cells ({ frames := 1, cells := 18, slots := 231, locals := 19 } : Room).slots) := by
  refine MetFree.of_bodySF (plainFor_of_name pnC) hisR ?_
  intro p e s m args below meth c s₁ Bd hml0 hP hK
  obtain ⟨rfl, hZ, hh⟩ := hP
  have hx := Bd.exec
  have hby := Bd.bytes
  have hml : c.maxLocals = 9 := hml0
  have hown : s.vm.findClass "com/example/lockstep/lockstep/check/StepGroups" = some m.cls := findClass_of_methodNamed Bd.named
  have hnm := (name_of_methodNamed Bd.named Bd.method).1
  have X0 : Stand p l e ({ frames := 1, cells := 18, slots := 231, locals := 19 } : Room) s m #[(.ref u), (.ref la), (.int (4 : Int32)), (.int (-1 : Int32))] below meth c s₁ [] 0 0 := Stand.of_body Bd
  have e0 : s₁.heap = h0 := by rw [← hh, Bd.state]; rfl
  have N0 := Fr.nil n0
  show OGo p e below (Out s ({ frames := 1, cells := 18, slots := 231, locals := 19 } : Room).cells ({ frames := 1, cells := 18, slots := 231, locals := 19 } : Room).slots ((QC Z n0 u ln))) (s₁.setTop (entryFrame m #[(.ref u), (.ref la), (.int (4 : Int32)), (.int (-1 : Int32))] 9))
  refine OGo.st (fun t kk => castTop (efC m u la) kk) ?_
  show OGo p e below (Out s ({ frames := 1, cells := 18, slots := 231, locals := 19 } : Room).cells ({ frames := 1, cells := 18, slots := 231, locals := 19 } : Room).slots ((QC Z n0 u ln))) (s₁.setTop (mkF m 0 #[vr u, vr la, vi (4 : Int32), vi (-1 : Int32), .unset, .unset, .unset, .unset, .unset] []))
  refine OGo.st (fun t kk => XS.aloadN X0.here hx rfl (hb hby dC_0) rfl rfl kk) ?_
  show OGo p e below _ (s₁.setTop (mkF m 1 #[vr u, vr la, vi (4 : Int32), vi (-1 : Int32), .unset, .unset, .unset, .unset, .unset] [(.ref u)]))
  obtain ⟨T1, X1, e1, st1⟩ := initO X0 hx hZ hown (hw _ (List.mem_of_getElem? (i := 8) rfl)) (hw _ (List.mem_of_getElem? (i := 9) rfl)) (hw _ (List.mem_of_getElem? (i := 10) rfl)) e0 (g := (mkF m 1 #[vr u, vr la, vi (4 : Int32), vi (-1 : Int32), .unset, .unset, .unset, .unset, .unset] [(.ref u)])) rfl (by rw [hml]; rfl) rfl (hb hby dC_1) (by decide) (W := 0) (by show 2 * 0 + _ ≤ _; exact Nat.le_of_eq rfl) (by decide)
  refine OGo.st (fun t kk => st1 t kk) ?_
  show OGo p e below _ (T1.setTop (mkF m 4 #[vr u, vr la, vi (4 : Int32), vi (-1 : Int32), .unset, .unset, .unset, .unset, .unset] []))
  refine OGo.st (fun t kk => XS.aloadN X1.here hx rfl (hb hby dC_4) rfl rfl kk) ?_
  show OGo p e below _ (T1.setTop (mkF m 5 #[vr u, vr la, vi (4 : Int32), vi (-1 : Int32), .unset, .unset, .unset, .unset, .unset] [(.ref u)]))
  refine OGo.st (fun t kk => XS.bipush X1.here hx rfl (hb hby dC_5) kk) ?_
  show OGo p e below _ (T1.setTop (mkF m 7 #[vr u, vr la, vi (4 : Int32), vi (-1 : Int32), .unset, .unset, .unset, .unset, .unset] [(.int (16 : Int32)), (.ref u)]))
  obtain ⟨T2, h2, k2, X2, e2, E2, A2, st2⟩ := newP X1 hx hZ (hw _ (List.mem_of_getElem? (i := 4) rfl)) e1 (g := (mkF m 7 #[vr u, vr la, vi (4 : Int32), vi (-1 : Int32), .unset, .unset, .unset, .unset, .unset] [(.int (16 : Int32)), (.ref u)])) rfl (hb hby dC_7) rfl (by decide) (cap := 16) (by decide) (by decide) (by decide) (by decide)
  obtain ⟨b2, g2⟩ : ∃ z, z = h0.size := ⟨_, rfl⟩
  rw [← g2] at A2 st2
  have O2 : OA Z h2 b2 .int 16 (fun _ => 0) := OA.new A2 (by decide) rfl
  have gb2 : n0 ≤ b2 := Nat.le_trans Z0 (Nat.le_of_eq g2.symm)
  have Z2 : n0 ≤ h2.size := Nat.le_trans Z0 E2.1
  have lt_u_b2 : (u : Nat) < b2 := (Nat.lt_of_lt_of_le E0.lt (Nat.le_of_eq g2.symm))
  have ne_u_b2 : u ≠ b2 := Nat.ne_of_lt lt_u_b2
  have lt_la_b2 : (la : Nat) < b2 := (Nat.lt_of_lt_of_le Ola.lt (Nat.le_of_eq g2.symm))
  have ne_la_b2 : la ≠ b2 := Nat.ne_of_lt lt_la_b2
  obtain ⟨lo2, X2, N2⟩ : ∃ L, Stand p l e ({ frames := 1, cells := 18, slots := 231, locals := 19 } : Room) s m #[(.ref u), (.ref la), (.int (4 : Int32)), (.int (-1 : Int32))] below meth c T2 L 1 16 ∧ Fr n0 L := ⟨_, X2, N0⟩
  refine OGo.st (fun t kk => st2 t kk) ?_
  show OGo p e below _ (T2.setTop (mkF m 9 #[vr u, vr la, vi (4 : Int32), vi (-1 : Int32), .unset, .unset, .unset, .unset, .unset] [(.ref b2), (.ref u)]))
  have c3 := (F0_emptied.ext E2)
  have c4 := (E0.ext E2)
  obtain ⟨T5, h5, X5, e5, W5, st5⟩ := putF X2 hx hZ hown (host := "") (Or.inl (hw _ (List.mem_of_getElem? (i := 11) rfl))) Via.refl e2 c3 c4 (Or.inl (hw _ (List.mem_of_getElem? (i := 12) rfl))) (hw _ (List.mem_of_getElem? (i := 2) rfl)) (ty := (.array .int)) (by decide) rfl rfl (g := (mkF m 9 #[vr u, vr la, vi (4 : Int32), vi (-1 : Int32), .unset, .unset, .unset, .unset, .unset] [(.ref b2), (.ref u)])) rfl rfl (hb hby dC_9)
  have Fw5 := c3.same W5
  have N5 := Fr.snoc X5 N2 gu
  have Z5 : n0 ≤ h5.size := Nat.le_trans Z2 (Keep.of_wr W5).1
  obtain ⟨lo5, X5, N5⟩ : ∃ L, Stand p l e ({ frames := 1, cells := 18, slots := 231, locals := 19 } : Room) s m #[(.ref u), (.ref la), (.int (4 : Int32)), (.int (-1 : Int32))] below meth c T5 L 1 16 ∧ Fr n0 L := ⟨_, X5, N5⟩
  refine OGo.st (fun t kk => st5 t kk) ?_
  show OGo p e below _ (T5.setTop (mkF m 12 #[vr u, vr la, vi (4 : Int32), vi (-1 : Int32), .unset, .unset, .unset, .unset, .unset] []))
  refine OGo.st (fun t kk => XS.aloadN X5.here hx rfl (hb hby dC_12) rfl rfl kk) ?_
  show OGo p e below _ (T5.setTop (mkF m 13 #[vr u, vr la, vi (4 : Int32), vi (-1 : Int32), .unset, .unset, .unset, .unset, .unset] [(.ref u)]))
  refine OGo.st (fun t kk => XS.bipush X5.here hx rfl (hb hby dC_13) kk) ?_
  show OGo p e below _ (T5.setTop (mkF m 15 #[vr u, vr la, vi (4 : Int32), vi (-1 : Int32), .unset, .unset, .unset, .unset, .unset] [(.int (16 : Int32)), (.ref u)]))
  obtain ⟨T6, h6, k6, X6, e6, E6, A6, st6⟩ := newP X5 hx hZ (hw _ (List.mem_of_getElem? (i := 4) rfl)) e5 (g := (mkF m 15 #[vr u, vr la, vi (4 : Int32), vi (-1 : Int32), .unset, .unset, .unset, .unset, .unset] [(.int (16 : Int32)), (.ref u)])) rfl (hb hby dC_15) rfl (by decide) (cap := 16) (by decide) (by decide) (by decide) (by decide)
  obtain ⟨b6, g6⟩ : ∃ z, z = h5.size := ⟨_, rfl⟩
  rw [← g6] at A6 st6
  have O6 : OA Z h6 b6 .int 16 (fun _ => 0) := OA.new A6 (by decide) rfl
  have gb6 : n0 ≤ b6 := Nat.le_trans Z5 (Nat.le_of_eq g6.symm)
  have Z6 : n0 ≤ h6.size := Nat.le_trans Z5 E6.1
  have c7 := (c4.wr W5)
  have lt_u_b6 : (u : Nat) < b6 := (Nat.lt_of_lt_of_le c7.lt (Nat.le_of_eq g6.symm))
  have ne_u_b6 : u ≠ b6 := Nat.ne_of_lt lt_u_b6
  have c8 := ((Ola.ext E2).other W5 (Ne.symm hul))
  have lt_la_b6 : (la : Nat) < b6 := (Nat.lt_of_lt_of_le c8.lt (Nat.le_of_eq g6.symm))
  have ne_la_b6 : la ≠ b6 := Nat.ne_of_lt lt_la_b6
  have c9 := (O2.other W5 (Ne.symm ne_u_b2))
  have lt_b2_b6 : (b2 : Nat) < b6 := (Nat.lt_of_lt_of_le c9.lt (Nat.le_of_eq g6.symm))
  have ne_b2_b6 : b2 ≠ b6 := Nat.ne_of_lt lt_b2_b6
  obtain ⟨lo6, X6, N6⟩ : ∃ L, Stand p l e ({ frames := 1, cells := 18, slots := 231, locals := 19 } : Room) s m #[(.ref u), (.ref la), (.int (4 : Int32)), (.int (-1 : Int32))] below meth c T6 L 2 32 ∧ Fr n0 L := ⟨_, X6, N5⟩
  refine OGo.st (fun t kk => st6 t kk) ?_
  show OGo p e below _ (T6.setTop (mkF m 17 #[vr u, vr la, vi (4 : Int32), vi (-1 : Int32), .unset, .unset, .unset, .unset, .unset] [(.ref b6), (.ref u)]))
  have c10 := (((F0_free.ext E2).other W5 (Or.inr (slot_ne (Or.inl (hw _ (List.mem_of_getElem? (i := 14) rfl))) (Or.inl (hw _ (List.mem_of_getElem? (i := 12) rfl))) (by decide) (t := (.array .int)) (t' := (.array .int)) (by decide) (by decide)))).ext E6)
  have c11 := (c7.ext E6)
  obtain ⟨T12, h12, X12, e12, W12, st12⟩ := putF X6 hx hZ hown (host := "") (Or.inl (hw _ (List.mem_of_getElem? (i := 13) rfl))) Via.refl e6 c10 c11 (Or.inl (hw _ (List.mem_of_getElem? (i := 14) rfl))) (hw _ (List.mem_of_getElem? (i := 2) rfl)) (ty := (.array .int)) (by decide) rfl rfl (g := (mkF m 17 #[vr u, vr la, vi (4 : Int32), vi (-1 : Int32), .unset, .unset, .unset, .unset, .unset] [(.ref b6), (.ref u)])) rfl rfl (hb hby dC_17)
  have Fw12 := c10.same W12
  have N12 := Fr.snoc X12 N6 gu
  have Z12 : n0 ≤ h12.size := Nat.le_trans Z6 (Keep.of_wr W12).1
  obtain ⟨lo12, X12, N12⟩ : ∃ L, Stand p l e ({ frames := 1, cells := 18, slots := 231, locals := 19 } : Room) s m #[(.ref u), (.ref la), (.int (4 : Int32)), (.int (-1 : Int32))] below meth c T12 L 2 32 ∧ Fr n0 L := ⟨_, X12, N12⟩
  refine OGo.st (fun t kk => st12 t kk) ?_
  show OGo p e below _ (T12.setTop (mkF m 20 #[vr u, vr la, vi (4 : Int32), vi (-1 : Int32), .unset, .unset, .unset, .unset, .unset] []))
  refine OGo.st (fun t kk => XS.aloadN X12.here hx rfl (hb hby dC_20) rfl rfl kk) ?_
  show OGo p e below _ (T12.setTop (mkF m 21 #[vr u, vr la, vi (4 : Int32), vi (-1 : Int32), .unset, .unset, .unset, .unset, .unset] [(.ref u)]))
  refine OGo.st (fun t kk => XS.bipush X12.here hx rfl (hb hby dC_21) kk) ?_
  show OGo p e below _ (T12.setTop (mkF m 23 #[vr u, vr la, vi (4 : Int32), vi (-1 : Int32), .unset, .unset, .unset, .unset, .unset] [(.int (16 : Int32)), (.ref u)]))
  obtain ⟨T13, h13, k13, X13, e13, E13, A13, st13⟩ := newP X12 hx hZ (hw _ (List.mem_of_getElem? (i := 4) rfl)) e12 (g := (mkF m 23 #[vr u, vr la, vi (4 : Int32), vi (-1 : Int32), .unset, .unset, .unset, .unset, .unset] [(.int (16 : Int32)), (.ref u)])) rfl (hb hby dC_23) rfl (by decide) (cap := 16) (by decide) (by decide) (by decide) (by decide)
  obtain ⟨b13, g13⟩ : ∃ z, z = h12.size := ⟨_, rfl⟩
  rw [← g13] at A13 st13
  have O13 : OA Z h13 b13 .int 16 (fun _ => 0) := OA.new A13 (by decide) rfl
  have gb13 : n0 ≤ b13 := Nat.le_trans Z12 (Nat.le_of_eq g13.symm)
  have Z13 : n0 ≤ h13.size := Nat.le_trans Z12 E13.1
  have c14 := (c11.wr W12)
  have lt_u_b13 : (u : Nat) < b13 := (Nat.lt_of_lt_of_le c14.lt (Nat.le_of_eq g13.symm))
  have ne_u_b13 : u ≠ b13 := Nat.ne_of_lt lt_u_b13
  have c15 := ((c8.ext E6).other W12 (Ne.symm hul))
  have lt_la_b13 : (la : Nat) < b13 := (Nat.lt_of_lt_of_le c15.lt (Nat.le_of_eq g13.symm))
  have ne_la_b13 : la ≠ b13 := Nat.ne_of_lt lt_la_b13
  have c16 := ((c9.ext E6).other W12 (Ne.symm ne_u_b2))
  have lt_b2_b13 : (b2 : Nat) < b13 := (Nat.lt_of_lt_of_le c16.lt (Nat.le_of_eq g13.symm))
  have ne_b2_b13 : b2 ≠ b13 := Nat.ne_of_lt lt_b2_b13
  have c17 := (O6.other W12 (Ne.symm ne_u_b6))
  have lt_b6_b13 : (b6 : Nat) < b13 := (Nat.lt_of_lt_of_le c17.lt (Nat.le_of_eq g13.symm))
  have ne_b6_b13 : b6 ≠ b13 := Nat.ne_of_lt lt_b6_b13
  obtain ⟨lo13, X13, N13⟩ : ∃ L, Stand p l e ({ frames := 1, cells := 18, slots := 231, locals := 19 } : Room) s m #[(.ref u), (.ref la), (.int (4 : Int32)), (.int (-1 : Int32))] below meth c T13 L 3 48 ∧ Fr n0 L := ⟨_, X13, N12⟩
  refine OGo.st (fun t kk => st13 t kk) ?_
  show OGo p e below _ (T13.setTop (mkF m 25 #[vr u, vr la, vi (4 : Int32), vi (-1 : Int32), .unset, .unset, .unset, .unset, .unset] [(.ref b13), (.ref u)]))
  have c18 := (((((F0_firstOfBlock.ext E2).other W5 (Or.inr (slot_ne (Or.inl (hw _ (List.mem_of_getElem? (i := 16) rfl))) (Or.inl (hw _ (List.mem_of_getElem? (i := 12) rfl))) (by decide) (t := (.array .int)) (t' := (.array .int)) (by decide) (by decide)))).ext E6).other W12 (Or.inr (slot_ne (Or.inl (hw _ (List.mem_of_getElem? (i := 16) rfl))) (Or.inl (hw _ (List.mem_of_getElem? (i := 14) rfl))) (by decide) (t := (.array .int)) (t' := (.array .int)) (by decide) (by decide)))).ext E13)
  have c19 := (c14.ext E13)
  obtain ⟨T20, h20, X20, e20, W20, st20⟩ := putF X13 hx hZ hown (host := "") (Or.inl (hw _ (List.mem_of_getElem? (i := 15) rfl))) Via.refl e13 c18 c19 (Or.inl (hw _ (List.mem_of_getElem? (i := 16) rfl))) (hw _ (List.mem_of_getElem? (i := 2) rfl)) (ty := (.array .int)) (by decide) rfl rfl (g := (mkF m 25 #[vr u, vr la, vi (4 : Int32), vi (-1 : Int32), .unset, .unset, .unset, .unset, .unset] [(.ref b13), (.ref u)])) rfl rfl (hb hby dC_25)
  have Fw20 := c18.same W20
  have N20 := Fr.snoc X20 N13 gu
  have Z20 : n0 ≤ h20.size := Nat.le_trans Z13 (Keep.of_wr W20).1
  obtain ⟨lo20, X20, N20⟩ : ∃ L, Stand p l e ({ frames := 1, cells := 18, slots := 231, locals := 19 } : Room) s m #[(.ref u), (.ref la), (.int (4 : Int32)), (.int (-1 : Int32))] below meth c T20 L 3 48 ∧ Fr n0 L := ⟨_, X20, N20⟩
  refine OGo.st (fun t kk => st20 t kk) ?_
  show OGo p e below _ (T20.setTop (mkF m 28 #[vr u, vr la, vi (4 : Int32), vi (-1 : Int32), .unset, .unset, .unset, .unset, .unset] []))
  refine OGo.st (fun t kk => XS.aloadN X20.here hx rfl (hb hby dC_28) rfl rfl kk) ?_
  show OGo p e below _ (T20.setTop (mkF m 29 #[vr u, vr la, vi (4 : Int32), vi (-1 : Int32), .unset, .unset, .unset, .unset, .unset] [(.ref u)]))
  refine OGo.st (fun t kk => XS.bipush X20.here hx rfl (hb hby dC_29) kk) ?_
  show OGo p e below _ (T20.setTop (mkF m 31 #[vr u, vr la, vi (4 : Int32), vi (-1 : Int32), .unset, .unset, .unset, .unset, .unset] [(.int (16 : Int32)), (.ref u)]))
  obtain ⟨T21, h21, k21, X21, e21, E21, A21, st21⟩ := newP X20 hx hZ (hw _ (List.mem_of_getElem? (i := 4) rfl)) e20 (g := (mkF m 31 #[vr u, vr la, vi (4 : Int32), vi (-1 : Int32), .unset, .unset, .unset, .unset, .unset] [(.int (16 : Int32)), (.ref u)])) rfl (hb hby dC_31) rfl (by decide) (cap := 16) (by decide) (by decide) (by decide) (by decide)
  obtain ⟨b21, g21⟩ : ∃ z, z = h20.size := ⟨_, rfl⟩
  rw [← g21] at A21 st21
  have O21 : OA Z h21 b21 .int 16 (fun _ => 0) := OA.new A21 (by decide) rfl
  have gb21 : n0 ≤ b21 := Nat.le_trans Z20 (Nat.le_of_eq g21.symm)
  have Z21 : n0 ≤ h21.size := Nat.le_trans Z20 E21.1
  have c22 := (c19.wr W20)
  have lt_u_b21 : (u : Nat) < b21 := (Nat.lt_of_lt_of_le c22.lt (Nat.le_of_eq g21.symm))
  have ne_u_b21 : u ≠ b21 := Nat.ne_of_lt lt_u_b21
  have c23 := ((c15.ext E13).other W20 (Ne.symm hul))
  have lt_la_b21 : (la : Nat) < b21 := (Nat.lt_of_lt_of_le c23.lt (Nat.le_of_eq g21.symm))
  have ne_la_b21 : la ≠ b21 := Nat.ne_of_lt lt_la_b21
  have c24 := ((c16.ext E13).other W20 (Ne.symm ne_u_b2))
  have lt_b2_b21 : (b2 : Nat) < b21 := (Nat.lt_of_lt_of_le c24.lt (Nat.le_of_eq g21.symm))
  have ne_b2_b21 : b2 ≠ b21 := Nat.ne_of_lt lt_b2_b21
  have c25 := ((c17.ext E13).other W20 (Ne.symm ne_u_b6))
  have lt_b6_b21 : (b6 : Nat) < b21 := (Nat.lt_of_lt_of_le c25.lt (Nat.le_of_eq g21.symm))
  have ne_b6_b21 : b6 ≠ b21 := Nat.ne_of_lt lt_b6_b21
  have c26 := (O13.other W20 (Ne.symm ne_u_b13))
  have lt_b13_b21 : (b13 : Nat) < b21 := (Nat.lt_of_lt_of_le c26.lt (Nat.le_of_eq g21.symm))
  have ne_b13_b21 : b13 ≠ b21 := Nat.ne_of_lt lt_b13_b21
  obtain ⟨lo21, X21, N21⟩ : ∃ L, Stand p l e ({ frames := 1, cells := 18, slots := 231, locals := 19 } : Room) s m #[(.ref u), (.ref la), (.int (4 : Int32)), (.int (-1 : Int32))] below meth c T21 L 4 64 ∧ Fr n0 L := ⟨_, X21, N20⟩
  refine OGo.st (fun t kk => st21 t kk) ?_
  show OGo p e below _ (T21.setTop (mkF m 33 #[vr u, vr la, vi (4 : Int32), vi (-1 : Int32), .unset, .unset, .unset, .unset, .unset] [(.ref b21), (.ref u)]))
  have c27 := (((((((F0_addedTo.ext E2).other W5 (Or.inr (slot_ne (Or.inl (hw _ (List.mem_of_getElem? (i := 18) rfl))) (Or.inl (hw _ (List.mem_of_getElem? (i := 12) rfl))) (by decide) (t := (.array .int)) (t' := (.array .int)) (by decide) (by decide)))).ext E6).other W12 (Or.inr (slot_ne (Or.inl (hw _ (List.mem_of_getElem? (i := 18) rfl))) (Or.inl (hw _ (List.mem_of_getElem? (i := 14) rfl))) (by decide) (t := (.array .int)) (t' := (.array .int)) (by decide) (by decide)))).ext E13).other W20 (Or.inr (slot_ne (Or.inl (hw _ (List.mem_of_getElem? (i := 18) rfl))) (Or.inl (hw _ (List.mem_of_getElem? (i := 16) rfl))) (by decide) (t := (.array .int)) (t' := (.array .int)) (by decide) (by decide)))).ext E21)
  have c28 := (c22.ext E21)
  obtain ⟨T29, h29, X29, e29, W29, st29⟩ := putF X21 hx hZ hown (host := "") (Or.inl (hw _ (List.mem_of_getElem? (i := 17) rfl))) Via.refl e21 c27 c28 (Or.inl (hw _ (List.mem_of_getElem? (i := 18) rfl))) (hw _ (List.mem_of_getElem? (i := 2) rfl)) (ty := (.array .int)) (by decide) rfl rfl (g := (mkF m 33 #[vr u, vr la, vi (4 : Int32), vi (-1 : Int32), .unset, .unset, .unset, .unset, .unset] [(.ref b21), (.ref u)])) rfl rfl (hb hby dC_33)
  have Fw29 := c27.same W29
  have N29 := Fr.snoc X29 N21 gu
  have Z29 : n0 ≤ h29.size := Nat.le_trans Z21 (Keep.of_wr W29).1
  obtain ⟨lo29, X29, N29⟩ : ∃ L, Stand p l e ({ frames := 1, cells := 18, slots := 231, locals := 19 } : Room) s m #[(.ref u), (.ref la), (.int (4 : Int32)), (.int (-1 : Int32))] below meth c T29 L 4 64 ∧ Fr n0 L := ⟨_, X29, N29⟩
  refine OGo.st (fun t kk => st29 t kk) ?_
  show OGo p e below _ (T29.setTop (mkF m 36 #[vr u, vr la, vi (4 : Int32), vi (-1 : Int32), .unset, .unset, .unset, .unset, .unset] []))
  refine OGo.st (fun t kk => XS.aloadN X29.here hx rfl (hb hby dC_36) rfl rfl kk) ?_
  show OGo p e below _ (T29.setTop (mkF m 37 #[vr u, vr la, vi (4 : Int32), vi (-1 : Int32), .unset, .unset, .unset, .unset, .unset] [(.ref u)]))
  refine OGo.st (fun t kk => XS.bipush X29.here hx rfl (hb hby dC_37) kk) ?_
  show OGo p e below _ (T29.setTop (mkF m 39 #[vr u, vr la, vi (4 : Int32), vi (-1 : Int32), .unset, .unset, .unset, .unset, .unset] [(.int (16 : Int32)), (.ref u)]))
  obtain ⟨T30, h30, k30, X30, e30, E30, A30, st30⟩ := newP X29 hx hZ (hw _ (List.mem_of_getElem? (i := 19) rfl)) e29 (g := (mkF m 39 #[vr u, vr la, vi (4 : Int32), vi (-1 : Int32), .unset, .unset, .unset, .unset, .unset] [(.int (16 : Int32)), (.ref u)])) rfl (hb hby dC_39) rfl (by decide) (cap := 16) (by decide) (by decide) (by decide) (by decide)
  obtain ⟨b30, g30⟩ : ∃ z, z = h29.size := ⟨_, rfl⟩
  rw [← g30] at A30 st30
  have O30 : OL Z h30 b30 16 (fun _ => 0) := OL.new A30 (by decide)
  have gb30 : n0 ≤ b30 := Nat.le_trans Z29 (Nat.le_of_eq g30.symm)
  have Z30 : n0 ≤ h30.size := Nat.le_trans Z29 E30.1
  have c31 := (c28.wr W29)
  have lt_u_b30 : (u : Nat) < b30 := (Nat.lt_of_lt_of_le c31.lt (Nat.le_of_eq g30.symm))
  have ne_u_b30 : u ≠ b30 := Nat.ne_of_lt lt_u_b30
  have c32 := ((c23.ext E21).other W29 (Ne.symm hul))
  have lt_la_b30 : (la : Nat) < b30 := (Nat.lt_of_lt_of_le c32.lt (Nat.le_of_eq g30.symm))
  have ne_la_b30 : la ≠ b30 := Nat.ne_of_lt lt_la_b30
  have c33 := ((c24.ext E21).other W29 (Ne.symm ne_u_b2))
  have lt_b2_b30 : (b2 : Nat) < b30 := (Nat.lt_of_lt_of_le c33.lt (Nat.le_of_eq g30.symm))
  have ne_b2_b30 : b2 ≠ b30 := Nat.ne_of_lt lt_b2_b30
  have c34 := ((c25.ext E21).other W29 (Ne.symm ne_u_b6))
  have lt_b6_b30 : (b6 : Nat) < b30 := (Nat.lt_of_lt_of_le c34.lt (Nat.le_of_eq g30.symm))
  have ne_b6_b30 : b6 ≠ b30 := Nat.ne_of_lt lt_b6_b30
  have c35 := ((c26.ext E21).other W29 (Ne.symm ne_u_b13))
  have lt_b13_b30 : (b13 : Nat) < b30 := (Nat.lt_of_lt_of_le c35.lt (Nat.le_of_eq g30.symm))
  have ne_b13_b30 : b13 ≠ b30 := Nat.ne_of_lt lt_b13_b30
  have c36 := (O21.other W29 (Ne.symm ne_u_b21))
  have lt_b21_b30 : (b21 : Nat) < b30 := (Nat.lt_of_lt_of_le c36.lt (Nat.le_of_eq g30.symm))
  have ne_b21_b30 : b21 ≠ b30 := Nat.ne_of_lt lt_b21_b30
  obtain ⟨lo30, X30, N30⟩ : ∃ L, Stand p l e ({ frames := 1, cells := 18, slots := 231, locals := 19 } : Room) s m #[(.ref u), (.ref la), (.int (4 : Int32)), (.int (-1 : Int32))] below meth c T30 L 5 80 ∧ Fr n0 L := ⟨_, X30, N29⟩
  refine OGo.st (fun t kk => st30 t kk) ?_
  show OGo p e below _ (T30.setTop (mkF m 41 #[vr u, vr la, vi (4 : Int32), vi (-1 : Int32), .unset, .unset, .unset, .unset, .unset] [(.ref b30), (.ref u)]))
  have c37 := (((((((((F0_addedStamp.ext E2).other W5 (Or.inr (slot_ne (Or.inl (hw _ (List.mem_of_getElem? (i := 21) rfl))) (Or.inl (hw _ (List.mem_of_getElem? (i := 12) rfl))) (by decide) (t := (.array .long)) (t' := (.array .int)) (by decide) (by decide)))).ext E6).other W12 (Or.inr (slot_ne (Or.inl (hw _ (List.mem_of_getElem? (i := 21) rfl))) (Or.inl (hw _ (List.mem_of_getElem? (i := 14) rfl))) (by decide) (t := (.array .long)) (t' := (.array .int)) (by decide) (by decide)))).ext E13).other W20 (Or.inr (slot_ne (Or.inl (hw _ (List.mem_of_getElem? (i := 21) rfl))) (Or.inl (hw _ (List.mem_of_getElem? (i := 16) rfl))) (by decide) (t := (.array .long)) (t' := (.array .int)) (by decide) (by decide)))).ext E21).other W29 (Or.inr (slot_ne (Or.inl (hw _ (List.mem_of_getElem? (i := 21) rfl))) (Or.inl (hw _ (List.mem_of_getElem? (i := 18) rfl))) (by decide) (t := (.array .long)) (t' := (.array .int)) (by decide) (by decide)))).ext E30)
  have c38 := (c31.ext E30)
  obtain ⟨T39, h39, X39, e39, W39, st39⟩ := putF X30 hx hZ hown (host := "") (Or.inl (hw _ (List.mem_of_getElem? (i := 20) rfl))) Via.refl e30 c37 c38 (Or.inl (hw _ (List.mem_of_getElem? (i := 21) rfl))) (hw _ (List.mem_of_getElem? (i := 2) rfl)) (ty := (.array .long)) (by decide) rfl rfl (g := (mkF m 41 #[vr u, vr la, vi (4 : Int32), vi (-1 : Int32), .unset, .unset, .unset, .unset, .unset] [(.ref b30), (.ref u)])) rfl rfl (hb hby dC_41)
  have Fw39 := c37.same W39
  have N39 := Fr.snoc X39 N30 gu
  have Z39 : n0 ≤ h39.size := Nat.le_trans Z30 (Keep.of_wr W39).1
  obtain ⟨lo39, X39, N39⟩ : ∃ L, Stand p l e ({ frames := 1, cells := 18, slots := 231, locals := 19 } : Room) s m #[(.ref u), (.ref la), (.int (4 : Int32)), (.int (-1 : Int32))] below meth c T39 L 5 80 ∧ Fr n0 L := ⟨_, X39, N39⟩
  refine OGo.st (fun t kk => st39 t kk) ?_
  show OGo p e below _ (T39.setTop (mkF m 44 #[vr u, vr la, vi (4 : Int32), vi (-1 : Int32), .unset, .unset, .unset, .unset, .unset] []))
  refine OGo.st (fun t kk => XS.aloadN X39.here hx rfl (hb hby dC_44) rfl rfl kk) ?_
  show OGo p e below _ (T39.setTop (mkF m 45 #[vr u, vr la, vi (4 : Int32), vi (-1 : Int32), .unset, .unset, .unset, .unset, .unset] [(.ref la)]))
  have c40 := ((c32.ext E30).other W39 (Ne.symm hul))
  refine OGo.st (fun t kk => OA.len X39 hx hZ e39 c40 (z := (1 : Int32)) (by decide) (g := (mkF m 45 #[vr u, vr la, vi (4 : Int32), vi (-1 : Int32), .unset, .unset, .unset, .unset, .unset] [(.ref la)])) rfl rfl (hb hby dC_45) t kk) ?_
  show OGo p e below _ (T39.setTop (mkF m 46 #[vr u, vr la, vi (4 : Int32), vi (-1 : Int32), .unset, .unset, .unset, .unset, .unset] [(.int (1 : Int32))]))
  refine OGo.st (fun t kk => XS.istore X39.here hx rfl (hb hby dC_46) rfl (l' := #[vr u, vr la, vi (4 : Int32), vi (-1 : Int32), vi (1 : Int32), .unset, .unset, .unset, .unset]) rfl kk) ?_
  show OGo p e below _ (T39.setTop (mkF m 48 #[vr u, vr la, vi (4 : Int32), vi (-1 : Int32), vi (1 : Int32), .unset, .unset, .unset, .unset] []))
  refine OGo.st (fun t kk => XS.aloadN X39.here hx rfl (hb hby dC_48) rfl rfl kk) ?_
  show OGo p e below _ (T39.setTop (mkF m 49 #[vr u, vr la, vi (4 : Int32), vi (-1 : Int32), vi (1 : Int32), .unset, .unset, .unset, .unset] [(.ref u)]))
  refine OGo.st (fun t kk => XS.iload X39.here hx rfl (hb hby dC_49) rfl kk) ?_
  show OGo p e below _ (T39.setTop (mkF m 51 #[vr u, vr la, vi (4 : Int32), vi (-1 : Int32), vi (1 : Int32), .unset, .unset, .unset, .unset] [(.int (1 : Int32)), (.ref u)]))
  obtain ⟨T41, h41, k41, X41, e41, E41, A41, st41⟩ := newP X39 hx hZ (hw _ (List.mem_of_getElem? (i := 4) rfl)) e39 (g := (mkF m 51 #[vr u, vr la, vi (4 : Int32), vi (-1 : Int32), vi (1 : Int32), .unset, .unset, .unset, .unset] [(.int (1 : Int32)), (.ref u)])) rfl (hb hby dC_51) rfl (by decide) (cap := 1) (by decide) (by decide) (by decide) (by decide)
  obtain ⟨b41, g41⟩ : ∃ z, z = h39.size := ⟨_, rfl⟩
  rw [← g41] at A41 st41
  have O41 : OA Z h41 b41 .int 1 (fun _ => 0) := OA.new A41 (by decide) rfl
  have gb41 : n0 ≤ b41 := Nat.le_trans Z39 (Nat.le_of_eq g41.symm)
  have Z41 : n0 ≤ h41.size := Nat.le_trans Z39 E41.1
  have c42 := (c38.wr W39)
  have lt_u_b41 : (u : Nat) < b41 := (Nat.lt_of_lt_of_le c42.lt (Nat.le_of_eq g41.symm))
  have ne_u_b41 : u ≠ b41 := Nat.ne_of_lt lt_u_b41
  have lt_la_b41 : (la : Nat) < b41 := (Nat.lt_of_lt_of_le c40.lt (Nat.le_of_eq g41.symm))
  have ne_la_b41 : la ≠ b41 := Nat.ne_of_lt lt_la_b41
  have c43 := ((c33.ext E30).other W39 (Ne.symm ne_u_b2))
  have lt_b2_b41 : (b2 : Nat) < b41 := (Nat.lt_of_lt_of_le c43.lt (Nat.le_of_eq g41.symm))
  have ne_b2_b41 : b2 ≠ b41 := Nat.ne_of_lt lt_b2_b41
  have c44 := ((c34.ext E30).other W39 (Ne.symm ne_u_b6))
  have lt_b6_b41 : (b6 : Nat) < b41 := (Nat.lt_of_lt_of_le c44.lt (Nat.le_of_eq g41.symm))
  have ne_b6_b41 : b6 ≠ b41 := Nat.ne_of_lt lt_b6_b41
  have c45 := ((c35.ext E30).other W39 (Ne.symm ne_u_b13))
  have lt_b13_b41 : (b13 : Nat) < b41 := (Nat.lt_of_lt_of_le c45.lt (Nat.le_of_eq g41.symm))
  have ne_b13_b41 : b13 ≠ b41 := Nat.ne_of_lt lt_b13_b41
  have c46 := ((c36.ext E30).other W39 (Ne.symm ne_u_b21))
  have lt_b21_b41 : (b21 : Nat) < b41 := (Nat.lt_of_lt_of_le c46.lt (Nat.le_of_eq g41.symm))
  have ne_b21_b41 : b21 ≠ b41 := Nat.ne_of_lt lt_b21_b41
  have c47 := (O30.other W39 (Ne.symm ne_u_b30))
  have lt_b30_b41 : (b30 : Nat) < b41 := (Nat.lt_of_lt_of_le c47.lt (Nat.le_of_eq g41.symm))
  have ne_b30_b41 : b30 ≠ b41 := Nat.ne_of_lt lt_b30_b41
  obtain ⟨lo41, X41, N41⟩ : ∃ L, Stand p l e ({ frames := 1, cells := 18, slots := 231, locals := 19 } : Room) s m #[(.ref u), (.ref la), (.int (4 : Int32)), (.int (-1 : Int32))] below meth c T41 L 6 81 ∧ Fr n0 L := ⟨_, X41, N39⟩
  refine OGo.st (fun t kk => st41 t kk) ?_
  show OGo p e below _ (T41.setTop (mkF m 53 #[vr u, vr la, vi (4 : Int32), vi (-1 : Int32), vi (1 : Int32), .unset, .unset, .unset, .unset] [(.ref b41), (.ref u)]))
  have c48 := (((((((((((F0_groupOf.ext E2).other W5 (Or.inr (slot_ne (Or.inr (hw _ (List.mem_of_getElem? (i := 23) rfl))) (Or.inl (hw _ (List.mem_of_getElem? (i := 12) rfl))) (by decide) (t := (.array .int)) (t' := (.array .int)) (by decide) (by decide)))).ext E6).other W12 (Or.inr (slot_ne (Or.inr (hw _ (List.mem_of_getElem? (i := 23) rfl))) (Or.inl (hw _ (List.mem_of_getElem? (i := 14) rfl))) (by decide) (t := (.array .int)) (t' := (.array .int)) (by decide) (by decide)))).ext E13).other W20 (Or.inr (slot_ne (Or.inr (hw _ (List.mem_of_getElem? (i := 23) rfl))) (Or.inl (hw _ (List.mem_of_getElem? (i := 16) rfl))) (by decide) (t := (.array .int)) (t' := (.array .int)) (by decide) (by decide)))).ext E21).other W29 (Or.inr (slot_ne (Or.inr (hw _ (List.mem_of_getElem? (i := 23) rfl))) (Or.inl (hw _ (List.mem_of_getElem? (i := 18) rfl))) (by decide) (t := (.array .int)) (t' := (.array .int)) (by decide) (by decide)))).ext E30).other W39 (Or.inr (slot_ne (Or.inr (hw _ (List.mem_of_getElem? (i := 23) rfl))) (Or.inl (hw _ (List.mem_of_getElem? (i := 21) rfl))) (by decide) (t := (.array .int)) (t' := (.array .long)) (by decide) (by decide)))).ext E41)
  have c49 := (c42.ext E41)
  obtain ⟨T50, h50, X50, e50, W50, st50⟩ := putF X41 hx hZ hown (host := "") (Or.inl (hw _ (List.mem_of_getElem? (i := 22) rfl))) Via.refl e41 c48 c49 (Or.inr ⟨(hw _ (List.mem_of_getElem? (i := 23) rfl)), rfl, hnm⟩) (hw _ (List.mem_of_getElem? (i := 2) rfl)) (ty := (.array .int)) (by decide) rfl rfl (g := (mkF m 53 #[vr u, vr la, vi (4 : Int32), vi (-1 : Int32), vi (1 : Int32), .unset, .unset, .unset, .unset] [(.ref b41), (.ref u)])) rfl rfl (hb hby dC_53)
  have Fw50 := c48.same W50
  have N50 := Fr.snoc X50 N41 gu
  have Z50 : n0 ≤ h50.size := Nat.le_trans Z41 (Keep.of_wr W50).1
  obtain ⟨lo50, X50, N50⟩ : ∃ L, Stand p l e ({ frames := 1, cells := 18, slots := 231, locals := 19 } : Room) s m #[(.ref u), (.ref la), (.int (4 : Int32)), (.int (-1 : Int32))] below meth c T50 L 6 81 ∧ Fr n0 L := ⟨_, X50, N50⟩
  refine OGo.st (fun t kk => st50 t kk) ?_
  show OGo p e below _ (T50.setTop (mkF m 56 #[vr u, vr la, vi (4 : Int32), vi (-1 : Int32), vi (1 : Int32), .unset, .unset, .unset, .unset] []))
  refine OGo.st (fun t kk => XS.aloadN X50.here hx rfl (hb hby dC_56) rfl rfl kk) ?_
  show OGo p e below _ (T50.setTop (mkF m 57 #[vr u, vr la, vi (4 : Int32), vi (-1 : Int32), vi (1 : Int32), .unset, .unset, .unset, .unset] [(.ref u)]))
  refine OGo.st (fun t kk => XS.iload X50.here hx rfl (hb hby dC_57) rfl kk) ?_
  show OGo p e below _ (T50.setTop (mkF m 59 #[vr u, vr la, vi (4 : Int32), vi (-1 : Int32), vi (1 : Int32), .unset, .unset, .unset, .unset] [(.int (1 : Int32)), (.ref u)]))
  obtain ⟨T51, h51, k51, X51, e51, E51, A51, st51⟩ := newP X50 hx hZ (hw _ (List.mem_of_getElem? (i := 4) rfl)) e50 (g := (mkF m 59 #[vr u, vr la, vi (4 : Int32), vi (-1 : Int32), vi (1 : Int32), .unset, .unset, .unset, .unset] [(.int (1 : Int32)), (.ref u)])) rfl (hb hby dC_59) rfl (by decide) (cap := 1) (by decide) (by decide) (by decide) (by decide)
  obtain ⟨b51, g51⟩ : ∃ z, z = h50.size := ⟨_, rfl⟩
  rw [← g51] at A51 st51
  have O51 : OA Z h51 b51 .int 1 (fun _ => 0) := OA.new A51 (by decide) rfl
  have gb51 : n0 ≤ b51 := Nat.le_trans Z50 (Nat.le_of_eq g51.symm)
  have Z51 : n0 ≤ h51.size := Nat.le_trans Z50 E51.1
  have c52 := (c49.wr W50)
  have lt_u_b51 : (u : Nat) < b51 := (Nat.lt_of_lt_of_le c52.lt (Nat.le_of_eq g51.symm))
  have ne_u_b51 : u ≠ b51 := Nat.ne_of_lt lt_u_b51
  have c53 := ((c40.ext E41).other W50 (Ne.symm hul))
  have lt_la_b51 : (la : Nat) < b51 := (Nat.lt_of_lt_of_le c53.lt (Nat.le_of_eq g51.symm))
  have ne_la_b51 : la ≠ b51 := Nat.ne_of_lt lt_la_b51
  have c54 := ((c43.ext E41).other W50 (Ne.symm ne_u_b2))
  have lt_b2_b51 : (b2 : Nat) < b51 := (Nat.lt_of_lt_of_le c54.lt (Nat.le_of_eq g51.symm))
  have ne_b2_b51 : b2 ≠ b51 := Nat.ne_of_lt lt_b2_b51
  have c55 := ((c44.ext E41).other W50 (Ne.symm ne_u_b6))
  have lt_b6_b51 : (b6 : Nat) < b51 := (Nat.lt_of_lt_of_le c55.lt (Nat.le_of_eq g51.symm))
  have ne_b6_b51 : b6 ≠ b51 := Nat.ne_of_lt lt_b6_b51
  have c56 := ((c45.ext E41).other W50 (Ne.symm ne_u_b13))
  have lt_b13_b51 : (b13 : Nat) < b51 := (Nat.lt_of_lt_of_le c56.lt (Nat.le_of_eq g51.symm))
  have ne_b13_b51 : b13 ≠ b51 := Nat.ne_of_lt lt_b13_b51
  have c57 := ((c46.ext E41).other W50 (Ne.symm ne_u_b21))
  have lt_b21_b51 : (b21 : Nat) < b51 := (Nat.lt_of_lt_of_le c57.lt (Nat.le_of_eq g51.symm))
  have ne_b21_b51 : b21 ≠ b51 := Nat.ne_of_lt lt_b21_b51
  have c58 := ((c47.ext E41).other W50 (Ne.symm ne_u_b30))
  have lt_b30_b51 : (b30 : Nat) < b51 := (Nat.lt_of_lt_of_le c58.lt (Nat.le_of_eq g51.symm))
  have ne_b30_b51 : b30 ≠ b51 := Nat.ne_of_lt lt_b30_b51
  have c59 := (O41.other W50 (Ne.symm ne_u_b41))
  have lt_b41_b51 : (b41 : Nat) < b51 := (Nat.lt_of_lt_of_le c59.lt (Nat.le_of_eq g51.symm))
  have ne_b41_b51 : b41 ≠ b51 := Nat.ne_of_lt lt_b41_b51
  obtain ⟨lo51, X51, N51⟩ : ∃ L, Stand p l e ({ frames := 1, cells := 18, slots := 231, locals := 19 } : Room) s m #[(.ref u), (.ref la), (.int (4 : Int32)), (.int (-1 : Int32))] below meth c T51 L 7 82 ∧ Fr n0 L := ⟨_, X51, N50⟩
  refine OGo.st (fun t kk => st51 t kk) ?_
  show OGo p e below _ (T51.setTop (mkF m 61 #[vr u, vr la, vi (4 : Int32), vi (-1 : Int32), vi (1 : Int32), .unset, .unset, .unset, .unset] [(.ref b51), (.ref u)]))
  have c60 := (((((((((((((F0_previousStep.ext E2).other W5 (Or.inr (slot_ne (Or.inr (hw _ (List.mem_of_getElem? (i := 25) rfl))) (Or.inl (hw _ (List.mem_of_getElem? (i := 12) rfl))) (by decide) (t := (.array .int)) (t' := (.array .int)) (by decide) (by decide)))).ext E6).other W12 (Or.inr (slot_ne (Or.inr (hw _ (List.mem_of_getElem? (i := 25) rfl))) (Or.inl (hw _ (List.mem_of_getElem? (i := 14) rfl))) (by decide) (t := (.array .int)) (t' := (.array .int)) (by decide) (by decide)))).ext E13).other W20 (Or.inr (slot_ne (Or.inr (hw _ (List.mem_of_getElem? (i := 25) rfl))) (Or.inl (hw _ (List.mem_of_getElem? (i := 16) rfl))) (by decide) (t := (.array .int)) (t' := (.array .int)) (by decide) (by decide)))).ext E21).other W29 (Or.inr (slot_ne (Or.inr (hw _ (List.mem_of_getElem? (i := 25) rfl))) (Or.inl (hw _ (List.mem_of_getElem? (i := 18) rfl))) (by decide) (t := (.array .int)) (t' := (.array .int)) (by decide) (by decide)))).ext E30).other W39 (Or.inr (slot_ne (Or.inr (hw _ (List.mem_of_getElem? (i := 25) rfl))) (Or.inl (hw _ (List.mem_of_getElem? (i := 21) rfl))) (by decide) (t := (.array .int)) (t' := (.array .long)) (by decide) (by decide)))).ext E41).other W50 (Or.inr (slot_ne (Or.inr (hw _ (List.mem_of_getElem? (i := 25) rfl))) (Or.inr (hw _ (List.mem_of_getElem? (i := 23) rfl))) (by decide) (t := (.array .int)) (t' := (.array .int)) (by decide) (by decide)))).ext E51)
  have c61 := (c52.ext E51)
  obtain ⟨T62, h62, X62, e62, W62, st62⟩ := putF X51 hx hZ hown (host := "") (Or.inl (hw _ (List.mem_of_getElem? (i := 24) rfl))) Via.refl e51 c60 c61 (Or.inr ⟨(hw _ (List.mem_of_getElem? (i := 25) rfl)), rfl, hnm⟩) (hw _ (List.mem_of_getElem? (i := 2) rfl)) (ty := (.array .int)) (by decide) rfl rfl (g := (mkF m 61 #[vr u, vr la, vi (4 : Int32), vi (-1 : Int32), vi (1 : Int32), .unset, .unset, .unset, .unset] [(.ref b51), (.ref u)])) rfl rfl (hb hby dC_61)
  have Fw62 := c60.same W62
  have N62 := Fr.snoc X62 N51 gu
  have Z62 : n0 ≤ h62.size := Nat.le_trans Z51 (Keep.of_wr W62).1
  obtain ⟨lo62, X62, N62⟩ : ∃ L, Stand p l e ({ frames := 1, cells := 18, slots := 231, locals := 19 } : Room) s m #[(.ref u), (.ref la), (.int (4 : Int32)), (.int (-1 : Int32))] below meth c T62 L 7 82 ∧ Fr n0 L := ⟨_, X62, N62⟩
  refine OGo.st (fun t kk => st62 t kk) ?_
  show OGo p e below _ (T62.setTop (mkF m 64 #[vr u, vr la, vi (4 : Int32), vi (-1 : Int32), vi (1 : Int32), .unset, .unset, .unset, .unset] []))
  refine OGo.st (fun t kk => XS.aloadN X62.here hx rfl (hb hby dC_64) rfl rfl kk) ?_
  show OGo p e below _ (T62.setTop (mkF m 65 #[vr u, vr la, vi (4 : Int32), vi (-1 : Int32), vi (1 : Int32), .unset, .unset, .unset, .unset] [(.ref u)]))
  refine OGo.st (fun t kk => XS.iload X62.here hx rfl (hb hby dC_65) rfl kk) ?_
  show OGo p e below _ (T62.setTop (mkF m 67 #[vr u, vr la, vi (4 : Int32), vi (-1 : Int32), vi (1 : Int32), .unset, .unset, .unset, .unset] [(.int (1 : Int32)), (.ref u)]))
  obtain ⟨T63, h63, k63, X63, e63, E63, A63, st63⟩ := newP X62 hx hZ (hw _ (List.mem_of_getElem? (i := 4) rfl)) e62 (g := (mkF m 67 #[vr u, vr la, vi (4 : Int32), vi (-1 : Int32), vi (1 : Int32), .unset, .unset, .unset, .unset] [(.int (1 : Int32)), (.ref u)])) rfl (hb hby dC_67) rfl (by decide) (cap := 1) (by decide) (by decide) (by decide) (by decide)
  obtain ⟨b63, g63⟩ : ∃ z, z = h62.size := ⟨_, rfl⟩
  rw [← g63] at A63 st63
  have O63 : OA Z h63 b63 .int 1 (fun _ => 0) := OA.new A63 (by decide) rfl
  have gb63 : n0 ≤ b63 := Nat.le_trans Z62 (Nat.le_of_eq g63.symm)
  have Z63 : n0 ≤ h63.size := Nat.le_trans Z62 E63.1
  have c64 := (c61.wr W62)
  have lt_u_b63 : (u : Nat) < b63 := (Nat.lt_of_lt_of_le c64.lt (Nat.le_of_eq g63.symm))
  have ne_u_b63 : u ≠ b63 := Nat.ne_of_lt lt_u_b63
  have c65 := ((c53.ext E51).other W62 (Ne.symm hul))
  have lt_la_b63 : (la : Nat) < b63 := (Nat.lt_of_lt_of_le c65.lt (Nat.le_of_eq g63.symm))
  have ne_la_b63 : la ≠ b63 := Nat.ne_of_lt lt_la_b63
  have c66 := ((c54.ext E51).other W62 (Ne.symm ne_u_b2))
  have lt_b2_b63 : (b2 : Nat) < b63 := (Nat.lt_of_lt_of_le c66.lt (Nat.le_of_eq g63.symm))
  have ne_b2_b63 : b2 ≠ b63 := Nat.ne_of_lt lt_b2_b63
  have c67 := ((c55.ext E51).other W62 (Ne.symm ne_u_b6))
  have lt_b6_b63 : (b6 : Nat) < b63 := (Nat.lt_of_lt_of_le c67.lt (Nat.le_of_eq g63.symm))
  have ne_b6_b63 : b6 ≠ b63 := Nat.ne_of_lt lt_b6_b63
  have c68 := ((c56.ext E51).other W62 (Ne.symm ne_u_b13))
  have lt_b13_b63 : (b13 : Nat) < b63 := (Nat.lt_of_lt_of_le c68.lt (Nat.le_of_eq g63.symm))
  have ne_b13_b63 : b13 ≠ b63 := Nat.ne_of_lt lt_b13_b63
  have c69 := ((c57.ext E51).other W62 (Ne.symm ne_u_b21))
  have lt_b21_b63 : (b21 : Nat) < b63 := (Nat.lt_of_lt_of_le c69.lt (Nat.le_of_eq g63.symm))
  have ne_b21_b63 : b21 ≠ b63 := Nat.ne_of_lt lt_b21_b63
  have c70 := ((c58.ext E51).other W62 (Ne.symm ne_u_b30))
  have lt_b30_b63 : (b30 : Nat) < b63 := (Nat.lt_of_lt_of_le c70.lt (Nat.le_of_eq g63.symm))
  have ne_b30_b63 : b30 ≠ b63 := Nat.ne_of_lt lt_b30_b63
  have c71 := ((c59.ext E51).other W62 (Ne.symm ne_u_b41))
  have lt_b41_b63 : (b41 : Nat) < b63 := (Nat.lt_of_lt_of_le c71.lt (Nat.le_of_eq g63.symm))
  have ne_b41_b63 : b41 ≠ b63 := Nat.ne_of_lt lt_b41_b63
  have c72 := (O51.other W62 (Ne.symm ne_u_b51))
  have lt_b51_b63 : (b51 : Nat) < b63 := (Nat.lt_of_lt_of_le c72.lt (Nat.le_of_eq g63.symm))
  have ne_b51_b63 : b51 ≠ b63 := Nat.ne_of_lt lt_b51_b63
  obtain ⟨lo63, X63, N63⟩ : ∃ L, Stand p l e ({ frames := 1, cells := 18, slots := 231, locals := 19 } : Room) s m #[(.ref u), (.ref la), (.int (4 : Int32)), (.int (-1 : Int32))] below meth c T63 L 8 83 ∧ Fr n0 L := ⟨_, X63, N62⟩
  refine OGo.st (fun t kk => st63 t kk) ?_
  show OGo p e below _ (T63.setTop (mkF m 69 #[vr u, vr la, vi (4 : Int32), vi (-1 : Int32), vi (1 : Int32), .unset, .unset, .unset, .unset] [(.ref b63), (.ref u)]))
  have c73 := (((((((((((((((F0_nextStep.ext E2).other W5 (Or.inr (slot_ne (Or.inr (hw _ (List.mem_of_getElem? (i := 27) rfl))) (Or.inl (hw _ (List.mem_of_getElem? (i := 12) rfl))) (by decide) (t := (.array .int)) (t' := (.array .int)) (by decide) (by decide)))).ext E6).other W12 (Or.inr (slot_ne (Or.inr (hw _ (List.mem_of_getElem? (i := 27) rfl))) (Or.inl (hw _ (List.mem_of_getElem? (i := 14) rfl))) (by decide) (t := (.array .int)) (t' := (.array .int)) (by decide) (by decide)))).ext E13).other W20 (Or.inr (slot_ne (Or.inr (hw _ (List.mem_of_getElem? (i := 27) rfl))) (Or.inl (hw _ (List.mem_of_getElem? (i := 16) rfl))) (by decide) (t := (.array .int)) (t' := (.array .int)) (by decide) (by decide)))).ext E21).other W29 (Or.inr (slot_ne (Or.inr (hw _ (List.mem_of_getElem? (i := 27) rfl))) (Or.inl (hw _ (List.mem_of_getElem? (i := 18) rfl))) (by decide) (t := (.array .int)) (t' := (.array .int)) (by decide) (by decide)))).ext E30).other W39 (Or.inr (slot_ne (Or.inr (hw _ (List.mem_of_getElem? (i := 27) rfl))) (Or.inl (hw _ (List.mem_of_getElem? (i := 21) rfl))) (by decide) (t := (.array .int)) (t' := (.array .long)) (by decide) (by decide)))).ext E41).other W50 (Or.inr (slot_ne (Or.inr (hw _ (List.mem_of_getElem? (i := 27) rfl))) (Or.inr (hw _ (List.mem_of_getElem? (i := 23) rfl))) (by decide) (t := (.array .int)) (t' := (.array .int)) (by decide) (by decide)))).ext E51).other W62 (Or.inr (slot_ne (Or.inr (hw _ (List.mem_of_getElem? (i := 27) rfl))) (Or.inr (hw _ (List.mem_of_getElem? (i := 25) rfl))) (by decide) (t := (.array .int)) (t' := (.array .int)) (by decide) (by decide)))).ext E63)
  have c74 := (c64.ext E63)
  obtain ⟨T75, h75, X75, e75, W75, st75⟩ := putF X63 hx hZ hown (host := "") (Or.inl (hw _ (List.mem_of_getElem? (i := 26) rfl))) Via.refl e63 c73 c74 (Or.inr ⟨(hw _ (List.mem_of_getElem? (i := 27) rfl)), rfl, hnm⟩) (hw _ (List.mem_of_getElem? (i := 2) rfl)) (ty := (.array .int)) (by decide) rfl rfl (g := (mkF m 69 #[vr u, vr la, vi (4 : Int32), vi (-1 : Int32), vi (1 : Int32), .unset, .unset, .unset, .unset] [(.ref b63), (.ref u)])) rfl rfl (hb hby dC_69)
  have Fw75 := c73.same W75
  have N75 := Fr.snoc X75 N63 gu
  have Z75 : n0 ≤ h75.size := Nat.le_trans Z63 (Keep.of_wr W75).1
  obtain ⟨lo75, X75, N75⟩ : ∃ L, Stand p l e ({ frames := 1, cells := 18, slots := 231, locals := 19 } : Room) s m #[(.ref u), (.ref la), (.int (4 : Int32)), (.int (-1 : Int32))] below meth c T75 L 8 83 ∧ Fr n0 L := ⟨_, X75, N75⟩
  refine OGo.st (fun t kk => st75 t kk) ?_
  show OGo p e below _ (T75.setTop (mkF m 72 #[vr u, vr la, vi (4 : Int32), vi (-1 : Int32), vi (1 : Int32), .unset, .unset, .unset, .unset] []))
  refine OGo.st (fun t kk => XS.iloadN X75.here hx rfl (hb hby dC_72) rfl kk) ?_
  show OGo p e below _ (T75.setTop (mkF m 73 #[vr u, vr la, vi (4 : Int32), vi (-1 : Int32), vi (1 : Int32), .unset, .unset, .unset, .unset] [(.int (4 : Int32))]))
  refine OGo.st (fun t kk => XS.bipush X75.here hx rfl (hb hby dC_73) kk) ?_
  show OGo p e below _ (T75.setTop (mkF m 75 #[vr u, vr la, vi (4 : Int32), vi (-1 : Int32), vi (1 : Int32), .unset, .unset, .unset, .unset] [(.int (16 : Int32)), (.int (4 : Int32))]))
  obtain ⟨_, _, ⟨T76, L76, k76, n76⟩, -, X76, ⟨Lc76, hQ76, l76, y76, z76⟩, st76⟩ := Jvm.LawKit.callS X75 hx (y := (⟨"java/lang/Math", "max", "(II)I"⟩ : MethodName)) hown (mvT hZ (hw _ (List.mem_of_getElem? (i := 28) rfl))) (mvT hZ (hw _ (List.mem_of_getElem? (i := 29) rfl))) (mvT hZ (hw _ (List.mem_of_getElem? (i := 30) rfl))) (mvT hZ (hw _ (List.mem_of_getElem? (i := 31) rfl))) (by decide) (backOf (W := 0) (rmM l Z a0 hw [] (4 : Int32) (16 : Int32) h75 n0 Z75) hZ (hw _ (List.mem_of_getElem? (i := 31) rfl)) (hw _ (List.mem_of_getElem? (i := 30) rfl)) (by decide) (by decide)) (g := (mkF m 75 #[vr u, vr la, vi (4 : Int32), vi (-1 : Int32), vi (1 : Int32), .unset, .unset, .unset, .unset] [(.int (16 : Int32)), (.int (4 : Int32))])) rfl (by rw [hml]; rfl) (argsL := [(.int (4 : Int32)), (.int (16 : Int32))]) (rest := []) (lenOf pdC_0 rfl) rfl (by show 2 * 0 + _ ≤ _; exact Nat.le_of_eq rfl) (hb hby dC_75) (fun _ _ => ⟨rfl, e75, (by decide : 8 + 0 ≤ _), (by decide : 83 + 0 ≤ _)⟩)
  dsimp only [Pt.U, Pt.locs, Pt.cells, Pt.slots] at X76 l76 y76 z76 st76 hQ76
  subst l76 y76 z76
  obtain ⟨rfl, Nq76, e76⟩ := hQ76
  have N76 := Fr.app N75 Nq76
  obtain ⟨lo76, X76, N76⟩ : ∃ L, Stand p l e ({ frames := 1, cells := 18, slots := 231, locals := 19 } : Room) s m #[(.ref u), (.ref la), (.int (4 : Int32)), (.int (-1 : Int32))] below meth c T76 L 8 83 ∧ Fr n0 L := ⟨_, X76, N76⟩
  refine OGo.st (fun t kk => st76 t kk) ?_
  show OGo p e below _ (T76.setTop (mkF m 78 #[vr u, vr la, vi (4 : Int32), vi (-1 : Int32), vi (1 : Int32), .unset, .unset, .unset, .unset] [(.int (fM (4 : Int32) (16 : Int32)))]))
  rw [show fM (4 : Int32) (16 : Int32) = (16 : Int32) from by decide]
  show OGo p e below _ (T76.setTop (mkF m 78 #[vr u, vr la, vi (4 : Int32), vi (-1 : Int32), vi (1 : Int32), .unset, .unset, .unset, .unset] [(.int (16 : Int32))]))
  refine OGo.st (fun t kk => XS.istore X76.here hx rfl (hb hby dC_78) rfl (l' := #[vr u, vr la, vi (4 : Int32), vi (-1 : Int32), vi (1 : Int32), vi (16 : Int32), .unset, .unset, .unset]) rfl kk) ?_
  show OGo p e below _ (T76.setTop (mkF m 80 #[vr u, vr la, vi (4 : Int32), vi (-1 : Int32), vi (1 : Int32), vi (16 : Int32), .unset, .unset, .unset] []))
  refine OGo.st (fun t kk => XS.aloadN X76.here hx rfl (hb hby dC_80) rfl rfl kk) ?_
  show OGo p e below _ (T76.setTop (mkF m 81 #[vr u, vr la, vi (4 : Int32), vi (-1 : Int32), vi (1 : Int32), vi (16 : Int32), .unset, .unset, .unset] [(.ref u)]))
  refine OGo.st (fun t kk => XS.iload X76.here hx rfl (hb hby dC_81) rfl kk) ?_
  show OGo p e below _ (T76.setTop (mkF m 83 #[vr u, vr la, vi (4 : Int32), vi (-1 : Int32), vi (1 : Int32), vi (16 : Int32), .unset, .unset, .unset] [(.int (16 : Int32)), (.ref u)]))
  obtain ⟨T77, h77, k77, X77, e77, E77, A77, st77⟩ := newP X76 hx hZ (hw _ (List.mem_of_getElem? (i := 4) rfl)) e76 (g := (mkF m 83 #[vr u, vr la, vi (4 : Int32), vi (-1 : Int32), vi (1 : Int32), vi (16 : Int32), .unset, .unset, .unset] [(.int (16 : Int32)), (.ref u)])) rfl (hb hby dC_83) rfl (by decide) (cap := 16) (by decide) (by decide) (by decide) (by decide)
  obtain ⟨b77, g77⟩ : ∃ z, z = h75.size := ⟨_, rfl⟩
  rw [← g77] at A77 st77
  have O77 : OA Z h77 b77 .int 16 (fun _ => 0) := OA.new A77 (by decide) rfl
  have gb77 : n0 ≤ b77 := Nat.le_trans Z75 (Nat.le_of_eq g77.symm)
  have Z77 : n0 ≤ h77.size := Nat.le_trans Z75 E77.1
  have c78 := (c74.wr W75)
  have lt_u_b77 : (u : Nat) < b77 := (Nat.lt_of_lt_of_le c78.lt (Nat.le_of_eq g77.symm))
  have ne_u_b77 : u ≠ b77 := Nat.ne_of_lt lt_u_b77
  have c79 := ((c65.ext E63).other W75 (Ne.symm hul))
  have lt_la_b77 : (la : Nat) < b77 := (Nat.lt_of_lt_of_le c79.lt (Nat.le_of_eq g77.symm))
  have ne_la_b77 : la ≠ b77 := Nat.ne_of_lt lt_la_b77
  have c80 := ((c66.ext E63).other W75 (Ne.symm ne_u_b2))
  have lt_b2_b77 : (b2 : Nat) < b77 := (Nat.lt_of_lt_of_le c80.lt (Nat.le_of_eq g77.symm))
  have ne_b2_b77 : b2 ≠ b77 := Nat.ne_of_lt lt_b2_b77
  have c81 := ((c67.ext E63).other W75 (Ne.symm ne_u_b6))
  have lt_b6_b77 : (b6 : Nat) < b77 := (Nat.lt_of_lt_of_le c81.lt (Nat.le_of_eq g77.symm))
  have ne_b6_b77 : b6 ≠ b77 := Nat.ne_of_lt lt_b6_b77
  have c82 := ((c68.ext E63).other W75 (Ne.symm ne_u_b13))
  have lt_b13_b77 : (b13 : Nat) < b77 := (Nat.lt_of_lt_of_le c82.lt (Nat.le_of_eq g77.symm))
  have ne_b13_b77 : b13 ≠ b77 := Nat.ne_of_lt lt_b13_b77
  have c83 := ((c69.ext E63).other W75 (Ne.symm ne_u_b21))
  have lt_b21_b77 : (b21 : Nat) < b77 := (Nat.lt_of_lt_of_le c83.lt (Nat.le_of_eq g77.symm))
  have ne_b21_b77 : b21 ≠ b77 := Nat.ne_of_lt lt_b21_b77
  have c84 := ((c70.ext E63).other W75 (Ne.symm ne_u_b30))
  have lt_b30_b77 : (b30 : Nat) < b77 := (Nat.lt_of_lt_of_le c84.lt (Nat.le_of_eq g77.symm))
  have ne_b30_b77 : b30 ≠ b77 := Nat.ne_of_lt lt_b30_b77
  have c85 := ((c71.ext E63).other W75 (Ne.symm ne_u_b41))
  have lt_b41_b77 : (b41 : Nat) < b77 := (Nat.lt_of_lt_of_le c85.lt (Nat.le_of_eq g77.symm))
  have ne_b41_b77 : b41 ≠ b77 := Nat.ne_of_lt lt_b41_b77
  have c86 := ((c72.ext E63).other W75 (Ne.symm ne_u_b51))
  have lt_b51_b77 : (b51 : Nat) < b77 := (Nat.lt_of_lt_of_le c86.lt (Nat.le_of_eq g77.symm))
  have ne_b51_b77 : b51 ≠ b77 := Nat.ne_of_lt lt_b51_b77
  have c87 := (O63.other W75 (Ne.symm ne_u_b63))
  have lt_b63_b77 : (b63 : Nat) < b77 := (Nat.lt_of_lt_of_le c87.lt (Nat.le_of_eq g77.symm))
  have ne_b63_b77 : b63 ≠ b77 := Nat.ne_of_lt lt_b63_b77
  obtain ⟨lo77, X77, N77⟩ : ∃ L, Stand p l e ({ frames := 1, cells := 18, slots := 231, locals := 19 } : Room) s m #[(.ref u), (.ref la), (.int (4 : Int32)), (.int (-1 : Int32))] below meth c T77 L 9 99 ∧ Fr n0 L := ⟨_, X77, N76⟩
  refine OGo.st (fun t kk => st77 t kk) ?_
  show OGo p e below _ (T77.setTop (mkF m 85 #[vr u, vr la, vi (4 : Int32), vi (-1 : Int32), vi (1 : Int32), vi (16 : Int32), .unset, .unset, .unset] [(.ref b77), (.ref u)]))
  have c88 := (((((((((((((((((F0_firstStep.ext E2).other W5 (Or.inr (slot_ne (Or.inl (hw _ (List.mem_of_getElem? (i := 33) rfl))) (Or.inl (hw _ (List.mem_of_getElem? (i := 12) rfl))) (by decide) (t := (.array .int)) (t' := (.array .int)) (by decide) (by decide)))).ext E6).other W12 (Or.inr (slot_ne (Or.inl (hw _ (List.mem_of_getElem? (i := 33) rfl))) (Or.inl (hw _ (List.mem_of_getElem? (i := 14) rfl))) (by decide) (t := (.array .int)) (t' := (.array .int)) (by decide) (by decide)))).ext E13).other W20 (Or.inr (slot_ne (Or.inl (hw _ (List.mem_of_getElem? (i := 33) rfl))) (Or.inl (hw _ (List.mem_of_getElem? (i := 16) rfl))) (by decide) (t := (.array .int)) (t' := (.array .int)) (by decide) (by decide)))).ext E21).other W29 (Or.inr (slot_ne (Or.inl (hw _ (List.mem_of_getElem? (i := 33) rfl))) (Or.inl (hw _ (List.mem_of_getElem? (i := 18) rfl))) (by decide) (t := (.array .int)) (t' := (.array .int)) (by decide) (by decide)))).ext E30).other W39 (Or.inr (slot_ne (Or.inl (hw _ (List.mem_of_getElem? (i := 33) rfl))) (Or.inl (hw _ (List.mem_of_getElem? (i := 21) rfl))) (by decide) (t := (.array .int)) (t' := (.array .long)) (by decide) (by decide)))).ext E41).other W50 (Or.inr (slot_ne (Or.inl (hw _ (List.mem_of_getElem? (i := 33) rfl))) (Or.inr (hw _ (List.mem_of_getElem? (i := 23) rfl))) (by decide) (t := (.array .int)) (t' := (.array .int)) (by decide) (by decide)))).ext E51).other W62 (Or.inr (slot_ne (Or.inl (hw _ (List.mem_of_getElem? (i := 33) rfl))) (Or.inr (hw _ (List.mem_of_getElem? (i := 25) rfl))) (by decide) (t := (.array .int)) (t' := (.array .int)) (by decide) (by decide)))).ext E63).other W75 (Or.inr (slot_ne (Or.inl (hw _ (List.mem_of_getElem? (i := 33) rfl))) (Or.inr (hw _ (List.mem_of_getElem? (i := 27) rfl))) (by decide) (t := (.array .int)) (t' := (.array .int)) (by decide) (by decide)))).ext E77)
  have c89 := (c78.ext E77)
  obtain ⟨T90, h90, X90, e90, W90, st90⟩ := putF X77 hx hZ hown (host := "") (Or.inl (hw _ (List.mem_of_getElem? (i := 32) rfl))) Via.refl e77 c88 c89 (Or.inl (hw _ (List.mem_of_getElem? (i := 33) rfl))) (hw _ (List.mem_of_getElem? (i := 2) rfl)) (ty := (.array .int)) (by decide) rfl rfl (g := (mkF m 85 #[vr u, vr la, vi (4 : Int32), vi (-1 : Int32), vi (1 : Int32), vi (16 : Int32), .unset, .unset, .unset] [(.ref b77), (.ref u)])) rfl rfl (hb hby dC_85)
  have Fw90 := c88.same W90
  have N90 := Fr.snoc X90 N77 gu
  have Z90 : n0 ≤ h90.size := Nat.le_trans Z77 (Keep.of_wr W90).1
  obtain ⟨lo90, X90, N90⟩ : ∃ L, Stand p l e ({ frames := 1, cells := 18, slots := 231, locals := 19 } : Room) s m #[(.ref u), (.ref la), (.int (4 : Int32)), (.int (-1 : Int32))] below meth c T90 L 9 99 ∧ Fr n0 L := ⟨_, X90, N90⟩
  refine OGo.st (fun t kk => st90 t kk) ?_
  show OGo p e below _ (T90.setTop (mkF m 88 #[vr u, vr la, vi (4 : Int32), vi (-1 : Int32), vi (1 : Int32), vi (16 : Int32), .unset, .unset, .unset] []))
  refine OGo.st (fun t kk => XS.aloadN X90.here hx rfl (hb hby dC_88) rfl rfl kk) ?_
  show OGo p e below _ (T90.setTop (mkF m 89 #[vr u, vr la, vi (4 : Int32), vi (-1 : Int32), vi (1 : Int32), vi (16 : Int32), .unset, .unset, .unset] [(.ref u)]))
  refine OGo.st (fun t kk => XS.iload X90.here hx rfl (hb hby dC_89) rfl kk) ?_
  show OGo p e below _ (T90.setTop (mkF m 91 #[vr u, vr la, vi (4 : Int32), vi (-1 : Int32), vi (1 : Int32), vi (16 : Int32), .unset, .unset, .unset] [(.int (16 : Int32)), (.ref u)]))
  obtain ⟨T91, h91, k91, X91, e91, E91, A91, st91⟩ := newP X90 hx hZ (hw _ (List.mem_of_getElem? (i := 4) rfl)) e90 (g := (mkF m 91 #[vr u, vr la, vi (4 : Int32), vi (-1 : Int32), vi (1 : Int32), vi (16 : Int32), .unset, .unset, .unset] [(.int (16 : Int32)), (.ref u)])) rfl (hb hby dC_91) rfl (by decide) (cap := 16) (by decide) (by decide) (by decide) (by decide)
  obtain ⟨b91, g91⟩ : ∃ z, z = h90.size := ⟨_, rfl⟩
  rw [← g91] at A91 st91
  have O91 : OA Z h91 b91 .int 16 (fun _ => 0) := OA.new A91 (by decide) rfl
  have gb91 : n0 ≤ b91 := Nat.le_trans Z90 (Nat.le_of_eq g91.symm)
  have Z91 : n0 ≤ h91.size := Nat.le_trans Z90 E91.1
  have c92 := (c89.wr W90)
  have lt_u_b91 : (u : Nat) < b91 := (Nat.lt_of_lt_of_le c92.lt (Nat.le_of_eq g91.symm))
  have ne_u_b91 : u ≠ b91 := Nat.ne_of_lt lt_u_b91
  have c93 := ((c79.ext E77).other W90 (Ne.symm hul))
  have lt_la_b91 : (la : Nat) < b91 := (Nat.lt_of_lt_of_le c93.lt (Nat.le_of_eq g91.symm))
  have ne_la_b91 : la ≠ b91 := Nat.ne_of_lt lt_la_b91
  have c94 := ((c80.ext E77).other W90 (Ne.symm ne_u_b2))
  have lt_b2_b91 : (b2 : Nat) < b91 := (Nat.lt_of_lt_of_le c94.lt (Nat.le_of_eq g91.symm))
  have ne_b2_b91 : b2 ≠ b91 := Nat.ne_of_lt lt_b2_b91
  have c95 := ((c81.ext E77).other W90 (Ne.symm ne_u_b6))
  have lt_b6_b91 : (b6 : Nat) < b91 := (Nat.lt_of_lt_of_le c95.lt (Nat.le_of_eq g91.symm))
  have ne_b6_b91 : b6 ≠ b91 := Nat.ne_of_lt lt_b6_b91
  have c96 := ((c82.ext E77).other W90 (Ne.symm ne_u_b13))
  have lt_b13_b91 : (b13 : Nat) < b91 := (Nat.lt_of_lt_of_le c96.lt (Nat.le_of_eq g91.symm))
  have ne_b13_b91 : b13 ≠ b91 := Nat.ne_of_lt lt_b13_b91
  have c97 := ((c83.ext E77).other W90 (Ne.symm ne_u_b21))
  have lt_b21_b91 : (b21 : Nat) < b91 := (Nat.lt_of_lt_of_le c97.lt (Nat.le_of_eq g91.symm))
  have ne_b21_b91 : b21 ≠ b91 := Nat.ne_of_lt lt_b21_b91
  have c98 := ((c84.ext E77).other W90 (Ne.symm ne_u_b30))
  have lt_b30_b91 : (b30 : Nat) < b91 := (Nat.lt_of_lt_of_le c98.lt (Nat.le_of_eq g91.symm))
  have ne_b30_b91 : b30 ≠ b91 := Nat.ne_of_lt lt_b30_b91
  have c99 := ((c85.ext E77).other W90 (Ne.symm ne_u_b41))
  have lt_b41_b91 : (b41 : Nat) < b91 := (Nat.lt_of_lt_of_le c99.lt (Nat.le_of_eq g91.symm))
  have ne_b41_b91 : b41 ≠ b91 := Nat.ne_of_lt lt_b41_b91
  have c100 := ((c86.ext E77).other W90 (Ne.symm ne_u_b51))
  have lt_b51_b91 : (b51 : Nat) < b91 := (Nat.lt_of_lt_of_le c100.lt (Nat.le_of_eq g91.symm))
  have ne_b51_b91 : b51 ≠ b91 := Nat.ne_of_lt lt_b51_b91
  have c101 := ((c87.ext E77).other W90 (Ne.symm ne_u_b63))
  have lt_b63_b91 : (b63 : Nat) < b91 := (Nat.lt_of_lt_of_le c101.lt (Nat.le_of_eq g91.symm))
  have ne_b63_b91 : b63 ≠ b91 := Nat.ne_of_lt lt_b63_b91
  have c102 := (O77.other W90 (Ne.symm ne_u_b77))
  have lt_b77_b91 : (b77 : Nat) < b91 := (Nat.lt_of_lt_of_le c102.lt (Nat.le_of_eq g91.symm))
  have ne_b77_b91 : b77 ≠ b91 := Nat.ne_of_lt lt_b77_b91
  obtain ⟨lo91, X91, N91⟩ : ∃ L, Stand p l e ({ frames := 1, cells := 18, slots := 231, locals := 19 } : Room) s m #[(.ref u), (.ref la), (.int (4 : Int32)), (.int (-1 : Int32))] below meth c T91 L 10 115 ∧ Fr n0 L := ⟨_, X91, N90⟩
  refine OGo.st (fun t kk => st91 t kk) ?_
  show OGo p e below _ (T91.setTop (mkF m 93 #[vr u, vr la, vi (4 : Int32), vi (-1 : Int32), vi (1 : Int32), vi (16 : Int32), .unset, .unset, .unset] [(.ref b91), (.ref u)]))
  have c103 := (((((((((((((((((((F0_label.ext E2).other W5 (Or.inr (slot_ne (Or.inl (hw _ (List.mem_of_getElem? (i := 35) rfl))) (Or.inl (hw _ (List.mem_of_getElem? (i := 12) rfl))) (by decide) (t := (.array .int)) (t' := (.array .int)) (by decide) (by decide)))).ext E6).other W12 (Or.inr (slot_ne (Or.inl (hw _ (List.mem_of_getElem? (i := 35) rfl))) (Or.inl (hw _ (List.mem_of_getElem? (i := 14) rfl))) (by decide) (t := (.array .int)) (t' := (.array .int)) (by decide) (by decide)))).ext E13).other W20 (Or.inr (slot_ne (Or.inl (hw _ (List.mem_of_getElem? (i := 35) rfl))) (Or.inl (hw _ (List.mem_of_getElem? (i := 16) rfl))) (by decide) (t := (.array .int)) (t' := (.array .int)) (by decide) (by decide)))).ext E21).other W29 (Or.inr (slot_ne (Or.inl (hw _ (List.mem_of_getElem? (i := 35) rfl))) (Or.inl (hw _ (List.mem_of_getElem? (i := 18) rfl))) (by decide) (t := (.array .int)) (t' := (.array .int)) (by decide) (by decide)))).ext E30).other W39 (Or.inr (slot_ne (Or.inl (hw _ (List.mem_of_getElem? (i := 35) rfl))) (Or.inl (hw _ (List.mem_of_getElem? (i := 21) rfl))) (by decide) (t := (.array .int)) (t' := (.array .long)) (by decide) (by decide)))).ext E41).other W50 (Or.inr (slot_ne (Or.inl (hw _ (List.mem_of_getElem? (i := 35) rfl))) (Or.inr (hw _ (List.mem_of_getElem? (i := 23) rfl))) (by decide) (t := (.array .int)) (t' := (.array .int)) (by decide) (by decide)))).ext E51).other W62 (Or.inr (slot_ne (Or.inl (hw _ (List.mem_of_getElem? (i := 35) rfl))) (Or.inr (hw _ (List.mem_of_getElem? (i := 25) rfl))) (by decide) (t := (.array .int)) (t' := (.array .int)) (by decide) (by decide)))).ext E63).other W75 (Or.inr (slot_ne (Or.inl (hw _ (List.mem_of_getElem? (i := 35) rfl))) (Or.inr (hw _ (List.mem_of_getElem? (i := 27) rfl))) (by decide) (t := (.array .int)) (t' := (.array .int)) (by decide) (by decide)))).ext E77).other W90 (Or.inr (slot_ne (Or.inl (hw _ (List.mem_of_getElem? (i := 35) rfl))) (Or.inl (hw _ (List.mem_of_getElem? (i := 33) rfl))) (by decide) (t := (.array .int)) (t' := (.array .int)) (by decide) (by decide)))).ext E91)
  have c104 := (c92.ext E91)
  obtain ⟨T105, h105, X105, e105, W105, st105⟩ := putF X91 hx hZ hown (host := "") (Or.inl (hw _ (List.mem_of_getElem? (i := 34) rfl))) Via.refl e91 c103 c104 (Or.inl (hw _ (List.mem_of_getElem? (i := 35) rfl))) (hw _ (List.mem_of_getElem? (i := 2) rfl)) (ty := (.array .int)) (by decide) rfl rfl (g := (mkF m 93 #[vr u, vr la, vi (4 : Int32), vi (-1 : Int32), vi (1 : Int32), vi (16 : Int32), .unset, .unset, .unset] [(.ref b91), (.ref u)])) rfl rfl (hb hby dC_93)
  have Fw105 := c103.same W105
  have N105 := Fr.snoc X105 N91 gu
  have Z105 : n0 ≤ h105.size := Nat.le_trans Z91 (Keep.of_wr W105).1
  obtain ⟨lo105, X105, N105⟩ : ∃ L, Stand p l e ({ frames := 1, cells := 18, slots := 231, locals := 19 } : Room) s m #[(.ref u), (.ref la), (.int (4 : Int32)), (.int (-1 : Int32))] below meth c T105 L 10 115 ∧ Fr n0 L := ⟨_, X105, N105⟩
  refine OGo.st (fun t kk => st105 t kk) ?_
  show OGo p e below _ (T105.setTop (mkF m 96 #[vr u, vr la, vi (4 : Int32), vi (-1 : Int32), vi (1 : Int32), vi (16 : Int32), .unset, .unset, .unset] []))
  refine OGo.st (fun t kk => XS.aloadN X105.here hx rfl (hb hby dC_96) rfl rfl kk) ?_
  show OGo p e below _ (T105.setTop (mkF m 97 #[vr u, vr la, vi (4 : Int32), vi (-1 : Int32), vi (1 : Int32), vi (16 : Int32), .unset, .unset, .unset] [(.ref u)]))
  refine OGo.st (fun t kk => XS.iload X105.here hx rfl (hb hby dC_97) rfl kk) ?_
  show OGo p e below _ (T105.setTop (mkF m 99 #[vr u, vr la, vi (4 : Int32), vi (-1 : Int32), vi (1 : Int32), vi (16 : Int32), .unset, .unset, .unset] [(.int (16 : Int32)), (.ref u)]))
  obtain ⟨T106, h106, k106, X106, e106, E106, A106, st106⟩ := newP X105 hx hZ (hw _ (List.mem_of_getElem? (i := 4) rfl)) e105 (g := (mkF m 99 #[vr u, vr la, vi (4 : Int32), vi (-1 : Int32), vi (1 : Int32), vi (16 : Int32), .unset, .unset, .unset] [(.int (16 : Int32)), (.ref u)])) rfl (hb hby dC_99) rfl (by decide) (cap := 16) (by decide) (by decide) (by decide) (by decide)
  obtain ⟨b106, g106⟩ : ∃ z, z = h105.size := ⟨_, rfl⟩
  rw [← g106] at A106 st106
  have O106 : OA Z h106 b106 .int 16 (fun _ => 0) := OA.new A106 (by decide) rfl
  have gb106 : n0 ≤ b106 := Nat.le_trans Z105 (Nat.le_of_eq g106.symm)
  have Z106 : n0 ≤ h106.size := Nat.le_trans Z105 E106.1
  have c107 := (c104.wr W105)
  have lt_u_b106 : (u : Nat) < b106 := (Nat.lt_of_lt_of_le c107.lt (Nat.le_of_eq g106.symm))
  have ne_u_b106 : u ≠ b106 := Nat.ne_of_lt lt_u_b106
  have c108 := ((c93.ext E91).other W105 (Ne.symm hul))
  have lt_la_b106 : (la : Nat) < b106 := (Nat.lt_of_lt_of_le c108.lt (Nat.le_of_eq g106.symm))
  have ne_la_b106 : la ≠ b106 := Nat.ne_of_lt lt_la_b106
  have c109 := ((c94.ext E91).other W105 (Ne.symm ne_u_b2))
  have lt_b2_b106 : (b2 : Nat) < b106 := (Nat.lt_of_lt_of_le c109.lt (Nat.le_of_eq g106.symm))
  have ne_b2_b106 : b2 ≠ b106 := Nat.ne_of_lt lt_b2_b106
  have c110 := ((c95.ext E91).other W105 (Ne.symm ne_u_b6))
  have lt_b6_b106 : (b6 : Nat) < b106 := (Nat.lt_of_lt_of_le c110.lt (Nat.le_of_eq g106.symm))
  have ne_b6_b106 : b6 ≠ b106 := Nat.ne_of_lt lt_b6_b106
  have c111 := ((c96.ext E91).other W105 (Ne.symm ne_u_b13))
  have lt_b13_b106 : (b13 : Nat) < b106 := (Nat.lt_of_lt_of_le c111.lt (Nat.le_of_eq g106.symm))
  have ne_b13_b106 : b13 ≠ b106 := Nat.ne_of_lt lt_b13_b106
  have c112 := ((c97.ext E91).other W105 (Ne.symm ne_u_b21))
  have lt_b21_b106 : (b21 : Nat) < b106 := (Nat.lt_of_lt_of_le c112.lt (Nat.le_of_eq g106.symm))
  have ne_b21_b106 : b21 ≠ b106 := Nat.ne_of_lt lt_b21_b106
  have c113 := ((c98.ext E91).other W105 (Ne.symm ne_u_b30))
  have lt_b30_b106 : (b30 : Nat) < b106 := (Nat.lt_of_lt_of_le c113.lt (Nat.le_of_eq g106.symm))
  have ne_b30_b106 : b30 ≠ b106 := Nat.ne_of_lt lt_b30_b106
  have c114 := ((c99.ext E91).other W105 (Ne.symm ne_u_b41))
  have lt_b41_b106 : (b41 : Nat) < b106 := (Nat.lt_of_lt_of_le c114.lt (Nat.le_of_eq g106.symm))
  have ne_b41_b106 : b41 ≠ b106 := Nat.ne_of_lt lt_b41_b106
  have c115 := ((c100.ext E91).other W105 (Ne.symm ne_u_b51))
  have lt_b51_b106 : (b51 : Nat) < b106 := (Nat.lt_of_lt_of_le c115.lt (Nat.le_of_eq g106.symm))
  have ne_b51_b106 : b51 ≠ b106 := Nat.ne_of_lt lt_b51_b106
  have c116 := ((c101.ext E91).other W105 (Ne.symm ne_u_b63))
  have lt_b63_b106 : (b63 : Nat) < b106 := (Nat.lt_of_lt_of_le c116.lt (Nat.le_of_eq g106.symm))
  have ne_b63_b106 : b63 ≠ b106 := Nat.ne_of_lt lt_b63_b106
  have c117 := ((c102.ext E91).other W105 (Ne.symm ne_u_b77))
  have lt_b77_b106 : (b77 : Nat) < b106 := (Nat.lt_of_lt_of_le c117.lt (Nat.le_of_eq g106.symm))
  have ne_b77_b106 : b77 ≠ b106 := Nat.ne_of_lt lt_b77_b106
  have c118 := (O91.other W105 (Ne.symm ne_u_b91))
  have lt_b91_b106 : (b91 : Nat) < b106 := (Nat.lt_of_lt_of_le c118.lt (Nat.le_of_eq g106.symm))
  have ne_b91_b106 : b91 ≠ b106 := Nat.ne_of_lt lt_b91_b106
  obtain ⟨lo106, X106, N106⟩ : ∃ L, Stand p l e ({ frames := 1, cells := 18, slots := 231, locals := 19 } : Room) s m #[(.ref u), (.ref la), (.int (4 : Int32)), (.int (-1 : Int32))] below meth c T106 L 11 131 ∧ Fr n0 L := ⟨_, X106, N105⟩
  refine OGo.st (fun t kk => st106 t kk) ?_
  show OGo p e below _ (T106.setTop (mkF m 101 #[vr u, vr la, vi (4 : Int32), vi (-1 : Int32), vi (1 : Int32), vi (16 : Int32), .unset, .unset, .unset] [(.ref b106), (.ref u)]))
  have c119 := (((((((((((((((((((((F0_superBlock.ext E2).other W5 (Or.inr (slot_ne (Or.inl (hw _ (List.mem_of_getElem? (i := 37) rfl))) (Or.inl (hw _ (List.mem_of_getElem? (i := 12) rfl))) (by decide) (t := (.array .int)) (t' := (.array .int)) (by decide) (by decide)))).ext E6).other W12 (Or.inr (slot_ne (Or.inl (hw _ (List.mem_of_getElem? (i := 37) rfl))) (Or.inl (hw _ (List.mem_of_getElem? (i := 14) rfl))) (by decide) (t := (.array .int)) (t' := (.array .int)) (by decide) (by decide)))).ext E13).other W20 (Or.inr (slot_ne (Or.inl (hw _ (List.mem_of_getElem? (i := 37) rfl))) (Or.inl (hw _ (List.mem_of_getElem? (i := 16) rfl))) (by decide) (t := (.array .int)) (t' := (.array .int)) (by decide) (by decide)))).ext E21).other W29 (Or.inr (slot_ne (Or.inl (hw _ (List.mem_of_getElem? (i := 37) rfl))) (Or.inl (hw _ (List.mem_of_getElem? (i := 18) rfl))) (by decide) (t := (.array .int)) (t' := (.array .int)) (by decide) (by decide)))).ext E30).other W39 (Or.inr (slot_ne (Or.inl (hw _ (List.mem_of_getElem? (i := 37) rfl))) (Or.inl (hw _ (List.mem_of_getElem? (i := 21) rfl))) (by decide) (t := (.array .int)) (t' := (.array .long)) (by decide) (by decide)))).ext E41).other W50 (Or.inr (slot_ne (Or.inl (hw _ (List.mem_of_getElem? (i := 37) rfl))) (Or.inr (hw _ (List.mem_of_getElem? (i := 23) rfl))) (by decide) (t := (.array .int)) (t' := (.array .int)) (by decide) (by decide)))).ext E51).other W62 (Or.inr (slot_ne (Or.inl (hw _ (List.mem_of_getElem? (i := 37) rfl))) (Or.inr (hw _ (List.mem_of_getElem? (i := 25) rfl))) (by decide) (t := (.array .int)) (t' := (.array .int)) (by decide) (by decide)))).ext E63).other W75 (Or.inr (slot_ne (Or.inl (hw _ (List.mem_of_getElem? (i := 37) rfl))) (Or.inr (hw _ (List.mem_of_getElem? (i := 27) rfl))) (by decide) (t := (.array .int)) (t' := (.array .int)) (by decide) (by decide)))).ext E77).other W90 (Or.inr (slot_ne (Or.inl (hw _ (List.mem_of_getElem? (i := 37) rfl))) (Or.inl (hw _ (List.mem_of_getElem? (i := 33) rfl))) (by decide) (t := (.array .int)) (t' := (.array .int)) (by decide) (by decide)))).ext E91).other W105 (Or.inr (slot_ne (Or.inl (hw _ (List.mem_of_getElem? (i := 37) rfl))) (Or.inl (hw _ (List.mem_of_getElem? (i := 35) rfl))) (by decide) (t := (.array .int)) (t' := (.array .int)) (by decide) (by decide)))).ext E106)
  have c120 := (c107.ext E106)
  obtain ⟨T121, h121, X121, e121, W121, st121⟩ := putF X106 hx hZ hown (host := "") (Or.inl (hw _ (List.mem_of_getElem? (i := 36) rfl))) Via.refl e106 c119 c120 (Or.inl (hw _ (List.mem_of_getElem? (i := 37) rfl))) (hw _ (List.mem_of_getElem? (i := 2) rfl)) (ty := (.array .int)) (by decide) rfl rfl (g := (mkF m 101 #[vr u, vr la, vi (4 : Int32), vi (-1 : Int32), vi (1 : Int32), vi (16 : Int32), .unset, .unset, .unset] [(.ref b106), (.ref u)])) rfl rfl (hb hby dC_101)
  have Fw121 := c119.same W121
  have N121 := Fr.snoc X121 N106 gu
  have Z121 : n0 ≤ h121.size := Nat.le_trans Z106 (Keep.of_wr W121).1
  obtain ⟨lo121, X121, N121⟩ : ∃ L, Stand p l e ({ frames := 1, cells := 18, slots := 231, locals := 19 } : Room) s m #[(.ref u), (.ref la), (.int (4 : Int32)), (.int (-1 : Int32))] below meth c T121 L 11 131 ∧ Fr n0 L := ⟨_, X121, N121⟩
  refine OGo.st (fun t kk => st121 t kk) ?_
  show OGo p e below _ (T121.setTop (mkF m 104 #[vr u, vr la, vi (4 : Int32), vi (-1 : Int32), vi (1 : Int32), vi (16 : Int32), .unset, .unset, .unset] []))
  refine OGo.st (fun t kk => XS.aloadN X121.here hx rfl (hb hby dC_104) rfl rfl kk) ?_
  show OGo p e below _ (T121.setTop (mkF m 105 #[vr u, vr la, vi (4 : Int32), vi (-1 : Int32), vi (1 : Int32), vi (16 : Int32), .unset, .unset, .unset] [(.ref u)]))
  refine OGo.st (fun t kk => XS.iload X121.here hx rfl (hb hby dC_105) rfl kk) ?_
  show OGo p e below _ (T121.setTop (mkF m 107 #[vr u, vr la, vi (4 : Int32), vi (-1 : Int32), vi (1 : Int32), vi (16 : Int32), .unset, .unset, .unset] [(.int (16 : Int32)), (.ref u)]))
  obtain ⟨T122, h122, k122, X122, e122, E122, A122, st122⟩ := newP X121 hx hZ (hw _ (List.mem_of_getElem? (i := 4) rfl)) e121 (g := (mkF m 107 #[vr u, vr la, vi (4 : Int32), vi (-1 : Int32), vi (1 : Int32), vi (16 : Int32), .unset, .unset, .unset] [(.int (16 : Int32)), (.ref u)])) rfl (hb hby dC_107) rfl (by decide) (cap := 16) (by decide) (by decide) (by decide) (by decide)
  obtain ⟨b122, g122⟩ : ∃ z, z = h121.size := ⟨_, rfl⟩
  rw [← g122] at A122 st122
  have O122 : OA Z h122 b122 .int 16 (fun _ => 0) := OA.new A122 (by decide) rfl
  have gb122 : n0 ≤ b122 := Nat.le_trans Z121 (Nat.le_of_eq g122.symm)
  have Z122 : n0 ≤ h122.size := Nat.le_trans Z121 E122.1
  have c123 := (c120.wr W121)
  have lt_u_b122 : (u : Nat) < b122 := (Nat.lt_of_lt_of_le c123.lt (Nat.le_of_eq g122.symm))
  have ne_u_b122 : u ≠ b122 := Nat.ne_of_lt lt_u_b122
  have c124 := ((c108.ext E106).other W121 (Ne.symm hul))
  have lt_la_b122 : (la : Nat) < b122 := (Nat.lt_of_lt_of_le c124.lt (Nat.le_of_eq g122.symm))
  have ne_la_b122 : la ≠ b122 := Nat.ne_of_lt lt_la_b122
  have c125 := ((c109.ext E106).other W121 (Ne.symm ne_u_b2))
  have lt_b2_b122 : (b2 : Nat) < b122 := (Nat.lt_of_lt_of_le c125.lt (Nat.le_of_eq g122.symm))
  have ne_b2_b122 : b2 ≠ b122 := Nat.ne_of_lt lt_b2_b122
  have c126 := ((c110.ext E106).other W121 (Ne.symm ne_u_b6))
  have lt_b6_b122 : (b6 : Nat) < b122 := (Nat.lt_of_lt_of_le c126.lt (Nat.le_of_eq g122.symm))
  have ne_b6_b122 : b6 ≠ b122 := Nat.ne_of_lt lt_b6_b122
  have c127 := ((c111.ext E106).other W121 (Ne.symm ne_u_b13))
  have lt_b13_b122 : (b13 : Nat) < b122 := (Nat.lt_of_lt_of_le c127.lt (Nat.le_of_eq g122.symm))
  have ne_b13_b122 : b13 ≠ b122 := Nat.ne_of_lt lt_b13_b122
  have c128 := ((c112.ext E106).other W121 (Ne.symm ne_u_b21))
  have lt_b21_b122 : (b21 : Nat) < b122 := (Nat.lt_of_lt_of_le c128.lt (Nat.le_of_eq g122.symm))
  have ne_b21_b122 : b21 ≠ b122 := Nat.ne_of_lt lt_b21_b122
  have c129 := ((c113.ext E106).other W121 (Ne.symm ne_u_b30))
  have lt_b30_b122 : (b30 : Nat) < b122 := (Nat.lt_of_lt_of_le c129.lt (Nat.le_of_eq g122.symm))
  have ne_b30_b122 : b30 ≠ b122 := Nat.ne_of_lt lt_b30_b122
  have c130 := ((c114.ext E106).other W121 (Ne.symm ne_u_b41))
  have lt_b41_b122 : (b41 : Nat) < b122 := (Nat.lt_of_lt_of_le c130.lt (Nat.le_of_eq g122.symm))
  have ne_b41_b122 : b41 ≠ b122 := Nat.ne_of_lt lt_b41_b122
  have c131 := ((c115.ext E106).other W121 (Ne.symm ne_u_b51))
  have lt_b51_b122 : (b51 : Nat) < b122 := (Nat.lt_of_lt_of_le c131.lt (Nat.le_of_eq g122.symm))
  have ne_b51_b122 : b51 ≠ b122 := Nat.ne_of_lt lt_b51_b122
  have c132 := ((c116.ext E106).other W121 (Ne.symm ne_u_b63))
  have lt_b63_b122 : (b63 : Nat) < b122 := (Nat.lt_of_lt_of_le c132.lt (Nat.le_of_eq g122.symm))
  have ne_b63_b122 : b63 ≠ b122 := Nat.ne_of_lt lt_b63_b122
  have c133 := ((c117.ext E106).other W121 (Ne.symm ne_u_b77))
  have lt_b77_b122 : (b77 : Nat) < b122 := (Nat.lt_of_lt_of_le c133.lt (Nat.le_of_eq g122.symm))
  have ne_b77_b122 : b77 ≠ b122 := Nat.ne_of_lt lt_b77_b122
  have c134 := ((c118.ext E106).other W121 (Ne.symm ne_u_b91))
  have lt_b91_b122 : (b91 : Nat) < b122 := (Nat.lt_of_lt_of_le c134.lt (Nat.le_of_eq g122.symm))
  have ne_b91_b122 : b91 ≠ b122 := Nat.ne_of_lt lt_b91_b122
  have c135 := (O106.other W121 (Ne.symm ne_u_b106))
  have lt_b106_b122 : (b106 : Nat) < b122 := (Nat.lt_of_lt_of_le c135.lt (Nat.le_of_eq g122.symm))
  have ne_b106_b122 : b106 ≠ b122 := Nat.ne_of_lt lt_b106_b122
  obtain ⟨lo122, X122, N122⟩ : ∃ L, Stand p l e ({ frames := 1, cells := 18, slots := 231, locals := 19 } : Room) s m #[(.ref u), (.ref la), (.int (4 : Int32)), (.int (-1 : Int32))] below meth c T122 L 12 147 ∧ Fr n0 L := ⟨_, X122, N121⟩
  refine OGo.st (fun t kk => st122 t kk) ?_
  show OGo p e below _ (T122.setTop (mkF m 109 #[vr u, vr la, vi (4 : Int32), vi (-1 : Int32), vi (1 : Int32), vi (16 : Int32), .unset, .unset, .unset] [(.ref b122), (.ref u)]))
  have c136 := (((((((((((((((((((((((F0_block.ext E2).other W5 (Or.inr (slot_ne (Or.inl (hw _ (List.mem_of_getElem? (i := 39) rfl))) (Or.inl (hw _ (List.mem_of_getElem? (i := 12) rfl))) (by decide) (t := (.array .int)) (t' := (.array .int)) (by decide) (by decide)))).ext E6).other W12 (Or.inr (slot_ne (Or.inl (hw _ (List.mem_of_getElem? (i := 39) rfl))) (Or.inl (hw _ (List.mem_of_getElem? (i := 14) rfl))) (by decide) (t := (.array .int)) (t' := (.array .int)) (by decide) (by decide)))).ext E13).other W20 (Or.inr (slot_ne (Or.inl (hw _ (List.mem_of_getElem? (i := 39) rfl))) (Or.inl (hw _ (List.mem_of_getElem? (i := 16) rfl))) (by decide) (t := (.array .int)) (t' := (.array .int)) (by decide) (by decide)))).ext E21).other W29 (Or.inr (slot_ne (Or.inl (hw _ (List.mem_of_getElem? (i := 39) rfl))) (Or.inl (hw _ (List.mem_of_getElem? (i := 18) rfl))) (by decide) (t := (.array .int)) (t' := (.array .int)) (by decide) (by decide)))).ext E30).other W39 (Or.inr (slot_ne (Or.inl (hw _ (List.mem_of_getElem? (i := 39) rfl))) (Or.inl (hw _ (List.mem_of_getElem? (i := 21) rfl))) (by decide) (t := (.array .int)) (t' := (.array .long)) (by decide) (by decide)))).ext E41).other W50 (Or.inr (slot_ne (Or.inl (hw _ (List.mem_of_getElem? (i := 39) rfl))) (Or.inr (hw _ (List.mem_of_getElem? (i := 23) rfl))) (by decide) (t := (.array .int)) (t' := (.array .int)) (by decide) (by decide)))).ext E51).other W62 (Or.inr (slot_ne (Or.inl (hw _ (List.mem_of_getElem? (i := 39) rfl))) (Or.inr (hw _ (List.mem_of_getElem? (i := 25) rfl))) (by decide) (t := (.array .int)) (t' := (.array .int)) (by decide) (by decide)))).ext E63).other W75 (Or.inr (slot_ne (Or.inl (hw _ (List.mem_of_getElem? (i := 39) rfl))) (Or.inr (hw _ (List.mem_of_getElem? (i := 27) rfl))) (by decide) (t := (.array .int)) (t' := (.array .int)) (by decide) (by decide)))).ext E77).other W90 (Or.inr (slot_ne (Or.inl (hw _ (List.mem_of_getElem? (i := 39) rfl))) (Or.inl (hw _ (List.mem_of_getElem? (i := 33) rfl))) (by decide) (t := (.array .int)) (t' := (.array .int)) (by decide) (by decide)))).ext E91).other W105 (Or.inr (slot_ne (Or.inl (hw _ (List.mem_of_getElem? (i := 39) rfl))) (Or.inl (hw _ (List.mem_of_getElem? (i := 35) rfl))) (by decide) (t := (.array .int)) (t' := (.array .int)) (by decide) (by decide)))).ext E106).other W121 (Or.inr (slot_ne (Or.inl (hw _ (List.mem_of_getElem? (i := 39) rfl))) (Or.inl (hw _ (List.mem_of_getElem? (i := 37) rfl))) (by decide) (t := (.array .int)) (t' := (.array .int)) (by decide) (by decide)))).ext E122)
  have c137 := (c123.ext E122)
  obtain ⟨T138, h138, X138, e138, W138, st138⟩ := putF X122 hx hZ hown (host := "") (Or.inl (hw _ (List.mem_of_getElem? (i := 38) rfl))) Via.refl e122 c136 c137 (Or.inl (hw _ (List.mem_of_getElem? (i := 39) rfl))) (hw _ (List.mem_of_getElem? (i := 2) rfl)) (ty := (.array .int)) (by decide) rfl rfl (g := (mkF m 109 #[vr u, vr la, vi (4 : Int32), vi (-1 : Int32), vi (1 : Int32), vi (16 : Int32), .unset, .unset, .unset] [(.ref b122), (.ref u)])) rfl rfl (hb hby dC_109)
  have Fw138 := c136.same W138
  have N138 := Fr.snoc X138 N122 gu
  have Z138 : n0 ≤ h138.size := Nat.le_trans Z122 (Keep.of_wr W138).1
  obtain ⟨lo138, X138, N138⟩ : ∃ L, Stand p l e ({ frames := 1, cells := 18, slots := 231, locals := 19 } : Room) s m #[(.ref u), (.ref la), (.int (4 : Int32)), (.int (-1 : Int32))] below meth c T138 L 12 147 ∧ Fr n0 L := ⟨_, X138, N138⟩
  refine OGo.st (fun t kk => st138 t kk) ?_
  show OGo p e below _ (T138.setTop (mkF m 112 #[vr u, vr la, vi (4 : Int32), vi (-1 : Int32), vi (1 : Int32), vi (16 : Int32), .unset, .unset, .unset] []))
  refine OGo.st (fun t kk => XS.aloadN X138.here hx rfl (hb hby dC_112) rfl rfl kk) ?_
  show OGo p e below _ (T138.setTop (mkF m 113 #[vr u, vr la, vi (4 : Int32), vi (-1 : Int32), vi (1 : Int32), vi (16 : Int32), .unset, .unset, .unset] [(.ref u)]))
  refine OGo.st (fun t kk => XS.iload X138.here hx rfl (hb hby dC_113) rfl kk) ?_
  show OGo p e below _ (T138.setTop (mkF m 115 #[vr u, vr la, vi (4 : Int32), vi (-1 : Int32), vi (1 : Int32), vi (16 : Int32), .unset, .unset, .unset] [(.int (16 : Int32)), (.ref u)]))
  obtain ⟨T139, h139, k139, X139, e139, E139, A139, st139⟩ := newP X138 hx hZ (hw _ (List.mem_of_getElem? (i := 4) rfl)) e138 (g := (mkF m 115 #[vr u, vr la, vi (4 : Int32), vi (-1 : Int32), vi (1 : Int32), vi (16 : Int32), .unset, .unset, .unset] [(.int (16 : Int32)), (.ref u)])) rfl (hb hby dC_115) rfl (by decide) (cap := 16) (by decide) (by decide) (by decide) (by decide)
  obtain ⟨b139, g139⟩ : ∃ z, z = h138.size := ⟨_, rfl⟩
  rw [← g139] at A139 st139
  have O139 : OA Z h139 b139 .int 16 (fun _ => 0) := OA.new A139 (by decide) rfl
  have gb139 : n0 ≤ b139 := Nat.le_trans Z138 (Nat.le_of_eq g139.symm)
  have Z139 : n0 ≤ h139.size := Nat.le_trans Z138 E139.1
  have c140 := (c137.wr W138)
  have lt_u_b139 : (u : Nat) < b139 := (Nat.lt_of_lt_of_le c140.lt (Nat.le_of_eq g139.symm))
  have ne_u_b139 : u ≠ b139 := Nat.ne_of_lt lt_u_b139
  have c141 := ((c124.ext E122).other W138 (Ne.symm hul))
  have lt_la_b139 : (la : Nat) < b139 := (Nat.lt_of_lt_of_le c141.lt (Nat.le_of_eq g139.symm))
  have ne_la_b139 : la ≠ b139 := Nat.ne_of_lt lt_la_b139
  have c142 := ((c125.ext E122).other W138 (Ne.symm ne_u_b2))
  have lt_b2_b139 : (b2 : Nat) < b139 := (Nat.lt_of_lt_of_le c142.lt (Nat.le_of_eq g139.symm))
  have ne_b2_b139 : b2 ≠ b139 := Nat.ne_of_lt lt_b2_b139
  have c143 := ((c126.ext E122).other W138 (Ne.symm ne_u_b6))
  have lt_b6_b139 : (b6 : Nat) < b139 := (Nat.lt_of_lt_of_le c143.lt (Nat.le_of_eq g139.symm))
  have ne_b6_b139 : b6 ≠ b139 := Nat.ne_of_lt lt_b6_b139
  have c144 := ((c127.ext E122).other W138 (Ne.symm ne_u_b13))
  have lt_b13_b139 : (b13 : Nat) < b139 := (Nat.lt_of_lt_of_le c144.lt (Nat.le_of_eq g139.symm))
  have ne_b13_b139 : b13 ≠ b139 := Nat.ne_of_lt lt_b13_b139
  have c145 := ((c128.ext E122).other W138 (Ne.symm ne_u_b21))
  have lt_b21_b139 : (b21 : Nat) < b139 := (Nat.lt_of_lt_of_le c145.lt (Nat.le_of_eq g139.symm))
  have ne_b21_b139 : b21 ≠ b139 := Nat.ne_of_lt lt_b21_b139
  have c146 := ((c129.ext E122).other W138 (Ne.symm ne_u_b30))
  have lt_b30_b139 : (b30 : Nat) < b139 := (Nat.lt_of_lt_of_le c146.lt (Nat.le_of_eq g139.symm))
  have ne_b30_b139 : b30 ≠ b139 := Nat.ne_of_lt lt_b30_b139
  have c147 := ((c130.ext E122).other W138 (Ne.symm ne_u_b41))
  have lt_b41_b139 : (b41 : Nat) < b139 := (Nat.lt_of_lt_of_le c147.lt (Nat.le_of_eq g139.symm))
  have ne_b41_b139 : b41 ≠ b139 := Nat.ne_of_lt lt_b41_b139
  have c148 := ((c131.ext E122).other W138 (Ne.symm ne_u_b51))
  have lt_b51_b139 : (b51 : Nat) < b139 := (Nat.lt_of_lt_of_le c148.lt (Nat.le_of_eq g139.symm))
  have ne_b51_b139 : b51 ≠ b139 := Nat.ne_of_lt lt_b51_b139
  have c149 := ((c132.ext E122).other W138 (Ne.symm ne_u_b63))
  have lt_b63_b139 : (b63 : Nat) < b139 := (Nat.lt_of_lt_of_le c149.lt (Nat.le_of_eq g139.symm))
  have ne_b63_b139 : b63 ≠ b139 := Nat.ne_of_lt lt_b63_b139
  have c150 := ((c133.ext E122).other W138 (Ne.symm ne_u_b77))
  have lt_b77_b139 : (b77 : Nat) < b139 := (Nat.lt_of_lt_of_le c150.lt (Nat.le_of_eq g139.symm))
  have ne_b77_b139 : b77 ≠ b139 := Nat.ne_of_lt lt_b77_b139
  have c151 := ((c134.ext E122).other W138 (Ne.symm ne_u_b91))
  have lt_b91_b139 : (b91 : Nat) < b139 := (Nat.lt_of_lt_of_le c151.lt (Nat.le_of_eq g139.symm))
  have ne_b91_b139 : b91 ≠ b139 := Nat.ne_of_lt lt_b91_b139
  have c152 := ((c135.ext E122).other W138 (Ne.symm ne_u_b106))
  have lt_b106_b139 : (b106 : Nat) < b139 := (Nat.lt_of_lt_of_le c152.lt (Nat.le_of_eq g139.symm))
  have ne_b106_b139 : b106 ≠ b139 := Nat.ne_of_lt lt_b106_b139
  have c153 := (O122.other W138 (Ne.symm ne_u_b122))
  have lt_b122_b139 : (b122 : Nat) < b139 := (Nat.lt_of_lt_of_le c153.lt (Nat.le_of_eq g139.symm))
  have ne_b122_b139 : b122 ≠ b139 := Nat.ne_of_lt lt_b122_b139
  obtain ⟨lo139, X139, N139⟩ : ∃ L, Stand p l e ({ frames := 1, cells := 18, slots := 231, locals := 19 } : Room) s m #[(.ref u), (.ref la), (.int (4 : Int32)), (.int (-1 : Int32))] below meth c T139 L 13 163 ∧ Fr n0 L := ⟨_, X139, N138⟩
  refine OGo.st (fun t kk => st139 t kk) ?_
  show OGo p e below _ (T139.setTop (mkF m 117 #[vr u, vr la, vi (4 : Int32), vi (-1 : Int32), vi (1 : Int32), vi (16 : Int32), .unset, .unset, .unset] [(.ref b139), (.ref u)]))
  have c154 := (((((((((((((((((((((((((F0_previous.ext E2).other W5 (Or.inr (slot_ne (Or.inl (hw _ (List.mem_of_getElem? (i := 41) rfl))) (Or.inl (hw _ (List.mem_of_getElem? (i := 12) rfl))) (by decide) (t := (.array .int)) (t' := (.array .int)) (by decide) (by decide)))).ext E6).other W12 (Or.inr (slot_ne (Or.inl (hw _ (List.mem_of_getElem? (i := 41) rfl))) (Or.inl (hw _ (List.mem_of_getElem? (i := 14) rfl))) (by decide) (t := (.array .int)) (t' := (.array .int)) (by decide) (by decide)))).ext E13).other W20 (Or.inr (slot_ne (Or.inl (hw _ (List.mem_of_getElem? (i := 41) rfl))) (Or.inl (hw _ (List.mem_of_getElem? (i := 16) rfl))) (by decide) (t := (.array .int)) (t' := (.array .int)) (by decide) (by decide)))).ext E21).other W29 (Or.inr (slot_ne (Or.inl (hw _ (List.mem_of_getElem? (i := 41) rfl))) (Or.inl (hw _ (List.mem_of_getElem? (i := 18) rfl))) (by decide) (t := (.array .int)) (t' := (.array .int)) (by decide) (by decide)))).ext E30).other W39 (Or.inr (slot_ne (Or.inl (hw _ (List.mem_of_getElem? (i := 41) rfl))) (Or.inl (hw _ (List.mem_of_getElem? (i := 21) rfl))) (by decide) (t := (.array .int)) (t' := (.array .long)) (by decide) (by decide)))).ext E41).other W50 (Or.inr (slot_ne (Or.inl (hw _ (List.mem_of_getElem? (i := 41) rfl))) (Or.inr (hw _ (List.mem_of_getElem? (i := 23) rfl))) (by decide) (t := (.array .int)) (t' := (.array .int)) (by decide) (by decide)))).ext E51).other W62 (Or.inr (slot_ne (Or.inl (hw _ (List.mem_of_getElem? (i := 41) rfl))) (Or.inr (hw _ (List.mem_of_getElem? (i := 25) rfl))) (by decide) (t := (.array .int)) (t' := (.array .int)) (by decide) (by decide)))).ext E63).other W75 (Or.inr (slot_ne (Or.inl (hw _ (List.mem_of_getElem? (i := 41) rfl))) (Or.inr (hw _ (List.mem_of_getElem? (i := 27) rfl))) (by decide) (t := (.array .int)) (t' := (.array .int)) (by decide) (by decide)))).ext E77).other W90 (Or.inr (slot_ne (Or.inl (hw _ (List.mem_of_getElem? (i := 41) rfl))) (Or.inl (hw _ (List.mem_of_getElem? (i := 33) rfl))) (by decide) (t := (.array .int)) (t' := (.array .int)) (by decide) (by decide)))).ext E91).other W105 (Or.inr (slot_ne (Or.inl (hw _ (List.mem_of_getElem? (i := 41) rfl))) (Or.inl (hw _ (List.mem_of_getElem? (i := 35) rfl))) (by decide) (t := (.array .int)) (t' := (.array .int)) (by decide) (by decide)))).ext E106).other W121 (Or.inr (slot_ne (Or.inl (hw _ (List.mem_of_getElem? (i := 41) rfl))) (Or.inl (hw _ (List.mem_of_getElem? (i := 37) rfl))) (by decide) (t := (.array .int)) (t' := (.array .int)) (by decide) (by decide)))).ext E122).other W138 (Or.inr (slot_ne (Or.inl (hw _ (List.mem_of_getElem? (i := 41) rfl))) (Or.inl (hw _ (List.mem_of_getElem? (i := 39) rfl))) (by decide) (t := (.array .int)) (t' := (.array .int)) (by decide) (by decide)))).ext E139)
  have c155 := (c140.ext E139)
  obtain ⟨T156, h156, X156, e156, W156, st156⟩ := putF X139 hx hZ hown (host := "") (Or.inl (hw _ (List.mem_of_getElem? (i := 40) rfl))) Via.refl e139 c154 c155 (Or.inl (hw _ (List.mem_of_getElem? (i := 41) rfl))) (hw _ (List.mem_of_getElem? (i := 2) rfl)) (ty := (.array .int)) (by decide) rfl rfl (g := (mkF m 117 #[vr u, vr la, vi (4 : Int32), vi (-1 : Int32), vi (1 : Int32), vi (16 : Int32), .unset, .unset, .unset] [(.ref b139), (.ref u)])) rfl rfl (hb hby dC_117)
  have Fw156 := c154.same W156
  have N156 := Fr.snoc X156 N139 gu
  have Z156 : n0 ≤ h156.size := Nat.le_trans Z139 (Keep.of_wr W156).1
  obtain ⟨lo156, X156, N156⟩ : ∃ L, Stand p l e ({ frames := 1, cells := 18, slots := 231, locals := 19 } : Room) s m #[(.ref u), (.ref la), (.int (4 : Int32)), (.int (-1 : Int32))] below meth c T156 L 13 163 ∧ Fr n0 L := ⟨_, X156, N156⟩
  refine OGo.st (fun t kk => st156 t kk) ?_
  show OGo p e below _ (T156.setTop (mkF m 120 #[vr u, vr la, vi (4 : Int32), vi (-1 : Int32), vi (1 : Int32), vi (16 : Int32), .unset, .unset, .unset] []))
  refine OGo.st (fun t kk => XS.aloadN X156.here hx rfl (hb hby dC_120) rfl rfl kk) ?_
  show OGo p e below _ (T156.setTop (mkF m 121 #[vr u, vr la, vi (4 : Int32), vi (-1 : Int32), vi (1 : Int32), vi (16 : Int32), .unset, .unset, .unset] [(.ref u)]))
  refine OGo.st (fun t kk => XS.iload X156.here hx rfl (hb hby dC_121) rfl kk) ?_
  show OGo p e below _ (T156.setTop (mkF m 123 #[vr u, vr la, vi (4 : Int32), vi (-1 : Int32), vi (1 : Int32), vi (16 : Int32), .unset, .unset, .unset] [(.int (16 : Int32)), (.ref u)]))
  obtain ⟨T157, h157, k157, X157, e157, E157, A157, st157⟩ := newP X156 hx hZ (hw _ (List.mem_of_getElem? (i := 4) rfl)) e156 (g := (mkF m 123 #[vr u, vr la, vi (4 : Int32), vi (-1 : Int32), vi (1 : Int32), vi (16 : Int32), .unset, .unset, .unset] [(.int (16 : Int32)), (.ref u)])) rfl (hb hby dC_123) rfl (by decide) (cap := 16) (by decide) (by decide) (by decide) (by decide)
  obtain ⟨b157, g157⟩ : ∃ z, z = h156.size := ⟨_, rfl⟩
  rw [← g157] at A157 st157
  have O157 : OA Z h157 b157 .int 16 (fun _ => 0) := OA.new A157 (by decide) rfl
  have gb157 : n0 ≤ b157 := Nat.le_trans Z156 (Nat.le_of_eq g157.symm)
  have Z157 : n0 ≤ h157.size := Nat.le_trans Z156 E157.1
  have c158 := (c155.wr W156)
  have lt_u_b157 : (u : Nat) < b157 := (Nat.lt_of_lt_of_le c158.lt (Nat.le_of_eq g157.symm))
  have ne_u_b157 : u ≠ b157 := Nat.ne_of_lt lt_u_b157
  have c159 := ((c141.ext E139).other W156 (Ne.symm hul))
  have lt_la_b157 : (la : Nat) < b157 := (Nat.lt_of_lt_of_le c159.lt (Nat.le_of_eq g157.symm))
  have ne_la_b157 : la ≠ b157 := Nat.ne_of_lt lt_la_b157
  have c160 := ((c142.ext E139).other W156 (Ne.symm ne_u_b2))
  have lt_b2_b157 : (b2 : Nat) < b157 := (Nat.lt_of_lt_of_le c160.lt (Nat.le_of_eq g157.symm))
  have ne_b2_b157 : b2 ≠ b157 := Nat.ne_of_lt lt_b2_b157
  have c161 := ((c143.ext E139).other W156 (Ne.symm ne_u_b6))
  have lt_b6_b157 : (b6 : Nat) < b157 := (Nat.lt_of_lt_of_le c161.lt (Nat.le_of_eq g157.symm))
  have ne_b6_b157 : b6 ≠ b157 := Nat.ne_of_lt lt_b6_b157
  have c162 := ((c144.ext E139).other W156 (Ne.symm ne_u_b13))
  have lt_b13_b157 : (b13 : Nat) < b157 := (Nat.lt_of_lt_of_le c162.lt (Nat.le_of_eq g157.symm))
  have ne_b13_b157 : b13 ≠ b157 := Nat.ne_of_lt lt_b13_b157
  have c163 := ((c145.ext E139).other W156 (Ne.symm ne_u_b21))
  have lt_b21_b157 : (b21 : Nat) < b157 := (Nat.lt_of_lt_of_le c163.lt (Nat.le_of_eq g157.symm))
  have ne_b21_b157 : b21 ≠ b157 := Nat.ne_of_lt lt_b21_b157
  have c164 := ((c146.ext E139).other W156 (Ne.symm ne_u_b30))
  have lt_b30_b157 : (b30 : Nat) < b157 := (Nat.lt_of_lt_of_le c164.lt (Nat.le_of_eq g157.symm))
  have ne_b30_b157 : b30 ≠ b157 := Nat.ne_of_lt lt_b30_b157
  have c165 := ((c147.ext E139).other W156 (Ne.symm ne_u_b41))
  have lt_b41_b157 : (b41 : Nat) < b157 := (Nat.lt_of_lt_of_le c165.lt (Nat.le_of_eq g157.symm))
  have ne_b41_b157 : b41 ≠ b157 := Nat.ne_of_lt lt_b41_b157
  have c166 := ((c148.ext E139).other W156 (Ne.symm ne_u_b51))
  have lt_b51_b157 : (b51 : Nat) < b157 := (Nat.lt_of_lt_of_le c166.lt (Nat.le_of_eq g157.symm))
  have ne_b51_b157 : b51 ≠ b157 := Nat.ne_of_lt lt_b51_b157
  have c167 := ((c149.ext E139).other W156 (Ne.symm ne_u_b63))
  have lt_b63_b157 : (b63 : Nat) < b157 := (Nat.lt_of_lt_of_le c167.lt (Nat.le_of_eq g157.symm))
  have ne_b63_b157 : b63 ≠ b157 := Nat.ne_of_lt lt_b63_b157
  have c168 := ((c150.ext E139).other W156 (Ne.symm ne_u_b77))
  have lt_b77_b157 : (b77 : Nat) < b157 := (Nat.lt_of_lt_of_le c168.lt (Nat.le_of_eq g157.symm))
  have ne_b77_b157 : b77 ≠ b157 := Nat.ne_of_lt lt_b77_b157
  have c169 := ((c151.ext E139).other W156 (Ne.symm ne_u_b91))
  have lt_b91_b157 : (b91 : Nat) < b157 := (Nat.lt_of_lt_of_le c169.lt (Nat.le_of_eq g157.symm))
  have ne_b91_b157 : b91 ≠ b157 := Nat.ne_of_lt lt_b91_b157
  have c170 := ((c152.ext E139).other W156 (Ne.symm ne_u_b106))
  have lt_b106_b157 : (b106 : Nat) < b157 := (Nat.lt_of_lt_of_le c170.lt (Nat.le_of_eq g157.symm))
  have ne_b106_b157 : b106 ≠ b157 := Nat.ne_of_lt lt_b106_b157
  have c171 := ((c153.ext E139).other W156 (Ne.symm ne_u_b122))
  have lt_b122_b157 : (b122 : Nat) < b157 := (Nat.lt_of_lt_of_le c171.lt (Nat.le_of_eq g157.symm))
  have ne_b122_b157 : b122 ≠ b157 := Nat.ne_of_lt lt_b122_b157
  have c172 := (O139.other W156 (Ne.symm ne_u_b139))
  have lt_b139_b157 : (b139 : Nat) < b157 := (Nat.lt_of_lt_of_le c172.lt (Nat.le_of_eq g157.symm))
  have ne_b139_b157 : b139 ≠ b157 := Nat.ne_of_lt lt_b139_b157
  obtain ⟨lo157, X157, N157⟩ : ∃ L, Stand p l e ({ frames := 1, cells := 18, slots := 231, locals := 19 } : Room) s m #[(.ref u), (.ref la), (.int (4 : Int32)), (.int (-1 : Int32))] below meth c T157 L 14 179 ∧ Fr n0 L := ⟨_, X157, N156⟩
  refine OGo.st (fun t kk => st157 t kk) ?_
  show OGo p e below _ (T157.setTop (mkF m 125 #[vr u, vr la, vi (4 : Int32), vi (-1 : Int32), vi (1 : Int32), vi (16 : Int32), .unset, .unset, .unset] [(.ref b157), (.ref u)]))
  have c173 := (((((((((((((((((((((((((((F0_next.ext E2).other W5 (Or.inr (slot_ne (Or.inl (hw _ (List.mem_of_getElem? (i := 43) rfl))) (Or.inl (hw _ (List.mem_of_getElem? (i := 12) rfl))) (by decide) (t := (.array .int)) (t' := (.array .int)) (by decide) (by decide)))).ext E6).other W12 (Or.inr (slot_ne (Or.inl (hw _ (List.mem_of_getElem? (i := 43) rfl))) (Or.inl (hw _ (List.mem_of_getElem? (i := 14) rfl))) (by decide) (t := (.array .int)) (t' := (.array .int)) (by decide) (by decide)))).ext E13).other W20 (Or.inr (slot_ne (Or.inl (hw _ (List.mem_of_getElem? (i := 43) rfl))) (Or.inl (hw _ (List.mem_of_getElem? (i := 16) rfl))) (by decide) (t := (.array .int)) (t' := (.array .int)) (by decide) (by decide)))).ext E21).other W29 (Or.inr (slot_ne (Or.inl (hw _ (List.mem_of_getElem? (i := 43) rfl))) (Or.inl (hw _ (List.mem_of_getElem? (i := 18) rfl))) (by decide) (t := (.array .int)) (t' := (.array .int)) (by decide) (by decide)))).ext E30).other W39 (Or.inr (slot_ne (Or.inl (hw _ (List.mem_of_getElem? (i := 43) rfl))) (Or.inl (hw _ (List.mem_of_getElem? (i := 21) rfl))) (by decide) (t := (.array .int)) (t' := (.array .long)) (by decide) (by decide)))).ext E41).other W50 (Or.inr (slot_ne (Or.inl (hw _ (List.mem_of_getElem? (i := 43) rfl))) (Or.inr (hw _ (List.mem_of_getElem? (i := 23) rfl))) (by decide) (t := (.array .int)) (t' := (.array .int)) (by decide) (by decide)))).ext E51).other W62 (Or.inr (slot_ne (Or.inl (hw _ (List.mem_of_getElem? (i := 43) rfl))) (Or.inr (hw _ (List.mem_of_getElem? (i := 25) rfl))) (by decide) (t := (.array .int)) (t' := (.array .int)) (by decide) (by decide)))).ext E63).other W75 (Or.inr (slot_ne (Or.inl (hw _ (List.mem_of_getElem? (i := 43) rfl))) (Or.inr (hw _ (List.mem_of_getElem? (i := 27) rfl))) (by decide) (t := (.array .int)) (t' := (.array .int)) (by decide) (by decide)))).ext E77).other W90 (Or.inr (slot_ne (Or.inl (hw _ (List.mem_of_getElem? (i := 43) rfl))) (Or.inl (hw _ (List.mem_of_getElem? (i := 33) rfl))) (by decide) (t := (.array .int)) (t' := (.array .int)) (by decide) (by decide)))).ext E91).other W105 (Or.inr (slot_ne (Or.inl (hw _ (List.mem_of_getElem? (i := 43) rfl))) (Or.inl (hw _ (List.mem_of_getElem? (i := 35) rfl))) (by decide) (t := (.array .int)) (t' := (.array .int)) (by decide) (by decide)))).ext E106).other W121 (Or.inr (slot_ne (Or.inl (hw _ (List.mem_of_getElem? (i := 43) rfl))) (Or.inl (hw _ (List.mem_of_getElem? (i := 37) rfl))) (by decide) (t := (.array .int)) (t' := (.array .int)) (by decide) (by decide)))).ext E122).other W138 (Or.inr (slot_ne (Or.inl (hw _ (List.mem_of_getElem? (i := 43) rfl))) (Or.inl (hw _ (List.mem_of_getElem? (i := 39) rfl))) (by decide) (t := (.array .int)) (t' := (.array .int)) (by decide) (by decide)))).ext E139).other W156 (Or.inr (slot_ne (Or.inl (hw _ (List.mem_of_getElem? (i := 43) rfl))) (Or.inl (hw _ (List.mem_of_getElem? (i := 41) rfl))) (by decide) (t := (.array .int)) (t' := (.array .int)) (by decide) (by decide)))).ext E157)
  have c174 := (c158.ext E157)
  obtain ⟨T175, h175, X175, e175, W175, st175⟩ := putF X157 hx hZ hown (host := "") (Or.inl (hw _ (List.mem_of_getElem? (i := 42) rfl))) Via.refl e157 c173 c174 (Or.inl (hw _ (List.mem_of_getElem? (i := 43) rfl))) (hw _ (List.mem_of_getElem? (i := 2) rfl)) (ty := (.array .int)) (by decide) rfl rfl (g := (mkF m 125 #[vr u, vr la, vi (4 : Int32), vi (-1 : Int32), vi (1 : Int32), vi (16 : Int32), .unset, .unset, .unset] [(.ref b157), (.ref u)])) rfl rfl (hb hby dC_125)
  have Fw175 := c173.same W175
  have N175 := Fr.snoc X175 N157 gu
  have Z175 : n0 ≤ h175.size := Nat.le_trans Z157 (Keep.of_wr W175).1
  obtain ⟨lo175, X175, N175⟩ : ∃ L, Stand p l e ({ frames := 1, cells := 18, slots := 231, locals := 19 } : Room) s m #[(.ref u), (.ref la), (.int (4 : Int32)), (.int (-1 : Int32))] below meth c T175 L 14 179 ∧ Fr n0 L := ⟨_, X175, N175⟩
  refine OGo.st (fun t kk => st175 t kk) ?_
  show OGo p e below _ (T175.setTop (mkF m 128 #[vr u, vr la, vi (4 : Int32), vi (-1 : Int32), vi (1 : Int32), vi (16 : Int32), .unset, .unset, .unset] []))
  refine OGo.st (fun t kk => XS.aloadN X175.here hx rfl (hb hby dC_128) rfl rfl kk) ?_
  show OGo p e below _ (T175.setTop (mkF m 129 #[vr u, vr la, vi (4 : Int32), vi (-1 : Int32), vi (1 : Int32), vi (16 : Int32), .unset, .unset, .unset] [(.ref u)]))
  refine OGo.st (fun t kk => XS.iload X175.here hx rfl (hb hby dC_129) rfl kk) ?_
  show OGo p e below _ (T175.setTop (mkF m 131 #[vr u, vr la, vi (4 : Int32), vi (-1 : Int32), vi (1 : Int32), vi (16 : Int32), .unset, .unset, .unset] [(.int (16 : Int32)), (.ref u)]))
  obtain ⟨T176, h176, k176, X176, e176, E176, A176, st176⟩ := newP X175 hx hZ (hw _ (List.mem_of_getElem? (i := 4) rfl)) e175 (g := (mkF m 131 #[vr u, vr la, vi (4 : Int32), vi (-1 : Int32), vi (1 : Int32), vi (16 : Int32), .unset, .unset, .unset] [(.int (16 : Int32)), (.ref u)])) rfl (hb hby dC_131) rfl (by decide) (cap := 16) (by decide) (by decide) (by decide) (by decide)
  obtain ⟨b176, g176⟩ : ∃ z, z = h175.size := ⟨_, rfl⟩
  rw [← g176] at A176 st176
  have O176 : OA Z h176 b176 .int 16 (fun _ => 0) := OA.new A176 (by decide) rfl
  have gb176 : n0 ≤ b176 := Nat.le_trans Z175 (Nat.le_of_eq g176.symm)
  have Z176 : n0 ≤ h176.size := Nat.le_trans Z175 E176.1
  have c177 := (c174.wr W175)
  have lt_u_b176 : (u : Nat) < b176 := (Nat.lt_of_lt_of_le c177.lt (Nat.le_of_eq g176.symm))
  have ne_u_b176 : u ≠ b176 := Nat.ne_of_lt lt_u_b176
  have c178 := ((c159.ext E157).other W175 (Ne.symm hul))
  have lt_la_b176 : (la : Nat) < b176 := (Nat.lt_of_lt_of_le c178.lt (Nat.le_of_eq g176.symm))
  have ne_la_b176 : la ≠ b176 := Nat.ne_of_lt lt_la_b176
  have c179 := ((c160.ext E157).other W175 (Ne.symm ne_u_b2))
  have lt_b2_b176 : (b2 : Nat) < b176 := (Nat.lt_of_lt_of_le c179.lt (Nat.le_of_eq g176.symm))
  have ne_b2_b176 : b2 ≠ b176 := Nat.ne_of_lt lt_b2_b176
  have c180 := ((c161.ext E157).other W175 (Ne.symm ne_u_b6))
  have lt_b6_b176 : (b6 : Nat) < b176 := (Nat.lt_of_lt_of_le c180.lt (Nat.le_of_eq g176.symm))
  have ne_b6_b176 : b6 ≠ b176 := Nat.ne_of_lt lt_b6_b176
  have c181 := ((c162.ext E157).other W175 (Ne.symm ne_u_b13))
  have lt_b13_b176 : (b13 : Nat) < b176 := (Nat.lt_of_lt_of_le c181.lt (Nat.le_of_eq g176.symm))
  have ne_b13_b176 : b13 ≠ b176 := Nat.ne_of_lt lt_b13_b176
  have c182 := ((c163.ext E157).other W175 (Ne.symm ne_u_b21))
  have lt_b21_b176 : (b21 : Nat) < b176 := (Nat.lt_of_lt_of_le c182.lt (Nat.le_of_eq g176.symm))
  have ne_b21_b176 : b21 ≠ b176 := Nat.ne_of_lt lt_b21_b176
  have c183 := ((c164.ext E157).other W175 (Ne.symm ne_u_b30))
  have lt_b30_b176 : (b30 : Nat) < b176 := (Nat.lt_of_lt_of_le c183.lt (Nat.le_of_eq g176.symm))
  have ne_b30_b176 : b30 ≠ b176 := Nat.ne_of_lt lt_b30_b176
  have c184 := ((c165.ext E157).other W175 (Ne.symm ne_u_b41))
  have lt_b41_b176 : (b41 : Nat) < b176 := (Nat.lt_of_lt_of_le c184.lt (Nat.le_of_eq g176.symm))
  have ne_b41_b176 : b41 ≠ b176 := Nat.ne_of_lt lt_b41_b176
  have c185 := ((c166.ext E157).other W175 (Ne.symm ne_u_b51))
  have lt_b51_b176 : (b51 : Nat) < b176 := (Nat.lt_of_lt_of_le c185.lt (Nat.le_of_eq g176.symm))
  have ne_b51_b176 : b51 ≠ b176 := Nat.ne_of_lt lt_b51_b176
  have c186 := ((c167.ext E157).other W175 (Ne.symm ne_u_b63))
  have lt_b63_b176 : (b63 : Nat) < b176 := (Nat.lt_of_lt_of_le c186.lt (Nat.le_of_eq g176.symm))
  have ne_b63_b176 : b63 ≠ b176 := Nat.ne_of_lt lt_b63_b176
  have c187 := ((c168.ext E157).other W175 (Ne.symm ne_u_b77))
  have lt_b77_b176 : (b77 : Nat) < b176 := (Nat.lt_of_lt_of_le c187.lt (Nat.le_of_eq g176.symm))
  have ne_b77_b176 : b77 ≠ b176 := Nat.ne_of_lt lt_b77_b176
  have c188 := ((c169.ext E157).other W175 (Ne.symm ne_u_b91))
  have lt_b91_b176 : (b91 : Nat) < b176 := (Nat.lt_of_lt_of_le c188.lt (Nat.le_of_eq g176.symm))
  have ne_b91_b176 : b91 ≠ b176 := Nat.ne_of_lt lt_b91_b176
  have c189 := ((c170.ext E157).other W175 (Ne.symm ne_u_b106))
  have lt_b106_b176 : (b106 : Nat) < b176 := (Nat.lt_of_lt_of_le c189.lt (Nat.le_of_eq g176.symm))
  have ne_b106_b176 : b106 ≠ b176 := Nat.ne_of_lt lt_b106_b176
  have c190 := ((c171.ext E157).other W175 (Ne.symm ne_u_b122))
  have lt_b122_b176 : (b122 : Nat) < b176 := (Nat.lt_of_lt_of_le c190.lt (Nat.le_of_eq g176.symm))
  have ne_b122_b176 : b122 ≠ b176 := Nat.ne_of_lt lt_b122_b176
  have c191 := ((c172.ext E157).other W175 (Ne.symm ne_u_b139))
  have lt_b139_b176 : (b139 : Nat) < b176 := (Nat.lt_of_lt_of_le c191.lt (Nat.le_of_eq g176.symm))
  have ne_b139_b176 : b139 ≠ b176 := Nat.ne_of_lt lt_b139_b176
  have c192 := (O157.other W175 (Ne.symm ne_u_b157))
  have lt_b157_b176 : (b157 : Nat) < b176 := (Nat.lt_of_lt_of_le c192.lt (Nat.le_of_eq g176.symm))
  have ne_b157_b176 : b157 ≠ b176 := Nat.ne_of_lt lt_b157_b176
  obtain ⟨lo176, X176, N176⟩ : ∃ L, Stand p l e ({ frames := 1, cells := 18, slots := 231, locals := 19 } : Room) s m #[(.ref u), (.ref la), (.int (4 : Int32)), (.int (-1 : Int32))] below meth c T176 L 15 195 ∧ Fr n0 L := ⟨_, X176, N175⟩
  refine OGo.st (fun t kk => st176 t kk) ?_
  show OGo p e below _ (T176.setTop (mkF m 133 #[vr u, vr la, vi (4 : Int32), vi (-1 : Int32), vi (1 : Int32), vi (16 : Int32), .unset, .unset, .unset] [(.ref b176), (.ref u)]))
  have c193 := (((((((((((((((((((((((((((((F0_partner.ext E2).other W5 (Or.inr (slot_ne (Or.inl (hw _ (List.mem_of_getElem? (i := 45) rfl))) (Or.inl (hw _ (List.mem_of_getElem? (i := 12) rfl))) (by decide) (t := (.array .int)) (t' := (.array .int)) (by decide) (by decide)))).ext E6).other W12 (Or.inr (slot_ne (Or.inl (hw _ (List.mem_of_getElem? (i := 45) rfl))) (Or.inl (hw _ (List.mem_of_getElem? (i := 14) rfl))) (by decide) (t := (.array .int)) (t' := (.array .int)) (by decide) (by decide)))).ext E13).other W20 (Or.inr (slot_ne (Or.inl (hw _ (List.mem_of_getElem? (i := 45) rfl))) (Or.inl (hw _ (List.mem_of_getElem? (i := 16) rfl))) (by decide) (t := (.array .int)) (t' := (.array .int)) (by decide) (by decide)))).ext E21).other W29 (Or.inr (slot_ne (Or.inl (hw _ (List.mem_of_getElem? (i := 45) rfl))) (Or.inl (hw _ (List.mem_of_getElem? (i := 18) rfl))) (by decide) (t := (.array .int)) (t' := (.array .int)) (by decide) (by decide)))).ext E30).other W39 (Or.inr (slot_ne (Or.inl (hw _ (List.mem_of_getElem? (i := 45) rfl))) (Or.inl (hw _ (List.mem_of_getElem? (i := 21) rfl))) (by decide) (t := (.array .int)) (t' := (.array .long)) (by decide) (by decide)))).ext E41).other W50 (Or.inr (slot_ne (Or.inl (hw _ (List.mem_of_getElem? (i := 45) rfl))) (Or.inr (hw _ (List.mem_of_getElem? (i := 23) rfl))) (by decide) (t := (.array .int)) (t' := (.array .int)) (by decide) (by decide)))).ext E51).other W62 (Or.inr (slot_ne (Or.inl (hw _ (List.mem_of_getElem? (i := 45) rfl))) (Or.inr (hw _ (List.mem_of_getElem? (i := 25) rfl))) (by decide) (t := (.array .int)) (t' := (.array .int)) (by decide) (by decide)))).ext E63).other W75 (Or.inr (slot_ne (Or.inl (hw _ (List.mem_of_getElem? (i := 45) rfl))) (Or.inr (hw _ (List.mem_of_getElem? (i := 27) rfl))) (by decide) (t := (.array .int)) (t' := (.array .int)) (by decide) (by decide)))).ext E77).other W90 (Or.inr (slot_ne (Or.inl (hw _ (List.mem_of_getElem? (i := 45) rfl))) (Or.inl (hw _ (List.mem_of_getElem? (i := 33) rfl))) (by decide) (t := (.array .int)) (t' := (.array .int)) (by decide) (by decide)))).ext E91).other W105 (Or.inr (slot_ne (Or.inl (hw _ (List.mem_of_getElem? (i := 45) rfl))) (Or.inl (hw _ (List.mem_of_getElem? (i := 35) rfl))) (by decide) (t := (.array .int)) (t' := (.array .int)) (by decide) (by decide)))).ext E106).other W121 (Or.inr (slot_ne (Or.inl (hw _ (List.mem_of_getElem? (i := 45) rfl))) (Or.inl (hw _ (List.mem_of_getElem? (i := 37) rfl))) (by decide) (t := (.array .int)) (t' := (.array .int)) (by decide) (by decide)))).ext E122).other W138 (Or.inr (slot_ne (Or.inl (hw _ (List.mem_of_getElem? (i := 45) rfl))) (Or.inl (hw _ (List.mem_of_getElem? (i := 39) rfl))) (by decide) (t := (.array .int)) (t' := (.array .int)) (by decide) (by decide)))).ext E139).other W156 (Or.inr (slot_ne (Or.inl (hw _ (List.mem_of_getElem? (i := 45) rfl))) (Or.inl (hw _ (List.mem_of_getElem? (i := 41) rfl))) (by decide) (t := (.array .int)) (t' := (.array .int)) (by decide) (by decide)))).ext E157).other W175 (Or.inr (slot_ne (Or.inl (hw _ (List.mem_of_getElem? (i := 45) rfl))) (Or.inl (hw _ (List.mem_of_getElem? (i := 43) rfl))) (by decide) (t := (.array .int)) (t' := (.array .int)) (by decide) (by decide)))).ext E176)
  have c194 := (c177.ext E176)
  obtain ⟨T195, h195, X195, e195, W195, st195⟩ := putF X176 hx hZ hown (host := "") (Or.inl (hw _ (List.mem_of_getElem? (i := 44) rfl))) Via.refl e176 c193 c194 (Or.inl (hw _ (List.mem_of_getElem? (i := 45) rfl))) (hw _ (List.mem_of_getElem? (i := 2) rfl)) (ty := (.array .int)) (by decide) rfl rfl (g := (mkF m 133 #[vr u, vr la, vi (4 : Int32), vi (-1 : Int32), vi (1 : Int32), vi (16 : Int32), .unset, .unset, .unset] [(.ref b176), (.ref u)])) rfl rfl (hb hby dC_133)
  have Fw195 := c193.same W195
  have N195 := Fr.snoc X195 N176 gu
  have Z195 : n0 ≤ h195.size := Nat.le_trans Z176 (Keep.of_wr W195).1
  obtain ⟨lo195, X195, N195⟩ : ∃ L, Stand p l e ({ frames := 1, cells := 18, slots := 231, locals := 19 } : Room) s m #[(.ref u), (.ref la), (.int (4 : Int32)), (.int (-1 : Int32))] below meth c T195 L 15 195 ∧ Fr n0 L := ⟨_, X195, N195⟩
  refine OGo.st (fun t kk => st195 t kk) ?_
  show OGo p e below _ (T195.setTop (mkF m 136 #[vr u, vr la, vi (4 : Int32), vi (-1 : Int32), vi (1 : Int32), vi (16 : Int32), .unset, .unset, .unset] []))
  refine OGo.st (fun t kk => XS.aloadN X195.here hx rfl (hb hby dC_136) rfl rfl kk) ?_
  show OGo p e below _ (T195.setTop (mkF m 137 #[vr u, vr la, vi (4 : Int32), vi (-1 : Int32), vi (1 : Int32), vi (16 : Int32), .unset, .unset, .unset] [(.ref u)]))
  refine OGo.st (fun t kk => XS.iload X195.here hx rfl (hb hby dC_137) rfl kk) ?_
  show OGo p e below _ (T195.setTop (mkF m 139 #[vr u, vr la, vi (4 : Int32), vi (-1 : Int32), vi (1 : Int32), vi (16 : Int32), .unset, .unset, .unset] [(.int (16 : Int32)), (.ref u)]))
  obtain ⟨T196, h196, k196, X196, e196, E196, A196, st196⟩ := newP X195 hx hZ (hw _ (List.mem_of_getElem? (i := 19) rfl)) e195 (g := (mkF m 139 #[vr u, vr la, vi (4 : Int32), vi (-1 : Int32), vi (1 : Int32), vi (16 : Int32), .unset, .unset, .unset] [(.int (16 : Int32)), (.ref u)])) rfl (hb hby dC_139) rfl (by decide) (cap := 16) (by decide) (by decide) (by decide) (by decide)
  obtain ⟨b196, g196⟩ : ∃ z, z = h195.size := ⟨_, rfl⟩
  rw [← g196] at A196 st196
  have O196 : OL Z h196 b196 16 (fun _ => 0) := OL.new A196 (by decide)
  have gb196 : n0 ≤ b196 := Nat.le_trans Z195 (Nat.le_of_eq g196.symm)
  have Z196 : n0 ≤ h196.size := Nat.le_trans Z195 E196.1
  have c197 := (c194.wr W195)
  have lt_u_b196 : (u : Nat) < b196 := (Nat.lt_of_lt_of_le c197.lt (Nat.le_of_eq g196.symm))
  have ne_u_b196 : u ≠ b196 := Nat.ne_of_lt lt_u_b196
  have c198 := ((c178.ext E176).other W195 (Ne.symm hul))
  have lt_la_b196 : (la : Nat) < b196 := (Nat.lt_of_lt_of_le c198.lt (Nat.le_of_eq g196.symm))
  have ne_la_b196 : la ≠ b196 := Nat.ne_of_lt lt_la_b196
  have c199 := ((c179.ext E176).other W195 (Ne.symm ne_u_b2))
  have lt_b2_b196 : (b2 : Nat) < b196 := (Nat.lt_of_lt_of_le c199.lt (Nat.le_of_eq g196.symm))
  have ne_b2_b196 : b2 ≠ b196 := Nat.ne_of_lt lt_b2_b196
  have c200 := ((c180.ext E176).other W195 (Ne.symm ne_u_b6))
  have lt_b6_b196 : (b6 : Nat) < b196 := (Nat.lt_of_lt_of_le c200.lt (Nat.le_of_eq g196.symm))
  have ne_b6_b196 : b6 ≠ b196 := Nat.ne_of_lt lt_b6_b196
  have c201 := ((c181.ext E176).other W195 (Ne.symm ne_u_b13))
  have lt_b13_b196 : (b13 : Nat) < b196 := (Nat.lt_of_lt_of_le c201.lt (Nat.le_of_eq g196.symm))
  have ne_b13_b196 : b13 ≠ b196 := Nat.ne_of_lt lt_b13_b196
  have c202 := ((c182.ext E176).other W195 (Ne.symm ne_u_b21))
  have lt_b21_b196 : (b21 : Nat) < b196 := (Nat.lt_of_lt_of_le c202.lt (Nat.le_of_eq g196.symm))
  have ne_b21_b196 : b21 ≠ b196 := Nat.ne_of_lt lt_b21_b196
  have c203 := ((c183.ext E176).other W195 (Ne.symm ne_u_b30))
  have lt_b30_b196 : (b30 : Nat) < b196 := (Nat.lt_of_lt_of_le c203.lt (Nat.le_of_eq g196.symm))
  have ne_b30_b196 : b30 ≠ b196 := Nat.ne_of_lt lt_b30_b196
  have c204 := ((c184.ext E176).other W195 (Ne.symm ne_u_b41))
  have lt_b41_b196 : (b41 : Nat) < b196 := (Nat.lt_of_lt_of_le c204.lt (Nat.le_of_eq g196.symm))
  have ne_b41_b196 : b41 ≠ b196 := Nat.ne_of_lt lt_b41_b196
  have c205 := ((c185.ext E176).other W195 (Ne.symm ne_u_b51))
  have lt_b51_b196 : (b51 : Nat) < b196 := (Nat.lt_of_lt_of_le c205.lt (Nat.le_of_eq g196.symm))
  have ne_b51_b196 : b51 ≠ b196 := Nat.ne_of_lt lt_b51_b196
  have c206 := ((c186.ext E176).other W195 (Ne.symm ne_u_b63))
  have lt_b63_b196 : (b63 : Nat) < b196 := (Nat.lt_of_lt_of_le c206.lt (Nat.le_of_eq g196.symm))
  have ne_b63_b196 : b63 ≠ b196 := Nat.ne_of_lt lt_b63_b196
  have c207 := ((c187.ext E176).other W195 (Ne.symm ne_u_b77))
  have lt_b77_b196 : (b77 : Nat) < b196 := (Nat.lt_of_lt_of_le c207.lt (Nat.le_of_eq g196.symm))
  have ne_b77_b196 : b77 ≠ b196 := Nat.ne_of_lt lt_b77_b196
  have c208 := ((c188.ext E176).other W195 (Ne.symm ne_u_b91))
  have lt_b91_b196 : (b91 : Nat) < b196 := (Nat.lt_of_lt_of_le c208.lt (Nat.le_of_eq g196.symm))
  have ne_b91_b196 : b91 ≠ b196 := Nat.ne_of_lt lt_b91_b196
  have c209 := ((c189.ext E176).other W195 (Ne.symm ne_u_b106))
  have lt_b106_b196 : (b106 : Nat) < b196 := (Nat.lt_of_lt_of_le c209.lt (Nat.le_of_eq g196.symm))
  have ne_b106_b196 : b106 ≠ b196 := Nat.ne_of_lt lt_b106_b196
  have c210 := ((c190.ext E176).other W195 (Ne.symm ne_u_b122))
  have lt_b122_b196 : (b122 : Nat) < b196 := (Nat.lt_of_lt_of_le c210.lt (Nat.le_of_eq g196.symm))
  have ne_b122_b196 : b122 ≠ b196 := Nat.ne_of_lt lt_b122_b196
  have c211 := ((c191.ext E176).other W195 (Ne.symm ne_u_b139))
  have lt_b139_b196 : (b139 : Nat) < b196 := (Nat.lt_of_lt_of_le c211.lt (Nat.le_of_eq g196.symm))
  have ne_b139_b196 : b139 ≠ b196 := Nat.ne_of_lt lt_b139_b196
  have c212 := ((c192.ext E176).other W195 (Ne.symm ne_u_b157))
  have lt_b157_b196 : (b157 : Nat) < b196 := (Nat.lt_of_lt_of_le c212.lt (Nat.le_of_eq g196.symm))
  have ne_b157_b196 : b157 ≠ b196 := Nat.ne_of_lt lt_b157_b196
  have c213 := (O176.other W195 (Ne.symm ne_u_b176))
  have lt_b176_b196 : (b176 : Nat) < b196 := (Nat.lt_of_lt_of_le c213.lt (Nat.le_of_eq g196.symm))
  have ne_b176_b196 : b176 ≠ b196 := Nat.ne_of_lt lt_b176_b196
  obtain ⟨lo196, X196, N196⟩ : ∃ L, Stand p l e ({ frames := 1, cells := 18, slots := 231, locals := 19 } : Room) s m #[(.ref u), (.ref la), (.int (4 : Int32)), (.int (-1 : Int32))] below meth c T196 L 16 211 ∧ Fr n0 L := ⟨_, X196, N195⟩
  refine OGo.st (fun t kk => st196 t kk) ?_
  show OGo p e below _ (T196.setTop (mkF m 141 #[vr u, vr la, vi (4 : Int32), vi (-1 : Int32), vi (1 : Int32), vi (16 : Int32), .unset, .unset, .unset] [(.ref b196), (.ref u)]))
  have c214 := (((((((((((((((((((((((((((((((F0_partnerStamp.ext E2).other W5 (Or.inr (slot_ne (Or.inl (hw _ (List.mem_of_getElem? (i := 47) rfl))) (Or.inl (hw _ (List.mem_of_getElem? (i := 12) rfl))) (by decide) (t := (.array .long)) (t' := (.array .int)) (by decide) (by decide)))).ext E6).other W12 (Or.inr (slot_ne (Or.inl (hw _ (List.mem_of_getElem? (i := 47) rfl))) (Or.inl (hw _ (List.mem_of_getElem? (i := 14) rfl))) (by decide) (t := (.array .long)) (t' := (.array .int)) (by decide) (by decide)))).ext E13).other W20 (Or.inr (slot_ne (Or.inl (hw _ (List.mem_of_getElem? (i := 47) rfl))) (Or.inl (hw _ (List.mem_of_getElem? (i := 16) rfl))) (by decide) (t := (.array .long)) (t' := (.array .int)) (by decide) (by decide)))).ext E21).other W29 (Or.inr (slot_ne (Or.inl (hw _ (List.mem_of_getElem? (i := 47) rfl))) (Or.inl (hw _ (List.mem_of_getElem? (i := 18) rfl))) (by decide) (t := (.array .long)) (t' := (.array .int)) (by decide) (by decide)))).ext E30).other W39 (Or.inr (slot_ne (Or.inl (hw _ (List.mem_of_getElem? (i := 47) rfl))) (Or.inl (hw _ (List.mem_of_getElem? (i := 21) rfl))) (by decide) (t := (.array .long)) (t' := (.array .long)) (by decide) (by decide)))).ext E41).other W50 (Or.inr (slot_ne (Or.inl (hw _ (List.mem_of_getElem? (i := 47) rfl))) (Or.inr (hw _ (List.mem_of_getElem? (i := 23) rfl))) (by decide) (t := (.array .long)) (t' := (.array .int)) (by decide) (by decide)))).ext E51).other W62 (Or.inr (slot_ne (Or.inl (hw _ (List.mem_of_getElem? (i := 47) rfl))) (Or.inr (hw _ (List.mem_of_getElem? (i := 25) rfl))) (by decide) (t := (.array .long)) (t' := (.array .int)) (by decide) (by decide)))).ext E63).other W75 (Or.inr (slot_ne (Or.inl (hw _ (List.mem_of_getElem? (i := 47) rfl))) (Or.inr (hw _ (List.mem_of_getElem? (i := 27) rfl))) (by decide) (t := (.array .long)) (t' := (.array .int)) (by decide) (by decide)))).ext E77).other W90 (Or.inr (slot_ne (Or.inl (hw _ (List.mem_of_getElem? (i := 47) rfl))) (Or.inl (hw _ (List.mem_of_getElem? (i := 33) rfl))) (by decide) (t := (.array .long)) (t' := (.array .int)) (by decide) (by decide)))).ext E91).other W105 (Or.inr (slot_ne (Or.inl (hw _ (List.mem_of_getElem? (i := 47) rfl))) (Or.inl (hw _ (List.mem_of_getElem? (i := 35) rfl))) (by decide) (t := (.array .long)) (t' := (.array .int)) (by decide) (by decide)))).ext E106).other W121 (Or.inr (slot_ne (Or.inl (hw _ (List.mem_of_getElem? (i := 47) rfl))) (Or.inl (hw _ (List.mem_of_getElem? (i := 37) rfl))) (by decide) (t := (.array .long)) (t' := (.array .int)) (by decide) (by decide)))).ext E122).other W138 (Or.inr (slot_ne (Or.inl (hw _ (List.mem_of_getElem? (i := 47) rfl))) (Or.inl (hw _ (List.mem_of_getElem? (i := 39) rfl))) (by decide) (t := (.array .long)) (t' := (.array .int)) (by decide) (by decide)))).ext E139).other W156 (Or.inr (slot_ne (Or.inl (hw _ (List.mem_of_getElem? (i := 47) rfl))) (Or.inl (hw _ (List.mem_of_getElem? (i := 41) rfl))) (by decide) (t := (.array .long)) (t' := (.array .int)) (by decide) (by decide)))).ext E157).other W175 (Or.inr (slot_ne (Or.inl (hw _ (List.mem_of_getElem? (i := 47) rfl))) (Or.inl (hw _ (List.mem_of_getElem? (i := 43) rfl))) (by decide) (t := (.array .long)) (t' := (.array .int)) (by decide) (by decide)))).ext E176).other W195 (Or.inr (slot_ne (Or.inl (hw _ (List.mem_of_getElem? (i := 47) rfl))) (Or.inl (hw _ (List.mem_of_getElem? (i := 45) rfl))) (by decide) (t := (.array .long)) (t' := (.array .int)) (by decide) (by decide)))).ext E196)
  have c215 := (c197.ext E196)
  obtain ⟨T216, h216, X216, e216, W216, st216⟩ := putF X196 hx hZ hown (host := "") (Or.inl (hw _ (List.mem_of_getElem? (i := 46) rfl))) Via.refl e196 c214 c215 (Or.inl (hw _ (List.mem_of_getElem? (i := 47) rfl))) (hw _ (List.mem_of_getElem? (i := 2) rfl)) (ty := (.array .long)) (by decide) rfl rfl (g := (mkF m 141 #[vr u, vr la, vi (4 : Int32), vi (-1 : Int32), vi (1 : Int32), vi (16 : Int32), .unset, .unset, .unset] [(.ref b196), (.ref u)])) rfl rfl (hb hby dC_141)
  have Fw216 := c214.same W216
  have N216 := Fr.snoc X216 N196 gu
  have Z216 : n0 ≤ h216.size := Nat.le_trans Z196 (Keep.of_wr W216).1
  obtain ⟨lo216, X216, N216⟩ : ∃ L, Stand p l e ({ frames := 1, cells := 18, slots := 231, locals := 19 } : Room) s m #[(.ref u), (.ref la), (.int (4 : Int32)), (.int (-1 : Int32))] below meth c T216 L 16 211 ∧ Fr n0 L := ⟨_, X216, N216⟩
  refine OGo.st (fun t kk => st216 t kk) ?_
  show OGo p e below _ (T216.setTop (mkF m 144 #[vr u, vr la, vi (4 : Int32), vi (-1 : Int32), vi (1 : Int32), vi (16 : Int32), .unset, .unset, .unset] []))
  refine OGo.st (fun t kk => XS.aloadN X216.here hx rfl (hb hby dC_144) rfl rfl kk) ?_
  show OGo p e below _ (T216.setTop (mkF m 145 #[vr u, vr la, vi (4 : Int32), vi (-1 : Int32), vi (1 : Int32), vi (16 : Int32), .unset, .unset, .unset] [(.ref u)]))
  refine OGo.st (fun t kk => XS.iload X216.here hx rfl (hb hby dC_145) rfl kk) ?_
  show OGo p e below _ (T216.setTop (mkF m 147 #[vr u, vr la, vi (4 : Int32), vi (-1 : Int32), vi (1 : Int32), vi (16 : Int32), .unset, .unset, .unset] [(.int (16 : Int32)), (.ref u)]))
  obtain ⟨T217, h217, k217, X217, e217, E217, A217, st217⟩ := newP X216 hx hZ (hw _ (List.mem_of_getElem? (i := 19) rfl)) e216 (g := (mkF m 147 #[vr u, vr la, vi (4 : Int32), vi (-1 : Int32), vi (1 : Int32), vi (16 : Int32), .unset, .unset, .unset] [(.int (16 : Int32)), (.ref u)])) rfl (hb hby dC_147) rfl (by decide) (cap := 16) (by decide) (by decide) (by decide) (by decide)
  obtain ⟨b217, g217⟩ : ∃ z, z = h216.size := ⟨_, rfl⟩
  rw [← g217] at A217 st217
  have O217 : OL Z h217 b217 16 (fun _ => 0) := OL.new A217 (by decide)
  have gb217 : n0 ≤ b217 := Nat.le_trans Z216 (Nat.le_of_eq g217.symm)
  have Z217 : n0 ≤ h217.size := Nat.le_trans Z216 E217.1
  have c218 := (c215.wr W216)
  have lt_u_b217 : (u : Nat) < b217 := (Nat.lt_of_lt_of_le c218.lt (Nat.le_of_eq g217.symm))
  have ne_u_b217 : u ≠ b217 := Nat.ne_of_lt lt_u_b217
  have c219 := ((c198.ext E196).other W216 (Ne.symm hul))
  have lt_la_b217 : (la : Nat) < b217 := (Nat.lt_of_lt_of_le c219.lt (Nat.le_of_eq g217.symm))
  have ne_la_b217 : la ≠ b217 := Nat.ne_of_lt lt_la_b217
  have c220 := ((c199.ext E196).other W216 (Ne.symm ne_u_b2))
  have lt_b2_b217 : (b2 : Nat) < b217 := (Nat.lt_of_lt_of_le c220.lt (Nat.le_of_eq g217.symm))
  have ne_b2_b217 : b2 ≠ b217 := Nat.ne_of_lt lt_b2_b217
  have c221 := ((c200.ext E196).other W216 (Ne.symm ne_u_b6))
  have lt_b6_b217 : (b6 : Nat) < b217 := (Nat.lt_of_lt_of_le c221.lt (Nat.le_of_eq g217.symm))
  have ne_b6_b217 : b6 ≠ b217 := Nat.ne_of_lt lt_b6_b217
  have c222 := ((c201.ext E196).other W216 (Ne.symm ne_u_b13))
  have lt_b13_b217 : (b13 : Nat) < b217 := (Nat.lt_of_lt_of_le c222.lt (Nat.le_of_eq g217.symm))
  have ne_b13_b217 : b13 ≠ b217 := Nat.ne_of_lt lt_b13_b217
  have c223 := ((c202.ext E196).other W216 (Ne.symm ne_u_b21))
  have lt_b21_b217 : (b21 : Nat) < b217 := (Nat.lt_of_lt_of_le c223.lt (Nat.le_of_eq g217.symm))
  have ne_b21_b217 : b21 ≠ b217 := Nat.ne_of_lt lt_b21_b217
  have c224 := ((c203.ext E196).other W216 (Ne.symm ne_u_b30))
  have lt_b30_b217 : (b30 : Nat) < b217 := (Nat.lt_of_lt_of_le c224.lt (Nat.le_of_eq g217.symm))
  have ne_b30_b217 : b30 ≠ b217 := Nat.ne_of_lt lt_b30_b217
  have c225 := ((c204.ext E196).other W216 (Ne.symm ne_u_b41))
  have lt_b41_b217 : (b41 : Nat) < b217 := (Nat.lt_of_lt_of_le c225.lt (Nat.le_of_eq g217.symm))
  have ne_b41_b217 : b41 ≠ b217 := Nat.ne_of_lt lt_b41_b217
  have c226 := ((c205.ext E196).other W216 (Ne.symm ne_u_b51))
  have lt_b51_b217 : (b51 : Nat) < b217 := (Nat.lt_of_lt_of_le c226.lt (Nat.le_of_eq g217.symm))
  have ne_b51_b217 : b51 ≠ b217 := Nat.ne_of_lt lt_b51_b217
  have c227 := ((c206.ext E196).other W216 (Ne.symm ne_u_b63))
  have lt_b63_b217 : (b63 : Nat) < b217 := (Nat.lt_of_lt_of_le c227.lt (Nat.le_of_eq g217.symm))
  have ne_b63_b217 : b63 ≠ b217 := Nat.ne_of_lt lt_b63_b217
  have c228 := ((c207.ext E196).other W216 (Ne.symm ne_u_b77))
  have lt_b77_b217 : (b77 : Nat) < b217 := (Nat.lt_of_lt_of_le c228.lt (Nat.le_of_eq g217.symm))
  have ne_b77_b217 : b77 ≠ b217 := Nat.ne_of_lt lt_b77_b217
  have c229 := ((c208.ext E196).other W216 (Ne.symm ne_u_b91))
  have lt_b91_b217 : (b91 : Nat) < b217 := (Nat.lt_of_lt_of_le c229.lt (Nat.le_of_eq g217.symm))
  have ne_b91_b217 : b91 ≠ b217 := Nat.ne_of_lt lt_b91_b217
  have c230 := ((c209.ext E196).other W216 (Ne.symm ne_u_b106))
  have lt_b106_b217 : (b106 : Nat) < b217 := (Nat.lt_of_lt_of_le c230.lt (Nat.le_of_eq g217.symm))
  have ne_b106_b217 : b106 ≠ b217 := Nat.ne_of_lt lt_b106_b217
  have c231 := ((c210.ext E196).other W216 (Ne.symm ne_u_b122))
  have lt_b122_b217 : (b122 : Nat) < b217 := (Nat.lt_of_lt_of_le c231.lt (Nat.le_of_eq g217.symm))
  have ne_b122_b217 : b122 ≠ b217 := Nat.ne_of_lt lt_b122_b217
  have c232 := ((c211.ext E196).other W216 (Ne.symm ne_u_b139))
  have lt_b139_b217 : (b139 : Nat) < b217 := (Nat.lt_of_lt_of_le c232.lt (Nat.le_of_eq g217.symm))
  have ne_b139_b217 : b139 ≠ b217 := Nat.ne_of_lt lt_b139_b217
  have c233 := ((c212.ext E196).other W216 (Ne.symm ne_u_b157))
  have lt_b157_b217 : (b157 : Nat) < b217 := (Nat.lt_of_lt_of_le c233.lt (Nat.le_of_eq g217.symm))
  have ne_b157_b217 : b157 ≠ b217 := Nat.ne_of_lt lt_b157_b217
  have c234 := ((c213.ext E196).other W216 (Ne.symm ne_u_b176))
  have lt_b176_b217 : (b176 : Nat) < b217 := (Nat.lt_of_lt_of_le c234.lt (Nat.le_of_eq g217.symm))
  have ne_b176_b217 : b176 ≠ b217 := Nat.ne_of_lt lt_b176_b217
  have c235 := (O196.other W216 (Ne.symm ne_u_b196))
  have lt_b196_b217 : (b196 : Nat) < b217 := (Nat.lt_of_lt_of_le c235.lt (Nat.le_of_eq g217.symm))
  have ne_b196_b217 : b196 ≠ b217 := Nat.ne_of_lt lt_b196_b217
  obtain ⟨lo217, X217, N217⟩ : ∃ L, Stand p l e ({ frames := 1, cells := 18, slots := 231, locals := 19 } : Room) s m #[(.ref u), (.ref la), (.int (4 : Int32)), (.int (-1 : Int32))] below meth c T217 L 17 227 ∧ Fr n0 L := ⟨_, X217, N216⟩
  refine OGo.st (fun t kk => st217 t kk) ?_
  show OGo p e below _ (T217.setTop (mkF m 149 #[vr u, vr la, vi (4 : Int32), vi (-1 : Int32), vi (1 : Int32), vi (16 : Int32), .unset, .unset, .unset] [(.ref b217), (.ref u)]))
  have c236 := (((((((((((((((((((((((((((((((((F0_markStamp.ext E2).other W5 (Or.inr (slot_ne (Or.inl (hw _ (List.mem_of_getElem? (i := 49) rfl))) (Or.inl (hw _ (List.mem_of_getElem? (i := 12) rfl))) (by decide) (t := (.array .long)) (t' := (.array .int)) (by decide) (by decide)))).ext E6).other W12 (Or.inr (slot_ne (Or.inl (hw _ (List.mem_of_getElem? (i := 49) rfl))) (Or.inl (hw _ (List.mem_of_getElem? (i := 14) rfl))) (by decide) (t := (.array .long)) (t' := (.array .int)) (by decide) (by decide)))).ext E13).other W20 (Or.inr (slot_ne (Or.inl (hw _ (List.mem_of_getElem? (i := 49) rfl))) (Or.inl (hw _ (List.mem_of_getElem? (i := 16) rfl))) (by decide) (t := (.array .long)) (t' := (.array .int)) (by decide) (by decide)))).ext E21).other W29 (Or.inr (slot_ne (Or.inl (hw _ (List.mem_of_getElem? (i := 49) rfl))) (Or.inl (hw _ (List.mem_of_getElem? (i := 18) rfl))) (by decide) (t := (.array .long)) (t' := (.array .int)) (by decide) (by decide)))).ext E30).other W39 (Or.inr (slot_ne (Or.inl (hw _ (List.mem_of_getElem? (i := 49) rfl))) (Or.inl (hw _ (List.mem_of_getElem? (i := 21) rfl))) (by decide) (t := (.array .long)) (t' := (.array .long)) (by decide) (by decide)))).ext E41).other W50 (Or.inr (slot_ne (Or.inl (hw _ (List.mem_of_getElem? (i := 49) rfl))) (Or.inr (hw _ (List.mem_of_getElem? (i := 23) rfl))) (by decide) (t := (.array .long)) (t' := (.array .int)) (by decide) (by decide)))).ext E51).other W62 (Or.inr (slot_ne (Or.inl (hw _ (List.mem_of_getElem? (i := 49) rfl))) (Or.inr (hw _ (List.mem_of_getElem? (i := 25) rfl))) (by decide) (t := (.array .long)) (t' := (.array .int)) (by decide) (by decide)))).ext E63).other W75 (Or.inr (slot_ne (Or.inl (hw _ (List.mem_of_getElem? (i := 49) rfl))) (Or.inr (hw _ (List.mem_of_getElem? (i := 27) rfl))) (by decide) (t := (.array .long)) (t' := (.array .int)) (by decide) (by decide)))).ext E77).other W90 (Or.inr (slot_ne (Or.inl (hw _ (List.mem_of_getElem? (i := 49) rfl))) (Or.inl (hw _ (List.mem_of_getElem? (i := 33) rfl))) (by decide) (t := (.array .long)) (t' := (.array .int)) (by decide) (by decide)))).ext E91).other W105 (Or.inr (slot_ne (Or.inl (hw _ (List.mem_of_getElem? (i := 49) rfl))) (Or.inl (hw _ (List.mem_of_getElem? (i := 35) rfl))) (by decide) (t := (.array .long)) (t' := (.array .int)) (by decide) (by decide)))).ext E106).other W121 (Or.inr (slot_ne (Or.inl (hw _ (List.mem_of_getElem? (i := 49) rfl))) (Or.inl (hw _ (List.mem_of_getElem? (i := 37) rfl))) (by decide) (t := (.array .long)) (t' := (.array .int)) (by decide) (by decide)))).ext E122).other W138 (Or.inr (slot_ne (Or.inl (hw _ (List.mem_of_getElem? (i := 49) rfl))) (Or.inl (hw _ (List.mem_of_getElem? (i := 39) rfl))) (by decide) (t := (.array .long)) (t' := (.array .int)) (by decide) (by decide)))).ext E139).other W156 (Or.inr (slot_ne (Or.inl (hw _ (List.mem_of_getElem? (i := 49) rfl))) (Or.inl (hw _ (List.mem_of_getElem? (i := 41) rfl))) (by decide) (t := (.array .long)) (t' := (.array .int)) (by decide) (by decide)))).ext E157).other W175 (Or.inr (slot_ne (Or.inl (hw _ (List.mem_of_getElem? (i := 49) rfl))) (Or.inl (hw _ (List.mem_of_getElem? (i := 43) rfl))) (by decide) (t := (.array .long)) (t' := (.array .int)) (by decide) (by decide)))).ext E176).other W195 (Or.inr (slot_ne (Or.inl (hw _ (List.mem_of_getElem? (i := 49) rfl))) (Or.inl (hw _ (List.mem_of_getElem? (i := 45) rfl))) (by decide) (t := (.array .long)) (t' := (.array .int)) (by decide) (by decide)))).ext E196).other W216 (Or.inr (slot_ne (Or.inl (hw _ (List.mem_of_getElem? (i := 49) rfl))) (Or.inl (hw _ (List.mem_of_getElem? (i := 47) rfl))) (by decide) (t := (.array .long)) (t' := (.array .long)) (by decide) (by decide)))).ext E217)
  have c237 := (c218.ext E217)
  obtain ⟨T238, h238, X238, e238, W238, st238⟩ := putF X217 hx hZ hown (host := "") (Or.inl (hw _ (List.mem_of_getElem? (i := 48) rfl))) Via.refl e217 c236 c237 (Or.inl (hw _ (List.mem_of_getElem? (i := 49) rfl))) (hw _ (List.mem_of_getElem? (i := 2) rfl)) (ty := (.array .long)) (by decide) rfl rfl (g := (mkF m 149 #[vr u, vr la, vi (4 : Int32), vi (-1 : Int32), vi (1 : Int32), vi (16 : Int32), .unset, .unset, .unset] [(.ref b217), (.ref u)])) rfl rfl (hb hby dC_149)
  have Fw238 := c236.same W238
  have N238 := Fr.snoc X238 N217 gu
  have Z238 : n0 ≤ h238.size := Nat.le_trans Z217 (Keep.of_wr W238).1
  obtain ⟨lo238, X238, N238⟩ : ∃ L, Stand p l e ({ frames := 1, cells := 18, slots := 231, locals := 19 } : Room) s m #[(.ref u), (.ref la), (.int (4 : Int32)), (.int (-1 : Int32))] below meth c T238 L 17 227 ∧ Fr n0 L := ⟨_, X238, N238⟩
  refine OGo.st (fun t kk => st238 t kk) ?_
  show OGo p e below _ (T238.setTop (mkF m 152 #[vr u, vr la, vi (4 : Int32), vi (-1 : Int32), vi (1 : Int32), vi (16 : Int32), .unset, .unset, .unset] []))
  refine OGo.st (fun t kk => XS.aloadN X238.here hx rfl (hb hby dC_152) rfl rfl kk) ?_
  show OGo p e below _ (T238.setTop (mkF m 153 #[vr u, vr la, vi (4 : Int32), vi (-1 : Int32), vi (1 : Int32), vi (16 : Int32), .unset, .unset, .unset] [(.ref u)]))
  have c239 := ((((((((((((((((((((((((((((Fw20.ext E21).other W29 (Or.inr (slot_ne (Or.inl (hw _ (List.mem_of_getElem? (i := 16) rfl))) (Or.inl (hw _ (List.mem_of_getElem? (i := 18) rfl))) (by decide) (t := (.array .int)) (t' := (.array .int)) (by decide) (by decide)))).ext E30).other W39 (Or.inr (slot_ne (Or.inl (hw _ (List.mem_of_getElem? (i := 16) rfl))) (Or.inl (hw _ (List.mem_of_getElem? (i := 21) rfl))) (by decide) (t := (.array .int)) (t' := (.array .long)) (by decide) (by decide)))).ext E41).other W50 (Or.inr (slot_ne (Or.inl (hw _ (List.mem_of_getElem? (i := 16) rfl))) (Or.inr (hw _ (List.mem_of_getElem? (i := 23) rfl))) (by decide) (t := (.array .int)) (t' := (.array .int)) (by decide) (by decide)))).ext E51).other W62 (Or.inr (slot_ne (Or.inl (hw _ (List.mem_of_getElem? (i := 16) rfl))) (Or.inr (hw _ (List.mem_of_getElem? (i := 25) rfl))) (by decide) (t := (.array .int)) (t' := (.array .int)) (by decide) (by decide)))).ext E63).other W75 (Or.inr (slot_ne (Or.inl (hw _ (List.mem_of_getElem? (i := 16) rfl))) (Or.inr (hw _ (List.mem_of_getElem? (i := 27) rfl))) (by decide) (t := (.array .int)) (t' := (.array .int)) (by decide) (by decide)))).ext E77).other W90 (Or.inr (slot_ne (Or.inl (hw _ (List.mem_of_getElem? (i := 16) rfl))) (Or.inl (hw _ (List.mem_of_getElem? (i := 33) rfl))) (by decide) (t := (.array .int)) (t' := (.array .int)) (by decide) (by decide)))).ext E91).other W105 (Or.inr (slot_ne (Or.inl (hw _ (List.mem_of_getElem? (i := 16) rfl))) (Or.inl (hw _ (List.mem_of_getElem? (i := 35) rfl))) (by decide) (t := (.array .int)) (t' := (.array .int)) (by decide) (by decide)))).ext E106).other W121 (Or.inr (slot_ne (Or.inl (hw _ (List.mem_of_getElem? (i := 16) rfl))) (Or.inl (hw _ (List.mem_of_getElem? (i := 37) rfl))) (by decide) (t := (.array .int)) (t' := (.array .int)) (by decide) (by decide)))).ext E122).other W138 (Or.inr (slot_ne (Or.inl (hw _ (List.mem_of_getElem? (i := 16) rfl))) (Or.inl (hw _ (List.mem_of_getElem? (i := 39) rfl))) (by decide) (t := (.array .int)) (t' := (.array .int)) (by decide) (by decide)))).ext E139).other W156 (Or.inr (slot_ne (Or.inl (hw _ (List.mem_of_getElem? (i := 16) rfl))) (Or.inl (hw _ (List.mem_of_getElem? (i := 41) rfl))) (by decide) (t := (.array .int)) (t' := (.array .int)) (by decide) (by decide)))).ext E157).other W175 (Or.inr (slot_ne (Or.inl (hw _ (List.mem_of_getElem? (i := 16) rfl))) (Or.inl (hw _ (List.mem_of_getElem? (i := 43) rfl))) (by decide) (t := (.array .int)) (t' := (.array .int)) (by decide) (by decide)))).ext E176).other W195 (Or.inr (slot_ne (Or.inl (hw _ (List.mem_of_getElem? (i := 16) rfl))) (Or.inl (hw _ (List.mem_of_getElem? (i := 45) rfl))) (by decide) (t := (.array .int)) (t' := (.array .int)) (by decide) (by decide)))).ext E196).other W216 (Or.inr (slot_ne (Or.inl (hw _ (List.mem_of_getElem? (i := 16) rfl))) (Or.inl (hw _ (List.mem_of_getElem? (i := 47) rfl))) (by decide) (t := (.array .int)) (t' := (.array .long)) (by decide) (by decide)))).ext E217).other W238 (Or.inr (slot_ne (Or.inl (hw _ (List.mem_of_getElem? (i := 16) rfl))) (Or.inl (hw _ (List.mem_of_getElem? (i := 49) rfl))) (by decide) (t := (.array .int)) (t' := (.array .long)) (by decide) (by decide))))
  obtain ⟨T240, X240, e240, st240⟩ := getF X238 hx hZ hown (host := "") (Or.inl (hw _ (List.mem_of_getElem? (i := 15) rfl))) Via.refl e238 c239 (g := (mkF m 153 #[vr u, vr la, vi (4 : Int32), vi (-1 : Int32), vi (1 : Int32), vi (16 : Int32), .unset, .unset, .unset] [(.ref u)])) rfl rfl (hb hby dC_153)
  refine OGo.st (fun t kk => st240 t kk) ?_
  show OGo p e below _ (T240.setTop (mkF m 156 #[vr u, vr la, vi (4 : Int32), vi (-1 : Int32), vi (1 : Int32), vi (16 : Int32), .unset, .unset, .unset] [(.ref b13)]))
  refine OGo.st (fun t kk => XS.iconst X240.here hx rfl (hb hby dC_156) kk) ?_
  show OGo p e below _ (T240.setTop (mkF m 157 #[vr u, vr la, vi (4 : Int32), vi (-1 : Int32), vi (1 : Int32), vi (16 : Int32), .unset, .unset, .unset] [(.int (-1 : Int32)), (.ref b13)]))
  have c242 := ((c222.ext E217).other W238 (Ne.symm ne_u_b13))
  obtain ⟨_, _, ⟨T241, L241, k241, n241⟩, -, X241, ⟨Lc241, hQ241, l241, y241, z241⟩, st241⟩ := Jvm.LawKit.callS X240 hx (y := (⟨"java/util/Arrays", "fill", "([II)V"⟩ : MethodName)) hown (mvT hZ (hw _ (List.mem_of_getElem? (i := 50) rfl))) (mvT hZ (hw _ (List.mem_of_getElem? (i := 51) rfl))) (mvT hZ (hw _ (List.mem_of_getElem? (i := 52) rfl))) (mvT hZ (hw _ (List.mem_of_getElem? (i := 53) rfl))) (by decide) (backOf (W := 0) (rmF l Z a0 hw [] b13 (-1 : Int32) 16 (fun _ => 0) h238 n0 Z238 c242 (by omega) gb13) hZ (hw _ (List.mem_of_getElem? (i := 53) rfl)) (hw _ (List.mem_of_getElem? (i := 52) rfl)) (by decide) (by decide)) (g := (mkF m 157 #[vr u, vr la, vi (4 : Int32), vi (-1 : Int32), vi (1 : Int32), vi (16 : Int32), .unset, .unset, .unset] [(.int (-1 : Int32)), (.ref b13)])) rfl (by rw [hml]; rfl) (argsL := [(.ref b13), (.int (-1 : Int32))]) (rest := []) (lenOf pdC_1 rfl) rfl (by show 2 * 0 + _ ≤ _; exact Nat.le_of_eq rfl) (hb hby dC_157) (fun _ _ => ⟨rfl, e240, (by decide : 17 + 0 ≤ _), (by decide : 227 + 0 ≤ _)⟩)
  dsimp only [Pt.U, Pt.locs, Pt.cells, Pt.slots] at X241 l241 y241 z241 st241 hQ241
  subst l241 y241 z241
  obtain ⟨rfl, Nq241, Z241, K241, OF241⟩ := hQ241
  have N241 := Fr.app N238 Nq241
  obtain ⟨lo241, X241, N241⟩ : ∃ L, Stand p l e ({ frames := 1, cells := 18, slots := 231, locals := 19 } : Room) s m #[(.ref u), (.ref la), (.int (4 : Int32)), (.int (-1 : Int32))] below meth c T241 L 17 227 ∧ Fr n0 L := ⟨_, X241, N241⟩
  refine OGo.st (fun t kk => st241 t kk) ?_
  show OGo p e below _ (T241.setTop (mkF m 160 #[vr u, vr la, vi (4 : Int32), vi (-1 : Int32), vi (1 : Int32), vi (16 : Int32), .unset, .unset, .unset] []))
  refine OGo.st (fun t kk => XS.iloadN X241.here hx rfl (hb hby dC_160) rfl kk) ?_
  show OGo p e below _ (T241.setTop (mkF m 161 #[vr u, vr la, vi (4 : Int32), vi (-1 : Int32), vi (1 : Int32), vi (16 : Int32), .unset, .unset, .unset] [(.int (4 : Int32))]))
  obtain ⟨T243, h243, k243, X243, e243, E243, A243, st243⟩ := newP X241 hx hZ (hw _ (List.mem_of_getElem? (i := 4) rfl)) rfl (g := (mkF m 161 #[vr u, vr la, vi (4 : Int32), vi (-1 : Int32), vi (1 : Int32), vi (16 : Int32), .unset, .unset, .unset] [(.int (4 : Int32))])) rfl (hb hby dC_161) rfl (by decide) (cap := 4) (by decide) (by decide) (by decide) (by decide)
  obtain ⟨b243, g243⟩ : ∃ z, z = T241.heap.size := ⟨_, rfl⟩
  rw [← g243] at A243 st243
  have O243 : OA Z h243 b243 .int 4 (fun _ => 0) := OA.new A243 (by decide) rfl
  have gb243 : n0 ≤ b243 := Nat.le_trans Z241 (Nat.le_of_eq g243.symm)
  have Z243 : n0 ≤ h243.size := Nat.le_trans Z241 E243.1
  have c244 := ((c237.wr W238).keep K241)
  have lt_u_b243 : (u : Nat) < b243 := (Nat.lt_of_lt_of_le c244.lt (Nat.le_of_eq g243.symm))
  have ne_u_b243 : u ≠ b243 := Nat.ne_of_lt lt_u_b243
  have c245 := (((c219.ext E217).other W238 (Ne.symm hul)).keep K241 (ninS ne_la_b13 nin0))
  have lt_la_b243 : (la : Nat) < b243 := (Nat.lt_of_lt_of_le c245.lt (Nat.le_of_eq g243.symm))
  have ne_la_b243 : la ≠ b243 := Nat.ne_of_lt lt_la_b243
  have c246 := (((c220.ext E217).other W238 (Ne.symm ne_u_b2)).keep K241 (ninS ne_b2_b13 nin0))
  have lt_b2_b243 : (b2 : Nat) < b243 := (Nat.lt_of_lt_of_le c246.lt (Nat.le_of_eq g243.symm))
  have ne_b2_b243 : b2 ≠ b243 := Nat.ne_of_lt lt_b2_b243
  have c247 := (((c221.ext E217).other W238 (Ne.symm ne_u_b6)).keep K241 (ninS ne_b6_b13 nin0))
  have lt_b6_b243 : (b6 : Nat) < b243 := (Nat.lt_of_lt_of_le c247.lt (Nat.le_of_eq g243.symm))
  have ne_b6_b243 : b6 ≠ b243 := Nat.ne_of_lt lt_b6_b243
  have lt_b13_b243 : (b13 : Nat) < b243 := (Nat.lt_of_lt_of_le OF241.lt (Nat.le_of_eq g243.symm))
  have ne_b13_b243 : b13 ≠ b243 := Nat.ne_of_lt lt_b13_b243
  have c248 := (((c223.ext E217).other W238 (Ne.symm ne_u_b21)).keep K241 (ninS (Ne.symm ne_b13_b21) nin0))
  have lt_b21_b243 : (b21 : Nat) < b243 := (Nat.lt_of_lt_of_le c248.lt (Nat.le_of_eq g243.symm))
  have ne_b21_b243 : b21 ≠ b243 := Nat.ne_of_lt lt_b21_b243
  have c249 := (((c224.ext E217).other W238 (Ne.symm ne_u_b30)).keep K241 (ninS (Ne.symm ne_b13_b30) nin0))
  have lt_b30_b243 : (b30 : Nat) < b243 := (Nat.lt_of_lt_of_le c249.lt (Nat.le_of_eq g243.symm))
  have ne_b30_b243 : b30 ≠ b243 := Nat.ne_of_lt lt_b30_b243
  have c250 := (((c225.ext E217).other W238 (Ne.symm ne_u_b41)).keep K241 (ninS (Ne.symm ne_b13_b41) nin0))
  have lt_b41_b243 : (b41 : Nat) < b243 := (Nat.lt_of_lt_of_le c250.lt (Nat.le_of_eq g243.symm))
  have ne_b41_b243 : b41 ≠ b243 := Nat.ne_of_lt lt_b41_b243
  have c251 := (((c226.ext E217).other W238 (Ne.symm ne_u_b51)).keep K241 (ninS (Ne.symm ne_b13_b51) nin0))
  have lt_b51_b243 : (b51 : Nat) < b243 := (Nat.lt_of_lt_of_le c251.lt (Nat.le_of_eq g243.symm))
  have ne_b51_b243 : b51 ≠ b243 := Nat.ne_of_lt lt_b51_b243
  have c252 := (((c227.ext E217).other W238 (Ne.symm ne_u_b63)).keep K241 (ninS (Ne.symm ne_b13_b63) nin0))
  have lt_b63_b243 : (b63 : Nat) < b243 := (Nat.lt_of_lt_of_le c252.lt (Nat.le_of_eq g243.symm))
  have ne_b63_b243 : b63 ≠ b243 := Nat.ne_of_lt lt_b63_b243
  have c253 := (((c228.ext E217).other W238 (Ne.symm ne_u_b77)).keep K241 (ninS (Ne.symm ne_b13_b77) nin0))
  have lt_b77_b243 : (b77 : Nat) < b243 := (Nat.lt_of_lt_of_le c253.lt (Nat.le_of_eq g243.symm))
  have ne_b77_b243 : b77 ≠ b243 := Nat.ne_of_lt lt_b77_b243
  have c254 := (((c229.ext E217).other W238 (Ne.symm ne_u_b91)).keep K241 (ninS (Ne.symm ne_b13_b91) nin0))
  have lt_b91_b243 : (b91 : Nat) < b243 := (Nat.lt_of_lt_of_le c254.lt (Nat.le_of_eq g243.symm))
  have ne_b91_b243 : b91 ≠ b243 := Nat.ne_of_lt lt_b91_b243
  have c255 := (((c230.ext E217).other W238 (Ne.symm ne_u_b106)).keep K241 (ninS (Ne.symm ne_b13_b106) nin0))
  have lt_b106_b243 : (b106 : Nat) < b243 := (Nat.lt_of_lt_of_le c255.lt (Nat.le_of_eq g243.symm))
  have ne_b106_b243 : b106 ≠ b243 := Nat.ne_of_lt lt_b106_b243
  have c256 := (((c231.ext E217).other W238 (Ne.symm ne_u_b122)).keep K241 (ninS (Ne.symm ne_b13_b122) nin0))
  have lt_b122_b243 : (b122 : Nat) < b243 := (Nat.lt_of_lt_of_le c256.lt (Nat.le_of_eq g243.symm))
  have ne_b122_b243 : b122 ≠ b243 := Nat.ne_of_lt lt_b122_b243
  have c257 := (((c232.ext E217).other W238 (Ne.symm ne_u_b139)).keep K241 (ninS (Ne.symm ne_b13_b139) nin0))
  have lt_b139_b243 : (b139 : Nat) < b243 := (Nat.lt_of_lt_of_le c257.lt (Nat.le_of_eq g243.symm))
  have ne_b139_b243 : b139 ≠ b243 := Nat.ne_of_lt lt_b139_b243
  have c258 := (((c233.ext E217).other W238 (Ne.symm ne_u_b157)).keep K241 (ninS (Ne.symm ne_b13_b157) nin0))
  have lt_b157_b243 : (b157 : Nat) < b243 := (Nat.lt_of_lt_of_le c258.lt (Nat.le_of_eq g243.symm))
  have ne_b157_b243 : b157 ≠ b243 := Nat.ne_of_lt lt_b157_b243
  have c259 := (((c234.ext E217).other W238 (Ne.symm ne_u_b176)).keep K241 (ninS (Ne.symm ne_b13_b176) nin0))
  have lt_b176_b243 : (b176 : Nat) < b243 := (Nat.lt_of_lt_of_le c259.lt (Nat.le_of_eq g243.symm))
  have ne_b176_b243 : b176 ≠ b243 := Nat.ne_of_lt lt_b176_b243
  have c260 := (((c235.ext E217).other W238 (Ne.symm ne_u_b196)).keep K241 (ninS (Ne.symm ne_b13_b196) nin0))
  have lt_b196_b243 : (b196 : Nat) < b243 := (Nat.lt_of_lt_of_le c260.lt (Nat.le_of_eq g243.symm))
  have ne_b196_b243 : b196 ≠ b243 := Nat.ne_of_lt lt_b196_b243
  have c261 := ((O217.other W238 (Ne.symm ne_u_b217)).keep K241 (ninS (Ne.symm ne_b13_b217) nin0))
  have lt_b217_b243 : (b217 : Nat) < b243 := (Nat.lt_of_lt_of_le c261.lt (Nat.le_of_eq g243.symm))
  have ne_b217_b243 : b217 ≠ b243 := Nat.ne_of_lt lt_b217_b243
  obtain ⟨lo243, X243, N243⟩ : ∃ L, Stand p l e ({ frames := 1, cells := 18, slots := 231, locals := 19 } : Room) s m #[(.ref u), (.ref la), (.int (4 : Int32)), (.int (-1 : Int32))] below meth c T243 L 18 231 ∧ Fr n0 L := ⟨_, X243, N241⟩
  refine OGo.st (fun t kk => st243 t kk) ?_
  show OGo p e below _ (T243.setTop (mkF m 163 #[vr u, vr la, vi (4 : Int32), vi (-1 : Int32), vi (1 : Int32), vi (16 : Int32), .unset, .unset, .unset] [(.ref b243)]))
  refine OGo.st (fun t kk => XS.astore X243.here hx rfl (hb hby dC_163) rfl rfl (l' := #[vr u, vr la, vi (4 : Int32), vi (-1 : Int32), vi (1 : Int32), vi (16 : Int32), vr b243, .unset, .unset]) rfl kk) ?_
  show OGo p e below _ (T243.setTop (mkF m 165 #[vr u, vr la, vi (4 : Int32), vi (-1 : Int32), vi (1 : Int32), vi (16 : Int32), vr b243, .unset, .unset] []))
  refine OGo.st (fun t kk => XS.aload X243.here hx rfl (hb hby dC_165) rfl rfl kk) ?_
  show OGo p e below _ (T243.setTop (mkF m 167 #[vr u, vr la, vi (4 : Int32), vi (-1 : Int32), vi (1 : Int32), vi (16 : Int32), vr b243, .unset, .unset] [(.ref b243)]))
  refine OGo.st (fun t kk => XS.iconst X243.here hx rfl (hb hby dC_167) kk) ?_
  show OGo p e below _ (T243.setTop (mkF m 168 #[vr u, vr la, vi (4 : Int32), vi (-1 : Int32), vi (1 : Int32), vi (16 : Int32), vr b243, .unset, .unset] [(.int (-1 : Int32)), (.ref b243)]))
  obtain ⟨_, _, ⟨T262, L262, k262, n262⟩, -, X262, ⟨Lc262, hQ262, l262, y262, z262⟩, st262⟩ := Jvm.LawKit.callS X243 hx (y := (⟨"java/util/Arrays", "fill", "([II)V"⟩ : MethodName)) hown (mvT hZ (hw _ (List.mem_of_getElem? (i := 50) rfl))) (mvT hZ (hw _ (List.mem_of_getElem? (i := 51) rfl))) (mvT hZ (hw _ (List.mem_of_getElem? (i := 52) rfl))) (mvT hZ (hw _ (List.mem_of_getElem? (i := 53) rfl))) (by decide) (backOf (W := 0) (rmF l Z a0 hw [] b243 (-1 : Int32) 4 (fun _ => 0) h243 n0 Z243 O243 (by omega) gb243) hZ (hw _ (List.mem_of_getElem? (i := 53) rfl)) (hw _ (List.mem_of_getElem? (i := 52) rfl)) (by decide) (by decide)) (g := (mkF m 168 #[vr u, vr la, vi (4 : Int32), vi (-1 : Int32), vi (1 : Int32), vi (16 : Int32), vr b243, .unset, .unset] [(.int (-1 : Int32)), (.ref b243)])) rfl (by rw [hml]; rfl) (argsL := [(.ref b243), (.int (-1 : Int32))]) (rest := []) (lenOf pdC_1 rfl) rfl (by show 2 * 0 + _ ≤ _; exact Nat.le_of_eq rfl) (hb hby dC_168) (fun _ _ => ⟨rfl, e243, (by decide : 18 + 0 ≤ _), (by decide : 231 + 0 ≤ _)⟩)
  dsimp only [Pt.U, Pt.locs, Pt.cells, Pt.slots] at X262 l262 y262 z262 st262 hQ262
  subst l262 y262 z262
  obtain ⟨rfl, Nq262, Z262, K262, OF262⟩ := hQ262
  have N262 := Fr.app N243 Nq262
  obtain ⟨lo262, X262, N262⟩ : ∃ L, Stand p l e ({ frames := 1, cells := 18, slots := 231, locals := 19 } : Room) s m #[(.ref u), (.ref la), (.int (4 : Int32)), (.int (-1 : Int32))] below meth c T262 L 18 231 ∧ Fr n0 L := ⟨_, X262, N262⟩
  refine OGo.st (fun t kk => st262 t kk) ?_
  show OGo p e below _ (T262.setTop (mkF m 171 #[vr u, vr la, vi (4 : Int32), vi (-1 : Int32), vi (1 : Int32), vi (16 : Int32), vr b243, .unset, .unset] []))
  refine OGo.st (fun t kk => XS.iload X262.here hx rfl (hb hby dC_171) rfl kk) ?_
  show OGo p e below _ (T262.setTop (mkF m 173 #[vr u, vr la, vi (4 : Int32), vi (-1 : Int32), vi (1 : Int32), vi (16 : Int32), vr b243, .unset, .unset] [(.int (1 : Int32))]))
  refine OGo.st (fun t kk => XS.iconst X262.here hx rfl (hb hby dC_173) kk) ?_
  show OGo p e below _ (T262.setTop (mkF m 174 #[vr u, vr la, vi (4 : Int32), vi (-1 : Int32), vi (1 : Int32), vi (16 : Int32), vr b243, .unset, .unset] [(.int (1 : Int32)), (.int (1 : Int32))]))
  refine OGo.st (fun t kk => XS.isub X262.here hx rfl (hb hby dC_174) rfl kk) ?_
  show OGo p e below _ (T262.setTop (mkF m 175 #[vr u, vr la, vi (4 : Int32), vi (-1 : Int32), vi (1 : Int32), vi (16 : Int32), vr b243, .unset, .unset] [(.int (0 : Int32))]))
  refine OGo.st (fun t kk => XS.istore X262.here hx rfl (hb hby dC_175) rfl (l' := #[vr u, vr la, vi (4 : Int32), vi (-1 : Int32), vi (1 : Int32), vi (16 : Int32), vr b243, vi (0 : Int32), .unset]) rfl kk) ?_
  show OGo p e below _ (T262.setTop (mkF m 177 #[vr u, vr la, vi (4 : Int32), vi (-1 : Int32), vi (1 : Int32), vi (16 : Int32), vr b243, vi (0 : Int32), .unset] []))
  refine OGo.st (fun t kk => XS.iload X262.here hx rfl (hb hby dC_177) rfl kk) ?_
  show OGo p e below _ (T262.setTop (mkF m 179 #[vr u, vr la, vi (4 : Int32), vi (-1 : Int32), vi (1 : Int32), vi (16 : Int32), vr b243, vi (0 : Int32), .unset] [(.int (0 : Int32))]))
  refine OGo.st (fun t kk => XS.ifNo X262.here hx rfl (hb hby dC_179) rfl ((if0 _ _).trans (flt (by decide : ¬ ((0 : Int32) < (0 : Int32)))).1) kk) ?_
  show OGo p e below _ (T262.setTop (mkF m 182 #[vr u, vr la, vi (4 : Int32), vi (-1 : Int32), vi (1 : Int32), vi (16 : Int32), vr b243, vi (0 : Int32), .unset] []))
  refine OGo.st (fun t kk => XS.aloadN X262.here hx rfl (hb hby dC_182) rfl rfl kk) ?_
  show OGo p e below _ (T262.setTop (mkF m 183 #[vr u, vr la, vi (4 : Int32), vi (-1 : Int32), vi (1 : Int32), vi (16 : Int32), vr b243, vi (0 : Int32), .unset] [(.ref la)]))
  refine OGo.st (fun t kk => XS.iload X262.here hx rfl (hb hby dC_183) rfl kk) ?_
  show OGo p e below _ (T262.setTop (mkF m 185 #[vr u, vr la, vi (4 : Int32), vi (-1 : Int32), vi (1 : Int32), vi (16 : Int32), vr b243, vi (0 : Int32), .unset] [(.int (0 : Int32)), (.ref la)]))
  have c263 := ((c245.ext E243).keep K262 (ninS ne_la_b243 nin0))
  refine OGo.st (fun t kk => OA.ldI X262 hx hZ rfl c263 (j := (0 : Int32)) (k := 0) (by decide) (by decide) (by decide) (g := (mkF m 185 #[vr u, vr la, vi (4 : Int32), vi (-1 : Int32), vi (1 : Int32), vi (16 : Int32), vr b243, vi (0 : Int32), .unset] [(.int (0 : Int32)), (.ref la)])) rfl rfl (hb hby dC_185) t kk) ?_
  show OGo p e below _ (T262.setTop (mkF m 186 #[vr u, vr la, vi (4 : Int32), vi (-1 : Int32), vi (1 : Int32), vi (16 : Int32), vr b243, vi (0 : Int32), .unset] [(.int (fla 0))]))
  rw [hla]
  show OGo p e below _ (T262.setTop (mkF m 186 #[vr u, vr la, vi (4 : Int32), vi (-1 : Int32), vi (1 : Int32), vi (16 : Int32), vr b243, vi (0 : Int32), .unset] [(.int (Int32.ofNat ln))]))
  refine OGo.st (fun t kk => XS.istore X262.here hx rfl (hb hby dC_186) rfl (l' := #[vr u, vr la, vi (4 : Int32), vi (-1 : Int32), vi (1 : Int32), vi (16 : Int32), vr b243, vi (0 : Int32), vi (Int32.ofNat ln)]) rfl kk) ?_
  show OGo p e below _ (T262.setTop (mkF m 188 #[vr u, vr la, vi (4 : Int32), vi (-1 : Int32), vi (1 : Int32), vi (16 : Int32), vr b243, vi (0 : Int32), vi (Int32.ofNat ln)] []))
  refine OGo.st (fun t kk => XS.iload X262.here hx rfl (hb hby dC_188) rfl kk) ?_
  show OGo p e below _ (T262.setTop (mkF m 190 #[vr u, vr la, vi (4 : Int32), vi (-1 : Int32), vi (1 : Int32), vi (16 : Int32), vr b243, vi (0 : Int32), vi (Int32.ofNat ln)] [(.int (Int32.ofNat ln))]))
  refine OGo.st (fun t kk => XS.iloadN X262.here hx rfl (hb hby dC_190) rfl kk) ?_
  show OGo p e below _ (T262.setTop (mkF m 191 #[vr u, vr la, vi (4 : Int32), vi (-1 : Int32), vi (1 : Int32), vi (16 : Int32), vr b243, vi (0 : Int32), vi (Int32.ofNat ln)] [(.int (-1 : Int32)), (.int (Int32.ofNat ln))]))
  refine OGo.st (fun t kk => XS.icmpYes X262.here hx rfl (pc0 := 191) (pc' := 205) rfl (hb hby dC_191) rfl (feq (own_nm1 (show ln < 1000 by omega))).2 (by decide) (by decide) kk) ?_
  show OGo p e below _ (T262.setTop (mkF m 205 #[vr u, vr la, vi (4 : Int32), vi (-1 : Int32), vi (1 : Int32), vi (16 : Int32), vr b243, vi (0 : Int32), vi (Int32.ofNat ln)] []))
  refine OGo.st (fun t kk => XS.aload X262.here hx rfl (hb hby dC_205) rfl rfl kk) ?_
  show OGo p e below _ (T262.setTop (mkF m 207 #[vr u, vr la, vi (4 : Int32), vi (-1 : Int32), vi (1 : Int32), vi (16 : Int32), vr b243, vi (0 : Int32), vi (Int32.ofNat ln)] [(.ref b243)]))
  refine OGo.st (fun t kk => XS.iload X262.here hx rfl (hb hby dC_207) rfl kk) ?_
  show OGo p e below _ (T262.setTop (mkF m 209 #[vr u, vr la, vi (4 : Int32), vi (-1 : Int32), vi (1 : Int32), vi (16 : Int32), vr b243, vi (0 : Int32), vi (Int32.ofNat ln)] [(.int (Int32.ofNat ln)), (.ref b243)]))
  refine OGo.st (fun t kk => OA.ldI X262 hx hZ rfl OF262 (j := (Int32.ofNat ln)) (k := ln) (own_nat (show ln < 1000 by omega)).1 (own_nat (show ln < 1000 by omega)).2 (by omega) (g := (mkF m 209 #[vr u, vr la, vi (4 : Int32), vi (-1 : Int32), vi (1 : Int32), vi (16 : Int32), vr b243, vi (0 : Int32), vi (Int32.ofNat ln)] [(.int (Int32.ofNat ln)), (.ref b243)])) rfl rfl (hb hby dC_209) t kk) ?_
  show OGo p e below _ (T262.setTop (mkF m 210 #[vr u, vr la, vi (4 : Int32), vi (-1 : Int32), vi (1 : Int32), vi (16 : Int32), vr b243, vi (0 : Int32), vi (Int32.ofNat ln)] [(.int ((fun _ => (-1 : Int32)) ln))]))
  show OGo p e below _ (T262.setTop (mkF m 210 #[vr u, vr la, vi (4 : Int32), vi (-1 : Int32), vi (1 : Int32), vi (16 : Int32), vr b243, vi (0 : Int32), vi (Int32.ofNat ln)] [(.int (-1 : Int32))]))
  refine OGo.st (fun t kk => XS.iconst X262.here hx rfl (hb hby dC_210) kk) ?_
  show OGo p e below _ (T262.setTop (mkF m 211 #[vr u, vr la, vi (4 : Int32), vi (-1 : Int32), vi (1 : Int32), vi (16 : Int32), vr b243, vi (0 : Int32), vi (Int32.ofNat ln)] [(.int (-1 : Int32)), (.int (-1 : Int32))]))
  refine OGo.st (fun t kk => XS.icmpNo X262.here hx rfl (hb hby dC_211) rfl (teq (by decide : ((-1 : Int32) = (-1 : Int32)))).2 kk) ?_
  show OGo p e below _ (T262.setTop (mkF m 214 #[vr u, vr la, vi (4 : Int32), vi (-1 : Int32), vi (1 : Int32), vi (16 : Int32), vr b243, vi (0 : Int32), vi (Int32.ofNat ln)] []))
  refine OGo.st (fun t kk => XS.aload X262.here hx rfl (hb hby dC_214) rfl rfl kk) ?_
  show OGo p e below _ (T262.setTop (mkF m 216 #[vr u, vr la, vi (4 : Int32), vi (-1 : Int32), vi (1 : Int32), vi (16 : Int32), vr b243, vi (0 : Int32), vi (Int32.ofNat ln)] [(.ref b243)]))
  refine OGo.st (fun t kk => XS.iload X262.here hx rfl (hb hby dC_216) rfl kk) ?_
  show OGo p e below _ (T262.setTop (mkF m 218 #[vr u, vr la, vi (4 : Int32), vi (-1 : Int32), vi (1 : Int32), vi (16 : Int32), vr b243, vi (0 : Int32), vi (Int32.ofNat ln)] [(.int (Int32.ofNat ln)), (.ref b243)]))
  refine OGo.st (fun t kk => XS.aloadN X262.here hx rfl (hb hby dC_218) rfl rfl kk) ?_
  show OGo p e below _ (T262.setTop (mkF m 219 #[vr u, vr la, vi (4 : Int32), vi (-1 : Int32), vi (1 : Int32), vi (16 : Int32), vr b243, vi (0 : Int32), vi (Int32.ofNat ln)] [(.ref u), (.int (Int32.ofNat ln)), (.ref b243)]))
  refine OGo.st (fun t kk => XS.iload X262.here hx rfl (hb hby dC_219) rfl kk) ?_
  show OGo p e below _ (T262.setTop (mkF m 221 #[vr u, vr la, vi (4 : Int32), vi (-1 : Int32), vi (1 : Int32), vi (16 : Int32), vr b243, vi (0 : Int32), vi (Int32.ofNat ln)] [(.int (Int32.ofNat ln)), (.ref u), (.int (Int32.ofNat ln)), (.ref b243)]))
  refine OGo.st (fun t kk => XS.iconst X262.here hx rfl (hb hby dC_221) kk) ?_
  show OGo p e below _ (T262.setTop (mkF m 222 #[vr u, vr la, vi (4 : Int32), vi (-1 : Int32), vi (1 : Int32), vi (16 : Int32), vr b243, vi (0 : Int32), vi (Int32.ofNat ln)] [(.int (0 : Int32)), (.int (Int32.ofNat ln)), (.ref u), (.int (Int32.ofNat ln)), (.ref b243)]))
  refine OGo.st (fun t kk => XS.iconst X262.here hx rfl (hb hby dC_222) kk) ?_
  show OGo p e below _ (T262.setTop (mkF m 223 #[vr u, vr la, vi (4 : Int32), vi (-1 : Int32), vi (1 : Int32), vi (16 : Int32), vr b243, vi (0 : Int32), vi (Int32.ofNat ln)] [(.int (0 : Int32)), (.int (0 : Int32)), (.int (Int32.ofNat ln)), (.ref u), (.int (Int32.ofNat ln)), (.ref b243)]))
  have c265 := ((c244.ext E243).keep K262)
  have c266 := (((((((((((((((((((((((((((((((((((Fw5.ext E6).other W12 (Or.inr (slot_ne (Or.inl (hw _ (List.mem_of_getElem? (i := 12) rfl))) (Or.inl (hw _ (List.mem_of_getElem? (i := 14) rfl))) (by decide) (t := (.array .int)) (t' := (.array .int)) (by decide) (by decide)))).ext E13).other W20 (Or.inr (slot_ne (Or.inl (hw _ (List.mem_of_getElem? (i := 12) rfl))) (Or.inl (hw _ (List.mem_of_getElem? (i := 16) rfl))) (by decide) (t := (.array .int)) (t' := (.array .int)) (by decide) (by decide)))).ext E21).other W29 (Or.inr (slot_ne (Or.inl (hw _ (List.mem_of_getElem? (i := 12) rfl))) (Or.inl (hw _ (List.mem_of_getElem? (i := 18) rfl))) (by decide) (t := (.array .int)) (t' := (.array .int)) (by decide) (by decide)))).ext E30).other W39 (Or.inr (slot_ne (Or.inl (hw _ (List.mem_of_getElem? (i := 12) rfl))) (Or.inl (hw _ (List.mem_of_getElem? (i := 21) rfl))) (by decide) (t := (.array .int)) (t' := (.array .long)) (by decide) (by decide)))).ext E41).other W50 (Or.inr (slot_ne (Or.inl (hw _ (List.mem_of_getElem? (i := 12) rfl))) (Or.inr (hw _ (List.mem_of_getElem? (i := 23) rfl))) (by decide) (t := (.array .int)) (t' := (.array .int)) (by decide) (by decide)))).ext E51).other W62 (Or.inr (slot_ne (Or.inl (hw _ (List.mem_of_getElem? (i := 12) rfl))) (Or.inr (hw _ (List.mem_of_getElem? (i := 25) rfl))) (by decide) (t := (.array .int)) (t' := (.array .int)) (by decide) (by decide)))).ext E63).other W75 (Or.inr (slot_ne (Or.inl (hw _ (List.mem_of_getElem? (i := 12) rfl))) (Or.inr (hw _ (List.mem_of_getElem? (i := 27) rfl))) (by decide) (t := (.array .int)) (t' := (.array .int)) (by decide) (by decide)))).ext E77).other W90 (Or.inr (slot_ne (Or.inl (hw _ (List.mem_of_getElem? (i := 12) rfl))) (Or.inl (hw _ (List.mem_of_getElem? (i := 33) rfl))) (by decide) (t := (.array .int)) (t' := (.array .int)) (by decide) (by decide)))).ext E91).other W105 (Or.inr (slot_ne (Or.inl (hw _ (List.mem_of_getElem? (i := 12) rfl))) (Or.inl (hw _ (List.mem_of_getElem? (i := 35) rfl))) (by decide) (t := (.array .int)) (t' := (.array .int)) (by decide) (by decide)))).ext E106).other W121 (Or.inr (slot_ne (Or.inl (hw _ (List.mem_of_getElem? (i := 12) rfl))) (Or.inl (hw _ (List.mem_of_getElem? (i := 37) rfl))) (by decide) (t := (.array .int)) (t' := (.array .int)) (by decide) (by decide)))).ext E122).other W138 (Or.inr (slot_ne (Or.inl (hw _ (List.mem_of_getElem? (i := 12) rfl))) (Or.inl (hw _ (List.mem_of_getElem? (i := 39) rfl))) (by decide) (t := (.array .int)) (t' := (.array .int)) (by decide) (by decide)))).ext E139).other W156 (Or.inr (slot_ne (Or.inl (hw _ (List.mem_of_getElem? (i := 12) rfl))) (Or.inl (hw _ (List.mem_of_getElem? (i := 41) rfl))) (by decide) (t := (.array .int)) (t' := (.array .int)) (by decide) (by decide)))).ext E157).other W175 (Or.inr (slot_ne (Or.inl (hw _ (List.mem_of_getElem? (i := 12) rfl))) (Or.inl (hw _ (List.mem_of_getElem? (i := 43) rfl))) (by decide) (t := (.array .int)) (t' := (.array .int)) (by decide) (by decide)))).ext E176).other W195 (Or.inr (slot_ne (Or.inl (hw _ (List.mem_of_getElem? (i := 12) rfl))) (Or.inl (hw _ (List.mem_of_getElem? (i := 45) rfl))) (by decide) (t := (.array .int)) (t' := (.array .int)) (by decide) (by decide)))).ext E196).other W216 (Or.inr (slot_ne (Or.inl (hw _ (List.mem_of_getElem? (i := 12) rfl))) (Or.inl (hw _ (List.mem_of_getElem? (i := 47) rfl))) (by decide) (t := (.array .int)) (t' := (.array .long)) (by decide) (by decide)))).ext E217).other W238 (Or.inr (slot_ne (Or.inl (hw _ (List.mem_of_getElem? (i := 12) rfl))) (Or.inl (hw _ (List.mem_of_getElem? (i := 49) rfl))) (by decide) (t := (.array .int)) (t' := (.array .long)) (by decide) (by decide)))).keep K241 (ninS ne_u_b13 nin0)).ext E243).keep K262 (ninS ne_u_b243 nin0))
  have c267 := (((((((((((((((((((((((((((((((((Fw12.ext E13).other W20 (Or.inr (slot_ne (Or.inl (hw _ (List.mem_of_getElem? (i := 14) rfl))) (Or.inl (hw _ (List.mem_of_getElem? (i := 16) rfl))) (by decide) (t := (.array .int)) (t' := (.array .int)) (by decide) (by decide)))).ext E21).other W29 (Or.inr (slot_ne (Or.inl (hw _ (List.mem_of_getElem? (i := 14) rfl))) (Or.inl (hw _ (List.mem_of_getElem? (i := 18) rfl))) (by decide) (t := (.array .int)) (t' := (.array .int)) (by decide) (by decide)))).ext E30).other W39 (Or.inr (slot_ne (Or.inl (hw _ (List.mem_of_getElem? (i := 14) rfl))) (Or.inl (hw _ (List.mem_of_getElem? (i := 21) rfl))) (by decide) (t := (.array .int)) (t' := (.array .long)) (by decide) (by decide)))).ext E41).other W50 (Or.inr (slot_ne (Or.inl (hw _ (List.mem_of_getElem? (i := 14) rfl))) (Or.inr (hw _ (List.mem_of_getElem? (i := 23) rfl))) (by decide) (t := (.array .int)) (t' := (.array .int)) (by decide) (by decide)))).ext E51).other W62 (Or.inr (slot_ne (Or.inl (hw _ (List.mem_of_getElem? (i := 14) rfl))) (Or.inr (hw _ (List.mem_of_getElem? (i := 25) rfl))) (by decide) (t := (.array .int)) (t' := (.array .int)) (by decide) (by decide)))).ext E63).other W75 (Or.inr (slot_ne (Or.inl (hw _ (List.mem_of_getElem? (i := 14) rfl))) (Or.inr (hw _ (List.mem_of_getElem? (i := 27) rfl))) (by decide) (t := (.array .int)) (t' := (.array .int)) (by decide) (by decide)))).ext E77).other W90 (Or.inr (slot_ne (Or.inl (hw _ (List.mem_of_getElem? (i := 14) rfl))) (Or.inl (hw _ (List.mem_of_getElem? (i := 33) rfl))) (by decide) (t := (.array .int)) (t' := (.array .int)) (by decide) (by decide)))).ext E91).other W105 (Or.inr (slot_ne (Or.inl (hw _ (List.mem_of_getElem? (i := 14) rfl))) (Or.inl (hw _ (List.mem_of_getElem? (i := 35) rfl))) (by decide) (t := (.array .int)) (t' := (.array .int)) (by decide) (by decide)))).ext E106).other W121 (Or.inr (slot_ne (Or.inl (hw _ (List.mem_of_getElem? (i := 14) rfl))) (Or.inl (hw _ (List.mem_of_getElem? (i := 37) rfl))) (by decide) (t := (.array .int)) (t' := (.array .int)) (by decide) (by decide)))).ext E122).other W138 (Or.inr (slot_ne (Or.inl (hw _ (List.mem_of_getElem? (i := 14) rfl))) (Or.inl (hw _ (List.mem_of_getElem? (i := 39) rfl))) (by decide) (t := (.array .int)) (t' := (.array .int)) (by decide) (by decide)))).ext E139).other W156 (Or.inr (slot_ne (Or.inl (hw _ (List.mem_of_getElem? (i := 14) rfl))) (Or.inl (hw _ (List.mem_of_getElem? (i := 41) rfl))) (by decide) (t := (.array .int)) (t' := (.array .int)) (by decide) (by decide)))).ext E157).other W175 (Or.inr (slot_ne (Or.inl (hw _ (List.mem_of_getElem? (i := 14) rfl))) (Or.inl (hw _ (List.mem_of_getElem? (i := 43) rfl))) (by decide) (t := (.array .int)) (t' := (.array .int)) (by decide) (by decide)))).ext E176).other W195 (Or.inr (slot_ne (Or.inl (hw _ (List.mem_of_getElem? (i := 14) rfl))) (Or.inl (hw _ (List.mem_of_getElem? (i := 45) rfl))) (by decide) (t := (.array .int)) (t' := (.array .int)) (by decide) (by decide)))).ext E196).other W216 (Or.inr (slot_ne (Or.inl (hw _ (List.mem_of_getElem? (i := 14) rfl))) (Or.inl (hw _ (List.mem_of_getElem? (i := 47) rfl))) (by decide) (t := (.array .int)) (t' := (.array .long)) (by decide) (by decide)))).ext E217).other W238 (Or.inr (slot_ne (Or.inl (hw _ (List.mem_of_getElem? (i := 14) rfl))) (Or.inl (hw _ (List.mem_of_getElem? (i := 49) rfl))) (by decide) (t := (.array .int)) (t' := (.array .long)) (by decide) (by decide)))).keep K241 (ninS ne_u_b13 nin0)).ext E243).keep K262 (ninS ne_u_b243 nin0))
  have c268 := (((c239.keep K241 (ninS ne_u_b13 nin0)).ext E243).keep K262 (ninS ne_u_b243 nin0))
  have c269 := (((((((((((((((((((((((((Fw50.ext E51).other W62 (Or.inr (slot_ne (Or.inr (hw _ (List.mem_of_getElem? (i := 23) rfl))) (Or.inr (hw _ (List.mem_of_getElem? (i := 25) rfl))) (by decide) (t := (.array .int)) (t' := (.array .int)) (by decide) (by decide)))).ext E63).other W75 (Or.inr (slot_ne (Or.inr (hw _ (List.mem_of_getElem? (i := 23) rfl))) (Or.inr (hw _ (List.mem_of_getElem? (i := 27) rfl))) (by decide) (t := (.array .int)) (t' := (.array .int)) (by decide) (by decide)))).ext E77).other W90 (Or.inr (slot_ne (Or.inr (hw _ (List.mem_of_getElem? (i := 23) rfl))) (Or.inl (hw _ (List.mem_of_getElem? (i := 33) rfl))) (by decide) (t := (.array .int)) (t' := (.array .int)) (by decide) (by decide)))).ext E91).other W105 (Or.inr (slot_ne (Or.inr (hw _ (List.mem_of_getElem? (i := 23) rfl))) (Or.inl (hw _ (List.mem_of_getElem? (i := 35) rfl))) (by decide) (t := (.array .int)) (t' := (.array .int)) (by decide) (by decide)))).ext E106).other W121 (Or.inr (slot_ne (Or.inr (hw _ (List.mem_of_getElem? (i := 23) rfl))) (Or.inl (hw _ (List.mem_of_getElem? (i := 37) rfl))) (by decide) (t := (.array .int)) (t' := (.array .int)) (by decide) (by decide)))).ext E122).other W138 (Or.inr (slot_ne (Or.inr (hw _ (List.mem_of_getElem? (i := 23) rfl))) (Or.inl (hw _ (List.mem_of_getElem? (i := 39) rfl))) (by decide) (t := (.array .int)) (t' := (.array .int)) (by decide) (by decide)))).ext E139).other W156 (Or.inr (slot_ne (Or.inr (hw _ (List.mem_of_getElem? (i := 23) rfl))) (Or.inl (hw _ (List.mem_of_getElem? (i := 41) rfl))) (by decide) (t := (.array .int)) (t' := (.array .int)) (by decide) (by decide)))).ext E157).other W175 (Or.inr (slot_ne (Or.inr (hw _ (List.mem_of_getElem? (i := 23) rfl))) (Or.inl (hw _ (List.mem_of_getElem? (i := 43) rfl))) (by decide) (t := (.array .int)) (t' := (.array .int)) (by decide) (by decide)))).ext E176).other W195 (Or.inr (slot_ne (Or.inr (hw _ (List.mem_of_getElem? (i := 23) rfl))) (Or.inl (hw _ (List.mem_of_getElem? (i := 45) rfl))) (by decide) (t := (.array .int)) (t' := (.array .int)) (by decide) (by decide)))).ext E196).other W216 (Or.inr (slot_ne (Or.inr (hw _ (List.mem_of_getElem? (i := 23) rfl))) (Or.inl (hw _ (List.mem_of_getElem? (i := 47) rfl))) (by decide) (t := (.array .int)) (t' := (.array .long)) (by decide) (by decide)))).ext E217).other W238 (Or.inr (slot_ne (Or.inr (hw _ (List.mem_of_getElem? (i := 23) rfl))) (Or.inl (hw _ (List.mem_of_getElem? (i := 49) rfl))) (by decide) (t := (.array .int)) (t' := (.array .long)) (by decide) (by decide)))).keep K241 (ninS ne_u_b13 nin0)).ext E243).keep K262 (ninS ne_u_b243 nin0))
  have c270 := (((((((((((((((((((((((Fw62.ext E63).other W75 (Or.inr (slot_ne (Or.inr (hw _ (List.mem_of_getElem? (i := 25) rfl))) (Or.inr (hw _ (List.mem_of_getElem? (i := 27) rfl))) (by decide) (t := (.array .int)) (t' := (.array .int)) (by decide) (by decide)))).ext E77).other W90 (Or.inr (slot_ne (Or.inr (hw _ (List.mem_of_getElem? (i := 25) rfl))) (Or.inl (hw _ (List.mem_of_getElem? (i := 33) rfl))) (by decide) (t := (.array .int)) (t' := (.array .int)) (by decide) (by decide)))).ext E91).other W105 (Or.inr (slot_ne (Or.inr (hw _ (List.mem_of_getElem? (i := 25) rfl))) (Or.inl (hw _ (List.mem_of_getElem? (i := 35) rfl))) (by decide) (t := (.array .int)) (t' := (.array .int)) (by decide) (by decide)))).ext E106).other W121 (Or.inr (slot_ne (Or.inr (hw _ (List.mem_of_getElem? (i := 25) rfl))) (Or.inl (hw _ (List.mem_of_getElem? (i := 37) rfl))) (by decide) (t := (.array .int)) (t' := (.array .int)) (by decide) (by decide)))).ext E122).other W138 (Or.inr (slot_ne (Or.inr (hw _ (List.mem_of_getElem? (i := 25) rfl))) (Or.inl (hw _ (List.mem_of_getElem? (i := 39) rfl))) (by decide) (t := (.array .int)) (t' := (.array .int)) (by decide) (by decide)))).ext E139).other W156 (Or.inr (slot_ne (Or.inr (hw _ (List.mem_of_getElem? (i := 25) rfl))) (Or.inl (hw _ (List.mem_of_getElem? (i := 41) rfl))) (by decide) (t := (.array .int)) (t' := (.array .int)) (by decide) (by decide)))).ext E157).other W175 (Or.inr (slot_ne (Or.inr (hw _ (List.mem_of_getElem? (i := 25) rfl))) (Or.inl (hw _ (List.mem_of_getElem? (i := 43) rfl))) (by decide) (t := (.array .int)) (t' := (.array .int)) (by decide) (by decide)))).ext E176).other W195 (Or.inr (slot_ne (Or.inr (hw _ (List.mem_of_getElem? (i := 25) rfl))) (Or.inl (hw _ (List.mem_of_getElem? (i := 45) rfl))) (by decide) (t := (.array .int)) (t' := (.array .int)) (by decide) (by decide)))).ext E196).other W216 (Or.inr (slot_ne (Or.inr (hw _ (List.mem_of_getElem? (i := 25) rfl))) (Or.inl (hw _ (List.mem_of_getElem? (i := 47) rfl))) (by decide) (t := (.array .int)) (t' := (.array .long)) (by decide) (by decide)))).ext E217).other W238 (Or.inr (slot_ne (Or.inr (hw _ (List.mem_of_getElem? (i := 25) rfl))) (Or.inl (hw _ (List.mem_of_getElem? (i := 49) rfl))) (by decide) (t := (.array .int)) (t' := (.array .long)) (by decide) (by decide)))).keep K241 (ninS ne_u_b13 nin0)).ext E243).keep K262 (ninS ne_u_b243 nin0))
  have c271 := (((((((((((((((((((((Fw75.ext E77).other W90 (Or.inr (slot_ne (Or.inr (hw _ (List.mem_of_getElem? (i := 27) rfl))) (Or.inl (hw _ (List.mem_of_getElem? (i := 33) rfl))) (by decide) (t := (.array .int)) (t' := (.array .int)) (by decide) (by decide)))).ext E91).other W105 (Or.inr (slot_ne (Or.inr (hw _ (List.mem_of_getElem? (i := 27) rfl))) (Or.inl (hw _ (List.mem_of_getElem? (i := 35) rfl))) (by decide) (t := (.array .int)) (t' := (.array .int)) (by decide) (by decide)))).ext E106).other W121 (Or.inr (slot_ne (Or.inr (hw _ (List.mem_of_getElem? (i := 27) rfl))) (Or.inl (hw _ (List.mem_of_getElem? (i := 37) rfl))) (by decide) (t := (.array .int)) (t' := (.array .int)) (by decide) (by decide)))).ext E122).other W138 (Or.inr (slot_ne (Or.inr (hw _ (List.mem_of_getElem? (i := 27) rfl))) (Or.inl (hw _ (List.mem_of_getElem? (i := 39) rfl))) (by decide) (t := (.array .int)) (t' := (.array .int)) (by decide) (by decide)))).ext E139).other W156 (Or.inr (slot_ne (Or.inr (hw _ (List.mem_of_getElem? (i := 27) rfl))) (Or.inl (hw _ (List.mem_of_getElem? (i := 41) rfl))) (by decide) (t := (.array .int)) (t' := (.array .int)) (by decide) (by decide)))).ext E157).other W175 (Or.inr (slot_ne (Or.inr (hw _ (List.mem_of_getElem? (i := 27) rfl))) (Or.inl (hw _ (List.mem_of_getElem? (i := 43) rfl))) (by decide) (t := (.array .int)) (t' := (.array .int)) (by decide) (by decide)))).ext E176).other W195 (Or.inr (slot_ne (Or.inr (hw _ (List.mem_of_getElem? (i := 27) rfl))) (Or.inl (hw _ (List.mem_of_getElem? (i := 45) rfl))) (by decide) (t := (.array .int)) (t' := (.array .int)) (by decide) (by decide)))).ext E196).other W216 (Or.inr (slot_ne (Or.inr (hw _ (List.mem_of_getElem? (i := 27) rfl))) (Or.inl (hw _ (List.mem_of_getElem? (i := 47) rfl))) (by decide) (t := (.array .int)) (t' := (.array .long)) (by decide) (by decide)))).ext E217).other W238 (Or.inr (slot_ne (Or.inr (hw _ (List.mem_of_getElem? (i := 27) rfl))) (Or.inl (hw _ (List.mem_of_getElem? (i := 49) rfl))) (by decide) (t := (.array .int)) (t' := (.array .long)) (by decide) (by decide)))).keep K241 (ninS ne_u_b13 nin0)).ext E243).keep K262 (ninS ne_u_b243 nin0))
  have c272 := (((((((((((((((((((Fw90.ext E91).other W105 (Or.inr (slot_ne (Or.inl (hw _ (List.mem_of_getElem? (i := 33) rfl))) (Or.inl (hw _ (List.mem_of_getElem? (i := 35) rfl))) (by decide) (t := (.array .int)) (t' := (.array .int)) (by decide) (by decide)))).ext E106).other W121 (Or.inr (slot_ne (Or.inl (hw _ (List.mem_of_getElem? (i := 33) rfl))) (Or.inl (hw _ (List.mem_of_getElem? (i := 37) rfl))) (by decide) (t := (.array .int)) (t' := (.array .int)) (by decide) (by decide)))).ext E122).other W138 (Or.inr (slot_ne (Or.inl (hw _ (List.mem_of_getElem? (i := 33) rfl))) (Or.inl (hw _ (List.mem_of_getElem? (i := 39) rfl))) (by decide) (t := (.array .int)) (t' := (.array .int)) (by decide) (by decide)))).ext E139).other W156 (Or.inr (slot_ne (Or.inl (hw _ (List.mem_of_getElem? (i := 33) rfl))) (Or.inl (hw _ (List.mem_of_getElem? (i := 41) rfl))) (by decide) (t := (.array .int)) (t' := (.array .int)) (by decide) (by decide)))).ext E157).other W175 (Or.inr (slot_ne (Or.inl (hw _ (List.mem_of_getElem? (i := 33) rfl))) (Or.inl (hw _ (List.mem_of_getElem? (i := 43) rfl))) (by decide) (t := (.array .int)) (t' := (.array .int)) (by decide) (by decide)))).ext E176).other W195 (Or.inr (slot_ne (Or.inl (hw _ (List.mem_of_getElem? (i := 33) rfl))) (Or.inl (hw _ (List.mem_of_getElem? (i := 45) rfl))) (by decide) (t := (.array .int)) (t' := (.array .int)) (by decide) (by decide)))).ext E196).other W216 (Or.inr (slot_ne (Or.inl (hw _ (List.mem_of_getElem? (i := 33) rfl))) (Or.inl (hw _ (List.mem_of_getElem? (i := 47) rfl))) (by decide) (t := (.array .int)) (t' := (.array .long)) (by decide) (by decide)))).ext E217).other W238 (Or.inr (slot_ne (Or.inl (hw _ (List.mem_of_getElem? (i := 33) rfl))) (Or.inl (hw _ (List.mem_of_getElem? (i := 49) rfl))) (by decide) (t := (.array .int)) (t' := (.array .long)) (by decide) (by decide)))).keep K241 (ninS ne_u_b13 nin0)).ext E243).keep K262 (ninS ne_u_b243 nin0))
  have c273 := (((((((((((((((((Fw105.ext E106).other W121 (Or.inr (slot_ne (Or.inl (hw _ (List.mem_of_getElem? (i := 35) rfl))) (Or.inl (hw _ (List.mem_of_getElem? (i := 37) rfl))) (by decide) (t := (.array .int)) (t' := (.array .int)) (by decide) (by decide)))).ext E122).other W138 (Or.inr (slot_ne (Or.inl (hw _ (List.mem_of_getElem? (i := 35) rfl))) (Or.inl (hw _ (List.mem_of_getElem? (i := 39) rfl))) (by decide) (t := (.array .int)) (t' := (.array .int)) (by decide) (by decide)))).ext E139).other W156 (Or.inr (slot_ne (Or.inl (hw _ (List.mem_of_getElem? (i := 35) rfl))) (Or.inl (hw _ (List.mem_of_getElem? (i := 41) rfl))) (by decide) (t := (.array .int)) (t' := (.array .int)) (by decide) (by decide)))).ext E157).other W175 (Or.inr (slot_ne (Or.inl (hw _ (List.mem_of_getElem? (i := 35) rfl))) (Or.inl (hw _ (List.mem_of_getElem? (i := 43) rfl))) (by decide) (t := (.array .int)) (t' := (.array .int)) (by decide) (by decide)))).ext E176).other W195 (Or.inr (slot_ne (Or.inl (hw _ (List.mem_of_getElem? (i := 35) rfl))) (Or.inl (hw _ (List.mem_of_getElem? (i := 45) rfl))) (by decide) (t := (.array .int)) (t' := (.array .int)) (by decide) (by decide)))).ext E196).other W216 (Or.inr (slot_ne (Or.inl (hw _ (List.mem_of_getElem? (i := 35) rfl))) (Or.inl (hw _ (List.mem_of_getElem? (i := 47) rfl))) (by decide) (t := (.array .int)) (t' := (.array .long)) (by decide) (by decide)))).ext E217).other W238 (Or.inr (slot_ne (Or.inl (hw _ (List.mem_of_getElem? (i := 35) rfl))) (Or.inl (hw _ (List.mem_of_getElem? (i := 49) rfl))) (by decide) (t := (.array .int)) (t' := (.array .long)) (by decide) (by decide)))).keep K241 (ninS ne_u_b13 nin0)).ext E243).keep K262 (ninS ne_u_b243 nin0))
  have c274 := (((((((((((((((Fw121.ext E122).other W138 (Or.inr (slot_ne (Or.inl (hw _ (List.mem_of_getElem? (i := 37) rfl))) (Or.inl (hw _ (List.mem_of_getElem? (i := 39) rfl))) (by decide) (t := (.array .int)) (t' := (.array .int)) (by decide) (by decide)))).ext E139).other W156 (Or.inr (slot_ne (Or.inl (hw _ (List.mem_of_getElem? (i := 37) rfl))) (Or.inl (hw _ (List.mem_of_getElem? (i := 41) rfl))) (by decide) (t := (.array .int)) (t' := (.array .int)) (by decide) (by decide)))).ext E157).other W175 (Or.inr (slot_ne (Or.inl (hw _ (List.mem_of_getElem? (i := 37) rfl))) (Or.inl (hw _ (List.mem_of_getElem? (i := 43) rfl))) (by decide) (t := (.array .int)) (t' := (.array .int)) (by decide) (by decide)))).ext E176).other W195 (Or.inr (slot_ne (Or.inl (hw _ (List.mem_of_getElem? (i := 37) rfl))) (Or.inl (hw _ (List.mem_of_getElem? (i := 45) rfl))) (by decide) (t := (.array .int)) (t' := (.array .int)) (by decide) (by decide)))).ext E196).other W216 (Or.inr (slot_ne (Or.inl (hw _ (List.mem_of_getElem? (i := 37) rfl))) (Or.inl (hw _ (List.mem_of_getElem? (i := 47) rfl))) (by decide) (t := (.array .int)) (t' := (.array .long)) (by decide) (by decide)))).ext E217).other W238 (Or.inr (slot_ne (Or.inl (hw _ (List.mem_of_getElem? (i := 37) rfl))) (Or.inl (hw _ (List.mem_of_getElem? (i := 49) rfl))) (by decide) (t := (.array .int)) (t' := (.array .long)) (by decide) (by decide)))).keep K241 (ninS ne_u_b13 nin0)).ext E243).keep K262 (ninS ne_u_b243 nin0))
  have c275 := (((((((((((((Fw138.ext E139).other W156 (Or.inr (slot_ne (Or.inl (hw _ (List.mem_of_getElem? (i := 39) rfl))) (Or.inl (hw _ (List.mem_of_getElem? (i := 41) rfl))) (by decide) (t := (.array .int)) (t' := (.array .int)) (by decide) (by decide)))).ext E157).other W175 (Or.inr (slot_ne (Or.inl (hw _ (List.mem_of_getElem? (i := 39) rfl))) (Or.inl (hw _ (List.mem_of_getElem? (i := 43) rfl))) (by decide) (t := (.array .int)) (t' := (.array .int)) (by decide) (by decide)))).ext E176).other W195 (Or.inr (slot_ne (Or.inl (hw _ (List.mem_of_getElem? (i := 39) rfl))) (Or.inl (hw _ (List.mem_of_getElem? (i := 45) rfl))) (by decide) (t := (.array .int)) (t' := (.array .int)) (by decide) (by decide)))).ext E196).other W216 (Or.inr (slot_ne (Or.inl (hw _ (List.mem_of_getElem? (i := 39) rfl))) (Or.inl (hw _ (List.mem_of_getElem? (i := 47) rfl))) (by decide) (t := (.array .int)) (t' := (.array .long)) (by decide) (by decide)))).ext E217).other W238 (Or.inr (slot_ne (Or.inl (hw _ (List.mem_of_getElem? (i := 39) rfl))) (Or.inl (hw _ (List.mem_of_getElem? (i := 49) rfl))) (by decide) (t := (.array .int)) (t' := (.array .long)) (by decide) (by decide)))).keep K241 (ninS ne_u_b13 nin0)).ext E243).keep K262 (ninS ne_u_b243 nin0))
  have c276 := (((((((((((Fw156.ext E157).other W175 (Or.inr (slot_ne (Or.inl (hw _ (List.mem_of_getElem? (i := 41) rfl))) (Or.inl (hw _ (List.mem_of_getElem? (i := 43) rfl))) (by decide) (t := (.array .int)) (t' := (.array .int)) (by decide) (by decide)))).ext E176).other W195 (Or.inr (slot_ne (Or.inl (hw _ (List.mem_of_getElem? (i := 41) rfl))) (Or.inl (hw _ (List.mem_of_getElem? (i := 45) rfl))) (by decide) (t := (.array .int)) (t' := (.array .int)) (by decide) (by decide)))).ext E196).other W216 (Or.inr (slot_ne (Or.inl (hw _ (List.mem_of_getElem? (i := 41) rfl))) (Or.inl (hw _ (List.mem_of_getElem? (i := 47) rfl))) (by decide) (t := (.array .int)) (t' := (.array .long)) (by decide) (by decide)))).ext E217).other W238 (Or.inr (slot_ne (Or.inl (hw _ (List.mem_of_getElem? (i := 41) rfl))) (Or.inl (hw _ (List.mem_of_getElem? (i := 49) rfl))) (by decide) (t := (.array .int)) (t' := (.array .long)) (by decide) (by decide)))).keep K241 (ninS ne_u_b13 nin0)).ext E243).keep K262 (ninS ne_u_b243 nin0))
  have c277 := (((((((((Fw175.ext E176).other W195 (Or.inr (slot_ne (Or.inl (hw _ (List.mem_of_getElem? (i := 43) rfl))) (Or.inl (hw _ (List.mem_of_getElem? (i := 45) rfl))) (by decide) (t := (.array .int)) (t' := (.array .int)) (by decide) (by decide)))).ext E196).other W216 (Or.inr (slot_ne (Or.inl (hw _ (List.mem_of_getElem? (i := 43) rfl))) (Or.inl (hw _ (List.mem_of_getElem? (i := 47) rfl))) (by decide) (t := (.array .int)) (t' := (.array .long)) (by decide) (by decide)))).ext E217).other W238 (Or.inr (slot_ne (Or.inl (hw _ (List.mem_of_getElem? (i := 43) rfl))) (Or.inl (hw _ (List.mem_of_getElem? (i := 49) rfl))) (by decide) (t := (.array .int)) (t' := (.array .long)) (by decide) (by decide)))).keep K241 (ninS ne_u_b13 nin0)).ext E243).keep K262 (ninS ne_u_b243 nin0))
  have c278 := (((((((Fw195.ext E196).other W216 (Or.inr (slot_ne (Or.inl (hw _ (List.mem_of_getElem? (i := 45) rfl))) (Or.inl (hw _ (List.mem_of_getElem? (i := 47) rfl))) (by decide) (t := (.array .int)) (t' := (.array .long)) (by decide) (by decide)))).ext E217).other W238 (Or.inr (slot_ne (Or.inl (hw _ (List.mem_of_getElem? (i := 45) rfl))) (Or.inl (hw _ (List.mem_of_getElem? (i := 49) rfl))) (by decide) (t := (.array .int)) (t' := (.array .long)) (by decide) (by decide)))).keep K241 (ninS ne_u_b13 nin0)).ext E243).keep K262 (ninS ne_u_b243 nin0))
  have c279 := (((((Fw216.ext E217).other W238 (Or.inr (slot_ne (Or.inl (hw _ (List.mem_of_getElem? (i := 47) rfl))) (Or.inl (hw _ (List.mem_of_getElem? (i := 49) rfl))) (by decide) (t := (.array .long)) (t' := (.array .long)) (by decide) (by decide)))).keep K241 (ninS ne_u_b13 nin0)).ext E243).keep K262 (ninS ne_u_b243 nin0))
  have c280 := (((Fw238.keep K241 (ninS ne_u_b13 nin0)).ext E243).keep K262 (ninS ne_u_b243 nin0))
  have c281 := (((((((((((((((((((((((((((((((((((((F0_groupCount.ext E2).other W5 (Or.inr (slot_ne (Or.inl (hw _ (List.mem_of_getElem? (i := 61) rfl))) (Or.inl (hw _ (List.mem_of_getElem? (i := 12) rfl))) (by decide) (t := .int) (t' := (.array .int)) (by decide) (by decide)))).ext E6).other W12 (Or.inr (slot_ne (Or.inl (hw _ (List.mem_of_getElem? (i := 61) rfl))) (Or.inl (hw _ (List.mem_of_getElem? (i := 14) rfl))) (by decide) (t := .int) (t' := (.array .int)) (by decide) (by decide)))).ext E13).other W20 (Or.inr (slot_ne (Or.inl (hw _ (List.mem_of_getElem? (i := 61) rfl))) (Or.inl (hw _ (List.mem_of_getElem? (i := 16) rfl))) (by decide) (t := .int) (t' := (.array .int)) (by decide) (by decide)))).ext E21).other W29 (Or.inr (slot_ne (Or.inl (hw _ (List.mem_of_getElem? (i := 61) rfl))) (Or.inl (hw _ (List.mem_of_getElem? (i := 18) rfl))) (by decide) (t := .int) (t' := (.array .int)) (by decide) (by decide)))).ext E30).other W39 (Or.inr (slot_ne (Or.inl (hw _ (List.mem_of_getElem? (i := 61) rfl))) (Or.inl (hw _ (List.mem_of_getElem? (i := 21) rfl))) (by decide) (t := .int) (t' := (.array .long)) (by decide) (by decide)))).ext E41).other W50 (Or.inr (slot_ne (Or.inl (hw _ (List.mem_of_getElem? (i := 61) rfl))) (Or.inr (hw _ (List.mem_of_getElem? (i := 23) rfl))) (by decide) (t := .int) (t' := (.array .int)) (by decide) (by decide)))).ext E51).other W62 (Or.inr (slot_ne (Or.inl (hw _ (List.mem_of_getElem? (i := 61) rfl))) (Or.inr (hw _ (List.mem_of_getElem? (i := 25) rfl))) (by decide) (t := .int) (t' := (.array .int)) (by decide) (by decide)))).ext E63).other W75 (Or.inr (slot_ne (Or.inl (hw _ (List.mem_of_getElem? (i := 61) rfl))) (Or.inr (hw _ (List.mem_of_getElem? (i := 27) rfl))) (by decide) (t := .int) (t' := (.array .int)) (by decide) (by decide)))).ext E77).other W90 (Or.inr (slot_ne (Or.inl (hw _ (List.mem_of_getElem? (i := 61) rfl))) (Or.inl (hw _ (List.mem_of_getElem? (i := 33) rfl))) (by decide) (t := .int) (t' := (.array .int)) (by decide) (by decide)))).ext E91).other W105 (Or.inr (slot_ne (Or.inl (hw _ (List.mem_of_getElem? (i := 61) rfl))) (Or.inl (hw _ (List.mem_of_getElem? (i := 35) rfl))) (by decide) (t := .int) (t' := (.array .int)) (by decide) (by decide)))).ext E106).other W121 (Or.inr (slot_ne (Or.inl (hw _ (List.mem_of_getElem? (i := 61) rfl))) (Or.inl (hw _ (List.mem_of_getElem? (i := 37) rfl))) (by decide) (t := .int) (t' := (.array .int)) (by decide) (by decide)))).ext E122).other W138 (Or.inr (slot_ne (Or.inl (hw _ (List.mem_of_getElem? (i := 61) rfl))) (Or.inl (hw _ (List.mem_of_getElem? (i := 39) rfl))) (by decide) (t := .int) (t' := (.array .int)) (by decide) (by decide)))).ext E139).other W156 (Or.inr (slot_ne (Or.inl (hw _ (List.mem_of_getElem? (i := 61) rfl))) (Or.inl (hw _ (List.mem_of_getElem? (i := 41) rfl))) (by decide) (t := .int) (t' := (.array .int)) (by decide) (by decide)))).ext E157).other W175 (Or.inr (slot_ne (Or.inl (hw _ (List.mem_of_getElem? (i := 61) rfl))) (Or.inl (hw _ (List.mem_of_getElem? (i := 43) rfl))) (by decide) (t := .int) (t' := (.array .int)) (by decide) (by decide)))).ext E176).other W195 (Or.inr (slot_ne (Or.inl (hw _ (List.mem_of_getElem? (i := 61) rfl))) (Or.inl (hw _ (List.mem_of_getElem? (i := 45) rfl))) (by decide) (t := .int) (t' := (.array .int)) (by decide) (by decide)))).ext E196).other W216 (Or.inr (slot_ne (Or.inl (hw _ (List.mem_of_getElem? (i := 61) rfl))) (Or.inl (hw _ (List.mem_of_getElem? (i := 47) rfl))) (by decide) (t := .int) (t' := (.array .long)) (by decide) (by decide)))).ext E217).other W238 (Or.inr (slot_ne (Or.inl (hw _ (List.mem_of_getElem? (i := 61) rfl))) (Or.inl (hw _ (List.mem_of_getElem? (i := 49) rfl))) (by decide) (t := .int) (t' := (.array .long)) (by decide) (by decide)))).keep K241 (ninS ne_u_b13 nin0)).ext E243).keep K262 (ninS ne_u_b243 nin0))
  have c282 := (((((((((((((((((((((((((((((((((((((F0_emptiedCount.ext E2).other W5 (Or.inr (slot_ne (Or.inl (hw _ (List.mem_of_getElem? (i := 72) rfl))) (Or.inl (hw _ (List.mem_of_getElem? (i := 12) rfl))) (by decide) (t := .int) (t' := (.array .int)) (by decide) (by decide)))).ext E6).other W12 (Or.inr (slot_ne (Or.inl (hw _ (List.mem_of_getElem? (i := 72) rfl))) (Or.inl (hw _ (List.mem_of_getElem? (i := 14) rfl))) (by decide) (t := .int) (t' := (.array .int)) (by decide) (by decide)))).ext E13).other W20 (Or.inr (slot_ne (Or.inl (hw _ (List.mem_of_getElem? (i := 72) rfl))) (Or.inl (hw _ (List.mem_of_getElem? (i := 16) rfl))) (by decide) (t := .int) (t' := (.array .int)) (by decide) (by decide)))).ext E21).other W29 (Or.inr (slot_ne (Or.inl (hw _ (List.mem_of_getElem? (i := 72) rfl))) (Or.inl (hw _ (List.mem_of_getElem? (i := 18) rfl))) (by decide) (t := .int) (t' := (.array .int)) (by decide) (by decide)))).ext E30).other W39 (Or.inr (slot_ne (Or.inl (hw _ (List.mem_of_getElem? (i := 72) rfl))) (Or.inl (hw _ (List.mem_of_getElem? (i := 21) rfl))) (by decide) (t := .int) (t' := (.array .long)) (by decide) (by decide)))).ext E41).other W50 (Or.inr (slot_ne (Or.inl (hw _ (List.mem_of_getElem? (i := 72) rfl))) (Or.inr (hw _ (List.mem_of_getElem? (i := 23) rfl))) (by decide) (t := .int) (t' := (.array .int)) (by decide) (by decide)))).ext E51).other W62 (Or.inr (slot_ne (Or.inl (hw _ (List.mem_of_getElem? (i := 72) rfl))) (Or.inr (hw _ (List.mem_of_getElem? (i := 25) rfl))) (by decide) (t := .int) (t' := (.array .int)) (by decide) (by decide)))).ext E63).other W75 (Or.inr (slot_ne (Or.inl (hw _ (List.mem_of_getElem? (i := 72) rfl))) (Or.inr (hw _ (List.mem_of_getElem? (i := 27) rfl))) (by decide) (t := .int) (t' := (.array .int)) (by decide) (by decide)))).ext E77).other W90 (Or.inr (slot_ne (Or.inl (hw _ (List.mem_of_getElem? (i := 72) rfl))) (Or.inl (hw _ (List.mem_of_getElem? (i := 33) rfl))) (by decide) (t := .int) (t' := (.array .int)) (by decide) (by decide)))).ext E91).other W105 (Or.inr (slot_ne (Or.inl (hw _ (List.mem_of_getElem? (i := 72) rfl))) (Or.inl (hw _ (List.mem_of_getElem? (i := 35) rfl))) (by decide) (t := .int) (t' := (.array .int)) (by decide) (by decide)))).ext E106).other W121 (Or.inr (slot_ne (Or.inl (hw _ (List.mem_of_getElem? (i := 72) rfl))) (Or.inl (hw _ (List.mem_of_getElem? (i := 37) rfl))) (by decide) (t := .int) (t' := (.array .int)) (by decide) (by decide)))).ext E122).other W138 (Or.inr (slot_ne (Or.inl (hw _ (List.mem_of_getElem? (i := 72) rfl))) (Or.inl (hw _ (List.mem_of_getElem? (i := 39) rfl))) (by decide) (t := .int) (t' := (.array .int)) (by decide) (by decide)))).ext E139).other W156 (Or.inr (slot_ne (Or.inl (hw _ (List.mem_of_getElem? (i := 72) rfl))) (Or.inl (hw _ (List.mem_of_getElem? (i := 41) rfl))) (by decide) (t := .int) (t' := (.array .int)) (by decide) (by decide)))).ext E157).other W175 (Or.inr (slot_ne (Or.inl (hw _ (List.mem_of_getElem? (i := 72) rfl))) (Or.inl (hw _ (List.mem_of_getElem? (i := 43) rfl))) (by decide) (t := .int) (t' := (.array .int)) (by decide) (by decide)))).ext E176).other W195 (Or.inr (slot_ne (Or.inl (hw _ (List.mem_of_getElem? (i := 72) rfl))) (Or.inl (hw _ (List.mem_of_getElem? (i := 45) rfl))) (by decide) (t := .int) (t' := (.array .int)) (by decide) (by decide)))).ext E196).other W216 (Or.inr (slot_ne (Or.inl (hw _ (List.mem_of_getElem? (i := 72) rfl))) (Or.inl (hw _ (List.mem_of_getElem? (i := 47) rfl))) (by decide) (t := .int) (t' := (.array .long)) (by decide) (by decide)))).ext E217).other W238 (Or.inr (slot_ne (Or.inl (hw _ (List.mem_of_getElem? (i := 72) rfl))) (Or.inl (hw _ (List.mem_of_getElem? (i := 49) rfl))) (by decide) (t := .int) (t' := (.array .long)) (by decide) (by decide)))).keep K241 (ninS ne_u_b13 nin0)).ext E243).keep K262 (ninS ne_u_b243 nin0))
  have c283 := (((((((((((((((((((((((((((((((((((((F0_freeCount.ext E2).other W5 (Or.inr (slot_ne (Or.inl (hw _ (List.mem_of_getElem? (i := 59) rfl))) (Or.inl (hw _ (List.mem_of_getElem? (i := 12) rfl))) (by decide) (t := .int) (t' := (.array .int)) (by decide) (by decide)))).ext E6).other W12 (Or.inr (slot_ne (Or.inl (hw _ (List.mem_of_getElem? (i := 59) rfl))) (Or.inl (hw _ (List.mem_of_getElem? (i := 14) rfl))) (by decide) (t := .int) (t' := (.array .int)) (by decide) (by decide)))).ext E13).other W20 (Or.inr (slot_ne (Or.inl (hw _ (List.mem_of_getElem? (i := 59) rfl))) (Or.inl (hw _ (List.mem_of_getElem? (i := 16) rfl))) (by decide) (t := .int) (t' := (.array .int)) (by decide) (by decide)))).ext E21).other W29 (Or.inr (slot_ne (Or.inl (hw _ (List.mem_of_getElem? (i := 59) rfl))) (Or.inl (hw _ (List.mem_of_getElem? (i := 18) rfl))) (by decide) (t := .int) (t' := (.array .int)) (by decide) (by decide)))).ext E30).other W39 (Or.inr (slot_ne (Or.inl (hw _ (List.mem_of_getElem? (i := 59) rfl))) (Or.inl (hw _ (List.mem_of_getElem? (i := 21) rfl))) (by decide) (t := .int) (t' := (.array .long)) (by decide) (by decide)))).ext E41).other W50 (Or.inr (slot_ne (Or.inl (hw _ (List.mem_of_getElem? (i := 59) rfl))) (Or.inr (hw _ (List.mem_of_getElem? (i := 23) rfl))) (by decide) (t := .int) (t' := (.array .int)) (by decide) (by decide)))).ext E51).other W62 (Or.inr (slot_ne (Or.inl (hw _ (List.mem_of_getElem? (i := 59) rfl))) (Or.inr (hw _ (List.mem_of_getElem? (i := 25) rfl))) (by decide) (t := .int) (t' := (.array .int)) (by decide) (by decide)))).ext E63).other W75 (Or.inr (slot_ne (Or.inl (hw _ (List.mem_of_getElem? (i := 59) rfl))) (Or.inr (hw _ (List.mem_of_getElem? (i := 27) rfl))) (by decide) (t := .int) (t' := (.array .int)) (by decide) (by decide)))).ext E77).other W90 (Or.inr (slot_ne (Or.inl (hw _ (List.mem_of_getElem? (i := 59) rfl))) (Or.inl (hw _ (List.mem_of_getElem? (i := 33) rfl))) (by decide) (t := .int) (t' := (.array .int)) (by decide) (by decide)))).ext E91).other W105 (Or.inr (slot_ne (Or.inl (hw _ (List.mem_of_getElem? (i := 59) rfl))) (Or.inl (hw _ (List.mem_of_getElem? (i := 35) rfl))) (by decide) (t := .int) (t' := (.array .int)) (by decide) (by decide)))).ext E106).other W121 (Or.inr (slot_ne (Or.inl (hw _ (List.mem_of_getElem? (i := 59) rfl))) (Or.inl (hw _ (List.mem_of_getElem? (i := 37) rfl))) (by decide) (t := .int) (t' := (.array .int)) (by decide) (by decide)))).ext E122).other W138 (Or.inr (slot_ne (Or.inl (hw _ (List.mem_of_getElem? (i := 59) rfl))) (Or.inl (hw _ (List.mem_of_getElem? (i := 39) rfl))) (by decide) (t := .int) (t' := (.array .int)) (by decide) (by decide)))).ext E139).other W156 (Or.inr (slot_ne (Or.inl (hw _ (List.mem_of_getElem? (i := 59) rfl))) (Or.inl (hw _ (List.mem_of_getElem? (i := 41) rfl))) (by decide) (t := .int) (t' := (.array .int)) (by decide) (by decide)))).ext E157).other W175 (Or.inr (slot_ne (Or.inl (hw _ (List.mem_of_getElem? (i := 59) rfl))) (Or.inl (hw _ (List.mem_of_getElem? (i := 43) rfl))) (by decide) (t := .int) (t' := (.array .int)) (by decide) (by decide)))).ext E176).other W195 (Or.inr (slot_ne (Or.inl (hw _ (List.mem_of_getElem? (i := 59) rfl))) (Or.inl (hw _ (List.mem_of_getElem? (i := 45) rfl))) (by decide) (t := .int) (t' := (.array .int)) (by decide) (by decide)))).ext E196).other W216 (Or.inr (slot_ne (Or.inl (hw _ (List.mem_of_getElem? (i := 59) rfl))) (Or.inl (hw _ (List.mem_of_getElem? (i := 47) rfl))) (by decide) (t := .int) (t' := (.array .long)) (by decide) (by decide)))).ext E217).other W238 (Or.inr (slot_ne (Or.inl (hw _ (List.mem_of_getElem? (i := 59) rfl))) (Or.inl (hw _ (List.mem_of_getElem? (i := 49) rfl))) (by decide) (t := .int) (t' := (.array .long)) (by decide) (by decide)))).keep K241 (ninS ne_u_b13 nin0)).ext E243).keep K262 (ninS ne_u_b243 nin0))
  have c284 := (((((((((((((((((((((((((((((((((((((F0_stamp.ext E2).other W5 (Or.inr (slot_ne (Or.inl (hw _ (List.mem_of_getElem? (i := 74) rfl))) (Or.inl (hw _ (List.mem_of_getElem? (i := 12) rfl))) (by decide) (t := .long) (t' := (.array .int)) (by decide) (by decide)))).ext E6).other W12 (Or.inr (slot_ne (Or.inl (hw _ (List.mem_of_getElem? (i := 74) rfl))) (Or.inl (hw _ (List.mem_of_getElem? (i := 14) rfl))) (by decide) (t := .long) (t' := (.array .int)) (by decide) (by decide)))).ext E13).other W20 (Or.inr (slot_ne (Or.inl (hw _ (List.mem_of_getElem? (i := 74) rfl))) (Or.inl (hw _ (List.mem_of_getElem? (i := 16) rfl))) (by decide) (t := .long) (t' := (.array .int)) (by decide) (by decide)))).ext E21).other W29 (Or.inr (slot_ne (Or.inl (hw _ (List.mem_of_getElem? (i := 74) rfl))) (Or.inl (hw _ (List.mem_of_getElem? (i := 18) rfl))) (by decide) (t := .long) (t' := (.array .int)) (by decide) (by decide)))).ext E30).other W39 (Or.inr (slot_ne (Or.inl (hw _ (List.mem_of_getElem? (i := 74) rfl))) (Or.inl (hw _ (List.mem_of_getElem? (i := 21) rfl))) (by decide) (t := .long) (t' := (.array .long)) (by decide) (by decide)))).ext E41).other W50 (Or.inr (slot_ne (Or.inl (hw _ (List.mem_of_getElem? (i := 74) rfl))) (Or.inr (hw _ (List.mem_of_getElem? (i := 23) rfl))) (by decide) (t := .long) (t' := (.array .int)) (by decide) (by decide)))).ext E51).other W62 (Or.inr (slot_ne (Or.inl (hw _ (List.mem_of_getElem? (i := 74) rfl))) (Or.inr (hw _ (List.mem_of_getElem? (i := 25) rfl))) (by decide) (t := .long) (t' := (.array .int)) (by decide) (by decide)))).ext E63).other W75 (Or.inr (slot_ne (Or.inl (hw _ (List.mem_of_getElem? (i := 74) rfl))) (Or.inr (hw _ (List.mem_of_getElem? (i := 27) rfl))) (by decide) (t := .long) (t' := (.array .int)) (by decide) (by decide)))).ext E77).other W90 (Or.inr (slot_ne (Or.inl (hw _ (List.mem_of_getElem? (i := 74) rfl))) (Or.inl (hw _ (List.mem_of_getElem? (i := 33) rfl))) (by decide) (t := .long) (t' := (.array .int)) (by decide) (by decide)))).ext E91).other W105 (Or.inr (slot_ne (Or.inl (hw _ (List.mem_of_getElem? (i := 74) rfl))) (Or.inl (hw _ (List.mem_of_getElem? (i := 35) rfl))) (by decide) (t := .long) (t' := (.array .int)) (by decide) (by decide)))).ext E106).other W121 (Or.inr (slot_ne (Or.inl (hw _ (List.mem_of_getElem? (i := 74) rfl))) (Or.inl (hw _ (List.mem_of_getElem? (i := 37) rfl))) (by decide) (t := .long) (t' := (.array .int)) (by decide) (by decide)))).ext E122).other W138 (Or.inr (slot_ne (Or.inl (hw _ (List.mem_of_getElem? (i := 74) rfl))) (Or.inl (hw _ (List.mem_of_getElem? (i := 39) rfl))) (by decide) (t := .long) (t' := (.array .int)) (by decide) (by decide)))).ext E139).other W156 (Or.inr (slot_ne (Or.inl (hw _ (List.mem_of_getElem? (i := 74) rfl))) (Or.inl (hw _ (List.mem_of_getElem? (i := 41) rfl))) (by decide) (t := .long) (t' := (.array .int)) (by decide) (by decide)))).ext E157).other W175 (Or.inr (slot_ne (Or.inl (hw _ (List.mem_of_getElem? (i := 74) rfl))) (Or.inl (hw _ (List.mem_of_getElem? (i := 43) rfl))) (by decide) (t := .long) (t' := (.array .int)) (by decide) (by decide)))).ext E176).other W195 (Or.inr (slot_ne (Or.inl (hw _ (List.mem_of_getElem? (i := 74) rfl))) (Or.inl (hw _ (List.mem_of_getElem? (i := 45) rfl))) (by decide) (t := .long) (t' := (.array .int)) (by decide) (by decide)))).ext E196).other W216 (Or.inr (slot_ne (Or.inl (hw _ (List.mem_of_getElem? (i := 74) rfl))) (Or.inl (hw _ (List.mem_of_getElem? (i := 47) rfl))) (by decide) (t := .long) (t' := (.array .long)) (by decide) (by decide)))).ext E217).other W238 (Or.inr (slot_ne (Or.inl (hw _ (List.mem_of_getElem? (i := 74) rfl))) (Or.inl (hw _ (List.mem_of_getElem? (i := 49) rfl))) (by decide) (t := .long) (t' := (.array .long)) (by decide) (by decide)))).keep K241 (ninS ne_u_b13 nin0)).ext E243).keep K262 (ninS ne_u_b243 nin0))
  have c285 := ((c253.ext E243).keep K262 (ninS ne_b77_b243 nin0))
  have c286 := ((c254.ext E243).keep K262 (ninS ne_b91_b243 nin0))
  have c287 := ((c255.ext E243).keep K262 (ninS ne_b106_b243 nin0))
  have c288 := ((c256.ext E243).keep K262 (ninS ne_b122_b243 nin0))
  have c289 := ((c260.ext E243).keep K262 (ninS ne_b196_b243 nin0))
  have c290 := ((c261.ext E243).keep K262 (ninS ne_b217_b243 nin0))
  have c291 := ((c257.ext E243).keep K262 (ninS ne_b139_b243 nin0))
  have c292 := ((c258.ext E243).keep K262 (ninS ne_b157_b243 nin0))
  have c293 := ((OF241.ext E243).keep K262 (ninS ne_b13_b243 nin0))
  obtain ⟨cq264, q264, q264'⟩ := c265.cell
  obtain ⟨_, _, ⟨T264, L264, k264, n264⟩, -, X264, ⟨Lc264, hQ264, l264, y264, z264⟩, st264⟩ := X262.privateBack hx (y := (⟨"com/example/lockstep/lockstep/check/StepGroups", "make", "(III)I"⟩ : MethodName)) hown (mvT hZ (hw _ (List.mem_of_getElem? (i := 54) rfl))) (mvT hZ (hw _ (List.mem_of_getElem? (i := 55) rfl))) (osel (y := (⟨"com/example/lockstep/lockstep/check/StepGroups", "make", "(III)I"⟩ : MethodName)) hZ (hw _ (List.mem_of_getElem? (i := 2) rfl)) (hw _ (List.mem_of_getElem? (i := 56) rfl)) (hw _ (List.mem_of_getElem? (i := 55) rfl)) (by decide)) (Cond.privateMethod_at (mvP hZ (hw _ (List.mem_of_getElem? (i := 56) rfl)) (args := #[]))) (mvT hZ (hw _ (List.mem_of_getElem? (i := 57) rfl))) (by decide) (backOf (W := 2) (rmK l Z a0 hw [] u (Int32.ofNat ln) (0 : Int32) 0 b2 b6 b13 b41 b51 b63 b77 b91 b106 b122 b139 b157 b176 b196 b217 0 (0 : Int32) (0 : Int64) (fun _ => 0) (fun _ => 0) (fun _ => 0) (fun _ => 0) (fun _ => 0) (fun _ => 0) (fun _ => 0) (fun _ => 0) (fun _ => (-1 : Int32)) T262.heap n0 Z262 ⟨c265, c266, c267, c268, c269, c270, c271, c272, c273, c274, c275, c276, c277, c278, c279, c280, c281, c282, c283, c284⟩ (show ORD u b2 b6 b13 b41 b51 b63 b77 b91 b106 b122 b139 b157 b176 b196 b217 from ⟨by omega, by omega, by omega, by omega, by omega, by omega, by omega, by omega, by omega, by omega, by omega, by omega, by omega, by omega, by omega⟩) gu c285 c286 c287 c288 c289 c290 c291 c292 c293 (by omega) (by omega) (Or.inl rfl)) hZ (hw _ (List.mem_of_getElem? (i := 57) rfl)) (hw _ (List.mem_of_getElem? (i := 3) rfl)) (by decide) (by decide)) (g := (mkF m 223 #[vr u, vr la, vi (4 : Int32), vi (-1 : Int32), vi (1 : Int32), vi (16 : Int32), vr b243, vi (0 : Int32), vi (Int32.ofNat ln)] [(.int (0 : Int32)), (.int (0 : Int32)), (.int (Int32.ofNat ln)), (.ref u), (.int (Int32.ofNat ln)), (.ref b243)])) rfl (by rw [hml]; rfl) (Steps.refl _) (a := u) q264 q264' (argsL := [(.int (Int32.ofNat ln)), (.int (0 : Int32)), (.int (0 : Int32))]) (rest := [(.int (Int32.ofNat ln)), (.ref b243)]) (lenOf pdC_2 rfl) rfl (by show 2 * 0 + _ ≤ _; exact Nat.le_of_eq rfl) (hb hby dC_223) (fun _ _ => ⟨rfl, rfl, (by decide : 18 + 0 ≤ _), (by decide : 231 + 0 ≤ _)⟩)
  dsimp only [Pt.U, Pt.locs, Pt.cells, Pt.slots] at X264 l264 y264 z264 st264 hQ264
  subst l264 y264 z264
  obtain ⟨rfl, Nq264, Z264, K264, Uq264, Ofs_264, Olb_264, Osb_264, Obl_264, Oqs_264, Oms_264, Opv_264, Onx_264, Ofb_264⟩ := hQ264
  have N264 := Fr.app N262 Nq264
  obtain ⟨E264, F264_emptied, F264_free, F264_firstOfBlock, F264_groupOf, F264_previousStep, F264_nextStep, F264_firstStep, F264_label, F264_superBlock, F264_block, F264_previous, F264_next, F264_partner, F264_partnerStamp, F264_markStamp, F264_groupCount, F264_emptiedCount, F264_freeCount, F264_stamp⟩ := Uq264
  obtain ⟨lo264, X264, N264⟩ : ∃ L, Stand p l e ({ frames := 1, cells := 18, slots := 231, locals := 19 } : Room) s m #[(.ref u), (.ref la), (.int (4 : Int32)), (.int (-1 : Int32))] below meth c T264 L 18 231 ∧ Fr n0 L := ⟨_, X264, N264⟩
  refine OGo.st (fun t kk => st264.trans kk) ?_
  show OGo p e below _ (T264.setTop (mkF m 226 #[vr u, vr la, vi (4 : Int32), vi (-1 : Int32), vi (1 : Int32), vi (16 : Int32), vr b243, vi (0 : Int32), vi (Int32.ofNat ln)] [(.int (Int32.ofNat 0)), (.int (Int32.ofNat ln)), (.ref b243)]))
  have c295 := (OF262.keep K264 (ninS (Ne.symm ne_u_b243) (ninS (Ne.symm ne_b77_b243) (ninS (Ne.symm ne_b91_b243) (ninS (Ne.symm ne_b106_b243) (ninS (Ne.symm ne_b122_b243) (ninS (Ne.symm ne_b196_b243) (ninS (Ne.symm ne_b217_b243) (ninS (Ne.symm ne_b139_b243) (ninS (Ne.symm ne_b157_b243) (ninS (Ne.symm ne_b13_b243) nin0)))))))))))
  obtain ⟨T294, h294, X294, e294, W294, O294', st294⟩ := OA.stI X264 hx hZ rfl c295 (j := (Int32.ofNat ln)) (x := (Int32.ofNat 0)) (k := ln) (own_nat (show ln < 1000 by omega)).1 (own_nat (show ln < 1000 by omega)).2 (by omega) (g := (mkF m 226 #[vr u, vr la, vi (4 : Int32), vi (-1 : Int32), vi (1 : Int32), vi (16 : Int32), vr b243, vi (0 : Int32), vi (Int32.ofNat ln)] [(.int (Int32.ofNat 0)), (.int (Int32.ofNat ln)), (.ref b243)])) rfl rfl (hb hby dC_226)
  have O294 := O294'
  have N294 := Fr.snoc X294 N264 gb243
  have Z294 : n0 ≤ h294.size := Nat.le_trans Z264 (Keep.of_wr W294).1
  obtain ⟨lo294, X294, N294⟩ : ∃ L, Stand p l e ({ frames := 1, cells := 18, slots := 231, locals := 19 } : Room) s m #[(.ref u), (.ref la), (.int (4 : Int32)), (.int (-1 : Int32))] below meth c T294 L 18 231 ∧ Fr n0 L := ⟨_, X294, N294⟩
  refine OGo.st (fun t kk => st294 t kk) ?_
  show OGo p e below _ (T294.setTop (mkF m 227 #[vr u, vr la, vi (4 : Int32), vi (-1 : Int32), vi (1 : Int32), vi (16 : Int32), vr b243, vi (0 : Int32), vi (Int32.ofNat ln)] []))
  refine OGo.st (fun t kk => XS.aloadN X294.here hx rfl (hb hby dC_227) rfl rfl kk) ?_
  show OGo p e below _ (T294.setTop (mkF m 228 #[vr u, vr la, vi (4 : Int32), vi (-1 : Int32), vi (1 : Int32), vi (16 : Int32), vr b243, vi (0 : Int32), vi (Int32.ofNat ln)] [(.ref u)]))
  refine OGo.st (fun t kk => XS.iload X294.here hx rfl (hb hby dC_228) rfl kk) ?_
  show OGo p e below _ (T294.setTop (mkF m 230 #[vr u, vr la, vi (4 : Int32), vi (-1 : Int32), vi (1 : Int32), vi (16 : Int32), vr b243, vi (0 : Int32), vi (Int32.ofNat ln)] [(.int (0 : Int32)), (.ref u)]))
  refine OGo.st (fun t kk => XS.aload X294.here hx rfl (hb hby dC_230) rfl rfl kk) ?_
  show OGo p e below _ (T294.setTop (mkF m 232 #[vr u, vr la, vi (4 : Int32), vi (-1 : Int32), vi (1 : Int32), vi (16 : Int32), vr b243, vi (0 : Int32), vi (Int32.ofNat ln)] [(.ref b243), (.int (0 : Int32)), (.ref u)]))
  refine OGo.st (fun t kk => XS.iload X294.here hx rfl (hb hby dC_232) rfl kk) ?_
  show OGo p e below _ (T294.setTop (mkF m 234 #[vr u, vr la, vi (4 : Int32), vi (-1 : Int32), vi (1 : Int32), vi (16 : Int32), vr b243, vi (0 : Int32), vi (Int32.ofNat ln)] [(.int (Int32.ofNat ln)), (.ref b243), (.int (0 : Int32)), (.ref u)]))
  refine OGo.st (fun t kk => OA.ldI X294 hx hZ e294 O294 (j := (Int32.ofNat ln)) (k := ln) (own_nat (show ln < 1000 by omega)).1 (own_nat (show ln < 1000 by omega)).2 (by omega) (g := (mkF m 234 #[vr u, vr la, vi (4 : Int32), vi (-1 : Int32), vi (1 : Int32), vi (16 : Int32), vr b243, vi (0 : Int32), vi (Int32.ofNat ln)] [(.int (Int32.ofNat ln)), (.ref b243), (.int (0 : Int32)), (.ref u)])) rfl rfl (hb hby dC_234) t kk) ?_
  show OGo p e below _ (T294.setTop (mkF m 235 #[vr u, vr la, vi (4 : Int32), vi (-1 : Int32), vi (1 : Int32), vi (16 : Int32), vr b243, vi (0 : Int32), vi (Int32.ofNat ln)] [(.int ((oset (fun _ => (-1 : Int32)) ln (Int32.ofNat 0)) ln)), (.int (0 : Int32)), (.ref u)]))
  rw [own_o]
  show OGo p e below _ (T294.setTop (mkF m 235 #[vr u, vr la, vi (4 : Int32), vi (-1 : Int32), vi (1 : Int32), vi (16 : Int32), vr b243, vi (0 : Int32), vi (Int32.ofNat ln)] [(.int (Int32.ofNat 0)), (.int (0 : Int32)), (.ref u)]))
  have c297 := (E264.wr W294)
  have c298 := (F264_emptied.other W294 (Or.inl ne_u_b243))
  have c299 := (F264_free.other W294 (Or.inl ne_u_b243))
  have c300 := (F264_firstOfBlock.other W294 (Or.inl ne_u_b243))
  have c301 := (F264_groupOf.other W294 (Or.inl ne_u_b243))
  have c302 := (F264_previousStep.other W294 (Or.inl ne_u_b243))
  have c303 := (F264_nextStep.other W294 (Or.inl ne_u_b243))
  have c304 := (F264_firstStep.other W294 (Or.inl ne_u_b243))
  have c305 := (F264_label.other W294 (Or.inl ne_u_b243))
  have c306 := (F264_superBlock.other W294 (Or.inl ne_u_b243))
  have c307 := (F264_block.other W294 (Or.inl ne_u_b243))
  have c308 := (F264_previous.other W294 (Or.inl ne_u_b243))
  have c309 := (F264_next.other W294 (Or.inl ne_u_b243))
  have c310 := (F264_partner.other W294 (Or.inl ne_u_b243))
  have c311 := (F264_partnerStamp.other W294 (Or.inl ne_u_b243))
  have c312 := (F264_markStamp.other W294 (Or.inl ne_u_b243))
  have c313 := (F264_groupCount.other W294 (Or.inl ne_u_b243))
  have c314 := (F264_emptiedCount.other W294 (Or.inl ne_u_b243))
  have c315 := (F264_freeCount.other W294 (Or.inl ne_u_b243))
  have c316 := (F264_stamp.other W294 (Or.inl ne_u_b243))
  have c317 := ((((c251.ext E243).keep K262 (ninS ne_b51_b243 nin0)).keep K264 (ninS (Ne.symm ne_u_b51) (ninS ne_b51_b77 (ninS ne_b51_b91 (ninS ne_b51_b106 (ninS ne_b51_b122 (ninS ne_b51_b196 (ninS ne_b51_b217 (ninS ne_b51_b139 (ninS ne_b51_b157 (ninS (Ne.symm ne_b13_b51) nin0))))))))))).other W294 ne_b51_b243)
  have c318 := ((((c252.ext E243).keep K262 (ninS ne_b63_b243 nin0)).keep K264 (ninS (Ne.symm ne_u_b63) (ninS ne_b63_b77 (ninS ne_b63_b91 (ninS ne_b63_b106 (ninS ne_b63_b122 (ninS ne_b63_b196 (ninS ne_b63_b217 (ninS ne_b63_b139 (ninS ne_b63_b157 (ninS (Ne.symm ne_b13_b63) nin0))))))))))).other W294 ne_b63_b243)
  have c319 := (Ofs_264.other W294 ne_b77_b243)
  have c320 := ((((c250.ext E243).keep K262 (ninS ne_b41_b243 nin0)).keep K264 (ninS (Ne.symm ne_u_b41) (ninS ne_b41_b77 (ninS ne_b41_b91 (ninS ne_b41_b106 (ninS ne_b41_b122 (ninS ne_b41_b196 (ninS ne_b41_b217 (ninS ne_b41_b139 (ninS ne_b41_b157 (ninS (Ne.symm ne_b13_b41) nin0))))))))))).other W294 ne_b41_b243)
  obtain ⟨cq296, q296, q296'⟩ := c297.cell
  obtain ⟨_, _, ⟨T296, L296, k296, n296⟩, -, X296, ⟨Lc296, hQ296, l296, y296, z296⟩, st296⟩ := X294.privateBack hx (y := (⟨"com/example/lockstep/lockstep/check/StepGroups", "link", "(II)V"⟩ : MethodName)) hown (mvT hZ (hw _ (List.mem_of_getElem? (i := 62) rfl))) (mvT hZ (hw _ (List.mem_of_getElem? (i := 63) rfl))) (osel (y := (⟨"com/example/lockstep/lockstep/check/StepGroups", "link", "(II)V"⟩ : MethodName)) hZ (hw _ (List.mem_of_getElem? (i := 2) rfl)) (hw _ (List.mem_of_getElem? (i := 64) rfl)) (hw _ (List.mem_of_getElem? (i := 63) rfl)) (by decide)) (Cond.privateMethod_at (mvP hZ (hw _ (List.mem_of_getElem? (i := 64) rfl)) (args := #[]))) (mvT hZ (hw _ (List.mem_of_getElem? (i := 65) rfl))) (by decide) (backOf (W := 0) (rmL l Z a0 hw [] u 0 b2 b6 b13 b41 b51 b63 b77 b91 b106 b122 b139 b157 b176 b196 b217 (Int32.ofNat (0 + 1)) (0 : Int32) (0 : Int32) (0 : Int64) (fun _ => 0) (fun _ => 0) (oset (fun _ => 0) 0 (-1)) (fun _ => 0) h294 n0 Z294 ⟨c297, c298, c299, c300, c301, c302, c303, c304, c305, c306, c307, c308, c309, c310, c311, c312, c313, c314, c315, c316⟩ (show ORD u b2 b6 b13 b41 b51 b63 b77 b91 b106 b122 b139 b157 b176 b196 b217 from ⟨by omega, by omega, by omega, by omega, by omega, by omega, by omega, by omega, by omega, by omega, by omega, by omega, by omega, by omega, by omega⟩) gu c317 c318 c319 c320 (by omega) (own_o _ _ _)) hZ (hw _ (List.mem_of_getElem? (i := 65) rfl)) (hw _ (List.mem_of_getElem? (i := 3) rfl)) (by decide) (by decide)) (g := (mkF m 235 #[vr u, vr la, vi (4 : Int32), vi (-1 : Int32), vi (1 : Int32), vi (16 : Int32), vr b243, vi (0 : Int32), vi (Int32.ofNat ln)] [(.int (Int32.ofNat 0)), (.int (0 : Int32)), (.ref u)])) rfl (by rw [hml]; rfl) (Steps.refl _) (a := u) (by rw [e294]; exact q296) q296' (argsL := [(.int (0 : Int32)), (.int (Int32.ofNat 0))]) (rest := []) (lenOf pdC_3 rfl) rfl (by show 2 * 0 + _ ≤ _; exact Nat.le_of_eq rfl) (hb hby dC_235) (fun _ _ => ⟨rfl, e294, (by decide : 18 + 0 ≤ _), (by decide : 231 + 0 ≤ _)⟩)
  dsimp only [Pt.U, Pt.locs, Pt.cells, Pt.slots] at X296 l296 y296 z296 st296 hQ296
  subst l296 y296 z296
  obtain ⟨rfl, Nq296, Z296, K296, Ops_296, Ons_296, Ofs_296, Ogo_296⟩ := hQ296
  have N296 := Fr.app N294 Nq296
  obtain ⟨lo296, X296, N296⟩ : ∃ L, Stand p l e ({ frames := 1, cells := 18, slots := 231, locals := 19 } : Room) s m #[(.ref u), (.ref la), (.int (4 : Int32)), (.int (-1 : Int32))] below meth c T296 L 18 231 ∧ Fr n0 L := ⟨_, X296, N296⟩
  refine OGo.st (fun t kk => st296.trans kk) ?_
  show OGo p e below _ (T296.setTop (mkF m 238 #[vr u, vr la, vi (4 : Int32), vi (-1 : Int32), vi (1 : Int32), vi (16 : Int32), vr b243, vi (0 : Int32), vi (Int32.ofNat ln)] []))
  refine OGo.st (fun t kk => XS.iinc X296.here hx rfl (hb hby dC_238) rfl (l' := #[vr u, vr la, vi (4 : Int32), vi (-1 : Int32), vi (1 : Int32), vi (16 : Int32), vr b243, vi (-1 : Int32), vi (Int32.ofNat ln)]) rfl kk) ?_
  show OGo p e below _ (T296.setTop (mkF m 241 #[vr u, vr la, vi (4 : Int32), vi (-1 : Int32), vi (1 : Int32), vi (16 : Int32), vr b243, vi (-1 : Int32), vi (Int32.ofNat ln)] []))
  refine OGo.st (fun t kk => XS.goto X296.here hx rfl (pc0 := 241) (pc' := 177) rfl (hb hby dC_241) (by decide) (by decide) kk) ?_
  show OGo p e below _ (T296.setTop (mkF m 177 #[vr u, vr la, vi (4 : Int32), vi (-1 : Int32), vi (1 : Int32), vi (16 : Int32), vr b243, vi (-1 : Int32), vi (Int32.ofNat ln)] []))
  refine OGo.st (fun t kk => XS.iload X296.here hx rfl (hb hby dC_177) rfl kk) ?_
  show OGo p e below _ (T296.setTop (mkF m 179 #[vr u, vr la, vi (4 : Int32), vi (-1 : Int32), vi (1 : Int32), vi (16 : Int32), vr b243, vi (-1 : Int32), vi (Int32.ofNat ln)] [(.int (-1 : Int32))]))
  refine OGo.st (fun t kk => XS.ifYes X296.here hx rfl (pc0 := 179) (pc' := 244) rfl (hb hby dC_179) rfl ((if0 _ _).trans (tlt (by decide : ((-1 : Int32) < (0 : Int32)))).1) (by decide) (by decide) kk) ?_
  show OGo p e below _ (T296.setTop (mkF m 244 #[vr u, vr la, vi (4 : Int32), vi (-1 : Int32), vi (1 : Int32), vi (16 : Int32), vr b243, vi (-1 : Int32), vi (Int32.ofNat ln)] []))
  have c321 := (c297.keep K296)
  have c322 := (c298.keep K296 (ninS ne_u_b51 (ninS ne_u_b63 (ninS ne_u_b77 (ninS ne_u_b41 nin0)))))
  have c323 := (c299.keep K296 (ninS ne_u_b51 (ninS ne_u_b63 (ninS ne_u_b77 (ninS ne_u_b41 nin0)))))
  have c324 := (c300.keep K296 (ninS ne_u_b51 (ninS ne_u_b63 (ninS ne_u_b77 (ninS ne_u_b41 nin0)))))
  have c325 := (c301.keep K296 (ninS ne_u_b51 (ninS ne_u_b63 (ninS ne_u_b77 (ninS ne_u_b41 nin0)))))
  have c326 := (c302.keep K296 (ninS ne_u_b51 (ninS ne_u_b63 (ninS ne_u_b77 (ninS ne_u_b41 nin0)))))
  have c327 := (c303.keep K296 (ninS ne_u_b51 (ninS ne_u_b63 (ninS ne_u_b77 (ninS ne_u_b41 nin0)))))
  have c328 := (c304.keep K296 (ninS ne_u_b51 (ninS ne_u_b63 (ninS ne_u_b77 (ninS ne_u_b41 nin0)))))
  have c329 := (c305.keep K296 (ninS ne_u_b51 (ninS ne_u_b63 (ninS ne_u_b77 (ninS ne_u_b41 nin0)))))
  have c330 := (c306.keep K296 (ninS ne_u_b51 (ninS ne_u_b63 (ninS ne_u_b77 (ninS ne_u_b41 nin0)))))
  have c331 := (c307.keep K296 (ninS ne_u_b51 (ninS ne_u_b63 (ninS ne_u_b77 (ninS ne_u_b41 nin0)))))
  have c332 := (c308.keep K296 (ninS ne_u_b51 (ninS ne_u_b63 (ninS ne_u_b77 (ninS ne_u_b41 nin0)))))
  have c333 := (c309.keep K296 (ninS ne_u_b51 (ninS ne_u_b63 (ninS ne_u_b77 (ninS ne_u_b41 nin0)))))
  have c334 := (c310.keep K296 (ninS ne_u_b51 (ninS ne_u_b63 (ninS ne_u_b77 (ninS ne_u_b41 nin0)))))
  have c335 := (c311.keep K296 (ninS ne_u_b51 (ninS ne_u_b63 (ninS ne_u_b77 (ninS ne_u_b41 nin0)))))
  have c336 := (c312.keep K296 (ninS ne_u_b51 (ninS ne_u_b63 (ninS ne_u_b77 (ninS ne_u_b41 nin0)))))
  have c337 := (c313.keep K296 (ninS ne_u_b51 (ninS ne_u_b63 (ninS ne_u_b77 (ninS ne_u_b41 nin0)))))
  have c338 := (c314.keep K296 (ninS ne_u_b51 (ninS ne_u_b63 (ninS ne_u_b77 (ninS ne_u_b41 nin0)))))
  have c339 := (c315.keep K296 (ninS ne_u_b51 (ninS ne_u_b63 (ninS ne_u_b77 (ninS ne_u_b41 nin0)))))
  have c340 := (c316.keep K296 (ninS ne_u_b51 (ninS ne_u_b63 (ninS ne_u_b77 (ninS ne_u_b41 nin0)))))
  have c341 := (((((c246.ext E243).keep K262 (ninS ne_b2_b243 nin0)).keep K264 (ninS (Ne.symm ne_u_b2) (ninS ne_b2_b77 (ninS ne_b2_b91 (ninS ne_b2_b106 (ninS ne_b2_b122 (ninS ne_b2_b196 (ninS ne_b2_b217 (ninS ne_b2_b139 (ninS ne_b2_b157 (ninS ne_b2_b13 nin0))))))))))).other W294 ne_b2_b243).keep K296 (ninS ne_b2_b51 (ninS ne_b2_b63 (ninS ne_b2_b77 (ninS ne_b2_b41 nin0)))))
  have c342 := ((Ofb_264.other W294 ne_b13_b243).keep K296 (ninS ne_b13_b51 (ninS ne_b13_b63 (ninS ne_b13_b77 (ninS ne_b13_b41 nin0)))))
  have c343 := ((Olb_264.other W294 ne_b91_b243).keep K296 (ninS (Ne.symm ne_b51_b91) (ninS (Ne.symm ne_b63_b91) (ninS (Ne.symm ne_b77_b91) (ninS (Ne.symm ne_b41_b91) nin0)))))
  have c344 := ((Osb_264.other W294 ne_b106_b243).keep K296 (ninS (Ne.symm ne_b51_b106) (ninS (Ne.symm ne_b63_b106) (ninS (Ne.symm ne_b77_b106) (ninS (Ne.symm ne_b41_b106) nin0)))))
  have c345 := ((Obl_264.other W294 ne_b122_b243).keep K296 (ninS (Ne.symm ne_b51_b122) (ninS (Ne.symm ne_b63_b122) (ninS (Ne.symm ne_b77_b122) (ninS (Ne.symm ne_b41_b122) nin0)))))
  have c346 := ((Opv_264.other W294 ne_b139_b243).keep K296 (ninS (Ne.symm ne_b51_b139) (ninS (Ne.symm ne_b63_b139) (ninS (Ne.symm ne_b77_b139) (ninS (Ne.symm ne_b41_b139) nin0)))))
  have c347 := ((Onx_264.other W294 ne_b157_b243).keep K296 (ninS (Ne.symm ne_b51_b157) (ninS (Ne.symm ne_b63_b157) (ninS (Ne.symm ne_b77_b157) (ninS (Ne.symm ne_b41_b157) nin0)))))
  have c348 := (((((c259.ext E243).keep K262 (ninS ne_b176_b243 nin0)).keep K264 (ninS (Ne.symm ne_u_b176) (ninS (Ne.symm ne_b77_b176) (ninS (Ne.symm ne_b91_b176) (ninS (Ne.symm ne_b106_b176) (ninS (Ne.symm ne_b122_b176) (ninS ne_b176_b196 (ninS ne_b176_b217 (ninS (Ne.symm ne_b139_b176) (ninS (Ne.symm ne_b157_b176) (ninS (Ne.symm ne_b13_b176) nin0))))))))))).other W294 ne_b176_b243).keep K296 (ninS (Ne.symm ne_b51_b176) (ninS (Ne.symm ne_b63_b176) (ninS (Ne.symm ne_b77_b176) (ninS (Ne.symm ne_b41_b176) nin0)))))
  have c349 := ((Oqs_264.other W294 ne_b196_b243).keep K296 (ninS (Ne.symm ne_b51_b196) (ninS (Ne.symm ne_b63_b196) (ninS (Ne.symm ne_b77_b196) (ninS (Ne.symm ne_b41_b196) nin0)))))
  have c350 := ((Oms_264.other W294 ne_b217_b243).keep K296 (ninS (Ne.symm ne_b51_b217) (ninS (Ne.symm ne_b63_b217) (ninS (Ne.symm ne_b77_b217) (ninS (Ne.symm ne_b41_b217) nin0)))))
  refine OGo.outV X296 hx Bd.returns Bd.notSynchronized (hb hby dC_244) ?_ (by decide) (by decide)
  exact ⟨rfl, N296, Z296, b2, b6, b13, b41, b51, b63, b77, b91, b106, b122, b139, b157, b176, b196, b217, _, _, _, _, _, _, _, _, _, _, _, _, _, _, ⟨by omega, by omega, by omega, by omega, by omega, by omega, by omega, by omega, by omega, by omega, by omega, by omega, by omega, by omega, by omega⟩, ⟨c321, c322, c323, c324, c325, c326, c327, c328, c329, c330, c331, c332, c333, c334, c335, c336, c337, c338, c339, c340⟩, c341, c342, Ogo_296, Ops_296, Ons_296, Ofs_296, c343, c344, c345, c346, c347, c348, c349, c350, rfl, rfl, rfl, rfl, rfl, rfl, rfl, rfl, rfl, rfl, rfl, fun j hj => if_neg hj⟩
theorem own_la {f g : Nat → Int32} {x : Int32} (h : f = oset g 0 x) : f 0 = x := by rw [h]; rfl
theorem own_tb {f : Nat → Int32} (h0 : f 0 = 0) (h : ∀ j, ¬ j = 0 → f j = -1) (k : Nat) : (k = 0 ∧ f k = 0) ∨ (¬ k = 0 ∧ f k = -1) := by
  by_cases q : k = 0
  · subst q; exact Or.inl ⟨rfl, h0⟩
  · exact Or.inr ⟨q, h k q⟩
theorem pn0 : plainName "com/example/lockstep/lockstep/check/StepGroupsHoldsPinLaw" = true := by first | (simp [plainName, overriddenIn]; done) | decide +kernel
theorem pd0_0 : parseMethodDescriptor "([III)V" = some ⟨[(.array .int), .int, .int], none⟩ := by decide +kernel
theorem pd0_1 : parseMethodDescriptor "()J" = some ⟨[], some .long⟩ := by decide +kernel
theorem pd0_2 : parseMethodDescriptor "(IIII)Z" = some ⟨[.int, .int, .int, .int], some .boolean⟩ := by decide +kernel
theorem pd0_3 : parseMethodDescriptor "(IJI)V" = some ⟨[.int, .long, .int], none⟩ := by decide +kernel
theorem ef0 (m : MethodId) (q1 : Int32) (q2 : Int32) (q3 : Int32) (q4 : Int32) (q5 : Int32) (q6 : Int32) : entryFrame m #[(.int q1), (.int q2), (.int q3), (.int q4), (.int q5), (.int q6)] maxLocals = mkF m 0 #[.val (.int q1), .val (.int q2), .val (.int q3), .val (.int q4), .val (.int q5), .val (.int q6), .unset, .unset, .unset, .unset, .unset, .unset, .unset, .unset, .unset, .unset, .unset, .unset] [] := by first | (simp [entryFrame, mkF, argsToLocals, Value.category, maxLocals]; done) | rfl
set_option maxRecDepth 65536 in
set_option maxHeartbeats 40000000 in
theorem rm0 (l : Launch) (Z : State) (a0 : Array Value) (hw : ∀ d ∈ tables_1, d.before a0 Z = true) (ws : List Jvm.Cond) (q1 : Int32) (q2 : Int32) (q3 : Int32) (q4 : Int32) (q5 : Int32) (q6 : Int32) (h0 : Heap) (n0 : Nat) (Z0 : n0 ≤ h0.size) :
    MetFree l x (head1 (Jvm.Cond.code x code maxLocals ret :: ws) room_1) (fun a U => a = #[(.int q1), (.int q2), (.int q3), (.int q4), (.int q5), (.int q6)] ∧ Z.Warmed39 U.vm ∧ U.heap = h0) (fun _ _ _ _ _ => True) (fun _ U o U' => ∃ v L, o = .returned v ∧ PF n0 1 v U'.heap L ∧ FrameEnd U o U' L room_1.cells room_1.slots) := by
  refine MetFree.of_bodySF (plainFor_of_name pn0) hisR ?_
  intro p e s m args below meth c s₁ Bd hml0 hP hK
  obtain ⟨rfl, hZ, hh⟩ := hP
  have hx := Bd.exec
  have hby := Bd.bytes
  have hml : c.maxLocals = 18 := hml0
  have hown : s.vm.findClass "com/example/lockstep/lockstep/check/StepGroupsHoldsPinLaw" = some m.cls := findClass_of_methodNamed Bd.named
  have hnm := (name_of_methodNamed Bd.named Bd.method).1
  have X0 : Stand p l e room_1 s m #[(.int q1), (.int q2), (.int q3), (.int q4), (.int q5), (.int q6)] below meth c s₁ [] 0 0 := Stand.of_body Bd
  have e0 : s₁.heap = h0 := by rw [← hh, Bd.state]; rfl
  have N0 := Fr.nil n0
  show OGo p e below (Out s room_1.cells room_1.slots (PF n0 1)) (s₁.setTop (entryFrame m #[(.int q1), (.int q2), (.int q3), (.int q4), (.int q5), (.int q6)] maxLocals))
  obtain ⟨ln, hln_, hln⟩ := own_and3 q1
  obtain ⟨tb, htb_, htb⟩ := own_and15 q3
  obtain ⟨md, hmd_, hmd⟩ := own_md q2
  obtain ⟨gs, hgs_, hgs⟩ := own_gs q2
  refine OGo.st (fun t kk => castTop (ef0 m q1 q2 q3 q4 q5 q6) kk) ?_
  show OGo p e below (Out s room_1.cells room_1.slots (PF n0 1)) (s₁.setTop (mkF m 0 #[vi q1, vi q2, vi q3, vi q4, vi q5, vi q6, .unset, .unset, .unset, .unset, .unset, .unset, .unset, .unset, .unset, .unset, .unset, .unset] []))
  refine OGo.st (fun t kk => XS.iloadN X0.here hx rfl (hb hby at_0) rfl kk) ?_
  show OGo p e below _ (s₁.setTop (mkF m 1 #[vi q1, vi q2, vi q3, vi q4, vi q5, vi q6, .unset, .unset, .unset, .unset, .unset, .unset, .unset, .unset, .unset, .unset, .unset, .unset] [(.int q1)]))
  refine OGo.st (fun t kk => XS.iconst X0.here hx rfl (hb hby at_1) kk) ?_
  show OGo p e below _ (s₁.setTop (mkF m 2 #[vi q1, vi q2, vi q3, vi q4, vi q5, vi q6, .unset, .unset, .unset, .unset, .unset, .unset, .unset, .unset, .unset, .unset, .unset, .unset] [(.int (3 : Int32)), (.int q1)]))
  refine OGo.st (fun t kk => XS.iand X0.here hx rfl (hb hby at_2) rfl kk) ?_
  show OGo p e below _ (s₁.setTop (mkF m 3 #[vi q1, vi q2, vi q3, vi q4, vi q5, vi q6, .unset, .unset, .unset, .unset, .unset, .unset, .unset, .unset, .unset, .unset, .unset, .unset] [(.int (q1 &&& (3 : Int32)))]))
  rw [hln_]
  show OGo p e below _ (s₁.setTop (mkF m 3 #[vi q1, vi q2, vi q3, vi q4, vi q5, vi q6, .unset, .unset, .unset, .unset, .unset, .unset, .unset, .unset, .unset, .unset, .unset, .unset] [(.int (Int32.ofNat ln))]))
  refine OGo.st (fun t kk => XS.istore X0.here hx rfl (hb hby at_3) rfl (l' := #[vi q1, vi q2, vi q3, vi q4, vi q5, vi q6, vi (Int32.ofNat ln), .unset, .unset, .unset, .unset, .unset, .unset, .unset, .unset, .unset, .unset, .unset]) rfl kk) ?_
  show OGo p e below _ (s₁.setTop (mkF m 5 #[vi q1, vi q2, vi q3, vi q4, vi q5, vi q6, vi (Int32.ofNat ln), .unset, .unset, .unset, .unset, .unset, .unset, .unset, .unset, .unset, .unset, .unset] []))
  refine OGo.st (fun t kk => XS.iloadN X0.here hx rfl (hb hby at_5) rfl kk) ?_
  show OGo p e below _ (s₁.setTop (mkF m 6 #[vi q1, vi q2, vi q3, vi q4, vi q5, vi q6, vi (Int32.ofNat ln), .unset, .unset, .unset, .unset, .unset, .unset, .unset, .unset, .unset, .unset, .unset] [(.int q2)]))
  refine OGo.st (fun t kk => X0.ldcInt hx hown (mvT hZ (hw _ (List.mem_of_getElem? (i := 0) rfl))) (g := (mkF m 6 #[vi q1, vi q2, vi q3, vi q4, vi q5, vi q6, vi (Int32.ofNat ln), .unset, .unset, .unset, .unset, .unset, .unset, .unset, .unset, .unset, .unset, .unset] [(.int q2)])) rfl (hb hby at_6) t kk) ?_
  show OGo p e below _ (s₁.setTop (mkF m 8 #[vi q1, vi q2, vi q3, vi q4, vi q5, vi q6, vi (Int32.ofNat ln), .unset, .unset, .unset, .unset, .unset, .unset, .unset, .unset, .unset, .unset, .unset] [(.int (2147483647 : Int32)), (.int q2)]))
  refine OGo.st (fun t kk => XS.iand X0.here hx rfl (hb hby at_8) rfl kk) ?_
  show OGo p e below _ (s₁.setTop (mkF m 9 #[vi q1, vi q2, vi q3, vi q4, vi q5, vi q6, vi (Int32.ofNat ln), .unset, .unset, .unset, .unset, .unset, .unset, .unset, .unset, .unset, .unset, .unset] [(.int (q2 &&& (2147483647 : Int32)))]))
  refine OGo.st (fun t kk => XS.istore X0.here hx rfl (hb hby at_9) rfl (l' := #[vi q1, vi q2, vi q3, vi q4, vi q5, vi q6, vi (Int32.ofNat ln), vi (q2 &&& (2147483647 : Int32)), .unset, .unset, .unset, .unset, .unset, .unset, .unset, .unset, .unset, .unset]) rfl kk) ?_
  show OGo p e below _ (s₁.setTop (mkF m 11 #[vi q1, vi q2, vi q3, vi q4, vi q5, vi q6, vi (Int32.ofNat ln), vi (q2 &&& (2147483647 : Int32)), .unset, .unset, .unset, .unset, .unset, .unset, .unset, .unset, .unset, .unset] []))
  refine OGo.st (fun t kk => XS.iload X0.here hx rfl (hb hby at_11) rfl kk) ?_
  show OGo p e below _ (s₁.setTop (mkF m 13 #[vi q1, vi q2, vi q3, vi q4, vi q5, vi q6, vi (Int32.ofNat ln), vi (q2 &&& (2147483647 : Int32)), .unset, .unset, .unset, .unset, .unset, .unset, .unset, .unset, .unset, .unset] [(.int (q2 &&& (2147483647 : Int32)))]))
  refine OGo.st (fun t kk => XS.iconst X0.here hx rfl (hb hby at_13) kk) ?_
  show OGo p e below _ (s₁.setTop (mkF m 14 #[vi q1, vi q2, vi q3, vi q4, vi q5, vi q6, vi (Int32.ofNat ln), vi (q2 &&& (2147483647 : Int32)), .unset, .unset, .unset, .unset, .unset, .unset, .unset, .unset, .unset, .unset] [(.int (3 : Int32)), (.int (q2 &&& (2147483647 : Int32)))]))
  refine OGo.st (fun t kk => XS.irem X0.here hx rfl (hb hby at_14) rfl (by decide) kk) ?_
  show OGo p e below _ (s₁.setTop (mkF m 15 #[vi q1, vi q2, vi q3, vi q4, vi q5, vi q6, vi (Int32.ofNat ln), vi (q2 &&& (2147483647 : Int32)), .unset, .unset, .unset, .unset, .unset, .unset, .unset, .unset, .unset, .unset] [(.int ((q2 &&& (2147483647 : Int32)) - ((q2 &&& (2147483647 : Int32)) / (3 : Int32)) * (3 : Int32)))]))
  rw [hmd_]
  show OGo p e below _ (s₁.setTop (mkF m 15 #[vi q1, vi q2, vi q3, vi q4, vi q5, vi q6, vi (Int32.ofNat ln), vi (q2 &&& (2147483647 : Int32)), .unset, .unset, .unset, .unset, .unset, .unset, .unset, .unset, .unset, .unset] [(.int md)]))
  refine OGo.st (fun t kk => XS.istore X0.here hx rfl (hb hby at_15) rfl (l' := #[vi q1, vi q2, vi q3, vi q4, vi q5, vi q6, vi (Int32.ofNat ln), vi (q2 &&& (2147483647 : Int32)), vi md, .unset, .unset, .unset, .unset, .unset, .unset, .unset, .unset, .unset]) rfl kk) ?_
  show OGo p e below _ (s₁.setTop (mkF m 17 #[vi q1, vi q2, vi q3, vi q4, vi q5, vi q6, vi (Int32.ofNat ln), vi (q2 &&& (2147483647 : Int32)), vi md, .unset, .unset, .unset, .unset, .unset, .unset, .unset, .unset, .unset] []))
  refine OGo.st (fun t kk => XS.iload X0.here hx rfl (hb hby at_17) rfl kk) ?_
  show OGo p e below _ (s₁.setTop (mkF m 19 #[vi q1, vi q2, vi q3, vi q4, vi q5, vi q6, vi (Int32.ofNat ln), vi (q2 &&& (2147483647 : Int32)), vi md, .unset, .unset, .unset, .unset, .unset, .unset, .unset, .unset, .unset] [(.int (q2 &&& (2147483647 : Int32)))]))
  refine OGo.st (fun t kk => XS.iconst X0.here hx rfl (hb hby at_19) kk) ?_
  show OGo p e below _ (s₁.setTop (mkF m 20 #[vi q1, vi q2, vi q3, vi q4, vi q5, vi q6, vi (Int32.ofNat ln), vi (q2 &&& (2147483647 : Int32)), vi md, .unset, .unset, .unset, .unset, .unset, .unset, .unset, .unset, .unset] [(.int (3 : Int32)), (.int (q2 &&& (2147483647 : Int32)))]))
  refine OGo.st (fun t kk => XS.idiv X0.here hx rfl (hb hby at_20) rfl (by decide) kk) ?_
  show OGo p e below _ (s₁.setTop (mkF m 21 #[vi q1, vi q2, vi q3, vi q4, vi q5, vi q6, vi (Int32.ofNat ln), vi (q2 &&& (2147483647 : Int32)), vi md, .unset, .unset, .unset, .unset, .unset, .unset, .unset, .unset, .unset] [(.int ((q2 &&& (2147483647 : Int32)) / (3 : Int32)))]))
  refine OGo.st (fun t kk => XS.iconst X0.here hx rfl (hb hby at_21) kk) ?_
  show OGo p e below _ (s₁.setTop (mkF m 22 #[vi q1, vi q2, vi q3, vi q4, vi q5, vi q6, vi (Int32.ofNat ln), vi (q2 &&& (2147483647 : Int32)), vi md, .unset, .unset, .unset, .unset, .unset, .unset, .unset, .unset, .unset] [(.int (3 : Int32)), (.int ((q2 &&& (2147483647 : Int32)) / (3 : Int32)))]))
  refine OGo.st (fun t kk => XS.irem X0.here hx rfl (hb hby at_22) rfl (by decide) kk) ?_
  show OGo p e below _ (s₁.setTop (mkF m 23 #[vi q1, vi q2, vi q3, vi q4, vi q5, vi q6, vi (Int32.ofNat ln), vi (q2 &&& (2147483647 : Int32)), vi md, .unset, .unset, .unset, .unset, .unset, .unset, .unset, .unset, .unset] [(.int (((q2 &&& (2147483647 : Int32)) / (3 : Int32)) - (((q2 &&& (2147483647 : Int32)) / (3 : Int32)) / (3 : Int32)) * (3 : Int32)))]))
  refine OGo.st (fun t kk => XS.iconst X0.here hx rfl (hb hby at_23) kk) ?_
  show OGo p e below _ (s₁.setTop (mkF m 24 #[vi q1, vi q2, vi q3, vi q4, vi q5, vi q6, vi (Int32.ofNat ln), vi (q2 &&& (2147483647 : Int32)), vi md, .unset, .unset, .unset, .unset, .unset, .unset, .unset, .unset, .unset] [(.int (1 : Int32)), (.int (((q2 &&& (2147483647 : Int32)) / (3 : Int32)) - (((q2 &&& (2147483647 : Int32)) / (3 : Int32)) / (3 : Int32)) * (3 : Int32)))]))
  refine OGo.st (fun t kk => XS.isub X0.here hx rfl (hb hby at_24) rfl kk) ?_
  show OGo p e below _ (s₁.setTop (mkF m 25 #[vi q1, vi q2, vi q3, vi q4, vi q5, vi q6, vi (Int32.ofNat ln), vi (q2 &&& (2147483647 : Int32)), vi md, .unset, .unset, .unset, .unset, .unset, .unset, .unset, .unset, .unset] [(.int ((((q2 &&& (2147483647 : Int32)) / (3 : Int32)) - (((q2 &&& (2147483647 : Int32)) / (3 : Int32)) / (3 : Int32)) * (3 : Int32)) - (1 : Int32)))]))
  rw [hgs_]
  show OGo p e below _ (s₁.setTop (mkF m 25 #[vi q1, vi q2, vi q3, vi q4, vi q5, vi q6, vi (Int32.ofNat ln), vi (q2 &&& (2147483647 : Int32)), vi md, .unset, .unset, .unset, .unset, .unset, .unset, .unset, .unset, .unset] [(.int gs)]))
  refine OGo.st (fun t kk => XS.istore X0.here hx rfl (hb hby at_25) rfl (l' := #[vi q1, vi q2, vi q3, vi q4, vi q5, vi q6, vi (Int32.ofNat ln), vi (q2 &&& (2147483647 : Int32)), vi md, vi gs, .unset, .unset, .unset, .unset, .unset, .unset, .unset, .unset]) rfl kk) ?_
  show OGo p e below _ (s₁.setTop (mkF m 27 #[vi q1, vi q2, vi q3, vi q4, vi q5, vi q6, vi (Int32.ofNat ln), vi (q2 &&& (2147483647 : Int32)), vi md, vi gs, .unset, .unset, .unset, .unset, .unset, .unset, .unset, .unset] []))
  refine OGo.st (fun t kk => XS.iload X0.here hx rfl (hb hby at_27) rfl kk) ?_
  show OGo p e below _ (s₁.setTop (mkF m 29 #[vi q1, vi q2, vi q3, vi q4, vi q5, vi q6, vi (Int32.ofNat ln), vi (q2 &&& (2147483647 : Int32)), vi md, vi gs, .unset, .unset, .unset, .unset, .unset, .unset, .unset, .unset] [(.int md)]))
  refine OGo.st (B := s₁.setTop (mkF m 44 #[vi q1, vi q2, vi q3, vi q4, vi q5, vi q6, vi (Int32.ofNat ln), vi (q2 &&& (2147483647 : Int32)), vi md, vi gs, .unset, .unset, .unset, .unset, .unset, .unset, .unset, .unset] [(.int (if md = (0 : Int32) then (if gs = (1 : Int32) then (0 : Int32) else gs) else gs))])) (fun t kt => ?_) ?_
  · show Steps p.tables e below (s₁.setTop (mkF m 29 #[.val (.int q1), .val (.int q2), .val (.int q3), .val (.int q4), .val (.int q5), .val (.int q6), .val (.int (Int32.ofNat ln)), .val (.int (q2 &&& (2147483647 : Int32))), .val (.int md), .val (.int gs), .unset, .unset, .unset, .unset, .unset, .unset, .unset, .unset] [(.int md)])) t
    by_cases hc29_1 : md = (0 : Int32)
    · rw [if_pos hc29_1] at kt
      refine XS.ifNo X0.here hx rfl (hb hby at_29) rfl ((if0 _ _).trans (teq hc29_1).2) ?_
      show Steps p.tables e below (s₁.setTop (mkF m 32 #[vi q1, vi q2, vi q3, vi q4, vi q5, vi q6, vi (Int32.ofNat ln), vi (q2 &&& (2147483647 : Int32)), vi md, vi gs, .unset, .unset, .unset, .unset, .unset, .unset, .unset, .unset] [])) t
      refine XS.iload X0.here hx rfl (hb hby at_32) rfl ?_
      show Steps p.tables e below (s₁.setTop (mkF m 34 #[vi q1, vi q2, vi q3, vi q4, vi q5, vi q6, vi (Int32.ofNat ln), vi (q2 &&& (2147483647 : Int32)), vi md, vi gs, .unset, .unset, .unset, .unset, .unset, .unset, .unset, .unset] [(.int gs)])) t
      refine XS.iconst X0.here hx rfl (hb hby at_34) ?_
      show Steps p.tables e below (s₁.setTop (mkF m 35 #[vi q1, vi q2, vi q3, vi q4, vi q5, vi q6, vi (Int32.ofNat ln), vi (q2 &&& (2147483647 : Int32)), vi md, vi gs, .unset, .unset, .unset, .unset, .unset, .unset, .unset, .unset] [(.int (1 : Int32)), (.int gs)])) t
      by_cases hc35_2 : gs = (1 : Int32)
      · rw [if_pos hc35_2] at kt
        refine XS.icmpNo X0.here hx rfl (hb hby at_35) rfl (teq hc35_2).2 ?_
        show Steps p.tables e below (s₁.setTop (mkF m 38 #[vi q1, vi q2, vi q3, vi q4, vi q5, vi q6, vi (Int32.ofNat ln), vi (q2 &&& (2147483647 : Int32)), vi md, vi gs, .unset, .unset, .unset, .unset, .unset, .unset, .unset, .unset] [])) t
        refine XS.iconst X0.here hx rfl (hb hby at_38) ?_
        show Steps p.tables e below (s₁.setTop (mkF m 39 #[vi q1, vi q2, vi q3, vi q4, vi q5, vi q6, vi (Int32.ofNat ln), vi (q2 &&& (2147483647 : Int32)), vi md, vi gs, .unset, .unset, .unset, .unset, .unset, .unset, .unset, .unset] [(.int (0 : Int32))])) t
        refine XS.goto X0.here hx rfl (pc0 := 39) (pc' := 44) rfl (hb hby at_39) (by decide) (by decide) ?_
        show Steps p.tables e below (s₁.setTop (mkF m 44 #[vi q1, vi q2, vi q3, vi q4, vi q5, vi q6, vi (Int32.ofNat ln), vi (q2 &&& (2147483647 : Int32)), vi md, vi gs, .unset, .unset, .unset, .unset, .unset, .unset, .unset, .unset] [(.int (0 : Int32))])) t
        exact kt
      · rw [if_neg hc35_2] at kt
        refine XS.icmpYes X0.here hx rfl (pc0 := 35) (pc' := 42) rfl (hb hby at_35) rfl (feq hc35_2).2 (by decide) (by decide) ?_
        show Steps p.tables e below (s₁.setTop (mkF m 42 #[vi q1, vi q2, vi q3, vi q4, vi q5, vi q6, vi (Int32.ofNat ln), vi (q2 &&& (2147483647 : Int32)), vi md, vi gs, .unset, .unset, .unset, .unset, .unset, .unset, .unset, .unset] [])) t
        refine XS.iload X0.here hx rfl (hb hby at_42) rfl ?_
        show Steps p.tables e below (s₁.setTop (mkF m 44 #[vi q1, vi q2, vi q3, vi q4, vi q5, vi q6, vi (Int32.ofNat ln), vi (q2 &&& (2147483647 : Int32)), vi md, vi gs, .unset, .unset, .unset, .unset, .unset, .unset, .unset, .unset] [(.int gs)])) t
        exact kt
    · rw [if_neg hc29_1] at kt
      refine XS.ifYes X0.here hx rfl (pc0 := 29) (pc' := 42) rfl (hb hby at_29) rfl ((if0 _ _).trans (feq hc29_1).2) (by decide) (by decide) ?_
      show Steps p.tables e below (s₁.setTop (mkF m 42 #[vi q1, vi q2, vi q3, vi q4, vi q5, vi q6, vi (Int32.ofNat ln), vi (q2 &&& (2147483647 : Int32)), vi md, vi gs, .unset, .unset, .unset, .unset, .unset, .unset, .unset, .unset] [])) t
      refine XS.iload X0.here hx rfl (hb hby at_42) rfl ?_
      show Steps p.tables e below (s₁.setTop (mkF m 44 #[vi q1, vi q2, vi q3, vi q4, vi q5, vi q6, vi (Int32.ofNat ln), vi (q2 &&& (2147483647 : Int32)), vi md, vi gs, .unset, .unset, .unset, .unset, .unset, .unset, .unset, .unset] [(.int gs)])) t
      exact kt
  refine OGo.st (fun t kk => XS.istore X0.here hx rfl (hb hby at_44) rfl (l' := #[vi q1, vi q2, vi q3, vi q4, vi q5, vi q6, vi (Int32.ofNat ln), vi (q2 &&& (2147483647 : Int32)), vi md, vi gs, vi (if md = (0 : Int32) then (if gs = (1 : Int32) then (0 : Int32) else gs) else gs), .unset, .unset, .unset, .unset, .unset, .unset, .unset]) rfl kk) ?_
  show OGo p e below _ (s₁.setTop (mkF m 46 #[vi q1, vi q2, vi q3, vi q4, vi q5, vi q6, vi (Int32.ofNat ln), vi (q2 &&& (2147483647 : Int32)), vi md, vi gs, vi (if md = (0 : Int32) then (if gs = (1 : Int32) then (0 : Int32) else gs) else gs), .unset, .unset, .unset, .unset, .unset, .unset, .unset] []))
  refine OGo.st (fun t kk => XS.iloadN X0.here hx rfl (hb hby at_46) rfl kk) ?_
  show OGo p e below _ (s₁.setTop (mkF m 47 #[vi q1, vi q2, vi q3, vi q4, vi q5, vi q6, vi (Int32.ofNat ln), vi (q2 &&& (2147483647 : Int32)), vi md, vi gs, vi (if md = (0 : Int32) then (if gs = (1 : Int32) then (0 : Int32) else gs) else gs), .unset, .unset, .unset, .unset, .unset, .unset, .unset] [(.int q3)]))
  refine OGo.st (fun t kk => XS.bipush X0.here hx rfl (hb hby at_47) kk) ?_
  show OGo p e below _ (s₁.setTop (mkF m 49 #[vi q1, vi q2, vi q3, vi q4, vi q5, vi q6, vi (Int32.ofNat ln), vi (q2 &&& (2147483647 : Int32)), vi md, vi gs, vi (if md = (0 : Int32) then (if gs = (1 : Int32) then (0 : Int32) else gs) else gs), .unset, .unset, .unset, .unset, .unset, .unset, .unset] [(.int (15 : Int32)), (.int q3)]))
  refine OGo.st (fun t kk => XS.iand X0.here hx rfl (hb hby at_49) rfl kk) ?_
  show OGo p e below _ (s₁.setTop (mkF m 50 #[vi q1, vi q2, vi q3, vi q4, vi q5, vi q6, vi (Int32.ofNat ln), vi (q2 &&& (2147483647 : Int32)), vi md, vi gs, vi (if md = (0 : Int32) then (if gs = (1 : Int32) then (0 : Int32) else gs) else gs), .unset, .unset, .unset, .unset, .unset, .unset, .unset] [(.int (q3 &&& (15 : Int32)))]))
  rw [htb_]
  show OGo p e below _ (s₁.setTop (mkF m 50 #[vi q1, vi q2, vi q3, vi q4, vi q5, vi q6, vi (Int32.ofNat ln), vi (q2 &&& (2147483647 : Int32)), vi md, vi gs, vi (if md = (0 : Int32) then (if gs = (1 : Int32) then (0 : Int32) else gs) else gs), .unset, .unset, .unset, .unset, .unset, .unset, .unset] [(.int (Int32.ofNat tb))]))
  refine OGo.st (fun t kk => XS.istore X0.here hx rfl (hb hby at_50) rfl (l' := #[vi q1, vi q2, vi q3, vi q4, vi q5, vi q6, vi (Int32.ofNat ln), vi (q2 &&& (2147483647 : Int32)), vi md, vi gs, vi (if md = (0 : Int32) then (if gs = (1 : Int32) then (0 : Int32) else gs) else gs), vi (Int32.ofNat tb), .unset, .unset, .unset, .unset, .unset, .unset]) rfl kk) ?_
  show OGo p e below _ (s₁.setTop (mkF m 52 #[vi q1, vi q2, vi q3, vi q4, vi q5, vi q6, vi (Int32.ofNat ln), vi (q2 &&& (2147483647 : Int32)), vi md, vi gs, vi (if md = (0 : Int32) then (if gs = (1 : Int32) then (0 : Int32) else gs) else gs), vi (Int32.ofNat tb), .unset, .unset, .unset, .unset, .unset, .unset] []))
  obtain ⟨T3, h3, X3, e3, E3, A3, D3, -, st3⟩ := newO X0 hx hZ hown (hw _ (List.mem_of_getElem? (i := 1) rfl)) (hw _ (List.mem_of_getElem? (i := 2) rfl)) (hw _ (List.mem_of_getElem? (i := 3) rfl)) e0 (g := (mkF m 52 #[vi q1, vi q2, vi q3, vi q4, vi q5, vi q6, vi (Int32.ofNat ln), vi (q2 &&& (2147483647 : Int32)), vi md, vi gs, vi (if md = (0 : Int32) then (if gs = (1 : Int32) then (0 : Int32) else gs) else gs), vi (Int32.ofNat tb), .unset, .unset, .unset, .unset, .unset, .unset] [])) rfl (hb hby at_52) (by decide) (by decide)
  obtain ⟨b3, g3⟩ : ∃ z, z = h0.size := ⟨_, rfl⟩
  rw [← g3] at A3 D3 st3
  have gb3 : n0 ≤ b3 := Nat.le_trans Z0 (Nat.le_of_eq g3.symm)
  have Z3 : n0 ≤ h3.size := Nat.le_trans Z0 E3.1
  have F3_emptied : Fld Z h3 b3 "com/example/lockstep/lockstep/check/StepGroups" "emptied" "[I" .null := D3 (Or.inl (hw _ (List.mem_of_getElem? (i := 12) rfl))) (ty := (.array .int)) (by decide)
  have F3_free : Fld Z h3 b3 "com/example/lockstep/lockstep/check/StepGroups" "free" "[I" .null := D3 (Or.inl (hw _ (List.mem_of_getElem? (i := 14) rfl))) (ty := (.array .int)) (by decide)
  have F3_firstOfBlock : Fld Z h3 b3 "com/example/lockstep/lockstep/check/StepGroups" "firstOfBlock" "[I" .null := D3 (Or.inl (hw _ (List.mem_of_getElem? (i := 16) rfl))) (ty := (.array .int)) (by decide)
  have F3_addedTo : Fld Z h3 b3 "com/example/lockstep/lockstep/check/StepGroups" "addedTo" "[I" .null := D3 (Or.inl (hw _ (List.mem_of_getElem? (i := 18) rfl))) (ty := (.array .int)) (by decide)
  have F3_addedStamp : Fld Z h3 b3 "com/example/lockstep/lockstep/check/StepGroups" "addedStamp" "[J" .null := D3 (Or.inl (hw _ (List.mem_of_getElem? (i := 21) rfl))) (ty := (.array .long)) (by decide)
  have F3_groupOf : Fld Z h3 b3 "com/example/lockstep/lockstep/check/StepGroups" "groupOf" "[I" .null := D3 (Or.inr (hw _ (List.mem_of_getElem? (i := 23) rfl))) (ty := (.array .int)) (by decide)
  have F3_previousStep : Fld Z h3 b3 "com/example/lockstep/lockstep/check/StepGroups" "previousStep" "[I" .null := D3 (Or.inr (hw _ (List.mem_of_getElem? (i := 25) rfl))) (ty := (.array .int)) (by decide)
  have F3_nextStep : Fld Z h3 b3 "com/example/lockstep/lockstep/check/StepGroups" "nextStep" "[I" .null := D3 (Or.inr (hw _ (List.mem_of_getElem? (i := 27) rfl))) (ty := (.array .int)) (by decide)
  have F3_firstStep : Fld Z h3 b3 "com/example/lockstep/lockstep/check/StepGroups" "firstStep" "[I" .null := D3 (Or.inl (hw _ (List.mem_of_getElem? (i := 33) rfl))) (ty := (.array .int)) (by decide)
  have F3_label : Fld Z h3 b3 "com/example/lockstep/lockstep/check/StepGroups" "label" "[I" .null := D3 (Or.inl (hw _ (List.mem_of_getElem? (i := 35) rfl))) (ty := (.array .int)) (by decide)
  have F3_superBlock : Fld Z h3 b3 "com/example/lockstep/lockstep/check/StepGroups" "superBlock" "[I" .null := D3 (Or.inl (hw _ (List.mem_of_getElem? (i := 37) rfl))) (ty := (.array .int)) (by decide)
  have F3_block : Fld Z h3 b3 "com/example/lockstep/lockstep/check/StepGroups" "block" "[I" .null := D3 (Or.inl (hw _ (List.mem_of_getElem? (i := 39) rfl))) (ty := (.array .int)) (by decide)
  have F3_previous : Fld Z h3 b3 "com/example/lockstep/lockstep/check/StepGroups" "previous" "[I" .null := D3 (Or.inl (hw _ (List.mem_of_getElem? (i := 41) rfl))) (ty := (.array .int)) (by decide)
  have F3_next : Fld Z h3 b3 "com/example/lockstep/lockstep/check/StepGroups" "next" "[I" .null := D3 (Or.inl (hw _ (List.mem_of_getElem? (i := 43) rfl))) (ty := (.array .int)) (by decide)
  have F3_partner : Fld Z h3 b3 "com/example/lockstep/lockstep/check/StepGroups" "partner" "[I" .null := D3 (Or.inl (hw _ (List.mem_of_getElem? (i := 45) rfl))) (ty := (.array .int)) (by decide)
  have F3_partnerStamp : Fld Z h3 b3 "com/example/lockstep/lockstep/check/StepGroups" "partnerStamp" "[J" .null := D3 (Or.inl (hw _ (List.mem_of_getElem? (i := 47) rfl))) (ty := (.array .long)) (by decide)
  have F3_markStamp : Fld Z h3 b3 "com/example/lockstep/lockstep/check/StepGroups" "markStamp" "[J" .null := D3 (Or.inl (hw _ (List.mem_of_getElem? (i := 49) rfl))) (ty := (.array .long)) (by decide)
  have F3_freeCount : Fld Z h3 b3 "com/example/lockstep/lockstep/check/StepGroups" "freeCount" "I" (.int (0 : Int32)) := D3 (Or.inl (hw _ (List.mem_of_getElem? (i := 59) rfl))) (ty := .int) (by decide)
  have F3_groupCount : Fld Z h3 b3 "com/example/lockstep/lockstep/check/StepGroups" "groupCount" "I" (.int (0 : Int32)) := D3 (Or.inl (hw _ (List.mem_of_getElem? (i := 61) rfl))) (ty := .int) (by decide)
  have F3_emptiedCount : Fld Z h3 b3 "com/example/lockstep/lockstep/check/StepGroups" "emptiedCount" "I" (.int (0 : Int32)) := D3 (Or.inl (hw _ (List.mem_of_getElem? (i := 72) rfl))) (ty := .int) (by decide)
  have F3_stamp : Fld Z h3 b3 "com/example/lockstep/lockstep/check/StepGroups" "stamp" "J" (.long (0 : Int64)) := D3 (Or.inl (hw _ (List.mem_of_getElem? (i := 74) rfl))) (ty := .long) (by decide)
  obtain ⟨lo3, X3, N3⟩ : ∃ L, Stand p l e room_1 s m #[(.int q1), (.int q2), (.int q3), (.int q4), (.int q5), (.int q6)] below meth c T3 L 1 21 ∧ Fr n0 L := ⟨_, X3, N0⟩
  refine OGo.st (fun t kk => st3 t kk) ?_
  show OGo p e below _ (T3.setTop (mkF m 55 #[vi q1, vi q2, vi q3, vi q4, vi q5, vi q6, vi (Int32.ofNat ln), vi (q2 &&& (2147483647 : Int32)), vi md, vi gs, vi (if md = (0 : Int32) then (if gs = (1 : Int32) then (0 : Int32) else gs) else gs), vi (Int32.ofNat tb), .unset, .unset, .unset, .unset, .unset, .unset] [(.ref b3)]))
  refine OGo.st (fun t kk => XS.dup X3.here hx rfl (hb hby at_55) rfl rfl kk) ?_
  show OGo p e below _ (T3.setTop (mkF m 56 #[vi q1, vi q2, vi q3, vi q4, vi q5, vi q6, vi (Int32.ofNat ln), vi (q2 &&& (2147483647 : Int32)), vi md, vi gs, vi (if md = (0 : Int32) then (if gs = (1 : Int32) then (0 : Int32) else gs) else gs), vi (Int32.ofNat tb), .unset, .unset, .unset, .unset, .unset, .unset] [(.ref b3), (.ref b3)]))
  refine OGo.st (fun t kk => XS.iconst X3.here hx rfl (hb hby at_56) kk) ?_
  show OGo p e below _ (T3.setTop (mkF m 57 #[vi q1, vi q2, vi q3, vi q4, vi q5, vi q6, vi (Int32.ofNat ln), vi (q2 &&& (2147483647 : Int32)), vi md, vi gs, vi (if md = (0 : Int32) then (if gs = (1 : Int32) then (0 : Int32) else gs) else gs), vi (Int32.ofNat tb), .unset, .unset, .unset, .unset, .unset, .unset] [(.int (1 : Int32)), (.ref b3), (.ref b3)]))
  obtain ⟨T4, h4, k4, X4, e4, E4, A4, st4⟩ := newP X3 hx hZ (hw _ (List.mem_of_getElem? (i := 4) rfl)) e3 (g := (mkF m 57 #[vi q1, vi q2, vi q3, vi q4, vi q5, vi q6, vi (Int32.ofNat ln), vi (q2 &&& (2147483647 : Int32)), vi md, vi gs, vi (if md = (0 : Int32) then (if gs = (1 : Int32) then (0 : Int32) else gs) else gs), vi (Int32.ofNat tb), .unset, .unset, .unset, .unset, .unset, .unset] [(.int (1 : Int32)), (.ref b3), (.ref b3)])) rfl (hb hby at_57) rfl (by decide) (cap := 1) (by decide) (by decide) (by decide) (by decide)
  obtain ⟨b4, g4⟩ : ∃ z, z = h3.size := ⟨_, rfl⟩
  rw [← g4] at A4 st4
  have O4 : OA Z h4 b4 .int 1 (fun _ => 0) := OA.new A4 (by decide) rfl
  have gb4 : n0 ≤ b4 := Nat.le_trans Z3 (Nat.le_of_eq g4.symm)
  have Z4 : n0 ≤ h4.size := Nat.le_trans Z3 E4.1
  have ne_b3_b4 : b3 ≠ b4 := Nat.ne_of_lt (Nat.lt_of_lt_of_le A3.lt (Nat.le_of_eq g4.symm))
  obtain ⟨lo4, X4, N4⟩ : ∃ L, Stand p l e room_1 s m #[(.int q1), (.int q2), (.int q3), (.int q4), (.int q5), (.int q6)] below meth c T4 L 2 22 ∧ Fr n0 L := ⟨_, X4, N3⟩
  refine OGo.st (fun t kk => st4 t kk) ?_
  show OGo p e below _ (T4.setTop (mkF m 59 #[vi q1, vi q2, vi q3, vi q4, vi q5, vi q6, vi (Int32.ofNat ln), vi (q2 &&& (2147483647 : Int32)), vi md, vi gs, vi (if md = (0 : Int32) then (if gs = (1 : Int32) then (0 : Int32) else gs) else gs), vi (Int32.ofNat tb), .unset, .unset, .unset, .unset, .unset, .unset] [(.ref b4), (.ref b3), (.ref b3)]))
  refine OGo.st (fun t kk => XS.dup X4.here hx rfl (hb hby at_59) rfl rfl kk) ?_
  show OGo p e below _ (T4.setTop (mkF m 60 #[vi q1, vi q2, vi q3, vi q4, vi q5, vi q6, vi (Int32.ofNat ln), vi (q2 &&& (2147483647 : Int32)), vi md, vi gs, vi (if md = (0 : Int32) then (if gs = (1 : Int32) then (0 : Int32) else gs) else gs), vi (Int32.ofNat tb), .unset, .unset, .unset, .unset, .unset, .unset] [(.ref b4), (.ref b4), (.ref b3), (.ref b3)]))
  refine OGo.st (fun t kk => XS.iconst X4.here hx rfl (hb hby at_60) kk) ?_
  show OGo p e below _ (T4.setTop (mkF m 61 #[vi q1, vi q2, vi q3, vi q4, vi q5, vi q6, vi (Int32.ofNat ln), vi (q2 &&& (2147483647 : Int32)), vi md, vi gs, vi (if md = (0 : Int32) then (if gs = (1 : Int32) then (0 : Int32) else gs) else gs), vi (Int32.ofNat tb), .unset, .unset, .unset, .unset, .unset, .unset] [(.int (0 : Int32)), (.ref b4), (.ref b4), (.ref b3), (.ref b3)]))
  refine OGo.st (fun t kk => XS.iload X4.here hx rfl (hb hby at_61) rfl kk) ?_
  show OGo p e below _ (T4.setTop (mkF m 63 #[vi q1, vi q2, vi q3, vi q4, vi q5, vi q6, vi (Int32.ofNat ln), vi (q2 &&& (2147483647 : Int32)), vi md, vi gs, vi (if md = (0 : Int32) then (if gs = (1 : Int32) then (0 : Int32) else gs) else gs), vi (Int32.ofNat tb), .unset, .unset, .unset, .unset, .unset, .unset] [(.int (Int32.ofNat ln)), (.int (0 : Int32)), (.ref b4), (.ref b4), (.ref b3), (.ref b3)]))
  obtain ⟨T5, h5, X5, e5, W5, O5', st5⟩ := OA.stI X4 hx hZ e4 O4 (j := (0 : Int32)) (x := (Int32.ofNat ln)) (k := 0) (by decide) (by decide) (by decide) (g := (mkF m 63 #[vi q1, vi q2, vi q3, vi q4, vi q5, vi q6, vi (Int32.ofNat ln), vi (q2 &&& (2147483647 : Int32)), vi md, vi gs, vi (if md = (0 : Int32) then (if gs = (1 : Int32) then (0 : Int32) else gs) else gs), vi (Int32.ofNat tb), .unset, .unset, .unset, .unset, .unset, .unset] [(.int (Int32.ofNat ln)), (.int (0 : Int32)), (.ref b4), (.ref b4), (.ref b3), (.ref b3)])) rfl rfl (hb hby at_63)
  obtain ⟨fa5, hf5⟩ : ∃ z, z = oset (fun _ => 0) 0 (Int32.ofNat ln) := ⟨_, rfl⟩
  have O5 := O5'
  rw [← hf5] at O5
  have N5 := Fr.snoc X5 N4 gb4
  have Z5 : n0 ≤ h5.size := Nat.le_trans Z4 (Keep.of_wr W5).1
  obtain ⟨lo5, X5, N5⟩ : ∃ L, Stand p l e room_1 s m #[(.int q1), (.int q2), (.int q3), (.int q4), (.int q5), (.int q6)] below meth c T5 L 2 22 ∧ Fr n0 L := ⟨_, X5, N5⟩
  refine OGo.st (fun t kk => st5 t kk) ?_
  show OGo p e below _ (T5.setTop (mkF m 64 #[vi q1, vi q2, vi q3, vi q4, vi q5, vi q6, vi (Int32.ofNat ln), vi (q2 &&& (2147483647 : Int32)), vi md, vi gs, vi (if md = (0 : Int32) then (if gs = (1 : Int32) then (0 : Int32) else gs) else gs), vi (Int32.ofNat tb), .unset, .unset, .unset, .unset, .unset, .unset] [(.ref b4), (.ref b3), (.ref b3)]))
  refine OGo.st (fun t kk => XS.iconst X5.here hx rfl (hb hby at_64) kk) ?_
  show OGo p e below _ (T5.setTop (mkF m 65 #[vi q1, vi q2, vi q3, vi q4, vi q5, vi q6, vi (Int32.ofNat ln), vi (q2 &&& (2147483647 : Int32)), vi md, vi gs, vi (if md = (0 : Int32) then (if gs = (1 : Int32) then (0 : Int32) else gs) else gs), vi (Int32.ofNat tb), .unset, .unset, .unset, .unset, .unset, .unset] [(.int (4 : Int32)), (.ref b4), (.ref b3), (.ref b3)]))
  refine OGo.st (fun t kk => XS.iconst X5.here hx rfl (hb hby at_65) kk) ?_
  show OGo p e below _ (T5.setTop (mkF m 66 #[vi q1, vi q2, vi q3, vi q4, vi q5, vi q6, vi (Int32.ofNat ln), vi (q2 &&& (2147483647 : Int32)), vi md, vi gs, vi (if md = (0 : Int32) then (if gs = (1 : Int32) then (0 : Int32) else gs) else gs), vi (Int32.ofNat tb), .unset, .unset, .unset, .unset, .unset, .unset] [(.int (-1 : Int32)), (.int (4 : Int32)), (.ref b4), (.ref b3), (.ref b3)]))
  have c7 := ((A3.ext E4).wr W5)
  have c8 := ((F3_emptied.ext E4).other W5 (Or.inl ne_b3_b4))
  have c9 := ((F3_free.ext E4).other W5 (Or.inl ne_b3_b4))
  have c10 := ((F3_firstOfBlock.ext E4).other W5 (Or.inl ne_b3_b4))
  have c11 := ((F3_groupOf.ext E4).other W5 (Or.inl ne_b3_b4))
  have c12 := ((F3_previousStep.ext E4).other W5 (Or.inl ne_b3_b4))
  have c13 := ((F3_nextStep.ext E4).other W5 (Or.inl ne_b3_b4))
  have c14 := ((F3_firstStep.ext E4).other W5 (Or.inl ne_b3_b4))
  have c15 := ((F3_label.ext E4).other W5 (Or.inl ne_b3_b4))
  have c16 := ((F3_superBlock.ext E4).other W5 (Or.inl ne_b3_b4))
  have c17 := ((F3_block.ext E4).other W5 (Or.inl ne_b3_b4))
  have c18 := ((F3_previous.ext E4).other W5 (Or.inl ne_b3_b4))
  have c19 := ((F3_next.ext E4).other W5 (Or.inl ne_b3_b4))
  have c20 := ((F3_partner.ext E4).other W5 (Or.inl ne_b3_b4))
  have c21 := ((F3_partnerStamp.ext E4).other W5 (Or.inl ne_b3_b4))
  have c22 := ((F3_markStamp.ext E4).other W5 (Or.inl ne_b3_b4))
  have c23 := ((F3_groupCount.ext E4).other W5 (Or.inl ne_b3_b4))
  have c24 := ((F3_emptiedCount.ext E4).other W5 (Or.inl ne_b3_b4))
  have c25 := ((F3_freeCount.ext E4).other W5 (Or.inl ne_b3_b4))
  have c26 := ((F3_stamp.ext E4).other W5 (Or.inl ne_b3_b4))
  have c27 := ((F3_addedTo.ext E4).other W5 (Or.inl ne_b3_b4))
  have c28 := ((F3_addedStamp.ext E4).other W5 (Or.inl ne_b3_b4))
  obtain ⟨_, _, ⟨T6, L6, k6, n6⟩, -, X6, ⟨Lc6, hQ6, l6, y6, z6⟩, st6⟩ := X5.specialBack hx (y := (⟨"com/example/lockstep/lockstep/check/StepGroups", "<init>", "([III)V"⟩ : MethodName)) rfl hown (mvT hZ (hw _ (List.mem_of_getElem? (i := 5) rfl))) (mvT hZ (hw _ (List.mem_of_getElem? (i := 6) rfl))) (mvT hZ (hw _ (List.mem_of_getElem? (i := 7) rfl))) (by decide) (backOf (W := 1) (rmC l Z a0 hw [] b3 b4 fa5 ln h5 n0 Z5 c7 c8 c9 c10 c11 c12 c13 c14 c15 c16 c17 c18 c19 c20 c21 c22 c23 c24 c25 c26 c27 c28 O5 (own_la hf5) hln ne_b3_b4 gb3) hZ (hw _ (List.mem_of_getElem? (i := 7) rfl)) (hw _ (List.mem_of_getElem? (i := 3) rfl)) (by decide) (by decide)) (g := (mkF m 66 #[vi q1, vi q2, vi q3, vi q4, vi q5, vi q6, vi (Int32.ofNat ln), vi (q2 &&& (2147483647 : Int32)), vi md, vi gs, vi (if md = (0 : Int32) then (if gs = (1 : Int32) then (0 : Int32) else gs) else gs), vi (Int32.ofNat tb), .unset, .unset, .unset, .unset, .unset, .unset] [(.int (-1 : Int32)), (.int (4 : Int32)), (.ref b4), (.ref b3), (.ref b3)])) rfl (by rw [hml]; rfl) (Steps.refl _) (a := b3) (argsL := [(.ref b4), (.int (4 : Int32)), (.int (-1 : Int32))]) (rest := [(.ref b3)]) (lenOf pd0_0 rfl) rfl (by show 2 * 0 + _ ≤ _; exact Nat.le_of_eq rfl) (hb hby at_66) (fun _ _ => ⟨rfl, e5, (by decide : 2 + 18 ≤ _), (by decide : 22 + 231 ≤ _)⟩)
  dsimp only [Pt.U, Pt.locs, Pt.cells, Pt.slots] at X6 l6 y6 z6 st6 hQ6
  subst l6 y6 z6
  obtain ⟨rfl, Nq6, Z6, em, fr, fb, go, ps, ns, fs, lb, sb, bl, pv, nx, pt, qs, ms, fem, ffb, fgo, fps, fns, ffs, flb, fsb, fbl, fpv, fnx, fpt, fqs, fms, ho, Uq6, O_em, O_fb, O_go, O_ps, O_ns, O_fs, O_lb, O_sb, O_bl, O_pv, O_nx, O_pt, O_qs, O_ms, hqs, hlb, hps, hns, hpv, hnx, hbl, hgo, hsb, hfs0, hfb0, hfbj⟩ := hQ6
  have N6 := Fr.app N5 Nq6
  have gu : n0 ≤ b3 := gb3
  have ho0 := ho; obtain ⟨o1, o2, o3, o4, o5, o6, o7, o8, o9, o10, o11, o12, o13, o14, o15⟩ := ho
  have n_b3_fs : b3 ≠ fs := own_nen (by omega)
  have n_b3_lb : b3 ≠ lb := own_nen (by omega)
  have n_b3_bl : b3 ≠ bl := own_nen (by omega)
  have n_b3_sb : b3 ≠ sb := own_nen (by omega)
  have n_b3_em : b3 ≠ em := own_nen (by omega)
  have n_b3_fb : b3 ≠ fb := own_nen (by omega)
  have n_b3_go : b3 ≠ go := own_nen (by omega)
  have n_b3_ps : b3 ≠ ps := own_nen (by omega)
  have n_b3_ns : b3 ≠ ns := own_nen (by omega)
  have n_b3_pv : b3 ≠ pv := own_nen (by omega)
  have n_b3_nx : b3 ≠ nx := own_nen (by omega)
  have n_b3_pt : b3 ≠ pt := own_nen (by omega)
  have n_b3_qs : b3 ≠ qs := own_nen (by omega)
  have n_b3_ms : b3 ≠ ms := own_nen (by omega)
  obtain ⟨E6, F6_emptied, F6_free, F6_firstOfBlock, F6_groupOf, F6_previousStep, F6_nextStep, F6_firstStep, F6_label, F6_superBlock, F6_block, F6_previous, F6_next, F6_partner, F6_partnerStamp, F6_markStamp, F6_groupCount, F6_emptiedCount, F6_freeCount, F6_stamp⟩ := Uq6
  obtain ⟨lo6, X6, N6⟩ : ∃ L, Stand p l e room_1 s m #[(.int q1), (.int q2), (.int q3), (.int q4), (.int q5), (.int q6)] below meth c T6 L 20 253 ∧ Fr n0 L := ⟨_, X6, N6⟩
  refine OGo.st (fun t kk => st6.trans kk) ?_
  show OGo p e below _ (T6.setTop (mkF m 69 #[vi q1, vi q2, vi q3, vi q4, vi q5, vi q6, vi (Int32.ofNat ln), vi (q2 &&& (2147483647 : Int32)), vi md, vi gs, vi (if md = (0 : Int32) then (if gs = (1 : Int32) then (0 : Int32) else gs) else gs), vi (Int32.ofNat tb), .unset, .unset, .unset, .unset, .unset, .unset] [(.ref b3)]))
  refine OGo.st (fun t kk => XS.astore X6.here hx rfl (hb hby at_69) rfl rfl (l' := #[vi q1, vi q2, vi q3, vi q4, vi q5, vi q6, vi (Int32.ofNat ln), vi (q2 &&& (2147483647 : Int32)), vi md, vi gs, vi (if md = (0 : Int32) then (if gs = (1 : Int32) then (0 : Int32) else gs) else gs), vi (Int32.ofNat tb), vr b3, .unset, .unset, .unset, .unset, .unset]) rfl kk) ?_
  show OGo p e below _ (T6.setTop (mkF m 71 #[vi q1, vi q2, vi q3, vi q4, vi q5, vi q6, vi (Int32.ofNat ln), vi (q2 &&& (2147483647 : Int32)), vi md, vi gs, vi (if md = (0 : Int32) then (if gs = (1 : Int32) then (0 : Int32) else gs) else gs), vi (Int32.ofNat tb), vr b3, .unset, .unset, .unset, .unset, .unset] []))
  refine OGo.st (fun t kk => XS.aload X6.here hx rfl (hb hby at_71) rfl rfl kk) ?_
  show OGo p e below _ (T6.setTop (mkF m 73 #[vi q1, vi q2, vi q3, vi q4, vi q5, vi q6, vi (Int32.ofNat ln), vi (q2 &&& (2147483647 : Int32)), vi md, vi gs, vi (if md = (0 : Int32) then (if gs = (1 : Int32) then (0 : Int32) else gs) else gs), vi (Int32.ofNat tb), vr b3, .unset, .unset, .unset, .unset, .unset] [(.ref b3)]))
  obtain ⟨cq29, kq29, q29a, q29b, q29c⟩ := isOf hZ rfl E6
  obtain ⟨_, _, ⟨T29, L29, k29, n29⟩, -, X29, ⟨Lc29, hQ29, l29, y29, z29⟩, st29⟩ := X6.virtualBack hx (y := (⟨"com/example/lockstep/lockstep/check/StepGroups", "newStamp", "()J"⟩ : MethodName)) (z := (⟨"com/example/lockstep/lockstep/check/StepGroups", "newStamp", "()J"⟩ : MethodName)) hown (mvT hZ (hw _ (List.mem_of_getElem? (i := 66) rfl))) (mvT hZ (hw _ (List.mem_of_getElem? (i := 67) rfl))) (notFace_of_selects (args := #[]) (mvT hZ (hw _ (List.mem_of_getElem? (i := 69) rfl)))) (mvT hZ (hw _ (List.mem_of_getElem? (i := 69) rfl))) (mvT hZ (hw _ (List.mem_of_getElem? (i := 68) rfl))) (by decide) (backOf (W := 0) (rmS l Z a0 hw [] b3 em fr fb go ps ns fs lb sb bl pv nx pt qs ms (Int32.ofNat 1) 0 0 T6.heap n0 Z6 ⟨E6, F6_emptied, F6_free, F6_firstOfBlock, F6_groupOf, F6_previousStep, F6_nextStep, F6_firstStep, F6_label, F6_superBlock, F6_block, F6_previous, F6_next, F6_partner, F6_partnerStamp, F6_markStamp, F6_groupCount, F6_emptiedCount, F6_freeCount, F6_stamp⟩ ho0 gu) hZ (hw _ (List.mem_of_getElem? (i := 70) rfl)) (hw _ (List.mem_of_getElem? (i := 3) rfl)) (by decide) (by decide)) q29a q29c (g := (mkF m 73 #[vi q1, vi q2, vi q3, vi q4, vi q5, vi q6, vi (Int32.ofNat ln), vi (q2 &&& (2147483647 : Int32)), vi md, vi gs, vi (if md = (0 : Int32) then (if gs = (1 : Int32) then (0 : Int32) else gs) else gs), vi (Int32.ofNat tb), vr b3, .unset, .unset, .unset, .unset, .unset] [(.ref b3)])) rfl (by rw [hml]; rfl) (Steps.refl _) (argsL := []) (rest := []) (lenOf pd0_1 rfl) rfl (by show 2 * 0 + _ ≤ _; exact Nat.le_of_eq rfl) (hb hby at_73) (fun _ _ => ⟨rfl, rfl, (by decide : 20 + 0 ≤ _), (by decide : 253 + 0 ≤ _)⟩)
  dsimp only [Pt.U, Pt.locs, Pt.cells, Pt.slots] at X29 l29 y29 z29 st29 hQ29
  subst l29 y29 z29
  obtain ⟨rfl, Nq29, Z29, K29, Uq29⟩ := hQ29
  have N29 := Fr.app N6 Nq29
  obtain ⟨E29, F29_emptied, F29_free, F29_firstOfBlock, F29_groupOf, F29_previousStep, F29_nextStep, F29_firstStep, F29_label, F29_superBlock, F29_block, F29_previous, F29_next, F29_partner, F29_partnerStamp, F29_markStamp, F29_groupCount, F29_emptiedCount, F29_freeCount, F29_stamp⟩ := Uq29
  obtain ⟨lo29, X29, N29⟩ : ∃ L, Stand p l e room_1 s m #[(.int q1), (.int q2), (.int q3), (.int q4), (.int q5), (.int q6)] below meth c T29 L 20 253 ∧ Fr n0 L := ⟨_, X29, N29⟩
  refine OGo.st (fun t kk => st29.trans kk) ?_
  show OGo p e below _ (T29.setTop (mkF m 76 #[vi q1, vi q2, vi q3, vi q4, vi q5, vi q6, vi (Int32.ofNat ln), vi (q2 &&& (2147483647 : Int32)), vi md, vi gs, vi (if md = (0 : Int32) then (if gs = (1 : Int32) then (0 : Int32) else gs) else gs), vi (Int32.ofNat tb), vr b3, .unset, .unset, .unset, .unset, .unset] [(.long (1 : Int64))]))
  refine OGo.st (fun t kk => XS.lstore X29.here hx rfl (hb hby at_76) rfl (l' := #[vi q1, vi q2, vi q3, vi q4, vi q5, vi q6, vi (Int32.ofNat ln), vi (q2 &&& (2147483647 : Int32)), vi md, vi gs, vi (if md = (0 : Int32) then (if gs = (1 : Int32) then (0 : Int32) else gs) else gs), vi (Int32.ofNat tb), vr b3, vl (1 : Int64), .second, .unset, .unset, .unset]) rfl kk) ?_
  show OGo p e below _ (T29.setTop (mkF m 78 #[vi q1, vi q2, vi q3, vi q4, vi q5, vi q6, vi (Int32.ofNat ln), vi (q2 &&& (2147483647 : Int32)), vi md, vi gs, vi (if md = (0 : Int32) then (if gs = (1 : Int32) then (0 : Int32) else gs) else gs), vi (Int32.ofNat tb), vr b3, vl (1 : Int64), .second, .unset, .unset, .unset] []))
  rcases hmd with rfl | rfl | rfl
  · rcases hgs with rfl | rfl | rfl
    · rw [show (if (0 : Int32) = (0 : Int32) then (if (-1 : Int32) = (1 : Int32) then (0 : Int32) else (-1 : Int32)) else (-1 : Int32)) = (-1 : Int32) from by decide]
      show OGo p e below _ (T29.setTop (mkF m 78 #[vi q1, vi q2, vi q3, vi q4, vi q5, vi q6, vi (Int32.ofNat ln), vi (q2 &&& (2147483647 : Int32)), vi (0 : Int32), vi (-1 : Int32), vi (-1 : Int32), vi (Int32.ofNat tb), vr b3, vl (1 : Int64), .second, .unset, .unset, .unset] []))
      refine OGo.st (fun t kk => XS.iload X29.here hx rfl (hb hby at_78) rfl kk) ?_
      show OGo p e below _ (T29.setTop (mkF m 80 #[vi q1, vi q2, vi q3, vi q4, vi q5, vi q6, vi (Int32.ofNat ln), vi (q2 &&& (2147483647 : Int32)), vi (0 : Int32), vi (-1 : Int32), vi (-1 : Int32), vi (Int32.ofNat tb), vr b3, vl (1 : Int64), .second, .unset, .unset, .unset] [(.int (0 : Int32))]))
      refine OGo.st (fun t kk => XS.iconst X29.here hx rfl (hb hby at_80) kk) ?_
      show OGo p e below _ (T29.setTop (mkF m 81 #[vi q1, vi q2, vi q3, vi q4, vi q5, vi q6, vi (Int32.ofNat ln), vi (q2 &&& (2147483647 : Int32)), vi (0 : Int32), vi (-1 : Int32), vi (-1 : Int32), vi (Int32.ofNat tb), vr b3, vl (1 : Int64), .second, .unset, .unset, .unset] [(.int (1 : Int32)), (.int (0 : Int32))]))
      refine OGo.st (fun t kk => XS.icmpYes X29.here hx rfl (pc0 := 81) (pc' := 97) rfl (hb hby at_81) rfl (feq (by decide : ¬ ((0 : Int32) = (1 : Int32)))).2 (by decide) (by decide) kk) ?_
      show OGo p e below _ (T29.setTop (mkF m 97 #[vi q1, vi q2, vi q3, vi q4, vi q5, vi q6, vi (Int32.ofNat ln), vi (q2 &&& (2147483647 : Int32)), vi (0 : Int32), vi (-1 : Int32), vi (-1 : Int32), vi (Int32.ofNat tb), vr b3, vl (1 : Int64), .second, .unset, .unset, .unset] []))
      refine OGo.st (fun t kk => XS.iload X29.here hx rfl (hb hby at_97) rfl kk) ?_
      show OGo p e below _ (T29.setTop (mkF m 99 #[vi q1, vi q2, vi q3, vi q4, vi q5, vi q6, vi (Int32.ofNat ln), vi (q2 &&& (2147483647 : Int32)), vi (0 : Int32), vi (-1 : Int32), vi (-1 : Int32), vi (Int32.ofNat tb), vr b3, vl (1 : Int64), .second, .unset, .unset, .unset] [(.int (0 : Int32))]))
      refine OGo.st (fun t kk => XS.iconst X29.here hx rfl (hb hby at_99) kk) ?_
      show OGo p e below _ (T29.setTop (mkF m 100 #[vi q1, vi q2, vi q3, vi q4, vi q5, vi q6, vi (Int32.ofNat ln), vi (q2 &&& (2147483647 : Int32)), vi (0 : Int32), vi (-1 : Int32), vi (-1 : Int32), vi (Int32.ofNat tb), vr b3, vl (1 : Int64), .second, .unset, .unset, .unset] [(.int (2 : Int32)), (.int (0 : Int32))]))
      refine OGo.st (fun t kk => XS.icmpYes X29.here hx rfl (pc0 := 100) (pc' := 112) rfl (hb hby at_100) rfl (feq (by decide : ¬ ((0 : Int32) = (2 : Int32)))).2 (by decide) (by decide) kk) ?_
      show OGo p e below _ (T29.setTop (mkF m 112 #[vi q1, vi q2, vi q3, vi q4, vi q5, vi q6, vi (Int32.ofNat ln), vi (q2 &&& (2147483647 : Int32)), vi (0 : Int32), vi (-1 : Int32), vi (-1 : Int32), vi (Int32.ofNat tb), vr b3, vl (1 : Int64), .second, .unset, .unset, .unset] []))
      refine OGo.st (fun t kk => XS.iload X29.here hx rfl (hb hby at_112) rfl kk) ?_
      show OGo p e below _ (T29.setTop (mkF m 114 #[vi q1, vi q2, vi q3, vi q4, vi q5, vi q6, vi (Int32.ofNat ln), vi (q2 &&& (2147483647 : Int32)), vi (0 : Int32), vi (-1 : Int32), vi (-1 : Int32), vi (Int32.ofNat tb), vr b3, vl (1 : Int64), .second, .unset, .unset, .unset] [(.int (-1 : Int32))]))
      refine OGo.st (fun t kk => XS.iconst X29.here hx rfl (hb hby at_114) kk) ?_
      show OGo p e below _ (T29.setTop (mkF m 115 #[vi q1, vi q2, vi q3, vi q4, vi q5, vi q6, vi (Int32.ofNat ln), vi (q2 &&& (2147483647 : Int32)), vi (0 : Int32), vi (-1 : Int32), vi (-1 : Int32), vi (Int32.ofNat tb), vr b3, vl (1 : Int64), .second, .unset, .unset, .unset] [(.int (-1 : Int32)), (.int (-1 : Int32))]))
      refine OGo.st (fun t kk => XS.icmpNo X29.here hx rfl (hb hby at_115) rfl (teq (by decide : ((-1 : Int32) = (-1 : Int32)))).2 kk) ?_
      show OGo p e below _ (T29.setTop (mkF m 118 #[vi q1, vi q2, vi q3, vi q4, vi q5, vi q6, vi (Int32.ofNat ln), vi (q2 &&& (2147483647 : Int32)), vi (0 : Int32), vi (-1 : Int32), vi (-1 : Int32), vi (Int32.ofNat tb), vr b3, vl (1 : Int64), .second, .unset, .unset, .unset] []))
      refine OGo.st (fun t kk => XS.iconst X29.here hx rfl (hb hby at_118) kk) ?_
      show OGo p e below _ (T29.setTop (mkF m 119 #[vi q1, vi q2, vi q3, vi q4, vi q5, vi q6, vi (Int32.ofNat ln), vi (q2 &&& (2147483647 : Int32)), vi (0 : Int32), vi (-1 : Int32), vi (-1 : Int32), vi (Int32.ofNat tb), vr b3, vl (1 : Int64), .second, .unset, .unset, .unset] [(.int (0 : Int32))]))
      refine OGo.st (fun t kk => XS.istore X29.here hx rfl (hb hby at_119) rfl (l' := #[vi q1, vi q2, vi q3, vi q4, vi q5, vi q6, vi (Int32.ofNat ln), vi (q2 &&& (2147483647 : Int32)), vi (0 : Int32), vi (-1 : Int32), vi (-1 : Int32), vi (Int32.ofNat tb), vr b3, vl (1 : Int64), .second, vi (0 : Int32), .unset, .unset]) rfl kk) ?_
      show OGo p e below _ (T29.setTop (mkF m 121 #[vi q1, vi q2, vi q3, vi q4, vi q5, vi q6, vi (Int32.ofNat ln), vi (q2 &&& (2147483647 : Int32)), vi (0 : Int32), vi (-1 : Int32), vi (-1 : Int32), vi (Int32.ofNat tb), vr b3, vl (1 : Int64), .second, vi (0 : Int32), .unset, .unset] []))
      refine OGo.st (fun t kk => XS.goto X29.here hx rfl (pc0 := 121) (pc' := 194) rfl (hb hby at_121) (by decide) (by decide) kk) ?_
      show OGo p e below _ (T29.setTop (mkF m 194 #[vi q1, vi q2, vi q3, vi q4, vi q5, vi q6, vi (Int32.ofNat ln), vi (q2 &&& (2147483647 : Int32)), vi (0 : Int32), vi (-1 : Int32), vi (-1 : Int32), vi (Int32.ofNat tb), vr b3, vl (1 : Int64), .second, vi (0 : Int32), .unset, .unset] []))
      refine OGo.st (fun t kk => XS.aload X29.here hx rfl (hb hby at_194) rfl rfl kk) ?_
      show OGo p e below _ (T29.setTop (mkF m 196 #[vi q1, vi q2, vi q3, vi q4, vi q5, vi q6, vi (Int32.ofNat ln), vi (q2 &&& (2147483647 : Int32)), vi (0 : Int32), vi (-1 : Int32), vi (-1 : Int32), vi (Int32.ofNat tb), vr b3, vl (1 : Int64), .second, vi (0 : Int32), .unset, .unset] [(.ref b3)]))
      refine OGo.st (fun t kk => XS.iload X29.here hx rfl (hb hby at_196) rfl kk) ?_
      show OGo p e below _ (T29.setTop (mkF m 198 #[vi q1, vi q2, vi q3, vi q4, vi q5, vi q6, vi (Int32.ofNat ln), vi (q2 &&& (2147483647 : Int32)), vi (0 : Int32), vi (-1 : Int32), vi (-1 : Int32), vi (Int32.ofNat tb), vr b3, vl (1 : Int64), .second, vi (0 : Int32), .unset, .unset] [(.int (-1 : Int32)), (.ref b3)]))
      refine OGo.st (fun t kk => XS.iloadN X29.here hx rfl (hb hby at_198) rfl kk) ?_
      show OGo p e below _ (T29.setTop (mkF m 199 #[vi q1, vi q2, vi q3, vi q4, vi q5, vi q6, vi (Int32.ofNat ln), vi (q2 &&& (2147483647 : Int32)), vi (0 : Int32), vi (-1 : Int32), vi (-1 : Int32), vi (Int32.ofNat tb), vr b3, vl (1 : Int64), .second, vi (0 : Int32), .unset, .unset] [(.int q4), (.int (-1 : Int32)), (.ref b3)]))
      refine OGo.st (fun t kk => XS.iload X29.here hx rfl (hb hby at_199) rfl kk) ?_
      show OGo p e below _ (T29.setTop (mkF m 201 #[vi q1, vi q2, vi q3, vi q4, vi q5, vi q6, vi (Int32.ofNat ln), vi (q2 &&& (2147483647 : Int32)), vi (0 : Int32), vi (-1 : Int32), vi (-1 : Int32), vi (Int32.ofNat tb), vr b3, vl (1 : Int64), .second, vi (0 : Int32), .unset, .unset] [(.int q5), (.int q4), (.int (-1 : Int32)), (.ref b3)]))
      refine OGo.st (fun t kk => XS.iload X29.here hx rfl (hb hby at_201) rfl kk) ?_
      show OGo p e below _ (T29.setTop (mkF m 203 #[vi q1, vi q2, vi q3, vi q4, vi q5, vi q6, vi (Int32.ofNat ln), vi (q2 &&& (2147483647 : Int32)), vi (0 : Int32), vi (-1 : Int32), vi (-1 : Int32), vi (Int32.ofNat tb), vr b3, vl (1 : Int64), .second, vi (0 : Int32), .unset, .unset] [(.int q6), (.int q5), (.int q4), (.int (-1 : Int32)), (.ref b3)]))
      have c31 := (O_fs.keep K29 (ninS (Ne.symm n_b3_fs) nin0))
      have c32 := (O_lb.keep K29 (ninS (Ne.symm n_b3_lb) nin0))
      have c33 := (O_bl.keep K29 (ninS (Ne.symm n_b3_bl) nin0))
      have c34 := (O_sb.keep K29 (ninS (Ne.symm n_b3_sb) nin0))
      obtain ⟨cq30, kq30, q30a, q30b, q30c⟩ := isOf hZ rfl E29
      obtain ⟨_, _, ⟨T30, L30, k30, n30⟩, -, X30, ⟨Lc30, hQ30, l30, y30, z30⟩, st30⟩ := X29.virtualBack hx (y := (⟨"com/example/lockstep/lockstep/check/StepGroups", "holds", "(IIII)Z"⟩ : MethodName)) (z := (⟨"com/example/lockstep/lockstep/check/StepGroups", "holds", "(IIII)Z"⟩ : MethodName)) hown (mvT hZ (hw _ (List.mem_of_getElem? (i := 75) rfl))) (mvT hZ (hw _ (List.mem_of_getElem? (i := 76) rfl))) (notFace_of_selects (args := #[]) (mvT hZ (hw _ (List.mem_of_getElem? (i := 78) rfl)))) (mvT hZ (hw _ (List.mem_of_getElem? (i := 78) rfl))) (mvT hZ (hw _ (List.mem_of_getElem? (i := 77) rfl))) (by decide) (backOf (W := 0) (rmH l Z a0 hw [] b3 (-1 : Int32) q4 q5 q6 em fr fb go ps ns fs lb sb bl pv nx pt qs ms (Int32.ofNat 1) (0 : Int32) (0 : Int32) (1 : Int64) ffs flb fbl fsb 0 T29.heap n0 Z29 ⟨E29, F29_emptied, F29_free, F29_firstOfBlock, F29_groupOf, F29_previousStep, F29_nextStep, F29_firstStep, F29_label, F29_superBlock, F29_block, F29_previous, F29_next, F29_partner, F29_partnerStamp, F29_markStamp, F29_groupCount, F29_emptiedCount, F29_freeCount, F29_stamp⟩ ho0 gu c31 c32 c33 c34 (Or.inl rfl)) hZ (hw _ (List.mem_of_getElem? (i := 79) rfl)) (hw _ (List.mem_of_getElem? (i := 3) rfl)) (by decide) (by decide)) q30a q30c (g := (mkF m 203 #[vi q1, vi q2, vi q3, vi q4, vi q5, vi q6, vi (Int32.ofNat ln), vi (q2 &&& (2147483647 : Int32)), vi (0 : Int32), vi (-1 : Int32), vi (-1 : Int32), vi (Int32.ofNat tb), vr b3, vl (1 : Int64), .second, vi (0 : Int32), .unset, .unset] [(.int q6), (.int q5), (.int q4), (.int (-1 : Int32)), (.ref b3)])) rfl (by rw [hml]; rfl) (Steps.refl _) (argsL := [(.int (-1 : Int32)), (.int q4), (.int q5), (.int q6)]) (rest := []) (lenOf pd0_2 rfl) rfl (by show 2 * 0 + _ ≤ _; exact Nat.le_of_eq rfl) (hb hby at_203) (fun _ _ => ⟨rfl, rfl, (by decide : 20 + 0 ≤ _), (by decide : 253 + 0 ≤ _)⟩)
      dsimp only [Pt.U, Pt.locs, Pt.cells, Pt.slots] at X30 l30 y30 z30 st30 hQ30
      subst l30 y30 z30
      obtain ⟨rfl, Nq30, e30⟩ := hQ30
      have N30 := Fr.app N29 Nq30
      obtain ⟨lo30, X30, N30⟩ : ∃ L, Stand p l e room_1 s m #[(.int q1), (.int q2), (.int q3), (.int q4), (.int q5), (.int q6)] below meth c T30 L 20 253 ∧ Fr n0 L := ⟨_, X30, N30⟩
      refine OGo.st (fun t kk => st30.trans kk) ?_
      show OGo p e below _ (T30.setTop (mkF m 206 #[vi q1, vi q2, vi q3, vi q4, vi q5, vi q6, vi (Int32.ofNat ln), vi (q2 &&& (2147483647 : Int32)), vi (0 : Int32), vi (-1 : Int32), vi (-1 : Int32), vi (Int32.ofNat tb), vr b3, vl (1 : Int64), .second, vi (0 : Int32), .unset, .unset] [(.int (HD (-1 : Int32) (ffs 0) (flb 0) (fbl 0) (fsb 0) q4 q5 q6))]))
      refine OGo.st (fun t kk => XS.iload X30.here hx rfl (hb hby at_206) rfl kk) ?_
      show OGo p e below _ (T30.setTop (mkF m 208 #[vi q1, vi q2, vi q3, vi q4, vi q5, vi q6, vi (Int32.ofNat ln), vi (q2 &&& (2147483647 : Int32)), vi (0 : Int32), vi (-1 : Int32), vi (-1 : Int32), vi (Int32.ofNat tb), vr b3, vl (1 : Int64), .second, vi (0 : Int32), .unset, .unset] [(.int (0 : Int32)), (.int (HD (-1 : Int32) (ffs 0) (flb 0) (fbl 0) (fsb 0) q4 q5 q6))]))
      refine OGo.st (fun t kk => XS.icmpNo X30.here hx rfl (hb hby at_208) rfl (teq (by simp +decide [HD, hfs0, hlb, hbl, hsb])).2 kk) ?_
      show OGo p e below _ (T30.setTop (mkF m 211 #[vi q1, vi q2, vi q3, vi q4, vi q5, vi q6, vi (Int32.ofNat ln), vi (q2 &&& (2147483647 : Int32)), vi (0 : Int32), vi (-1 : Int32), vi (-1 : Int32), vi (Int32.ofNat tb), vr b3, vl (1 : Int64), .second, vi (0 : Int32), .unset, .unset] []))
      refine OGo.st (fun t kk => XS.iconst X30.here hx rfl (hb hby at_211) kk) ?_
      show OGo p e below _ (T30.setTop (mkF m 212 #[vi q1, vi q2, vi q3, vi q4, vi q5, vi q6, vi (Int32.ofNat ln), vi (q2 &&& (2147483647 : Int32)), vi (0 : Int32), vi (-1 : Int32), vi (-1 : Int32), vi (Int32.ofNat tb), vr b3, vl (1 : Int64), .second, vi (0 : Int32), .unset, .unset] [(.int (1 : Int32))]))
      refine OGo.st (fun t kk => XS.goto X30.here hx rfl (pc0 := 212) (pc' := 216) rfl (hb hby at_212) (by decide) (by decide) kk) ?_
      show OGo p e below _ (T30.setTop (mkF m 216 #[vi q1, vi q2, vi q3, vi q4, vi q5, vi q6, vi (Int32.ofNat ln), vi (q2 &&& (2147483647 : Int32)), vi (0 : Int32), vi (-1 : Int32), vi (-1 : Int32), vi (Int32.ofNat tb), vr b3, vl (1 : Int64), .second, vi (0 : Int32), .unset, .unset] [(.int (1 : Int32))]))
      exact OGo.outN X30 hx (t := .boolean) Bd.returns (by simp) Bd.notSynchronized (hb hby at_216) ⟨rfl, N30⟩ (by decide) (by decide)
    · rw [show (if (0 : Int32) = (0 : Int32) then (if (0 : Int32) = (1 : Int32) then (0 : Int32) else (0 : Int32)) else (0 : Int32)) = (0 : Int32) from by decide]
      show OGo p e below _ (T29.setTop (mkF m 78 #[vi q1, vi q2, vi q3, vi q4, vi q5, vi q6, vi (Int32.ofNat ln), vi (q2 &&& (2147483647 : Int32)), vi (0 : Int32), vi (0 : Int32), vi (0 : Int32), vi (Int32.ofNat tb), vr b3, vl (1 : Int64), .second, .unset, .unset, .unset] []))
      refine OGo.st (fun t kk => XS.iload X29.here hx rfl (hb hby at_78) rfl kk) ?_
      show OGo p e below _ (T29.setTop (mkF m 80 #[vi q1, vi q2, vi q3, vi q4, vi q5, vi q6, vi (Int32.ofNat ln), vi (q2 &&& (2147483647 : Int32)), vi (0 : Int32), vi (0 : Int32), vi (0 : Int32), vi (Int32.ofNat tb), vr b3, vl (1 : Int64), .second, .unset, .unset, .unset] [(.int (0 : Int32))]))
      refine OGo.st (fun t kk => XS.iconst X29.here hx rfl (hb hby at_80) kk) ?_
      show OGo p e below _ (T29.setTop (mkF m 81 #[vi q1, vi q2, vi q3, vi q4, vi q5, vi q6, vi (Int32.ofNat ln), vi (q2 &&& (2147483647 : Int32)), vi (0 : Int32), vi (0 : Int32), vi (0 : Int32), vi (Int32.ofNat tb), vr b3, vl (1 : Int64), .second, .unset, .unset, .unset] [(.int (1 : Int32)), (.int (0 : Int32))]))
      refine OGo.st (fun t kk => XS.icmpYes X29.here hx rfl (pc0 := 81) (pc' := 97) rfl (hb hby at_81) rfl (feq (by decide : ¬ ((0 : Int32) = (1 : Int32)))).2 (by decide) (by decide) kk) ?_
      show OGo p e below _ (T29.setTop (mkF m 97 #[vi q1, vi q2, vi q3, vi q4, vi q5, vi q6, vi (Int32.ofNat ln), vi (q2 &&& (2147483647 : Int32)), vi (0 : Int32), vi (0 : Int32), vi (0 : Int32), vi (Int32.ofNat tb), vr b3, vl (1 : Int64), .second, .unset, .unset, .unset] []))
      refine OGo.st (fun t kk => XS.iload X29.here hx rfl (hb hby at_97) rfl kk) ?_
      show OGo p e below _ (T29.setTop (mkF m 99 #[vi q1, vi q2, vi q3, vi q4, vi q5, vi q6, vi (Int32.ofNat ln), vi (q2 &&& (2147483647 : Int32)), vi (0 : Int32), vi (0 : Int32), vi (0 : Int32), vi (Int32.ofNat tb), vr b3, vl (1 : Int64), .second, .unset, .unset, .unset] [(.int (0 : Int32))]))
      refine OGo.st (fun t kk => XS.iconst X29.here hx rfl (hb hby at_99) kk) ?_
      show OGo p e below _ (T29.setTop (mkF m 100 #[vi q1, vi q2, vi q3, vi q4, vi q5, vi q6, vi (Int32.ofNat ln), vi (q2 &&& (2147483647 : Int32)), vi (0 : Int32), vi (0 : Int32), vi (0 : Int32), vi (Int32.ofNat tb), vr b3, vl (1 : Int64), .second, .unset, .unset, .unset] [(.int (2 : Int32)), (.int (0 : Int32))]))
      refine OGo.st (fun t kk => XS.icmpYes X29.here hx rfl (pc0 := 100) (pc' := 112) rfl (hb hby at_100) rfl (feq (by decide : ¬ ((0 : Int32) = (2 : Int32)))).2 (by decide) (by decide) kk) ?_
      show OGo p e below _ (T29.setTop (mkF m 112 #[vi q1, vi q2, vi q3, vi q4, vi q5, vi q6, vi (Int32.ofNat ln), vi (q2 &&& (2147483647 : Int32)), vi (0 : Int32), vi (0 : Int32), vi (0 : Int32), vi (Int32.ofNat tb), vr b3, vl (1 : Int64), .second, .unset, .unset, .unset] []))
      refine OGo.st (fun t kk => XS.iload X29.here hx rfl (hb hby at_112) rfl kk) ?_
      show OGo p e below _ (T29.setTop (mkF m 114 #[vi q1, vi q2, vi q3, vi q4, vi q5, vi q6, vi (Int32.ofNat ln), vi (q2 &&& (2147483647 : Int32)), vi (0 : Int32), vi (0 : Int32), vi (0 : Int32), vi (Int32.ofNat tb), vr b3, vl (1 : Int64), .second, .unset, .unset, .unset] [(.int (0 : Int32))]))
      refine OGo.st (fun t kk => XS.iconst X29.here hx rfl (hb hby at_114) kk) ?_
      show OGo p e below _ (T29.setTop (mkF m 115 #[vi q1, vi q2, vi q3, vi q4, vi q5, vi q6, vi (Int32.ofNat ln), vi (q2 &&& (2147483647 : Int32)), vi (0 : Int32), vi (0 : Int32), vi (0 : Int32), vi (Int32.ofNat tb), vr b3, vl (1 : Int64), .second, .unset, .unset, .unset] [(.int (-1 : Int32)), (.int (0 : Int32))]))
      refine OGo.st (fun t kk => XS.icmpYes X29.here hx rfl (pc0 := 115) (pc' := 124) rfl (hb hby at_115) rfl (feq (by decide : ¬ ((0 : Int32) = (-1 : Int32)))).2 (by decide) (by decide) kk) ?_
      show OGo p e below _ (T29.setTop (mkF m 124 #[vi q1, vi q2, vi q3, vi q4, vi q5, vi q6, vi (Int32.ofNat ln), vi (q2 &&& (2147483647 : Int32)), vi (0 : Int32), vi (0 : Int32), vi (0 : Int32), vi (Int32.ofNat tb), vr b3, vl (1 : Int64), .second, .unset, .unset, .unset] []))
      refine OGo.st (fun t kk => XS.iload X29.here hx rfl (hb hby at_124) rfl kk) ?_
      show OGo p e below _ (T29.setTop (mkF m 126 #[vi q1, vi q2, vi q3, vi q4, vi q5, vi q6, vi (Int32.ofNat ln), vi (q2 &&& (2147483647 : Int32)), vi (0 : Int32), vi (0 : Int32), vi (0 : Int32), vi (Int32.ofNat tb), vr b3, vl (1 : Int64), .second, .unset, .unset, .unset] [(.int (0 : Int32))]))
      refine OGo.st (fun t kk => XS.ifYes X29.here hx rfl (pc0 := 126) (pc' := 140) rfl (hb hby at_126) rfl ((if0 _ _).trans (teq (by decide : ((0 : Int32) = (0 : Int32)))).1) (by decide) (by decide) kk) ?_
      show OGo p e below _ (T29.setTop (mkF m 140 #[vi q1, vi q2, vi q3, vi q4, vi q5, vi q6, vi (Int32.ofNat ln), vi (q2 &&& (2147483647 : Int32)), vi (0 : Int32), vi (0 : Int32), vi (0 : Int32), vi (Int32.ofNat tb), vr b3, vl (1 : Int64), .second, .unset, .unset, .unset] []))
      refine OGo.st (fun t kk => XS.iload X29.here hx rfl (hb hby at_140) rfl kk) ?_
      show OGo p e below _ (T29.setTop (mkF m 142 #[vi q1, vi q2, vi q3, vi q4, vi q5, vi q6, vi (Int32.ofNat ln), vi (q2 &&& (2147483647 : Int32)), vi (0 : Int32), vi (0 : Int32), vi (0 : Int32), vi (Int32.ofNat tb), vr b3, vl (1 : Int64), .second, .unset, .unset, .unset] [(.int (0 : Int32))]))
      refine OGo.st (fun t kk => XS.iconst X29.here hx rfl (hb hby at_142) kk) ?_
      show OGo p e below _ (T29.setTop (mkF m 143 #[vi q1, vi q2, vi q3, vi q4, vi q5, vi q6, vi (Int32.ofNat ln), vi (q2 &&& (2147483647 : Int32)), vi (0 : Int32), vi (0 : Int32), vi (0 : Int32), vi (Int32.ofNat tb), vr b3, vl (1 : Int64), .second, .unset, .unset, .unset] [(.int (1 : Int32)), (.int (0 : Int32))]))
      refine OGo.st (fun t kk => XS.icmpYes X29.here hx rfl (pc0 := 143) (pc' := 151) rfl (hb hby at_143) rfl (feq (by decide : ¬ ((0 : Int32) = (1 : Int32)))).2 (by decide) (by decide) kk) ?_
      show OGo p e below _ (T29.setTop (mkF m 151 #[vi q1, vi q2, vi q3, vi q4, vi q5, vi q6, vi (Int32.ofNat ln), vi (q2 &&& (2147483647 : Int32)), vi (0 : Int32), vi (0 : Int32), vi (0 : Int32), vi (Int32.ofNat tb), vr b3, vl (1 : Int64), .second, .unset, .unset, .unset] []))
      refine OGo.st (fun t kk => XS.iconst X29.here hx rfl (hb hby at_151) kk) ?_
      show OGo p e below _ (T29.setTop (mkF m 152 #[vi q1, vi q2, vi q3, vi q4, vi q5, vi q6, vi (Int32.ofNat ln), vi (q2 &&& (2147483647 : Int32)), vi (0 : Int32), vi (0 : Int32), vi (0 : Int32), vi (Int32.ofNat tb), vr b3, vl (1 : Int64), .second, .unset, .unset, .unset] [(.int (0 : Int32))]))
      refine OGo.st (fun t kk => XS.istore X29.here hx rfl (hb hby at_152) rfl (l' := #[vi q1, vi q2, vi q3, vi q4, vi q5, vi q6, vi (Int32.ofNat ln), vi (q2 &&& (2147483647 : Int32)), vi (0 : Int32), vi (0 : Int32), vi (0 : Int32), vi (Int32.ofNat tb), vr b3, vl (1 : Int64), .second, .unset, vi (0 : Int32), .unset]) rfl kk) ?_
      show OGo p e below _ (T29.setTop (mkF m 154 #[vi q1, vi q2, vi q3, vi q4, vi q5, vi q6, vi (Int32.ofNat ln), vi (q2 &&& (2147483647 : Int32)), vi (0 : Int32), vi (0 : Int32), vi (0 : Int32), vi (Int32.ofNat tb), vr b3, vl (1 : Int64), .second, .unset, vi (0 : Int32), .unset] []))
      refine OGo.st (fun t kk => XS.iload X29.here hx rfl (hb hby at_154) rfl kk) ?_
      show OGo p e below _ (T29.setTop (mkF m 156 #[vi q1, vi q2, vi q3, vi q4, vi q5, vi q6, vi (Int32.ofNat ln), vi (q2 &&& (2147483647 : Int32)), vi (0 : Int32), vi (0 : Int32), vi (0 : Int32), vi (Int32.ofNat tb), vr b3, vl (1 : Int64), .second, .unset, vi (0 : Int32), .unset] [(.int (0 : Int32))]))
      refine OGo.st (fun t kk => XS.iconst X29.here hx rfl (hb hby at_156) kk) ?_
      show OGo p e below _ (T29.setTop (mkF m 157 #[vi q1, vi q2, vi q3, vi q4, vi q5, vi q6, vi (Int32.ofNat ln), vi (q2 &&& (2147483647 : Int32)), vi (0 : Int32), vi (0 : Int32), vi (0 : Int32), vi (Int32.ofNat tb), vr b3, vl (1 : Int64), .second, .unset, vi (0 : Int32), .unset] [(.int (2 : Int32)), (.int (0 : Int32))]))
      refine OGo.st (fun t kk => XS.icmpYes X29.here hx rfl (pc0 := 157) (pc' := 164) rfl (hb hby at_157) rfl (feq (by decide : ¬ ((0 : Int32) = (2 : Int32)))).2 (by decide) (by decide) kk) ?_
      show OGo p e below _ (T29.setTop (mkF m 164 #[vi q1, vi q2, vi q3, vi q4, vi q5, vi q6, vi (Int32.ofNat ln), vi (q2 &&& (2147483647 : Int32)), vi (0 : Int32), vi (0 : Int32), vi (0 : Int32), vi (Int32.ofNat tb), vr b3, vl (1 : Int64), .second, .unset, vi (0 : Int32), .unset] []))
      refine OGo.st (fun t kk => XS.iconst X29.here hx rfl (hb hby at_164) kk) ?_
      show OGo p e below _ (T29.setTop (mkF m 165 #[vi q1, vi q2, vi q3, vi q4, vi q5, vi q6, vi (Int32.ofNat ln), vi (q2 &&& (2147483647 : Int32)), vi (0 : Int32), vi (0 : Int32), vi (0 : Int32), vi (Int32.ofNat tb), vr b3, vl (1 : Int64), .second, .unset, vi (0 : Int32), .unset] [(.int (0 : Int32))]))
      refine OGo.st (fun t kk => XS.istore X29.here hx rfl (hb hby at_165) rfl (l' := #[vi q1, vi q2, vi q3, vi q4, vi q5, vi q6, vi (Int32.ofNat ln), vi (q2 &&& (2147483647 : Int32)), vi (0 : Int32), vi (0 : Int32), vi (0 : Int32), vi (Int32.ofNat tb), vr b3, vl (1 : Int64), .second, .unset, vi (0 : Int32), vi (0 : Int32)]) rfl kk) ?_
      show OGo p e below _ (T29.setTop (mkF m 167 #[vi q1, vi q2, vi q3, vi q4, vi q5, vi q6, vi (Int32.ofNat ln), vi (q2 &&& (2147483647 : Int32)), vi (0 : Int32), vi (0 : Int32), vi (0 : Int32), vi (Int32.ofNat tb), vr b3, vl (1 : Int64), .second, .unset, vi (0 : Int32), vi (0 : Int32)] []))
      refine OGo.st (fun t kk => XS.iloadN X29.here hx rfl (hb hby at_167) rfl kk) ?_
      show OGo p e below _ (T29.setTop (mkF m 168 #[vi q1, vi q2, vi q3, vi q4, vi q5, vi q6, vi (Int32.ofNat ln), vi (q2 &&& (2147483647 : Int32)), vi (0 : Int32), vi (0 : Int32), vi (0 : Int32), vi (Int32.ofNat tb), vr b3, vl (1 : Int64), .second, .unset, vi (0 : Int32), vi (0 : Int32)] [(.int q4)]))
      refine OGo.st (fun t kk => XS.iload X29.here hx rfl (hb hby at_168) rfl kk) ?_
      show OGo p e below _ (T29.setTop (mkF m 170 #[vi q1, vi q2, vi q3, vi q4, vi q5, vi q6, vi (Int32.ofNat ln), vi (q2 &&& (2147483647 : Int32)), vi (0 : Int32), vi (0 : Int32), vi (0 : Int32), vi (Int32.ofNat tb), vr b3, vl (1 : Int64), .second, .unset, vi (0 : Int32), vi (0 : Int32)] [(.int (Int32.ofNat ln)), (.int q4)]))
      by_cases hc170_35 : q4 = (Int32.ofNat ln)
      · refine OGo.st (fun t kk => XS.icmpNo X29.here hx rfl (hb hby at_170) rfl (teq hc170_35).2 kk) ?_
        show OGo p e below _ (T29.setTop (mkF m 173 #[vi q1, vi q2, vi q3, vi q4, vi q5, vi q6, vi (Int32.ofNat ln), vi (q2 &&& (2147483647 : Int32)), vi (0 : Int32), vi (0 : Int32), vi (0 : Int32), vi (Int32.ofNat tb), vr b3, vl (1 : Int64), .second, .unset, vi (0 : Int32), vi (0 : Int32)] []))
        refine OGo.st (fun t kk => XS.iload X29.here hx rfl (hb hby at_173) rfl kk) ?_
        show OGo p e below _ (T29.setTop (mkF m 175 #[vi q1, vi q2, vi q3, vi q4, vi q5, vi q6, vi (Int32.ofNat ln), vi (q2 &&& (2147483647 : Int32)), vi (0 : Int32), vi (0 : Int32), vi (0 : Int32), vi (Int32.ofNat tb), vr b3, vl (1 : Int64), .second, .unset, vi (0 : Int32), vi (0 : Int32)] [(.int q5)]))
        refine OGo.st (fun t kk => XS.iload X29.here hx rfl (hb hby at_175) rfl kk) ?_
        show OGo p e below _ (T29.setTop (mkF m 177 #[vi q1, vi q2, vi q3, vi q4, vi q5, vi q6, vi (Int32.ofNat ln), vi (q2 &&& (2147483647 : Int32)), vi (0 : Int32), vi (0 : Int32), vi (0 : Int32), vi (Int32.ofNat tb), vr b3, vl (1 : Int64), .second, .unset, vi (0 : Int32), vi (0 : Int32)] [(.int (0 : Int32)), (.int q5)]))
        by_cases hc177_36 : q5 = (0 : Int32)
        · refine OGo.st (fun t kk => XS.icmpNo X29.here hx rfl (hb hby at_177) rfl (teq hc177_36).2 kk) ?_
          show OGo p e below _ (T29.setTop (mkF m 180 #[vi q1, vi q2, vi q3, vi q4, vi q5, vi q6, vi (Int32.ofNat ln), vi (q2 &&& (2147483647 : Int32)), vi (0 : Int32), vi (0 : Int32), vi (0 : Int32), vi (Int32.ofNat tb), vr b3, vl (1 : Int64), .second, .unset, vi (0 : Int32), vi (0 : Int32)] []))
          refine OGo.st (fun t kk => XS.iload X29.here hx rfl (hb hby at_180) rfl kk) ?_
          show OGo p e below _ (T29.setTop (mkF m 182 #[vi q1, vi q2, vi q3, vi q4, vi q5, vi q6, vi (Int32.ofNat ln), vi (q2 &&& (2147483647 : Int32)), vi (0 : Int32), vi (0 : Int32), vi (0 : Int32), vi (Int32.ofNat tb), vr b3, vl (1 : Int64), .second, .unset, vi (0 : Int32), vi (0 : Int32)] [(.int q6)]))
          refine OGo.st (fun t kk => XS.iload X29.here hx rfl (hb hby at_182) rfl kk) ?_
          show OGo p e below _ (T29.setTop (mkF m 184 #[vi q1, vi q2, vi q3, vi q4, vi q5, vi q6, vi (Int32.ofNat ln), vi (q2 &&& (2147483647 : Int32)), vi (0 : Int32), vi (0 : Int32), vi (0 : Int32), vi (Int32.ofNat tb), vr b3, vl (1 : Int64), .second, .unset, vi (0 : Int32), vi (0 : Int32)] [(.int (0 : Int32)), (.int q6)]))
          by_cases hc184_37 : q6 = (0 : Int32)
          · refine OGo.st (fun t kk => XS.icmpNo X29.here hx rfl (hb hby at_184) rfl (teq hc184_37).2 kk) ?_
            show OGo p e below _ (T29.setTop (mkF m 187 #[vi q1, vi q2, vi q3, vi q4, vi q5, vi q6, vi (Int32.ofNat ln), vi (q2 &&& (2147483647 : Int32)), vi (0 : Int32), vi (0 : Int32), vi (0 : Int32), vi (Int32.ofNat tb), vr b3, vl (1 : Int64), .second, .unset, vi (0 : Int32), vi (0 : Int32)] []))
            refine OGo.st (fun t kk => XS.iconst X29.here hx rfl (hb hby at_187) kk) ?_
            show OGo p e below _ (T29.setTop (mkF m 188 #[vi q1, vi q2, vi q3, vi q4, vi q5, vi q6, vi (Int32.ofNat ln), vi (q2 &&& (2147483647 : Int32)), vi (0 : Int32), vi (0 : Int32), vi (0 : Int32), vi (Int32.ofNat tb), vr b3, vl (1 : Int64), .second, .unset, vi (0 : Int32), vi (0 : Int32)] [(.int (1 : Int32))]))
            refine OGo.st (fun t kk => XS.goto X29.here hx rfl (pc0 := 188) (pc' := 192) rfl (hb hby at_188) (by decide) (by decide) kk) ?_
            show OGo p e below _ (T29.setTop (mkF m 192 #[vi q1, vi q2, vi q3, vi q4, vi q5, vi q6, vi (Int32.ofNat ln), vi (q2 &&& (2147483647 : Int32)), vi (0 : Int32), vi (0 : Int32), vi (0 : Int32), vi (Int32.ofNat tb), vr b3, vl (1 : Int64), .second, .unset, vi (0 : Int32), vi (0 : Int32)] [(.int (1 : Int32))]))
            refine OGo.st (fun t kk => XS.istore X29.here hx rfl (hb hby at_192) rfl (l' := #[vi q1, vi q2, vi q3, vi q4, vi q5, vi q6, vi (Int32.ofNat ln), vi (q2 &&& (2147483647 : Int32)), vi (0 : Int32), vi (0 : Int32), vi (0 : Int32), vi (Int32.ofNat tb), vr b3, vl (1 : Int64), .second, vi (1 : Int32), vi (0 : Int32), vi (0 : Int32)]) rfl kk) ?_
            show OGo p e below _ (T29.setTop (mkF m 194 #[vi q1, vi q2, vi q3, vi q4, vi q5, vi q6, vi (Int32.ofNat ln), vi (q2 &&& (2147483647 : Int32)), vi (0 : Int32), vi (0 : Int32), vi (0 : Int32), vi (Int32.ofNat tb), vr b3, vl (1 : Int64), .second, vi (1 : Int32), vi (0 : Int32), vi (0 : Int32)] []))
            refine OGo.st (fun t kk => XS.aload X29.here hx rfl (hb hby at_194) rfl rfl kk) ?_
            show OGo p e below _ (T29.setTop (mkF m 196 #[vi q1, vi q2, vi q3, vi q4, vi q5, vi q6, vi (Int32.ofNat ln), vi (q2 &&& (2147483647 : Int32)), vi (0 : Int32), vi (0 : Int32), vi (0 : Int32), vi (Int32.ofNat tb), vr b3, vl (1 : Int64), .second, vi (1 : Int32), vi (0 : Int32), vi (0 : Int32)] [(.ref b3)]))
            refine OGo.st (fun t kk => XS.iload X29.here hx rfl (hb hby at_196) rfl kk) ?_
            show OGo p e below _ (T29.setTop (mkF m 198 #[vi q1, vi q2, vi q3, vi q4, vi q5, vi q6, vi (Int32.ofNat ln), vi (q2 &&& (2147483647 : Int32)), vi (0 : Int32), vi (0 : Int32), vi (0 : Int32), vi (Int32.ofNat tb), vr b3, vl (1 : Int64), .second, vi (1 : Int32), vi (0 : Int32), vi (0 : Int32)] [(.int (0 : Int32)), (.ref b3)]))
            refine OGo.st (fun t kk => XS.iloadN X29.here hx rfl (hb hby at_198) rfl kk) ?_
            show OGo p e below _ (T29.setTop (mkF m 199 #[vi q1, vi q2, vi q3, vi q4, vi q5, vi q6, vi (Int32.ofNat ln), vi (q2 &&& (2147483647 : Int32)), vi (0 : Int32), vi (0 : Int32), vi (0 : Int32), vi (Int32.ofNat tb), vr b3, vl (1 : Int64), .second, vi (1 : Int32), vi (0 : Int32), vi (0 : Int32)] [(.int q4), (.int (0 : Int32)), (.ref b3)]))
            refine OGo.st (fun t kk => XS.iload X29.here hx rfl (hb hby at_199) rfl kk) ?_
            show OGo p e below _ (T29.setTop (mkF m 201 #[vi q1, vi q2, vi q3, vi q4, vi q5, vi q6, vi (Int32.ofNat ln), vi (q2 &&& (2147483647 : Int32)), vi (0 : Int32), vi (0 : Int32), vi (0 : Int32), vi (Int32.ofNat tb), vr b3, vl (1 : Int64), .second, vi (1 : Int32), vi (0 : Int32), vi (0 : Int32)] [(.int q5), (.int q4), (.int (0 : Int32)), (.ref b3)]))
            refine OGo.st (fun t kk => XS.iload X29.here hx rfl (hb hby at_201) rfl kk) ?_
            show OGo p e below _ (T29.setTop (mkF m 203 #[vi q1, vi q2, vi q3, vi q4, vi q5, vi q6, vi (Int32.ofNat ln), vi (q2 &&& (2147483647 : Int32)), vi (0 : Int32), vi (0 : Int32), vi (0 : Int32), vi (Int32.ofNat tb), vr b3, vl (1 : Int64), .second, vi (1 : Int32), vi (0 : Int32), vi (0 : Int32)] [(.int q6), (.int q5), (.int q4), (.int (0 : Int32)), (.ref b3)]))
            have c39 := (O_fs.keep K29 (ninS (Ne.symm n_b3_fs) nin0))
            have c40 := (O_lb.keep K29 (ninS (Ne.symm n_b3_lb) nin0))
            have c41 := (O_bl.keep K29 (ninS (Ne.symm n_b3_bl) nin0))
            have c42 := (O_sb.keep K29 (ninS (Ne.symm n_b3_sb) nin0))
            obtain ⟨cq38, kq38, q38a, q38b, q38c⟩ := isOf hZ rfl E29
            obtain ⟨_, _, ⟨T38, L38, k38, n38⟩, -, X38, ⟨Lc38, hQ38, l38, y38, z38⟩, st38⟩ := X29.virtualBack hx (y := (⟨"com/example/lockstep/lockstep/check/StepGroups", "holds", "(IIII)Z"⟩ : MethodName)) (z := (⟨"com/example/lockstep/lockstep/check/StepGroups", "holds", "(IIII)Z"⟩ : MethodName)) hown (mvT hZ (hw _ (List.mem_of_getElem? (i := 75) rfl))) (mvT hZ (hw _ (List.mem_of_getElem? (i := 76) rfl))) (notFace_of_selects (args := #[]) (mvT hZ (hw _ (List.mem_of_getElem? (i := 78) rfl)))) (mvT hZ (hw _ (List.mem_of_getElem? (i := 78) rfl))) (mvT hZ (hw _ (List.mem_of_getElem? (i := 77) rfl))) (by decide) (backOf (W := 0) (rmH l Z a0 hw [] b3 (0 : Int32) q4 q5 q6 em fr fb go ps ns fs lb sb bl pv nx pt qs ms (Int32.ofNat 1) (0 : Int32) (0 : Int32) (1 : Int64) ffs flb fbl fsb 0 T29.heap n0 Z29 ⟨E29, F29_emptied, F29_free, F29_firstOfBlock, F29_groupOf, F29_previousStep, F29_nextStep, F29_firstStep, F29_label, F29_superBlock, F29_block, F29_previous, F29_next, F29_partner, F29_partnerStamp, F29_markStamp, F29_groupCount, F29_emptiedCount, F29_freeCount, F29_stamp⟩ ho0 gu c39 c40 c41 c42 (Or.inr ⟨rfl, by decide⟩)) hZ (hw _ (List.mem_of_getElem? (i := 79) rfl)) (hw _ (List.mem_of_getElem? (i := 3) rfl)) (by decide) (by decide)) q38a q38c (g := (mkF m 203 #[vi q1, vi q2, vi q3, vi q4, vi q5, vi q6, vi (Int32.ofNat ln), vi (q2 &&& (2147483647 : Int32)), vi (0 : Int32), vi (0 : Int32), vi (0 : Int32), vi (Int32.ofNat tb), vr b3, vl (1 : Int64), .second, vi (1 : Int32), vi (0 : Int32), vi (0 : Int32)] [(.int q6), (.int q5), (.int q4), (.int (0 : Int32)), (.ref b3)])) rfl (by rw [hml]; rfl) (Steps.refl _) (argsL := [(.int (0 : Int32)), (.int q4), (.int q5), (.int q6)]) (rest := []) (lenOf pd0_2 rfl) rfl (by show 2 * 0 + _ ≤ _; exact Nat.le_of_eq rfl) (hb hby at_203) (fun _ _ => ⟨rfl, rfl, (by decide : 20 + 0 ≤ _), (by decide : 253 + 0 ≤ _)⟩)
            dsimp only [Pt.U, Pt.locs, Pt.cells, Pt.slots] at X38 l38 y38 z38 st38 hQ38
            subst l38 y38 z38
            obtain ⟨rfl, Nq38, e38⟩ := hQ38
            have N38 := Fr.app N29 Nq38
            obtain ⟨lo38, X38, N38⟩ : ∃ L, Stand p l e room_1 s m #[(.int q1), (.int q2), (.int q3), (.int q4), (.int q5), (.int q6)] below meth c T38 L 20 253 ∧ Fr n0 L := ⟨_, X38, N38⟩
            refine OGo.st (fun t kk => st38.trans kk) ?_
            show OGo p e below _ (T38.setTop (mkF m 206 #[vi q1, vi q2, vi q3, vi q4, vi q5, vi q6, vi (Int32.ofNat ln), vi (q2 &&& (2147483647 : Int32)), vi (0 : Int32), vi (0 : Int32), vi (0 : Int32), vi (Int32.ofNat tb), vr b3, vl (1 : Int64), .second, vi (1 : Int32), vi (0 : Int32), vi (0 : Int32)] [(.int (HD (0 : Int32) (ffs 0) (flb 0) (fbl 0) (fsb 0) q4 q5 q6))]))
            refine OGo.st (fun t kk => XS.iload X38.here hx rfl (hb hby at_206) rfl kk) ?_
            show OGo p e below _ (T38.setTop (mkF m 208 #[vi q1, vi q2, vi q3, vi q4, vi q5, vi q6, vi (Int32.ofNat ln), vi (q2 &&& (2147483647 : Int32)), vi (0 : Int32), vi (0 : Int32), vi (0 : Int32), vi (Int32.ofNat tb), vr b3, vl (1 : Int64), .second, vi (1 : Int32), vi (0 : Int32), vi (0 : Int32)] [(.int (1 : Int32)), (.int (HD (0 : Int32) (ffs 0) (flb 0) (fbl 0) (fsb 0) q4 q5 q6))]))
            refine OGo.st (fun t kk => XS.icmpNo X38.here hx rfl (hb hby at_208) rfl (teq (by simp +decide [HD, hfs0, hlb, hbl, hsb, hc170_35, hc177_36, hc184_37])).2 kk) ?_
            show OGo p e below _ (T38.setTop (mkF m 211 #[vi q1, vi q2, vi q3, vi q4, vi q5, vi q6, vi (Int32.ofNat ln), vi (q2 &&& (2147483647 : Int32)), vi (0 : Int32), vi (0 : Int32), vi (0 : Int32), vi (Int32.ofNat tb), vr b3, vl (1 : Int64), .second, vi (1 : Int32), vi (0 : Int32), vi (0 : Int32)] []))
            refine OGo.st (fun t kk => XS.iconst X38.here hx rfl (hb hby at_211) kk) ?_
            show OGo p e below _ (T38.setTop (mkF m 212 #[vi q1, vi q2, vi q3, vi q4, vi q5, vi q6, vi (Int32.ofNat ln), vi (q2 &&& (2147483647 : Int32)), vi (0 : Int32), vi (0 : Int32), vi (0 : Int32), vi (Int32.ofNat tb), vr b3, vl (1 : Int64), .second, vi (1 : Int32), vi (0 : Int32), vi (0 : Int32)] [(.int (1 : Int32))]))
            refine OGo.st (fun t kk => XS.goto X38.here hx rfl (pc0 := 212) (pc' := 216) rfl (hb hby at_212) (by decide) (by decide) kk) ?_
            show OGo p e below _ (T38.setTop (mkF m 216 #[vi q1, vi q2, vi q3, vi q4, vi q5, vi q6, vi (Int32.ofNat ln), vi (q2 &&& (2147483647 : Int32)), vi (0 : Int32), vi (0 : Int32), vi (0 : Int32), vi (Int32.ofNat tb), vr b3, vl (1 : Int64), .second, vi (1 : Int32), vi (0 : Int32), vi (0 : Int32)] [(.int (1 : Int32))]))
            exact OGo.outN X38 hx (t := .boolean) Bd.returns (by simp) Bd.notSynchronized (hb hby at_216) ⟨rfl, N38⟩ (by decide) (by decide)
          · refine OGo.st (fun t kk => XS.icmpYes X29.here hx rfl (pc0 := 184) (pc' := 191) rfl (hb hby at_184) rfl (feq hc184_37).2 (by decide) (by decide) kk) ?_
            show OGo p e below _ (T29.setTop (mkF m 191 #[vi q1, vi q2, vi q3, vi q4, vi q5, vi q6, vi (Int32.ofNat ln), vi (q2 &&& (2147483647 : Int32)), vi (0 : Int32), vi (0 : Int32), vi (0 : Int32), vi (Int32.ofNat tb), vr b3, vl (1 : Int64), .second, .unset, vi (0 : Int32), vi (0 : Int32)] []))
            refine OGo.st (fun t kk => XS.iconst X29.here hx rfl (hb hby at_191) kk) ?_
            show OGo p e below _ (T29.setTop (mkF m 192 #[vi q1, vi q2, vi q3, vi q4, vi q5, vi q6, vi (Int32.ofNat ln), vi (q2 &&& (2147483647 : Int32)), vi (0 : Int32), vi (0 : Int32), vi (0 : Int32), vi (Int32.ofNat tb), vr b3, vl (1 : Int64), .second, .unset, vi (0 : Int32), vi (0 : Int32)] [(.int (0 : Int32))]))
            refine OGo.st (fun t kk => XS.istore X29.here hx rfl (hb hby at_192) rfl (l' := #[vi q1, vi q2, vi q3, vi q4, vi q5, vi q6, vi (Int32.ofNat ln), vi (q2 &&& (2147483647 : Int32)), vi (0 : Int32), vi (0 : Int32), vi (0 : Int32), vi (Int32.ofNat tb), vr b3, vl (1 : Int64), .second, vi (0 : Int32), vi (0 : Int32), vi (0 : Int32)]) rfl kk) ?_
            show OGo p e below _ (T29.setTop (mkF m 194 #[vi q1, vi q2, vi q3, vi q4, vi q5, vi q6, vi (Int32.ofNat ln), vi (q2 &&& (2147483647 : Int32)), vi (0 : Int32), vi (0 : Int32), vi (0 : Int32), vi (Int32.ofNat tb), vr b3, vl (1 : Int64), .second, vi (0 : Int32), vi (0 : Int32), vi (0 : Int32)] []))
            refine OGo.st (fun t kk => XS.aload X29.here hx rfl (hb hby at_194) rfl rfl kk) ?_
            show OGo p e below _ (T29.setTop (mkF m 196 #[vi q1, vi q2, vi q3, vi q4, vi q5, vi q6, vi (Int32.ofNat ln), vi (q2 &&& (2147483647 : Int32)), vi (0 : Int32), vi (0 : Int32), vi (0 : Int32), vi (Int32.ofNat tb), vr b3, vl (1 : Int64), .second, vi (0 : Int32), vi (0 : Int32), vi (0 : Int32)] [(.ref b3)]))
            refine OGo.st (fun t kk => XS.iload X29.here hx rfl (hb hby at_196) rfl kk) ?_
            show OGo p e below _ (T29.setTop (mkF m 198 #[vi q1, vi q2, vi q3, vi q4, vi q5, vi q6, vi (Int32.ofNat ln), vi (q2 &&& (2147483647 : Int32)), vi (0 : Int32), vi (0 : Int32), vi (0 : Int32), vi (Int32.ofNat tb), vr b3, vl (1 : Int64), .second, vi (0 : Int32), vi (0 : Int32), vi (0 : Int32)] [(.int (0 : Int32)), (.ref b3)]))
            refine OGo.st (fun t kk => XS.iloadN X29.here hx rfl (hb hby at_198) rfl kk) ?_
            show OGo p e below _ (T29.setTop (mkF m 199 #[vi q1, vi q2, vi q3, vi q4, vi q5, vi q6, vi (Int32.ofNat ln), vi (q2 &&& (2147483647 : Int32)), vi (0 : Int32), vi (0 : Int32), vi (0 : Int32), vi (Int32.ofNat tb), vr b3, vl (1 : Int64), .second, vi (0 : Int32), vi (0 : Int32), vi (0 : Int32)] [(.int q4), (.int (0 : Int32)), (.ref b3)]))
            refine OGo.st (fun t kk => XS.iload X29.here hx rfl (hb hby at_199) rfl kk) ?_
            show OGo p e below _ (T29.setTop (mkF m 201 #[vi q1, vi q2, vi q3, vi q4, vi q5, vi q6, vi (Int32.ofNat ln), vi (q2 &&& (2147483647 : Int32)), vi (0 : Int32), vi (0 : Int32), vi (0 : Int32), vi (Int32.ofNat tb), vr b3, vl (1 : Int64), .second, vi (0 : Int32), vi (0 : Int32), vi (0 : Int32)] [(.int q5), (.int q4), (.int (0 : Int32)), (.ref b3)]))
            refine OGo.st (fun t kk => XS.iload X29.here hx rfl (hb hby at_201) rfl kk) ?_
            show OGo p e below _ (T29.setTop (mkF m 203 #[vi q1, vi q2, vi q3, vi q4, vi q5, vi q6, vi (Int32.ofNat ln), vi (q2 &&& (2147483647 : Int32)), vi (0 : Int32), vi (0 : Int32), vi (0 : Int32), vi (Int32.ofNat tb), vr b3, vl (1 : Int64), .second, vi (0 : Int32), vi (0 : Int32), vi (0 : Int32)] [(.int q6), (.int q5), (.int q4), (.int (0 : Int32)), (.ref b3)]))
            have c44 := (O_fs.keep K29 (ninS (Ne.symm n_b3_fs) nin0))
            have c45 := (O_lb.keep K29 (ninS (Ne.symm n_b3_lb) nin0))
            have c46 := (O_bl.keep K29 (ninS (Ne.symm n_b3_bl) nin0))
            have c47 := (O_sb.keep K29 (ninS (Ne.symm n_b3_sb) nin0))
            obtain ⟨cq43, kq43, q43a, q43b, q43c⟩ := isOf hZ rfl E29
            obtain ⟨_, _, ⟨T43, L43, k43, n43⟩, -, X43, ⟨Lc43, hQ43, l43, y43, z43⟩, st43⟩ := X29.virtualBack hx (y := (⟨"com/example/lockstep/lockstep/check/StepGroups", "holds", "(IIII)Z"⟩ : MethodName)) (z := (⟨"com/example/lockstep/lockstep/check/StepGroups", "holds", "(IIII)Z"⟩ : MethodName)) hown (mvT hZ (hw _ (List.mem_of_getElem? (i := 75) rfl))) (mvT hZ (hw _ (List.mem_of_getElem? (i := 76) rfl))) (notFace_of_selects (args := #[]) (mvT hZ (hw _ (List.mem_of_getElem? (i := 78) rfl)))) (mvT hZ (hw _ (List.mem_of_getElem? (i := 78) rfl))) (mvT hZ (hw _ (List.mem_of_getElem? (i := 77) rfl))) (by decide) (backOf (W := 0) (rmH l Z a0 hw [] b3 (0 : Int32) q4 q5 q6 em fr fb go ps ns fs lb sb bl pv nx pt qs ms (Int32.ofNat 1) (0 : Int32) (0 : Int32) (1 : Int64) ffs flb fbl fsb 0 T29.heap n0 Z29 ⟨E29, F29_emptied, F29_free, F29_firstOfBlock, F29_groupOf, F29_previousStep, F29_nextStep, F29_firstStep, F29_label, F29_superBlock, F29_block, F29_previous, F29_next, F29_partner, F29_partnerStamp, F29_markStamp, F29_groupCount, F29_emptiedCount, F29_freeCount, F29_stamp⟩ ho0 gu c44 c45 c46 c47 (Or.inr ⟨rfl, by decide⟩)) hZ (hw _ (List.mem_of_getElem? (i := 79) rfl)) (hw _ (List.mem_of_getElem? (i := 3) rfl)) (by decide) (by decide)) q43a q43c (g := (mkF m 203 #[vi q1, vi q2, vi q3, vi q4, vi q5, vi q6, vi (Int32.ofNat ln), vi (q2 &&& (2147483647 : Int32)), vi (0 : Int32), vi (0 : Int32), vi (0 : Int32), vi (Int32.ofNat tb), vr b3, vl (1 : Int64), .second, vi (0 : Int32), vi (0 : Int32), vi (0 : Int32)] [(.int q6), (.int q5), (.int q4), (.int (0 : Int32)), (.ref b3)])) rfl (by rw [hml]; rfl) (Steps.refl _) (argsL := [(.int (0 : Int32)), (.int q4), (.int q5), (.int q6)]) (rest := []) (lenOf pd0_2 rfl) rfl (by show 2 * 0 + _ ≤ _; exact Nat.le_of_eq rfl) (hb hby at_203) (fun _ _ => ⟨rfl, rfl, (by decide : 20 + 0 ≤ _), (by decide : 253 + 0 ≤ _)⟩)
            dsimp only [Pt.U, Pt.locs, Pt.cells, Pt.slots] at X43 l43 y43 z43 st43 hQ43
            subst l43 y43 z43
            obtain ⟨rfl, Nq43, e43⟩ := hQ43
            have N43 := Fr.app N29 Nq43
            obtain ⟨lo43, X43, N43⟩ : ∃ L, Stand p l e room_1 s m #[(.int q1), (.int q2), (.int q3), (.int q4), (.int q5), (.int q6)] below meth c T43 L 20 253 ∧ Fr n0 L := ⟨_, X43, N43⟩
            refine OGo.st (fun t kk => st43.trans kk) ?_
            show OGo p e below _ (T43.setTop (mkF m 206 #[vi q1, vi q2, vi q3, vi q4, vi q5, vi q6, vi (Int32.ofNat ln), vi (q2 &&& (2147483647 : Int32)), vi (0 : Int32), vi (0 : Int32), vi (0 : Int32), vi (Int32.ofNat tb), vr b3, vl (1 : Int64), .second, vi (0 : Int32), vi (0 : Int32), vi (0 : Int32)] [(.int (HD (0 : Int32) (ffs 0) (flb 0) (fbl 0) (fsb 0) q4 q5 q6))]))
            refine OGo.st (fun t kk => XS.iload X43.here hx rfl (hb hby at_206) rfl kk) ?_
            show OGo p e below _ (T43.setTop (mkF m 208 #[vi q1, vi q2, vi q3, vi q4, vi q5, vi q6, vi (Int32.ofNat ln), vi (q2 &&& (2147483647 : Int32)), vi (0 : Int32), vi (0 : Int32), vi (0 : Int32), vi (Int32.ofNat tb), vr b3, vl (1 : Int64), .second, vi (0 : Int32), vi (0 : Int32), vi (0 : Int32)] [(.int (0 : Int32)), (.int (HD (0 : Int32) (ffs 0) (flb 0) (fbl 0) (fsb 0) q4 q5 q6))]))
            refine OGo.st (fun t kk => XS.icmpNo X43.here hx rfl (hb hby at_208) rfl (teq (by simp +decide [HD, hfs0, hlb, hbl, hsb, hc170_35, hc177_36, hc184_37, (show ¬ (0 : Int32) = q6 from fun e => hc184_37 e.symm)])).2 kk) ?_
            show OGo p e below _ (T43.setTop (mkF m 211 #[vi q1, vi q2, vi q3, vi q4, vi q5, vi q6, vi (Int32.ofNat ln), vi (q2 &&& (2147483647 : Int32)), vi (0 : Int32), vi (0 : Int32), vi (0 : Int32), vi (Int32.ofNat tb), vr b3, vl (1 : Int64), .second, vi (0 : Int32), vi (0 : Int32), vi (0 : Int32)] []))
            refine OGo.st (fun t kk => XS.iconst X43.here hx rfl (hb hby at_211) kk) ?_
            show OGo p e below _ (T43.setTop (mkF m 212 #[vi q1, vi q2, vi q3, vi q4, vi q5, vi q6, vi (Int32.ofNat ln), vi (q2 &&& (2147483647 : Int32)), vi (0 : Int32), vi (0 : Int32), vi (0 : Int32), vi (Int32.ofNat tb), vr b3, vl (1 : Int64), .second, vi (0 : Int32), vi (0 : Int32), vi (0 : Int32)] [(.int (1 : Int32))]))
            refine OGo.st (fun t kk => XS.goto X43.here hx rfl (pc0 := 212) (pc' := 216) rfl (hb hby at_212) (by decide) (by decide) kk) ?_
            show OGo p e below _ (T43.setTop (mkF m 216 #[vi q1, vi q2, vi q3, vi q4, vi q5, vi q6, vi (Int32.ofNat ln), vi (q2 &&& (2147483647 : Int32)), vi (0 : Int32), vi (0 : Int32), vi (0 : Int32), vi (Int32.ofNat tb), vr b3, vl (1 : Int64), .second, vi (0 : Int32), vi (0 : Int32), vi (0 : Int32)] [(.int (1 : Int32))]))
            exact OGo.outN X43 hx (t := .boolean) Bd.returns (by simp) Bd.notSynchronized (hb hby at_216) ⟨rfl, N43⟩ (by decide) (by decide)
        · refine OGo.st (fun t kk => XS.icmpYes X29.here hx rfl (pc0 := 177) (pc' := 191) rfl (hb hby at_177) rfl (feq hc177_36).2 (by decide) (by decide) kk) ?_
          show OGo p e below _ (T29.setTop (mkF m 191 #[vi q1, vi q2, vi q3, vi q4, vi q5, vi q6, vi (Int32.ofNat ln), vi (q2 &&& (2147483647 : Int32)), vi (0 : Int32), vi (0 : Int32), vi (0 : Int32), vi (Int32.ofNat tb), vr b3, vl (1 : Int64), .second, .unset, vi (0 : Int32), vi (0 : Int32)] []))
          refine OGo.st (fun t kk => XS.iconst X29.here hx rfl (hb hby at_191) kk) ?_
          show OGo p e below _ (T29.setTop (mkF m 192 #[vi q1, vi q2, vi q3, vi q4, vi q5, vi q6, vi (Int32.ofNat ln), vi (q2 &&& (2147483647 : Int32)), vi (0 : Int32), vi (0 : Int32), vi (0 : Int32), vi (Int32.ofNat tb), vr b3, vl (1 : Int64), .second, .unset, vi (0 : Int32), vi (0 : Int32)] [(.int (0 : Int32))]))
          refine OGo.st (fun t kk => XS.istore X29.here hx rfl (hb hby at_192) rfl (l' := #[vi q1, vi q2, vi q3, vi q4, vi q5, vi q6, vi (Int32.ofNat ln), vi (q2 &&& (2147483647 : Int32)), vi (0 : Int32), vi (0 : Int32), vi (0 : Int32), vi (Int32.ofNat tb), vr b3, vl (1 : Int64), .second, vi (0 : Int32), vi (0 : Int32), vi (0 : Int32)]) rfl kk) ?_
          show OGo p e below _ (T29.setTop (mkF m 194 #[vi q1, vi q2, vi q3, vi q4, vi q5, vi q6, vi (Int32.ofNat ln), vi (q2 &&& (2147483647 : Int32)), vi (0 : Int32), vi (0 : Int32), vi (0 : Int32), vi (Int32.ofNat tb), vr b3, vl (1 : Int64), .second, vi (0 : Int32), vi (0 : Int32), vi (0 : Int32)] []))
          refine OGo.st (fun t kk => XS.aload X29.here hx rfl (hb hby at_194) rfl rfl kk) ?_
          show OGo p e below _ (T29.setTop (mkF m 196 #[vi q1, vi q2, vi q3, vi q4, vi q5, vi q6, vi (Int32.ofNat ln), vi (q2 &&& (2147483647 : Int32)), vi (0 : Int32), vi (0 : Int32), vi (0 : Int32), vi (Int32.ofNat tb), vr b3, vl (1 : Int64), .second, vi (0 : Int32), vi (0 : Int32), vi (0 : Int32)] [(.ref b3)]))
          refine OGo.st (fun t kk => XS.iload X29.here hx rfl (hb hby at_196) rfl kk) ?_
          show OGo p e below _ (T29.setTop (mkF m 198 #[vi q1, vi q2, vi q3, vi q4, vi q5, vi q6, vi (Int32.ofNat ln), vi (q2 &&& (2147483647 : Int32)), vi (0 : Int32), vi (0 : Int32), vi (0 : Int32), vi (Int32.ofNat tb), vr b3, vl (1 : Int64), .second, vi (0 : Int32), vi (0 : Int32), vi (0 : Int32)] [(.int (0 : Int32)), (.ref b3)]))
          refine OGo.st (fun t kk => XS.iloadN X29.here hx rfl (hb hby at_198) rfl kk) ?_
          show OGo p e below _ (T29.setTop (mkF m 199 #[vi q1, vi q2, vi q3, vi q4, vi q5, vi q6, vi (Int32.ofNat ln), vi (q2 &&& (2147483647 : Int32)), vi (0 : Int32), vi (0 : Int32), vi (0 : Int32), vi (Int32.ofNat tb), vr b3, vl (1 : Int64), .second, vi (0 : Int32), vi (0 : Int32), vi (0 : Int32)] [(.int q4), (.int (0 : Int32)), (.ref b3)]))
          refine OGo.st (fun t kk => XS.iload X29.here hx rfl (hb hby at_199) rfl kk) ?_
          show OGo p e below _ (T29.setTop (mkF m 201 #[vi q1, vi q2, vi q3, vi q4, vi q5, vi q6, vi (Int32.ofNat ln), vi (q2 &&& (2147483647 : Int32)), vi (0 : Int32), vi (0 : Int32), vi (0 : Int32), vi (Int32.ofNat tb), vr b3, vl (1 : Int64), .second, vi (0 : Int32), vi (0 : Int32), vi (0 : Int32)] [(.int q5), (.int q4), (.int (0 : Int32)), (.ref b3)]))
          refine OGo.st (fun t kk => XS.iload X29.here hx rfl (hb hby at_201) rfl kk) ?_
          show OGo p e below _ (T29.setTop (mkF m 203 #[vi q1, vi q2, vi q3, vi q4, vi q5, vi q6, vi (Int32.ofNat ln), vi (q2 &&& (2147483647 : Int32)), vi (0 : Int32), vi (0 : Int32), vi (0 : Int32), vi (Int32.ofNat tb), vr b3, vl (1 : Int64), .second, vi (0 : Int32), vi (0 : Int32), vi (0 : Int32)] [(.int q6), (.int q5), (.int q4), (.int (0 : Int32)), (.ref b3)]))
          have c49 := (O_fs.keep K29 (ninS (Ne.symm n_b3_fs) nin0))
          have c50 := (O_lb.keep K29 (ninS (Ne.symm n_b3_lb) nin0))
          have c51 := (O_bl.keep K29 (ninS (Ne.symm n_b3_bl) nin0))
          have c52 := (O_sb.keep K29 (ninS (Ne.symm n_b3_sb) nin0))
          obtain ⟨cq48, kq48, q48a, q48b, q48c⟩ := isOf hZ rfl E29
          obtain ⟨_, _, ⟨T48, L48, k48, n48⟩, -, X48, ⟨Lc48, hQ48, l48, y48, z48⟩, st48⟩ := X29.virtualBack hx (y := (⟨"com/example/lockstep/lockstep/check/StepGroups", "holds", "(IIII)Z"⟩ : MethodName)) (z := (⟨"com/example/lockstep/lockstep/check/StepGroups", "holds", "(IIII)Z"⟩ : MethodName)) hown (mvT hZ (hw _ (List.mem_of_getElem? (i := 75) rfl))) (mvT hZ (hw _ (List.mem_of_getElem? (i := 76) rfl))) (notFace_of_selects (args := #[]) (mvT hZ (hw _ (List.mem_of_getElem? (i := 78) rfl)))) (mvT hZ (hw _ (List.mem_of_getElem? (i := 78) rfl))) (mvT hZ (hw _ (List.mem_of_getElem? (i := 77) rfl))) (by decide) (backOf (W := 0) (rmH l Z a0 hw [] b3 (0 : Int32) q4 q5 q6 em fr fb go ps ns fs lb sb bl pv nx pt qs ms (Int32.ofNat 1) (0 : Int32) (0 : Int32) (1 : Int64) ffs flb fbl fsb 0 T29.heap n0 Z29 ⟨E29, F29_emptied, F29_free, F29_firstOfBlock, F29_groupOf, F29_previousStep, F29_nextStep, F29_firstStep, F29_label, F29_superBlock, F29_block, F29_previous, F29_next, F29_partner, F29_partnerStamp, F29_markStamp, F29_groupCount, F29_emptiedCount, F29_freeCount, F29_stamp⟩ ho0 gu c49 c50 c51 c52 (Or.inr ⟨rfl, by decide⟩)) hZ (hw _ (List.mem_of_getElem? (i := 79) rfl)) (hw _ (List.mem_of_getElem? (i := 3) rfl)) (by decide) (by decide)) q48a q48c (g := (mkF m 203 #[vi q1, vi q2, vi q3, vi q4, vi q5, vi q6, vi (Int32.ofNat ln), vi (q2 &&& (2147483647 : Int32)), vi (0 : Int32), vi (0 : Int32), vi (0 : Int32), vi (Int32.ofNat tb), vr b3, vl (1 : Int64), .second, vi (0 : Int32), vi (0 : Int32), vi (0 : Int32)] [(.int q6), (.int q5), (.int q4), (.int (0 : Int32)), (.ref b3)])) rfl (by rw [hml]; rfl) (Steps.refl _) (argsL := [(.int (0 : Int32)), (.int q4), (.int q5), (.int q6)]) (rest := []) (lenOf pd0_2 rfl) rfl (by show 2 * 0 + _ ≤ _; exact Nat.le_of_eq rfl) (hb hby at_203) (fun _ _ => ⟨rfl, rfl, (by decide : 20 + 0 ≤ _), (by decide : 253 + 0 ≤ _)⟩)
          dsimp only [Pt.U, Pt.locs, Pt.cells, Pt.slots] at X48 l48 y48 z48 st48 hQ48
          subst l48 y48 z48
          obtain ⟨rfl, Nq48, e48⟩ := hQ48
          have N48 := Fr.app N29 Nq48
          obtain ⟨lo48, X48, N48⟩ : ∃ L, Stand p l e room_1 s m #[(.int q1), (.int q2), (.int q3), (.int q4), (.int q5), (.int q6)] below meth c T48 L 20 253 ∧ Fr n0 L := ⟨_, X48, N48⟩
          refine OGo.st (fun t kk => st48.trans kk) ?_
          show OGo p e below _ (T48.setTop (mkF m 206 #[vi q1, vi q2, vi q3, vi q4, vi q5, vi q6, vi (Int32.ofNat ln), vi (q2 &&& (2147483647 : Int32)), vi (0 : Int32), vi (0 : Int32), vi (0 : Int32), vi (Int32.ofNat tb), vr b3, vl (1 : Int64), .second, vi (0 : Int32), vi (0 : Int32), vi (0 : Int32)] [(.int (HD (0 : Int32) (ffs 0) (flb 0) (fbl 0) (fsb 0) q4 q5 q6))]))
          refine OGo.st (fun t kk => XS.iload X48.here hx rfl (hb hby at_206) rfl kk) ?_
          show OGo p e below _ (T48.setTop (mkF m 208 #[vi q1, vi q2, vi q3, vi q4, vi q5, vi q6, vi (Int32.ofNat ln), vi (q2 &&& (2147483647 : Int32)), vi (0 : Int32), vi (0 : Int32), vi (0 : Int32), vi (Int32.ofNat tb), vr b3, vl (1 : Int64), .second, vi (0 : Int32), vi (0 : Int32), vi (0 : Int32)] [(.int (0 : Int32)), (.int (HD (0 : Int32) (ffs 0) (flb 0) (fbl 0) (fsb 0) q4 q5 q6))]))
          refine OGo.st (fun t kk => XS.icmpNo X48.here hx rfl (hb hby at_208) rfl (teq (by simp +decide [HD, hfs0, hlb, hbl, hsb, hc170_35, hc177_36, (show ¬ (0 : Int32) = q5 from fun e => hc177_36 e.symm)])).2 kk) ?_
          show OGo p e below _ (T48.setTop (mkF m 211 #[vi q1, vi q2, vi q3, vi q4, vi q5, vi q6, vi (Int32.ofNat ln), vi (q2 &&& (2147483647 : Int32)), vi (0 : Int32), vi (0 : Int32), vi (0 : Int32), vi (Int32.ofNat tb), vr b3, vl (1 : Int64), .second, vi (0 : Int32), vi (0 : Int32), vi (0 : Int32)] []))
          refine OGo.st (fun t kk => XS.iconst X48.here hx rfl (hb hby at_211) kk) ?_
          show OGo p e below _ (T48.setTop (mkF m 212 #[vi q1, vi q2, vi q3, vi q4, vi q5, vi q6, vi (Int32.ofNat ln), vi (q2 &&& (2147483647 : Int32)), vi (0 : Int32), vi (0 : Int32), vi (0 : Int32), vi (Int32.ofNat tb), vr b3, vl (1 : Int64), .second, vi (0 : Int32), vi (0 : Int32), vi (0 : Int32)] [(.int (1 : Int32))]))
          refine OGo.st (fun t kk => XS.goto X48.here hx rfl (pc0 := 212) (pc' := 216) rfl (hb hby at_212) (by decide) (by decide) kk) ?_
          show OGo p e below _ (T48.setTop (mkF m 216 #[vi q1, vi q2, vi q3, vi q4, vi q5, vi q6, vi (Int32.ofNat ln), vi (q2 &&& (2147483647 : Int32)), vi (0 : Int32), vi (0 : Int32), vi (0 : Int32), vi (Int32.ofNat tb), vr b3, vl (1 : Int64), .second, vi (0 : Int32), vi (0 : Int32), vi (0 : Int32)] [(.int (1 : Int32))]))
          exact OGo.outN X48 hx (t := .boolean) Bd.returns (by simp) Bd.notSynchronized (hb hby at_216) ⟨rfl, N48⟩ (by decide) (by decide)
      · refine OGo.st (fun t kk => XS.icmpYes X29.here hx rfl (pc0 := 170) (pc' := 191) rfl (hb hby at_170) rfl (feq hc170_35).2 (by decide) (by decide) kk) ?_
        show OGo p e below _ (T29.setTop (mkF m 191 #[vi q1, vi q2, vi q3, vi q4, vi q5, vi q6, vi (Int32.ofNat ln), vi (q2 &&& (2147483647 : Int32)), vi (0 : Int32), vi (0 : Int32), vi (0 : Int32), vi (Int32.ofNat tb), vr b3, vl (1 : Int64), .second, .unset, vi (0 : Int32), vi (0 : Int32)] []))
        refine OGo.st (fun t kk => XS.iconst X29.here hx rfl (hb hby at_191) kk) ?_
        show OGo p e below _ (T29.setTop (mkF m 192 #[vi q1, vi q2, vi q3, vi q4, vi q5, vi q6, vi (Int32.ofNat ln), vi (q2 &&& (2147483647 : Int32)), vi (0 : Int32), vi (0 : Int32), vi (0 : Int32), vi (Int32.ofNat tb), vr b3, vl (1 : Int64), .second, .unset, vi (0 : Int32), vi (0 : Int32)] [(.int (0 : Int32))]))
        refine OGo.st (fun t kk => XS.istore X29.here hx rfl (hb hby at_192) rfl (l' := #[vi q1, vi q2, vi q3, vi q4, vi q5, vi q6, vi (Int32.ofNat ln), vi (q2 &&& (2147483647 : Int32)), vi (0 : Int32), vi (0 : Int32), vi (0 : Int32), vi (Int32.ofNat tb), vr b3, vl (1 : Int64), .second, vi (0 : Int32), vi (0 : Int32), vi (0 : Int32)]) rfl kk) ?_
        show OGo p e below _ (T29.setTop (mkF m 194 #[vi q1, vi q2, vi q3, vi q4, vi q5, vi q6, vi (Int32.ofNat ln), vi (q2 &&& (2147483647 : Int32)), vi (0 : Int32), vi (0 : Int32), vi (0 : Int32), vi (Int32.ofNat tb), vr b3, vl (1 : Int64), .second, vi (0 : Int32), vi (0 : Int32), vi (0 : Int32)] []))
        refine OGo.st (fun t kk => XS.aload X29.here hx rfl (hb hby at_194) rfl rfl kk) ?_
        show OGo p e below _ (T29.setTop (mkF m 196 #[vi q1, vi q2, vi q3, vi q4, vi q5, vi q6, vi (Int32.ofNat ln), vi (q2 &&& (2147483647 : Int32)), vi (0 : Int32), vi (0 : Int32), vi (0 : Int32), vi (Int32.ofNat tb), vr b3, vl (1 : Int64), .second, vi (0 : Int32), vi (0 : Int32), vi (0 : Int32)] [(.ref b3)]))
        refine OGo.st (fun t kk => XS.iload X29.here hx rfl (hb hby at_196) rfl kk) ?_
        show OGo p e below _ (T29.setTop (mkF m 198 #[vi q1, vi q2, vi q3, vi q4, vi q5, vi q6, vi (Int32.ofNat ln), vi (q2 &&& (2147483647 : Int32)), vi (0 : Int32), vi (0 : Int32), vi (0 : Int32), vi (Int32.ofNat tb), vr b3, vl (1 : Int64), .second, vi (0 : Int32), vi (0 : Int32), vi (0 : Int32)] [(.int (0 : Int32)), (.ref b3)]))
        refine OGo.st (fun t kk => XS.iloadN X29.here hx rfl (hb hby at_198) rfl kk) ?_
        show OGo p e below _ (T29.setTop (mkF m 199 #[vi q1, vi q2, vi q3, vi q4, vi q5, vi q6, vi (Int32.ofNat ln), vi (q2 &&& (2147483647 : Int32)), vi (0 : Int32), vi (0 : Int32), vi (0 : Int32), vi (Int32.ofNat tb), vr b3, vl (1 : Int64), .second, vi (0 : Int32), vi (0 : Int32), vi (0 : Int32)] [(.int q4), (.int (0 : Int32)), (.ref b3)]))
        refine OGo.st (fun t kk => XS.iload X29.here hx rfl (hb hby at_199) rfl kk) ?_
        show OGo p e below _ (T29.setTop (mkF m 201 #[vi q1, vi q2, vi q3, vi q4, vi q5, vi q6, vi (Int32.ofNat ln), vi (q2 &&& (2147483647 : Int32)), vi (0 : Int32), vi (0 : Int32), vi (0 : Int32), vi (Int32.ofNat tb), vr b3, vl (1 : Int64), .second, vi (0 : Int32), vi (0 : Int32), vi (0 : Int32)] [(.int q5), (.int q4), (.int (0 : Int32)), (.ref b3)]))
        refine OGo.st (fun t kk => XS.iload X29.here hx rfl (hb hby at_201) rfl kk) ?_
        show OGo p e below _ (T29.setTop (mkF m 203 #[vi q1, vi q2, vi q3, vi q4, vi q5, vi q6, vi (Int32.ofNat ln), vi (q2 &&& (2147483647 : Int32)), vi (0 : Int32), vi (0 : Int32), vi (0 : Int32), vi (Int32.ofNat tb), vr b3, vl (1 : Int64), .second, vi (0 : Int32), vi (0 : Int32), vi (0 : Int32)] [(.int q6), (.int q5), (.int q4), (.int (0 : Int32)), (.ref b3)]))
        have c54 := (O_fs.keep K29 (ninS (Ne.symm n_b3_fs) nin0))
        have c55 := (O_lb.keep K29 (ninS (Ne.symm n_b3_lb) nin0))
        have c56 := (O_bl.keep K29 (ninS (Ne.symm n_b3_bl) nin0))
        have c57 := (O_sb.keep K29 (ninS (Ne.symm n_b3_sb) nin0))
        obtain ⟨cq53, kq53, q53a, q53b, q53c⟩ := isOf hZ rfl E29
        obtain ⟨_, _, ⟨T53, L53, k53, n53⟩, -, X53, ⟨Lc53, hQ53, l53, y53, z53⟩, st53⟩ := X29.virtualBack hx (y := (⟨"com/example/lockstep/lockstep/check/StepGroups", "holds", "(IIII)Z"⟩ : MethodName)) (z := (⟨"com/example/lockstep/lockstep/check/StepGroups", "holds", "(IIII)Z"⟩ : MethodName)) hown (mvT hZ (hw _ (List.mem_of_getElem? (i := 75) rfl))) (mvT hZ (hw _ (List.mem_of_getElem? (i := 76) rfl))) (notFace_of_selects (args := #[]) (mvT hZ (hw _ (List.mem_of_getElem? (i := 78) rfl)))) (mvT hZ (hw _ (List.mem_of_getElem? (i := 78) rfl))) (mvT hZ (hw _ (List.mem_of_getElem? (i := 77) rfl))) (by decide) (backOf (W := 0) (rmH l Z a0 hw [] b3 (0 : Int32) q4 q5 q6 em fr fb go ps ns fs lb sb bl pv nx pt qs ms (Int32.ofNat 1) (0 : Int32) (0 : Int32) (1 : Int64) ffs flb fbl fsb 0 T29.heap n0 Z29 ⟨E29, F29_emptied, F29_free, F29_firstOfBlock, F29_groupOf, F29_previousStep, F29_nextStep, F29_firstStep, F29_label, F29_superBlock, F29_block, F29_previous, F29_next, F29_partner, F29_partnerStamp, F29_markStamp, F29_groupCount, F29_emptiedCount, F29_freeCount, F29_stamp⟩ ho0 gu c54 c55 c56 c57 (Or.inr ⟨rfl, by decide⟩)) hZ (hw _ (List.mem_of_getElem? (i := 79) rfl)) (hw _ (List.mem_of_getElem? (i := 3) rfl)) (by decide) (by decide)) q53a q53c (g := (mkF m 203 #[vi q1, vi q2, vi q3, vi q4, vi q5, vi q6, vi (Int32.ofNat ln), vi (q2 &&& (2147483647 : Int32)), vi (0 : Int32), vi (0 : Int32), vi (0 : Int32), vi (Int32.ofNat tb), vr b3, vl (1 : Int64), .second, vi (0 : Int32), vi (0 : Int32), vi (0 : Int32)] [(.int q6), (.int q5), (.int q4), (.int (0 : Int32)), (.ref b3)])) rfl (by rw [hml]; rfl) (Steps.refl _) (argsL := [(.int (0 : Int32)), (.int q4), (.int q5), (.int q6)]) (rest := []) (lenOf pd0_2 rfl) rfl (by show 2 * 0 + _ ≤ _; exact Nat.le_of_eq rfl) (hb hby at_203) (fun _ _ => ⟨rfl, rfl, (by decide : 20 + 0 ≤ _), (by decide : 253 + 0 ≤ _)⟩)
        dsimp only [Pt.U, Pt.locs, Pt.cells, Pt.slots] at X53 l53 y53 z53 st53 hQ53
        subst l53 y53 z53
        obtain ⟨rfl, Nq53, e53⟩ := hQ53
        have N53 := Fr.app N29 Nq53
        obtain ⟨lo53, X53, N53⟩ : ∃ L, Stand p l e room_1 s m #[(.int q1), (.int q2), (.int q3), (.int q4), (.int q5), (.int q6)] below meth c T53 L 20 253 ∧ Fr n0 L := ⟨_, X53, N53⟩
        refine OGo.st (fun t kk => st53.trans kk) ?_
        show OGo p e below _ (T53.setTop (mkF m 206 #[vi q1, vi q2, vi q3, vi q4, vi q5, vi q6, vi (Int32.ofNat ln), vi (q2 &&& (2147483647 : Int32)), vi (0 : Int32), vi (0 : Int32), vi (0 : Int32), vi (Int32.ofNat tb), vr b3, vl (1 : Int64), .second, vi (0 : Int32), vi (0 : Int32), vi (0 : Int32)] [(.int (HD (0 : Int32) (ffs 0) (flb 0) (fbl 0) (fsb 0) q4 q5 q6))]))
        refine OGo.st (fun t kk => XS.iload X53.here hx rfl (hb hby at_206) rfl kk) ?_
        show OGo p e below _ (T53.setTop (mkF m 208 #[vi q1, vi q2, vi q3, vi q4, vi q5, vi q6, vi (Int32.ofNat ln), vi (q2 &&& (2147483647 : Int32)), vi (0 : Int32), vi (0 : Int32), vi (0 : Int32), vi (Int32.ofNat tb), vr b3, vl (1 : Int64), .second, vi (0 : Int32), vi (0 : Int32), vi (0 : Int32)] [(.int (0 : Int32)), (.int (HD (0 : Int32) (ffs 0) (flb 0) (fbl 0) (fsb 0) q4 q5 q6))]))
        refine OGo.st (fun t kk => XS.icmpNo X53.here hx rfl (hb hby at_208) rfl (teq (by simp +decide [HD, hfs0, hlb, hbl, hsb, hc170_35, (show ¬ (Int32.ofNat ln) = q4 from fun e => hc170_35 e.symm)])).2 kk) ?_
        show OGo p e below _ (T53.setTop (mkF m 211 #[vi q1, vi q2, vi q3, vi q4, vi q5, vi q6, vi (Int32.ofNat ln), vi (q2 &&& (2147483647 : Int32)), vi (0 : Int32), vi (0 : Int32), vi (0 : Int32), vi (Int32.ofNat tb), vr b3, vl (1 : Int64), .second, vi (0 : Int32), vi (0 : Int32), vi (0 : Int32)] []))
        refine OGo.st (fun t kk => XS.iconst X53.here hx rfl (hb hby at_211) kk) ?_
        show OGo p e below _ (T53.setTop (mkF m 212 #[vi q1, vi q2, vi q3, vi q4, vi q5, vi q6, vi (Int32.ofNat ln), vi (q2 &&& (2147483647 : Int32)), vi (0 : Int32), vi (0 : Int32), vi (0 : Int32), vi (Int32.ofNat tb), vr b3, vl (1 : Int64), .second, vi (0 : Int32), vi (0 : Int32), vi (0 : Int32)] [(.int (1 : Int32))]))
        refine OGo.st (fun t kk => XS.goto X53.here hx rfl (pc0 := 212) (pc' := 216) rfl (hb hby at_212) (by decide) (by decide) kk) ?_
        show OGo p e below _ (T53.setTop (mkF m 216 #[vi q1, vi q2, vi q3, vi q4, vi q5, vi q6, vi (Int32.ofNat ln), vi (q2 &&& (2147483647 : Int32)), vi (0 : Int32), vi (0 : Int32), vi (0 : Int32), vi (Int32.ofNat tb), vr b3, vl (1 : Int64), .second, vi (0 : Int32), vi (0 : Int32), vi (0 : Int32)] [(.int (1 : Int32))]))
        exact OGo.outN X53 hx (t := .boolean) Bd.returns (by simp) Bd.notSynchronized (hb hby at_216) ⟨rfl, N53⟩ (by decide) (by decide)
    · rw [show (if (0 : Int32) = (0 : Int32) then (if (1 : Int32) = (1 : Int32) then (0 : Int32) else (1 : Int32)) else (1 : Int32)) = (0 : Int32) from by decide]
      show OGo p e below _ (T29.setTop (mkF m 78 #[vi q1, vi q2, vi q3, vi q4, vi q5, vi q6, vi (Int32.ofNat ln), vi (q2 &&& (2147483647 : Int32)), vi (0 : Int32), vi (1 : Int32), vi (0 : Int32), vi (Int32.ofNat tb), vr b3, vl (1 : Int64), .second, .unset, .unset, .unset] []))
      refine OGo.st (fun t kk => XS.iload X29.here hx rfl (hb hby at_78) rfl kk) ?_
      show OGo p e below _ (T29.setTop (mkF m 80 #[vi q1, vi q2, vi q3, vi q4, vi q5, vi q6, vi (Int32.ofNat ln), vi (q2 &&& (2147483647 : Int32)), vi (0 : Int32), vi (1 : Int32), vi (0 : Int32), vi (Int32.ofNat tb), vr b3, vl (1 : Int64), .second, .unset, .unset, .unset] [(.int (0 : Int32))]))
      refine OGo.st (fun t kk => XS.iconst X29.here hx rfl (hb hby at_80) kk) ?_
      show OGo p e below _ (T29.setTop (mkF m 81 #[vi q1, vi q2, vi q3, vi q4, vi q5, vi q6, vi (Int32.ofNat ln), vi (q2 &&& (2147483647 : Int32)), vi (0 : Int32), vi (1 : Int32), vi (0 : Int32), vi (Int32.ofNat tb), vr b3, vl (1 : Int64), .second, .unset, .unset, .unset] [(.int (1 : Int32)), (.int (0 : Int32))]))
      refine OGo.st (fun t kk => XS.icmpYes X29.here hx rfl (pc0 := 81) (pc' := 97) rfl (hb hby at_81) rfl (feq (by decide : ¬ ((0 : Int32) = (1 : Int32)))).2 (by decide) (by decide) kk) ?_
      show OGo p e below _ (T29.setTop (mkF m 97 #[vi q1, vi q2, vi q3, vi q4, vi q5, vi q6, vi (Int32.ofNat ln), vi (q2 &&& (2147483647 : Int32)), vi (0 : Int32), vi (1 : Int32), vi (0 : Int32), vi (Int32.ofNat tb), vr b3, vl (1 : Int64), .second, .unset, .unset, .unset] []))
      refine OGo.st (fun t kk => XS.iload X29.here hx rfl (hb hby at_97) rfl kk) ?_
      show OGo p e below _ (T29.setTop (mkF m 99 #[vi q1, vi q2, vi q3, vi q4, vi q5, vi q6, vi (Int32.ofNat ln), vi (q2 &&& (2147483647 : Int32)), vi (0 : Int32), vi (1 : Int32), vi (0 : Int32), vi (Int32.ofNat tb), vr b3, vl (1 : Int64), .second, .unset, .unset, .unset] [(.int (0 : Int32))]))
      refine OGo.st (fun t kk => XS.iconst X29.here hx rfl (hb hby at_99) kk) ?_
      show OGo p e below _ (T29.setTop (mkF m 100 #[vi q1, vi q2, vi q3, vi q4, vi q5, vi q6, vi (Int32.ofNat ln), vi (q2 &&& (2147483647 : Int32)), vi (0 : Int32), vi (1 : Int32), vi (0 : Int32), vi (Int32.ofNat tb), vr b3, vl (1 : Int64), .second, .unset, .unset, .unset] [(.int (2 : Int32)), (.int (0 : Int32))]))
      refine OGo.st (fun t kk => XS.icmpYes X29.here hx rfl (pc0 := 100) (pc' := 112) rfl (hb hby at_100) rfl (feq (by decide : ¬ ((0 : Int32) = (2 : Int32)))).2 (by decide) (by decide) kk) ?_
      show OGo p e below _ (T29.setTop (mkF m 112 #[vi q1, vi q2, vi q3, vi q4, vi q5, vi q6, vi (Int32.ofNat ln), vi (q2 &&& (2147483647 : Int32)), vi (0 : Int32), vi (1 : Int32), vi (0 : Int32), vi (Int32.ofNat tb), vr b3, vl (1 : Int64), .second, .unset, .unset, .unset] []))
      refine OGo.st (fun t kk => XS.iload X29.here hx rfl (hb hby at_112) rfl kk) ?_
      show OGo p e below _ (T29.setTop (mkF m 114 #[vi q1, vi q2, vi q3, vi q4, vi q5, vi q6, vi (Int32.ofNat ln), vi (q2 &&& (2147483647 : Int32)), vi (0 : Int32), vi (1 : Int32), vi (0 : Int32), vi (Int32.ofNat tb), vr b3, vl (1 : Int64), .second, .unset, .unset, .unset] [(.int (0 : Int32))]))
      refine OGo.st (fun t kk => XS.iconst X29.here hx rfl (hb hby at_114) kk) ?_
      show OGo p e below _ (T29.setTop (mkF m 115 #[vi q1, vi q2, vi q3, vi q4, vi q5, vi q6, vi (Int32.ofNat ln), vi (q2 &&& (2147483647 : Int32)), vi (0 : Int32), vi (1 : Int32), vi (0 : Int32), vi (Int32.ofNat tb), vr b3, vl (1 : Int64), .second, .unset, .unset, .unset] [(.int (-1 : Int32)), (.int (0 : Int32))]))
      refine OGo.st (fun t kk => XS.icmpYes X29.here hx rfl (pc0 := 115) (pc' := 124) rfl (hb hby at_115) rfl (feq (by decide : ¬ ((0 : Int32) = (-1 : Int32)))).2 (by decide) (by decide) kk) ?_
      show OGo p e below _ (T29.setTop (mkF m 124 #[vi q1, vi q2, vi q3, vi q4, vi q5, vi q6, vi (Int32.ofNat ln), vi (q2 &&& (2147483647 : Int32)), vi (0 : Int32), vi (1 : Int32), vi (0 : Int32), vi (Int32.ofNat tb), vr b3, vl (1 : Int64), .second, .unset, .unset, .unset] []))
      refine OGo.st (fun t kk => XS.iload X29.here hx rfl (hb hby at_124) rfl kk) ?_
      show OGo p e below _ (T29.setTop (mkF m 126 #[vi q1, vi q2, vi q3, vi q4, vi q5, vi q6, vi (Int32.ofNat ln), vi (q2 &&& (2147483647 : Int32)), vi (0 : Int32), vi (1 : Int32), vi (0 : Int32), vi (Int32.ofNat tb), vr b3, vl (1 : Int64), .second, .unset, .unset, .unset] [(.int (0 : Int32))]))
      refine OGo.st (fun t kk => XS.ifYes X29.here hx rfl (pc0 := 126) (pc' := 140) rfl (hb hby at_126) rfl ((if0 _ _).trans (teq (by decide : ((0 : Int32) = (0 : Int32)))).1) (by decide) (by decide) kk) ?_
      show OGo p e below _ (T29.setTop (mkF m 140 #[vi q1, vi q2, vi q3, vi q4, vi q5, vi q6, vi (Int32.ofNat ln), vi (q2 &&& (2147483647 : Int32)), vi (0 : Int32), vi (1 : Int32), vi (0 : Int32), vi (Int32.ofNat tb), vr b3, vl (1 : Int64), .second, .unset, .unset, .unset] []))
      refine OGo.st (fun t kk => XS.iload X29.here hx rfl (hb hby at_140) rfl kk) ?_
      show OGo p e below _ (T29.setTop (mkF m 142 #[vi q1, vi q2, vi q3, vi q4, vi q5, vi q6, vi (Int32.ofNat ln), vi (q2 &&& (2147483647 : Int32)), vi (0 : Int32), vi (1 : Int32), vi (0 : Int32), vi (Int32.ofNat tb), vr b3, vl (1 : Int64), .second, .unset, .unset, .unset] [(.int (0 : Int32))]))
      refine OGo.st (fun t kk => XS.iconst X29.here hx rfl (hb hby at_142) kk) ?_
      show OGo p e below _ (T29.setTop (mkF m 143 #[vi q1, vi q2, vi q3, vi q4, vi q5, vi q6, vi (Int32.ofNat ln), vi (q2 &&& (2147483647 : Int32)), vi (0 : Int32), vi (1 : Int32), vi (0 : Int32), vi (Int32.ofNat tb), vr b3, vl (1 : Int64), .second, .unset, .unset, .unset] [(.int (1 : Int32)), (.int (0 : Int32))]))
      refine OGo.st (fun t kk => XS.icmpYes X29.here hx rfl (pc0 := 143) (pc' := 151) rfl (hb hby at_143) rfl (feq (by decide : ¬ ((0 : Int32) = (1 : Int32)))).2 (by decide) (by decide) kk) ?_
      show OGo p e below _ (T29.setTop (mkF m 151 #[vi q1, vi q2, vi q3, vi q4, vi q5, vi q6, vi (Int32.ofNat ln), vi (q2 &&& (2147483647 : Int32)), vi (0 : Int32), vi (1 : Int32), vi (0 : Int32), vi (Int32.ofNat tb), vr b3, vl (1 : Int64), .second, .unset, .unset, .unset] []))
      refine OGo.st (fun t kk => XS.iconst X29.here hx rfl (hb hby at_151) kk) ?_
      show OGo p e below _ (T29.setTop (mkF m 152 #[vi q1, vi q2, vi q3, vi q4, vi q5, vi q6, vi (Int32.ofNat ln), vi (q2 &&& (2147483647 : Int32)), vi (0 : Int32), vi (1 : Int32), vi (0 : Int32), vi (Int32.ofNat tb), vr b3, vl (1 : Int64), .second, .unset, .unset, .unset] [(.int (0 : Int32))]))
      refine OGo.st (fun t kk => XS.istore X29.here hx rfl (hb hby at_152) rfl (l' := #[vi q1, vi q2, vi q3, vi q4, vi q5, vi q6, vi (Int32.ofNat ln), vi (q2 &&& (2147483647 : Int32)), vi (0 : Int32), vi (1 : Int32), vi (0 : Int32), vi (Int32.ofNat tb), vr b3, vl (1 : Int64), .second, .unset, vi (0 : Int32), .unset]) rfl kk) ?_
      show OGo p e below _ (T29.setTop (mkF m 154 #[vi q1, vi q2, vi q3, vi q4, vi q5, vi q6, vi (Int32.ofNat ln), vi (q2 &&& (2147483647 : Int32)), vi (0 : Int32), vi (1 : Int32), vi (0 : Int32), vi (Int32.ofNat tb), vr b3, vl (1 : Int64), .second, .unset, vi (0 : Int32), .unset] []))
      refine OGo.st (fun t kk => XS.iload X29.here hx rfl (hb hby at_154) rfl kk) ?_
      show OGo p e below _ (T29.setTop (mkF m 156 #[vi q1, vi q2, vi q3, vi q4, vi q5, vi q6, vi (Int32.ofNat ln), vi (q2 &&& (2147483647 : Int32)), vi (0 : Int32), vi (1 : Int32), vi (0 : Int32), vi (Int32.ofNat tb), vr b3, vl (1 : Int64), .second, .unset, vi (0 : Int32), .unset] [(.int (0 : Int32))]))
      refine OGo.st (fun t kk => XS.iconst X29.here hx rfl (hb hby at_156) kk) ?_
      show OGo p e below _ (T29.setTop (mkF m 157 #[vi q1, vi q2, vi q3, vi q4, vi q5, vi q6, vi (Int32.ofNat ln), vi (q2 &&& (2147483647 : Int32)), vi (0 : Int32), vi (1 : Int32), vi (0 : Int32), vi (Int32.ofNat tb), vr b3, vl (1 : Int64), .second, .unset, vi (0 : Int32), .unset] [(.int (2 : Int32)), (.int (0 : Int32))]))
      refine OGo.st (fun t kk => XS.icmpYes X29.here hx rfl (pc0 := 157) (pc' := 164) rfl (hb hby at_157) rfl (feq (by decide : ¬ ((0 : Int32) = (2 : Int32)))).2 (by decide) (by decide) kk) ?_
      show OGo p e below _ (T29.setTop (mkF m 164 #[vi q1, vi q2, vi q3, vi q4, vi q5, vi q6, vi (Int32.ofNat ln), vi (q2 &&& (2147483647 : Int32)), vi (0 : Int32), vi (1 : Int32), vi (0 : Int32), vi (Int32.ofNat tb), vr b3, vl (1 : Int64), .second, .unset, vi (0 : Int32), .unset] []))
      refine OGo.st (fun t kk => XS.iconst X29.here hx rfl (hb hby at_164) kk) ?_
      show OGo p e below _ (T29.setTop (mkF m 165 #[vi q1, vi q2, vi q3, vi q4, vi q5, vi q6, vi (Int32.ofNat ln), vi (q2 &&& (2147483647 : Int32)), vi (0 : Int32), vi (1 : Int32), vi (0 : Int32), vi (Int32.ofNat tb), vr b3, vl (1 : Int64), .second, .unset, vi (0 : Int32), .unset] [(.int (0 : Int32))]))
      refine OGo.st (fun t kk => XS.istore X29.here hx rfl (hb hby at_165) rfl (l' := #[vi q1, vi q2, vi q3, vi q4, vi q5, vi q6, vi (Int32.ofNat ln), vi (q2 &&& (2147483647 : Int32)), vi (0 : Int32), vi (1 : Int32), vi (0 : Int32), vi (Int32.ofNat tb), vr b3, vl (1 : Int64), .second, .unset, vi (0 : Int32), vi (0 : Int32)]) rfl kk) ?_
      show OGo p e below _ (T29.setTop (mkF m 167 #[vi q1, vi q2, vi q3, vi q4, vi q5, vi q6, vi (Int32.ofNat ln), vi (q2 &&& (2147483647 : Int32)), vi (0 : Int32), vi (1 : Int32), vi (0 : Int32), vi (Int32.ofNat tb), vr b3, vl (1 : Int64), .second, .unset, vi (0 : Int32), vi (0 : Int32)] []))
      refine OGo.st (fun t kk => XS.iloadN X29.here hx rfl (hb hby at_167) rfl kk) ?_
      show OGo p e below _ (T29.setTop (mkF m 168 #[vi q1, vi q2, vi q3, vi q4, vi q5, vi q6, vi (Int32.ofNat ln), vi (q2 &&& (2147483647 : Int32)), vi (0 : Int32), vi (1 : Int32), vi (0 : Int32), vi (Int32.ofNat tb), vr b3, vl (1 : Int64), .second, .unset, vi (0 : Int32), vi (0 : Int32)] [(.int q4)]))
      refine OGo.st (fun t kk => XS.iload X29.here hx rfl (hb hby at_168) rfl kk) ?_
      show OGo p e below _ (T29.setTop (mkF m 170 #[vi q1, vi q2, vi q3, vi q4, vi q5, vi q6, vi (Int32.ofNat ln), vi (q2 &&& (2147483647 : Int32)), vi (0 : Int32), vi (1 : Int32), vi (0 : Int32), vi (Int32.ofNat tb), vr b3, vl (1 : Int64), .second, .unset, vi (0 : Int32), vi (0 : Int32)] [(.int (Int32.ofNat ln)), (.int q4)]))
      by_cases hc170_58 : q4 = (Int32.ofNat ln)
      · refine OGo.st (fun t kk => XS.icmpNo X29.here hx rfl (hb hby at_170) rfl (teq hc170_58).2 kk) ?_
        show OGo p e below _ (T29.setTop (mkF m 173 #[vi q1, vi q2, vi q3, vi q4, vi q5, vi q6, vi (Int32.ofNat ln), vi (q2 &&& (2147483647 : Int32)), vi (0 : Int32), vi (1 : Int32), vi (0 : Int32), vi (Int32.ofNat tb), vr b3, vl (1 : Int64), .second, .unset, vi (0 : Int32), vi (0 : Int32)] []))
        refine OGo.st (fun t kk => XS.iload X29.here hx rfl (hb hby at_173) rfl kk) ?_
        show OGo p e below _ (T29.setTop (mkF m 175 #[vi q1, vi q2, vi q3, vi q4, vi q5, vi q6, vi (Int32.ofNat ln), vi (q2 &&& (2147483647 : Int32)), vi (0 : Int32), vi (1 : Int32), vi (0 : Int32), vi (Int32.ofNat tb), vr b3, vl (1 : Int64), .second, .unset, vi (0 : Int32), vi (0 : Int32)] [(.int q5)]))
        refine OGo.st (fun t kk => XS.iload X29.here hx rfl (hb hby at_175) rfl kk) ?_
        show OGo p e below _ (T29.setTop (mkF m 177 #[vi q1, vi q2, vi q3, vi q4, vi q5, vi q6, vi (Int32.ofNat ln), vi (q2 &&& (2147483647 : Int32)), vi (0 : Int32), vi (1 : Int32), vi (0 : Int32), vi (Int32.ofNat tb), vr b3, vl (1 : Int64), .second, .unset, vi (0 : Int32), vi (0 : Int32)] [(.int (0 : Int32)), (.int q5)]))
        by_cases hc177_59 : q5 = (0 : Int32)
        · refine OGo.st (fun t kk => XS.icmpNo X29.here hx rfl (hb hby at_177) rfl (teq hc177_59).2 kk) ?_
          show OGo p e below _ (T29.setTop (mkF m 180 #[vi q1, vi q2, vi q3, vi q4, vi q5, vi q6, vi (Int32.ofNat ln), vi (q2 &&& (2147483647 : Int32)), vi (0 : Int32), vi (1 : Int32), vi (0 : Int32), vi (Int32.ofNat tb), vr b3, vl (1 : Int64), .second, .unset, vi (0 : Int32), vi (0 : Int32)] []))
          refine OGo.st (fun t kk => XS.iload X29.here hx rfl (hb hby at_180) rfl kk) ?_
          show OGo p e below _ (T29.setTop (mkF m 182 #[vi q1, vi q2, vi q3, vi q4, vi q5, vi q6, vi (Int32.ofNat ln), vi (q2 &&& (2147483647 : Int32)), vi (0 : Int32), vi (1 : Int32), vi (0 : Int32), vi (Int32.ofNat tb), vr b3, vl (1 : Int64), .second, .unset, vi (0 : Int32), vi (0 : Int32)] [(.int q6)]))
          refine OGo.st (fun t kk => XS.iload X29.here hx rfl (hb hby at_182) rfl kk) ?_
          show OGo p e below _ (T29.setTop (mkF m 184 #[vi q1, vi q2, vi q3, vi q4, vi q5, vi q6, vi (Int32.ofNat ln), vi (q2 &&& (2147483647 : Int32)), vi (0 : Int32), vi (1 : Int32), vi (0 : Int32), vi (Int32.ofNat tb), vr b3, vl (1 : Int64), .second, .unset, vi (0 : Int32), vi (0 : Int32)] [(.int (0 : Int32)), (.int q6)]))
          by_cases hc184_60 : q6 = (0 : Int32)
          · refine OGo.st (fun t kk => XS.icmpNo X29.here hx rfl (hb hby at_184) rfl (teq hc184_60).2 kk) ?_
            show OGo p e below _ (T29.setTop (mkF m 187 #[vi q1, vi q2, vi q3, vi q4, vi q5, vi q6, vi (Int32.ofNat ln), vi (q2 &&& (2147483647 : Int32)), vi (0 : Int32), vi (1 : Int32), vi (0 : Int32), vi (Int32.ofNat tb), vr b3, vl (1 : Int64), .second, .unset, vi (0 : Int32), vi (0 : Int32)] []))
            refine OGo.st (fun t kk => XS.iconst X29.here hx rfl (hb hby at_187) kk) ?_
            show OGo p e below _ (T29.setTop (mkF m 188 #[vi q1, vi q2, vi q3, vi q4, vi q5, vi q6, vi (Int32.ofNat ln), vi (q2 &&& (2147483647 : Int32)), vi (0 : Int32), vi (1 : Int32), vi (0 : Int32), vi (Int32.ofNat tb), vr b3, vl (1 : Int64), .second, .unset, vi (0 : Int32), vi (0 : Int32)] [(.int (1 : Int32))]))
            refine OGo.st (fun t kk => XS.goto X29.here hx rfl (pc0 := 188) (pc' := 192) rfl (hb hby at_188) (by decide) (by decide) kk) ?_
            show OGo p e below _ (T29.setTop (mkF m 192 #[vi q1, vi q2, vi q3, vi q4, vi q5, vi q6, vi (Int32.ofNat ln), vi (q2 &&& (2147483647 : Int32)), vi (0 : Int32), vi (1 : Int32), vi (0 : Int32), vi (Int32.ofNat tb), vr b3, vl (1 : Int64), .second, .unset, vi (0 : Int32), vi (0 : Int32)] [(.int (1 : Int32))]))
            refine OGo.st (fun t kk => XS.istore X29.here hx rfl (hb hby at_192) rfl (l' := #[vi q1, vi q2, vi q3, vi q4, vi q5, vi q6, vi (Int32.ofNat ln), vi (q2 &&& (2147483647 : Int32)), vi (0 : Int32), vi (1 : Int32), vi (0 : Int32), vi (Int32.ofNat tb), vr b3, vl (1 : Int64), .second, vi (1 : Int32), vi (0 : Int32), vi (0 : Int32)]) rfl kk) ?_
            show OGo p e below _ (T29.setTop (mkF m 194 #[vi q1, vi q2, vi q3, vi q4, vi q5, vi q6, vi (Int32.ofNat ln), vi (q2 &&& (2147483647 : Int32)), vi (0 : Int32), vi (1 : Int32), vi (0 : Int32), vi (Int32.ofNat tb), vr b3, vl (1 : Int64), .second, vi (1 : Int32), vi (0 : Int32), vi (0 : Int32)] []))
            refine OGo.st (fun t kk => XS.aload X29.here hx rfl (hb hby at_194) rfl rfl kk) ?_
            show OGo p e below _ (T29.setTop (mkF m 196 #[vi q1, vi q2, vi q3, vi q4, vi q5, vi q6, vi (Int32.ofNat ln), vi (q2 &&& (2147483647 : Int32)), vi (0 : Int32), vi (1 : Int32), vi (0 : Int32), vi (Int32.ofNat tb), vr b3, vl (1 : Int64), .second, vi (1 : Int32), vi (0 : Int32), vi (0 : Int32)] [(.ref b3)]))
            refine OGo.st (fun t kk => XS.iload X29.here hx rfl (hb hby at_196) rfl kk) ?_
            show OGo p e below _ (T29.setTop (mkF m 198 #[vi q1, vi q2, vi q3, vi q4, vi q5, vi q6, vi (Int32.ofNat ln), vi (q2 &&& (2147483647 : Int32)), vi (0 : Int32), vi (1 : Int32), vi (0 : Int32), vi (Int32.ofNat tb), vr b3, vl (1 : Int64), .second, vi (1 : Int32), vi (0 : Int32), vi (0 : Int32)] [(.int (0 : Int32)), (.ref b3)]))
            refine OGo.st (fun t kk => XS.iloadN X29.here hx rfl (hb hby at_198) rfl kk) ?_
            show OGo p e below _ (T29.setTop (mkF m 199 #[vi q1, vi q2, vi q3, vi q4, vi q5, vi q6, vi (Int32.ofNat ln), vi (q2 &&& (2147483647 : Int32)), vi (0 : Int32), vi (1 : Int32), vi (0 : Int32), vi (Int32.ofNat tb), vr b3, vl (1 : Int64), .second, vi (1 : Int32), vi (0 : Int32), vi (0 : Int32)] [(.int q4), (.int (0 : Int32)), (.ref b3)]))
            refine OGo.st (fun t kk => XS.iload X29.here hx rfl (hb hby at_199) rfl kk) ?_
            show OGo p e below _ (T29.setTop (mkF m 201 #[vi q1, vi q2, vi q3, vi q4, vi q5, vi q6, vi (Int32.ofNat ln), vi (q2 &&& (2147483647 : Int32)), vi (0 : Int32), vi (1 : Int32), vi (0 : Int32), vi (Int32.ofNat tb), vr b3, vl (1 : Int64), .second, vi (1 : Int32), vi (0 : Int32), vi (0 : Int32)] [(.int q5), (.int q4), (.int (0 : Int32)), (.ref b3)]))
            refine OGo.st (fun t kk => XS.iload X29.here hx rfl (hb hby at_201) rfl kk) ?_
            show OGo p e below _ (T29.setTop (mkF m 203 #[vi q1, vi q2, vi q3, vi q4, vi q5, vi q6, vi (Int32.ofNat ln), vi (q2 &&& (2147483647 : Int32)), vi (0 : Int32), vi (1 : Int32), vi (0 : Int32), vi (Int32.ofNat tb), vr b3, vl (1 : Int64), .second, vi (1 : Int32), vi (0 : Int32), vi (0 : Int32)] [(.int q6), (.int q5), (.int q4), (.int (0 : Int32)), (.ref b3)]))
            have c62 := (O_fs.keep K29 (ninS (Ne.symm n_b3_fs) nin0))
            have c63 := (O_lb.keep K29 (ninS (Ne.symm n_b3_lb) nin0))
            have c64 := (O_bl.keep K29 (ninS (Ne.symm n_b3_bl) nin0))
            have c65 := (O_sb.keep K29 (ninS (Ne.symm n_b3_sb) nin0))
            obtain ⟨cq61, kq61, q61a, q61b, q61c⟩ := isOf hZ rfl E29
            obtain ⟨_, _, ⟨T61, L61, k61, n61⟩, -, X61, ⟨Lc61, hQ61, l61, y61, z61⟩, st61⟩ := X29.virtualBack hx (y := (⟨"com/example/lockstep/lockstep/check/StepGroups", "holds", "(IIII)Z"⟩ : MethodName)) (z := (⟨"com/example/lockstep/lockstep/check/StepGroups", "holds", "(IIII)Z"⟩ : MethodName)) hown (mvT hZ (hw _ (List.mem_of_getElem? (i := 75) rfl))) (mvT hZ (hw _ (List.mem_of_getElem? (i := 76) rfl))) (notFace_of_selects (args := #[]) (mvT hZ (hw _ (List.mem_of_getElem? (i := 78) rfl)))) (mvT hZ (hw _ (List.mem_of_getElem? (i := 78) rfl))) (mvT hZ (hw _ (List.mem_of_getElem? (i := 77) rfl))) (by decide) (backOf (W := 0) (rmH l Z a0 hw [] b3 (0 : Int32) q4 q5 q6 em fr fb go ps ns fs lb sb bl pv nx pt qs ms (Int32.ofNat 1) (0 : Int32) (0 : Int32) (1 : Int64) ffs flb fbl fsb 0 T29.heap n0 Z29 ⟨E29, F29_emptied, F29_free, F29_firstOfBlock, F29_groupOf, F29_previousStep, F29_nextStep, F29_firstStep, F29_label, F29_superBlock, F29_block, F29_previous, F29_next, F29_partner, F29_partnerStamp, F29_markStamp, F29_groupCount, F29_emptiedCount, F29_freeCount, F29_stamp⟩ ho0 gu c62 c63 c64 c65 (Or.inr ⟨rfl, by decide⟩)) hZ (hw _ (List.mem_of_getElem? (i := 79) rfl)) (hw _ (List.mem_of_getElem? (i := 3) rfl)) (by decide) (by decide)) q61a q61c (g := (mkF m 203 #[vi q1, vi q2, vi q3, vi q4, vi q5, vi q6, vi (Int32.ofNat ln), vi (q2 &&& (2147483647 : Int32)), vi (0 : Int32), vi (1 : Int32), vi (0 : Int32), vi (Int32.ofNat tb), vr b3, vl (1 : Int64), .second, vi (1 : Int32), vi (0 : Int32), vi (0 : Int32)] [(.int q6), (.int q5), (.int q4), (.int (0 : Int32)), (.ref b3)])) rfl (by rw [hml]; rfl) (Steps.refl _) (argsL := [(.int (0 : Int32)), (.int q4), (.int q5), (.int q6)]) (rest := []) (lenOf pd0_2 rfl) rfl (by show 2 * 0 + _ ≤ _; exact Nat.le_of_eq rfl) (hb hby at_203) (fun _ _ => ⟨rfl, rfl, (by decide : 20 + 0 ≤ _), (by decide : 253 + 0 ≤ _)⟩)
            dsimp only [Pt.U, Pt.locs, Pt.cells, Pt.slots] at X61 l61 y61 z61 st61 hQ61
            subst l61 y61 z61
            obtain ⟨rfl, Nq61, e61⟩ := hQ61
            have N61 := Fr.app N29 Nq61
            obtain ⟨lo61, X61, N61⟩ : ∃ L, Stand p l e room_1 s m #[(.int q1), (.int q2), (.int q3), (.int q4), (.int q5), (.int q6)] below meth c T61 L 20 253 ∧ Fr n0 L := ⟨_, X61, N61⟩
            refine OGo.st (fun t kk => st61.trans kk) ?_
            show OGo p e below _ (T61.setTop (mkF m 206 #[vi q1, vi q2, vi q3, vi q4, vi q5, vi q6, vi (Int32.ofNat ln), vi (q2 &&& (2147483647 : Int32)), vi (0 : Int32), vi (1 : Int32), vi (0 : Int32), vi (Int32.ofNat tb), vr b3, vl (1 : Int64), .second, vi (1 : Int32), vi (0 : Int32), vi (0 : Int32)] [(.int (HD (0 : Int32) (ffs 0) (flb 0) (fbl 0) (fsb 0) q4 q5 q6))]))
            refine OGo.st (fun t kk => XS.iload X61.here hx rfl (hb hby at_206) rfl kk) ?_
            show OGo p e below _ (T61.setTop (mkF m 208 #[vi q1, vi q2, vi q3, vi q4, vi q5, vi q6, vi (Int32.ofNat ln), vi (q2 &&& (2147483647 : Int32)), vi (0 : Int32), vi (1 : Int32), vi (0 : Int32), vi (Int32.ofNat tb), vr b3, vl (1 : Int64), .second, vi (1 : Int32), vi (0 : Int32), vi (0 : Int32)] [(.int (1 : Int32)), (.int (HD (0 : Int32) (ffs 0) (flb 0) (fbl 0) (fsb 0) q4 q5 q6))]))
            refine OGo.st (fun t kk => XS.icmpNo X61.here hx rfl (hb hby at_208) rfl (teq (by simp +decide [HD, hfs0, hlb, hbl, hsb, hc170_58, hc177_59, hc184_60])).2 kk) ?_
            show OGo p e below _ (T61.setTop (mkF m 211 #[vi q1, vi q2, vi q3, vi q4, vi q5, vi q6, vi (Int32.ofNat ln), vi (q2 &&& (2147483647 : Int32)), vi (0 : Int32), vi (1 : Int32), vi (0 : Int32), vi (Int32.ofNat tb), vr b3, vl (1 : Int64), .second, vi (1 : Int32), vi (0 : Int32), vi (0 : Int32)] []))
            refine OGo.st (fun t kk => XS.iconst X61.here hx rfl (hb hby at_211) kk) ?_
            show OGo p e below _ (T61.setTop (mkF m 212 #[vi q1, vi q2, vi q3, vi q4, vi q5, vi q6, vi (Int32.ofNat ln), vi (q2 &&& (2147483647 : Int32)), vi (0 : Int32), vi (1 : Int32), vi (0 : Int32), vi (Int32.ofNat tb), vr b3, vl (1 : Int64), .second, vi (1 : Int32), vi (0 : Int32), vi (0 : Int32)] [(.int (1 : Int32))]))
            refine OGo.st (fun t kk => XS.goto X61.here hx rfl (pc0 := 212) (pc' := 216) rfl (hb hby at_212) (by decide) (by decide) kk) ?_
            show OGo p e below _ (T61.setTop (mkF m 216 #[vi q1, vi q2, vi q3, vi q4, vi q5, vi q6, vi (Int32.ofNat ln), vi (q2 &&& (2147483647 : Int32)), vi (0 : Int32), vi (1 : Int32), vi (0 : Int32), vi (Int32.ofNat tb), vr b3, vl (1 : Int64), .second, vi (1 : Int32), vi (0 : Int32), vi (0 : Int32)] [(.int (1 : Int32))]))
            exact OGo.outN X61 hx (t := .boolean) Bd.returns (by simp) Bd.notSynchronized (hb hby at_216) ⟨rfl, N61⟩ (by decide) (by decide)
          · refine OGo.st (fun t kk => XS.icmpYes X29.here hx rfl (pc0 := 184) (pc' := 191) rfl (hb hby at_184) rfl (feq hc184_60).2 (by decide) (by decide) kk) ?_
            show OGo p e below _ (T29.setTop (mkF m 191 #[vi q1, vi q2, vi q3, vi q4, vi q5, vi q6, vi (Int32.ofNat ln), vi (q2 &&& (2147483647 : Int32)), vi (0 : Int32), vi (1 : Int32), vi (0 : Int32), vi (Int32.ofNat tb), vr b3, vl (1 : Int64), .second, .unset, vi (0 : Int32), vi (0 : Int32)] []))
            refine OGo.st (fun t kk => XS.iconst X29.here hx rfl (hb hby at_191) kk) ?_
            show OGo p e below _ (T29.setTop (mkF m 192 #[vi q1, vi q2, vi q3, vi q4, vi q5, vi q6, vi (Int32.ofNat ln), vi (q2 &&& (2147483647 : Int32)), vi (0 : Int32), vi (1 : Int32), vi (0 : Int32), vi (Int32.ofNat tb), vr b3, vl (1 : Int64), .second, .unset, vi (0 : Int32), vi (0 : Int32)] [(.int (0 : Int32))]))
            refine OGo.st (fun t kk => XS.istore X29.here hx rfl (hb hby at_192) rfl (l' := #[vi q1, vi q2, vi q3, vi q4, vi q5, vi q6, vi (Int32.ofNat ln), vi (q2 &&& (2147483647 : Int32)), vi (0 : Int32), vi (1 : Int32), vi (0 : Int32), vi (Int32.ofNat tb), vr b3, vl (1 : Int64), .second, vi (0 : Int32), vi (0 : Int32), vi (0 : Int32)]) rfl kk) ?_
            show OGo p e below _ (T29.setTop (mkF m 194 #[vi q1, vi q2, vi q3, vi q4, vi q5, vi q6, vi (Int32.ofNat ln), vi (q2 &&& (2147483647 : Int32)), vi (0 : Int32), vi (1 : Int32), vi (0 : Int32), vi (Int32.ofNat tb), vr b3, vl (1 : Int64), .second, vi (0 : Int32), vi (0 : Int32), vi (0 : Int32)] []))
            refine OGo.st (fun t kk => XS.aload X29.here hx rfl (hb hby at_194) rfl rfl kk) ?_
            show OGo p e below _ (T29.setTop (mkF m 196 #[vi q1, vi q2, vi q3, vi q4, vi q5, vi q6, vi (Int32.ofNat ln), vi (q2 &&& (2147483647 : Int32)), vi (0 : Int32), vi (1 : Int32), vi (0 : Int32), vi (Int32.ofNat tb), vr b3, vl (1 : Int64), .second, vi (0 : Int32), vi (0 : Int32), vi (0 : Int32)] [(.ref b3)]))
            refine OGo.st (fun t kk => XS.iload X29.here hx rfl (hb hby at_196) rfl kk) ?_
            show OGo p e below _ (T29.setTop (mkF m 198 #[vi q1, vi q2, vi q3, vi q4, vi q5, vi q6, vi (Int32.ofNat ln), vi (q2 &&& (2147483647 : Int32)), vi (0 : Int32), vi (1 : Int32), vi (0 : Int32), vi (Int32.ofNat tb), vr b3, vl (1 : Int64), .second, vi (0 : Int32), vi (0 : Int32), vi (0 : Int32)] [(.int (0 : Int32)), (.ref b3)]))
            refine OGo.st (fun t kk => XS.iloadN X29.here hx rfl (hb hby at_198) rfl kk) ?_
            show OGo p e below _ (T29.setTop (mkF m 199 #[vi q1, vi q2, vi q3, vi q4, vi q5, vi q6, vi (Int32.ofNat ln), vi (q2 &&& (2147483647 : Int32)), vi (0 : Int32), vi (1 : Int32), vi (0 : Int32), vi (Int32.ofNat tb), vr b3, vl (1 : Int64), .second, vi (0 : Int32), vi (0 : Int32), vi (0 : Int32)] [(.int q4), (.int (0 : Int32)), (.ref b3)]))
            refine OGo.st (fun t kk => XS.iload X29.here hx rfl (hb hby at_199) rfl kk) ?_
            show OGo p e below _ (T29.setTop (mkF m 201 #[vi q1, vi q2, vi q3, vi q4, vi q5, vi q6, vi (Int32.ofNat ln), vi (q2 &&& (2147483647 : Int32)), vi (0 : Int32), vi (1 : Int32), vi (0 : Int32), vi (Int32.ofNat tb), vr b3, vl (1 : Int64), .second, vi (0 : Int32), vi (0 : Int32), vi (0 : Int32)] [(.int q5), (.int q4), (.int (0 : Int32)), (.ref b3)]))
            refine OGo.st (fun t kk => XS.iload X29.here hx rfl (hb hby at_201) rfl kk) ?_
            show OGo p e below _ (T29.setTop (mkF m 203 #[vi q1, vi q2, vi q3, vi q4, vi q5, vi q6, vi (Int32.ofNat ln), vi (q2 &&& (2147483647 : Int32)), vi (0 : Int32), vi (1 : Int32), vi (0 : Int32), vi (Int32.ofNat tb), vr b3, vl (1 : Int64), .second, vi (0 : Int32), vi (0 : Int32), vi (0 : Int32)] [(.int q6), (.int q5), (.int q4), (.int (0 : Int32)), (.ref b3)]))
            have c67 := (O_fs.keep K29 (ninS (Ne.symm n_b3_fs) nin0))
            have c68 := (O_lb.keep K29 (ninS (Ne.symm n_b3_lb) nin0))
            have c69 := (O_bl.keep K29 (ninS (Ne.symm n_b3_bl) nin0))
            have c70 := (O_sb.keep K29 (ninS (Ne.symm n_b3_sb) nin0))
            obtain ⟨cq66, kq66, q66a, q66b, q66c⟩ := isOf hZ rfl E29
            obtain ⟨_, _, ⟨T66, L66, k66, n66⟩, -, X66, ⟨Lc66, hQ66, l66, y66, z66⟩, st66⟩ := X29.virtualBack hx (y := (⟨"com/example/lockstep/lockstep/check/StepGroups", "holds", "(IIII)Z"⟩ : MethodName)) (z := (⟨"com/example/lockstep/lockstep/check/StepGroups", "holds", "(IIII)Z"⟩ : MethodName)) hown (mvT hZ (hw _ (List.mem_of_getElem? (i := 75) rfl))) (mvT hZ (hw _ (List.mem_of_getElem? (i := 76) rfl))) (notFace_of_selects (args := #[]) (mvT hZ (hw _ (List.mem_of_getElem? (i := 78) rfl)))) (mvT hZ (hw _ (List.mem_of_getElem? (i := 78) rfl))) (mvT hZ (hw _ (List.mem_of_getElem? (i := 77) rfl))) (by decide) (backOf (W := 0) (rmH l Z a0 hw [] b3 (0 : Int32) q4 q5 q6 em fr fb go ps ns fs lb sb bl pv nx pt qs ms (Int32.ofNat 1) (0 : Int32) (0 : Int32) (1 : Int64) ffs flb fbl fsb 0 T29.heap n0 Z29 ⟨E29, F29_emptied, F29_free, F29_firstOfBlock, F29_groupOf, F29_previousStep, F29_nextStep, F29_firstStep, F29_label, F29_superBlock, F29_block, F29_previous, F29_next, F29_partner, F29_partnerStamp, F29_markStamp, F29_groupCount, F29_emptiedCount, F29_freeCount, F29_stamp⟩ ho0 gu c67 c68 c69 c70 (Or.inr ⟨rfl, by decide⟩)) hZ (hw _ (List.mem_of_getElem? (i := 79) rfl)) (hw _ (List.mem_of_getElem? (i := 3) rfl)) (by decide) (by decide)) q66a q66c (g := (mkF m 203 #[vi q1, vi q2, vi q3, vi q4, vi q5, vi q6, vi (Int32.ofNat ln), vi (q2 &&& (2147483647 : Int32)), vi (0 : Int32), vi (1 : Int32), vi (0 : Int32), vi (Int32.ofNat tb), vr b3, vl (1 : Int64), .second, vi (0 : Int32), vi (0 : Int32), vi (0 : Int32)] [(.int q6), (.int q5), (.int q4), (.int (0 : Int32)), (.ref b3)])) rfl (by rw [hml]; rfl) (Steps.refl _) (argsL := [(.int (0 : Int32)), (.int q4), (.int q5), (.int q6)]) (rest := []) (lenOf pd0_2 rfl) rfl (by show 2 * 0 + _ ≤ _; exact Nat.le_of_eq rfl) (hb hby at_203) (fun _ _ => ⟨rfl, rfl, (by decide : 20 + 0 ≤ _), (by decide : 253 + 0 ≤ _)⟩)
            dsimp only [Pt.U, Pt.locs, Pt.cells, Pt.slots] at X66 l66 y66 z66 st66 hQ66
            subst l66 y66 z66
            obtain ⟨rfl, Nq66, e66⟩ := hQ66
            have N66 := Fr.app N29 Nq66
            obtain ⟨lo66, X66, N66⟩ : ∃ L, Stand p l e room_1 s m #[(.int q1), (.int q2), (.int q3), (.int q4), (.int q5), (.int q6)] below meth c T66 L 20 253 ∧ Fr n0 L := ⟨_, X66, N66⟩
            refine OGo.st (fun t kk => st66.trans kk) ?_
            show OGo p e below _ (T66.setTop (mkF m 206 #[vi q1, vi q2, vi q3, vi q4, vi q5, vi q6, vi (Int32.ofNat ln), vi (q2 &&& (2147483647 : Int32)), vi (0 : Int32), vi (1 : Int32), vi (0 : Int32), vi (Int32.ofNat tb), vr b3, vl (1 : Int64), .second, vi (0 : Int32), vi (0 : Int32), vi (0 : Int32)] [(.int (HD (0 : Int32) (ffs 0) (flb 0) (fbl 0) (fsb 0) q4 q5 q6))]))
            refine OGo.st (fun t kk => XS.iload X66.here hx rfl (hb hby at_206) rfl kk) ?_
            show OGo p e below _ (T66.setTop (mkF m 208 #[vi q1, vi q2, vi q3, vi q4, vi q5, vi q6, vi (Int32.ofNat ln), vi (q2 &&& (2147483647 : Int32)), vi (0 : Int32), vi (1 : Int32), vi (0 : Int32), vi (Int32.ofNat tb), vr b3, vl (1 : Int64), .second, vi (0 : Int32), vi (0 : Int32), vi (0 : Int32)] [(.int (0 : Int32)), (.int (HD (0 : Int32) (ffs 0) (flb 0) (fbl 0) (fsb 0) q4 q5 q6))]))
            refine OGo.st (fun t kk => XS.icmpNo X66.here hx rfl (hb hby at_208) rfl (teq (by simp +decide [HD, hfs0, hlb, hbl, hsb, hc170_58, hc177_59, hc184_60, (show ¬ (0 : Int32) = q6 from fun e => hc184_60 e.symm)])).2 kk) ?_
            show OGo p e below _ (T66.setTop (mkF m 211 #[vi q1, vi q2, vi q3, vi q4, vi q5, vi q6, vi (Int32.ofNat ln), vi (q2 &&& (2147483647 : Int32)), vi (0 : Int32), vi (1 : Int32), vi (0 : Int32), vi (Int32.ofNat tb), vr b3, vl (1 : Int64), .second, vi (0 : Int32), vi (0 : Int32), vi (0 : Int32)] []))
            refine OGo.st (fun t kk => XS.iconst X66.here hx rfl (hb hby at_211) kk) ?_
            show OGo p e below _ (T66.setTop (mkF m 212 #[vi q1, vi q2, vi q3, vi q4, vi q5, vi q6, vi (Int32.ofNat ln), vi (q2 &&& (2147483647 : Int32)), vi (0 : Int32), vi (1 : Int32), vi (0 : Int32), vi (Int32.ofNat tb), vr b3, vl (1 : Int64), .second, vi (0 : Int32), vi (0 : Int32), vi (0 : Int32)] [(.int (1 : Int32))]))
            refine OGo.st (fun t kk => XS.goto X66.here hx rfl (pc0 := 212) (pc' := 216) rfl (hb hby at_212) (by decide) (by decide) kk) ?_
            show OGo p e below _ (T66.setTop (mkF m 216 #[vi q1, vi q2, vi q3, vi q4, vi q5, vi q6, vi (Int32.ofNat ln), vi (q2 &&& (2147483647 : Int32)), vi (0 : Int32), vi (1 : Int32), vi (0 : Int32), vi (Int32.ofNat tb), vr b3, vl (1 : Int64), .second, vi (0 : Int32), vi (0 : Int32), vi (0 : Int32)] [(.int (1 : Int32))]))
            exact OGo.outN X66 hx (t := .boolean) Bd.returns (by simp) Bd.notSynchronized (hb hby at_216) ⟨rfl, N66⟩ (by decide) (by decide)
        · refine OGo.st (fun t kk => XS.icmpYes X29.here hx rfl (pc0 := 177) (pc' := 191) rfl (hb hby at_177) rfl (feq hc177_59).2 (by decide) (by decide) kk) ?_
          show OGo p e below _ (T29.setTop (mkF m 191 #[vi q1, vi q2, vi q3, vi q4, vi q5, vi q6, vi (Int32.ofNat ln), vi (q2 &&& (2147483647 : Int32)), vi (0 : Int32), vi (1 : Int32), vi (0 : Int32), vi (Int32.ofNat tb), vr b3, vl (1 : Int64), .second, .unset, vi (0 : Int32), vi (0 : Int32)] []))
          refine OGo.st (fun t kk => XS.iconst X29.here hx rfl (hb hby at_191) kk) ?_
          show OGo p e below _ (T29.setTop (mkF m 192 #[vi q1, vi q2, vi q3, vi q4, vi q5, vi q6, vi (Int32.ofNat ln), vi (q2 &&& (2147483647 : Int32)), vi (0 : Int32), vi (1 : Int32), vi (0 : Int32), vi (Int32.ofNat tb), vr b3, vl (1 : Int64), .second, .unset, vi (0 : Int32), vi (0 : Int32)] [(.int (0 : Int32))]))
          refine OGo.st (fun t kk => XS.istore X29.here hx rfl (hb hby at_192) rfl (l' := #[vi q1, vi q2, vi q3, vi q4, vi q5, vi q6, vi (Int32.ofNat ln), vi (q2 &&& (2147483647 : Int32)), vi (0 : Int32), vi (1 : Int32), vi (0 : Int32), vi (Int32.ofNat tb), vr b3, vl (1 : Int64), .second, vi (0 : Int32), vi (0 : Int32), vi (0 : Int32)]) rfl kk) ?_
          show OGo p e below _ (T29.setTop (mkF m 194 #[vi q1, vi q2, vi q3, vi q4, vi q5, vi q6, vi (Int32.ofNat ln), vi (q2 &&& (2147483647 : Int32)), vi (0 : Int32), vi (1 : Int32), vi (0 : Int32), vi (Int32.ofNat tb), vr b3, vl (1 : Int64), .second, vi (0 : Int32), vi (0 : Int32), vi (0 : Int32)] []))
          refine OGo.st (fun t kk => XS.aload X29.here hx rfl (hb hby at_194) rfl rfl kk) ?_
          show OGo p e below _ (T29.setTop (mkF m 196 #[vi q1, vi q2, vi q3, vi q4, vi q5, vi q6, vi (Int32.ofNat ln), vi (q2 &&& (2147483647 : Int32)), vi (0 : Int32), vi (1 : Int32), vi (0 : Int32), vi (Int32.ofNat tb), vr b3, vl (1 : Int64), .second, vi (0 : Int32), vi (0 : Int32), vi (0 : Int32)] [(.ref b3)]))
          refine OGo.st (fun t kk => XS.iload X29.here hx rfl (hb hby at_196) rfl kk) ?_
          show OGo p e below _ (T29.setTop (mkF m 198 #[vi q1, vi q2, vi q3, vi q4, vi q5, vi q6, vi (Int32.ofNat ln), vi (q2 &&& (2147483647 : Int32)), vi (0 : Int32), vi (1 : Int32), vi (0 : Int32), vi (Int32.ofNat tb), vr b3, vl (1 : Int64), .second, vi (0 : Int32), vi (0 : Int32), vi (0 : Int32)] [(.int (0 : Int32)), (.ref b3)]))
          refine OGo.st (fun t kk => XS.iloadN X29.here hx rfl (hb hby at_198) rfl kk) ?_
          show OGo p e below _ (T29.setTop (mkF m 199 #[vi q1, vi q2, vi q3, vi q4, vi q5, vi q6, vi (Int32.ofNat ln), vi (q2 &&& (2147483647 : Int32)), vi (0 : Int32), vi (1 : Int32), vi (0 : Int32), vi (Int32.ofNat tb), vr b3, vl (1 : Int64), .second, vi (0 : Int32), vi (0 : Int32), vi (0 : Int32)] [(.int q4), (.int (0 : Int32)), (.ref b3)]))
          refine OGo.st (fun t kk => XS.iload X29.here hx rfl (hb hby at_199) rfl kk) ?_
          show OGo p e below _ (T29.setTop (mkF m 201 #[vi q1, vi q2, vi q3, vi q4, vi q5, vi q6, vi (Int32.ofNat ln), vi (q2 &&& (2147483647 : Int32)), vi (0 : Int32), vi (1 : Int32), vi (0 : Int32), vi (Int32.ofNat tb), vr b3, vl (1 : Int64), .second, vi (0 : Int32), vi (0 : Int32), vi (0 : Int32)] [(.int q5), (.int q4), (.int (0 : Int32)), (.ref b3)]))
          refine OGo.st (fun t kk => XS.iload X29.here hx rfl (hb hby at_201) rfl kk) ?_
          show OGo p e below _ (T29.setTop (mkF m 203 #[vi q1, vi q2, vi q3, vi q4, vi q5, vi q6, vi (Int32.ofNat ln), vi (q2 &&& (2147483647 : Int32)), vi (0 : Int32), vi (1 : Int32), vi (0 : Int32), vi (Int32.ofNat tb), vr b3, vl (1 : Int64), .second, vi (0 : Int32), vi (0 : Int32), vi (0 : Int32)] [(.int q6), (.int q5), (.int q4), (.int (0 : Int32)), (.ref b3)]))
          have c72 := (O_fs.keep K29 (ninS (Ne.symm n_b3_fs) nin0))
          have c73 := (O_lb.keep K29 (ninS (Ne.symm n_b3_lb) nin0))
          have c74 := (O_bl.keep K29 (ninS (Ne.symm n_b3_bl) nin0))
          have c75 := (O_sb.keep K29 (ninS (Ne.symm n_b3_sb) nin0))
          obtain ⟨cq71, kq71, q71a, q71b, q71c⟩ := isOf hZ rfl E29
          obtain ⟨_, _, ⟨T71, L71, k71, n71⟩, -, X71, ⟨Lc71, hQ71, l71, y71, z71⟩, st71⟩ := X29.virtualBack hx (y := (⟨"com/example/lockstep/lockstep/check/StepGroups", "holds", "(IIII)Z"⟩ : MethodName)) (z := (⟨"com/example/lockstep/lockstep/check/StepGroups", "holds", "(IIII)Z"⟩ : MethodName)) hown (mvT hZ (hw _ (List.mem_of_getElem? (i := 75) rfl))) (mvT hZ (hw _ (List.mem_of_getElem? (i := 76) rfl))) (notFace_of_selects (args := #[]) (mvT hZ (hw _ (List.mem_of_getElem? (i := 78) rfl)))) (mvT hZ (hw _ (List.mem_of_getElem? (i := 78) rfl))) (mvT hZ (hw _ (List.mem_of_getElem? (i := 77) rfl))) (by decide) (backOf (W := 0) (rmH l Z a0 hw [] b3 (0 : Int32) q4 q5 q6 em fr fb go ps ns fs lb sb bl pv nx pt qs ms (Int32.ofNat 1) (0 : Int32) (0 : Int32) (1 : Int64) ffs flb fbl fsb 0 T29.heap n0 Z29 ⟨E29, F29_emptied, F29_free, F29_firstOfBlock, F29_groupOf, F29_previousStep, F29_nextStep, F29_firstStep, F29_label, F29_superBlock, F29_block, F29_previous, F29_next, F29_partner, F29_partnerStamp, F29_markStamp, F29_groupCount, F29_emptiedCount, F29_freeCount, F29_stamp⟩ ho0 gu c72 c73 c74 c75 (Or.inr ⟨rfl, by decide⟩)) hZ (hw _ (List.mem_of_getElem? (i := 79) rfl)) (hw _ (List.mem_of_getElem? (i := 3) rfl)) (by decide) (by decide)) q71a q71c (g := (mkF m 203 #[vi q1, vi q2, vi q3, vi q4, vi q5, vi q6, vi (Int32.ofNat ln), vi (q2 &&& (2147483647 : Int32)), vi (0 : Int32), vi (1 : Int32), vi (0 : Int32), vi (Int32.ofNat tb), vr b3, vl (1 : Int64), .second, vi (0 : Int32), vi (0 : Int32), vi (0 : Int32)] [(.int q6), (.int q5), (.int q4), (.int (0 : Int32)), (.ref b3)])) rfl (by rw [hml]; rfl) (Steps.refl _) (argsL := [(.int (0 : Int32)), (.int q4), (.int q5), (.int q6)]) (rest := []) (lenOf pd0_2 rfl) rfl (by show 2 * 0 + _ ≤ _; exact Nat.le_of_eq rfl) (hb hby at_203) (fun _ _ => ⟨rfl, rfl, (by decide : 20 + 0 ≤ _), (by decide : 253 + 0 ≤ _)⟩)
          dsimp only [Pt.U, Pt.locs, Pt.cells, Pt.slots] at X71 l71 y71 z71 st71 hQ71
          subst l71 y71 z71
          obtain ⟨rfl, Nq71, e71⟩ := hQ71
          have N71 := Fr.app N29 Nq71
          obtain ⟨lo71, X71, N71⟩ : ∃ L, Stand p l e room_1 s m #[(.int q1), (.int q2), (.int q3), (.int q4), (.int q5), (.int q6)] below meth c T71 L 20 253 ∧ Fr n0 L := ⟨_, X71, N71⟩
          refine OGo.st (fun t kk => st71.trans kk) ?_
          show OGo p e below _ (T71.setTop (mkF m 206 #[vi q1, vi q2, vi q3, vi q4, vi q5, vi q6, vi (Int32.ofNat ln), vi (q2 &&& (2147483647 : Int32)), vi (0 : Int32), vi (1 : Int32), vi (0 : Int32), vi (Int32.ofNat tb), vr b3, vl (1 : Int64), .second, vi (0 : Int32), vi (0 : Int32), vi (0 : Int32)] [(.int (HD (0 : Int32) (ffs 0) (flb 0) (fbl 0) (fsb 0) q4 q5 q6))]))
          refine OGo.st (fun t kk => XS.iload X71.here hx rfl (hb hby at_206) rfl kk) ?_
          show OGo p e below _ (T71.setTop (mkF m 208 #[vi q1, vi q2, vi q3, vi q4, vi q5, vi q6, vi (Int32.ofNat ln), vi (q2 &&& (2147483647 : Int32)), vi (0 : Int32), vi (1 : Int32), vi (0 : Int32), vi (Int32.ofNat tb), vr b3, vl (1 : Int64), .second, vi (0 : Int32), vi (0 : Int32), vi (0 : Int32)] [(.int (0 : Int32)), (.int (HD (0 : Int32) (ffs 0) (flb 0) (fbl 0) (fsb 0) q4 q5 q6))]))
          refine OGo.st (fun t kk => XS.icmpNo X71.here hx rfl (hb hby at_208) rfl (teq (by simp +decide [HD, hfs0, hlb, hbl, hsb, hc170_58, hc177_59, (show ¬ (0 : Int32) = q5 from fun e => hc177_59 e.symm)])).2 kk) ?_
          show OGo p e below _ (T71.setTop (mkF m 211 #[vi q1, vi q2, vi q3, vi q4, vi q5, vi q6, vi (Int32.ofNat ln), vi (q2 &&& (2147483647 : Int32)), vi (0 : Int32), vi (1 : Int32), vi (0 : Int32), vi (Int32.ofNat tb), vr b3, vl (1 : Int64), .second, vi (0 : Int32), vi (0 : Int32), vi (0 : Int32)] []))
          refine OGo.st (fun t kk => XS.iconst X71.here hx rfl (hb hby at_211) kk) ?_
          show OGo p e below _ (T71.setTop (mkF m 212 #[vi q1, vi q2, vi q3, vi q4, vi q5, vi q6, vi (Int32.ofNat ln), vi (q2 &&& (2147483647 : Int32)), vi (0 : Int32), vi (1 : Int32), vi (0 : Int32), vi (Int32.ofNat tb), vr b3, vl (1 : Int64), .second, vi (0 : Int32), vi (0 : Int32), vi (0 : Int32)] [(.int (1 : Int32))]))
          refine OGo.st (fun t kk => XS.goto X71.here hx rfl (pc0 := 212) (pc' := 216) rfl (hb hby at_212) (by decide) (by decide) kk) ?_
          show OGo p e below _ (T71.setTop (mkF m 216 #[vi q1, vi q2, vi q3, vi q4, vi q5, vi q6, vi (Int32.ofNat ln), vi (q2 &&& (2147483647 : Int32)), vi (0 : Int32), vi (1 : Int32), vi (0 : Int32), vi (Int32.ofNat tb), vr b3, vl (1 : Int64), .second, vi (0 : Int32), vi (0 : Int32), vi (0 : Int32)] [(.int (1 : Int32))]))
          exact OGo.outN X71 hx (t := .boolean) Bd.returns (by simp) Bd.notSynchronized (hb hby at_216) ⟨rfl, N71⟩ (by decide) (by decide)
      · refine OGo.st (fun t kk => XS.icmpYes X29.here hx rfl (pc0 := 170) (pc' := 191) rfl (hb hby at_170) rfl (feq hc170_58).2 (by decide) (by decide) kk) ?_
        show OGo p e below _ (T29.setTop (mkF m 191 #[vi q1, vi q2, vi q3, vi q4, vi q5, vi q6, vi (Int32.ofNat ln), vi (q2 &&& (2147483647 : Int32)), vi (0 : Int32), vi (1 : Int32), vi (0 : Int32), vi (Int32.ofNat tb), vr b3, vl (1 : Int64), .second, .unset, vi (0 : Int32), vi (0 : Int32)] []))
        refine OGo.st (fun t kk => XS.iconst X29.here hx rfl (hb hby at_191) kk) ?_
        show OGo p e below _ (T29.setTop (mkF m 192 #[vi q1, vi q2, vi q3, vi q4, vi q5, vi q6, vi (Int32.ofNat ln), vi (q2 &&& (2147483647 : Int32)), vi (0 : Int32), vi (1 : Int32), vi (0 : Int32), vi (Int32.ofNat tb), vr b3, vl (1 : Int64), .second, .unset, vi (0 : Int32), vi (0 : Int32)] [(.int (0 : Int32))]))
        refine OGo.st (fun t kk => XS.istore X29.here hx rfl (hb hby at_192) rfl (l' := #[vi q1, vi q2, vi q3, vi q4, vi q5, vi q6, vi (Int32.ofNat ln), vi (q2 &&& (2147483647 : Int32)), vi (0 : Int32), vi (1 : Int32), vi (0 : Int32), vi (Int32.ofNat tb), vr b3, vl (1 : Int64), .second, vi (0 : Int32), vi (0 : Int32), vi (0 : Int32)]) rfl kk) ?_
        show OGo p e below _ (T29.setTop (mkF m 194 #[vi q1, vi q2, vi q3, vi q4, vi q5, vi q6, vi (Int32.ofNat ln), vi (q2 &&& (2147483647 : Int32)), vi (0 : Int32), vi (1 : Int32), vi (0 : Int32), vi (Int32.ofNat tb), vr b3, vl (1 : Int64), .second, vi (0 : Int32), vi (0 : Int32), vi (0 : Int32)] []))
        refine OGo.st (fun t kk => XS.aload X29.here hx rfl (hb hby at_194) rfl rfl kk) ?_
        show OGo p e below _ (T29.setTop (mkF m 196 #[vi q1, vi q2, vi q3, vi q4, vi q5, vi q6, vi (Int32.ofNat ln), vi (q2 &&& (2147483647 : Int32)), vi (0 : Int32), vi (1 : Int32), vi (0 : Int32), vi (Int32.ofNat tb), vr b3, vl (1 : Int64), .second, vi (0 : Int32), vi (0 : Int32), vi (0 : Int32)] [(.ref b3)]))
        refine OGo.st (fun t kk => XS.iload X29.here hx rfl (hb hby at_196) rfl kk) ?_
        show OGo p e below _ (T29.setTop (mkF m 198 #[vi q1, vi q2, vi q3, vi q4, vi q5, vi q6, vi (Int32.ofNat ln), vi (q2 &&& (2147483647 : Int32)), vi (0 : Int32), vi (1 : Int32), vi (0 : Int32), vi (Int32.ofNat tb), vr b3, vl (1 : Int64), .second, vi (0 : Int32), vi (0 : Int32), vi (0 : Int32)] [(.int (0 : Int32)), (.ref b3)]))
        refine OGo.st (fun t kk => XS.iloadN X29.here hx rfl (hb hby at_198) rfl kk) ?_
        show OGo p e below _ (T29.setTop (mkF m 199 #[vi q1, vi q2, vi q3, vi q4, vi q5, vi q6, vi (Int32.ofNat ln), vi (q2 &&& (2147483647 : Int32)), vi (0 : Int32), vi (1 : Int32), vi (0 : Int32), vi (Int32.ofNat tb), vr b3, vl (1 : Int64), .second, vi (0 : Int32), vi (0 : Int32), vi (0 : Int32)] [(.int q4), (.int (0 : Int32)), (.ref b3)]))
        refine OGo.st (fun t kk => XS.iload X29.here hx rfl (hb hby at_199) rfl kk) ?_
        show OGo p e below _ (T29.setTop (mkF m 201 #[vi q1, vi q2, vi q3, vi q4, vi q5, vi q6, vi (Int32.ofNat ln), vi (q2 &&& (2147483647 : Int32)), vi (0 : Int32), vi (1 : Int32), vi (0 : Int32), vi (Int32.ofNat tb), vr b3, vl (1 : Int64), .second, vi (0 : Int32), vi (0 : Int32), vi (0 : Int32)] [(.int q5), (.int q4), (.int (0 : Int32)), (.ref b3)]))
        refine OGo.st (fun t kk => XS.iload X29.here hx rfl (hb hby at_201) rfl kk) ?_
        show OGo p e below _ (T29.setTop (mkF m 203 #[vi q1, vi q2, vi q3, vi q4, vi q5, vi q6, vi (Int32.ofNat ln), vi (q2 &&& (2147483647 : Int32)), vi (0 : Int32), vi (1 : Int32), vi (0 : Int32), vi (Int32.ofNat tb), vr b3, vl (1 : Int64), .second, vi (0 : Int32), vi (0 : Int32), vi (0 : Int32)] [(.int q6), (.int q5), (.int q4), (.int (0 : Int32)), (.ref b3)]))
        have c77 := (O_fs.keep K29 (ninS (Ne.symm n_b3_fs) nin0))
        have c78 := (O_lb.keep K29 (ninS (Ne.symm n_b3_lb) nin0))
        have c79 := (O_bl.keep K29 (ninS (Ne.symm n_b3_bl) nin0))
        have c80 := (O_sb.keep K29 (ninS (Ne.symm n_b3_sb) nin0))
        obtain ⟨cq76, kq76, q76a, q76b, q76c⟩ := isOf hZ rfl E29
        obtain ⟨_, _, ⟨T76, L76, k76, n76⟩, -, X76, ⟨Lc76, hQ76, l76, y76, z76⟩, st76⟩ := X29.virtualBack hx (y := (⟨"com/example/lockstep/lockstep/check/StepGroups", "holds", "(IIII)Z"⟩ : MethodName)) (z := (⟨"com/example/lockstep/lockstep/check/StepGroups", "holds", "(IIII)Z"⟩ : MethodName)) hown (mvT hZ (hw _ (List.mem_of_getElem? (i := 75) rfl))) (mvT hZ (hw _ (List.mem_of_getElem? (i := 76) rfl))) (notFace_of_selects (args := #[]) (mvT hZ (hw _ (List.mem_of_getElem? (i := 78) rfl)))) (mvT hZ (hw _ (List.mem_of_getElem? (i := 78) rfl))) (mvT hZ (hw _ (List.mem_of_getElem? (i := 77) rfl))) (by decide) (backOf (W := 0) (rmH l Z a0 hw [] b3 (0 : Int32) q4 q5 q6 em fr fb go ps ns fs lb sb bl pv nx pt qs ms (Int32.ofNat 1) (0 : Int32) (0 : Int32) (1 : Int64) ffs flb fbl fsb 0 T29.heap n0 Z29 ⟨E29, F29_emptied, F29_free, F29_firstOfBlock, F29_groupOf, F29_previousStep, F29_nextStep, F29_firstStep, F29_label, F29_superBlock, F29_block, F29_previous, F29_next, F29_partner, F29_partnerStamp, F29_markStamp, F29_groupCount, F29_emptiedCount, F29_freeCount, F29_stamp⟩ ho0 gu c77 c78 c79 c80 (Or.inr ⟨rfl, by decide⟩)) hZ (hw _ (List.mem_of_getElem? (i := 79) rfl)) (hw _ (List.mem_of_getElem? (i := 3) rfl)) (by decide) (by decide)) q76a q76c (g := (mkF m 203 #[vi q1, vi q2, vi q3, vi q4, vi q5, vi q6, vi (Int32.ofNat ln), vi (q2 &&& (2147483647 : Int32)), vi (0 : Int32), vi (1 : Int32), vi (0 : Int32), vi (Int32.ofNat tb), vr b3, vl (1 : Int64), .second, vi (0 : Int32), vi (0 : Int32), vi (0 : Int32)] [(.int q6), (.int q5), (.int q4), (.int (0 : Int32)), (.ref b3)])) rfl (by rw [hml]; rfl) (Steps.refl _) (argsL := [(.int (0 : Int32)), (.int q4), (.int q5), (.int q6)]) (rest := []) (lenOf pd0_2 rfl) rfl (by show 2 * 0 + _ ≤ _; exact Nat.le_of_eq rfl) (hb hby at_203) (fun _ _ => ⟨rfl, rfl, (by decide : 20 + 0 ≤ _), (by decide : 253 + 0 ≤ _)⟩)
        dsimp only [Pt.U, Pt.locs, Pt.cells, Pt.slots] at X76 l76 y76 z76 st76 hQ76
        subst l76 y76 z76
        obtain ⟨rfl, Nq76, e76⟩ := hQ76
        have N76 := Fr.app N29 Nq76
        obtain ⟨lo76, X76, N76⟩ : ∃ L, Stand p l e room_1 s m #[(.int q1), (.int q2), (.int q3), (.int q4), (.int q5), (.int q6)] below meth c T76 L 20 253 ∧ Fr n0 L := ⟨_, X76, N76⟩
        refine OGo.st (fun t kk => st76.trans kk) ?_
        show OGo p e below _ (T76.setTop (mkF m 206 #[vi q1, vi q2, vi q3, vi q4, vi q5, vi q6, vi (Int32.ofNat ln), vi (q2 &&& (2147483647 : Int32)), vi (0 : Int32), vi (1 : Int32), vi (0 : Int32), vi (Int32.ofNat tb), vr b3, vl (1 : Int64), .second, vi (0 : Int32), vi (0 : Int32), vi (0 : Int32)] [(.int (HD (0 : Int32) (ffs 0) (flb 0) (fbl 0) (fsb 0) q4 q5 q6))]))
        refine OGo.st (fun t kk => XS.iload X76.here hx rfl (hb hby at_206) rfl kk) ?_
        show OGo p e below _ (T76.setTop (mkF m 208 #[vi q1, vi q2, vi q3, vi q4, vi q5, vi q6, vi (Int32.ofNat ln), vi (q2 &&& (2147483647 : Int32)), vi (0 : Int32), vi (1 : Int32), vi (0 : Int32), vi (Int32.ofNat tb), vr b3, vl (1 : Int64), .second, vi (0 : Int32), vi (0 : Int32), vi (0 : Int32)] [(.int (0 : Int32)), (.int (HD (0 : Int32) (ffs 0) (flb 0) (fbl 0) (fsb 0) q4 q5 q6))]))
        refine OGo.st (fun t kk => XS.icmpNo X76.here hx rfl (hb hby at_208) rfl (teq (by simp +decide [HD, hfs0, hlb, hbl, hsb, hc170_58, (show ¬ (Int32.ofNat ln) = q4 from fun e => hc170_58 e.symm)])).2 kk) ?_
        show OGo p e below _ (T76.setTop (mkF m 211 #[vi q1, vi q2, vi q3, vi q4, vi q5, vi q6, vi (Int32.ofNat ln), vi (q2 &&& (2147483647 : Int32)), vi (0 : Int32), vi (1 : Int32), vi (0 : Int32), vi (Int32.ofNat tb), vr b3, vl (1 : Int64), .second, vi (0 : Int32), vi (0 : Int32), vi (0 : Int32)] []))
        refine OGo.st (fun t kk => XS.iconst X76.here hx rfl (hb hby at_211) kk) ?_
        show OGo p e below _ (T76.setTop (mkF m 212 #[vi q1, vi q2, vi q3, vi q4, vi q5, vi q6, vi (Int32.ofNat ln), vi (q2 &&& (2147483647 : Int32)), vi (0 : Int32), vi (1 : Int32), vi (0 : Int32), vi (Int32.ofNat tb), vr b3, vl (1 : Int64), .second, vi (0 : Int32), vi (0 : Int32), vi (0 : Int32)] [(.int (1 : Int32))]))
        refine OGo.st (fun t kk => XS.goto X76.here hx rfl (pc0 := 212) (pc' := 216) rfl (hb hby at_212) (by decide) (by decide) kk) ?_
        show OGo p e below _ (T76.setTop (mkF m 216 #[vi q1, vi q2, vi q3, vi q4, vi q5, vi q6, vi (Int32.ofNat ln), vi (q2 &&& (2147483647 : Int32)), vi (0 : Int32), vi (1 : Int32), vi (0 : Int32), vi (Int32.ofNat tb), vr b3, vl (1 : Int64), .second, vi (0 : Int32), vi (0 : Int32), vi (0 : Int32)] [(.int (1 : Int32))]))
        exact OGo.outN X76 hx (t := .boolean) Bd.returns (by simp) Bd.notSynchronized (hb hby at_216) ⟨rfl, N76⟩ (by decide) (by decide)
  · rcases hgs with rfl | rfl | rfl
    · rw [show (if (1 : Int32) = (0 : Int32) then (if (-1 : Int32) = (1 : Int32) then (0 : Int32) else (-1 : Int32)) else (-1 : Int32)) = (-1 : Int32) from by decide]
      show OGo p e below _ (T29.setTop (mkF m 78 #[vi q1, vi q2, vi q3, vi q4, vi q5, vi q6, vi (Int32.ofNat ln), vi (q2 &&& (2147483647 : Int32)), vi (1 : Int32), vi (-1 : Int32), vi (-1 : Int32), vi (Int32.ofNat tb), vr b3, vl (1 : Int64), .second, .unset, .unset, .unset] []))
      refine OGo.st (fun t kk => XS.iload X29.here hx rfl (hb hby at_78) rfl kk) ?_
      show OGo p e below _ (T29.setTop (mkF m 80 #[vi q1, vi q2, vi q3, vi q4, vi q5, vi q6, vi (Int32.ofNat ln), vi (q2 &&& (2147483647 : Int32)), vi (1 : Int32), vi (-1 : Int32), vi (-1 : Int32), vi (Int32.ofNat tb), vr b3, vl (1 : Int64), .second, .unset, .unset, .unset] [(.int (1 : Int32))]))
      refine OGo.st (fun t kk => XS.iconst X29.here hx rfl (hb hby at_80) kk) ?_
      show OGo p e below _ (T29.setTop (mkF m 81 #[vi q1, vi q2, vi q3, vi q4, vi q5, vi q6, vi (Int32.ofNat ln), vi (q2 &&& (2147483647 : Int32)), vi (1 : Int32), vi (-1 : Int32), vi (-1 : Int32), vi (Int32.ofNat tb), vr b3, vl (1 : Int64), .second, .unset, .unset, .unset] [(.int (1 : Int32)), (.int (1 : Int32))]))
      refine OGo.st (fun t kk => XS.icmpNo X29.here hx rfl (hb hby at_81) rfl (teq (by decide : ((1 : Int32) = (1 : Int32)))).2 kk) ?_
      show OGo p e below _ (T29.setTop (mkF m 84 #[vi q1, vi q2, vi q3, vi q4, vi q5, vi q6, vi (Int32.ofNat ln), vi (q2 &&& (2147483647 : Int32)), vi (1 : Int32), vi (-1 : Int32), vi (-1 : Int32), vi (Int32.ofNat tb), vr b3, vl (1 : Int64), .second, .unset, .unset, .unset] []))
      refine OGo.st (fun t kk => XS.aload X29.here hx rfl (hb hby at_84) rfl rfl kk) ?_
      show OGo p e below _ (T29.setTop (mkF m 86 #[vi q1, vi q2, vi q3, vi q4, vi q5, vi q6, vi (Int32.ofNat ln), vi (q2 &&& (2147483647 : Int32)), vi (1 : Int32), vi (-1 : Int32), vi (-1 : Int32), vi (Int32.ofNat tb), vr b3, vl (1 : Int64), .second, .unset, .unset, .unset] [(.ref b3)]))
      refine OGo.st (fun t kk => XS.iconst X29.here hx rfl (hb hby at_86) kk) ?_
      show OGo p e below _ (T29.setTop (mkF m 87 #[vi q1, vi q2, vi q3, vi q4, vi q5, vi q6, vi (Int32.ofNat ln), vi (q2 &&& (2147483647 : Int32)), vi (1 : Int32), vi (-1 : Int32), vi (-1 : Int32), vi (Int32.ofNat tb), vr b3, vl (1 : Int64), .second, .unset, .unset, .unset] [(.int (0 : Int32)), (.ref b3)]))
      refine OGo.st (fun t kk => XS.lload X29.here hx rfl (hb hby at_87) rfl kk) ?_
      show OGo p e below _ (T29.setTop (mkF m 89 #[vi q1, vi q2, vi q3, vi q4, vi q5, vi q6, vi (Int32.ofNat ln), vi (q2 &&& (2147483647 : Int32)), vi (1 : Int32), vi (-1 : Int32), vi (-1 : Int32), vi (Int32.ofNat tb), vr b3, vl (1 : Int64), .second, .unset, .unset, .unset] [(.long (1 : Int64)), (.int (0 : Int32)), (.ref b3)]))
      refine OGo.st (fun t kk => XS.iload X29.here hx rfl (hb hby at_89) rfl kk) ?_
      show OGo p e below _ (T29.setTop (mkF m 91 #[vi q1, vi q2, vi q3, vi q4, vi q5, vi q6, vi (Int32.ofNat ln), vi (q2 &&& (2147483647 : Int32)), vi (1 : Int32), vi (-1 : Int32), vi (-1 : Int32), vi (Int32.ofNat tb), vr b3, vl (1 : Int64), .second, .unset, .unset, .unset] [(.int (Int32.ofNat tb)), (.long (1 : Int64)), (.int (0 : Int32)), (.ref b3)]))
      have c82 := (O_em.keep K29 (ninS (Ne.symm n_b3_em) nin0))
      have c83 := (O_fb.keep K29 (ninS (Ne.symm n_b3_fb) nin0))
      have c84 := (O_go.keep K29 (ninS (Ne.symm n_b3_go) nin0))
      have c85 := (O_ps.keep K29 (ninS (Ne.symm n_b3_ps) nin0))
      have c86 := (O_ns.keep K29 (ninS (Ne.symm n_b3_ns) nin0))
      have c87 := (O_fs.keep K29 (ninS (Ne.symm n_b3_fs) nin0))
      have c88 := (O_lb.keep K29 (ninS (Ne.symm n_b3_lb) nin0))
      have c89 := (O_sb.keep K29 (ninS (Ne.symm n_b3_sb) nin0))
      have c90 := (O_bl.keep K29 (ninS (Ne.symm n_b3_bl) nin0))
      have c91 := (O_pv.keep K29 (ninS (Ne.symm n_b3_pv) nin0))
      have c92 := (O_nx.keep K29 (ninS (Ne.symm n_b3_nx) nin0))
      have c93 := (O_pt.keep K29 (ninS (Ne.symm n_b3_pt) nin0))
      have c94 := (O_qs.keep K29 (ninS (Ne.symm n_b3_qs) nin0))
      have c95 := (O_ms.keep K29 (ninS (Ne.symm n_b3_ms) nin0))
      obtain ⟨cq81, kq81, q81a, q81b, q81c⟩ := isOf hZ rfl E29
      obtain ⟨_, _, ⟨T81, L81, k81, n81⟩, -, X81, ⟨Lc81, hQ81, l81, y81, z81⟩, st81⟩ := X29.virtualBack hx (y := (⟨"com/example/lockstep/lockstep/check/StepGroups", "moveToBlock", "(IJI)V"⟩ : MethodName)) (z := (⟨"com/example/lockstep/lockstep/check/StepGroups", "moveToBlock", "(IJI)V"⟩ : MethodName)) hown (mvT hZ (hw _ (List.mem_of_getElem? (i := 80) rfl))) (mvT hZ (hw _ (List.mem_of_getElem? (i := 81) rfl))) (notFace_of_selects (args := #[]) (mvT hZ (hw _ (List.mem_of_getElem? (i := 83) rfl)))) (mvT hZ (hw _ (List.mem_of_getElem? (i := 83) rfl))) (mvT hZ (hw _ (List.mem_of_getElem? (i := 82) rfl))) (by decide) (backOf (W := 0) (rmB l Z a0 hw [] b3 tb em fr fb go ps ns fs lb sb bl pv nx pt qs ms (Int32.ofNat ln) fem ffb fgo fps fns ffs flb fsb fbl fpv fnx fpt fqs fms T29.heap n0 Z29 ⟨E29, F29_emptied, F29_free, F29_firstOfBlock, F29_groupOf, F29_previousStep, F29_nextStep, F29_firstStep, F29_label, F29_superBlock, F29_block, F29_previous, F29_next, F29_partner, F29_partnerStamp, F29_markStamp, F29_groupCount, F29_emptiedCount, F29_freeCount, F29_stamp⟩ ho0 gu c82 c83 c84 c85 c86 c87 c88 c89 c90 c91 c92 c93 c94 c95 hqs hlb hps hns hpv hnx hbl hgo hsb htb (own_tb hfb0 hfbj tb)) hZ (hw _ (List.mem_of_getElem? (i := 84) rfl)) (hw _ (List.mem_of_getElem? (i := 3) rfl)) (by decide) (by decide)) q81a q81c (g := (mkF m 91 #[vi q1, vi q2, vi q3, vi q4, vi q5, vi q6, vi (Int32.ofNat ln), vi (q2 &&& (2147483647 : Int32)), vi (1 : Int32), vi (-1 : Int32), vi (-1 : Int32), vi (Int32.ofNat tb), vr b3, vl (1 : Int64), .second, .unset, .unset, .unset] [(.int (Int32.ofNat tb)), (.long (1 : Int64)), (.int (0 : Int32)), (.ref b3)])) rfl (by rw [hml]; rfl) (Steps.refl _) (argsL := [(.int (0 : Int32)), (.long (1 : Int64)), (.int (Int32.ofNat tb))]) (rest := []) (lenOf pd0_3 rfl) rfl (by show 2 * 0 + _ ≤ _; exact Nat.le_of_eq rfl) (hb hby at_91) (fun _ _ => ⟨rfl, rfl, (by decide : 20 + 0 ≤ _), (by decide : 253 + 0 ≤ _)⟩)
      dsimp only [Pt.U, Pt.locs, Pt.cells, Pt.slots] at X81 l81 y81 z81 st81 hQ81
      subst l81 y81 z81
      obtain ⟨rfl, Nq81, Z81, Uq81, xfs81, xlb81, xbl81, xsb81, Ofs_81, Olb_81, Obl_81, Osb_81, hx081, hx181, hx281, hx381, hx481⟩ := hQ81
      have N81 := Fr.app N29 Nq81
      obtain ⟨E81, F81_emptied, F81_free, F81_firstOfBlock, F81_groupOf, F81_previousStep, F81_nextStep, F81_firstStep, F81_label, F81_superBlock, F81_block, F81_previous, F81_next, F81_partner, F81_partnerStamp, F81_markStamp, F81_groupCount, F81_emptiedCount, F81_freeCount, F81_stamp⟩ := Uq81
      obtain ⟨lo81, X81, N81⟩ : ∃ L, Stand p l e room_1 s m #[(.int q1), (.int q2), (.int q3), (.int q4), (.int q5), (.int q6)] below meth c T81 L 20 253 ∧ Fr n0 L := ⟨_, X81, N81⟩
      refine OGo.st (fun t kk => st81.trans kk) ?_
      show OGo p e below _ (T81.setTop (mkF m 94 #[vi q1, vi q2, vi q3, vi q4, vi q5, vi q6, vi (Int32.ofNat ln), vi (q2 &&& (2147483647 : Int32)), vi (1 : Int32), vi (-1 : Int32), vi (-1 : Int32), vi (Int32.ofNat tb), vr b3, vl (1 : Int64), .second, .unset, .unset, .unset] []))
      refine OGo.st (fun t kk => XS.goto X81.here hx rfl (pc0 := 94) (pc' := 112) rfl (hb hby at_94) (by decide) (by decide) kk) ?_
      show OGo p e below _ (T81.setTop (mkF m 112 #[vi q1, vi q2, vi q3, vi q4, vi q5, vi q6, vi (Int32.ofNat ln), vi (q2 &&& (2147483647 : Int32)), vi (1 : Int32), vi (-1 : Int32), vi (-1 : Int32), vi (Int32.ofNat tb), vr b3, vl (1 : Int64), .second, .unset, .unset, .unset] []))
      refine OGo.st (fun t kk => XS.iload X81.here hx rfl (hb hby at_112) rfl kk) ?_
      show OGo p e below _ (T81.setTop (mkF m 114 #[vi q1, vi q2, vi q3, vi q4, vi q5, vi q6, vi (Int32.ofNat ln), vi (q2 &&& (2147483647 : Int32)), vi (1 : Int32), vi (-1 : Int32), vi (-1 : Int32), vi (Int32.ofNat tb), vr b3, vl (1 : Int64), .second, .unset, .unset, .unset] [(.int (-1 : Int32))]))
      refine OGo.st (fun t kk => XS.iconst X81.here hx rfl (hb hby at_114) kk) ?_
      show OGo p e below _ (T81.setTop (mkF m 115 #[vi q1, vi q2, vi q3, vi q4, vi q5, vi q6, vi (Int32.ofNat ln), vi (q2 &&& (2147483647 : Int32)), vi (1 : Int32), vi (-1 : Int32), vi (-1 : Int32), vi (Int32.ofNat tb), vr b3, vl (1 : Int64), .second, .unset, .unset, .unset] [(.int (-1 : Int32)), (.int (-1 : Int32))]))
      refine OGo.st (fun t kk => XS.icmpNo X81.here hx rfl (hb hby at_115) rfl (teq (by decide : ((-1 : Int32) = (-1 : Int32)))).2 kk) ?_
      show OGo p e below _ (T81.setTop (mkF m 118 #[vi q1, vi q2, vi q3, vi q4, vi q5, vi q6, vi (Int32.ofNat ln), vi (q2 &&& (2147483647 : Int32)), vi (1 : Int32), vi (-1 : Int32), vi (-1 : Int32), vi (Int32.ofNat tb), vr b3, vl (1 : Int64), .second, .unset, .unset, .unset] []))
      refine OGo.st (fun t kk => XS.iconst X81.here hx rfl (hb hby at_118) kk) ?_
      show OGo p e below _ (T81.setTop (mkF m 119 #[vi q1, vi q2, vi q3, vi q4, vi q5, vi q6, vi (Int32.ofNat ln), vi (q2 &&& (2147483647 : Int32)), vi (1 : Int32), vi (-1 : Int32), vi (-1 : Int32), vi (Int32.ofNat tb), vr b3, vl (1 : Int64), .second, .unset, .unset, .unset] [(.int (0 : Int32))]))
      refine OGo.st (fun t kk => XS.istore X81.here hx rfl (hb hby at_119) rfl (l' := #[vi q1, vi q2, vi q3, vi q4, vi q5, vi q6, vi (Int32.ofNat ln), vi (q2 &&& (2147483647 : Int32)), vi (1 : Int32), vi (-1 : Int32), vi (-1 : Int32), vi (Int32.ofNat tb), vr b3, vl (1 : Int64), .second, vi (0 : Int32), .unset, .unset]) rfl kk) ?_
      show OGo p e below _ (T81.setTop (mkF m 121 #[vi q1, vi q2, vi q3, vi q4, vi q5, vi q6, vi (Int32.ofNat ln), vi (q2 &&& (2147483647 : Int32)), vi (1 : Int32), vi (-1 : Int32), vi (-1 : Int32), vi (Int32.ofNat tb), vr b3, vl (1 : Int64), .second, vi (0 : Int32), .unset, .unset] []))
      refine OGo.st (fun t kk => XS.goto X81.here hx rfl (pc0 := 121) (pc' := 194) rfl (hb hby at_121) (by decide) (by decide) kk) ?_
      show OGo p e below _ (T81.setTop (mkF m 194 #[vi q1, vi q2, vi q3, vi q4, vi q5, vi q6, vi (Int32.ofNat ln), vi (q2 &&& (2147483647 : Int32)), vi (1 : Int32), vi (-1 : Int32), vi (-1 : Int32), vi (Int32.ofNat tb), vr b3, vl (1 : Int64), .second, vi (0 : Int32), .unset, .unset] []))
      refine OGo.st (fun t kk => XS.aload X81.here hx rfl (hb hby at_194) rfl rfl kk) ?_
      show OGo p e below _ (T81.setTop (mkF m 196 #[vi q1, vi q2, vi q3, vi q4, vi q5, vi q6, vi (Int32.ofNat ln), vi (q2 &&& (2147483647 : Int32)), vi (1 : Int32), vi (-1 : Int32), vi (-1 : Int32), vi (Int32.ofNat tb), vr b3, vl (1 : Int64), .second, vi (0 : Int32), .unset, .unset] [(.ref b3)]))
      refine OGo.st (fun t kk => XS.iload X81.here hx rfl (hb hby at_196) rfl kk) ?_
      show OGo p e below _ (T81.setTop (mkF m 198 #[vi q1, vi q2, vi q3, vi q4, vi q5, vi q6, vi (Int32.ofNat ln), vi (q2 &&& (2147483647 : Int32)), vi (1 : Int32), vi (-1 : Int32), vi (-1 : Int32), vi (Int32.ofNat tb), vr b3, vl (1 : Int64), .second, vi (0 : Int32), .unset, .unset] [(.int (-1 : Int32)), (.ref b3)]))
      refine OGo.st (fun t kk => XS.iloadN X81.here hx rfl (hb hby at_198) rfl kk) ?_
      show OGo p e below _ (T81.setTop (mkF m 199 #[vi q1, vi q2, vi q3, vi q4, vi q5, vi q6, vi (Int32.ofNat ln), vi (q2 &&& (2147483647 : Int32)), vi (1 : Int32), vi (-1 : Int32), vi (-1 : Int32), vi (Int32.ofNat tb), vr b3, vl (1 : Int64), .second, vi (0 : Int32), .unset, .unset] [(.int q4), (.int (-1 : Int32)), (.ref b3)]))
      refine OGo.st (fun t kk => XS.iload X81.here hx rfl (hb hby at_199) rfl kk) ?_
      show OGo p e below _ (T81.setTop (mkF m 201 #[vi q1, vi q2, vi q3, vi q4, vi q5, vi q6, vi (Int32.ofNat ln), vi (q2 &&& (2147483647 : Int32)), vi (1 : Int32), vi (-1 : Int32), vi (-1 : Int32), vi (Int32.ofNat tb), vr b3, vl (1 : Int64), .second, vi (0 : Int32), .unset, .unset] [(.int q5), (.int q4), (.int (-1 : Int32)), (.ref b3)]))
      refine OGo.st (fun t kk => XS.iload X81.here hx rfl (hb hby at_201) rfl kk) ?_
      show OGo p e below _ (T81.setTop (mkF m 203 #[vi q1, vi q2, vi q3, vi q4, vi q5, vi q6, vi (Int32.ofNat ln), vi (q2 &&& (2147483647 : Int32)), vi (1 : Int32), vi (-1 : Int32), vi (-1 : Int32), vi (Int32.ofNat tb), vr b3, vl (1 : Int64), .second, vi (0 : Int32), .unset, .unset] [(.int q6), (.int q5), (.int q4), (.int (-1 : Int32)), (.ref b3)]))
      obtain ⟨cq96, kq96, q96a, q96b, q96c⟩ := isOf hZ rfl E81
      obtain ⟨_, _, ⟨T96, L96, k96, n96⟩, -, X96, ⟨Lc96, hQ96, l96, y96, z96⟩, st96⟩ := X81.virtualBack hx (y := (⟨"com/example/lockstep/lockstep/check/StepGroups", "holds", "(IIII)Z"⟩ : MethodName)) (z := (⟨"com/example/lockstep/lockstep/check/StepGroups", "holds", "(IIII)Z"⟩ : MethodName)) hown (mvT hZ (hw _ (List.mem_of_getElem? (i := 75) rfl))) (mvT hZ (hw _ (List.mem_of_getElem? (i := 76) rfl))) (notFace_of_selects (args := #[]) (mvT hZ (hw _ (List.mem_of_getElem? (i := 78) rfl)))) (mvT hZ (hw _ (List.mem_of_getElem? (i := 78) rfl))) (mvT hZ (hw _ (List.mem_of_getElem? (i := 77) rfl))) (by decide) (backOf (W := 0) (rmH l Z a0 hw [] b3 (-1 : Int32) q4 q5 q6 em fr fb go ps ns fs lb sb bl pv nx pt qs ms (Int32.ofNat (1 + 1)) (1 : Int32) (0 : Int32) (1 : Int64) xfs81 xlb81 xbl81 xsb81 0 T81.heap n0 Z81 ⟨E81, F81_emptied, F81_free, F81_firstOfBlock, F81_groupOf, F81_previousStep, F81_nextStep, F81_firstStep, F81_label, F81_superBlock, F81_block, F81_previous, F81_next, F81_partner, F81_partnerStamp, F81_markStamp, F81_groupCount, F81_emptiedCount, F81_freeCount, F81_stamp⟩ ho0 gu Ofs_81 Olb_81 Obl_81 Osb_81 (Or.inl rfl)) hZ (hw _ (List.mem_of_getElem? (i := 79) rfl)) (hw _ (List.mem_of_getElem? (i := 3) rfl)) (by decide) (by decide)) q96a q96c (g := (mkF m 203 #[vi q1, vi q2, vi q3, vi q4, vi q5, vi q6, vi (Int32.ofNat ln), vi (q2 &&& (2147483647 : Int32)), vi (1 : Int32), vi (-1 : Int32), vi (-1 : Int32), vi (Int32.ofNat tb), vr b3, vl (1 : Int64), .second, vi (0 : Int32), .unset, .unset] [(.int q6), (.int q5), (.int q4), (.int (-1 : Int32)), (.ref b3)])) rfl (by rw [hml]; rfl) (Steps.refl _) (argsL := [(.int (-1 : Int32)), (.int q4), (.int q5), (.int q6)]) (rest := []) (lenOf pd0_2 rfl) rfl (by show 2 * 0 + _ ≤ _; exact Nat.le_of_eq rfl) (hb hby at_203) (fun _ _ => ⟨rfl, rfl, (by decide : 20 + 0 ≤ _), (by decide : 253 + 0 ≤ _)⟩)
      dsimp only [Pt.U, Pt.locs, Pt.cells, Pt.slots] at X96 l96 y96 z96 st96 hQ96
      subst l96 y96 z96
      obtain ⟨rfl, Nq96, e96⟩ := hQ96
      have N96 := Fr.app N81 Nq96
      obtain ⟨lo96, X96, N96⟩ : ∃ L, Stand p l e room_1 s m #[(.int q1), (.int q2), (.int q3), (.int q4), (.int q5), (.int q6)] below meth c T96 L 20 253 ∧ Fr n0 L := ⟨_, X96, N96⟩
      refine OGo.st (fun t kk => st96.trans kk) ?_
      show OGo p e below _ (T96.setTop (mkF m 206 #[vi q1, vi q2, vi q3, vi q4, vi q5, vi q6, vi (Int32.ofNat ln), vi (q2 &&& (2147483647 : Int32)), vi (1 : Int32), vi (-1 : Int32), vi (-1 : Int32), vi (Int32.ofNat tb), vr b3, vl (1 : Int64), .second, vi (0 : Int32), .unset, .unset] [(.int (HD (-1 : Int32) (xfs81 0) (xlb81 0) (xbl81 0) (xsb81 0) q4 q5 q6))]))
      refine OGo.st (fun t kk => XS.iload X96.here hx rfl (hb hby at_206) rfl kk) ?_
      show OGo p e below _ (T96.setTop (mkF m 208 #[vi q1, vi q2, vi q3, vi q4, vi q5, vi q6, vi (Int32.ofNat ln), vi (q2 &&& (2147483647 : Int32)), vi (1 : Int32), vi (-1 : Int32), vi (-1 : Int32), vi (Int32.ofNat tb), vr b3, vl (1 : Int64), .second, vi (0 : Int32), .unset, .unset] [(.int (0 : Int32)), (.int (HD (-1 : Int32) (xfs81 0) (xlb81 0) (xbl81 0) (xsb81 0) q4 q5 q6))]))
      refine OGo.st (fun t kk => XS.icmpNo X96.here hx rfl (hb hby at_208) rfl (teq (by simp +decide [HD, hx081, hx181, hx281, hx381, hx481])).2 kk) ?_
      show OGo p e below _ (T96.setTop (mkF m 211 #[vi q1, vi q2, vi q3, vi q4, vi q5, vi q6, vi (Int32.ofNat ln), vi (q2 &&& (2147483647 : Int32)), vi (1 : Int32), vi (-1 : Int32), vi (-1 : Int32), vi (Int32.ofNat tb), vr b3, vl (1 : Int64), .second, vi (0 : Int32), .unset, .unset] []))
      refine OGo.st (fun t kk => XS.iconst X96.here hx rfl (hb hby at_211) kk) ?_
      show OGo p e below _ (T96.setTop (mkF m 212 #[vi q1, vi q2, vi q3, vi q4, vi q5, vi q6, vi (Int32.ofNat ln), vi (q2 &&& (2147483647 : Int32)), vi (1 : Int32), vi (-1 : Int32), vi (-1 : Int32), vi (Int32.ofNat tb), vr b3, vl (1 : Int64), .second, vi (0 : Int32), .unset, .unset] [(.int (1 : Int32))]))
      refine OGo.st (fun t kk => XS.goto X96.here hx rfl (pc0 := 212) (pc' := 216) rfl (hb hby at_212) (by decide) (by decide) kk) ?_
      show OGo p e below _ (T96.setTop (mkF m 216 #[vi q1, vi q2, vi q3, vi q4, vi q5, vi q6, vi (Int32.ofNat ln), vi (q2 &&& (2147483647 : Int32)), vi (1 : Int32), vi (-1 : Int32), vi (-1 : Int32), vi (Int32.ofNat tb), vr b3, vl (1 : Int64), .second, vi (0 : Int32), .unset, .unset] [(.int (1 : Int32))]))
      exact OGo.outN X96 hx (t := .boolean) Bd.returns (by simp) Bd.notSynchronized (hb hby at_216) ⟨rfl, N96⟩ (by decide) (by decide)
    · rw [show (if (1 : Int32) = (0 : Int32) then (if (0 : Int32) = (1 : Int32) then (0 : Int32) else (0 : Int32)) else (0 : Int32)) = (0 : Int32) from by decide]
      show OGo p e below _ (T29.setTop (mkF m 78 #[vi q1, vi q2, vi q3, vi q4, vi q5, vi q6, vi (Int32.ofNat ln), vi (q2 &&& (2147483647 : Int32)), vi (1 : Int32), vi (0 : Int32), vi (0 : Int32), vi (Int32.ofNat tb), vr b3, vl (1 : Int64), .second, .unset, .unset, .unset] []))
      refine OGo.st (fun t kk => XS.iload X29.here hx rfl (hb hby at_78) rfl kk) ?_
      show OGo p e below _ (T29.setTop (mkF m 80 #[vi q1, vi q2, vi q3, vi q4, vi q5, vi q6, vi (Int32.ofNat ln), vi (q2 &&& (2147483647 : Int32)), vi (1 : Int32), vi (0 : Int32), vi (0 : Int32), vi (Int32.ofNat tb), vr b3, vl (1 : Int64), .second, .unset, .unset, .unset] [(.int (1 : Int32))]))
      refine OGo.st (fun t kk => XS.iconst X29.here hx rfl (hb hby at_80) kk) ?_
      show OGo p e below _ (T29.setTop (mkF m 81 #[vi q1, vi q2, vi q3, vi q4, vi q5, vi q6, vi (Int32.ofNat ln), vi (q2 &&& (2147483647 : Int32)), vi (1 : Int32), vi (0 : Int32), vi (0 : Int32), vi (Int32.ofNat tb), vr b3, vl (1 : Int64), .second, .unset, .unset, .unset] [(.int (1 : Int32)), (.int (1 : Int32))]))
      refine OGo.st (fun t kk => XS.icmpNo X29.here hx rfl (hb hby at_81) rfl (teq (by decide : ((1 : Int32) = (1 : Int32)))).2 kk) ?_
      show OGo p e below _ (T29.setTop (mkF m 84 #[vi q1, vi q2, vi q3, vi q4, vi q5, vi q6, vi (Int32.ofNat ln), vi (q2 &&& (2147483647 : Int32)), vi (1 : Int32), vi (0 : Int32), vi (0 : Int32), vi (Int32.ofNat tb), vr b3, vl (1 : Int64), .second, .unset, .unset, .unset] []))
      refine OGo.st (fun t kk => XS.aload X29.here hx rfl (hb hby at_84) rfl rfl kk) ?_
      show OGo p e below _ (T29.setTop (mkF m 86 #[vi q1, vi q2, vi q3, vi q4, vi q5, vi q6, vi (Int32.ofNat ln), vi (q2 &&& (2147483647 : Int32)), vi (1 : Int32), vi (0 : Int32), vi (0 : Int32), vi (Int32.ofNat tb), vr b3, vl (1 : Int64), .second, .unset, .unset, .unset] [(.ref b3)]))
      refine OGo.st (fun t kk => XS.iconst X29.here hx rfl (hb hby at_86) kk) ?_
      show OGo p e below _ (T29.setTop (mkF m 87 #[vi q1, vi q2, vi q3, vi q4, vi q5, vi q6, vi (Int32.ofNat ln), vi (q2 &&& (2147483647 : Int32)), vi (1 : Int32), vi (0 : Int32), vi (0 : Int32), vi (Int32.ofNat tb), vr b3, vl (1 : Int64), .second, .unset, .unset, .unset] [(.int (0 : Int32)), (.ref b3)]))
      refine OGo.st (fun t kk => XS.lload X29.here hx rfl (hb hby at_87) rfl kk) ?_
      show OGo p e below _ (T29.setTop (mkF m 89 #[vi q1, vi q2, vi q3, vi q4, vi q5, vi q6, vi (Int32.ofNat ln), vi (q2 &&& (2147483647 : Int32)), vi (1 : Int32), vi (0 : Int32), vi (0 : Int32), vi (Int32.ofNat tb), vr b3, vl (1 : Int64), .second, .unset, .unset, .unset] [(.long (1 : Int64)), (.int (0 : Int32)), (.ref b3)]))
      refine OGo.st (fun t kk => XS.iload X29.here hx rfl (hb hby at_89) rfl kk) ?_
      show OGo p e below _ (T29.setTop (mkF m 91 #[vi q1, vi q2, vi q3, vi q4, vi q5, vi q6, vi (Int32.ofNat ln), vi (q2 &&& (2147483647 : Int32)), vi (1 : Int32), vi (0 : Int32), vi (0 : Int32), vi (Int32.ofNat tb), vr b3, vl (1 : Int64), .second, .unset, .unset, .unset] [(.int (Int32.ofNat tb)), (.long (1 : Int64)), (.int (0 : Int32)), (.ref b3)]))
      have c98 := (O_em.keep K29 (ninS (Ne.symm n_b3_em) nin0))
      have c99 := (O_fb.keep K29 (ninS (Ne.symm n_b3_fb) nin0))
      have c100 := (O_go.keep K29 (ninS (Ne.symm n_b3_go) nin0))
      have c101 := (O_ps.keep K29 (ninS (Ne.symm n_b3_ps) nin0))
      have c102 := (O_ns.keep K29 (ninS (Ne.symm n_b3_ns) nin0))
      have c103 := (O_fs.keep K29 (ninS (Ne.symm n_b3_fs) nin0))
      have c104 := (O_lb.keep K29 (ninS (Ne.symm n_b3_lb) nin0))
      have c105 := (O_sb.keep K29 (ninS (Ne.symm n_b3_sb) nin0))
      have c106 := (O_bl.keep K29 (ninS (Ne.symm n_b3_bl) nin0))
      have c107 := (O_pv.keep K29 (ninS (Ne.symm n_b3_pv) nin0))
      have c108 := (O_nx.keep K29 (ninS (Ne.symm n_b3_nx) nin0))
      have c109 := (O_pt.keep K29 (ninS (Ne.symm n_b3_pt) nin0))
      have c110 := (O_qs.keep K29 (ninS (Ne.symm n_b3_qs) nin0))
      have c111 := (O_ms.keep K29 (ninS (Ne.symm n_b3_ms) nin0))
      obtain ⟨cq97, kq97, q97a, q97b, q97c⟩ := isOf hZ rfl E29
      obtain ⟨_, _, ⟨T97, L97, k97, n97⟩, -, X97, ⟨Lc97, hQ97, l97, y97, z97⟩, st97⟩ := X29.virtualBack hx (y := (⟨"com/example/lockstep/lockstep/check/StepGroups", "moveToBlock", "(IJI)V"⟩ : MethodName)) (z := (⟨"com/example/lockstep/lockstep/check/StepGroups", "moveToBlock", "(IJI)V"⟩ : MethodName)) hown (mvT hZ (hw _ (List.mem_of_getElem? (i := 80) rfl))) (mvT hZ (hw _ (List.mem_of_getElem? (i := 81) rfl))) (notFace_of_selects (args := #[]) (mvT hZ (hw _ (List.mem_of_getElem? (i := 83) rfl)))) (mvT hZ (hw _ (List.mem_of_getElem? (i := 83) rfl))) (mvT hZ (hw _ (List.mem_of_getElem? (i := 82) rfl))) (by decide) (backOf (W := 0) (rmB l Z a0 hw [] b3 tb em fr fb go ps ns fs lb sb bl pv nx pt qs ms (Int32.ofNat ln) fem ffb fgo fps fns ffs flb fsb fbl fpv fnx fpt fqs fms T29.heap n0 Z29 ⟨E29, F29_emptied, F29_free, F29_firstOfBlock, F29_groupOf, F29_previousStep, F29_nextStep, F29_firstStep, F29_label, F29_superBlock, F29_block, F29_previous, F29_next, F29_partner, F29_partnerStamp, F29_markStamp, F29_groupCount, F29_emptiedCount, F29_freeCount, F29_stamp⟩ ho0 gu c98 c99 c100 c101 c102 c103 c104 c105 c106 c107 c108 c109 c110 c111 hqs hlb hps hns hpv hnx hbl hgo hsb htb (own_tb hfb0 hfbj tb)) hZ (hw _ (List.mem_of_getElem? (i := 84) rfl)) (hw _ (List.mem_of_getElem? (i := 3) rfl)) (by decide) (by decide)) q97a q97c (g := (mkF m 91 #[vi q1, vi q2, vi q3, vi q4, vi q5, vi q6, vi (Int32.ofNat ln), vi (q2 &&& (2147483647 : Int32)), vi (1 : Int32), vi (0 : Int32), vi (0 : Int32), vi (Int32.ofNat tb), vr b3, vl (1 : Int64), .second, .unset, .unset, .unset] [(.int (Int32.ofNat tb)), (.long (1 : Int64)), (.int (0 : Int32)), (.ref b3)])) rfl (by rw [hml]; rfl) (Steps.refl _) (argsL := [(.int (0 : Int32)), (.long (1 : Int64)), (.int (Int32.ofNat tb))]) (rest := []) (lenOf pd0_3 rfl) rfl (by show 2 * 0 + _ ≤ _; exact Nat.le_of_eq rfl) (hb hby at_91) (fun _ _ => ⟨rfl, rfl, (by decide : 20 + 0 ≤ _), (by decide : 253 + 0 ≤ _)⟩)
      dsimp only [Pt.U, Pt.locs, Pt.cells, Pt.slots] at X97 l97 y97 z97 st97 hQ97
      subst l97 y97 z97
      obtain ⟨rfl, Nq97, Z97, Uq97, xfs97, xlb97, xbl97, xsb97, Ofs_97, Olb_97, Obl_97, Osb_97, hx097, hx197, hx297, hx397, hx497⟩ := hQ97
      have N97 := Fr.app N29 Nq97
      obtain ⟨E97, F97_emptied, F97_free, F97_firstOfBlock, F97_groupOf, F97_previousStep, F97_nextStep, F97_firstStep, F97_label, F97_superBlock, F97_block, F97_previous, F97_next, F97_partner, F97_partnerStamp, F97_markStamp, F97_groupCount, F97_emptiedCount, F97_freeCount, F97_stamp⟩ := Uq97
      obtain ⟨lo97, X97, N97⟩ : ∃ L, Stand p l e room_1 s m #[(.int q1), (.int q2), (.int q3), (.int q4), (.int q5), (.int q6)] below meth c T97 L 20 253 ∧ Fr n0 L := ⟨_, X97, N97⟩
      refine OGo.st (fun t kk => st97.trans kk) ?_
      show OGo p e below _ (T97.setTop (mkF m 94 #[vi q1, vi q2, vi q3, vi q4, vi q5, vi q6, vi (Int32.ofNat ln), vi (q2 &&& (2147483647 : Int32)), vi (1 : Int32), vi (0 : Int32), vi (0 : Int32), vi (Int32.ofNat tb), vr b3, vl (1 : Int64), .second, .unset, .unset, .unset] []))
      refine OGo.st (fun t kk => XS.goto X97.here hx rfl (pc0 := 94) (pc' := 112) rfl (hb hby at_94) (by decide) (by decide) kk) ?_
      show OGo p e below _ (T97.setTop (mkF m 112 #[vi q1, vi q2, vi q3, vi q4, vi q5, vi q6, vi (Int32.ofNat ln), vi (q2 &&& (2147483647 : Int32)), vi (1 : Int32), vi (0 : Int32), vi (0 : Int32), vi (Int32.ofNat tb), vr b3, vl (1 : Int64), .second, .unset, .unset, .unset] []))
      refine OGo.st (fun t kk => XS.iload X97.here hx rfl (hb hby at_112) rfl kk) ?_
      show OGo p e below _ (T97.setTop (mkF m 114 #[vi q1, vi q2, vi q3, vi q4, vi q5, vi q6, vi (Int32.ofNat ln), vi (q2 &&& (2147483647 : Int32)), vi (1 : Int32), vi (0 : Int32), vi (0 : Int32), vi (Int32.ofNat tb), vr b3, vl (1 : Int64), .second, .unset, .unset, .unset] [(.int (0 : Int32))]))
      refine OGo.st (fun t kk => XS.iconst X97.here hx rfl (hb hby at_114) kk) ?_
      show OGo p e below _ (T97.setTop (mkF m 115 #[vi q1, vi q2, vi q3, vi q4, vi q5, vi q6, vi (Int32.ofNat ln), vi (q2 &&& (2147483647 : Int32)), vi (1 : Int32), vi (0 : Int32), vi (0 : Int32), vi (Int32.ofNat tb), vr b3, vl (1 : Int64), .second, .unset, .unset, .unset] [(.int (-1 : Int32)), (.int (0 : Int32))]))
      refine OGo.st (fun t kk => XS.icmpYes X97.here hx rfl (pc0 := 115) (pc' := 124) rfl (hb hby at_115) rfl (feq (by decide : ¬ ((0 : Int32) = (-1 : Int32)))).2 (by decide) (by decide) kk) ?_
      show OGo p e below _ (T97.setTop (mkF m 124 #[vi q1, vi q2, vi q3, vi q4, vi q5, vi q6, vi (Int32.ofNat ln), vi (q2 &&& (2147483647 : Int32)), vi (1 : Int32), vi (0 : Int32), vi (0 : Int32), vi (Int32.ofNat tb), vr b3, vl (1 : Int64), .second, .unset, .unset, .unset] []))
      refine OGo.st (fun t kk => XS.iload X97.here hx rfl (hb hby at_124) rfl kk) ?_
      show OGo p e below _ (T97.setTop (mkF m 126 #[vi q1, vi q2, vi q3, vi q4, vi q5, vi q6, vi (Int32.ofNat ln), vi (q2 &&& (2147483647 : Int32)), vi (1 : Int32), vi (0 : Int32), vi (0 : Int32), vi (Int32.ofNat tb), vr b3, vl (1 : Int64), .second, .unset, .unset, .unset] [(.int (1 : Int32))]))
      refine OGo.st (fun t kk => XS.ifNo X97.here hx rfl (hb hby at_126) rfl ((if0 _ _).trans (feq (by decide : ¬ ((1 : Int32) = (0 : Int32)))).1) kk) ?_
      show OGo p e below _ (T97.setTop (mkF m 129 #[vi q1, vi q2, vi q3, vi q4, vi q5, vi q6, vi (Int32.ofNat ln), vi (q2 &&& (2147483647 : Int32)), vi (1 : Int32), vi (0 : Int32), vi (0 : Int32), vi (Int32.ofNat tb), vr b3, vl (1 : Int64), .second, .unset, .unset, .unset] []))
      refine OGo.st (fun t kk => XS.iload X97.here hx rfl (hb hby at_129) rfl kk) ?_
      show OGo p e below _ (T97.setTop (mkF m 131 #[vi q1, vi q2, vi q3, vi q4, vi q5, vi q6, vi (Int32.ofNat ln), vi (q2 &&& (2147483647 : Int32)), vi (1 : Int32), vi (0 : Int32), vi (0 : Int32), vi (Int32.ofNat tb), vr b3, vl (1 : Int64), .second, .unset, .unset, .unset] [(.int (0 : Int32))]))
      refine OGo.st (fun t kk => XS.ifNo X97.here hx rfl (hb hby at_131) rfl ((if0 _ _).trans (teq (by decide : ((0 : Int32) = (0 : Int32)))).2) kk) ?_
      show OGo p e below _ (T97.setTop (mkF m 134 #[vi q1, vi q2, vi q3, vi q4, vi q5, vi q6, vi (Int32.ofNat ln), vi (q2 &&& (2147483647 : Int32)), vi (1 : Int32), vi (0 : Int32), vi (0 : Int32), vi (Int32.ofNat tb), vr b3, vl (1 : Int64), .second, .unset, .unset, .unset] []))
      refine OGo.st (fun t kk => XS.iconst X97.here hx rfl (hb hby at_134) kk) ?_
      show OGo p e below _ (T97.setTop (mkF m 135 #[vi q1, vi q2, vi q3, vi q4, vi q5, vi q6, vi (Int32.ofNat ln), vi (q2 &&& (2147483647 : Int32)), vi (1 : Int32), vi (0 : Int32), vi (0 : Int32), vi (Int32.ofNat tb), vr b3, vl (1 : Int64), .second, .unset, .unset, .unset] [(.int (0 : Int32))]))
      refine OGo.st (fun t kk => XS.istore X97.here hx rfl (hb hby at_135) rfl (l' := #[vi q1, vi q2, vi q3, vi q4, vi q5, vi q6, vi (Int32.ofNat ln), vi (q2 &&& (2147483647 : Int32)), vi (1 : Int32), vi (0 : Int32), vi (0 : Int32), vi (Int32.ofNat tb), vr b3, vl (1 : Int64), .second, vi (0 : Int32), .unset, .unset]) rfl kk) ?_
      show OGo p e below _ (T97.setTop (mkF m 137 #[vi q1, vi q2, vi q3, vi q4, vi q5, vi q6, vi (Int32.ofNat ln), vi (q2 &&& (2147483647 : Int32)), vi (1 : Int32), vi (0 : Int32), vi (0 : Int32), vi (Int32.ofNat tb), vr b3, vl (1 : Int64), .second, vi (0 : Int32), .unset, .unset] []))
      refine OGo.st (fun t kk => XS.goto X97.here hx rfl (pc0 := 137) (pc' := 194) rfl (hb hby at_137) (by decide) (by decide) kk) ?_
      show OGo p e below _ (T97.setTop (mkF m 194 #[vi q1, vi q2, vi q3, vi q4, vi q5, vi q6, vi (Int32.ofNat ln), vi (q2 &&& (2147483647 : Int32)), vi (1 : Int32), vi (0 : Int32), vi (0 : Int32), vi (Int32.ofNat tb), vr b3, vl (1 : Int64), .second, vi (0 : Int32), .unset, .unset] []))
      refine OGo.st (fun t kk => XS.aload X97.here hx rfl (hb hby at_194) rfl rfl kk) ?_
      show OGo p e below _ (T97.setTop (mkF m 196 #[vi q1, vi q2, vi q3, vi q4, vi q5, vi q6, vi (Int32.ofNat ln), vi (q2 &&& (2147483647 : Int32)), vi (1 : Int32), vi (0 : Int32), vi (0 : Int32), vi (Int32.ofNat tb), vr b3, vl (1 : Int64), .second, vi (0 : Int32), .unset, .unset] [(.ref b3)]))
      refine OGo.st (fun t kk => XS.iload X97.here hx rfl (hb hby at_196) rfl kk) ?_
      show OGo p e below _ (T97.setTop (mkF m 198 #[vi q1, vi q2, vi q3, vi q4, vi q5, vi q6, vi (Int32.ofNat ln), vi (q2 &&& (2147483647 : Int32)), vi (1 : Int32), vi (0 : Int32), vi (0 : Int32), vi (Int32.ofNat tb), vr b3, vl (1 : Int64), .second, vi (0 : Int32), .unset, .unset] [(.int (0 : Int32)), (.ref b3)]))
      refine OGo.st (fun t kk => XS.iloadN X97.here hx rfl (hb hby at_198) rfl kk) ?_
      show OGo p e below _ (T97.setTop (mkF m 199 #[vi q1, vi q2, vi q3, vi q4, vi q5, vi q6, vi (Int32.ofNat ln), vi (q2 &&& (2147483647 : Int32)), vi (1 : Int32), vi (0 : Int32), vi (0 : Int32), vi (Int32.ofNat tb), vr b3, vl (1 : Int64), .second, vi (0 : Int32), .unset, .unset] [(.int q4), (.int (0 : Int32)), (.ref b3)]))
      refine OGo.st (fun t kk => XS.iload X97.here hx rfl (hb hby at_199) rfl kk) ?_
      show OGo p e below _ (T97.setTop (mkF m 201 #[vi q1, vi q2, vi q3, vi q4, vi q5, vi q6, vi (Int32.ofNat ln), vi (q2 &&& (2147483647 : Int32)), vi (1 : Int32), vi (0 : Int32), vi (0 : Int32), vi (Int32.ofNat tb), vr b3, vl (1 : Int64), .second, vi (0 : Int32), .unset, .unset] [(.int q5), (.int q4), (.int (0 : Int32)), (.ref b3)]))
      refine OGo.st (fun t kk => XS.iload X97.here hx rfl (hb hby at_201) rfl kk) ?_
      show OGo p e below _ (T97.setTop (mkF m 203 #[vi q1, vi q2, vi q3, vi q4, vi q5, vi q6, vi (Int32.ofNat ln), vi (q2 &&& (2147483647 : Int32)), vi (1 : Int32), vi (0 : Int32), vi (0 : Int32), vi (Int32.ofNat tb), vr b3, vl (1 : Int64), .second, vi (0 : Int32), .unset, .unset] [(.int q6), (.int q5), (.int q4), (.int (0 : Int32)), (.ref b3)]))
      obtain ⟨cq112, kq112, q112a, q112b, q112c⟩ := isOf hZ rfl E97
      obtain ⟨_, _, ⟨T112, L112, k112, n112⟩, -, X112, ⟨Lc112, hQ112, l112, y112, z112⟩, st112⟩ := X97.virtualBack hx (y := (⟨"com/example/lockstep/lockstep/check/StepGroups", "holds", "(IIII)Z"⟩ : MethodName)) (z := (⟨"com/example/lockstep/lockstep/check/StepGroups", "holds", "(IIII)Z"⟩ : MethodName)) hown (mvT hZ (hw _ (List.mem_of_getElem? (i := 75) rfl))) (mvT hZ (hw _ (List.mem_of_getElem? (i := 76) rfl))) (notFace_of_selects (args := #[]) (mvT hZ (hw _ (List.mem_of_getElem? (i := 78) rfl)))) (mvT hZ (hw _ (List.mem_of_getElem? (i := 78) rfl))) (mvT hZ (hw _ (List.mem_of_getElem? (i := 77) rfl))) (by decide) (backOf (W := 0) (rmH l Z a0 hw [] b3 (0 : Int32) q4 q5 q6 em fr fb go ps ns fs lb sb bl pv nx pt qs ms (Int32.ofNat (1 + 1)) (1 : Int32) (0 : Int32) (1 : Int64) xfs97 xlb97 xbl97 xsb97 0 T97.heap n0 Z97 ⟨E97, F97_emptied, F97_free, F97_firstOfBlock, F97_groupOf, F97_previousStep, F97_nextStep, F97_firstStep, F97_label, F97_superBlock, F97_block, F97_previous, F97_next, F97_partner, F97_partnerStamp, F97_markStamp, F97_groupCount, F97_emptiedCount, F97_freeCount, F97_stamp⟩ ho0 gu Ofs_97 Olb_97 Obl_97 Osb_97 (Or.inr ⟨rfl, by decide⟩)) hZ (hw _ (List.mem_of_getElem? (i := 79) rfl)) (hw _ (List.mem_of_getElem? (i := 3) rfl)) (by decide) (by decide)) q112a q112c (g := (mkF m 203 #[vi q1, vi q2, vi q3, vi q4, vi q5, vi q6, vi (Int32.ofNat ln), vi (q2 &&& (2147483647 : Int32)), vi (1 : Int32), vi (0 : Int32), vi (0 : Int32), vi (Int32.ofNat tb), vr b3, vl (1 : Int64), .second, vi (0 : Int32), .unset, .unset] [(.int q6), (.int q5), (.int q4), (.int (0 : Int32)), (.ref b3)])) rfl (by rw [hml]; rfl) (Steps.refl _) (argsL := [(.int (0 : Int32)), (.int q4), (.int q5), (.int q6)]) (rest := []) (lenOf pd0_2 rfl) rfl (by show 2 * 0 + _ ≤ _; exact Nat.le_of_eq rfl) (hb hby at_203) (fun _ _ => ⟨rfl, rfl, (by decide : 20 + 0 ≤ _), (by decide : 253 + 0 ≤ _)⟩)
      dsimp only [Pt.U, Pt.locs, Pt.cells, Pt.slots] at X112 l112 y112 z112 st112 hQ112
      subst l112 y112 z112
      obtain ⟨rfl, Nq112, e112⟩ := hQ112
      have N112 := Fr.app N97 Nq112
      obtain ⟨lo112, X112, N112⟩ : ∃ L, Stand p l e room_1 s m #[(.int q1), (.int q2), (.int q3), (.int q4), (.int q5), (.int q6)] below meth c T112 L 20 253 ∧ Fr n0 L := ⟨_, X112, N112⟩
      refine OGo.st (fun t kk => st112.trans kk) ?_
      show OGo p e below _ (T112.setTop (mkF m 206 #[vi q1, vi q2, vi q3, vi q4, vi q5, vi q6, vi (Int32.ofNat ln), vi (q2 &&& (2147483647 : Int32)), vi (1 : Int32), vi (0 : Int32), vi (0 : Int32), vi (Int32.ofNat tb), vr b3, vl (1 : Int64), .second, vi (0 : Int32), .unset, .unset] [(.int (HD (0 : Int32) (xfs97 0) (xlb97 0) (xbl97 0) (xsb97 0) q4 q5 q6))]))
      refine OGo.st (fun t kk => XS.iload X112.here hx rfl (hb hby at_206) rfl kk) ?_
      show OGo p e below _ (T112.setTop (mkF m 208 #[vi q1, vi q2, vi q3, vi q4, vi q5, vi q6, vi (Int32.ofNat ln), vi (q2 &&& (2147483647 : Int32)), vi (1 : Int32), vi (0 : Int32), vi (0 : Int32), vi (Int32.ofNat tb), vr b3, vl (1 : Int64), .second, vi (0 : Int32), .unset, .unset] [(.int (0 : Int32)), (.int (HD (0 : Int32) (xfs97 0) (xlb97 0) (xbl97 0) (xsb97 0) q4 q5 q6))]))
      refine OGo.st (fun t kk => XS.icmpNo X112.here hx rfl (hb hby at_208) rfl (teq (by simp +decide [HD, hx097, hx197, hx297, hx397, hx497])).2 kk) ?_
      show OGo p e below _ (T112.setTop (mkF m 211 #[vi q1, vi q2, vi q3, vi q4, vi q5, vi q6, vi (Int32.ofNat ln), vi (q2 &&& (2147483647 : Int32)), vi (1 : Int32), vi (0 : Int32), vi (0 : Int32), vi (Int32.ofNat tb), vr b3, vl (1 : Int64), .second, vi (0 : Int32), .unset, .unset] []))
      refine OGo.st (fun t kk => XS.iconst X112.here hx rfl (hb hby at_211) kk) ?_
      show OGo p e below _ (T112.setTop (mkF m 212 #[vi q1, vi q2, vi q3, vi q4, vi q5, vi q6, vi (Int32.ofNat ln), vi (q2 &&& (2147483647 : Int32)), vi (1 : Int32), vi (0 : Int32), vi (0 : Int32), vi (Int32.ofNat tb), vr b3, vl (1 : Int64), .second, vi (0 : Int32), .unset, .unset] [(.int (1 : Int32))]))
      refine OGo.st (fun t kk => XS.goto X112.here hx rfl (pc0 := 212) (pc' := 216) rfl (hb hby at_212) (by decide) (by decide) kk) ?_
      show OGo p e below _ (T112.setTop (mkF m 216 #[vi q1, vi q2, vi q3, vi q4, vi q5, vi q6, vi (Int32.ofNat ln), vi (q2 &&& (2147483647 : Int32)), vi (1 : Int32), vi (0 : Int32), vi (0 : Int32), vi (Int32.ofNat tb), vr b3, vl (1 : Int64), .second, vi (0 : Int32), .unset, .unset] [(.int (1 : Int32))]))
      exact OGo.outN X112 hx (t := .boolean) Bd.returns (by simp) Bd.notSynchronized (hb hby at_216) ⟨rfl, N112⟩ (by decide) (by decide)
    · rw [show (if (1 : Int32) = (0 : Int32) then (if (1 : Int32) = (1 : Int32) then (0 : Int32) else (1 : Int32)) else (1 : Int32)) = (1 : Int32) from by decide]
      show OGo p e below _ (T29.setTop (mkF m 78 #[vi q1, vi q2, vi q3, vi q4, vi q5, vi q6, vi (Int32.ofNat ln), vi (q2 &&& (2147483647 : Int32)), vi (1 : Int32), vi (1 : Int32), vi (1 : Int32), vi (Int32.ofNat tb), vr b3, vl (1 : Int64), .second, .unset, .unset, .unset] []))
      refine OGo.st (fun t kk => XS.iload X29.here hx rfl (hb hby at_78) rfl kk) ?_
      show OGo p e below _ (T29.setTop (mkF m 80 #[vi q1, vi q2, vi q3, vi q4, vi q5, vi q6, vi (Int32.ofNat ln), vi (q2 &&& (2147483647 : Int32)), vi (1 : Int32), vi (1 : Int32), vi (1 : Int32), vi (Int32.ofNat tb), vr b3, vl (1 : Int64), .second, .unset, .unset, .unset] [(.int (1 : Int32))]))
      refine OGo.st (fun t kk => XS.iconst X29.here hx rfl (hb hby at_80) kk) ?_
      show OGo p e below _ (T29.setTop (mkF m 81 #[vi q1, vi q2, vi q3, vi q4, vi q5, vi q6, vi (Int32.ofNat ln), vi (q2 &&& (2147483647 : Int32)), vi (1 : Int32), vi (1 : Int32), vi (1 : Int32), vi (Int32.ofNat tb), vr b3, vl (1 : Int64), .second, .unset, .unset, .unset] [(.int (1 : Int32)), (.int (1 : Int32))]))
      refine OGo.st (fun t kk => XS.icmpNo X29.here hx rfl (hb hby at_81) rfl (teq (by decide : ((1 : Int32) = (1 : Int32)))).2 kk) ?_
      show OGo p e below _ (T29.setTop (mkF m 84 #[vi q1, vi q2, vi q3, vi q4, vi q5, vi q6, vi (Int32.ofNat ln), vi (q2 &&& (2147483647 : Int32)), vi (1 : Int32), vi (1 : Int32), vi (1 : Int32), vi (Int32.ofNat tb), vr b3, vl (1 : Int64), .second, .unset, .unset, .unset] []))
      refine OGo.st (fun t kk => XS.aload X29.here hx rfl (hb hby at_84) rfl rfl kk) ?_
      show OGo p e below _ (T29.setTop (mkF m 86 #[vi q1, vi q2, vi q3, vi q4, vi q5, vi q6, vi (Int32.ofNat ln), vi (q2 &&& (2147483647 : Int32)), vi (1 : Int32), vi (1 : Int32), vi (1 : Int32), vi (Int32.ofNat tb), vr b3, vl (1 : Int64), .second, .unset, .unset, .unset] [(.ref b3)]))
      refine OGo.st (fun t kk => XS.iconst X29.here hx rfl (hb hby at_86) kk) ?_
      show OGo p e below _ (T29.setTop (mkF m 87 #[vi q1, vi q2, vi q3, vi q4, vi q5, vi q6, vi (Int32.ofNat ln), vi (q2 &&& (2147483647 : Int32)), vi (1 : Int32), vi (1 : Int32), vi (1 : Int32), vi (Int32.ofNat tb), vr b3, vl (1 : Int64), .second, .unset, .unset, .unset] [(.int (0 : Int32)), (.ref b3)]))
      refine OGo.st (fun t kk => XS.lload X29.here hx rfl (hb hby at_87) rfl kk) ?_
      show OGo p e below _ (T29.setTop (mkF m 89 #[vi q1, vi q2, vi q3, vi q4, vi q5, vi q6, vi (Int32.ofNat ln), vi (q2 &&& (2147483647 : Int32)), vi (1 : Int32), vi (1 : Int32), vi (1 : Int32), vi (Int32.ofNat tb), vr b3, vl (1 : Int64), .second, .unset, .unset, .unset] [(.long (1 : Int64)), (.int (0 : Int32)), (.ref b3)]))
      refine OGo.st (fun t kk => XS.iload X29.here hx rfl (hb hby at_89) rfl kk) ?_
      show OGo p e below _ (T29.setTop (mkF m 91 #[vi q1, vi q2, vi q3, vi q4, vi q5, vi q6, vi (Int32.ofNat ln), vi (q2 &&& (2147483647 : Int32)), vi (1 : Int32), vi (1 : Int32), vi (1 : Int32), vi (Int32.ofNat tb), vr b3, vl (1 : Int64), .second, .unset, .unset, .unset] [(.int (Int32.ofNat tb)), (.long (1 : Int64)), (.int (0 : Int32)), (.ref b3)]))
      have c114 := (O_em.keep K29 (ninS (Ne.symm n_b3_em) nin0))
      have c115 := (O_fb.keep K29 (ninS (Ne.symm n_b3_fb) nin0))
      have c116 := (O_go.keep K29 (ninS (Ne.symm n_b3_go) nin0))
      have c117 := (O_ps.keep K29 (ninS (Ne.symm n_b3_ps) nin0))
      have c118 := (O_ns.keep K29 (ninS (Ne.symm n_b3_ns) nin0))
      have c119 := (O_fs.keep K29 (ninS (Ne.symm n_b3_fs) nin0))
      have c120 := (O_lb.keep K29 (ninS (Ne.symm n_b3_lb) nin0))
      have c121 := (O_sb.keep K29 (ninS (Ne.symm n_b3_sb) nin0))
      have c122 := (O_bl.keep K29 (ninS (Ne.symm n_b3_bl) nin0))
      have c123 := (O_pv.keep K29 (ninS (Ne.symm n_b3_pv) nin0))
      have c124 := (O_nx.keep K29 (ninS (Ne.symm n_b3_nx) nin0))
      have c125 := (O_pt.keep K29 (ninS (Ne.symm n_b3_pt) nin0))
      have c126 := (O_qs.keep K29 (ninS (Ne.symm n_b3_qs) nin0))
      have c127 := (O_ms.keep K29 (ninS (Ne.symm n_b3_ms) nin0))
      obtain ⟨cq113, kq113, q113a, q113b, q113c⟩ := isOf hZ rfl E29
      obtain ⟨_, _, ⟨T113, L113, k113, n113⟩, -, X113, ⟨Lc113, hQ113, l113, y113, z113⟩, st113⟩ := X29.virtualBack hx (y := (⟨"com/example/lockstep/lockstep/check/StepGroups", "moveToBlock", "(IJI)V"⟩ : MethodName)) (z := (⟨"com/example/lockstep/lockstep/check/StepGroups", "moveToBlock", "(IJI)V"⟩ : MethodName)) hown (mvT hZ (hw _ (List.mem_of_getElem? (i := 80) rfl))) (mvT hZ (hw _ (List.mem_of_getElem? (i := 81) rfl))) (notFace_of_selects (args := #[]) (mvT hZ (hw _ (List.mem_of_getElem? (i := 83) rfl)))) (mvT hZ (hw _ (List.mem_of_getElem? (i := 83) rfl))) (mvT hZ (hw _ (List.mem_of_getElem? (i := 82) rfl))) (by decide) (backOf (W := 0) (rmB l Z a0 hw [] b3 tb em fr fb go ps ns fs lb sb bl pv nx pt qs ms (Int32.ofNat ln) fem ffb fgo fps fns ffs flb fsb fbl fpv fnx fpt fqs fms T29.heap n0 Z29 ⟨E29, F29_emptied, F29_free, F29_firstOfBlock, F29_groupOf, F29_previousStep, F29_nextStep, F29_firstStep, F29_label, F29_superBlock, F29_block, F29_previous, F29_next, F29_partner, F29_partnerStamp, F29_markStamp, F29_groupCount, F29_emptiedCount, F29_freeCount, F29_stamp⟩ ho0 gu c114 c115 c116 c117 c118 c119 c120 c121 c122 c123 c124 c125 c126 c127 hqs hlb hps hns hpv hnx hbl hgo hsb htb (own_tb hfb0 hfbj tb)) hZ (hw _ (List.mem_of_getElem? (i := 84) rfl)) (hw _ (List.mem_of_getElem? (i := 3) rfl)) (by decide) (by decide)) q113a q113c (g := (mkF m 91 #[vi q1, vi q2, vi q3, vi q4, vi q5, vi q6, vi (Int32.ofNat ln), vi (q2 &&& (2147483647 : Int32)), vi (1 : Int32), vi (1 : Int32), vi (1 : Int32), vi (Int32.ofNat tb), vr b3, vl (1 : Int64), .second, .unset, .unset, .unset] [(.int (Int32.ofNat tb)), (.long (1 : Int64)), (.int (0 : Int32)), (.ref b3)])) rfl (by rw [hml]; rfl) (Steps.refl _) (argsL := [(.int (0 : Int32)), (.long (1 : Int64)), (.int (Int32.ofNat tb))]) (rest := []) (lenOf pd0_3 rfl) rfl (by show 2 * 0 + _ ≤ _; exact Nat.le_of_eq rfl) (hb hby at_91) (fun _ _ => ⟨rfl, rfl, (by decide : 20 + 0 ≤ _), (by decide : 253 + 0 ≤ _)⟩)
      dsimp only [Pt.U, Pt.locs, Pt.cells, Pt.slots] at X113 l113 y113 z113 st113 hQ113
      subst l113 y113 z113
      obtain ⟨rfl, Nq113, Z113, Uq113, xfs113, xlb113, xbl113, xsb113, Ofs_113, Olb_113, Obl_113, Osb_113, hx0113, hx1113, hx2113, hx3113, hx4113⟩ := hQ113
      have N113 := Fr.app N29 Nq113
      obtain ⟨E113, F113_emptied, F113_free, F113_firstOfBlock, F113_groupOf, F113_previousStep, F113_nextStep, F113_firstStep, F113_label, F113_superBlock, F113_block, F113_previous, F113_next, F113_partner, F113_partnerStamp, F113_markStamp, F113_groupCount, F113_emptiedCount, F113_freeCount, F113_stamp⟩ := Uq113
      obtain ⟨lo113, X113, N113⟩ : ∃ L, Stand p l e room_1 s m #[(.int q1), (.int q2), (.int q3), (.int q4), (.int q5), (.int q6)] below meth c T113 L 20 253 ∧ Fr n0 L := ⟨_, X113, N113⟩
      refine OGo.st (fun t kk => st113.trans kk) ?_
      show OGo p e below _ (T113.setTop (mkF m 94 #[vi q1, vi q2, vi q3, vi q4, vi q5, vi q6, vi (Int32.ofNat ln), vi (q2 &&& (2147483647 : Int32)), vi (1 : Int32), vi (1 : Int32), vi (1 : Int32), vi (Int32.ofNat tb), vr b3, vl (1 : Int64), .second, .unset, .unset, .unset] []))
      refine OGo.st (fun t kk => XS.goto X113.here hx rfl (pc0 := 94) (pc' := 112) rfl (hb hby at_94) (by decide) (by decide) kk) ?_
      show OGo p e below _ (T113.setTop (mkF m 112 #[vi q1, vi q2, vi q3, vi q4, vi q5, vi q6, vi (Int32.ofNat ln), vi (q2 &&& (2147483647 : Int32)), vi (1 : Int32), vi (1 : Int32), vi (1 : Int32), vi (Int32.ofNat tb), vr b3, vl (1 : Int64), .second, .unset, .unset, .unset] []))
      refine OGo.st (fun t kk => XS.iload X113.here hx rfl (hb hby at_112) rfl kk) ?_
      show OGo p e below _ (T113.setTop (mkF m 114 #[vi q1, vi q2, vi q3, vi q4, vi q5, vi q6, vi (Int32.ofNat ln), vi (q2 &&& (2147483647 : Int32)), vi (1 : Int32), vi (1 : Int32), vi (1 : Int32), vi (Int32.ofNat tb), vr b3, vl (1 : Int64), .second, .unset, .unset, .unset] [(.int (1 : Int32))]))
      refine OGo.st (fun t kk => XS.iconst X113.here hx rfl (hb hby at_114) kk) ?_
      show OGo p e below _ (T113.setTop (mkF m 115 #[vi q1, vi q2, vi q3, vi q4, vi q5, vi q6, vi (Int32.ofNat ln), vi (q2 &&& (2147483647 : Int32)), vi (1 : Int32), vi (1 : Int32), vi (1 : Int32), vi (Int32.ofNat tb), vr b3, vl (1 : Int64), .second, .unset, .unset, .unset] [(.int (-1 : Int32)), (.int (1 : Int32))]))
      refine OGo.st (fun t kk => XS.icmpYes X113.here hx rfl (pc0 := 115) (pc' := 124) rfl (hb hby at_115) rfl (feq (by decide : ¬ ((1 : Int32) = (-1 : Int32)))).2 (by decide) (by decide) kk) ?_
      show OGo p e below _ (T113.setTop (mkF m 124 #[vi q1, vi q2, vi q3, vi q4, vi q5, vi q6, vi (Int32.ofNat ln), vi (q2 &&& (2147483647 : Int32)), vi (1 : Int32), vi (1 : Int32), vi (1 : Int32), vi (Int32.ofNat tb), vr b3, vl (1 : Int64), .second, .unset, .unset, .unset] []))
      refine OGo.st (fun t kk => XS.iload X113.here hx rfl (hb hby at_124) rfl kk) ?_
      show OGo p e below _ (T113.setTop (mkF m 126 #[vi q1, vi q2, vi q3, vi q4, vi q5, vi q6, vi (Int32.ofNat ln), vi (q2 &&& (2147483647 : Int32)), vi (1 : Int32), vi (1 : Int32), vi (1 : Int32), vi (Int32.ofNat tb), vr b3, vl (1 : Int64), .second, .unset, .unset, .unset] [(.int (1 : Int32))]))
      refine OGo.st (fun t kk => XS.ifNo X113.here hx rfl (hb hby at_126) rfl ((if0 _ _).trans (feq (by decide : ¬ ((1 : Int32) = (0 : Int32)))).1) kk) ?_
      show OGo p e below _ (T113.setTop (mkF m 129 #[vi q1, vi q2, vi q3, vi q4, vi q5, vi q6, vi (Int32.ofNat ln), vi (q2 &&& (2147483647 : Int32)), vi (1 : Int32), vi (1 : Int32), vi (1 : Int32), vi (Int32.ofNat tb), vr b3, vl (1 : Int64), .second, .unset, .unset, .unset] []))
      refine OGo.st (fun t kk => XS.iload X113.here hx rfl (hb hby at_129) rfl kk) ?_
      show OGo p e below _ (T113.setTop (mkF m 131 #[vi q1, vi q2, vi q3, vi q4, vi q5, vi q6, vi (Int32.ofNat ln), vi (q2 &&& (2147483647 : Int32)), vi (1 : Int32), vi (1 : Int32), vi (1 : Int32), vi (Int32.ofNat tb), vr b3, vl (1 : Int64), .second, .unset, .unset, .unset] [(.int (1 : Int32))]))
      refine OGo.st (fun t kk => XS.ifYes X113.here hx rfl (pc0 := 131) (pc' := 140) rfl (hb hby at_131) rfl ((if0 _ _).trans (feq (by decide : ¬ ((1 : Int32) = (0 : Int32)))).2) (by decide) (by decide) kk) ?_
      show OGo p e below _ (T113.setTop (mkF m 140 #[vi q1, vi q2, vi q3, vi q4, vi q5, vi q6, vi (Int32.ofNat ln), vi (q2 &&& (2147483647 : Int32)), vi (1 : Int32), vi (1 : Int32), vi (1 : Int32), vi (Int32.ofNat tb), vr b3, vl (1 : Int64), .second, .unset, .unset, .unset] []))
      refine OGo.st (fun t kk => XS.iload X113.here hx rfl (hb hby at_140) rfl kk) ?_
      show OGo p e below _ (T113.setTop (mkF m 142 #[vi q1, vi q2, vi q3, vi q4, vi q5, vi q6, vi (Int32.ofNat ln), vi (q2 &&& (2147483647 : Int32)), vi (1 : Int32), vi (1 : Int32), vi (1 : Int32), vi (Int32.ofNat tb), vr b3, vl (1 : Int64), .second, .unset, .unset, .unset] [(.int (1 : Int32))]))
      refine OGo.st (fun t kk => XS.iconst X113.here hx rfl (hb hby at_142) kk) ?_
      show OGo p e below _ (T113.setTop (mkF m 143 #[vi q1, vi q2, vi q3, vi q4, vi q5, vi q6, vi (Int32.ofNat ln), vi (q2 &&& (2147483647 : Int32)), vi (1 : Int32), vi (1 : Int32), vi (1 : Int32), vi (Int32.ofNat tb), vr b3, vl (1 : Int64), .second, .unset, .unset, .unset] [(.int (1 : Int32)), (.int (1 : Int32))]))
      refine OGo.st (fun t kk => XS.icmpNo X113.here hx rfl (hb hby at_143) rfl (teq (by decide : ((1 : Int32) = (1 : Int32)))).2 kk) ?_
      show OGo p e below _ (T113.setTop (mkF m 146 #[vi q1, vi q2, vi q3, vi q4, vi q5, vi q6, vi (Int32.ofNat ln), vi (q2 &&& (2147483647 : Int32)), vi (1 : Int32), vi (1 : Int32), vi (1 : Int32), vi (Int32.ofNat tb), vr b3, vl (1 : Int64), .second, .unset, .unset, .unset] []))
      refine OGo.st (fun t kk => XS.iload X113.here hx rfl (hb hby at_146) rfl kk) ?_
      show OGo p e below _ (T113.setTop (mkF m 148 #[vi q1, vi q2, vi q3, vi q4, vi q5, vi q6, vi (Int32.ofNat ln), vi (q2 &&& (2147483647 : Int32)), vi (1 : Int32), vi (1 : Int32), vi (1 : Int32), vi (Int32.ofNat tb), vr b3, vl (1 : Int64), .second, .unset, .unset, .unset] [(.int (Int32.ofNat tb))]))
      refine OGo.st (fun t kk => XS.goto X113.here hx rfl (pc0 := 148) (pc' := 152) rfl (hb hby at_148) (by decide) (by decide) kk) ?_
      show OGo p e below _ (T113.setTop (mkF m 152 #[vi q1, vi q2, vi q3, vi q4, vi q5, vi q6, vi (Int32.ofNat ln), vi (q2 &&& (2147483647 : Int32)), vi (1 : Int32), vi (1 : Int32), vi (1 : Int32), vi (Int32.ofNat tb), vr b3, vl (1 : Int64), .second, .unset, .unset, .unset] [(.int (Int32.ofNat tb))]))
      refine OGo.st (fun t kk => XS.istore X113.here hx rfl (hb hby at_152) rfl (l' := #[vi q1, vi q2, vi q3, vi q4, vi q5, vi q6, vi (Int32.ofNat ln), vi (q2 &&& (2147483647 : Int32)), vi (1 : Int32), vi (1 : Int32), vi (1 : Int32), vi (Int32.ofNat tb), vr b3, vl (1 : Int64), .second, .unset, vi (Int32.ofNat tb), .unset]) rfl kk) ?_
      show OGo p e below _ (T113.setTop (mkF m 154 #[vi q1, vi q2, vi q3, vi q4, vi q5, vi q6, vi (Int32.ofNat ln), vi (q2 &&& (2147483647 : Int32)), vi (1 : Int32), vi (1 : Int32), vi (1 : Int32), vi (Int32.ofNat tb), vr b3, vl (1 : Int64), .second, .unset, vi (Int32.ofNat tb), .unset] []))
      refine OGo.st (fun t kk => XS.iload X113.here hx rfl (hb hby at_154) rfl kk) ?_
      show OGo p e below _ (T113.setTop (mkF m 156 #[vi q1, vi q2, vi q3, vi q4, vi q5, vi q6, vi (Int32.ofNat ln), vi (q2 &&& (2147483647 : Int32)), vi (1 : Int32), vi (1 : Int32), vi (1 : Int32), vi (Int32.ofNat tb), vr b3, vl (1 : Int64), .second, .unset, vi (Int32.ofNat tb), .unset] [(.int (1 : Int32))]))
      refine OGo.st (fun t kk => XS.iconst X113.here hx rfl (hb hby at_156) kk) ?_
      show OGo p e below _ (T113.setTop (mkF m 157 #[vi q1, vi q2, vi q3, vi q4, vi q5, vi q6, vi (Int32.ofNat ln), vi (q2 &&& (2147483647 : Int32)), vi (1 : Int32), vi (1 : Int32), vi (1 : Int32), vi (Int32.ofNat tb), vr b3, vl (1 : Int64), .second, .unset, vi (Int32.ofNat tb), .unset] [(.int (2 : Int32)), (.int (1 : Int32))]))
      refine OGo.st (fun t kk => XS.icmpYes X113.here hx rfl (pc0 := 157) (pc' := 164) rfl (hb hby at_157) rfl (feq (by decide : ¬ ((1 : Int32) = (2 : Int32)))).2 (by decide) (by decide) kk) ?_
      show OGo p e below _ (T113.setTop (mkF m 164 #[vi q1, vi q2, vi q3, vi q4, vi q5, vi q6, vi (Int32.ofNat ln), vi (q2 &&& (2147483647 : Int32)), vi (1 : Int32), vi (1 : Int32), vi (1 : Int32), vi (Int32.ofNat tb), vr b3, vl (1 : Int64), .second, .unset, vi (Int32.ofNat tb), .unset] []))
      refine OGo.st (fun t kk => XS.iconst X113.here hx rfl (hb hby at_164) kk) ?_
      show OGo p e below _ (T113.setTop (mkF m 165 #[vi q1, vi q2, vi q3, vi q4, vi q5, vi q6, vi (Int32.ofNat ln), vi (q2 &&& (2147483647 : Int32)), vi (1 : Int32), vi (1 : Int32), vi (1 : Int32), vi (Int32.ofNat tb), vr b3, vl (1 : Int64), .second, .unset, vi (Int32.ofNat tb), .unset] [(.int (0 : Int32))]))
      refine OGo.st (fun t kk => XS.istore X113.here hx rfl (hb hby at_165) rfl (l' := #[vi q1, vi q2, vi q3, vi q4, vi q5, vi q6, vi (Int32.ofNat ln), vi (q2 &&& (2147483647 : Int32)), vi (1 : Int32), vi (1 : Int32), vi (1 : Int32), vi (Int32.ofNat tb), vr b3, vl (1 : Int64), .second, .unset, vi (Int32.ofNat tb), vi (0 : Int32)]) rfl kk) ?_
      show OGo p e below _ (T113.setTop (mkF m 167 #[vi q1, vi q2, vi q3, vi q4, vi q5, vi q6, vi (Int32.ofNat ln), vi (q2 &&& (2147483647 : Int32)), vi (1 : Int32), vi (1 : Int32), vi (1 : Int32), vi (Int32.ofNat tb), vr b3, vl (1 : Int64), .second, .unset, vi (Int32.ofNat tb), vi (0 : Int32)] []))
      refine OGo.st (fun t kk => XS.iloadN X113.here hx rfl (hb hby at_167) rfl kk) ?_
      show OGo p e below _ (T113.setTop (mkF m 168 #[vi q1, vi q2, vi q3, vi q4, vi q5, vi q6, vi (Int32.ofNat ln), vi (q2 &&& (2147483647 : Int32)), vi (1 : Int32), vi (1 : Int32), vi (1 : Int32), vi (Int32.ofNat tb), vr b3, vl (1 : Int64), .second, .unset, vi (Int32.ofNat tb), vi (0 : Int32)] [(.int q4)]))
      refine OGo.st (fun t kk => XS.iload X113.here hx rfl (hb hby at_168) rfl kk) ?_
      show OGo p e below _ (T113.setTop (mkF m 170 #[vi q1, vi q2, vi q3, vi q4, vi q5, vi q6, vi (Int32.ofNat ln), vi (q2 &&& (2147483647 : Int32)), vi (1 : Int32), vi (1 : Int32), vi (1 : Int32), vi (Int32.ofNat tb), vr b3, vl (1 : Int64), .second, .unset, vi (Int32.ofNat tb), vi (0 : Int32)] [(.int (Int32.ofNat ln)), (.int q4)]))
      by_cases hc170_128 : q4 = (Int32.ofNat ln)
      · refine OGo.st (fun t kk => XS.icmpNo X113.here hx rfl (hb hby at_170) rfl (teq hc170_128).2 kk) ?_
        show OGo p e below _ (T113.setTop (mkF m 173 #[vi q1, vi q2, vi q3, vi q4, vi q5, vi q6, vi (Int32.ofNat ln), vi (q2 &&& (2147483647 : Int32)), vi (1 : Int32), vi (1 : Int32), vi (1 : Int32), vi (Int32.ofNat tb), vr b3, vl (1 : Int64), .second, .unset, vi (Int32.ofNat tb), vi (0 : Int32)] []))
        refine OGo.st (fun t kk => XS.iload X113.here hx rfl (hb hby at_173) rfl kk) ?_
        show OGo p e below _ (T113.setTop (mkF m 175 #[vi q1, vi q2, vi q3, vi q4, vi q5, vi q6, vi (Int32.ofNat ln), vi (q2 &&& (2147483647 : Int32)), vi (1 : Int32), vi (1 : Int32), vi (1 : Int32), vi (Int32.ofNat tb), vr b3, vl (1 : Int64), .second, .unset, vi (Int32.ofNat tb), vi (0 : Int32)] [(.int q5)]))
        refine OGo.st (fun t kk => XS.iload X113.here hx rfl (hb hby at_175) rfl kk) ?_
        show OGo p e below _ (T113.setTop (mkF m 177 #[vi q1, vi q2, vi q3, vi q4, vi q5, vi q6, vi (Int32.ofNat ln), vi (q2 &&& (2147483647 : Int32)), vi (1 : Int32), vi (1 : Int32), vi (1 : Int32), vi (Int32.ofNat tb), vr b3, vl (1 : Int64), .second, .unset, vi (Int32.ofNat tb), vi (0 : Int32)] [(.int (Int32.ofNat tb)), (.int q5)]))
        by_cases hc177_129 : q5 = (Int32.ofNat tb)
        · refine OGo.st (fun t kk => XS.icmpNo X113.here hx rfl (hb hby at_177) rfl (teq hc177_129).2 kk) ?_
          show OGo p e below _ (T113.setTop (mkF m 180 #[vi q1, vi q2, vi q3, vi q4, vi q5, vi q6, vi (Int32.ofNat ln), vi (q2 &&& (2147483647 : Int32)), vi (1 : Int32), vi (1 : Int32), vi (1 : Int32), vi (Int32.ofNat tb), vr b3, vl (1 : Int64), .second, .unset, vi (Int32.ofNat tb), vi (0 : Int32)] []))
          refine OGo.st (fun t kk => XS.iload X113.here hx rfl (hb hby at_180) rfl kk) ?_
          show OGo p e below _ (T113.setTop (mkF m 182 #[vi q1, vi q2, vi q3, vi q4, vi q5, vi q6, vi (Int32.ofNat ln), vi (q2 &&& (2147483647 : Int32)), vi (1 : Int32), vi (1 : Int32), vi (1 : Int32), vi (Int32.ofNat tb), vr b3, vl (1 : Int64), .second, .unset, vi (Int32.ofNat tb), vi (0 : Int32)] [(.int q6)]))
          refine OGo.st (fun t kk => XS.iload X113.here hx rfl (hb hby at_182) rfl kk) ?_
          show OGo p e below _ (T113.setTop (mkF m 184 #[vi q1, vi q2, vi q3, vi q4, vi q5, vi q6, vi (Int32.ofNat ln), vi (q2 &&& (2147483647 : Int32)), vi (1 : Int32), vi (1 : Int32), vi (1 : Int32), vi (Int32.ofNat tb), vr b3, vl (1 : Int64), .second, .unset, vi (Int32.ofNat tb), vi (0 : Int32)] [(.int (0 : Int32)), (.int q6)]))
          by_cases hc184_130 : q6 = (0 : Int32)
          · refine OGo.st (fun t kk => XS.icmpNo X113.here hx rfl (hb hby at_184) rfl (teq hc184_130).2 kk) ?_
            show OGo p e below _ (T113.setTop (mkF m 187 #[vi q1, vi q2, vi q3, vi q4, vi q5, vi q6, vi (Int32.ofNat ln), vi (q2 &&& (2147483647 : Int32)), vi (1 : Int32), vi (1 : Int32), vi (1 : Int32), vi (Int32.ofNat tb), vr b3, vl (1 : Int64), .second, .unset, vi (Int32.ofNat tb), vi (0 : Int32)] []))
            refine OGo.st (fun t kk => XS.iconst X113.here hx rfl (hb hby at_187) kk) ?_
            show OGo p e below _ (T113.setTop (mkF m 188 #[vi q1, vi q2, vi q3, vi q4, vi q5, vi q6, vi (Int32.ofNat ln), vi (q2 &&& (2147483647 : Int32)), vi (1 : Int32), vi (1 : Int32), vi (1 : Int32), vi (Int32.ofNat tb), vr b3, vl (1 : Int64), .second, .unset, vi (Int32.ofNat tb), vi (0 : Int32)] [(.int (1 : Int32))]))
            refine OGo.st (fun t kk => XS.goto X113.here hx rfl (pc0 := 188) (pc' := 192) rfl (hb hby at_188) (by decide) (by decide) kk) ?_
            show OGo p e below _ (T113.setTop (mkF m 192 #[vi q1, vi q2, vi q3, vi q4, vi q5, vi q6, vi (Int32.ofNat ln), vi (q2 &&& (2147483647 : Int32)), vi (1 : Int32), vi (1 : Int32), vi (1 : Int32), vi (Int32.ofNat tb), vr b3, vl (1 : Int64), .second, .unset, vi (Int32.ofNat tb), vi (0 : Int32)] [(.int (1 : Int32))]))
            refine OGo.st (fun t kk => XS.istore X113.here hx rfl (hb hby at_192) rfl (l' := #[vi q1, vi q2, vi q3, vi q4, vi q5, vi q6, vi (Int32.ofNat ln), vi (q2 &&& (2147483647 : Int32)), vi (1 : Int32), vi (1 : Int32), vi (1 : Int32), vi (Int32.ofNat tb), vr b3, vl (1 : Int64), .second, vi (1 : Int32), vi (Int32.ofNat tb), vi (0 : Int32)]) rfl kk) ?_
            show OGo p e below _ (T113.setTop (mkF m 194 #[vi q1, vi q2, vi q3, vi q4, vi q5, vi q6, vi (Int32.ofNat ln), vi (q2 &&& (2147483647 : Int32)), vi (1 : Int32), vi (1 : Int32), vi (1 : Int32), vi (Int32.ofNat tb), vr b3, vl (1 : Int64), .second, vi (1 : Int32), vi (Int32.ofNat tb), vi (0 : Int32)] []))
            refine OGo.st (fun t kk => XS.aload X113.here hx rfl (hb hby at_194) rfl rfl kk) ?_
            show OGo p e below _ (T113.setTop (mkF m 196 #[vi q1, vi q2, vi q3, vi q4, vi q5, vi q6, vi (Int32.ofNat ln), vi (q2 &&& (2147483647 : Int32)), vi (1 : Int32), vi (1 : Int32), vi (1 : Int32), vi (Int32.ofNat tb), vr b3, vl (1 : Int64), .second, vi (1 : Int32), vi (Int32.ofNat tb), vi (0 : Int32)] [(.ref b3)]))
            refine OGo.st (fun t kk => XS.iload X113.here hx rfl (hb hby at_196) rfl kk) ?_
            show OGo p e below _ (T113.setTop (mkF m 198 #[vi q1, vi q2, vi q3, vi q4, vi q5, vi q6, vi (Int32.ofNat ln), vi (q2 &&& (2147483647 : Int32)), vi (1 : Int32), vi (1 : Int32), vi (1 : Int32), vi (Int32.ofNat tb), vr b3, vl (1 : Int64), .second, vi (1 : Int32), vi (Int32.ofNat tb), vi (0 : Int32)] [(.int (1 : Int32)), (.ref b3)]))
            refine OGo.st (fun t kk => XS.iloadN X113.here hx rfl (hb hby at_198) rfl kk) ?_
            show OGo p e below _ (T113.setTop (mkF m 199 #[vi q1, vi q2, vi q3, vi q4, vi q5, vi q6, vi (Int32.ofNat ln), vi (q2 &&& (2147483647 : Int32)), vi (1 : Int32), vi (1 : Int32), vi (1 : Int32), vi (Int32.ofNat tb), vr b3, vl (1 : Int64), .second, vi (1 : Int32), vi (Int32.ofNat tb), vi (0 : Int32)] [(.int q4), (.int (1 : Int32)), (.ref b3)]))
            refine OGo.st (fun t kk => XS.iload X113.here hx rfl (hb hby at_199) rfl kk) ?_
            show OGo p e below _ (T113.setTop (mkF m 201 #[vi q1, vi q2, vi q3, vi q4, vi q5, vi q6, vi (Int32.ofNat ln), vi (q2 &&& (2147483647 : Int32)), vi (1 : Int32), vi (1 : Int32), vi (1 : Int32), vi (Int32.ofNat tb), vr b3, vl (1 : Int64), .second, vi (1 : Int32), vi (Int32.ofNat tb), vi (0 : Int32)] [(.int q5), (.int q4), (.int (1 : Int32)), (.ref b3)]))
            refine OGo.st (fun t kk => XS.iload X113.here hx rfl (hb hby at_201) rfl kk) ?_
            show OGo p e below _ (T113.setTop (mkF m 203 #[vi q1, vi q2, vi q3, vi q4, vi q5, vi q6, vi (Int32.ofNat ln), vi (q2 &&& (2147483647 : Int32)), vi (1 : Int32), vi (1 : Int32), vi (1 : Int32), vi (Int32.ofNat tb), vr b3, vl (1 : Int64), .second, vi (1 : Int32), vi (Int32.ofNat tb), vi (0 : Int32)] [(.int q6), (.int q5), (.int q4), (.int (1 : Int32)), (.ref b3)]))
            obtain ⟨cq131, kq131, q131a, q131b, q131c⟩ := isOf hZ rfl E113
            obtain ⟨_, _, ⟨T131, L131, k131, n131⟩, -, X131, ⟨Lc131, hQ131, l131, y131, z131⟩, st131⟩ := X113.virtualBack hx (y := (⟨"com/example/lockstep/lockstep/check/StepGroups", "holds", "(IIII)Z"⟩ : MethodName)) (z := (⟨"com/example/lockstep/lockstep/check/StepGroups", "holds", "(IIII)Z"⟩ : MethodName)) hown (mvT hZ (hw _ (List.mem_of_getElem? (i := 75) rfl))) (mvT hZ (hw _ (List.mem_of_getElem? (i := 76) rfl))) (notFace_of_selects (args := #[]) (mvT hZ (hw _ (List.mem_of_getElem? (i := 78) rfl)))) (mvT hZ (hw _ (List.mem_of_getElem? (i := 78) rfl))) (mvT hZ (hw _ (List.mem_of_getElem? (i := 77) rfl))) (by decide) (backOf (W := 0) (rmH l Z a0 hw [] b3 (1 : Int32) q4 q5 q6 em fr fb go ps ns fs lb sb bl pv nx pt qs ms (Int32.ofNat (1 + 1)) (1 : Int32) (0 : Int32) (1 : Int64) xfs113 xlb113 xbl113 xsb113 1 T113.heap n0 Z113 ⟨E113, F113_emptied, F113_free, F113_firstOfBlock, F113_groupOf, F113_previousStep, F113_nextStep, F113_firstStep, F113_label, F113_superBlock, F113_block, F113_previous, F113_next, F113_partner, F113_partnerStamp, F113_markStamp, F113_groupCount, F113_emptiedCount, F113_freeCount, F113_stamp⟩ ho0 gu Ofs_113 Olb_113 Obl_113 Osb_113 (Or.inr ⟨rfl, by decide⟩)) hZ (hw _ (List.mem_of_getElem? (i := 79) rfl)) (hw _ (List.mem_of_getElem? (i := 3) rfl)) (by decide) (by decide)) q131a q131c (g := (mkF m 203 #[vi q1, vi q2, vi q3, vi q4, vi q5, vi q6, vi (Int32.ofNat ln), vi (q2 &&& (2147483647 : Int32)), vi (1 : Int32), vi (1 : Int32), vi (1 : Int32), vi (Int32.ofNat tb), vr b3, vl (1 : Int64), .second, vi (1 : Int32), vi (Int32.ofNat tb), vi (0 : Int32)] [(.int q6), (.int q5), (.int q4), (.int (1 : Int32)), (.ref b3)])) rfl (by rw [hml]; rfl) (Steps.refl _) (argsL := [(.int (1 : Int32)), (.int q4), (.int q5), (.int q6)]) (rest := []) (lenOf pd0_2 rfl) rfl (by show 2 * 0 + _ ≤ _; exact Nat.le_of_eq rfl) (hb hby at_203) (fun _ _ => ⟨rfl, rfl, (by decide : 20 + 0 ≤ _), (by decide : 253 + 0 ≤ _)⟩)
            dsimp only [Pt.U, Pt.locs, Pt.cells, Pt.slots] at X131 l131 y131 z131 st131 hQ131
            subst l131 y131 z131
            obtain ⟨rfl, Nq131, e131⟩ := hQ131
            have N131 := Fr.app N113 Nq131
            obtain ⟨lo131, X131, N131⟩ : ∃ L, Stand p l e room_1 s m #[(.int q1), (.int q2), (.int q3), (.int q4), (.int q5), (.int q6)] below meth c T131 L 20 253 ∧ Fr n0 L := ⟨_, X131, N131⟩
            refine OGo.st (fun t kk => st131.trans kk) ?_
            show OGo p e below _ (T131.setTop (mkF m 206 #[vi q1, vi q2, vi q3, vi q4, vi q5, vi q6, vi (Int32.ofNat ln), vi (q2 &&& (2147483647 : Int32)), vi (1 : Int32), vi (1 : Int32), vi (1 : Int32), vi (Int32.ofNat tb), vr b3, vl (1 : Int64), .second, vi (1 : Int32), vi (Int32.ofNat tb), vi (0 : Int32)] [(.int (HD (1 : Int32) (xfs113 1) (xlb113 1) (xbl113 1) (xsb113 1) q4 q5 q6))]))
            refine OGo.st (fun t kk => XS.iload X131.here hx rfl (hb hby at_206) rfl kk) ?_
            show OGo p e below _ (T131.setTop (mkF m 208 #[vi q1, vi q2, vi q3, vi q4, vi q5, vi q6, vi (Int32.ofNat ln), vi (q2 &&& (2147483647 : Int32)), vi (1 : Int32), vi (1 : Int32), vi (1 : Int32), vi (Int32.ofNat tb), vr b3, vl (1 : Int64), .second, vi (1 : Int32), vi (Int32.ofNat tb), vi (0 : Int32)] [(.int (1 : Int32)), (.int (HD (1 : Int32) (xfs113 1) (xlb113 1) (xbl113 1) (xsb113 1) q4 q5 q6))]))
            refine OGo.st (fun t kk => XS.icmpNo X131.here hx rfl (hb hby at_208) rfl (teq (by simp +decide [HD, hx0113, hx1113, hx2113, hx3113, hx4113, hc170_128, hc177_129, hc184_130])).2 kk) ?_
            show OGo p e below _ (T131.setTop (mkF m 211 #[vi q1, vi q2, vi q3, vi q4, vi q5, vi q6, vi (Int32.ofNat ln), vi (q2 &&& (2147483647 : Int32)), vi (1 : Int32), vi (1 : Int32), vi (1 : Int32), vi (Int32.ofNat tb), vr b3, vl (1 : Int64), .second, vi (1 : Int32), vi (Int32.ofNat tb), vi (0 : Int32)] []))
            refine OGo.st (fun t kk => XS.iconst X131.here hx rfl (hb hby at_211) kk) ?_
            show OGo p e below _ (T131.setTop (mkF m 212 #[vi q1, vi q2, vi q3, vi q4, vi q5, vi q6, vi (Int32.ofNat ln), vi (q2 &&& (2147483647 : Int32)), vi (1 : Int32), vi (1 : Int32), vi (1 : Int32), vi (Int32.ofNat tb), vr b3, vl (1 : Int64), .second, vi (1 : Int32), vi (Int32.ofNat tb), vi (0 : Int32)] [(.int (1 : Int32))]))
            refine OGo.st (fun t kk => XS.goto X131.here hx rfl (pc0 := 212) (pc' := 216) rfl (hb hby at_212) (by decide) (by decide) kk) ?_
            show OGo p e below _ (T131.setTop (mkF m 216 #[vi q1, vi q2, vi q3, vi q4, vi q5, vi q6, vi (Int32.ofNat ln), vi (q2 &&& (2147483647 : Int32)), vi (1 : Int32), vi (1 : Int32), vi (1 : Int32), vi (Int32.ofNat tb), vr b3, vl (1 : Int64), .second, vi (1 : Int32), vi (Int32.ofNat tb), vi (0 : Int32)] [(.int (1 : Int32))]))
            exact OGo.outN X131 hx (t := .boolean) Bd.returns (by simp) Bd.notSynchronized (hb hby at_216) ⟨rfl, N131⟩ (by decide) (by decide)
          · refine OGo.st (fun t kk => XS.icmpYes X113.here hx rfl (pc0 := 184) (pc' := 191) rfl (hb hby at_184) rfl (feq hc184_130).2 (by decide) (by decide) kk) ?_
            show OGo p e below _ (T113.setTop (mkF m 191 #[vi q1, vi q2, vi q3, vi q4, vi q5, vi q6, vi (Int32.ofNat ln), vi (q2 &&& (2147483647 : Int32)), vi (1 : Int32), vi (1 : Int32), vi (1 : Int32), vi (Int32.ofNat tb), vr b3, vl (1 : Int64), .second, .unset, vi (Int32.ofNat tb), vi (0 : Int32)] []))
            refine OGo.st (fun t kk => XS.iconst X113.here hx rfl (hb hby at_191) kk) ?_
            show OGo p e below _ (T113.setTop (mkF m 192 #[vi q1, vi q2, vi q3, vi q4, vi q5, vi q6, vi (Int32.ofNat ln), vi (q2 &&& (2147483647 : Int32)), vi (1 : Int32), vi (1 : Int32), vi (1 : Int32), vi (Int32.ofNat tb), vr b3, vl (1 : Int64), .second, .unset, vi (Int32.ofNat tb), vi (0 : Int32)] [(.int (0 : Int32))]))
            refine OGo.st (fun t kk => XS.istore X113.here hx rfl (hb hby at_192) rfl (l' := #[vi q1, vi q2, vi q3, vi q4, vi q5, vi q6, vi (Int32.ofNat ln), vi (q2 &&& (2147483647 : Int32)), vi (1 : Int32), vi (1 : Int32), vi (1 : Int32), vi (Int32.ofNat tb), vr b3, vl (1 : Int64), .second, vi (0 : Int32), vi (Int32.ofNat tb), vi (0 : Int32)]) rfl kk) ?_
            show OGo p e below _ (T113.setTop (mkF m 194 #[vi q1, vi q2, vi q3, vi q4, vi q5, vi q6, vi (Int32.ofNat ln), vi (q2 &&& (2147483647 : Int32)), vi (1 : Int32), vi (1 : Int32), vi (1 : Int32), vi (Int32.ofNat tb), vr b3, vl (1 : Int64), .second, vi (0 : Int32), vi (Int32.ofNat tb), vi (0 : Int32)] []))
            refine OGo.st (fun t kk => XS.aload X113.here hx rfl (hb hby at_194) rfl rfl kk) ?_
            show OGo p e below _ (T113.setTop (mkF m 196 #[vi q1, vi q2, vi q3, vi q4, vi q5, vi q6, vi (Int32.ofNat ln), vi (q2 &&& (2147483647 : Int32)), vi (1 : Int32), vi (1 : Int32), vi (1 : Int32), vi (Int32.ofNat tb), vr b3, vl (1 : Int64), .second, vi (0 : Int32), vi (Int32.ofNat tb), vi (0 : Int32)] [(.ref b3)]))
            refine OGo.st (fun t kk => XS.iload X113.here hx rfl (hb hby at_196) rfl kk) ?_
            show OGo p e below _ (T113.setTop (mkF m 198 #[vi q1, vi q2, vi q3, vi q4, vi q5, vi q6, vi (Int32.ofNat ln), vi (q2 &&& (2147483647 : Int32)), vi (1 : Int32), vi (1 : Int32), vi (1 : Int32), vi (Int32.ofNat tb), vr b3, vl (1 : Int64), .second, vi (0 : Int32), vi (Int32.ofNat tb), vi (0 : Int32)] [(.int (1 : Int32)), (.ref b3)]))
            refine OGo.st (fun t kk => XS.iloadN X113.here hx rfl (hb hby at_198) rfl kk) ?_
            show OGo p e below _ (T113.setTop (mkF m 199 #[vi q1, vi q2, vi q3, vi q4, vi q5, vi q6, vi (Int32.ofNat ln), vi (q2 &&& (2147483647 : Int32)), vi (1 : Int32), vi (1 : Int32), vi (1 : Int32), vi (Int32.ofNat tb), vr b3, vl (1 : Int64), .second, vi (0 : Int32), vi (Int32.ofNat tb), vi (0 : Int32)] [(.int q4), (.int (1 : Int32)), (.ref b3)]))
            refine OGo.st (fun t kk => XS.iload X113.here hx rfl (hb hby at_199) rfl kk) ?_
            show OGo p e below _ (T113.setTop (mkF m 201 #[vi q1, vi q2, vi q3, vi q4, vi q5, vi q6, vi (Int32.ofNat ln), vi (q2 &&& (2147483647 : Int32)), vi (1 : Int32), vi (1 : Int32), vi (1 : Int32), vi (Int32.ofNat tb), vr b3, vl (1 : Int64), .second, vi (0 : Int32), vi (Int32.ofNat tb), vi (0 : Int32)] [(.int q5), (.int q4), (.int (1 : Int32)), (.ref b3)]))
            refine OGo.st (fun t kk => XS.iload X113.here hx rfl (hb hby at_201) rfl kk) ?_
            show OGo p e below _ (T113.setTop (mkF m 203 #[vi q1, vi q2, vi q3, vi q4, vi q5, vi q6, vi (Int32.ofNat ln), vi (q2 &&& (2147483647 : Int32)), vi (1 : Int32), vi (1 : Int32), vi (1 : Int32), vi (Int32.ofNat tb), vr b3, vl (1 : Int64), .second, vi (0 : Int32), vi (Int32.ofNat tb), vi (0 : Int32)] [(.int q6), (.int q5), (.int q4), (.int (1 : Int32)), (.ref b3)]))
            obtain ⟨cq132, kq132, q132a, q132b, q132c⟩ := isOf hZ rfl E113
            obtain ⟨_, _, ⟨T132, L132, k132, n132⟩, -, X132, ⟨Lc132, hQ132, l132, y132, z132⟩, st132⟩ := X113.virtualBack hx (y := (⟨"com/example/lockstep/lockstep/check/StepGroups", "holds", "(IIII)Z"⟩ : MethodName)) (z := (⟨"com/example/lockstep/lockstep/check/StepGroups", "holds", "(IIII)Z"⟩ : MethodName)) hown (mvT hZ (hw _ (List.mem_of_getElem? (i := 75) rfl))) (mvT hZ (hw _ (List.mem_of_getElem? (i := 76) rfl))) (notFace_of_selects (args := #[]) (mvT hZ (hw _ (List.mem_of_getElem? (i := 78) rfl)))) (mvT hZ (hw _ (List.mem_of_getElem? (i := 78) rfl))) (mvT hZ (hw _ (List.mem_of_getElem? (i := 77) rfl))) (by decide) (backOf (W := 0) (rmH l Z a0 hw [] b3 (1 : Int32) q4 q5 q6 em fr fb go ps ns fs lb sb bl pv nx pt qs ms (Int32.ofNat (1 + 1)) (1 : Int32) (0 : Int32) (1 : Int64) xfs113 xlb113 xbl113 xsb113 1 T113.heap n0 Z113 ⟨E113, F113_emptied, F113_free, F113_firstOfBlock, F113_groupOf, F113_previousStep, F113_nextStep, F113_firstStep, F113_label, F113_superBlock, F113_block, F113_previous, F113_next, F113_partner, F113_partnerStamp, F113_markStamp, F113_groupCount, F113_emptiedCount, F113_freeCount, F113_stamp⟩ ho0 gu Ofs_113 Olb_113 Obl_113 Osb_113 (Or.inr ⟨rfl, by decide⟩)) hZ (hw _ (List.mem_of_getElem? (i := 79) rfl)) (hw _ (List.mem_of_getElem? (i := 3) rfl)) (by decide) (by decide)) q132a q132c (g := (mkF m 203 #[vi q1, vi q2, vi q3, vi q4, vi q5, vi q6, vi (Int32.ofNat ln), vi (q2 &&& (2147483647 : Int32)), vi (1 : Int32), vi (1 : Int32), vi (1 : Int32), vi (Int32.ofNat tb), vr b3, vl (1 : Int64), .second, vi (0 : Int32), vi (Int32.ofNat tb), vi (0 : Int32)] [(.int q6), (.int q5), (.int q4), (.int (1 : Int32)), (.ref b3)])) rfl (by rw [hml]; rfl) (Steps.refl _) (argsL := [(.int (1 : Int32)), (.int q4), (.int q5), (.int q6)]) (rest := []) (lenOf pd0_2 rfl) rfl (by show 2 * 0 + _ ≤ _; exact Nat.le_of_eq rfl) (hb hby at_203) (fun _ _ => ⟨rfl, rfl, (by decide : 20 + 0 ≤ _), (by decide : 253 + 0 ≤ _)⟩)
            dsimp only [Pt.U, Pt.locs, Pt.cells, Pt.slots] at X132 l132 y132 z132 st132 hQ132
            subst l132 y132 z132
            obtain ⟨rfl, Nq132, e132⟩ := hQ132
            have N132 := Fr.app N113 Nq132
            obtain ⟨lo132, X132, N132⟩ : ∃ L, Stand p l e room_1 s m #[(.int q1), (.int q2), (.int q3), (.int q4), (.int q5), (.int q6)] below meth c T132 L 20 253 ∧ Fr n0 L := ⟨_, X132, N132⟩
            refine OGo.st (fun t kk => st132.trans kk) ?_
            show OGo p e below _ (T132.setTop (mkF m 206 #[vi q1, vi q2, vi q3, vi q4, vi q5, vi q6, vi (Int32.ofNat ln), vi (q2 &&& (2147483647 : Int32)), vi (1 : Int32), vi (1 : Int32), vi (1 : Int32), vi (Int32.ofNat tb), vr b3, vl (1 : Int64), .second, vi (0 : Int32), vi (Int32.ofNat tb), vi (0 : Int32)] [(.int (HD (1 : Int32) (xfs113 1) (xlb113 1) (xbl113 1) (xsb113 1) q4 q5 q6))]))
            refine OGo.st (fun t kk => XS.iload X132.here hx rfl (hb hby at_206) rfl kk) ?_
            show OGo p e below _ (T132.setTop (mkF m 208 #[vi q1, vi q2, vi q3, vi q4, vi q5, vi q6, vi (Int32.ofNat ln), vi (q2 &&& (2147483647 : Int32)), vi (1 : Int32), vi (1 : Int32), vi (1 : Int32), vi (Int32.ofNat tb), vr b3, vl (1 : Int64), .second, vi (0 : Int32), vi (Int32.ofNat tb), vi (0 : Int32)] [(.int (0 : Int32)), (.int (HD (1 : Int32) (xfs113 1) (xlb113 1) (xbl113 1) (xsb113 1) q4 q5 q6))]))
            refine OGo.st (fun t kk => XS.icmpNo X132.here hx rfl (hb hby at_208) rfl (teq (by simp +decide [HD, hx0113, hx1113, hx2113, hx3113, hx4113, hc170_128, hc177_129, hc184_130, (show ¬ (0 : Int32) = q6 from fun e => hc184_130 e.symm)])).2 kk) ?_
            show OGo p e below _ (T132.setTop (mkF m 211 #[vi q1, vi q2, vi q3, vi q4, vi q5, vi q6, vi (Int32.ofNat ln), vi (q2 &&& (2147483647 : Int32)), vi (1 : Int32), vi (1 : Int32), vi (1 : Int32), vi (Int32.ofNat tb), vr b3, vl (1 : Int64), .second, vi (0 : Int32), vi (Int32.ofNat tb), vi (0 : Int32)] []))
            refine OGo.st (fun t kk => XS.iconst X132.here hx rfl (hb hby at_211) kk) ?_
            show OGo p e below _ (T132.setTop (mkF m 212 #[vi q1, vi q2, vi q3, vi q4, vi q5, vi q6, vi (Int32.ofNat ln), vi (q2 &&& (2147483647 : Int32)), vi (1 : Int32), vi (1 : Int32), vi (1 : Int32), vi (Int32.ofNat tb), vr b3, vl (1 : Int64), .second, vi (0 : Int32), vi (Int32.ofNat tb), vi (0 : Int32)] [(.int (1 : Int32))]))
            refine OGo.st (fun t kk => XS.goto X132.here hx rfl (pc0 := 212) (pc' := 216) rfl (hb hby at_212) (by decide) (by decide) kk) ?_
            show OGo p e below _ (T132.setTop (mkF m 216 #[vi q1, vi q2, vi q3, vi q4, vi q5, vi q6, vi (Int32.ofNat ln), vi (q2 &&& (2147483647 : Int32)), vi (1 : Int32), vi (1 : Int32), vi (1 : Int32), vi (Int32.ofNat tb), vr b3, vl (1 : Int64), .second, vi (0 : Int32), vi (Int32.ofNat tb), vi (0 : Int32)] [(.int (1 : Int32))]))
            exact OGo.outN X132 hx (t := .boolean) Bd.returns (by simp) Bd.notSynchronized (hb hby at_216) ⟨rfl, N132⟩ (by decide) (by decide)
        · refine OGo.st (fun t kk => XS.icmpYes X113.here hx rfl (pc0 := 177) (pc' := 191) rfl (hb hby at_177) rfl (feq hc177_129).2 (by decide) (by decide) kk) ?_
          show OGo p e below _ (T113.setTop (mkF m 191 #[vi q1, vi q2, vi q3, vi q4, vi q5, vi q6, vi (Int32.ofNat ln), vi (q2 &&& (2147483647 : Int32)), vi (1 : Int32), vi (1 : Int32), vi (1 : Int32), vi (Int32.ofNat tb), vr b3, vl (1 : Int64), .second, .unset, vi (Int32.ofNat tb), vi (0 : Int32)] []))
          refine OGo.st (fun t kk => XS.iconst X113.here hx rfl (hb hby at_191) kk) ?_
          show OGo p e below _ (T113.setTop (mkF m 192 #[vi q1, vi q2, vi q3, vi q4, vi q5, vi q6, vi (Int32.ofNat ln), vi (q2 &&& (2147483647 : Int32)), vi (1 : Int32), vi (1 : Int32), vi (1 : Int32), vi (Int32.ofNat tb), vr b3, vl (1 : Int64), .second, .unset, vi (Int32.ofNat tb), vi (0 : Int32)] [(.int (0 : Int32))]))
          refine OGo.st (fun t kk => XS.istore X113.here hx rfl (hb hby at_192) rfl (l' := #[vi q1, vi q2, vi q3, vi q4, vi q5, vi q6, vi (Int32.ofNat ln), vi (q2 &&& (2147483647 : Int32)), vi (1 : Int32), vi (1 : Int32), vi (1 : Int32), vi (Int32.ofNat tb), vr b3, vl (1 : Int64), .second, vi (0 : Int32), vi (Int32.ofNat tb), vi (0 : Int32)]) rfl kk) ?_
          show OGo p e below _ (T113.setTop (mkF m 194 #[vi q1, vi q2, vi q3, vi q4, vi q5, vi q6, vi (Int32.ofNat ln), vi (q2 &&& (2147483647 : Int32)), vi (1 : Int32), vi (1 : Int32), vi (1 : Int32), vi (Int32.ofNat tb), vr b3, vl (1 : Int64), .second, vi (0 : Int32), vi (Int32.ofNat tb), vi (0 : Int32)] []))
          refine OGo.st (fun t kk => XS.aload X113.here hx rfl (hb hby at_194) rfl rfl kk) ?_
          show OGo p e below _ (T113.setTop (mkF m 196 #[vi q1, vi q2, vi q3, vi q4, vi q5, vi q6, vi (Int32.ofNat ln), vi (q2 &&& (2147483647 : Int32)), vi (1 : Int32), vi (1 : Int32), vi (1 : Int32), vi (Int32.ofNat tb), vr b3, vl (1 : Int64), .second, vi (0 : Int32), vi (Int32.ofNat tb), vi (0 : Int32)] [(.ref b3)]))
          refine OGo.st (fun t kk => XS.iload X113.here hx rfl (hb hby at_196) rfl kk) ?_
          show OGo p e below _ (T113.setTop (mkF m 198 #[vi q1, vi q2, vi q3, vi q4, vi q5, vi q6, vi (Int32.ofNat ln), vi (q2 &&& (2147483647 : Int32)), vi (1 : Int32), vi (1 : Int32), vi (1 : Int32), vi (Int32.ofNat tb), vr b3, vl (1 : Int64), .second, vi (0 : Int32), vi (Int32.ofNat tb), vi (0 : Int32)] [(.int (1 : Int32)), (.ref b3)]))
          refine OGo.st (fun t kk => XS.iloadN X113.here hx rfl (hb hby at_198) rfl kk) ?_
          show OGo p e below _ (T113.setTop (mkF m 199 #[vi q1, vi q2, vi q3, vi q4, vi q5, vi q6, vi (Int32.ofNat ln), vi (q2 &&& (2147483647 : Int32)), vi (1 : Int32), vi (1 : Int32), vi (1 : Int32), vi (Int32.ofNat tb), vr b3, vl (1 : Int64), .second, vi (0 : Int32), vi (Int32.ofNat tb), vi (0 : Int32)] [(.int q4), (.int (1 : Int32)), (.ref b3)]))
          refine OGo.st (fun t kk => XS.iload X113.here hx rfl (hb hby at_199) rfl kk) ?_
          show OGo p e below _ (T113.setTop (mkF m 201 #[vi q1, vi q2, vi q3, vi q4, vi q5, vi q6, vi (Int32.ofNat ln), vi (q2 &&& (2147483647 : Int32)), vi (1 : Int32), vi (1 : Int32), vi (1 : Int32), vi (Int32.ofNat tb), vr b3, vl (1 : Int64), .second, vi (0 : Int32), vi (Int32.ofNat tb), vi (0 : Int32)] [(.int q5), (.int q4), (.int (1 : Int32)), (.ref b3)]))
          refine OGo.st (fun t kk => XS.iload X113.here hx rfl (hb hby at_201) rfl kk) ?_
          show OGo p e below _ (T113.setTop (mkF m 203 #[vi q1, vi q2, vi q3, vi q4, vi q5, vi q6, vi (Int32.ofNat ln), vi (q2 &&& (2147483647 : Int32)), vi (1 : Int32), vi (1 : Int32), vi (1 : Int32), vi (Int32.ofNat tb), vr b3, vl (1 : Int64), .second, vi (0 : Int32), vi (Int32.ofNat tb), vi (0 : Int32)] [(.int q6), (.int q5), (.int q4), (.int (1 : Int32)), (.ref b3)]))
          obtain ⟨cq133, kq133, q133a, q133b, q133c⟩ := isOf hZ rfl E113
          obtain ⟨_, _, ⟨T133, L133, k133, n133⟩, -, X133, ⟨Lc133, hQ133, l133, y133, z133⟩, st133⟩ := X113.virtualBack hx (y := (⟨"com/example/lockstep/lockstep/check/StepGroups", "holds", "(IIII)Z"⟩ : MethodName)) (z := (⟨"com/example/lockstep/lockstep/check/StepGroups", "holds", "(IIII)Z"⟩ : MethodName)) hown (mvT hZ (hw _ (List.mem_of_getElem? (i := 75) rfl))) (mvT hZ (hw _ (List.mem_of_getElem? (i := 76) rfl))) (notFace_of_selects (args := #[]) (mvT hZ (hw _ (List.mem_of_getElem? (i := 78) rfl)))) (mvT hZ (hw _ (List.mem_of_getElem? (i := 78) rfl))) (mvT hZ (hw _ (List.mem_of_getElem? (i := 77) rfl))) (by decide) (backOf (W := 0) (rmH l Z a0 hw [] b3 (1 : Int32) q4 q5 q6 em fr fb go ps ns fs lb sb bl pv nx pt qs ms (Int32.ofNat (1 + 1)) (1 : Int32) (0 : Int32) (1 : Int64) xfs113 xlb113 xbl113 xsb113 1 T113.heap n0 Z113 ⟨E113, F113_emptied, F113_free, F113_firstOfBlock, F113_groupOf, F113_previousStep, F113_nextStep, F113_firstStep, F113_label, F113_superBlock, F113_block, F113_previous, F113_next, F113_partner, F113_partnerStamp, F113_markStamp, F113_groupCount, F113_emptiedCount, F113_freeCount, F113_stamp⟩ ho0 gu Ofs_113 Olb_113 Obl_113 Osb_113 (Or.inr ⟨rfl, by decide⟩)) hZ (hw _ (List.mem_of_getElem? (i := 79) rfl)) (hw _ (List.mem_of_getElem? (i := 3) rfl)) (by decide) (by decide)) q133a q133c (g := (mkF m 203 #[vi q1, vi q2, vi q3, vi q4, vi q5, vi q6, vi (Int32.ofNat ln), vi (q2 &&& (2147483647 : Int32)), vi (1 : Int32), vi (1 : Int32), vi (1 : Int32), vi (Int32.ofNat tb), vr b3, vl (1 : Int64), .second, vi (0 : Int32), vi (Int32.ofNat tb), vi (0 : Int32)] [(.int q6), (.int q5), (.int q4), (.int (1 : Int32)), (.ref b3)])) rfl (by rw [hml]; rfl) (Steps.refl _) (argsL := [(.int (1 : Int32)), (.int q4), (.int q5), (.int q6)]) (rest := []) (lenOf pd0_2 rfl) rfl (by show 2 * 0 + _ ≤ _; exact Nat.le_of_eq rfl) (hb hby at_203) (fun _ _ => ⟨rfl, rfl, (by decide : 20 + 0 ≤ _), (by decide : 253 + 0 ≤ _)⟩)
          dsimp only [Pt.U, Pt.locs, Pt.cells, Pt.slots] at X133 l133 y133 z133 st133 hQ133
          subst l133 y133 z133
          obtain ⟨rfl, Nq133, e133⟩ := hQ133
          have N133 := Fr.app N113 Nq133
          obtain ⟨lo133, X133, N133⟩ : ∃ L, Stand p l e room_1 s m #[(.int q1), (.int q2), (.int q3), (.int q4), (.int q5), (.int q6)] below meth c T133 L 20 253 ∧ Fr n0 L := ⟨_, X133, N133⟩
          refine OGo.st (fun t kk => st133.trans kk) ?_
          show OGo p e below _ (T133.setTop (mkF m 206 #[vi q1, vi q2, vi q3, vi q4, vi q5, vi q6, vi (Int32.ofNat ln), vi (q2 &&& (2147483647 : Int32)), vi (1 : Int32), vi (1 : Int32), vi (1 : Int32), vi (Int32.ofNat tb), vr b3, vl (1 : Int64), .second, vi (0 : Int32), vi (Int32.ofNat tb), vi (0 : Int32)] [(.int (HD (1 : Int32) (xfs113 1) (xlb113 1) (xbl113 1) (xsb113 1) q4 q5 q6))]))
          refine OGo.st (fun t kk => XS.iload X133.here hx rfl (hb hby at_206) rfl kk) ?_
          show OGo p e below _ (T133.setTop (mkF m 208 #[vi q1, vi q2, vi q3, vi q4, vi q5, vi q6, vi (Int32.ofNat ln), vi (q2 &&& (2147483647 : Int32)), vi (1 : Int32), vi (1 : Int32), vi (1 : Int32), vi (Int32.ofNat tb), vr b3, vl (1 : Int64), .second, vi (0 : Int32), vi (Int32.ofNat tb), vi (0 : Int32)] [(.int (0 : Int32)), (.int (HD (1 : Int32) (xfs113 1) (xlb113 1) (xbl113 1) (xsb113 1) q4 q5 q6))]))
          refine OGo.st (fun t kk => XS.icmpNo X133.here hx rfl (hb hby at_208) rfl (teq (by simp +decide [HD, hx0113, hx1113, hx2113, hx3113, hx4113, hc170_128, hc177_129, (show ¬ (Int32.ofNat tb) = q5 from fun e => hc177_129 e.symm)])).2 kk) ?_
          show OGo p e below _ (T133.setTop (mkF m 211 #[vi q1, vi q2, vi q3, vi q4, vi q5, vi q6, vi (Int32.ofNat ln), vi (q2 &&& (2147483647 : Int32)), vi (1 : Int32), vi (1 : Int32), vi (1 : Int32), vi (Int32.ofNat tb), vr b3, vl (1 : Int64), .second, vi (0 : Int32), vi (Int32.ofNat tb), vi (0 : Int32)] []))
          refine OGo.st (fun t kk => XS.iconst X133.here hx rfl (hb hby at_211) kk) ?_
          show OGo p e below _ (T133.setTop (mkF m 212 #[vi q1, vi q2, vi q3, vi q4, vi q5, vi q6, vi (Int32.ofNat ln), vi (q2 &&& (2147483647 : Int32)), vi (1 : Int32), vi (1 : Int32), vi (1 : Int32), vi (Int32.ofNat tb), vr b3, vl (1 : Int64), .second, vi (0 : Int32), vi (Int32.ofNat tb), vi (0 : Int32)] [(.int (1 : Int32))]))
          refine OGo.st (fun t kk => XS.goto X133.here hx rfl (pc0 := 212) (pc' := 216) rfl (hb hby at_212) (by decide) (by decide) kk) ?_
          show OGo p e below _ (T133.setTop (mkF m 216 #[vi q1, vi q2, vi q3, vi q4, vi q5, vi q6, vi (Int32.ofNat ln), vi (q2 &&& (2147483647 : Int32)), vi (1 : Int32), vi (1 : Int32), vi (1 : Int32), vi (Int32.ofNat tb), vr b3, vl (1 : Int64), .second, vi (0 : Int32), vi (Int32.ofNat tb), vi (0 : Int32)] [(.int (1 : Int32))]))
          exact OGo.outN X133 hx (t := .boolean) Bd.returns (by simp) Bd.notSynchronized (hb hby at_216) ⟨rfl, N133⟩ (by decide) (by decide)
      · refine OGo.st (fun t kk => XS.icmpYes X113.here hx rfl (pc0 := 170) (pc' := 191) rfl (hb hby at_170) rfl (feq hc170_128).2 (by decide) (by decide) kk) ?_
        show OGo p e below _ (T113.setTop (mkF m 191 #[vi q1, vi q2, vi q3, vi q4, vi q5, vi q6, vi (Int32.ofNat ln), vi (q2 &&& (2147483647 : Int32)), vi (1 : Int32), vi (1 : Int32), vi (1 : Int32), vi (Int32.ofNat tb), vr b3, vl (1 : Int64), .second, .unset, vi (Int32.ofNat tb), vi (0 : Int32)] []))
        refine OGo.st (fun t kk => XS.iconst X113.here hx rfl (hb hby at_191) kk) ?_
        show OGo p e below _ (T113.setTop (mkF m 192 #[vi q1, vi q2, vi q3, vi q4, vi q5, vi q6, vi (Int32.ofNat ln), vi (q2 &&& (2147483647 : Int32)), vi (1 : Int32), vi (1 : Int32), vi (1 : Int32), vi (Int32.ofNat tb), vr b3, vl (1 : Int64), .second, .unset, vi (Int32.ofNat tb), vi (0 : Int32)] [(.int (0 : Int32))]))
        refine OGo.st (fun t kk => XS.istore X113.here hx rfl (hb hby at_192) rfl (l' := #[vi q1, vi q2, vi q3, vi q4, vi q5, vi q6, vi (Int32.ofNat ln), vi (q2 &&& (2147483647 : Int32)), vi (1 : Int32), vi (1 : Int32), vi (1 : Int32), vi (Int32.ofNat tb), vr b3, vl (1 : Int64), .second, vi (0 : Int32), vi (Int32.ofNat tb), vi (0 : Int32)]) rfl kk) ?_
        show OGo p e below _ (T113.setTop (mkF m 194 #[vi q1, vi q2, vi q3, vi q4, vi q5, vi q6, vi (Int32.ofNat ln), vi (q2 &&& (2147483647 : Int32)), vi (1 : Int32), vi (1 : Int32), vi (1 : Int32), vi (Int32.ofNat tb), vr b3, vl (1 : Int64), .second, vi (0 : Int32), vi (Int32.ofNat tb), vi (0 : Int32)] []))
        refine OGo.st (fun t kk => XS.aload X113.here hx rfl (hb hby at_194) rfl rfl kk) ?_
        show OGo p e below _ (T113.setTop (mkF m 196 #[vi q1, vi q2, vi q3, vi q4, vi q5, vi q6, vi (Int32.ofNat ln), vi (q2 &&& (2147483647 : Int32)), vi (1 : Int32), vi (1 : Int32), vi (1 : Int32), vi (Int32.ofNat tb), vr b3, vl (1 : Int64), .second, vi (0 : Int32), vi (Int32.ofNat tb), vi (0 : Int32)] [(.ref b3)]))
        refine OGo.st (fun t kk => XS.iload X113.here hx rfl (hb hby at_196) rfl kk) ?_
        show OGo p e below _ (T113.setTop (mkF m 198 #[vi q1, vi q2, vi q3, vi q4, vi q5, vi q6, vi (Int32.ofNat ln), vi (q2 &&& (2147483647 : Int32)), vi (1 : Int32), vi (1 : Int32), vi (1 : Int32), vi (Int32.ofNat tb), vr b3, vl (1 : Int64), .second, vi (0 : Int32), vi (Int32.ofNat tb), vi (0 : Int32)] [(.int (1 : Int32)), (.ref b3)]))
        refine OGo.st (fun t kk => XS.iloadN X113.here hx rfl (hb hby at_198) rfl kk) ?_
        show OGo p e below _ (T113.setTop (mkF m 199 #[vi q1, vi q2, vi q3, vi q4, vi q5, vi q6, vi (Int32.ofNat ln), vi (q2 &&& (2147483647 : Int32)), vi (1 : Int32), vi (1 : Int32), vi (1 : Int32), vi (Int32.ofNat tb), vr b3, vl (1 : Int64), .second, vi (0 : Int32), vi (Int32.ofNat tb), vi (0 : Int32)] [(.int q4), (.int (1 : Int32)), (.ref b3)]))
        refine OGo.st (fun t kk => XS.iload X113.here hx rfl (hb hby at_199) rfl kk) ?_
        show OGo p e below _ (T113.setTop (mkF m 201 #[vi q1, vi q2, vi q3, vi q4, vi q5, vi q6, vi (Int32.ofNat ln), vi (q2 &&& (2147483647 : Int32)), vi (1 : Int32), vi (1 : Int32), vi (1 : Int32), vi (Int32.ofNat tb), vr b3, vl (1 : Int64), .second, vi (0 : Int32), vi (Int32.ofNat tb), vi (0 : Int32)] [(.int q5), (.int q4), (.int (1 : Int32)), (.ref b3)]))
        refine OGo.st (fun t kk => XS.iload X113.here hx rfl (hb hby at_201) rfl kk) ?_
        show OGo p e below _ (T113.setTop (mkF m 203 #[vi q1, vi q2, vi q3, vi q4, vi q5, vi q6, vi (Int32.ofNat ln), vi (q2 &&& (2147483647 : Int32)), vi (1 : Int32), vi (1 : Int32), vi (1 : Int32), vi (Int32.ofNat tb), vr b3, vl (1 : Int64), .second, vi (0 : Int32), vi (Int32.ofNat tb), vi (0 : Int32)] [(.int q6), (.int q5), (.int q4), (.int (1 : Int32)), (.ref b3)]))
        obtain ⟨cq134, kq134, q134a, q134b, q134c⟩ := isOf hZ rfl E113
        obtain ⟨_, _, ⟨T134, L134, k134, n134⟩, -, X134, ⟨Lc134, hQ134, l134, y134, z134⟩, st134⟩ := X113.virtualBack hx (y := (⟨"com/example/lockstep/lockstep/check/StepGroups", "holds", "(IIII)Z"⟩ : MethodName)) (z := (⟨"com/example/lockstep/lockstep/check/StepGroups", "holds", "(IIII)Z"⟩ : MethodName)) hown (mvT hZ (hw _ (List.mem_of_getElem? (i := 75) rfl))) (mvT hZ (hw _ (List.mem_of_getElem? (i := 76) rfl))) (notFace_of_selects (args := #[]) (mvT hZ (hw _ (List.mem_of_getElem? (i := 78) rfl)))) (mvT hZ (hw _ (List.mem_of_getElem? (i := 78) rfl))) (mvT hZ (hw _ (List.mem_of_getElem? (i := 77) rfl))) (by decide) (backOf (W := 0) (rmH l Z a0 hw [] b3 (1 : Int32) q4 q5 q6 em fr fb go ps ns fs lb sb bl pv nx pt qs ms (Int32.ofNat (1 + 1)) (1 : Int32) (0 : Int32) (1 : Int64) xfs113 xlb113 xbl113 xsb113 1 T113.heap n0 Z113 ⟨E113, F113_emptied, F113_free, F113_firstOfBlock, F113_groupOf, F113_previousStep, F113_nextStep, F113_firstStep, F113_label, F113_superBlock, F113_block, F113_previous, F113_next, F113_partner, F113_partnerStamp, F113_markStamp, F113_groupCount, F113_emptiedCount, F113_freeCount, F113_stamp⟩ ho0 gu Ofs_113 Olb_113 Obl_113 Osb_113 (Or.inr ⟨rfl, by decide⟩)) hZ (hw _ (List.mem_of_getElem? (i := 79) rfl)) (hw _ (List.mem_of_getElem? (i := 3) rfl)) (by decide) (by decide)) q134a q134c (g := (mkF m 203 #[vi q1, vi q2, vi q3, vi q4, vi q5, vi q6, vi (Int32.ofNat ln), vi (q2 &&& (2147483647 : Int32)), vi (1 : Int32), vi (1 : Int32), vi (1 : Int32), vi (Int32.ofNat tb), vr b3, vl (1 : Int64), .second, vi (0 : Int32), vi (Int32.ofNat tb), vi (0 : Int32)] [(.int q6), (.int q5), (.int q4), (.int (1 : Int32)), (.ref b3)])) rfl (by rw [hml]; rfl) (Steps.refl _) (argsL := [(.int (1 : Int32)), (.int q4), (.int q5), (.int q6)]) (rest := []) (lenOf pd0_2 rfl) rfl (by show 2 * 0 + _ ≤ _; exact Nat.le_of_eq rfl) (hb hby at_203) (fun _ _ => ⟨rfl, rfl, (by decide : 20 + 0 ≤ _), (by decide : 253 + 0 ≤ _)⟩)
        dsimp only [Pt.U, Pt.locs, Pt.cells, Pt.slots] at X134 l134 y134 z134 st134 hQ134
        subst l134 y134 z134
        obtain ⟨rfl, Nq134, e134⟩ := hQ134
        have N134 := Fr.app N113 Nq134
        obtain ⟨lo134, X134, N134⟩ : ∃ L, Stand p l e room_1 s m #[(.int q1), (.int q2), (.int q3), (.int q4), (.int q5), (.int q6)] below meth c T134 L 20 253 ∧ Fr n0 L := ⟨_, X134, N134⟩
        refine OGo.st (fun t kk => st134.trans kk) ?_
        show OGo p e below _ (T134.setTop (mkF m 206 #[vi q1, vi q2, vi q3, vi q4, vi q5, vi q6, vi (Int32.ofNat ln), vi (q2 &&& (2147483647 : Int32)), vi (1 : Int32), vi (1 : Int32), vi (1 : Int32), vi (Int32.ofNat tb), vr b3, vl (1 : Int64), .second, vi (0 : Int32), vi (Int32.ofNat tb), vi (0 : Int32)] [(.int (HD (1 : Int32) (xfs113 1) (xlb113 1) (xbl113 1) (xsb113 1) q4 q5 q6))]))
        refine OGo.st (fun t kk => XS.iload X134.here hx rfl (hb hby at_206) rfl kk) ?_
        show OGo p e below _ (T134.setTop (mkF m 208 #[vi q1, vi q2, vi q3, vi q4, vi q5, vi q6, vi (Int32.ofNat ln), vi (q2 &&& (2147483647 : Int32)), vi (1 : Int32), vi (1 : Int32), vi (1 : Int32), vi (Int32.ofNat tb), vr b3, vl (1 : Int64), .second, vi (0 : Int32), vi (Int32.ofNat tb), vi (0 : Int32)] [(.int (0 : Int32)), (.int (HD (1 : Int32) (xfs113 1) (xlb113 1) (xbl113 1) (xsb113 1) q4 q5 q6))]))
        refine OGo.st (fun t kk => XS.icmpNo X134.here hx rfl (hb hby at_208) rfl (teq (by simp +decide [HD, hx0113, hx1113, hx2113, hx3113, hx4113, hc170_128, (show ¬ (Int32.ofNat ln) = q4 from fun e => hc170_128 e.symm)])).2 kk) ?_
        show OGo p e below _ (T134.setTop (mkF m 211 #[vi q1, vi q2, vi q3, vi q4, vi q5, vi q6, vi (Int32.ofNat ln), vi (q2 &&& (2147483647 : Int32)), vi (1 : Int32), vi (1 : Int32), vi (1 : Int32), vi (Int32.ofNat tb), vr b3, vl (1 : Int64), .second, vi (0 : Int32), vi (Int32.ofNat tb), vi (0 : Int32)] []))
        refine OGo.st (fun t kk => XS.iconst X134.here hx rfl (hb hby at_211) kk) ?_
        show OGo p e below _ (T134.setTop (mkF m 212 #[vi q1, vi q2, vi q3, vi q4, vi q5, vi q6, vi (Int32.ofNat ln), vi (q2 &&& (2147483647 : Int32)), vi (1 : Int32), vi (1 : Int32), vi (1 : Int32), vi (Int32.ofNat tb), vr b3, vl (1 : Int64), .second, vi (0 : Int32), vi (Int32.ofNat tb), vi (0 : Int32)] [(.int (1 : Int32))]))
        refine OGo.st (fun t kk => XS.goto X134.here hx rfl (pc0 := 212) (pc' := 216) rfl (hb hby at_212) (by decide) (by decide) kk) ?_
        show OGo p e below _ (T134.setTop (mkF m 216 #[vi q1, vi q2, vi q3, vi q4, vi q5, vi q6, vi (Int32.ofNat ln), vi (q2 &&& (2147483647 : Int32)), vi (1 : Int32), vi (1 : Int32), vi (1 : Int32), vi (Int32.ofNat tb), vr b3, vl (1 : Int64), .second, vi (0 : Int32), vi (Int32.ofNat tb), vi (0 : Int32)] [(.int (1 : Int32))]))
        exact OGo.outN X134 hx (t := .boolean) Bd.returns (by simp) Bd.notSynchronized (hb hby at_216) ⟨rfl, N134⟩ (by decide) (by decide)
  · rcases hgs with rfl | rfl | rfl
    · rw [show (if (2 : Int32) = (0 : Int32) then (if (-1 : Int32) = (1 : Int32) then (0 : Int32) else (-1 : Int32)) else (-1 : Int32)) = (-1 : Int32) from by decide]
      show OGo p e below _ (T29.setTop (mkF m 78 #[vi q1, vi q2, vi q3, vi q4, vi q5, vi q6, vi (Int32.ofNat ln), vi (q2 &&& (2147483647 : Int32)), vi (2 : Int32), vi (-1 : Int32), vi (-1 : Int32), vi (Int32.ofNat tb), vr b3, vl (1 : Int64), .second, .unset, .unset, .unset] []))
      refine OGo.st (fun t kk => XS.iload X29.here hx rfl (hb hby at_78) rfl kk) ?_
      show OGo p e below _ (T29.setTop (mkF m 80 #[vi q1, vi q2, vi q3, vi q4, vi q5, vi q6, vi (Int32.ofNat ln), vi (q2 &&& (2147483647 : Int32)), vi (2 : Int32), vi (-1 : Int32), vi (-1 : Int32), vi (Int32.ofNat tb), vr b3, vl (1 : Int64), .second, .unset, .unset, .unset] [(.int (2 : Int32))]))
      refine OGo.st (fun t kk => XS.iconst X29.here hx rfl (hb hby at_80) kk) ?_
      show OGo p e below _ (T29.setTop (mkF m 81 #[vi q1, vi q2, vi q3, vi q4, vi q5, vi q6, vi (Int32.ofNat ln), vi (q2 &&& (2147483647 : Int32)), vi (2 : Int32), vi (-1 : Int32), vi (-1 : Int32), vi (Int32.ofNat tb), vr b3, vl (1 : Int64), .second, .unset, .unset, .unset] [(.int (1 : Int32)), (.int (2 : Int32))]))
      refine OGo.st (fun t kk => XS.icmpYes X29.here hx rfl (pc0 := 81) (pc' := 97) rfl (hb hby at_81) rfl (feq (by decide : ¬ ((2 : Int32) = (1 : Int32)))).2 (by decide) (by decide) kk) ?_
      show OGo p e below _ (T29.setTop (mkF m 97 #[vi q1, vi q2, vi q3, vi q4, vi q5, vi q6, vi (Int32.ofNat ln), vi (q2 &&& (2147483647 : Int32)), vi (2 : Int32), vi (-1 : Int32), vi (-1 : Int32), vi (Int32.ofNat tb), vr b3, vl (1 : Int64), .second, .unset, .unset, .unset] []))
      refine OGo.st (fun t kk => XS.iload X29.here hx rfl (hb hby at_97) rfl kk) ?_
      show OGo p e below _ (T29.setTop (mkF m 99 #[vi q1, vi q2, vi q3, vi q4, vi q5, vi q6, vi (Int32.ofNat ln), vi (q2 &&& (2147483647 : Int32)), vi (2 : Int32), vi (-1 : Int32), vi (-1 : Int32), vi (Int32.ofNat tb), vr b3, vl (1 : Int64), .second, .unset, .unset, .unset] [(.int (2 : Int32))]))
      refine OGo.st (fun t kk => XS.iconst X29.here hx rfl (hb hby at_99) kk) ?_
      show OGo p e below _ (T29.setTop (mkF m 100 #[vi q1, vi q2, vi q3, vi q4, vi q5, vi q6, vi (Int32.ofNat ln), vi (q2 &&& (2147483647 : Int32)), vi (2 : Int32), vi (-1 : Int32), vi (-1 : Int32), vi (Int32.ofNat tb), vr b3, vl (1 : Int64), .second, .unset, .unset, .unset] [(.int (2 : Int32)), (.int (2 : Int32))]))
      refine OGo.st (fun t kk => XS.icmpNo X29.here hx rfl (hb hby at_100) rfl (teq (by decide : ((2 : Int32) = (2 : Int32)))).2 kk) ?_
      show OGo p e below _ (T29.setTop (mkF m 103 #[vi q1, vi q2, vi q3, vi q4, vi q5, vi q6, vi (Int32.ofNat ln), vi (q2 &&& (2147483647 : Int32)), vi (2 : Int32), vi (-1 : Int32), vi (-1 : Int32), vi (Int32.ofNat tb), vr b3, vl (1 : Int64), .second, .unset, .unset, .unset] []))
      refine OGo.st (fun t kk => XS.aload X29.here hx rfl (hb hby at_103) rfl rfl kk) ?_
      show OGo p e below _ (T29.setTop (mkF m 105 #[vi q1, vi q2, vi q3, vi q4, vi q5, vi q6, vi (Int32.ofNat ln), vi (q2 &&& (2147483647 : Int32)), vi (2 : Int32), vi (-1 : Int32), vi (-1 : Int32), vi (Int32.ofNat tb), vr b3, vl (1 : Int64), .second, .unset, .unset, .unset] [(.ref b3)]))
      refine OGo.st (fun t kk => XS.iconst X29.here hx rfl (hb hby at_105) kk) ?_
      show OGo p e below _ (T29.setTop (mkF m 106 #[vi q1, vi q2, vi q3, vi q4, vi q5, vi q6, vi (Int32.ofNat ln), vi (q2 &&& (2147483647 : Int32)), vi (2 : Int32), vi (-1 : Int32), vi (-1 : Int32), vi (Int32.ofNat tb), vr b3, vl (1 : Int64), .second, .unset, .unset, .unset] [(.int (0 : Int32)), (.ref b3)]))
      refine OGo.st (fun t kk => XS.lload X29.here hx rfl (hb hby at_106) rfl kk) ?_
      show OGo p e below _ (T29.setTop (mkF m 108 #[vi q1, vi q2, vi q3, vi q4, vi q5, vi q6, vi (Int32.ofNat ln), vi (q2 &&& (2147483647 : Int32)), vi (2 : Int32), vi (-1 : Int32), vi (-1 : Int32), vi (Int32.ofNat tb), vr b3, vl (1 : Int64), .second, .unset, .unset, .unset] [(.long (1 : Int64)), (.int (0 : Int32)), (.ref b3)]))
      refine OGo.st (fun t kk => XS.iloadN X29.here hx rfl (hb hby at_108) rfl kk) ?_
      show OGo p e below _ (T29.setTop (mkF m 109 #[vi q1, vi q2, vi q3, vi q4, vi q5, vi q6, vi (Int32.ofNat ln), vi (q2 &&& (2147483647 : Int32)), vi (2 : Int32), vi (-1 : Int32), vi (-1 : Int32), vi (Int32.ofNat tb), vr b3, vl (1 : Int64), .second, .unset, .unset, .unset] [(.int q3), (.long (1 : Int64)), (.int (0 : Int32)), (.ref b3)]))
      have c136 := (O_em.keep K29 (ninS (Ne.symm n_b3_em) nin0))
      have c137 := (O_fb.keep K29 (ninS (Ne.symm n_b3_fb) nin0))
      have c138 := (O_go.keep K29 (ninS (Ne.symm n_b3_go) nin0))
      have c139 := (O_ps.keep K29 (ninS (Ne.symm n_b3_ps) nin0))
      have c140 := (O_ns.keep K29 (ninS (Ne.symm n_b3_ns) nin0))
      have c141 := (O_fs.keep K29 (ninS (Ne.symm n_b3_fs) nin0))
      have c142 := (O_lb.keep K29 (ninS (Ne.symm n_b3_lb) nin0))
      have c143 := (O_sb.keep K29 (ninS (Ne.symm n_b3_sb) nin0))
      have c144 := (O_bl.keep K29 (ninS (Ne.symm n_b3_bl) nin0))
      have c145 := (O_pv.keep K29 (ninS (Ne.symm n_b3_pv) nin0))
      have c146 := (O_nx.keep K29 (ninS (Ne.symm n_b3_nx) nin0))
      have c147 := (O_pt.keep K29 (ninS (Ne.symm n_b3_pt) nin0))
      have c148 := (O_qs.keep K29 (ninS (Ne.symm n_b3_qs) nin0))
      have c149 := (O_ms.keep K29 (ninS (Ne.symm n_b3_ms) nin0))
      obtain ⟨cq135, kq135, q135a, q135b, q135c⟩ := isOf hZ rfl E29
      obtain ⟨_, _, ⟨T135, L135, k135, n135⟩, -, X135, ⟨Lc135, hQ135, l135, y135, z135⟩, st135⟩ := X29.virtualBack hx (y := (⟨"com/example/lockstep/lockstep/check/StepGroups", "moveToSuperBlock", "(IJI)V"⟩ : MethodName)) (z := (⟨"com/example/lockstep/lockstep/check/StepGroups", "moveToSuperBlock", "(IJI)V"⟩ : MethodName)) hown (mvT hZ (hw _ (List.mem_of_getElem? (i := 93) rfl))) (mvT hZ (hw _ (List.mem_of_getElem? (i := 94) rfl))) (notFace_of_selects (args := #[]) (mvT hZ (hw _ (List.mem_of_getElem? (i := 96) rfl)))) (mvT hZ (hw _ (List.mem_of_getElem? (i := 96) rfl))) (mvT hZ (hw _ (List.mem_of_getElem? (i := 95) rfl))) (by decide) (backOf (W := 0) (rmP l Z a0 hw [] b3 q3 em fr fb go ps ns fs lb sb bl pv nx pt qs ms (Int32.ofNat ln) fem ffb fgo fps fns ffs flb fsb fbl fpv fnx fpt fqs fms T29.heap n0 Z29 ⟨E29, F29_emptied, F29_free, F29_firstOfBlock, F29_groupOf, F29_previousStep, F29_nextStep, F29_firstStep, F29_label, F29_superBlock, F29_block, F29_previous, F29_next, F29_partner, F29_partnerStamp, F29_markStamp, F29_groupCount, F29_emptiedCount, F29_freeCount, F29_stamp⟩ ho0 gu c136 c137 c138 c139 c140 c141 c142 c143 c144 c145 c146 c147 c148 c149 hqs hlb hps hns hpv hnx hbl hgo hfb0) hZ (hw _ (List.mem_of_getElem? (i := 97) rfl)) (hw _ (List.mem_of_getElem? (i := 3) rfl)) (by decide) (by decide)) q135a q135c (g := (mkF m 109 #[vi q1, vi q2, vi q3, vi q4, vi q5, vi q6, vi (Int32.ofNat ln), vi (q2 &&& (2147483647 : Int32)), vi (2 : Int32), vi (-1 : Int32), vi (-1 : Int32), vi (Int32.ofNat tb), vr b3, vl (1 : Int64), .second, .unset, .unset, .unset] [(.int q3), (.long (1 : Int64)), (.int (0 : Int32)), (.ref b3)])) rfl (by rw [hml]; rfl) (Steps.refl _) (argsL := [(.int (0 : Int32)), (.long (1 : Int64)), (.int q3)]) (rest := []) (lenOf pd0_3 rfl) rfl (by show 2 * 0 + _ ≤ _; exact Nat.le_of_eq rfl) (hb hby at_109) (fun _ _ => ⟨rfl, rfl, (by decide : 20 + 0 ≤ _), (by decide : 253 + 0 ≤ _)⟩)
      dsimp only [Pt.U, Pt.locs, Pt.cells, Pt.slots] at X135 l135 y135 z135 st135 hQ135
      subst l135 y135 z135
      obtain ⟨rfl, Nq135, Z135, Uq135, xfs135, xlb135, xbl135, xsb135, Ofs_135, Olb_135, Obl_135, Osb_135, hx0135, hx1135, hx2135, hx3135, hx4135⟩ := hQ135
      have N135 := Fr.app N29 Nq135
      obtain ⟨E135, F135_emptied, F135_free, F135_firstOfBlock, F135_groupOf, F135_previousStep, F135_nextStep, F135_firstStep, F135_label, F135_superBlock, F135_block, F135_previous, F135_next, F135_partner, F135_partnerStamp, F135_markStamp, F135_groupCount, F135_emptiedCount, F135_freeCount, F135_stamp⟩ := Uq135
      obtain ⟨lo135, X135, N135⟩ : ∃ L, Stand p l e room_1 s m #[(.int q1), (.int q2), (.int q3), (.int q4), (.int q5), (.int q6)] below meth c T135 L 20 253 ∧ Fr n0 L := ⟨_, X135, N135⟩
      refine OGo.st (fun t kk => st135.trans kk) ?_
      show OGo p e below _ (T135.setTop (mkF m 112 #[vi q1, vi q2, vi q3, vi q4, vi q5, vi q6, vi (Int32.ofNat ln), vi (q2 &&& (2147483647 : Int32)), vi (2 : Int32), vi (-1 : Int32), vi (-1 : Int32), vi (Int32.ofNat tb), vr b3, vl (1 : Int64), .second, .unset, .unset, .unset] []))
      refine OGo.st (fun t kk => XS.iload X135.here hx rfl (hb hby at_112) rfl kk) ?_
      show OGo p e below _ (T135.setTop (mkF m 114 #[vi q1, vi q2, vi q3, vi q4, vi q5, vi q6, vi (Int32.ofNat ln), vi (q2 &&& (2147483647 : Int32)), vi (2 : Int32), vi (-1 : Int32), vi (-1 : Int32), vi (Int32.ofNat tb), vr b3, vl (1 : Int64), .second, .unset, .unset, .unset] [(.int (-1 : Int32))]))
      refine OGo.st (fun t kk => XS.iconst X135.here hx rfl (hb hby at_114) kk) ?_
      show OGo p e below _ (T135.setTop (mkF m 115 #[vi q1, vi q2, vi q3, vi q4, vi q5, vi q6, vi (Int32.ofNat ln), vi (q2 &&& (2147483647 : Int32)), vi (2 : Int32), vi (-1 : Int32), vi (-1 : Int32), vi (Int32.ofNat tb), vr b3, vl (1 : Int64), .second, .unset, .unset, .unset] [(.int (-1 : Int32)), (.int (-1 : Int32))]))
      refine OGo.st (fun t kk => XS.icmpNo X135.here hx rfl (hb hby at_115) rfl (teq (by decide : ((-1 : Int32) = (-1 : Int32)))).2 kk) ?_
      show OGo p e below _ (T135.setTop (mkF m 118 #[vi q1, vi q2, vi q3, vi q4, vi q5, vi q6, vi (Int32.ofNat ln), vi (q2 &&& (2147483647 : Int32)), vi (2 : Int32), vi (-1 : Int32), vi (-1 : Int32), vi (Int32.ofNat tb), vr b3, vl (1 : Int64), .second, .unset, .unset, .unset] []))
      refine OGo.st (fun t kk => XS.iconst X135.here hx rfl (hb hby at_118) kk) ?_
      show OGo p e below _ (T135.setTop (mkF m 119 #[vi q1, vi q2, vi q3, vi q4, vi q5, vi q6, vi (Int32.ofNat ln), vi (q2 &&& (2147483647 : Int32)), vi (2 : Int32), vi (-1 : Int32), vi (-1 : Int32), vi (Int32.ofNat tb), vr b3, vl (1 : Int64), .second, .unset, .unset, .unset] [(.int (0 : Int32))]))
      refine OGo.st (fun t kk => XS.istore X135.here hx rfl (hb hby at_119) rfl (l' := #[vi q1, vi q2, vi q3, vi q4, vi q5, vi q6, vi (Int32.ofNat ln), vi (q2 &&& (2147483647 : Int32)), vi (2 : Int32), vi (-1 : Int32), vi (-1 : Int32), vi (Int32.ofNat tb), vr b3, vl (1 : Int64), .second, vi (0 : Int32), .unset, .unset]) rfl kk) ?_
      show OGo p e below _ (T135.setTop (mkF m 121 #[vi q1, vi q2, vi q3, vi q4, vi q5, vi q6, vi (Int32.ofNat ln), vi (q2 &&& (2147483647 : Int32)), vi (2 : Int32), vi (-1 : Int32), vi (-1 : Int32), vi (Int32.ofNat tb), vr b3, vl (1 : Int64), .second, vi (0 : Int32), .unset, .unset] []))
      refine OGo.st (fun t kk => XS.goto X135.here hx rfl (pc0 := 121) (pc' := 194) rfl (hb hby at_121) (by decide) (by decide) kk) ?_
      show OGo p e below _ (T135.setTop (mkF m 194 #[vi q1, vi q2, vi q3, vi q4, vi q5, vi q6, vi (Int32.ofNat ln), vi (q2 &&& (2147483647 : Int32)), vi (2 : Int32), vi (-1 : Int32), vi (-1 : Int32), vi (Int32.ofNat tb), vr b3, vl (1 : Int64), .second, vi (0 : Int32), .unset, .unset] []))
      refine OGo.st (fun t kk => XS.aload X135.here hx rfl (hb hby at_194) rfl rfl kk) ?_
      show OGo p e below _ (T135.setTop (mkF m 196 #[vi q1, vi q2, vi q3, vi q4, vi q5, vi q6, vi (Int32.ofNat ln), vi (q2 &&& (2147483647 : Int32)), vi (2 : Int32), vi (-1 : Int32), vi (-1 : Int32), vi (Int32.ofNat tb), vr b3, vl (1 : Int64), .second, vi (0 : Int32), .unset, .unset] [(.ref b3)]))
      refine OGo.st (fun t kk => XS.iload X135.here hx rfl (hb hby at_196) rfl kk) ?_
      show OGo p e below _ (T135.setTop (mkF m 198 #[vi q1, vi q2, vi q3, vi q4, vi q5, vi q6, vi (Int32.ofNat ln), vi (q2 &&& (2147483647 : Int32)), vi (2 : Int32), vi (-1 : Int32), vi (-1 : Int32), vi (Int32.ofNat tb), vr b3, vl (1 : Int64), .second, vi (0 : Int32), .unset, .unset] [(.int (-1 : Int32)), (.ref b3)]))
      refine OGo.st (fun t kk => XS.iloadN X135.here hx rfl (hb hby at_198) rfl kk) ?_
      show OGo p e below _ (T135.setTop (mkF m 199 #[vi q1, vi q2, vi q3, vi q4, vi q5, vi q6, vi (Int32.ofNat ln), vi (q2 &&& (2147483647 : Int32)), vi (2 : Int32), vi (-1 : Int32), vi (-1 : Int32), vi (Int32.ofNat tb), vr b3, vl (1 : Int64), .second, vi (0 : Int32), .unset, .unset] [(.int q4), (.int (-1 : Int32)), (.ref b3)]))
      refine OGo.st (fun t kk => XS.iload X135.here hx rfl (hb hby at_199) rfl kk) ?_
      show OGo p e below _ (T135.setTop (mkF m 201 #[vi q1, vi q2, vi q3, vi q4, vi q5, vi q6, vi (Int32.ofNat ln), vi (q2 &&& (2147483647 : Int32)), vi (2 : Int32), vi (-1 : Int32), vi (-1 : Int32), vi (Int32.ofNat tb), vr b3, vl (1 : Int64), .second, vi (0 : Int32), .unset, .unset] [(.int q5), (.int q4), (.int (-1 : Int32)), (.ref b3)]))
      refine OGo.st (fun t kk => XS.iload X135.here hx rfl (hb hby at_201) rfl kk) ?_
      show OGo p e below _ (T135.setTop (mkF m 203 #[vi q1, vi q2, vi q3, vi q4, vi q5, vi q6, vi (Int32.ofNat ln), vi (q2 &&& (2147483647 : Int32)), vi (2 : Int32), vi (-1 : Int32), vi (-1 : Int32), vi (Int32.ofNat tb), vr b3, vl (1 : Int64), .second, vi (0 : Int32), .unset, .unset] [(.int q6), (.int q5), (.int q4), (.int (-1 : Int32)), (.ref b3)]))
      obtain ⟨cq150, kq150, q150a, q150b, q150c⟩ := isOf hZ rfl E135
      obtain ⟨_, _, ⟨T150, L150, k150, n150⟩, -, X150, ⟨Lc150, hQ150, l150, y150, z150⟩, st150⟩ := X135.virtualBack hx (y := (⟨"com/example/lockstep/lockstep/check/StepGroups", "holds", "(IIII)Z"⟩ : MethodName)) (z := (⟨"com/example/lockstep/lockstep/check/StepGroups", "holds", "(IIII)Z"⟩ : MethodName)) hown (mvT hZ (hw _ (List.mem_of_getElem? (i := 75) rfl))) (mvT hZ (hw _ (List.mem_of_getElem? (i := 76) rfl))) (notFace_of_selects (args := #[]) (mvT hZ (hw _ (List.mem_of_getElem? (i := 78) rfl)))) (mvT hZ (hw _ (List.mem_of_getElem? (i := 78) rfl))) (mvT hZ (hw _ (List.mem_of_getElem? (i := 77) rfl))) (by decide) (backOf (W := 0) (rmH l Z a0 hw [] b3 (-1 : Int32) q4 q5 q6 em fr fb go ps ns fs lb sb bl pv nx pt qs ms (Int32.ofNat (1 + 1)) (1 : Int32) (0 : Int32) (1 : Int64) xfs135 xlb135 xbl135 xsb135 0 T135.heap n0 Z135 ⟨E135, F135_emptied, F135_free, F135_firstOfBlock, F135_groupOf, F135_previousStep, F135_nextStep, F135_firstStep, F135_label, F135_superBlock, F135_block, F135_previous, F135_next, F135_partner, F135_partnerStamp, F135_markStamp, F135_groupCount, F135_emptiedCount, F135_freeCount, F135_stamp⟩ ho0 gu Ofs_135 Olb_135 Obl_135 Osb_135 (Or.inl rfl)) hZ (hw _ (List.mem_of_getElem? (i := 79) rfl)) (hw _ (List.mem_of_getElem? (i := 3) rfl)) (by decide) (by decide)) q150a q150c (g := (mkF m 203 #[vi q1, vi q2, vi q3, vi q4, vi q5, vi q6, vi (Int32.ofNat ln), vi (q2 &&& (2147483647 : Int32)), vi (2 : Int32), vi (-1 : Int32), vi (-1 : Int32), vi (Int32.ofNat tb), vr b3, vl (1 : Int64), .second, vi (0 : Int32), .unset, .unset] [(.int q6), (.int q5), (.int q4), (.int (-1 : Int32)), (.ref b3)])) rfl (by rw [hml]; rfl) (Steps.refl _) (argsL := [(.int (-1 : Int32)), (.int q4), (.int q5), (.int q6)]) (rest := []) (lenOf pd0_2 rfl) rfl (by show 2 * 0 + _ ≤ _; exact Nat.le_of_eq rfl) (hb hby at_203) (fun _ _ => ⟨rfl, rfl, (by decide : 20 + 0 ≤ _), (by decide : 253 + 0 ≤ _)⟩)
      dsimp only [Pt.U, Pt.locs, Pt.cells, Pt.slots] at X150 l150 y150 z150 st150 hQ150
      subst l150 y150 z150
      obtain ⟨rfl, Nq150, e150⟩ := hQ150
      have N150 := Fr.app N135 Nq150
      obtain ⟨lo150, X150, N150⟩ : ∃ L, Stand p l e room_1 s m #[(.int q1), (.int q2), (.int q3), (.int q4), (.int q5), (.int q6)] below meth c T150 L 20 253 ∧ Fr n0 L := ⟨_, X150, N150⟩
      refine OGo.st (fun t kk => st150.trans kk) ?_
      show OGo p e below _ (T150.setTop (mkF m 206 #[vi q1, vi q2, vi q3, vi q4, vi q5, vi q6, vi (Int32.ofNat ln), vi (q2 &&& (2147483647 : Int32)), vi (2 : Int32), vi (-1 : Int32), vi (-1 : Int32), vi (Int32.ofNat tb), vr b3, vl (1 : Int64), .second, vi (0 : Int32), .unset, .unset] [(.int (HD (-1 : Int32) (xfs135 0) (xlb135 0) (xbl135 0) (xsb135 0) q4 q5 q6))]))
      refine OGo.st (fun t kk => XS.iload X150.here hx rfl (hb hby at_206) rfl kk) ?_
      show OGo p e below _ (T150.setTop (mkF m 208 #[vi q1, vi q2, vi q3, vi q4, vi q5, vi q6, vi (Int32.ofNat ln), vi (q2 &&& (2147483647 : Int32)), vi (2 : Int32), vi (-1 : Int32), vi (-1 : Int32), vi (Int32.ofNat tb), vr b3, vl (1 : Int64), .second, vi (0 : Int32), .unset, .unset] [(.int (0 : Int32)), (.int (HD (-1 : Int32) (xfs135 0) (xlb135 0) (xbl135 0) (xsb135 0) q4 q5 q6))]))
      refine OGo.st (fun t kk => XS.icmpNo X150.here hx rfl (hb hby at_208) rfl (teq (by simp +decide [HD, hx0135, hx1135, hx2135, hx3135, hx4135])).2 kk) ?_
      show OGo p e below _ (T150.setTop (mkF m 211 #[vi q1, vi q2, vi q3, vi q4, vi q5, vi q6, vi (Int32.ofNat ln), vi (q2 &&& (2147483647 : Int32)), vi (2 : Int32), vi (-1 : Int32), vi (-1 : Int32), vi (Int32.ofNat tb), vr b3, vl (1 : Int64), .second, vi (0 : Int32), .unset, .unset] []))
      refine OGo.st (fun t kk => XS.iconst X150.here hx rfl (hb hby at_211) kk) ?_
      show OGo p e below _ (T150.setTop (mkF m 212 #[vi q1, vi q2, vi q3, vi q4, vi q5, vi q6, vi (Int32.ofNat ln), vi (q2 &&& (2147483647 : Int32)), vi (2 : Int32), vi (-1 : Int32), vi (-1 : Int32), vi (Int32.ofNat tb), vr b3, vl (1 : Int64), .second, vi (0 : Int32), .unset, .unset] [(.int (1 : Int32))]))
      refine OGo.st (fun t kk => XS.goto X150.here hx rfl (pc0 := 212) (pc' := 216) rfl (hb hby at_212) (by decide) (by decide) kk) ?_
      show OGo p e below _ (T150.setTop (mkF m 216 #[vi q1, vi q2, vi q3, vi q4, vi q5, vi q6, vi (Int32.ofNat ln), vi (q2 &&& (2147483647 : Int32)), vi (2 : Int32), vi (-1 : Int32), vi (-1 : Int32), vi (Int32.ofNat tb), vr b3, vl (1 : Int64), .second, vi (0 : Int32), .unset, .unset] [(.int (1 : Int32))]))
      exact OGo.outN X150 hx (t := .boolean) Bd.returns (by simp) Bd.notSynchronized (hb hby at_216) ⟨rfl, N150⟩ (by decide) (by decide)
    · rw [show (if (2 : Int32) = (0 : Int32) then (if (0 : Int32) = (1 : Int32) then (0 : Int32) else (0 : Int32)) else (0 : Int32)) = (0 : Int32) from by decide]
      show OGo p e below _ (T29.setTop (mkF m 78 #[vi q1, vi q2, vi q3, vi q4, vi q5, vi q6, vi (Int32.ofNat ln), vi (q2 &&& (2147483647 : Int32)), vi (2 : Int32), vi (0 : Int32), vi (0 : Int32), vi (Int32.ofNat tb), vr b3, vl (1 : Int64), .second, .unset, .unset, .unset] []))
      refine OGo.st (fun t kk => XS.iload X29.here hx rfl (hb hby at_78) rfl kk) ?_
      show OGo p e below _ (T29.setTop (mkF m 80 #[vi q1, vi q2, vi q3, vi q4, vi q5, vi q6, vi (Int32.ofNat ln), vi (q2 &&& (2147483647 : Int32)), vi (2 : Int32), vi (0 : Int32), vi (0 : Int32), vi (Int32.ofNat tb), vr b3, vl (1 : Int64), .second, .unset, .unset, .unset] [(.int (2 : Int32))]))
      refine OGo.st (fun t kk => XS.iconst X29.here hx rfl (hb hby at_80) kk) ?_
      show OGo p e below _ (T29.setTop (mkF m 81 #[vi q1, vi q2, vi q3, vi q4, vi q5, vi q6, vi (Int32.ofNat ln), vi (q2 &&& (2147483647 : Int32)), vi (2 : Int32), vi (0 : Int32), vi (0 : Int32), vi (Int32.ofNat tb), vr b3, vl (1 : Int64), .second, .unset, .unset, .unset] [(.int (1 : Int32)), (.int (2 : Int32))]))
      refine OGo.st (fun t kk => XS.icmpYes X29.here hx rfl (pc0 := 81) (pc' := 97) rfl (hb hby at_81) rfl (feq (by decide : ¬ ((2 : Int32) = (1 : Int32)))).2 (by decide) (by decide) kk) ?_
      show OGo p e below _ (T29.setTop (mkF m 97 #[vi q1, vi q2, vi q3, vi q4, vi q5, vi q6, vi (Int32.ofNat ln), vi (q2 &&& (2147483647 : Int32)), vi (2 : Int32), vi (0 : Int32), vi (0 : Int32), vi (Int32.ofNat tb), vr b3, vl (1 : Int64), .second, .unset, .unset, .unset] []))
      refine OGo.st (fun t kk => XS.iload X29.here hx rfl (hb hby at_97) rfl kk) ?_
      show OGo p e below _ (T29.setTop (mkF m 99 #[vi q1, vi q2, vi q3, vi q4, vi q5, vi q6, vi (Int32.ofNat ln), vi (q2 &&& (2147483647 : Int32)), vi (2 : Int32), vi (0 : Int32), vi (0 : Int32), vi (Int32.ofNat tb), vr b3, vl (1 : Int64), .second, .unset, .unset, .unset] [(.int (2 : Int32))]))
      refine OGo.st (fun t kk => XS.iconst X29.here hx rfl (hb hby at_99) kk) ?_
      show OGo p e below _ (T29.setTop (mkF m 100 #[vi q1, vi q2, vi q3, vi q4, vi q5, vi q6, vi (Int32.ofNat ln), vi (q2 &&& (2147483647 : Int32)), vi (2 : Int32), vi (0 : Int32), vi (0 : Int32), vi (Int32.ofNat tb), vr b3, vl (1 : Int64), .second, .unset, .unset, .unset] [(.int (2 : Int32)), (.int (2 : Int32))]))
      refine OGo.st (fun t kk => XS.icmpNo X29.here hx rfl (hb hby at_100) rfl (teq (by decide : ((2 : Int32) = (2 : Int32)))).2 kk) ?_
      show OGo p e below _ (T29.setTop (mkF m 103 #[vi q1, vi q2, vi q3, vi q4, vi q5, vi q6, vi (Int32.ofNat ln), vi (q2 &&& (2147483647 : Int32)), vi (2 : Int32), vi (0 : Int32), vi (0 : Int32), vi (Int32.ofNat tb), vr b3, vl (1 : Int64), .second, .unset, .unset, .unset] []))
      refine OGo.st (fun t kk => XS.aload X29.here hx rfl (hb hby at_103) rfl rfl kk) ?_
      show OGo p e below _ (T29.setTop (mkF m 105 #[vi q1, vi q2, vi q3, vi q4, vi q5, vi q6, vi (Int32.ofNat ln), vi (q2 &&& (2147483647 : Int32)), vi (2 : Int32), vi (0 : Int32), vi (0 : Int32), vi (Int32.ofNat tb), vr b3, vl (1 : Int64), .second, .unset, .unset, .unset] [(.ref b3)]))
      refine OGo.st (fun t kk => XS.iconst X29.here hx rfl (hb hby at_105) kk) ?_
      show OGo p e below _ (T29.setTop (mkF m 106 #[vi q1, vi q2, vi q3, vi q4, vi q5, vi q6, vi (Int32.ofNat ln), vi (q2 &&& (2147483647 : Int32)), vi (2 : Int32), vi (0 : Int32), vi (0 : Int32), vi (Int32.ofNat tb), vr b3, vl (1 : Int64), .second, .unset, .unset, .unset] [(.int (0 : Int32)), (.ref b3)]))
      refine OGo.st (fun t kk => XS.lload X29.here hx rfl (hb hby at_106) rfl kk) ?_
      show OGo p e below _ (T29.setTop (mkF m 108 #[vi q1, vi q2, vi q3, vi q4, vi q5, vi q6, vi (Int32.ofNat ln), vi (q2 &&& (2147483647 : Int32)), vi (2 : Int32), vi (0 : Int32), vi (0 : Int32), vi (Int32.ofNat tb), vr b3, vl (1 : Int64), .second, .unset, .unset, .unset] [(.long (1 : Int64)), (.int (0 : Int32)), (.ref b3)]))
      refine OGo.st (fun t kk => XS.iloadN X29.here hx rfl (hb hby at_108) rfl kk) ?_
      show OGo p e below _ (T29.setTop (mkF m 109 #[vi q1, vi q2, vi q3, vi q4, vi q5, vi q6, vi (Int32.ofNat ln), vi (q2 &&& (2147483647 : Int32)), vi (2 : Int32), vi (0 : Int32), vi (0 : Int32), vi (Int32.ofNat tb), vr b3, vl (1 : Int64), .second, .unset, .unset, .unset] [(.int q3), (.long (1 : Int64)), (.int (0 : Int32)), (.ref b3)]))
      have c152 := (O_em.keep K29 (ninS (Ne.symm n_b3_em) nin0))
      have c153 := (O_fb.keep K29 (ninS (Ne.symm n_b3_fb) nin0))
      have c154 := (O_go.keep K29 (ninS (Ne.symm n_b3_go) nin0))
      have c155 := (O_ps.keep K29 (ninS (Ne.symm n_b3_ps) nin0))
      have c156 := (O_ns.keep K29 (ninS (Ne.symm n_b3_ns) nin0))
      have c157 := (O_fs.keep K29 (ninS (Ne.symm n_b3_fs) nin0))
      have c158 := (O_lb.keep K29 (ninS (Ne.symm n_b3_lb) nin0))
      have c159 := (O_sb.keep K29 (ninS (Ne.symm n_b3_sb) nin0))
      have c160 := (O_bl.keep K29 (ninS (Ne.symm n_b3_bl) nin0))
      have c161 := (O_pv.keep K29 (ninS (Ne.symm n_b3_pv) nin0))
      have c162 := (O_nx.keep K29 (ninS (Ne.symm n_b3_nx) nin0))
      have c163 := (O_pt.keep K29 (ninS (Ne.symm n_b3_pt) nin0))
      have c164 := (O_qs.keep K29 (ninS (Ne.symm n_b3_qs) nin0))
      have c165 := (O_ms.keep K29 (ninS (Ne.symm n_b3_ms) nin0))
      obtain ⟨cq151, kq151, q151a, q151b, q151c⟩ := isOf hZ rfl E29
      obtain ⟨_, _, ⟨T151, L151, k151, n151⟩, -, X151, ⟨Lc151, hQ151, l151, y151, z151⟩, st151⟩ := X29.virtualBack hx (y := (⟨"com/example/lockstep/lockstep/check/StepGroups", "moveToSuperBlock", "(IJI)V"⟩ : MethodName)) (z := (⟨"com/example/lockstep/lockstep/check/StepGroups", "moveToSuperBlock", "(IJI)V"⟩ : MethodName)) hown (mvT hZ (hw _ (List.mem_of_getElem? (i := 93) rfl))) (mvT hZ (hw _ (List.mem_of_getElem? (i := 94) rfl))) (notFace_of_selects (args := #[]) (mvT hZ (hw _ (List.mem_of_getElem? (i := 96) rfl)))) (mvT hZ (hw _ (List.mem_of_getElem? (i := 96) rfl))) (mvT hZ (hw _ (List.mem_of_getElem? (i := 95) rfl))) (by decide) (backOf (W := 0) (rmP l Z a0 hw [] b3 q3 em fr fb go ps ns fs lb sb bl pv nx pt qs ms (Int32.ofNat ln) fem ffb fgo fps fns ffs flb fsb fbl fpv fnx fpt fqs fms T29.heap n0 Z29 ⟨E29, F29_emptied, F29_free, F29_firstOfBlock, F29_groupOf, F29_previousStep, F29_nextStep, F29_firstStep, F29_label, F29_superBlock, F29_block, F29_previous, F29_next, F29_partner, F29_partnerStamp, F29_markStamp, F29_groupCount, F29_emptiedCount, F29_freeCount, F29_stamp⟩ ho0 gu c152 c153 c154 c155 c156 c157 c158 c159 c160 c161 c162 c163 c164 c165 hqs hlb hps hns hpv hnx hbl hgo hfb0) hZ (hw _ (List.mem_of_getElem? (i := 97) rfl)) (hw _ (List.mem_of_getElem? (i := 3) rfl)) (by decide) (by decide)) q151a q151c (g := (mkF m 109 #[vi q1, vi q2, vi q3, vi q4, vi q5, vi q6, vi (Int32.ofNat ln), vi (q2 &&& (2147483647 : Int32)), vi (2 : Int32), vi (0 : Int32), vi (0 : Int32), vi (Int32.ofNat tb), vr b3, vl (1 : Int64), .second, .unset, .unset, .unset] [(.int q3), (.long (1 : Int64)), (.int (0 : Int32)), (.ref b3)])) rfl (by rw [hml]; rfl) (Steps.refl _) (argsL := [(.int (0 : Int32)), (.long (1 : Int64)), (.int q3)]) (rest := []) (lenOf pd0_3 rfl) rfl (by show 2 * 0 + _ ≤ _; exact Nat.le_of_eq rfl) (hb hby at_109) (fun _ _ => ⟨rfl, rfl, (by decide : 20 + 0 ≤ _), (by decide : 253 + 0 ≤ _)⟩)
      dsimp only [Pt.U, Pt.locs, Pt.cells, Pt.slots] at X151 l151 y151 z151 st151 hQ151
      subst l151 y151 z151
      obtain ⟨rfl, Nq151, Z151, Uq151, xfs151, xlb151, xbl151, xsb151, Ofs_151, Olb_151, Obl_151, Osb_151, hx0151, hx1151, hx2151, hx3151, hx4151⟩ := hQ151
      have N151 := Fr.app N29 Nq151
      obtain ⟨E151, F151_emptied, F151_free, F151_firstOfBlock, F151_groupOf, F151_previousStep, F151_nextStep, F151_firstStep, F151_label, F151_superBlock, F151_block, F151_previous, F151_next, F151_partner, F151_partnerStamp, F151_markStamp, F151_groupCount, F151_emptiedCount, F151_freeCount, F151_stamp⟩ := Uq151
      obtain ⟨lo151, X151, N151⟩ : ∃ L, Stand p l e room_1 s m #[(.int q1), (.int q2), (.int q3), (.int q4), (.int q5), (.int q6)] below meth c T151 L 20 253 ∧ Fr n0 L := ⟨_, X151, N151⟩
      refine OGo.st (fun t kk => st151.trans kk) ?_
      show OGo p e below _ (T151.setTop (mkF m 112 #[vi q1, vi q2, vi q3, vi q4, vi q5, vi q6, vi (Int32.ofNat ln), vi (q2 &&& (2147483647 : Int32)), vi (2 : Int32), vi (0 : Int32), vi (0 : Int32), vi (Int32.ofNat tb), vr b3, vl (1 : Int64), .second, .unset, .unset, .unset] []))
      refine OGo.st (fun t kk => XS.iload X151.here hx rfl (hb hby at_112) rfl kk) ?_
      show OGo p e below _ (T151.setTop (mkF m 114 #[vi q1, vi q2, vi q3, vi q4, vi q5, vi q6, vi (Int32.ofNat ln), vi (q2 &&& (2147483647 : Int32)), vi (2 : Int32), vi (0 : Int32), vi (0 : Int32), vi (Int32.ofNat tb), vr b3, vl (1 : Int64), .second, .unset, .unset, .unset] [(.int (0 : Int32))]))
      refine OGo.st (fun t kk => XS.iconst X151.here hx rfl (hb hby at_114) kk) ?_
      show OGo p e below _ (T151.setTop (mkF m 115 #[vi q1, vi q2, vi q3, vi q4, vi q5, vi q6, vi (Int32.ofNat ln), vi (q2 &&& (2147483647 : Int32)), vi (2 : Int32), vi (0 : Int32), vi (0 : Int32), vi (Int32.ofNat tb), vr b3, vl (1 : Int64), .second, .unset, .unset, .unset] [(.int (-1 : Int32)), (.int (0 : Int32))]))
      refine OGo.st (fun t kk => XS.icmpYes X151.here hx rfl (pc0 := 115) (pc' := 124) rfl (hb hby at_115) rfl (feq (by decide : ¬ ((0 : Int32) = (-1 : Int32)))).2 (by decide) (by decide) kk) ?_
      show OGo p e below _ (T151.setTop (mkF m 124 #[vi q1, vi q2, vi q3, vi q4, vi q5, vi q6, vi (Int32.ofNat ln), vi (q2 &&& (2147483647 : Int32)), vi (2 : Int32), vi (0 : Int32), vi (0 : Int32), vi (Int32.ofNat tb), vr b3, vl (1 : Int64), .second, .unset, .unset, .unset] []))
      refine OGo.st (fun t kk => XS.iload X151.here hx rfl (hb hby at_124) rfl kk) ?_
      show OGo p e below _ (T151.setTop (mkF m 126 #[vi q1, vi q2, vi q3, vi q4, vi q5, vi q6, vi (Int32.ofNat ln), vi (q2 &&& (2147483647 : Int32)), vi (2 : Int32), vi (0 : Int32), vi (0 : Int32), vi (Int32.ofNat tb), vr b3, vl (1 : Int64), .second, .unset, .unset, .unset] [(.int (2 : Int32))]))
      refine OGo.st (fun t kk => XS.ifNo X151.here hx rfl (hb hby at_126) rfl ((if0 _ _).trans (feq (by decide : ¬ ((2 : Int32) = (0 : Int32)))).1) kk) ?_
      show OGo p e below _ (T151.setTop (mkF m 129 #[vi q1, vi q2, vi q3, vi q4, vi q5, vi q6, vi (Int32.ofNat ln), vi (q2 &&& (2147483647 : Int32)), vi (2 : Int32), vi (0 : Int32), vi (0 : Int32), vi (Int32.ofNat tb), vr b3, vl (1 : Int64), .second, .unset, .unset, .unset] []))
      refine OGo.st (fun t kk => XS.iload X151.here hx rfl (hb hby at_129) rfl kk) ?_
      show OGo p e below _ (T151.setTop (mkF m 131 #[vi q1, vi q2, vi q3, vi q4, vi q5, vi q6, vi (Int32.ofNat ln), vi (q2 &&& (2147483647 : Int32)), vi (2 : Int32), vi (0 : Int32), vi (0 : Int32), vi (Int32.ofNat tb), vr b3, vl (1 : Int64), .second, .unset, .unset, .unset] [(.int (0 : Int32))]))
      refine OGo.st (fun t kk => XS.ifNo X151.here hx rfl (hb hby at_131) rfl ((if0 _ _).trans (teq (by decide : ((0 : Int32) = (0 : Int32)))).2) kk) ?_
      show OGo p e below _ (T151.setTop (mkF m 134 #[vi q1, vi q2, vi q3, vi q4, vi q5, vi q6, vi (Int32.ofNat ln), vi (q2 &&& (2147483647 : Int32)), vi (2 : Int32), vi (0 : Int32), vi (0 : Int32), vi (Int32.ofNat tb), vr b3, vl (1 : Int64), .second, .unset, .unset, .unset] []))
      refine OGo.st (fun t kk => XS.iconst X151.here hx rfl (hb hby at_134) kk) ?_
      show OGo p e below _ (T151.setTop (mkF m 135 #[vi q1, vi q2, vi q3, vi q4, vi q5, vi q6, vi (Int32.ofNat ln), vi (q2 &&& (2147483647 : Int32)), vi (2 : Int32), vi (0 : Int32), vi (0 : Int32), vi (Int32.ofNat tb), vr b3, vl (1 : Int64), .second, .unset, .unset, .unset] [(.int (0 : Int32))]))
      refine OGo.st (fun t kk => XS.istore X151.here hx rfl (hb hby at_135) rfl (l' := #[vi q1, vi q2, vi q3, vi q4, vi q5, vi q6, vi (Int32.ofNat ln), vi (q2 &&& (2147483647 : Int32)), vi (2 : Int32), vi (0 : Int32), vi (0 : Int32), vi (Int32.ofNat tb), vr b3, vl (1 : Int64), .second, vi (0 : Int32), .unset, .unset]) rfl kk) ?_
      show OGo p e below _ (T151.setTop (mkF m 137 #[vi q1, vi q2, vi q3, vi q4, vi q5, vi q6, vi (Int32.ofNat ln), vi (q2 &&& (2147483647 : Int32)), vi (2 : Int32), vi (0 : Int32), vi (0 : Int32), vi (Int32.ofNat tb), vr b3, vl (1 : Int64), .second, vi (0 : Int32), .unset, .unset] []))
      refine OGo.st (fun t kk => XS.goto X151.here hx rfl (pc0 := 137) (pc' := 194) rfl (hb hby at_137) (by decide) (by decide) kk) ?_
      show OGo p e below _ (T151.setTop (mkF m 194 #[vi q1, vi q2, vi q3, vi q4, vi q5, vi q6, vi (Int32.ofNat ln), vi (q2 &&& (2147483647 : Int32)), vi (2 : Int32), vi (0 : Int32), vi (0 : Int32), vi (Int32.ofNat tb), vr b3, vl (1 : Int64), .second, vi (0 : Int32), .unset, .unset] []))
      refine OGo.st (fun t kk => XS.aload X151.here hx rfl (hb hby at_194) rfl rfl kk) ?_
      show OGo p e below _ (T151.setTop (mkF m 196 #[vi q1, vi q2, vi q3, vi q4, vi q5, vi q6, vi (Int32.ofNat ln), vi (q2 &&& (2147483647 : Int32)), vi (2 : Int32), vi (0 : Int32), vi (0 : Int32), vi (Int32.ofNat tb), vr b3, vl (1 : Int64), .second, vi (0 : Int32), .unset, .unset] [(.ref b3)]))
      refine OGo.st (fun t kk => XS.iload X151.here hx rfl (hb hby at_196) rfl kk) ?_
      show OGo p e below _ (T151.setTop (mkF m 198 #[vi q1, vi q2, vi q3, vi q4, vi q5, vi q6, vi (Int32.ofNat ln), vi (q2 &&& (2147483647 : Int32)), vi (2 : Int32), vi (0 : Int32), vi (0 : Int32), vi (Int32.ofNat tb), vr b3, vl (1 : Int64), .second, vi (0 : Int32), .unset, .unset] [(.int (0 : Int32)), (.ref b3)]))
      refine OGo.st (fun t kk => XS.iloadN X151.here hx rfl (hb hby at_198) rfl kk) ?_
      show OGo p e below _ (T151.setTop (mkF m 199 #[vi q1, vi q2, vi q3, vi q4, vi q5, vi q6, vi (Int32.ofNat ln), vi (q2 &&& (2147483647 : Int32)), vi (2 : Int32), vi (0 : Int32), vi (0 : Int32), vi (Int32.ofNat tb), vr b3, vl (1 : Int64), .second, vi (0 : Int32), .unset, .unset] [(.int q4), (.int (0 : Int32)), (.ref b3)]))
      refine OGo.st (fun t kk => XS.iload X151.here hx rfl (hb hby at_199) rfl kk) ?_
      show OGo p e below _ (T151.setTop (mkF m 201 #[vi q1, vi q2, vi q3, vi q4, vi q5, vi q6, vi (Int32.ofNat ln), vi (q2 &&& (2147483647 : Int32)), vi (2 : Int32), vi (0 : Int32), vi (0 : Int32), vi (Int32.ofNat tb), vr b3, vl (1 : Int64), .second, vi (0 : Int32), .unset, .unset] [(.int q5), (.int q4), (.int (0 : Int32)), (.ref b3)]))
      refine OGo.st (fun t kk => XS.iload X151.here hx rfl (hb hby at_201) rfl kk) ?_
      show OGo p e below _ (T151.setTop (mkF m 203 #[vi q1, vi q2, vi q3, vi q4, vi q5, vi q6, vi (Int32.ofNat ln), vi (q2 &&& (2147483647 : Int32)), vi (2 : Int32), vi (0 : Int32), vi (0 : Int32), vi (Int32.ofNat tb), vr b3, vl (1 : Int64), .second, vi (0 : Int32), .unset, .unset] [(.int q6), (.int q5), (.int q4), (.int (0 : Int32)), (.ref b3)]))
      obtain ⟨cq166, kq166, q166a, q166b, q166c⟩ := isOf hZ rfl E151
      obtain ⟨_, _, ⟨T166, L166, k166, n166⟩, -, X166, ⟨Lc166, hQ166, l166, y166, z166⟩, st166⟩ := X151.virtualBack hx (y := (⟨"com/example/lockstep/lockstep/check/StepGroups", "holds", "(IIII)Z"⟩ : MethodName)) (z := (⟨"com/example/lockstep/lockstep/check/StepGroups", "holds", "(IIII)Z"⟩ : MethodName)) hown (mvT hZ (hw _ (List.mem_of_getElem? (i := 75) rfl))) (mvT hZ (hw _ (List.mem_of_getElem? (i := 76) rfl))) (notFace_of_selects (args := #[]) (mvT hZ (hw _ (List.mem_of_getElem? (i := 78) rfl)))) (mvT hZ (hw _ (List.mem_of_getElem? (i := 78) rfl))) (mvT hZ (hw _ (List.mem_of_getElem? (i := 77) rfl))) (by decide) (backOf (W := 0) (rmH l Z a0 hw [] b3 (0 : Int32) q4 q5 q6 em fr fb go ps ns fs lb sb bl pv nx pt qs ms (Int32.ofNat (1 + 1)) (1 : Int32) (0 : Int32) (1 : Int64) xfs151 xlb151 xbl151 xsb151 0 T151.heap n0 Z151 ⟨E151, F151_emptied, F151_free, F151_firstOfBlock, F151_groupOf, F151_previousStep, F151_nextStep, F151_firstStep, F151_label, F151_superBlock, F151_block, F151_previous, F151_next, F151_partner, F151_partnerStamp, F151_markStamp, F151_groupCount, F151_emptiedCount, F151_freeCount, F151_stamp⟩ ho0 gu Ofs_151 Olb_151 Obl_151 Osb_151 (Or.inr ⟨rfl, by decide⟩)) hZ (hw _ (List.mem_of_getElem? (i := 79) rfl)) (hw _ (List.mem_of_getElem? (i := 3) rfl)) (by decide) (by decide)) q166a q166c (g := (mkF m 203 #[vi q1, vi q2, vi q3, vi q4, vi q5, vi q6, vi (Int32.ofNat ln), vi (q2 &&& (2147483647 : Int32)), vi (2 : Int32), vi (0 : Int32), vi (0 : Int32), vi (Int32.ofNat tb), vr b3, vl (1 : Int64), .second, vi (0 : Int32), .unset, .unset] [(.int q6), (.int q5), (.int q4), (.int (0 : Int32)), (.ref b3)])) rfl (by rw [hml]; rfl) (Steps.refl _) (argsL := [(.int (0 : Int32)), (.int q4), (.int q5), (.int q6)]) (rest := []) (lenOf pd0_2 rfl) rfl (by show 2 * 0 + _ ≤ _; exact Nat.le_of_eq rfl) (hb hby at_203) (fun _ _ => ⟨rfl, rfl, (by decide : 20 + 0 ≤ _), (by decide : 253 + 0 ≤ _)⟩)
      dsimp only [Pt.U, Pt.locs, Pt.cells, Pt.slots] at X166 l166 y166 z166 st166 hQ166
      subst l166 y166 z166
      obtain ⟨rfl, Nq166, e166⟩ := hQ166
      have N166 := Fr.app N151 Nq166
      obtain ⟨lo166, X166, N166⟩ : ∃ L, Stand p l e room_1 s m #[(.int q1), (.int q2), (.int q3), (.int q4), (.int q5), (.int q6)] below meth c T166 L 20 253 ∧ Fr n0 L := ⟨_, X166, N166⟩
      refine OGo.st (fun t kk => st166.trans kk) ?_
      show OGo p e below _ (T166.setTop (mkF m 206 #[vi q1, vi q2, vi q3, vi q4, vi q5, vi q6, vi (Int32.ofNat ln), vi (q2 &&& (2147483647 : Int32)), vi (2 : Int32), vi (0 : Int32), vi (0 : Int32), vi (Int32.ofNat tb), vr b3, vl (1 : Int64), .second, vi (0 : Int32), .unset, .unset] [(.int (HD (0 : Int32) (xfs151 0) (xlb151 0) (xbl151 0) (xsb151 0) q4 q5 q6))]))
      refine OGo.st (fun t kk => XS.iload X166.here hx rfl (hb hby at_206) rfl kk) ?_
      show OGo p e below _ (T166.setTop (mkF m 208 #[vi q1, vi q2, vi q3, vi q4, vi q5, vi q6, vi (Int32.ofNat ln), vi (q2 &&& (2147483647 : Int32)), vi (2 : Int32), vi (0 : Int32), vi (0 : Int32), vi (Int32.ofNat tb), vr b3, vl (1 : Int64), .second, vi (0 : Int32), .unset, .unset] [(.int (0 : Int32)), (.int (HD (0 : Int32) (xfs151 0) (xlb151 0) (xbl151 0) (xsb151 0) q4 q5 q6))]))
      refine OGo.st (fun t kk => XS.icmpNo X166.here hx rfl (hb hby at_208) rfl (teq (by simp +decide [HD, hx0151, hx1151, hx2151, hx3151, hx4151])).2 kk) ?_
      show OGo p e below _ (T166.setTop (mkF m 211 #[vi q1, vi q2, vi q3, vi q4, vi q5, vi q6, vi (Int32.ofNat ln), vi (q2 &&& (2147483647 : Int32)), vi (2 : Int32), vi (0 : Int32), vi (0 : Int32), vi (Int32.ofNat tb), vr b3, vl (1 : Int64), .second, vi (0 : Int32), .unset, .unset] []))
      refine OGo.st (fun t kk => XS.iconst X166.here hx rfl (hb hby at_211) kk) ?_
      show OGo p e below _ (T166.setTop (mkF m 212 #[vi q1, vi q2, vi q3, vi q4, vi q5, vi q6, vi (Int32.ofNat ln), vi (q2 &&& (2147483647 : Int32)), vi (2 : Int32), vi (0 : Int32), vi (0 : Int32), vi (Int32.ofNat tb), vr b3, vl (1 : Int64), .second, vi (0 : Int32), .unset, .unset] [(.int (1 : Int32))]))
      refine OGo.st (fun t kk => XS.goto X166.here hx rfl (pc0 := 212) (pc' := 216) rfl (hb hby at_212) (by decide) (by decide) kk) ?_
      show OGo p e below _ (T166.setTop (mkF m 216 #[vi q1, vi q2, vi q3, vi q4, vi q5, vi q6, vi (Int32.ofNat ln), vi (q2 &&& (2147483647 : Int32)), vi (2 : Int32), vi (0 : Int32), vi (0 : Int32), vi (Int32.ofNat tb), vr b3, vl (1 : Int64), .second, vi (0 : Int32), .unset, .unset] [(.int (1 : Int32))]))
      exact OGo.outN X166 hx (t := .boolean) Bd.returns (by simp) Bd.notSynchronized (hb hby at_216) ⟨rfl, N166⟩ (by decide) (by decide)
    · rw [show (if (2 : Int32) = (0 : Int32) then (if (1 : Int32) = (1 : Int32) then (0 : Int32) else (1 : Int32)) else (1 : Int32)) = (1 : Int32) from by decide]
      show OGo p e below _ (T29.setTop (mkF m 78 #[vi q1, vi q2, vi q3, vi q4, vi q5, vi q6, vi (Int32.ofNat ln), vi (q2 &&& (2147483647 : Int32)), vi (2 : Int32), vi (1 : Int32), vi (1 : Int32), vi (Int32.ofNat tb), vr b3, vl (1 : Int64), .second, .unset, .unset, .unset] []))
      refine OGo.st (fun t kk => XS.iload X29.here hx rfl (hb hby at_78) rfl kk) ?_
      show OGo p e below _ (T29.setTop (mkF m 80 #[vi q1, vi q2, vi q3, vi q4, vi q5, vi q6, vi (Int32.ofNat ln), vi (q2 &&& (2147483647 : Int32)), vi (2 : Int32), vi (1 : Int32), vi (1 : Int32), vi (Int32.ofNat tb), vr b3, vl (1 : Int64), .second, .unset, .unset, .unset] [(.int (2 : Int32))]))
      refine OGo.st (fun t kk => XS.iconst X29.here hx rfl (hb hby at_80) kk) ?_
      show OGo p e below _ (T29.setTop (mkF m 81 #[vi q1, vi q2, vi q3, vi q4, vi q5, vi q6, vi (Int32.ofNat ln), vi (q2 &&& (2147483647 : Int32)), vi (2 : Int32), vi (1 : Int32), vi (1 : Int32), vi (Int32.ofNat tb), vr b3, vl (1 : Int64), .second, .unset, .unset, .unset] [(.int (1 : Int32)), (.int (2 : Int32))]))
      refine OGo.st (fun t kk => XS.icmpYes X29.here hx rfl (pc0 := 81) (pc' := 97) rfl (hb hby at_81) rfl (feq (by decide : ¬ ((2 : Int32) = (1 : Int32)))).2 (by decide) (by decide) kk) ?_
      show OGo p e below _ (T29.setTop (mkF m 97 #[vi q1, vi q2, vi q3, vi q4, vi q5, vi q6, vi (Int32.ofNat ln), vi (q2 &&& (2147483647 : Int32)), vi (2 : Int32), vi (1 : Int32), vi (1 : Int32), vi (Int32.ofNat tb), vr b3, vl (1 : Int64), .second, .unset, .unset, .unset] []))
      refine OGo.st (fun t kk => XS.iload X29.here hx rfl (hb hby at_97) rfl kk) ?_
      show OGo p e below _ (T29.setTop (mkF m 99 #[vi q1, vi q2, vi q3, vi q4, vi q5, vi q6, vi (Int32.ofNat ln), vi (q2 &&& (2147483647 : Int32)), vi (2 : Int32), vi (1 : Int32), vi (1 : Int32), vi (Int32.ofNat tb), vr b3, vl (1 : Int64), .second, .unset, .unset, .unset] [(.int (2 : Int32))]))
      refine OGo.st (fun t kk => XS.iconst X29.here hx rfl (hb hby at_99) kk) ?_
      show OGo p e below _ (T29.setTop (mkF m 100 #[vi q1, vi q2, vi q3, vi q4, vi q5, vi q6, vi (Int32.ofNat ln), vi (q2 &&& (2147483647 : Int32)), vi (2 : Int32), vi (1 : Int32), vi (1 : Int32), vi (Int32.ofNat tb), vr b3, vl (1 : Int64), .second, .unset, .unset, .unset] [(.int (2 : Int32)), (.int (2 : Int32))]))
      refine OGo.st (fun t kk => XS.icmpNo X29.here hx rfl (hb hby at_100) rfl (teq (by decide : ((2 : Int32) = (2 : Int32)))).2 kk) ?_
      show OGo p e below _ (T29.setTop (mkF m 103 #[vi q1, vi q2, vi q3, vi q4, vi q5, vi q6, vi (Int32.ofNat ln), vi (q2 &&& (2147483647 : Int32)), vi (2 : Int32), vi (1 : Int32), vi (1 : Int32), vi (Int32.ofNat tb), vr b3, vl (1 : Int64), .second, .unset, .unset, .unset] []))
      refine OGo.st (fun t kk => XS.aload X29.here hx rfl (hb hby at_103) rfl rfl kk) ?_
      show OGo p e below _ (T29.setTop (mkF m 105 #[vi q1, vi q2, vi q3, vi q4, vi q5, vi q6, vi (Int32.ofNat ln), vi (q2 &&& (2147483647 : Int32)), vi (2 : Int32), vi (1 : Int32), vi (1 : Int32), vi (Int32.ofNat tb), vr b3, vl (1 : Int64), .second, .unset, .unset, .unset] [(.ref b3)]))
      refine OGo.st (fun t kk => XS.iconst X29.here hx rfl (hb hby at_105) kk) ?_
      show OGo p e below _ (T29.setTop (mkF m 106 #[vi q1, vi q2, vi q3, vi q4, vi q5, vi q6, vi (Int32.ofNat ln), vi (q2 &&& (2147483647 : Int32)), vi (2 : Int32), vi (1 : Int32), vi (1 : Int32), vi (Int32.ofNat tb), vr b3, vl (1 : Int64), .second, .unset, .unset, .unset] [(.int (0 : Int32)), (.ref b3)]))
      refine OGo.st (fun t kk => XS.lload X29.here hx rfl (hb hby at_106) rfl kk) ?_
      show OGo p e below _ (T29.setTop (mkF m 108 #[vi q1, vi q2, vi q3, vi q4, vi q5, vi q6, vi (Int32.ofNat ln), vi (q2 &&& (2147483647 : Int32)), vi (2 : Int32), vi (1 : Int32), vi (1 : Int32), vi (Int32.ofNat tb), vr b3, vl (1 : Int64), .second, .unset, .unset, .unset] [(.long (1 : Int64)), (.int (0 : Int32)), (.ref b3)]))
      refine OGo.st (fun t kk => XS.iloadN X29.here hx rfl (hb hby at_108) rfl kk) ?_
      show OGo p e below _ (T29.setTop (mkF m 109 #[vi q1, vi q2, vi q3, vi q4, vi q5, vi q6, vi (Int32.ofNat ln), vi (q2 &&& (2147483647 : Int32)), vi (2 : Int32), vi (1 : Int32), vi (1 : Int32), vi (Int32.ofNat tb), vr b3, vl (1 : Int64), .second, .unset, .unset, .unset] [(.int q3), (.long (1 : Int64)), (.int (0 : Int32)), (.ref b3)]))
      have c168 := (O_em.keep K29 (ninS (Ne.symm n_b3_em) nin0))
      have c169 := (O_fb.keep K29 (ninS (Ne.symm n_b3_fb) nin0))
      have c170 := (O_go.keep K29 (ninS (Ne.symm n_b3_go) nin0))
      have c171 := (O_ps.keep K29 (ninS (Ne.symm n_b3_ps) nin0))
      have c172 := (O_ns.keep K29 (ninS (Ne.symm n_b3_ns) nin0))
      have c173 := (O_fs.keep K29 (ninS (Ne.symm n_b3_fs) nin0))
      have c174 := (O_lb.keep K29 (ninS (Ne.symm n_b3_lb) nin0))
      have c175 := (O_sb.keep K29 (ninS (Ne.symm n_b3_sb) nin0))
      have c176 := (O_bl.keep K29 (ninS (Ne.symm n_b3_bl) nin0))
      have c177 := (O_pv.keep K29 (ninS (Ne.symm n_b3_pv) nin0))
      have c178 := (O_nx.keep K29 (ninS (Ne.symm n_b3_nx) nin0))
      have c179 := (O_pt.keep K29 (ninS (Ne.symm n_b3_pt) nin0))
      have c180 := (O_qs.keep K29 (ninS (Ne.symm n_b3_qs) nin0))
      have c181 := (O_ms.keep K29 (ninS (Ne.symm n_b3_ms) nin0))
      obtain ⟨cq167, kq167, q167a, q167b, q167c⟩ := isOf hZ rfl E29
      obtain ⟨_, _, ⟨T167, L167, k167, n167⟩, -, X167, ⟨Lc167, hQ167, l167, y167, z167⟩, st167⟩ := X29.virtualBack hx (y := (⟨"com/example/lockstep/lockstep/check/StepGroups", "moveToSuperBlock", "(IJI)V"⟩ : MethodName)) (z := (⟨"com/example/lockstep/lockstep/check/StepGroups", "moveToSuperBlock", "(IJI)V"⟩ : MethodName)) hown (mvT hZ (hw _ (List.mem_of_getElem? (i := 93) rfl))) (mvT hZ (hw _ (List.mem_of_getElem? (i := 94) rfl))) (notFace_of_selects (args := #[]) (mvT hZ (hw _ (List.mem_of_getElem? (i := 96) rfl)))) (mvT hZ (hw _ (List.mem_of_getElem? (i := 96) rfl))) (mvT hZ (hw _ (List.mem_of_getElem? (i := 95) rfl))) (by decide) (backOf (W := 0) (rmP l Z a0 hw [] b3 q3 em fr fb go ps ns fs lb sb bl pv nx pt qs ms (Int32.ofNat ln) fem ffb fgo fps fns ffs flb fsb fbl fpv fnx fpt fqs fms T29.heap n0 Z29 ⟨E29, F29_emptied, F29_free, F29_firstOfBlock, F29_groupOf, F29_previousStep, F29_nextStep, F29_firstStep, F29_label, F29_superBlock, F29_block, F29_previous, F29_next, F29_partner, F29_partnerStamp, F29_markStamp, F29_groupCount, F29_emptiedCount, F29_freeCount, F29_stamp⟩ ho0 gu c168 c169 c170 c171 c172 c173 c174 c175 c176 c177 c178 c179 c180 c181 hqs hlb hps hns hpv hnx hbl hgo hfb0) hZ (hw _ (List.mem_of_getElem? (i := 97) rfl)) (hw _ (List.mem_of_getElem? (i := 3) rfl)) (by decide) (by decide)) q167a q167c (g := (mkF m 109 #[vi q1, vi q2, vi q3, vi q4, vi q5, vi q6, vi (Int32.ofNat ln), vi (q2 &&& (2147483647 : Int32)), vi (2 : Int32), vi (1 : Int32), vi (1 : Int32), vi (Int32.ofNat tb), vr b3, vl (1 : Int64), .second, .unset, .unset, .unset] [(.int q3), (.long (1 : Int64)), (.int (0 : Int32)), (.ref b3)])) rfl (by rw [hml]; rfl) (Steps.refl _) (argsL := [(.int (0 : Int32)), (.long (1 : Int64)), (.int q3)]) (rest := []) (lenOf pd0_3 rfl) rfl (by show 2 * 0 + _ ≤ _; exact Nat.le_of_eq rfl) (hb hby at_109) (fun _ _ => ⟨rfl, rfl, (by decide : 20 + 0 ≤ _), (by decide : 253 + 0 ≤ _)⟩)
      dsimp only [Pt.U, Pt.locs, Pt.cells, Pt.slots] at X167 l167 y167 z167 st167 hQ167
      subst l167 y167 z167
      obtain ⟨rfl, Nq167, Z167, Uq167, xfs167, xlb167, xbl167, xsb167, Ofs_167, Olb_167, Obl_167, Osb_167, hx0167, hx1167, hx2167, hx3167, hx4167⟩ := hQ167
      have N167 := Fr.app N29 Nq167
      obtain ⟨E167, F167_emptied, F167_free, F167_firstOfBlock, F167_groupOf, F167_previousStep, F167_nextStep, F167_firstStep, F167_label, F167_superBlock, F167_block, F167_previous, F167_next, F167_partner, F167_partnerStamp, F167_markStamp, F167_groupCount, F167_emptiedCount, F167_freeCount, F167_stamp⟩ := Uq167
      obtain ⟨lo167, X167, N167⟩ : ∃ L, Stand p l e room_1 s m #[(.int q1), (.int q2), (.int q3), (.int q4), (.int q5), (.int q6)] below meth c T167 L 20 253 ∧ Fr n0 L := ⟨_, X167, N167⟩
      refine OGo.st (fun t kk => st167.trans kk) ?_
      show OGo p e below _ (T167.setTop (mkF m 112 #[vi q1, vi q2, vi q3, vi q4, vi q5, vi q6, vi (Int32.ofNat ln), vi (q2 &&& (2147483647 : Int32)), vi (2 : Int32), vi (1 : Int32), vi (1 : Int32), vi (Int32.ofNat tb), vr b3, vl (1 : Int64), .second, .unset, .unset, .unset] []))
      refine OGo.st (fun t kk => XS.iload X167.here hx rfl (hb hby at_112) rfl kk) ?_
      show OGo p e below _ (T167.setTop (mkF m 114 #[vi q1, vi q2, vi q3, vi q4, vi q5, vi q6, vi (Int32.ofNat ln), vi (q2 &&& (2147483647 : Int32)), vi (2 : Int32), vi (1 : Int32), vi (1 : Int32), vi (Int32.ofNat tb), vr b3, vl (1 : Int64), .second, .unset, .unset, .unset] [(.int (1 : Int32))]))
      refine OGo.st (fun t kk => XS.iconst X167.here hx rfl (hb hby at_114) kk) ?_
      show OGo p e below _ (T167.setTop (mkF m 115 #[vi q1, vi q2, vi q3, vi q4, vi q5, vi q6, vi (Int32.ofNat ln), vi (q2 &&& (2147483647 : Int32)), vi (2 : Int32), vi (1 : Int32), vi (1 : Int32), vi (Int32.ofNat tb), vr b3, vl (1 : Int64), .second, .unset, .unset, .unset] [(.int (-1 : Int32)), (.int (1 : Int32))]))
      refine OGo.st (fun t kk => XS.icmpYes X167.here hx rfl (pc0 := 115) (pc' := 124) rfl (hb hby at_115) rfl (feq (by decide : ¬ ((1 : Int32) = (-1 : Int32)))).2 (by decide) (by decide) kk) ?_
      show OGo p e below _ (T167.setTop (mkF m 124 #[vi q1, vi q2, vi q3, vi q4, vi q5, vi q6, vi (Int32.ofNat ln), vi (q2 &&& (2147483647 : Int32)), vi (2 : Int32), vi (1 : Int32), vi (1 : Int32), vi (Int32.ofNat tb), vr b3, vl (1 : Int64), .second, .unset, .unset, .unset] []))
      refine OGo.st (fun t kk => XS.iload X167.here hx rfl (hb hby at_124) rfl kk) ?_
      show OGo p e below _ (T167.setTop (mkF m 126 #[vi q1, vi q2, vi q3, vi q4, vi q5, vi q6, vi (Int32.ofNat ln), vi (q2 &&& (2147483647 : Int32)), vi (2 : Int32), vi (1 : Int32), vi (1 : Int32), vi (Int32.ofNat tb), vr b3, vl (1 : Int64), .second, .unset, .unset, .unset] [(.int (2 : Int32))]))
      refine OGo.st (fun t kk => XS.ifNo X167.here hx rfl (hb hby at_126) rfl ((if0 _ _).trans (feq (by decide : ¬ ((2 : Int32) = (0 : Int32)))).1) kk) ?_
      show OGo p e below _ (T167.setTop (mkF m 129 #[vi q1, vi q2, vi q3, vi q4, vi q5, vi q6, vi (Int32.ofNat ln), vi (q2 &&& (2147483647 : Int32)), vi (2 : Int32), vi (1 : Int32), vi (1 : Int32), vi (Int32.ofNat tb), vr b3, vl (1 : Int64), .second, .unset, .unset, .unset] []))
      refine OGo.st (fun t kk => XS.iload X167.here hx rfl (hb hby at_129) rfl kk) ?_
      show OGo p e below _ (T167.setTop (mkF m 131 #[vi q1, vi q2, vi q3, vi q4, vi q5, vi q6, vi (Int32.ofNat ln), vi (q2 &&& (2147483647 : Int32)), vi (2 : Int32), vi (1 : Int32), vi (1 : Int32), vi (Int32.ofNat tb), vr b3, vl (1 : Int64), .second, .unset, .unset, .unset] [(.int (1 : Int32))]))
      refine OGo.st (fun t kk => XS.ifYes X167.here hx rfl (pc0 := 131) (pc' := 140) rfl (hb hby at_131) rfl ((if0 _ _).trans (feq (by decide : ¬ ((1 : Int32) = (0 : Int32)))).2) (by decide) (by decide) kk) ?_
      show OGo p e below _ (T167.setTop (mkF m 140 #[vi q1, vi q2, vi q3, vi q4, vi q5, vi q6, vi (Int32.ofNat ln), vi (q2 &&& (2147483647 : Int32)), vi (2 : Int32), vi (1 : Int32), vi (1 : Int32), vi (Int32.ofNat tb), vr b3, vl (1 : Int64), .second, .unset, .unset, .unset] []))
      refine OGo.st (fun t kk => XS.iload X167.here hx rfl (hb hby at_140) rfl kk) ?_
      show OGo p e below _ (T167.setTop (mkF m 142 #[vi q1, vi q2, vi q3, vi q4, vi q5, vi q6, vi (Int32.ofNat ln), vi (q2 &&& (2147483647 : Int32)), vi (2 : Int32), vi (1 : Int32), vi (1 : Int32), vi (Int32.ofNat tb), vr b3, vl (1 : Int64), .second, .unset, .unset, .unset] [(.int (2 : Int32))]))
      refine OGo.st (fun t kk => XS.iconst X167.here hx rfl (hb hby at_142) kk) ?_
      show OGo p e below _ (T167.setTop (mkF m 143 #[vi q1, vi q2, vi q3, vi q4, vi q5, vi q6, vi (Int32.ofNat ln), vi (q2 &&& (2147483647 : Int32)), vi (2 : Int32), vi (1 : Int32), vi (1 : Int32), vi (Int32.ofNat tb), vr b3, vl (1 : Int64), .second, .unset, .unset, .unset] [(.int (1 : Int32)), (.int (2 : Int32))]))
      refine OGo.st (fun t kk => XS.icmpYes X167.here hx rfl (pc0 := 143) (pc' := 151) rfl (hb hby at_143) rfl (feq (by decide : ¬ ((2 : Int32) = (1 : Int32)))).2 (by decide) (by decide) kk) ?_
      show OGo p e below _ (T167.setTop (mkF m 151 #[vi q1, vi q2, vi q3, vi q4, vi q5, vi q6, vi (Int32.ofNat ln), vi (q2 &&& (2147483647 : Int32)), vi (2 : Int32), vi (1 : Int32), vi (1 : Int32), vi (Int32.ofNat tb), vr b3, vl (1 : Int64), .second, .unset, .unset, .unset] []))
      refine OGo.st (fun t kk => XS.iconst X167.here hx rfl (hb hby at_151) kk) ?_
      show OGo p e below _ (T167.setTop (mkF m 152 #[vi q1, vi q2, vi q3, vi q4, vi q5, vi q6, vi (Int32.ofNat ln), vi (q2 &&& (2147483647 : Int32)), vi (2 : Int32), vi (1 : Int32), vi (1 : Int32), vi (Int32.ofNat tb), vr b3, vl (1 : Int64), .second, .unset, .unset, .unset] [(.int (0 : Int32))]))
      refine OGo.st (fun t kk => XS.istore X167.here hx rfl (hb hby at_152) rfl (l' := #[vi q1, vi q2, vi q3, vi q4, vi q5, vi q6, vi (Int32.ofNat ln), vi (q2 &&& (2147483647 : Int32)), vi (2 : Int32), vi (1 : Int32), vi (1 : Int32), vi (Int32.ofNat tb), vr b3, vl (1 : Int64), .second, .unset, vi (0 : Int32), .unset]) rfl kk) ?_
      show OGo p e below _ (T167.setTop (mkF m 154 #[vi q1, vi q2, vi q3, vi q4, vi q5, vi q6, vi (Int32.ofNat ln), vi (q2 &&& (2147483647 : Int32)), vi (2 : Int32), vi (1 : Int32), vi (1 : Int32), vi (Int32.ofNat tb), vr b3, vl (1 : Int64), .second, .unset, vi (0 : Int32), .unset] []))
      refine OGo.st (fun t kk => XS.iload X167.here hx rfl (hb hby at_154) rfl kk) ?_
      show OGo p e below _ (T167.setTop (mkF m 156 #[vi q1, vi q2, vi q3, vi q4, vi q5, vi q6, vi (Int32.ofNat ln), vi (q2 &&& (2147483647 : Int32)), vi (2 : Int32), vi (1 : Int32), vi (1 : Int32), vi (Int32.ofNat tb), vr b3, vl (1 : Int64), .second, .unset, vi (0 : Int32), .unset] [(.int (2 : Int32))]))
      refine OGo.st (fun t kk => XS.iconst X167.here hx rfl (hb hby at_156) kk) ?_
      show OGo p e below _ (T167.setTop (mkF m 157 #[vi q1, vi q2, vi q3, vi q4, vi q5, vi q6, vi (Int32.ofNat ln), vi (q2 &&& (2147483647 : Int32)), vi (2 : Int32), vi (1 : Int32), vi (1 : Int32), vi (Int32.ofNat tb), vr b3, vl (1 : Int64), .second, .unset, vi (0 : Int32), .unset] [(.int (2 : Int32)), (.int (2 : Int32))]))
      refine OGo.st (fun t kk => XS.icmpNo X167.here hx rfl (hb hby at_157) rfl (teq (by decide : ((2 : Int32) = (2 : Int32)))).2 kk) ?_
      show OGo p e below _ (T167.setTop (mkF m 160 #[vi q1, vi q2, vi q3, vi q4, vi q5, vi q6, vi (Int32.ofNat ln), vi (q2 &&& (2147483647 : Int32)), vi (2 : Int32), vi (1 : Int32), vi (1 : Int32), vi (Int32.ofNat tb), vr b3, vl (1 : Int64), .second, .unset, vi (0 : Int32), .unset] []))
      refine OGo.st (fun t kk => XS.iloadN X167.here hx rfl (hb hby at_160) rfl kk) ?_
      show OGo p e below _ (T167.setTop (mkF m 161 #[vi q1, vi q2, vi q3, vi q4, vi q5, vi q6, vi (Int32.ofNat ln), vi (q2 &&& (2147483647 : Int32)), vi (2 : Int32), vi (1 : Int32), vi (1 : Int32), vi (Int32.ofNat tb), vr b3, vl (1 : Int64), .second, .unset, vi (0 : Int32), .unset] [(.int q3)]))
      refine OGo.st (fun t kk => XS.goto X167.here hx rfl (pc0 := 161) (pc' := 165) rfl (hb hby at_161) (by decide) (by decide) kk) ?_
      show OGo p e below _ (T167.setTop (mkF m 165 #[vi q1, vi q2, vi q3, vi q4, vi q5, vi q6, vi (Int32.ofNat ln), vi (q2 &&& (2147483647 : Int32)), vi (2 : Int32), vi (1 : Int32), vi (1 : Int32), vi (Int32.ofNat tb), vr b3, vl (1 : Int64), .second, .unset, vi (0 : Int32), .unset] [(.int q3)]))
      refine OGo.st (fun t kk => XS.istore X167.here hx rfl (hb hby at_165) rfl (l' := #[vi q1, vi q2, vi q3, vi q4, vi q5, vi q6, vi (Int32.ofNat ln), vi (q2 &&& (2147483647 : Int32)), vi (2 : Int32), vi (1 : Int32), vi (1 : Int32), vi (Int32.ofNat tb), vr b3, vl (1 : Int64), .second, .unset, vi (0 : Int32), vi q3]) rfl kk) ?_
      show OGo p e below _ (T167.setTop (mkF m 167 #[vi q1, vi q2, vi q3, vi q4, vi q5, vi q6, vi (Int32.ofNat ln), vi (q2 &&& (2147483647 : Int32)), vi (2 : Int32), vi (1 : Int32), vi (1 : Int32), vi (Int32.ofNat tb), vr b3, vl (1 : Int64), .second, .unset, vi (0 : Int32), vi q3] []))
      refine OGo.st (fun t kk => XS.iloadN X167.here hx rfl (hb hby at_167) rfl kk) ?_
      show OGo p e below _ (T167.setTop (mkF m 168 #[vi q1, vi q2, vi q3, vi q4, vi q5, vi q6, vi (Int32.ofNat ln), vi (q2 &&& (2147483647 : Int32)), vi (2 : Int32), vi (1 : Int32), vi (1 : Int32), vi (Int32.ofNat tb), vr b3, vl (1 : Int64), .second, .unset, vi (0 : Int32), vi q3] [(.int q4)]))
      refine OGo.st (fun t kk => XS.iload X167.here hx rfl (hb hby at_168) rfl kk) ?_
      show OGo p e below _ (T167.setTop (mkF m 170 #[vi q1, vi q2, vi q3, vi q4, vi q5, vi q6, vi (Int32.ofNat ln), vi (q2 &&& (2147483647 : Int32)), vi (2 : Int32), vi (1 : Int32), vi (1 : Int32), vi (Int32.ofNat tb), vr b3, vl (1 : Int64), .second, .unset, vi (0 : Int32), vi q3] [(.int (Int32.ofNat ln)), (.int q4)]))
      by_cases hc170_182 : q4 = (Int32.ofNat ln)
      · refine OGo.st (fun t kk => XS.icmpNo X167.here hx rfl (hb hby at_170) rfl (teq hc170_182).2 kk) ?_
        show OGo p e below _ (T167.setTop (mkF m 173 #[vi q1, vi q2, vi q3, vi q4, vi q5, vi q6, vi (Int32.ofNat ln), vi (q2 &&& (2147483647 : Int32)), vi (2 : Int32), vi (1 : Int32), vi (1 : Int32), vi (Int32.ofNat tb), vr b3, vl (1 : Int64), .second, .unset, vi (0 : Int32), vi q3] []))
        refine OGo.st (fun t kk => XS.iload X167.here hx rfl (hb hby at_173) rfl kk) ?_
        show OGo p e below _ (T167.setTop (mkF m 175 #[vi q1, vi q2, vi q3, vi q4, vi q5, vi q6, vi (Int32.ofNat ln), vi (q2 &&& (2147483647 : Int32)), vi (2 : Int32), vi (1 : Int32), vi (1 : Int32), vi (Int32.ofNat tb), vr b3, vl (1 : Int64), .second, .unset, vi (0 : Int32), vi q3] [(.int q5)]))
        refine OGo.st (fun t kk => XS.iload X167.here hx rfl (hb hby at_175) rfl kk) ?_
        show OGo p e below _ (T167.setTop (mkF m 177 #[vi q1, vi q2, vi q3, vi q4, vi q5, vi q6, vi (Int32.ofNat ln), vi (q2 &&& (2147483647 : Int32)), vi (2 : Int32), vi (1 : Int32), vi (1 : Int32), vi (Int32.ofNat tb), vr b3, vl (1 : Int64), .second, .unset, vi (0 : Int32), vi q3] [(.int (0 : Int32)), (.int q5)]))
        by_cases hc177_183 : q5 = (0 : Int32)
        · refine OGo.st (fun t kk => XS.icmpNo X167.here hx rfl (hb hby at_177) rfl (teq hc177_183).2 kk) ?_
          show OGo p e below _ (T167.setTop (mkF m 180 #[vi q1, vi q2, vi q3, vi q4, vi q5, vi q6, vi (Int32.ofNat ln), vi (q2 &&& (2147483647 : Int32)), vi (2 : Int32), vi (1 : Int32), vi (1 : Int32), vi (Int32.ofNat tb), vr b3, vl (1 : Int64), .second, .unset, vi (0 : Int32), vi q3] []))
          refine OGo.st (fun t kk => XS.iload X167.here hx rfl (hb hby at_180) rfl kk) ?_
          show OGo p e below _ (T167.setTop (mkF m 182 #[vi q1, vi q2, vi q3, vi q4, vi q5, vi q6, vi (Int32.ofNat ln), vi (q2 &&& (2147483647 : Int32)), vi (2 : Int32), vi (1 : Int32), vi (1 : Int32), vi (Int32.ofNat tb), vr b3, vl (1 : Int64), .second, .unset, vi (0 : Int32), vi q3] [(.int q6)]))
          refine OGo.st (fun t kk => XS.iload X167.here hx rfl (hb hby at_182) rfl kk) ?_
          show OGo p e below _ (T167.setTop (mkF m 184 #[vi q1, vi q2, vi q3, vi q4, vi q5, vi q6, vi (Int32.ofNat ln), vi (q2 &&& (2147483647 : Int32)), vi (2 : Int32), vi (1 : Int32), vi (1 : Int32), vi (Int32.ofNat tb), vr b3, vl (1 : Int64), .second, .unset, vi (0 : Int32), vi q3] [(.int q3), (.int q6)]))
          by_cases hc184_184 : q6 = q3
          · refine OGo.st (fun t kk => XS.icmpNo X167.here hx rfl (hb hby at_184) rfl (teq hc184_184).2 kk) ?_
            show OGo p e below _ (T167.setTop (mkF m 187 #[vi q1, vi q2, vi q3, vi q4, vi q5, vi q6, vi (Int32.ofNat ln), vi (q2 &&& (2147483647 : Int32)), vi (2 : Int32), vi (1 : Int32), vi (1 : Int32), vi (Int32.ofNat tb), vr b3, vl (1 : Int64), .second, .unset, vi (0 : Int32), vi q3] []))
            refine OGo.st (fun t kk => XS.iconst X167.here hx rfl (hb hby at_187) kk) ?_
            show OGo p e below _ (T167.setTop (mkF m 188 #[vi q1, vi q2, vi q3, vi q4, vi q5, vi q6, vi (Int32.ofNat ln), vi (q2 &&& (2147483647 : Int32)), vi (2 : Int32), vi (1 : Int32), vi (1 : Int32), vi (Int32.ofNat tb), vr b3, vl (1 : Int64), .second, .unset, vi (0 : Int32), vi q3] [(.int (1 : Int32))]))
            refine OGo.st (fun t kk => XS.goto X167.here hx rfl (pc0 := 188) (pc' := 192) rfl (hb hby at_188) (by decide) (by decide) kk) ?_
            show OGo p e below _ (T167.setTop (mkF m 192 #[vi q1, vi q2, vi q3, vi q4, vi q5, vi q6, vi (Int32.ofNat ln), vi (q2 &&& (2147483647 : Int32)), vi (2 : Int32), vi (1 : Int32), vi (1 : Int32), vi (Int32.ofNat tb), vr b3, vl (1 : Int64), .second, .unset, vi (0 : Int32), vi q3] [(.int (1 : Int32))]))
            refine OGo.st (fun t kk => XS.istore X167.here hx rfl (hb hby at_192) rfl (l' := #[vi q1, vi q2, vi q3, vi q4, vi q5, vi q6, vi (Int32.ofNat ln), vi (q2 &&& (2147483647 : Int32)), vi (2 : Int32), vi (1 : Int32), vi (1 : Int32), vi (Int32.ofNat tb), vr b3, vl (1 : Int64), .second, vi (1 : Int32), vi (0 : Int32), vi q3]) rfl kk) ?_
            show OGo p e below _ (T167.setTop (mkF m 194 #[vi q1, vi q2, vi q3, vi q4, vi q5, vi q6, vi (Int32.ofNat ln), vi (q2 &&& (2147483647 : Int32)), vi (2 : Int32), vi (1 : Int32), vi (1 : Int32), vi (Int32.ofNat tb), vr b3, vl (1 : Int64), .second, vi (1 : Int32), vi (0 : Int32), vi q3] []))
            refine OGo.st (fun t kk => XS.aload X167.here hx rfl (hb hby at_194) rfl rfl kk) ?_
            show OGo p e below _ (T167.setTop (mkF m 196 #[vi q1, vi q2, vi q3, vi q4, vi q5, vi q6, vi (Int32.ofNat ln), vi (q2 &&& (2147483647 : Int32)), vi (2 : Int32), vi (1 : Int32), vi (1 : Int32), vi (Int32.ofNat tb), vr b3, vl (1 : Int64), .second, vi (1 : Int32), vi (0 : Int32), vi q3] [(.ref b3)]))
            refine OGo.st (fun t kk => XS.iload X167.here hx rfl (hb hby at_196) rfl kk) ?_
            show OGo p e below _ (T167.setTop (mkF m 198 #[vi q1, vi q2, vi q3, vi q4, vi q5, vi q6, vi (Int32.ofNat ln), vi (q2 &&& (2147483647 : Int32)), vi (2 : Int32), vi (1 : Int32), vi (1 : Int32), vi (Int32.ofNat tb), vr b3, vl (1 : Int64), .second, vi (1 : Int32), vi (0 : Int32), vi q3] [(.int (1 : Int32)), (.ref b3)]))
            refine OGo.st (fun t kk => XS.iloadN X167.here hx rfl (hb hby at_198) rfl kk) ?_
            show OGo p e below _ (T167.setTop (mkF m 199 #[vi q1, vi q2, vi q3, vi q4, vi q5, vi q6, vi (Int32.ofNat ln), vi (q2 &&& (2147483647 : Int32)), vi (2 : Int32), vi (1 : Int32), vi (1 : Int32), vi (Int32.ofNat tb), vr b3, vl (1 : Int64), .second, vi (1 : Int32), vi (0 : Int32), vi q3] [(.int q4), (.int (1 : Int32)), (.ref b3)]))
            refine OGo.st (fun t kk => XS.iload X167.here hx rfl (hb hby at_199) rfl kk) ?_
            show OGo p e below _ (T167.setTop (mkF m 201 #[vi q1, vi q2, vi q3, vi q4, vi q5, vi q6, vi (Int32.ofNat ln), vi (q2 &&& (2147483647 : Int32)), vi (2 : Int32), vi (1 : Int32), vi (1 : Int32), vi (Int32.ofNat tb), vr b3, vl (1 : Int64), .second, vi (1 : Int32), vi (0 : Int32), vi q3] [(.int q5), (.int q4), (.int (1 : Int32)), (.ref b3)]))
            refine OGo.st (fun t kk => XS.iload X167.here hx rfl (hb hby at_201) rfl kk) ?_
            show OGo p e below _ (T167.setTop (mkF m 203 #[vi q1, vi q2, vi q3, vi q4, vi q5, vi q6, vi (Int32.ofNat ln), vi (q2 &&& (2147483647 : Int32)), vi (2 : Int32), vi (1 : Int32), vi (1 : Int32), vi (Int32.ofNat tb), vr b3, vl (1 : Int64), .second, vi (1 : Int32), vi (0 : Int32), vi q3] [(.int q6), (.int q5), (.int q4), (.int (1 : Int32)), (.ref b3)]))
            obtain ⟨cq185, kq185, q185a, q185b, q185c⟩ := isOf hZ rfl E167
            obtain ⟨_, _, ⟨T185, L185, k185, n185⟩, -, X185, ⟨Lc185, hQ185, l185, y185, z185⟩, st185⟩ := X167.virtualBack hx (y := (⟨"com/example/lockstep/lockstep/check/StepGroups", "holds", "(IIII)Z"⟩ : MethodName)) (z := (⟨"com/example/lockstep/lockstep/check/StepGroups", "holds", "(IIII)Z"⟩ : MethodName)) hown (mvT hZ (hw _ (List.mem_of_getElem? (i := 75) rfl))) (mvT hZ (hw _ (List.mem_of_getElem? (i := 76) rfl))) (notFace_of_selects (args := #[]) (mvT hZ (hw _ (List.mem_of_getElem? (i := 78) rfl)))) (mvT hZ (hw _ (List.mem_of_getElem? (i := 78) rfl))) (mvT hZ (hw _ (List.mem_of_getElem? (i := 77) rfl))) (by decide) (backOf (W := 0) (rmH l Z a0 hw [] b3 (1 : Int32) q4 q5 q6 em fr fb go ps ns fs lb sb bl pv nx pt qs ms (Int32.ofNat (1 + 1)) (1 : Int32) (0 : Int32) (1 : Int64) xfs167 xlb167 xbl167 xsb167 1 T167.heap n0 Z167 ⟨E167, F167_emptied, F167_free, F167_firstOfBlock, F167_groupOf, F167_previousStep, F167_nextStep, F167_firstStep, F167_label, F167_superBlock, F167_block, F167_previous, F167_next, F167_partner, F167_partnerStamp, F167_markStamp, F167_groupCount, F167_emptiedCount, F167_freeCount, F167_stamp⟩ ho0 gu Ofs_167 Olb_167 Obl_167 Osb_167 (Or.inr ⟨rfl, by decide⟩)) hZ (hw _ (List.mem_of_getElem? (i := 79) rfl)) (hw _ (List.mem_of_getElem? (i := 3) rfl)) (by decide) (by decide)) q185a q185c (g := (mkF m 203 #[vi q1, vi q2, vi q3, vi q4, vi q5, vi q6, vi (Int32.ofNat ln), vi (q2 &&& (2147483647 : Int32)), vi (2 : Int32), vi (1 : Int32), vi (1 : Int32), vi (Int32.ofNat tb), vr b3, vl (1 : Int64), .second, vi (1 : Int32), vi (0 : Int32), vi q3] [(.int q6), (.int q5), (.int q4), (.int (1 : Int32)), (.ref b3)])) rfl (by rw [hml]; rfl) (Steps.refl _) (argsL := [(.int (1 : Int32)), (.int q4), (.int q5), (.int q6)]) (rest := []) (lenOf pd0_2 rfl) rfl (by show 2 * 0 + _ ≤ _; exact Nat.le_of_eq rfl) (hb hby at_203) (fun _ _ => ⟨rfl, rfl, (by decide : 20 + 0 ≤ _), (by decide : 253 + 0 ≤ _)⟩)
            dsimp only [Pt.U, Pt.locs, Pt.cells, Pt.slots] at X185 l185 y185 z185 st185 hQ185
            subst l185 y185 z185
            obtain ⟨rfl, Nq185, e185⟩ := hQ185
            have N185 := Fr.app N167 Nq185
            obtain ⟨lo185, X185, N185⟩ : ∃ L, Stand p l e room_1 s m #[(.int q1), (.int q2), (.int q3), (.int q4), (.int q5), (.int q6)] below meth c T185 L 20 253 ∧ Fr n0 L := ⟨_, X185, N185⟩
            refine OGo.st (fun t kk => st185.trans kk) ?_
            show OGo p e below _ (T185.setTop (mkF m 206 #[vi q1, vi q2, vi q3, vi q4, vi q5, vi q6, vi (Int32.ofNat ln), vi (q2 &&& (2147483647 : Int32)), vi (2 : Int32), vi (1 : Int32), vi (1 : Int32), vi (Int32.ofNat tb), vr b3, vl (1 : Int64), .second, vi (1 : Int32), vi (0 : Int32), vi q3] [(.int (HD (1 : Int32) (xfs167 1) (xlb167 1) (xbl167 1) (xsb167 1) q4 q5 q6))]))
            refine OGo.st (fun t kk => XS.iload X185.here hx rfl (hb hby at_206) rfl kk) ?_
            show OGo p e below _ (T185.setTop (mkF m 208 #[vi q1, vi q2, vi q3, vi q4, vi q5, vi q6, vi (Int32.ofNat ln), vi (q2 &&& (2147483647 : Int32)), vi (2 : Int32), vi (1 : Int32), vi (1 : Int32), vi (Int32.ofNat tb), vr b3, vl (1 : Int64), .second, vi (1 : Int32), vi (0 : Int32), vi q3] [(.int (1 : Int32)), (.int (HD (1 : Int32) (xfs167 1) (xlb167 1) (xbl167 1) (xsb167 1) q4 q5 q6))]))
            refine OGo.st (fun t kk => XS.icmpNo X185.here hx rfl (hb hby at_208) rfl (teq (by simp +decide [HD, hx0167, hx1167, hx2167, hx3167, hx4167, hc170_182, hc177_183, hc184_184])).2 kk) ?_
            show OGo p e below _ (T185.setTop (mkF m 211 #[vi q1, vi q2, vi q3, vi q4, vi q5, vi q6, vi (Int32.ofNat ln), vi (q2 &&& (2147483647 : Int32)), vi (2 : Int32), vi (1 : Int32), vi (1 : Int32), vi (Int32.ofNat tb), vr b3, vl (1 : Int64), .second, vi (1 : Int32), vi (0 : Int32), vi q3] []))
            refine OGo.st (fun t kk => XS.iconst X185.here hx rfl (hb hby at_211) kk) ?_
            show OGo p e below _ (T185.setTop (mkF m 212 #[vi q1, vi q2, vi q3, vi q4, vi q5, vi q6, vi (Int32.ofNat ln), vi (q2 &&& (2147483647 : Int32)), vi (2 : Int32), vi (1 : Int32), vi (1 : Int32), vi (Int32.ofNat tb), vr b3, vl (1 : Int64), .second, vi (1 : Int32), vi (0 : Int32), vi q3] [(.int (1 : Int32))]))
            refine OGo.st (fun t kk => XS.goto X185.here hx rfl (pc0 := 212) (pc' := 216) rfl (hb hby at_212) (by decide) (by decide) kk) ?_
            show OGo p e below _ (T185.setTop (mkF m 216 #[vi q1, vi q2, vi q3, vi q4, vi q5, vi q6, vi (Int32.ofNat ln), vi (q2 &&& (2147483647 : Int32)), vi (2 : Int32), vi (1 : Int32), vi (1 : Int32), vi (Int32.ofNat tb), vr b3, vl (1 : Int64), .second, vi (1 : Int32), vi (0 : Int32), vi q3] [(.int (1 : Int32))]))
            exact OGo.outN X185 hx (t := .boolean) Bd.returns (by simp) Bd.notSynchronized (hb hby at_216) ⟨rfl, N185⟩ (by decide) (by decide)
          · refine OGo.st (fun t kk => XS.icmpYes X167.here hx rfl (pc0 := 184) (pc' := 191) rfl (hb hby at_184) rfl (feq hc184_184).2 (by decide) (by decide) kk) ?_
            show OGo p e below _ (T167.setTop (mkF m 191 #[vi q1, vi q2, vi q3, vi q4, vi q5, vi q6, vi (Int32.ofNat ln), vi (q2 &&& (2147483647 : Int32)), vi (2 : Int32), vi (1 : Int32), vi (1 : Int32), vi (Int32.ofNat tb), vr b3, vl (1 : Int64), .second, .unset, vi (0 : Int32), vi q3] []))
            refine OGo.st (fun t kk => XS.iconst X167.here hx rfl (hb hby at_191) kk) ?_
            show OGo p e below _ (T167.setTop (mkF m 192 #[vi q1, vi q2, vi q3, vi q4, vi q5, vi q6, vi (Int32.ofNat ln), vi (q2 &&& (2147483647 : Int32)), vi (2 : Int32), vi (1 : Int32), vi (1 : Int32), vi (Int32.ofNat tb), vr b3, vl (1 : Int64), .second, .unset, vi (0 : Int32), vi q3] [(.int (0 : Int32))]))
            refine OGo.st (fun t kk => XS.istore X167.here hx rfl (hb hby at_192) rfl (l' := #[vi q1, vi q2, vi q3, vi q4, vi q5, vi q6, vi (Int32.ofNat ln), vi (q2 &&& (2147483647 : Int32)), vi (2 : Int32), vi (1 : Int32), vi (1 : Int32), vi (Int32.ofNat tb), vr b3, vl (1 : Int64), .second, vi (0 : Int32), vi (0 : Int32), vi q3]) rfl kk) ?_
            show OGo p e below _ (T167.setTop (mkF m 194 #[vi q1, vi q2, vi q3, vi q4, vi q5, vi q6, vi (Int32.ofNat ln), vi (q2 &&& (2147483647 : Int32)), vi (2 : Int32), vi (1 : Int32), vi (1 : Int32), vi (Int32.ofNat tb), vr b3, vl (1 : Int64), .second, vi (0 : Int32), vi (0 : Int32), vi q3] []))
            refine OGo.st (fun t kk => XS.aload X167.here hx rfl (hb hby at_194) rfl rfl kk) ?_
            show OGo p e below _ (T167.setTop (mkF m 196 #[vi q1, vi q2, vi q3, vi q4, vi q5, vi q6, vi (Int32.ofNat ln), vi (q2 &&& (2147483647 : Int32)), vi (2 : Int32), vi (1 : Int32), vi (1 : Int32), vi (Int32.ofNat tb), vr b3, vl (1 : Int64), .second, vi (0 : Int32), vi (0 : Int32), vi q3] [(.ref b3)]))
            refine OGo.st (fun t kk => XS.iload X167.here hx rfl (hb hby at_196) rfl kk) ?_
            show OGo p e below _ (T167.setTop (mkF m 198 #[vi q1, vi q2, vi q3, vi q4, vi q5, vi q6, vi (Int32.ofNat ln), vi (q2 &&& (2147483647 : Int32)), vi (2 : Int32), vi (1 : Int32), vi (1 : Int32), vi (Int32.ofNat tb), vr b3, vl (1 : Int64), .second, vi (0 : Int32), vi (0 : Int32), vi q3] [(.int (1 : Int32)), (.ref b3)]))
            refine OGo.st (fun t kk => XS.iloadN X167.here hx rfl (hb hby at_198) rfl kk) ?_
            show OGo p e below _ (T167.setTop (mkF m 199 #[vi q1, vi q2, vi q3, vi q4, vi q5, vi q6, vi (Int32.ofNat ln), vi (q2 &&& (2147483647 : Int32)), vi (2 : Int32), vi (1 : Int32), vi (1 : Int32), vi (Int32.ofNat tb), vr b3, vl (1 : Int64), .second, vi (0 : Int32), vi (0 : Int32), vi q3] [(.int q4), (.int (1 : Int32)), (.ref b3)]))
            refine OGo.st (fun t kk => XS.iload X167.here hx rfl (hb hby at_199) rfl kk) ?_
            show OGo p e below _ (T167.setTop (mkF m 201 #[vi q1, vi q2, vi q3, vi q4, vi q5, vi q6, vi (Int32.ofNat ln), vi (q2 &&& (2147483647 : Int32)), vi (2 : Int32), vi (1 : Int32), vi (1 : Int32), vi (Int32.ofNat tb), vr b3, vl (1 : Int64), .second, vi (0 : Int32), vi (0 : Int32), vi q3] [(.int q5), (.int q4), (.int (1 : Int32)), (.ref b3)]))
            refine OGo.st (fun t kk => XS.iload X167.here hx rfl (hb hby at_201) rfl kk) ?_
            show OGo p e below _ (T167.setTop (mkF m 203 #[vi q1, vi q2, vi q3, vi q4, vi q5, vi q6, vi (Int32.ofNat ln), vi (q2 &&& (2147483647 : Int32)), vi (2 : Int32), vi (1 : Int32), vi (1 : Int32), vi (Int32.ofNat tb), vr b3, vl (1 : Int64), .second, vi (0 : Int32), vi (0 : Int32), vi q3] [(.int q6), (.int q5), (.int q4), (.int (1 : Int32)), (.ref b3)]))
            obtain ⟨cq186, kq186, q186a, q186b, q186c⟩ := isOf hZ rfl E167
            obtain ⟨_, _, ⟨T186, L186, k186, n186⟩, -, X186, ⟨Lc186, hQ186, l186, y186, z186⟩, st186⟩ := X167.virtualBack hx (y := (⟨"com/example/lockstep/lockstep/check/StepGroups", "holds", "(IIII)Z"⟩ : MethodName)) (z := (⟨"com/example/lockstep/lockstep/check/StepGroups", "holds", "(IIII)Z"⟩ : MethodName)) hown (mvT hZ (hw _ (List.mem_of_getElem? (i := 75) rfl))) (mvT hZ (hw _ (List.mem_of_getElem? (i := 76) rfl))) (notFace_of_selects (args := #[]) (mvT hZ (hw _ (List.mem_of_getElem? (i := 78) rfl)))) (mvT hZ (hw _ (List.mem_of_getElem? (i := 78) rfl))) (mvT hZ (hw _ (List.mem_of_getElem? (i := 77) rfl))) (by decide) (backOf (W := 0) (rmH l Z a0 hw [] b3 (1 : Int32) q4 q5 q6 em fr fb go ps ns fs lb sb bl pv nx pt qs ms (Int32.ofNat (1 + 1)) (1 : Int32) (0 : Int32) (1 : Int64) xfs167 xlb167 xbl167 xsb167 1 T167.heap n0 Z167 ⟨E167, F167_emptied, F167_free, F167_firstOfBlock, F167_groupOf, F167_previousStep, F167_nextStep, F167_firstStep, F167_label, F167_superBlock, F167_block, F167_previous, F167_next, F167_partner, F167_partnerStamp, F167_markStamp, F167_groupCount, F167_emptiedCount, F167_freeCount, F167_stamp⟩ ho0 gu Ofs_167 Olb_167 Obl_167 Osb_167 (Or.inr ⟨rfl, by decide⟩)) hZ (hw _ (List.mem_of_getElem? (i := 79) rfl)) (hw _ (List.mem_of_getElem? (i := 3) rfl)) (by decide) (by decide)) q186a q186c (g := (mkF m 203 #[vi q1, vi q2, vi q3, vi q4, vi q5, vi q6, vi (Int32.ofNat ln), vi (q2 &&& (2147483647 : Int32)), vi (2 : Int32), vi (1 : Int32), vi (1 : Int32), vi (Int32.ofNat tb), vr b3, vl (1 : Int64), .second, vi (0 : Int32), vi (0 : Int32), vi q3] [(.int q6), (.int q5), (.int q4), (.int (1 : Int32)), (.ref b3)])) rfl (by rw [hml]; rfl) (Steps.refl _) (argsL := [(.int (1 : Int32)), (.int q4), (.int q5), (.int q6)]) (rest := []) (lenOf pd0_2 rfl) rfl (by show 2 * 0 + _ ≤ _; exact Nat.le_of_eq rfl) (hb hby at_203) (fun _ _ => ⟨rfl, rfl, (by decide : 20 + 0 ≤ _), (by decide : 253 + 0 ≤ _)⟩)
            dsimp only [Pt.U, Pt.locs, Pt.cells, Pt.slots] at X186 l186 y186 z186 st186 hQ186
            subst l186 y186 z186
            obtain ⟨rfl, Nq186, e186⟩ := hQ186
            have N186 := Fr.app N167 Nq186
            obtain ⟨lo186, X186, N186⟩ : ∃ L, Stand p l e room_1 s m #[(.int q1), (.int q2), (.int q3), (.int q4), (.int q5), (.int q6)] below meth c T186 L 20 253 ∧ Fr n0 L := ⟨_, X186, N186⟩
            refine OGo.st (fun t kk => st186.trans kk) ?_
            show OGo p e below _ (T186.setTop (mkF m 206 #[vi q1, vi q2, vi q3, vi q4, vi q5, vi q6, vi (Int32.ofNat ln), vi (q2 &&& (2147483647 : Int32)), vi (2 : Int32), vi (1 : Int32), vi (1 : Int32), vi (Int32.ofNat tb), vr b3, vl (1 : Int64), .second, vi (0 : Int32), vi (0 : Int32), vi q3] [(.int (HD (1 : Int32) (xfs167 1) (xlb167 1) (xbl167 1) (xsb167 1) q4 q5 q6))]))
            refine OGo.st (fun t kk => XS.iload X186.here hx rfl (hb hby at_206) rfl kk) ?_
            show OGo p e below _ (T186.setTop (mkF m 208 #[vi q1, vi q2, vi q3, vi q4, vi q5, vi q6, vi (Int32.ofNat ln), vi (q2 &&& (2147483647 : Int32)), vi (2 : Int32), vi (1 : Int32), vi (1 : Int32), vi (Int32.ofNat tb), vr b3, vl (1 : Int64), .second, vi (0 : Int32), vi (0 : Int32), vi q3] [(.int (0 : Int32)), (.int (HD (1 : Int32) (xfs167 1) (xlb167 1) (xbl167 1) (xsb167 1) q4 q5 q6))]))
            refine OGo.st (fun t kk => XS.icmpNo X186.here hx rfl (hb hby at_208) rfl (teq (by simp +decide [HD, hx0167, hx1167, hx2167, hx3167, hx4167, hc170_182, hc177_183, hc184_184, (show ¬ q3 = q6 from fun e => hc184_184 e.symm)])).2 kk) ?_
            show OGo p e below _ (T186.setTop (mkF m 211 #[vi q1, vi q2, vi q3, vi q4, vi q5, vi q6, vi (Int32.ofNat ln), vi (q2 &&& (2147483647 : Int32)), vi (2 : Int32), vi (1 : Int32), vi (1 : Int32), vi (Int32.ofNat tb), vr b3, vl (1 : Int64), .second, vi (0 : Int32), vi (0 : Int32), vi q3] []))
            refine OGo.st (fun t kk => XS.iconst X186.here hx rfl (hb hby at_211) kk) ?_
            show OGo p e below _ (T186.setTop (mkF m 212 #[vi q1, vi q2, vi q3, vi q4, vi q5, vi q6, vi (Int32.ofNat ln), vi (q2 &&& (2147483647 : Int32)), vi (2 : Int32), vi (1 : Int32), vi (1 : Int32), vi (Int32.ofNat tb), vr b3, vl (1 : Int64), .second, vi (0 : Int32), vi (0 : Int32), vi q3] [(.int (1 : Int32))]))
            refine OGo.st (fun t kk => XS.goto X186.here hx rfl (pc0 := 212) (pc' := 216) rfl (hb hby at_212) (by decide) (by decide) kk) ?_
            show OGo p e below _ (T186.setTop (mkF m 216 #[vi q1, vi q2, vi q3, vi q4, vi q5, vi q6, vi (Int32.ofNat ln), vi (q2 &&& (2147483647 : Int32)), vi (2 : Int32), vi (1 : Int32), vi (1 : Int32), vi (Int32.ofNat tb), vr b3, vl (1 : Int64), .second, vi (0 : Int32), vi (0 : Int32), vi q3] [(.int (1 : Int32))]))
            exact OGo.outN X186 hx (t := .boolean) Bd.returns (by simp) Bd.notSynchronized (hb hby at_216) ⟨rfl, N186⟩ (by decide) (by decide)
        · refine OGo.st (fun t kk => XS.icmpYes X167.here hx rfl (pc0 := 177) (pc' := 191) rfl (hb hby at_177) rfl (feq hc177_183).2 (by decide) (by decide) kk) ?_
          show OGo p e below _ (T167.setTop (mkF m 191 #[vi q1, vi q2, vi q3, vi q4, vi q5, vi q6, vi (Int32.ofNat ln), vi (q2 &&& (2147483647 : Int32)), vi (2 : Int32), vi (1 : Int32), vi (1 : Int32), vi (Int32.ofNat tb), vr b3, vl (1 : Int64), .second, .unset, vi (0 : Int32), vi q3] []))
          refine OGo.st (fun t kk => XS.iconst X167.here hx rfl (hb hby at_191) kk) ?_
          show OGo p e below _ (T167.setTop (mkF m 192 #[vi q1, vi q2, vi q3, vi q4, vi q5, vi q6, vi (Int32.ofNat ln), vi (q2 &&& (2147483647 : Int32)), vi (2 : Int32), vi (1 : Int32), vi (1 : Int32), vi (Int32.ofNat tb), vr b3, vl (1 : Int64), .second, .unset, vi (0 : Int32), vi q3] [(.int (0 : Int32))]))
          refine OGo.st (fun t kk => XS.istore X167.here hx rfl (hb hby at_192) rfl (l' := #[vi q1, vi q2, vi q3, vi q4, vi q5, vi q6, vi (Int32.ofNat ln), vi (q2 &&& (2147483647 : Int32)), vi (2 : Int32), vi (1 : Int32), vi (1 : Int32), vi (Int32.ofNat tb), vr b3, vl (1 : Int64), .second, vi (0 : Int32), vi (0 : Int32), vi q3]) rfl kk) ?_
          show OGo p e below _ (T167.setTop (mkF m 194 #[vi q1, vi q2, vi q3, vi q4, vi q5, vi q6, vi (Int32.ofNat ln), vi (q2 &&& (2147483647 : Int32)), vi (2 : Int32), vi (1 : Int32), vi (1 : Int32), vi (Int32.ofNat tb), vr b3, vl (1 : Int64), .second, vi (0 : Int32), vi (0 : Int32), vi q3] []))
          refine OGo.st (fun t kk => XS.aload X167.here hx rfl (hb hby at_194) rfl rfl kk) ?_
          show OGo p e below _ (T167.setTop (mkF m 196 #[vi q1, vi q2, vi q3, vi q4, vi q5, vi q6, vi (Int32.ofNat ln), vi (q2 &&& (2147483647 : Int32)), vi (2 : Int32), vi (1 : Int32), vi (1 : Int32), vi (Int32.ofNat tb), vr b3, vl (1 : Int64), .second, vi (0 : Int32), vi (0 : Int32), vi q3] [(.ref b3)]))
          refine OGo.st (fun t kk => XS.iload X167.here hx rfl (hb hby at_196) rfl kk) ?_
          show OGo p e below _ (T167.setTop (mkF m 198 #[vi q1, vi q2, vi q3, vi q4, vi q5, vi q6, vi (Int32.ofNat ln), vi (q2 &&& (2147483647 : Int32)), vi (2 : Int32), vi (1 : Int32), vi (1 : Int32), vi (Int32.ofNat tb), vr b3, vl (1 : Int64), .second, vi (0 : Int32), vi (0 : Int32), vi q3] [(.int (1 : Int32)), (.ref b3)]))
          refine OGo.st (fun t kk => XS.iloadN X167.here hx rfl (hb hby at_198) rfl kk) ?_
          show OGo p e below _ (T167.setTop (mkF m 199 #[vi q1, vi q2, vi q3, vi q4, vi q5, vi q6, vi (Int32.ofNat ln), vi (q2 &&& (2147483647 : Int32)), vi (2 : Int32), vi (1 : Int32), vi (1 : Int32), vi (Int32.ofNat tb), vr b3, vl (1 : Int64), .second, vi (0 : Int32), vi (0 : Int32), vi q3] [(.int q4), (.int (1 : Int32)), (.ref b3)]))
          refine OGo.st (fun t kk => XS.iload X167.here hx rfl (hb hby at_199) rfl kk) ?_
          show OGo p e below _ (T167.setTop (mkF m 201 #[vi q1, vi q2, vi q3, vi q4, vi q5, vi q6, vi (Int32.ofNat ln), vi (q2 &&& (2147483647 : Int32)), vi (2 : Int32), vi (1 : Int32), vi (1 : Int32), vi (Int32.ofNat tb), vr b3, vl (1 : Int64), .second, vi (0 : Int32), vi (0 : Int32), vi q3] [(.int q5), (.int q4), (.int (1 : Int32)), (.ref b3)]))
          refine OGo.st (fun t kk => XS.iload X167.here hx rfl (hb hby at_201) rfl kk) ?_
          show OGo p e below _ (T167.setTop (mkF m 203 #[vi q1, vi q2, vi q3, vi q4, vi q5, vi q6, vi (Int32.ofNat ln), vi (q2 &&& (2147483647 : Int32)), vi (2 : Int32), vi (1 : Int32), vi (1 : Int32), vi (Int32.ofNat tb), vr b3, vl (1 : Int64), .second, vi (0 : Int32), vi (0 : Int32), vi q3] [(.int q6), (.int q5), (.int q4), (.int (1 : Int32)), (.ref b3)]))
          obtain ⟨cq187, kq187, q187a, q187b, q187c⟩ := isOf hZ rfl E167
          obtain ⟨_, _, ⟨T187, L187, k187, n187⟩, -, X187, ⟨Lc187, hQ187, l187, y187, z187⟩, st187⟩ := X167.virtualBack hx (y := (⟨"com/example/lockstep/lockstep/check/StepGroups", "holds", "(IIII)Z"⟩ : MethodName)) (z := (⟨"com/example/lockstep/lockstep/check/StepGroups", "holds", "(IIII)Z"⟩ : MethodName)) hown (mvT hZ (hw _ (List.mem_of_getElem? (i := 75) rfl))) (mvT hZ (hw _ (List.mem_of_getElem? (i := 76) rfl))) (notFace_of_selects (args := #[]) (mvT hZ (hw _ (List.mem_of_getElem? (i := 78) rfl)))) (mvT hZ (hw _ (List.mem_of_getElem? (i := 78) rfl))) (mvT hZ (hw _ (List.mem_of_getElem? (i := 77) rfl))) (by decide) (backOf (W := 0) (rmH l Z a0 hw [] b3 (1 : Int32) q4 q5 q6 em fr fb go ps ns fs lb sb bl pv nx pt qs ms (Int32.ofNat (1 + 1)) (1 : Int32) (0 : Int32) (1 : Int64) xfs167 xlb167 xbl167 xsb167 1 T167.heap n0 Z167 ⟨E167, F167_emptied, F167_free, F167_firstOfBlock, F167_groupOf, F167_previousStep, F167_nextStep, F167_firstStep, F167_label, F167_superBlock, F167_block, F167_previous, F167_next, F167_partner, F167_partnerStamp, F167_markStamp, F167_groupCount, F167_emptiedCount, F167_freeCount, F167_stamp⟩ ho0 gu Ofs_167 Olb_167 Obl_167 Osb_167 (Or.inr ⟨rfl, by decide⟩)) hZ (hw _ (List.mem_of_getElem? (i := 79) rfl)) (hw _ (List.mem_of_getElem? (i := 3) rfl)) (by decide) (by decide)) q187a q187c (g := (mkF m 203 #[vi q1, vi q2, vi q3, vi q4, vi q5, vi q6, vi (Int32.ofNat ln), vi (q2 &&& (2147483647 : Int32)), vi (2 : Int32), vi (1 : Int32), vi (1 : Int32), vi (Int32.ofNat tb), vr b3, vl (1 : Int64), .second, vi (0 : Int32), vi (0 : Int32), vi q3] [(.int q6), (.int q5), (.int q4), (.int (1 : Int32)), (.ref b3)])) rfl (by rw [hml]; rfl) (Steps.refl _) (argsL := [(.int (1 : Int32)), (.int q4), (.int q5), (.int q6)]) (rest := []) (lenOf pd0_2 rfl) rfl (by show 2 * 0 + _ ≤ _; exact Nat.le_of_eq rfl) (hb hby at_203) (fun _ _ => ⟨rfl, rfl, (by decide : 20 + 0 ≤ _), (by decide : 253 + 0 ≤ _)⟩)
          dsimp only [Pt.U, Pt.locs, Pt.cells, Pt.slots] at X187 l187 y187 z187 st187 hQ187
          subst l187 y187 z187
          obtain ⟨rfl, Nq187, e187⟩ := hQ187
          have N187 := Fr.app N167 Nq187
          obtain ⟨lo187, X187, N187⟩ : ∃ L, Stand p l e room_1 s m #[(.int q1), (.int q2), (.int q3), (.int q4), (.int q5), (.int q6)] below meth c T187 L 20 253 ∧ Fr n0 L := ⟨_, X187, N187⟩
          refine OGo.st (fun t kk => st187.trans kk) ?_
          show OGo p e below _ (T187.setTop (mkF m 206 #[vi q1, vi q2, vi q3, vi q4, vi q5, vi q6, vi (Int32.ofNat ln), vi (q2 &&& (2147483647 : Int32)), vi (2 : Int32), vi (1 : Int32), vi (1 : Int32), vi (Int32.ofNat tb), vr b3, vl (1 : Int64), .second, vi (0 : Int32), vi (0 : Int32), vi q3] [(.int (HD (1 : Int32) (xfs167 1) (xlb167 1) (xbl167 1) (xsb167 1) q4 q5 q6))]))
          refine OGo.st (fun t kk => XS.iload X187.here hx rfl (hb hby at_206) rfl kk) ?_
          show OGo p e below _ (T187.setTop (mkF m 208 #[vi q1, vi q2, vi q3, vi q4, vi q5, vi q6, vi (Int32.ofNat ln), vi (q2 &&& (2147483647 : Int32)), vi (2 : Int32), vi (1 : Int32), vi (1 : Int32), vi (Int32.ofNat tb), vr b3, vl (1 : Int64), .second, vi (0 : Int32), vi (0 : Int32), vi q3] [(.int (0 : Int32)), (.int (HD (1 : Int32) (xfs167 1) (xlb167 1) (xbl167 1) (xsb167 1) q4 q5 q6))]))
          refine OGo.st (fun t kk => XS.icmpNo X187.here hx rfl (hb hby at_208) rfl (teq (by simp +decide [HD, hx0167, hx1167, hx2167, hx3167, hx4167, hc170_182, hc177_183, (show ¬ (0 : Int32) = q5 from fun e => hc177_183 e.symm)])).2 kk) ?_
          show OGo p e below _ (T187.setTop (mkF m 211 #[vi q1, vi q2, vi q3, vi q4, vi q5, vi q6, vi (Int32.ofNat ln), vi (q2 &&& (2147483647 : Int32)), vi (2 : Int32), vi (1 : Int32), vi (1 : Int32), vi (Int32.ofNat tb), vr b3, vl (1 : Int64), .second, vi (0 : Int32), vi (0 : Int32), vi q3] []))
          refine OGo.st (fun t kk => XS.iconst X187.here hx rfl (hb hby at_211) kk) ?_
          show OGo p e below _ (T187.setTop (mkF m 212 #[vi q1, vi q2, vi q3, vi q4, vi q5, vi q6, vi (Int32.ofNat ln), vi (q2 &&& (2147483647 : Int32)), vi (2 : Int32), vi (1 : Int32), vi (1 : Int32), vi (Int32.ofNat tb), vr b3, vl (1 : Int64), .second, vi (0 : Int32), vi (0 : Int32), vi q3] [(.int (1 : Int32))]))
          refine OGo.st (fun t kk => XS.goto X187.here hx rfl (pc0 := 212) (pc' := 216) rfl (hb hby at_212) (by decide) (by decide) kk) ?_
          show OGo p e below _ (T187.setTop (mkF m 216 #[vi q1, vi q2, vi q3, vi q4, vi q5, vi q6, vi (Int32.ofNat ln), vi (q2 &&& (2147483647 : Int32)), vi (2 : Int32), vi (1 : Int32), vi (1 : Int32), vi (Int32.ofNat tb), vr b3, vl (1 : Int64), .second, vi (0 : Int32), vi (0 : Int32), vi q3] [(.int (1 : Int32))]))
          exact OGo.outN X187 hx (t := .boolean) Bd.returns (by simp) Bd.notSynchronized (hb hby at_216) ⟨rfl, N187⟩ (by decide) (by decide)
      · refine OGo.st (fun t kk => XS.icmpYes X167.here hx rfl (pc0 := 170) (pc' := 191) rfl (hb hby at_170) rfl (feq hc170_182).2 (by decide) (by decide) kk) ?_
        show OGo p e below _ (T167.setTop (mkF m 191 #[vi q1, vi q2, vi q3, vi q4, vi q5, vi q6, vi (Int32.ofNat ln), vi (q2 &&& (2147483647 : Int32)), vi (2 : Int32), vi (1 : Int32), vi (1 : Int32), vi (Int32.ofNat tb), vr b3, vl (1 : Int64), .second, .unset, vi (0 : Int32), vi q3] []))
        refine OGo.st (fun t kk => XS.iconst X167.here hx rfl (hb hby at_191) kk) ?_
        show OGo p e below _ (T167.setTop (mkF m 192 #[vi q1, vi q2, vi q3, vi q4, vi q5, vi q6, vi (Int32.ofNat ln), vi (q2 &&& (2147483647 : Int32)), vi (2 : Int32), vi (1 : Int32), vi (1 : Int32), vi (Int32.ofNat tb), vr b3, vl (1 : Int64), .second, .unset, vi (0 : Int32), vi q3] [(.int (0 : Int32))]))
        refine OGo.st (fun t kk => XS.istore X167.here hx rfl (hb hby at_192) rfl (l' := #[vi q1, vi q2, vi q3, vi q4, vi q5, vi q6, vi (Int32.ofNat ln), vi (q2 &&& (2147483647 : Int32)), vi (2 : Int32), vi (1 : Int32), vi (1 : Int32), vi (Int32.ofNat tb), vr b3, vl (1 : Int64), .second, vi (0 : Int32), vi (0 : Int32), vi q3]) rfl kk) ?_
        show OGo p e below _ (T167.setTop (mkF m 194 #[vi q1, vi q2, vi q3, vi q4, vi q5, vi q6, vi (Int32.ofNat ln), vi (q2 &&& (2147483647 : Int32)), vi (2 : Int32), vi (1 : Int32), vi (1 : Int32), vi (Int32.ofNat tb), vr b3, vl (1 : Int64), .second, vi (0 : Int32), vi (0 : Int32), vi q3] []))
        refine OGo.st (fun t kk => XS.aload X167.here hx rfl (hb hby at_194) rfl rfl kk) ?_
        show OGo p e below _ (T167.setTop (mkF m 196 #[vi q1, vi q2, vi q3, vi q4, vi q5, vi q6, vi (Int32.ofNat ln), vi (q2 &&& (2147483647 : Int32)), vi (2 : Int32), vi (1 : Int32), vi (1 : Int32), vi (Int32.ofNat tb), vr b3, vl (1 : Int64), .second, vi (0 : Int32), vi (0 : Int32), vi q3] [(.ref b3)]))
        refine OGo.st (fun t kk => XS.iload X167.here hx rfl (hb hby at_196) rfl kk) ?_
        show OGo p e below _ (T167.setTop (mkF m 198 #[vi q1, vi q2, vi q3, vi q4, vi q5, vi q6, vi (Int32.ofNat ln), vi (q2 &&& (2147483647 : Int32)), vi (2 : Int32), vi (1 : Int32), vi (1 : Int32), vi (Int32.ofNat tb), vr b3, vl (1 : Int64), .second, vi (0 : Int32), vi (0 : Int32), vi q3] [(.int (1 : Int32)), (.ref b3)]))
        refine OGo.st (fun t kk => XS.iloadN X167.here hx rfl (hb hby at_198) rfl kk) ?_
        show OGo p e below _ (T167.setTop (mkF m 199 #[vi q1, vi q2, vi q3, vi q4, vi q5, vi q6, vi (Int32.ofNat ln), vi (q2 &&& (2147483647 : Int32)), vi (2 : Int32), vi (1 : Int32), vi (1 : Int32), vi (Int32.ofNat tb), vr b3, vl (1 : Int64), .second, vi (0 : Int32), vi (0 : Int32), vi q3] [(.int q4), (.int (1 : Int32)), (.ref b3)]))
        refine OGo.st (fun t kk => XS.iload X167.here hx rfl (hb hby at_199) rfl kk) ?_
        show OGo p e below _ (T167.setTop (mkF m 201 #[vi q1, vi q2, vi q3, vi q4, vi q5, vi q6, vi (Int32.ofNat ln), vi (q2 &&& (2147483647 : Int32)), vi (2 : Int32), vi (1 : Int32), vi (1 : Int32), vi (Int32.ofNat tb), vr b3, vl (1 : Int64), .second, vi (0 : Int32), vi (0 : Int32), vi q3] [(.int q5), (.int q4), (.int (1 : Int32)), (.ref b3)]))
        refine OGo.st (fun t kk => XS.iload X167.here hx rfl (hb hby at_201) rfl kk) ?_
        show OGo p e below _ (T167.setTop (mkF m 203 #[vi q1, vi q2, vi q3, vi q4, vi q5, vi q6, vi (Int32.ofNat ln), vi (q2 &&& (2147483647 : Int32)), vi (2 : Int32), vi (1 : Int32), vi (1 : Int32), vi (Int32.ofNat tb), vr b3, vl (1 : Int64), .second, vi (0 : Int32), vi (0 : Int32), vi q3] [(.int q6), (.int q5), (.int q4), (.int (1 : Int32)), (.ref b3)]))
        obtain ⟨cq188, kq188, q188a, q188b, q188c⟩ := isOf hZ rfl E167
        obtain ⟨_, _, ⟨T188, L188, k188, n188⟩, -, X188, ⟨Lc188, hQ188, l188, y188, z188⟩, st188⟩ := X167.virtualBack hx (y := (⟨"com/example/lockstep/lockstep/check/StepGroups", "holds", "(IIII)Z"⟩ : MethodName)) (z := (⟨"com/example/lockstep/lockstep/check/StepGroups", "holds", "(IIII)Z"⟩ : MethodName)) hown (mvT hZ (hw _ (List.mem_of_getElem? (i := 75) rfl))) (mvT hZ (hw _ (List.mem_of_getElem? (i := 76) rfl))) (notFace_of_selects (args := #[]) (mvT hZ (hw _ (List.mem_of_getElem? (i := 78) rfl)))) (mvT hZ (hw _ (List.mem_of_getElem? (i := 78) rfl))) (mvT hZ (hw _ (List.mem_of_getElem? (i := 77) rfl))) (by decide) (backOf (W := 0) (rmH l Z a0 hw [] b3 (1 : Int32) q4 q5 q6 em fr fb go ps ns fs lb sb bl pv nx pt qs ms (Int32.ofNat (1 + 1)) (1 : Int32) (0 : Int32) (1 : Int64) xfs167 xlb167 xbl167 xsb167 1 T167.heap n0 Z167 ⟨E167, F167_emptied, F167_free, F167_firstOfBlock, F167_groupOf, F167_previousStep, F167_nextStep, F167_firstStep, F167_label, F167_superBlock, F167_block, F167_previous, F167_next, F167_partner, F167_partnerStamp, F167_markStamp, F167_groupCount, F167_emptiedCount, F167_freeCount, F167_stamp⟩ ho0 gu Ofs_167 Olb_167 Obl_167 Osb_167 (Or.inr ⟨rfl, by decide⟩)) hZ (hw _ (List.mem_of_getElem? (i := 79) rfl)) (hw _ (List.mem_of_getElem? (i := 3) rfl)) (by decide) (by decide)) q188a q188c (g := (mkF m 203 #[vi q1, vi q2, vi q3, vi q4, vi q5, vi q6, vi (Int32.ofNat ln), vi (q2 &&& (2147483647 : Int32)), vi (2 : Int32), vi (1 : Int32), vi (1 : Int32), vi (Int32.ofNat tb), vr b3, vl (1 : Int64), .second, vi (0 : Int32), vi (0 : Int32), vi q3] [(.int q6), (.int q5), (.int q4), (.int (1 : Int32)), (.ref b3)])) rfl (by rw [hml]; rfl) (Steps.refl _) (argsL := [(.int (1 : Int32)), (.int q4), (.int q5), (.int q6)]) (rest := []) (lenOf pd0_2 rfl) rfl (by show 2 * 0 + _ ≤ _; exact Nat.le_of_eq rfl) (hb hby at_203) (fun _ _ => ⟨rfl, rfl, (by decide : 20 + 0 ≤ _), (by decide : 253 + 0 ≤ _)⟩)
        dsimp only [Pt.U, Pt.locs, Pt.cells, Pt.slots] at X188 l188 y188 z188 st188 hQ188
        subst l188 y188 z188
        obtain ⟨rfl, Nq188, e188⟩ := hQ188
        have N188 := Fr.app N167 Nq188
        obtain ⟨lo188, X188, N188⟩ : ∃ L, Stand p l e room_1 s m #[(.int q1), (.int q2), (.int q3), (.int q4), (.int q5), (.int q6)] below meth c T188 L 20 253 ∧ Fr n0 L := ⟨_, X188, N188⟩
        refine OGo.st (fun t kk => st188.trans kk) ?_
        show OGo p e below _ (T188.setTop (mkF m 206 #[vi q1, vi q2, vi q3, vi q4, vi q5, vi q6, vi (Int32.ofNat ln), vi (q2 &&& (2147483647 : Int32)), vi (2 : Int32), vi (1 : Int32), vi (1 : Int32), vi (Int32.ofNat tb), vr b3, vl (1 : Int64), .second, vi (0 : Int32), vi (0 : Int32), vi q3] [(.int (HD (1 : Int32) (xfs167 1) (xlb167 1) (xbl167 1) (xsb167 1) q4 q5 q6))]))
        refine OGo.st (fun t kk => XS.iload X188.here hx rfl (hb hby at_206) rfl kk) ?_
        show OGo p e below _ (T188.setTop (mkF m 208 #[vi q1, vi q2, vi q3, vi q4, vi q5, vi q6, vi (Int32.ofNat ln), vi (q2 &&& (2147483647 : Int32)), vi (2 : Int32), vi (1 : Int32), vi (1 : Int32), vi (Int32.ofNat tb), vr b3, vl (1 : Int64), .second, vi (0 : Int32), vi (0 : Int32), vi q3] [(.int (0 : Int32)), (.int (HD (1 : Int32) (xfs167 1) (xlb167 1) (xbl167 1) (xsb167 1) q4 q5 q6))]))
        refine OGo.st (fun t kk => XS.icmpNo X188.here hx rfl (hb hby at_208) rfl (teq (by simp +decide [HD, hx0167, hx1167, hx2167, hx3167, hx4167, hc170_182, (show ¬ (Int32.ofNat ln) = q4 from fun e => hc170_182 e.symm)])).2 kk) ?_
        show OGo p e below _ (T188.setTop (mkF m 211 #[vi q1, vi q2, vi q3, vi q4, vi q5, vi q6, vi (Int32.ofNat ln), vi (q2 &&& (2147483647 : Int32)), vi (2 : Int32), vi (1 : Int32), vi (1 : Int32), vi (Int32.ofNat tb), vr b3, vl (1 : Int64), .second, vi (0 : Int32), vi (0 : Int32), vi q3] []))
        refine OGo.st (fun t kk => XS.iconst X188.here hx rfl (hb hby at_211) kk) ?_
        show OGo p e below _ (T188.setTop (mkF m 212 #[vi q1, vi q2, vi q3, vi q4, vi q5, vi q6, vi (Int32.ofNat ln), vi (q2 &&& (2147483647 : Int32)), vi (2 : Int32), vi (1 : Int32), vi (1 : Int32), vi (Int32.ofNat tb), vr b3, vl (1 : Int64), .second, vi (0 : Int32), vi (0 : Int32), vi q3] [(.int (1 : Int32))]))
        refine OGo.st (fun t kk => XS.goto X188.here hx rfl (pc0 := 212) (pc' := 216) rfl (hb hby at_212) (by decide) (by decide) kk) ?_
        show OGo p e below _ (T188.setTop (mkF m 216 #[vi q1, vi q2, vi q3, vi q4, vi q5, vi q6, vi (Int32.ofNat ln), vi (q2 &&& (2147483647 : Int32)), vi (2 : Int32), vi (1 : Int32), vi (1 : Int32), vi (Int32.ofNat tb), vr b3, vl (1 : Int64), .second, vi (0 : Int32), vi (0 : Int32), vi q3] [(.int (1 : Int32))]))
        exact OGo.outN X188 hx (t := .boolean) Bd.returns (by simp) Bd.notSynchronized (hb hby at_216) ⟨rfl, N188⟩ (by decide) (by decide)
set_option maxRecDepth 65536 in
set_option maxHeartbeats 40000000 in
theorem comes_1 {Post : Tables → Env → Array Value → State → Outcome → State → Prop} (hpost : ∀ tb e args s v u, (limb_1_1.after args s (.returned v) u = true ∧ limb_1_2.after args s (.returned v) u = true ∧ True) → FrameEnd s (.returned v) u (Jvm.fieldLocs frame_1_writes args s ++ Jvm.arrayLocs frame_1_arrays args s ++ Jvm.staticLocs frame_1_statics s) 48 576 → Post tb e args s (.returned v) u) :
    ArmFor flags0 classFile x code maxLocals ret World_1 tables_1 room_1 Calls_1 rest_1 Pre_1 Post := by
  intro l hfl _ _ p e ha hc hk s m args below hf hA hF happ hP
  obtain ⟨hcalls, hrest, hpre⟩ := hP
  obtain ⟨-, -, -, hnamed, -, -, -, hat⟩ := (Spec.applies_iff hf).mp happ
  obtain ⟨hg, hn⟩ := and_e (Cond.before_iff.mp (show (Jvm.Cond.and given_1 narrow_1).before args s = true from hpre))
  obtain ⟨gg1, gg2⟩ := and_e hg
  obtain ⟨gg3, gg4⟩ := and_e gg2
  obtain ⟨gg5, gg6⟩ := and_e gg4
  obtain ⟨gg7, gg8⟩ := and_e gg6
  obtain ⟨gg9, gg10⟩ := and_e gg8
  obtain ⟨gg11, gg12⟩ := and_e gg10
  obtain ⟨w0, w1, w2, w3, w4, w5, rfl⟩ : ∃ w0 w1 w2 w3 w4 w5 : Value, args = #[w0, w1, w2, w3, w4, w5] := by
    have hs : args.size = 6 := by simpa [Cond.value, given_1] using gg1
    obtain ⟨L⟩ := args
    match L, hs with
    | [w0, w1, w2, w3, w4, w5], _ => exact ⟨w0, w1, w2, w3, w4, w5, rfl⟩
  have hw := fun d (hd : d ∈ tables_1) => atoms_spec (ws := Jvm.Cond.code x code maxLocals ret :: tables_1) hat d (List.mem_cons_of_mem _ hd)
  obtain ⟨i0, ei0⟩ := is_v gg3
  obtain rfl : w0 = (.int i0) := Option.some.inj ei0
  obtain ⟨i1, ei1⟩ := is_v gg5
  obtain rfl : w1 = (.int i1) := Option.some.inj ei1
  obtain ⟨i2, ei2⟩ := is_v gg7
  obtain rfl : w2 = (.int i2) := Option.some.inj ei2
  obtain ⟨i3, ei3⟩ := is_v gg9
  obtain rfl : w3 = (.int i3) := Option.some.inj ei3
  obtain ⟨i4, ei4⟩ := is_v gg11
  obtain rfl : w4 = (.int i4) := Option.some.inj ei4
  obtain ⟨i5, ei5⟩ := is_v gg12
  obtain rfl : w5 = (.int i5) := Option.some.inj ei5
  obtain ⟨n, o, h1, h2, h3, _, L, rfl, ⟨rfl, N⟩, hq⟩ := rm0 l s _ hw tables_1 i0 i1 i2 i3 i4 i5 s.heap s.heap.size (Nat.le_refl _) p e ha hc hk s m _ below hf ((Spec.applies_iff_loose hf).mp happ).1 ⟨rfl, State.Warmed39.refl s, rfl⟩ trivial
  refine ⟨n, _, h1, h2, h3, hpost _ _ _ _ _ _ ⟨Cond.after_iff.mpr rfl, Cond.after_iff.mpr (eq_i res_at (Term.int_eval (1)) rfl), trivial⟩ ⟨hq.1, hq.2.1, (hq.2.2.sift fun y hy => Or.inr (N y hy)).mono (by decide) (by decide)⟩⟩
theorem main_1_1 : Claimed_1_1 := comes_1 fun _ _ _ _ _ _ h hF => ⟨h.1, hF⟩
theorem main_1_2 : Claimed_1_2 := comes_1 fun _ _ _ _ _ _ h hF => ⟨h.2.1, hF⟩
end Jvm.Pilot.@@N@@
namespace Jvm.Pilot.@@N@@
open Jvm Jvm.ClassFile Sem Op Lib Jvm.Free Jvm.Stand Jvm.Pilot.@@N@@.Jvm.D
/-! MADE BY PROGRAM (witnessworld.py) out of the Statement's table words and the real class files: 13 classes; the members and pool entries that the words name. The judged class is class 1, her method 1. -/
namespace start1
open Jvm.ClassFile
def u (s : String) : CpInfo := .utf8 (stringToUtf16 s)
/-- a pool by its gaps: so many unusable entries, then the entry; so many at the end -/
def gap : Nat → List CpInfo → List CpInfo
  | 0, r => r
  | n + 1, r => .unusable :: gap n r
def poolList (es : List (Nat × CpInfo)) (last : Nat) : List CpInfo := es.foldr (fun e r => gap e.1 (e.2 :: r)) (gap last [])
def pool (es : List (Nat × CpInfo)) (last : Nat) : Array CpInfo := ⟨poolList es last⟩
def fileOf (pool : Array CpInfo) (this : Nat) (attrs : Array Attribute := #[]) (ms : Array MethodInfo := #[]) (fl : Nat := 33) (sup : Nat := 0) (ifs : Array Nat := #[]) (fds : Array FieldInfo := #[]) : ClassFile where
  minorVersion := 0
  majorVersion := 65
  constantPool := pool
  accessFlags := fl
  thisClass := this
  superClass := sup
  interfaces := ifs
  fields := fds
  methods := ms
  attributes := attrs
def plain (name : String) (sup : Option ClassId) : Class where
  name := name
  kind := .ordinary
  loader := none
  accessFlags := 33
  super := sup
  interfaces := #[]
  cf := none
  fields := #[]
  methods := #[]
  instanceTypes := #[]
  staticTypes := #[]
  resolved := #[]
  callSites := []
  init := .initialized
  statics := none
  mirror := none

def pool0 : Array CpInfo := pool [(5, u "<init>"), (0, u "()V"), (1, .class_ 10), (1, u "java/lang/Object")] 113

def k0c0 : Code := { maxStack := 0, maxLocals := 1, code := object_method_1_code, exceptionTable := #[], attributes := #[] }
def k0m0 : Method := { name := "<init>", desc := "()V", sig := { parameters := [], returnType := none }, accessFlags := 1, code := some k0c0 }
/-- java/lang/Object -/
def k0 : Class := { plain "java/lang/Object" none with
  accessFlags := 33
  interfaces := #[]
  cf := some (fileOf pool0 8 #[] #[{ accessFlags := 1, nameIndex := 5, descriptorIndex := 6, attributes := #[] }] 33 0 #[] #[])
  fields := #[]
  methods := #[k0m0]
  instanceTypes := #[]
  staticTypes := #[]
  resolved := Array.replicate 124 none
  statics := none }

def pool1 : Array CpInfo := pool [(2, .class_ 4), (1, u "java/lang/Object"), (0, u "<init>"), (0, u "()V"), (0, .integer 2147483647), (0, .class_ 9), (0, u "com/example/lockstep/lockstep/check/StepGroups"), (0, .methodref 8 11), (0, .nameAndType 5 12), (0, u "([III)V"), (0, .methodref 8 14), (0, .nameAndType 15 16), (0, u "newStamp"), (0, u "()J"), (0, .methodref 8 18), (0, .nameAndType 19 20), (0, u "moveToBlock"), (0, u "(IJI)V"), (0, .methodref 8 22), (0, .nameAndType 23 20), (0, u "moveToSuperBlock"), (0, .methodref 8 25), (0, .nameAndType 26 27), (0, u "holds"), (0, u "(IIII)Z"), (0, .class_ 29), (0, u "com/example/lockstep/lockstep/check/StepGroupsHoldsPinLaw"), (2, u "law"), (0, u "(IIIIII)Z")] 3

def k1m0 : Method := { name := "<init>", desc := "()V", sig := { parameters := [], returnType := none }, accessFlags := 1, code := none }
def k1c1 : Code := { maxStack := 6, maxLocals := 18, code := code, exceptionTable := #[], attributes := #[] }
def k1m1 : Method := { name := "law", desc := "(IIIIII)Z", sig := { parameters := [.int, .int, .int, .int, .int, .int], returnType := some .boolean }, accessFlags := 9, code := some k1c1 }
/-- com/example/lockstep/lockstep/check/StepGroupsHoldsPinLaw -/
def k1 : Class := { plain "com/example/lockstep/lockstep/check/StepGroupsHoldsPinLaw" (some 0) with
  accessFlags := 49
  interfaces := #[]
  cf := some (fileOf pool1 28 #[] #[{ accessFlags := 1, nameIndex := 5, descriptorIndex := 6, attributes := #[] }, { accessFlags := 9, nameIndex := 32, descriptorIndex := 33, attributes := #[] }] 49 2 #[] #[])
  fields := #[]
  methods := #[k1m0, k1m1]
  instanceTypes := #[]
  staticTypes := #[]
  resolved := Array.replicate 37 none
  statics := none }

def pool2 : Array CpInfo := pool [(1, .methodref 2 3), (0, .class_ 4), (0, .nameAndType 5 6), (0, u "java/lang/Object"), (0, u "<init>"), (0, u "()V"), (0, .fieldref 8 9), (0, .class_ 10), (0, .nameAndType 11 12), (0, u "com/example/lockstep/lockstep/check/StepGroups"), (0, u "emptied"), (0, u "[I"), (0, .fieldref 8 14), (0, .nameAndType 15 12), (0, u "free"), (0, .fieldref 8 17), (0, .nameAndType 18 12), (0, u "firstOfBlock"), (0, .fieldref 8 20), (0, .nameAndType 21 12), (0, u "addedTo"), (0, .fieldref 8 23), (0, .nameAndType 24 25), (0, u "addedStamp"), (0, u "[J"), (0, .fieldref 8 27), (0, .nameAndType 28 12), (0, u "groupOf"), (0, .fieldref 8 30), (0, .nameAndType 31 12), (0, u "previousStep"), (0, .fieldref 8 33), (0, .nameAndType 34 12), (0, u "nextStep"), (0, .methodref 36 37), (0, .class_ 38), (0, .nameAndType 39 40), (0, u "java/lang/Math"), (0, u "max"), (0, u "(II)I"), (0, .fieldref 8 42), (0, .nameAndType 43 12), (0, u "firstStep"), (0, .fieldref 8 45), (0, .nameAndType 46 12), (0, u "label"), (0, .fieldref 8 48), (0, .nameAndType 49 12), (0, u "superBlock"), (0, .fieldref 8 51), (0, .nameAndType 52 12), (0, u "block"), (0, .fieldref 8 54), (0, .nameAndType 55 12), (0, u "previous"), (0, .fieldref 8 57), (0, .nameAndType 58 12), (0, u "next"), (0, .fieldref 8 60), (0, .nameAndType 61 12), (0, u "partner"), (0, .fieldref 8 63), (0, .nameAndType 64 25), (0, u "partnerStamp"), (0, .fieldref 8 66), (0, .nameAndType 67 25), (0, u "markStamp"), (0, .methodref 69 70), (0, .class_ 71), (0, .nameAndType 72 73), (0, u "java/util/Arrays"), (0, u "fill"), (0, u "([II)V"), (0, .methodref 8 75), (0, .nameAndType 76 77), (0, u "make"), (0, u "(III)I"), (0, .methodref 8 79), (0, .nameAndType 80 81), (0, u "link"), (0, u "(II)V"), (0, .fieldref 8 83), (0, .nameAndType 84 85), (0, u "emptiedCount"), (0, u "I"), (0, .fieldref 8 87), (0, .nameAndType 88 85), (0, u "freeCount"), (10, .fieldref 8 100), (0, .nameAndType 101 102), (0, u "stamp"), (0, u "J"), (6, .methodref 8 110), (0, .nameAndType 111 112), (0, u "move"), (0, u "(IIJII)V"), (0, .methodref 8 114), (0, .nameAndType 115 116), (0, u "unlink"), (0, u "(I)V"), (0, .fieldref 8 118), (0, .nameAndType 119 85), (0, u "groupCount"), (0, u "NONE"), (2, u "([III)V"), (4, u "newStamp"), (0, u "()J"), (1, u "moveToBlock"), (0, u "(IJI)V"), (0, u "moveToSuperBlock"), (2, u "holds"), (0, u "(IIII)Z")] 8

def k2c0 : Code := { maxStack := 6, maxLocals := 9, code := prog_76_method_1_code, exceptionTable := #[], attributes := #[] }
def k2m0 : Method := { name := "<init>", desc := "([III)V", sig := { parameters := [(.array .int), .int, .int], returnType := none }, accessFlags := 0, code := some k2c0 }
def k2c1 : Code := { maxStack := 7, maxLocals := 2, code := prog_76_method_2_code, exceptionTable := #[], attributes := #[] }
def k2m1 : Method := { name := "newStamp", desc := "()J", sig := { parameters := [], returnType := some .long }, accessFlags := 0, code := some k2c1 }
def k2c2 : Code := { maxStack := 8, maxLocals := 6, code := prog_76_method_4_code, exceptionTable := #[], attributes := #[] }
def k2m2 : Method := { name := "moveToBlock", desc := "(IJI)V", sig := { parameters := [.int, .long, .int], returnType := none }, accessFlags := 0, code := some k2c2 }
def k2c3 : Code := { maxStack := 7, maxLocals := 6, code := prog_76_method_5_code, exceptionTable := #[], attributes := #[] }
def k2m3 : Method := { name := "moveToSuperBlock", desc := "(IJI)V", sig := { parameters := [.int, .long, .int], returnType := none }, accessFlags := 0, code := some k2c3 }
def k2c4 : Code := { maxStack := 2, maxLocals := 5, code := prog_76_method_8_code, exceptionTable := #[], attributes := #[] }
def k2m4 : Method := { name := "holds", desc := "(IIII)Z", sig := { parameters := [.int, .int, .int, .int], returnType := some .boolean }, accessFlags := 0, code := some k2c4 }
def k2c5 : Code := { maxStack := 7, maxLocals := 9, code := prog_76_method_17_code, exceptionTable := #[], attributes := #[] }
def k2m5 : Method := { name := "move", desc := "(IIJII)V", sig := { parameters := [.int, .int, .long, .int, .int], returnType := none }, accessFlags := 2, code := some k2c5 }
def k2c6 : Code := { maxStack := 3, maxLocals := 4, code := prog_76_method_18_code, exceptionTable := #[], attributes := #[] }
def k2m6 : Method := { name := "link", desc := "(II)V", sig := { parameters := [.int, .int], returnType := none }, accessFlags := 2, code := some k2c6 }
def k2c7 : Code := { maxStack := 5, maxLocals := 6, code := prog_76_method_19_code, exceptionTable := #[], attributes := #[] }
def k2m7 : Method := { name := "make", desc := "(III)I", sig := { parameters := [.int, .int, .int], returnType := some .int }, accessFlags := 2, code := some k2c7 }
def k2c8 : Code := { maxStack := 3, maxLocals := 4, code := prog_76_method_20_code, exceptionTable := #[], attributes := #[] }
def k2m8 : Method := { name := "unlink", desc := "(I)V", sig := { parameters := [.int], returnType := none }, accessFlags := 2, code := some k2c8 }
/-- com/example/lockstep/lockstep/check/StepGroups -/
def k2 : Class := { plain "com/example/lockstep/lockstep/check/StepGroups" (some 0) with
  accessFlags := 48
  interfaces := #[]
  cf := some (fileOf pool2 8 #[] #[{ accessFlags := 0, nameIndex := 5, descriptorIndex := 123, attributes := #[] }, { accessFlags := 0, nameIndex := 128, descriptorIndex := 129, attributes := #[] }, { accessFlags := 0, nameIndex := 131, descriptorIndex := 132, attributes := #[] }, { accessFlags := 0, nameIndex := 133, descriptorIndex := 132, attributes := #[] }, { accessFlags := 0, nameIndex := 136, descriptorIndex := 137, attributes := #[] }, { accessFlags := 2, nameIndex := 111, descriptorIndex := 112, attributes := #[] }, { accessFlags := 2, nameIndex := 80, descriptorIndex := 81, attributes := #[] }, { accessFlags := 2, nameIndex := 76, descriptorIndex := 77, attributes := #[] }, { accessFlags := 2, nameIndex := 115, descriptorIndex := 116, attributes := #[] }] 48 2 #[] #[{ accessFlags := 24, nameIndex := 120, descriptorIndex := 85, attributes := #[] }, { accessFlags := 18, nameIndex := 28, descriptorIndex := 12, attributes := #[] }, { accessFlags := 18, nameIndex := 31, descriptorIndex := 12, attributes := #[] }, { accessFlags := 18, nameIndex := 34, descriptorIndex := 12, attributes := #[] }, { accessFlags := 2, nameIndex := 43, descriptorIndex := 12, attributes := #[] }, { accessFlags := 2, nameIndex := 46, descriptorIndex := 12, attributes := #[] }, { accessFlags := 2, nameIndex := 49, descriptorIndex := 12, attributes := #[] }, { accessFlags := 2, nameIndex := 52, descriptorIndex := 12, attributes := #[] }, { accessFlags := 2, nameIndex := 55, descriptorIndex := 12, attributes := #[] }, { accessFlags := 2, nameIndex := 58, descriptorIndex := 12, attributes := #[] }, { accessFlags := 2, nameIndex := 61, descriptorIndex := 12, attributes := #[] }, { accessFlags := 2, nameIndex := 64, descriptorIndex := 25, attributes := #[] }, { accessFlags := 2, nameIndex := 67, descriptorIndex := 25, attributes := #[] }, { accessFlags := 2, nameIndex := 119, descriptorIndex := 85, attributes := #[] }, { accessFlags := 2, nameIndex := 11, descriptorIndex := 12, attributes := #[] }, { accessFlags := 2, nameIndex := 84, descriptorIndex := 85, attributes := #[] }, { accessFlags := 2, nameIndex := 15, descriptorIndex := 12, attributes := #[] }, { accessFlags := 2, nameIndex := 88, descriptorIndex := 85, attributes := #[] }, { accessFlags := 2, nameIndex := 18, descriptorIndex := 12, attributes := #[] }, { accessFlags := 2, nameIndex := 21, descriptorIndex := 12, attributes := #[] }, { accessFlags := 2, nameIndex := 24, descriptorIndex := 25, attributes := #[] }, { accessFlags := 2, nameIndex := 101, descriptorIndex := 102, attributes := #[] }])
  fields := #[{ name := "NONE", type := .int, accessFlags := 24, slot := 0, constantValue := 0 }, { name := "groupOf", type := (.array .int), accessFlags := 18, slot := 0, constantValue := 0 }, { name := "previousStep", type := (.array .int), accessFlags := 18, slot := 1, constantValue := 0 }, { name := "nextStep", type := (.array .int), accessFlags := 18, slot := 2, constantValue := 0 }, { name := "firstStep", type := (.array .int), accessFlags := 2, slot := 3, constantValue := 0 }, { name := "label", type := (.array .int), accessFlags := 2, slot := 4, constantValue := 0 }, { name := "superBlock", type := (.array .int), accessFlags := 2, slot := 5, constantValue := 0 }, { name := "block", type := (.array .int), accessFlags := 2, slot := 6, constantValue := 0 }, { name := "previous", type := (.array .int), accessFlags := 2, slot := 7, constantValue := 0 }, { name := "next", type := (.array .int), accessFlags := 2, slot := 8, constantValue := 0 }, { name := "partner", type := (.array .int), accessFlags := 2, slot := 9, constantValue := 0 }, { name := "partnerStamp", type := (.array .long), accessFlags := 2, slot := 10, constantValue := 0 }, { name := "markStamp", type := (.array .long), accessFlags := 2, slot := 11, constantValue := 0 }, { name := "groupCount", type := .int, accessFlags := 2, slot := 12, constantValue := 0 }, { name := "emptied", type := (.array .int), accessFlags := 2, slot := 13, constantValue := 0 }, { name := "emptiedCount", type := .int, accessFlags := 2, slot := 14, constantValue := 0 }, { name := "free", type := (.array .int), accessFlags := 2, slot := 15, constantValue := 0 }, { name := "freeCount", type := .int, accessFlags := 2, slot := 16, constantValue := 0 }, { name := "firstOfBlock", type := (.array .int), accessFlags := 2, slot := 17, constantValue := 0 }, { name := "addedTo", type := (.array .int), accessFlags := 2, slot := 18, constantValue := 0 }, { name := "addedStamp", type := (.array .long), accessFlags := 2, slot := 19, constantValue := 0 }, { name := "stamp", type := .long, accessFlags := 2, slot := 20, constantValue := 0 }]
  methods := #[k2m0, k2m1, k2m2, k2m3, k2m4, k2m5, k2m6, k2m7, k2m8]
  instanceTypes := #[(.array .int), (.array .int), (.array .int), (.array .int), (.array .int), (.array .int), (.array .int), (.array .int), (.array .int), (.array .int), (.array .long), (.array .long), .int, (.array .int), .int, (.array .int), .int, (.array .int), (.array .int), (.array .long), .long]
  staticTypes := #[.int]
  resolved := Array.replicate 146 none
  statics := none }

def pool3 : Array CpInfo := pool [(1, .class_ 2), (0, u "java/lang/Math"), (1, .class_ 6), (1, u "java/lang/Object"), (0, u "<init>"), (0, u "()V"), (89, .class_ 100), (1, u "java/lang/Math$RandomNumberGeneratorHolder"), (71, u "negativeZeroFloatBits"), (0, u "J"), (2, u "negativeZeroDoubleBits"), (21, u "max"), (46, u "$assertionsDisabled"), (0, u "Z"), (88, u "(II)I"), (2, u "twoToTheDoubleScaleDown"), (0, u "D"), (4, u "twoToTheDoubleScaleUp"), (9, u "E"), (3, u "PI"), (2, u "TAU"), (2, u "DEGREES_TO_RADIANS"), (0, u "RADIANS_TO_DEGREES")] 94

def k3m0 : Method := { name := "<init>", desc := "()V", sig := { parameters := [], returnType := none }, accessFlags := 2, code := none }
def k3c1 : Code := { maxStack := 2, maxLocals := 2, code := jdk_29_method_65_code, exceptionTable := #[], attributes := #[] }
def k3m1 : Method := { name := "max", desc := "(II)I", sig := { parameters := [.int, .int], returnType := some .int }, accessFlags := 9, code := some k3c1 }
/-- java/lang/Math -/
def k3 : Class := { plain "java/lang/Math" (some 0) with
  accessFlags := 49
  interfaces := #[]
  cf := some (fileOf pool3 1 #[.nestMembers #[98]] #[{ accessFlags := 2, nameIndex := 7, descriptorIndex := 8, attributes := #[] }, { accessFlags := 9, nameIndex := 198, descriptorIndex := 335, attributes := #[] }] 49 4 #[] #[{ accessFlags := 25, nameIndex := 354, descriptorIndex := 339, attributes := #[] }, { accessFlags := 25, nameIndex := 358, descriptorIndex := 339, attributes := #[] }, { accessFlags := 25, nameIndex := 361, descriptorIndex := 339, attributes := #[] }, { accessFlags := 26, nameIndex := 364, descriptorIndex := 339, attributes := #[] }, { accessFlags := 26, nameIndex := 365, descriptorIndex := 339, attributes := #[] }, { accessFlags := 26, nameIndex := 172, descriptorIndex := 173, attributes := #[] }, { accessFlags := 26, nameIndex := 176, descriptorIndex := 173, attributes := #[] }, { accessFlags := 8, nameIndex := 344, descriptorIndex := 339, attributes := #[] }, { accessFlags := 8, nameIndex := 338, descriptorIndex := 339, attributes := #[] }, { accessFlags := 4120, nameIndex := 245, descriptorIndex := 246, attributes := #[] }])
  fields := #[{ name := "E", type := .double, accessFlags := 25, slot := 0, constantValue := 0 }, { name := "PI", type := .double, accessFlags := 25, slot := 1, constantValue := 0 }, { name := "TAU", type := .double, accessFlags := 25, slot := 2, constantValue := 0 }, { name := "DEGREES_TO_RADIANS", type := .double, accessFlags := 26, slot := 3, constantValue := 0 }, { name := "RADIANS_TO_DEGREES", type := .double, accessFlags := 26, slot := 4, constantValue := 0 }, { name := "negativeZeroFloatBits", type := .long, accessFlags := 26, slot := 5, constantValue := 0 }, { name := "negativeZeroDoubleBits", type := .long, accessFlags := 26, slot := 6, constantValue := 0 }, { name := "twoToTheDoubleScaleUp", type := .double, accessFlags := 8, slot := 7, constantValue := 0 }, { name := "twoToTheDoubleScaleDown", type := .double, accessFlags := 8, slot := 8, constantValue := 0 }, { name := "$assertionsDisabled", type := .boolean, accessFlags := 4120, slot := 9, constantValue := 0 }]
  methods := #[k3m0, k3m1]
  instanceTypes := #[]
  staticTypes := #[.double, .double, .double, .double, .double, .long, .long, .double, .double, .boolean]
  resolved := Array.replicate 460 none
  statics := none }

def pool4 : Array CpInfo := pool [(2, .class_ 4), (1, u "java/lang/Object"), (0, u "<init>"), (0, u "()V"), (7, .class_ 16), (1, u "java/util/Arrays"), (57, .class_ 76), (1, u "java/util/Arrays$NaturalOrder"), (36, .class_ 115), (1, u "java/util/Arrays$LegacyMergeSort"), (1, u "Z"), (257, .class_ 376), (0, u "java/util/Arrays$ArrayList"), (68, u "$assertionsDisabled"), (269, u "MIN_ARRAY_SORT_GRAN"), (0, u "I"), (2, u "INSERTIONSORT_THRESHOLD"), (120, u "fill"), (4, u "([II)V"), (129, .class_ 976), (0, u "java/util/Arrays$ArrayItr")] 52

def k4m0 : Method := { name := "<init>", desc := "()V", sig := { parameters := [], returnType := none }, accessFlags := 2, code := none }
def k4c1 : Code := { maxStack := 3, maxLocals := 4, code := jdk_65_method_103_code, exceptionTable := #[], attributes := #[] }
def k4m1 : Method := { name := "fill", desc := "([II)V", sig := { parameters := [(.array .int), .int], returnType := none }, accessFlags := 9, code := some k4c1 }
/-- java/util/Arrays -/
def k4 : Class := { plain "java/util/Arrays" (some 0) with
  accessFlags := 49
  interfaces := #[]
  cf := some (fileOf pool4 14 #[.nestMembers #[975, 375, 113, 74]] #[{ accessFlags := 2, nameIndex := 5, descriptorIndex := 6, attributes := #[] }, { accessFlags := 9, nameIndex := 840, descriptorIndex := 845, attributes := #[] }] 49 2 #[] #[{ accessFlags := 26, nameIndex := 715, descriptorIndex := 716, attributes := #[] }, { accessFlags := 26, nameIndex := 719, descriptorIndex := 716, attributes := #[] }, { accessFlags := 4120, nameIndex := 445, descriptorIndex := 117, attributes := #[] }])
  fields := #[{ name := "MIN_ARRAY_SORT_GRAN", type := .int, accessFlags := 26, slot := 0, constantValue := 0 }, { name := "INSERTIONSORT_THRESHOLD", type := .int, accessFlags := 26, slot := 1, constantValue := 0 }, { name := "$assertionsDisabled", type := .boolean, accessFlags := 4120, slot := 2, constantValue := 0 }]
  methods := #[k4m0, k4m1]
  instanceTypes := #[]
  staticTypes := #[.int, .int, .boolean]
  resolved := Array.replicate 1029 none
  statics := none }

def pool5 : Array CpInfo := pool [(1, u "java/lang/Cloneable"), (0, .class_ 1), (0, u "java/lang/Object"), (0, .class_ 3)] 3

/-- java/lang/Cloneable -/
def k5 : Class := { plain "java/lang/Cloneable" (some 0) with
  accessFlags := 1537
  interfaces := #[]
  cf := some (fileOf pool5 2 #[] #[] 1537 4 #[] #[])
  fields := #[]
  methods := #[]
  instanceTypes := #[]
  staticTypes := #[]
  resolved := Array.replicate 8 none
  statics := none }

def pool6 : Array CpInfo := pool [(1, u "java/io/Serializable"), (0, .class_ 1), (0, u "java/lang/Object"), (0, .class_ 3)] 3

/-- java/io/Serializable -/
def k6 : Class := { plain "java/io/Serializable" (some 0) with
  accessFlags := 1537
  interfaces := #[]
  cf := some (fileOf pool6 2 #[] #[] 1537 4 #[] #[])
  fields := #[]
  methods := #[]
  instanceTypes := #[]
  staticTypes := #[]
  resolved := Array.replicate 8 none
  statics := none }

/-- the primitive byte -/
def k7 : Class := { plain "byte" none with kind := .primitive 'B', accessFlags := 0x411 }
/-- [B -/
def k8 : Class := { plain "[B" (some 0) with kind := .array 7 .byte, interfaces := #[5, 6], accessFlags := 1041 }

/-- the primitive int -/
def k9 : Class := { plain "int" none with kind := .primitive 'I', accessFlags := 0x411 }
/-- [I -/
def k10 : Class := { plain "[I" (some 0) with kind := .array 9 .int, interfaces := #[5, 6], accessFlags := 1041 }

/-- the primitive long -/
def k11 : Class := { plain "long" none with kind := .primitive 'J', accessFlags := 0x411 }
/-- [J -/
def k12 : Class := { plain "[J" (some 0) with kind := .array 11 .long, interfaces := #[5, 6], accessFlags := 1041 }

def heap : Heap := #[]
def classes : Array Class := #[k0, k1, k2, k3, k4, k5, k6, k7, k8, k9, k10, k11, k12]
def interned : List (Array UInt16 × Addr) := []
def slotsUsed : Nat := 0
def theMethod : MethodId := ⟨1, 1⟩
def args0 : Array Value := #[.int 5, .int 4, .int 7, .int 8, .int 9, .int 10]
def aboutOver (below : List Frame) : State where
  vm := { classes := classes, interned := interned.toArray }
  heap := heap
  slotsUsed := slotsUsed
  threads := #[{ frames := .invoking theMethod args0 :: below }]
def below0 : List Frame := [.native { method := ⟨0, 0⟩, args := #[] }]
def about1 : State := aboutOver below0
def p0 : Program := .bare "" "" ""
def e0 : Env := launch0.env 0 0 0
theorem w_frames : about1.frames = Frame.invoking theMethod args0 :: below0 := rfl
set_option maxRecDepth 65536 in
theorem w_args : argsFit about1.vm theMethod args0 = true := by decide +kernel
set_option maxRecDepth 65536 in
theorem w_heap : heapFits about1 = true := by decide +kernel
set_option maxRecDepth 65536 in
theorem w_runnable : about1.curStatus? = some .runnable := by decide +kernel
set_option maxRecDepth 65536 in
theorem w_alone : about1.alone = true := by decide +kernel
set_option maxRecDepth 65536 in
theorem w_named : about1.methodNamed? x = some theMethod := by decide +kernel
set_option maxRecDepth 65536 in
theorem w_hears : about1.hears theMethod below0 = true := by decide +kernel
set_option maxRecDepth 65536 in
theorem w_ripe : about1.ripe theMethod args0 below0 = true := by decide +kernel
theorem w_running : about1.status = .running := rfl
set_option maxRecDepth 65536 in
theorem w_room : about1.hasRoom e0.platform room_1 = true :=
  launch0.hasRoom_least _ room_1 (by decide +kernel) (by decide +kernel) (by decide +kernel) (by decide +kernel) (by decide +kernel) (by decide +kernel)
theorem allAtoms_all (ts : List Jvm.Cond) (a : Array Jvm.Value) (st : Jvm.State) : (allAtoms ts).before a st = ts.all (fun c => c.before a st) := by
  induction ts with
  | nil => rfl
  | cons c t ih =>
    show (Jvm.Cond.and c (allAtoms t)).before a st = _
    rw [Jvm.Cond.before_and, ih, List.all_cons]
def words1 : List Jvm.Cond := Jvm.Cond.code x code maxLocals ret :: tables_1
/-- a 'code' word, met by the world's own term for the bytes: nothing is compared byte by byte -/
theorem code_word {y : MethodName} {bytes : ByteArray} {mx : Nat} {rt : Option FieldType} {a : Array Value} {s : State} {m : MethodId} {meth : Method} {c : Code} (h1 : s.methodNamed? y = some m) (h2 : s.vm.method? m = some meth) (h3 : meth.code = some c) (h4 : c.code = bytes)
    (h5 : (c.maxLocals == mx && c.exceptionTable.isEmpty && decide (c.maxStack ≤ mostOperands) && decide (meth.sig.returnType = rt) && !meth.locks && decide (parseMethodDescriptor y.desc = some meth.sig)) = true) : (Jvm.Cond.code y bytes mx rt).before a s = true := by
  simp only [Bool.and_eq_true, beq_iff_eq, Bool.not_eq_true', decide_eq_true_eq] at h5
  obtain ⟨⟨⟨⟨⟨g1, g2⟩, g3⟩, g4⟩, g5⟩, g6⟩ := h5
  simp [Cond.before, Cond.holds, Cond.value, h1, h2, h3, h4, g1, g2, g3, g4, g5, g6]
def isCode : Jvm.Cond → Bool
  | .code _ _ _ _ => true
  | _ => false
theorem all_split {L : List Jvm.Cond} {P : Jvm.Cond → Bool} (h1 : L.all (fun c => isCode c || P c) = true) (h2 : ∀ c ∈ L.filter isCode, P c = true) : L.all P = true := by
  refine List.all_eq_true.mpr fun c hc => ?_
  have h := List.all_eq_true.mp h1 c hc
  rcases Bool.eq_false_or_eq_true (isCode c) with hi | hi
  · exact h2 c (List.mem_filter.mpr ⟨hc, hi⟩)
  · simpa [hi] using h
set_option maxRecDepth 65536 in
theorem w_c0 : (Jvm.Cond.code x code maxLocals ret).before args0 about1 = true := code_word (m := ⟨1, 1⟩) (meth := k1m1) (c := k1c1) (by decide +kernel) rfl rfl rfl (by decide +kernel)
set_option maxRecDepth 65536 in
theorem w_c1 : (Jvm.Cond.code ({ cls := "com/example/lockstep/lockstep/check/StepGroups", name := "<init>", desc := "([III)V" } : Jvm.MethodName) prog_76_method_1_code (9 : Nat) (Option.none : Option Jvm.ClassFile.FieldType)).before args0 about1 = true := code_word (m := ⟨2, 0⟩) (meth := k2m0) (c := k2c0) (by decide +kernel) rfl rfl rfl (by decide +kernel)
set_option maxRecDepth 65536 in
theorem w_c2 : (Jvm.Cond.code ({ cls := "java/lang/Object", name := "<init>", desc := "()V" } : Jvm.MethodName) object_method_1_code (1 : Nat) (Option.none : Option Jvm.ClassFile.FieldType)).before args0 about1 = true := code_word (m := ⟨0, 0⟩) (meth := k0m0) (c := k0c0) (by decide +kernel) rfl rfl rfl (by decide +kernel)
set_option maxRecDepth 65536 in
theorem w_c3 : (Jvm.Cond.code ({ cls := "java/lang/Math", name := "max", desc := "(II)I" } : Jvm.MethodName) jdk_29_method_65_code (2 : Nat) (Option.some Jvm.ClassFile.FieldType.int)).before args0 about1 = true := code_word (m := ⟨3, 1⟩) (meth := k3m1) (c := k3c1) (by decide +kernel) rfl rfl rfl (by decide +kernel)
set_option maxRecDepth 65536 in
theorem w_c4 : (Jvm.Cond.code ({ cls := "java/util/Arrays", name := "fill", desc := "([II)V" } : Jvm.MethodName) jdk_65_method_103_code (4 : Nat) (Option.none : Option Jvm.ClassFile.FieldType)).before args0 about1 = true := code_word (m := ⟨4, 1⟩) (meth := k4m1) (c := k4c1) (by decide +kernel) rfl rfl rfl (by decide +kernel)
set_option maxRecDepth 65536 in
theorem w_c5 : (Jvm.Cond.code ({ cls := "com/example/lockstep/lockstep/check/StepGroups", name := "make", desc := "(III)I" } : Jvm.MethodName) prog_76_method_19_code (6 : Nat) (Option.some Jvm.ClassFile.FieldType.int)).before args0 about1 = true := code_word (m := ⟨2, 7⟩) (meth := k2m7) (c := k2c7) (by decide +kernel) rfl rfl rfl (by decide +kernel)
set_option maxRecDepth 65536 in
theorem w_c6 : (Jvm.Cond.code ({ cls := "com/example/lockstep/lockstep/check/StepGroups", name := "link", desc := "(II)V" } : Jvm.MethodName) prog_76_method_18_code (4 : Nat) (Option.none : Option Jvm.ClassFile.FieldType)).before args0 about1 = true := code_word (m := ⟨2, 6⟩) (meth := k2m6) (c := k2c6) (by decide +kernel) rfl rfl rfl (by decide +kernel)
set_option maxRecDepth 65536 in
theorem w_c7 : (Jvm.Cond.code ({ cls := "com/example/lockstep/lockstep/check/StepGroups", name := "newStamp", desc := "()J" } : Jvm.MethodName) prog_76_method_2_code (2 : Nat) (Option.some Jvm.ClassFile.FieldType.long)).before args0 about1 = true := code_word (m := ⟨2, 1⟩) (meth := k2m1) (c := k2c1) (by decide +kernel) rfl rfl rfl (by decide +kernel)
set_option maxRecDepth 65536 in
theorem w_c8 : (Jvm.Cond.code ({ cls := "com/example/lockstep/lockstep/check/StepGroups", name := "holds", desc := "(IIII)Z" } : Jvm.MethodName) prog_76_method_8_code (5 : Nat) (Option.some Jvm.ClassFile.FieldType.boolean)).before args0 about1 = true := code_word (m := ⟨2, 4⟩) (meth := k2m4) (c := k2c4) (by decide +kernel) rfl rfl rfl (by decide +kernel)
set_option maxRecDepth 65536 in
theorem w_c9 : (Jvm.Cond.code ({ cls := "com/example/lockstep/lockstep/check/StepGroups", name := "moveToBlock", desc := "(IJI)V" } : Jvm.MethodName) prog_76_method_4_code (6 : Nat) (Option.none : Option Jvm.ClassFile.FieldType)).before args0 about1 = true := code_word (m := ⟨2, 2⟩) (meth := k2m2) (c := k2c2) (by decide +kernel) rfl rfl rfl (by decide +kernel)
set_option maxRecDepth 65536 in
theorem w_c10 : (Jvm.Cond.code ({ cls := "com/example/lockstep/lockstep/check/StepGroups", name := "move", desc := "(IIJII)V" } : Jvm.MethodName) prog_76_method_17_code (9 : Nat) (Option.none : Option Jvm.ClassFile.FieldType)).before args0 about1 = true := code_word (m := ⟨2, 5⟩) (meth := k2m5) (c := k2c5) (by decide +kernel) rfl rfl rfl (by decide +kernel)
set_option maxRecDepth 65536 in
theorem w_c11 : (Jvm.Cond.code ({ cls := "com/example/lockstep/lockstep/check/StepGroups", name := "unlink", desc := "(I)V" } : Jvm.MethodName) prog_76_method_20_code (4 : Nat) (Option.none : Option Jvm.ClassFile.FieldType)).before args0 about1 = true := code_word (m := ⟨2, 8⟩) (meth := k2m8) (c := k2c8) (by decide +kernel) rfl rfl rfl (by decide +kernel)
set_option maxRecDepth 65536 in
theorem w_c12 : (Jvm.Cond.code ({ cls := "com/example/lockstep/lockstep/check/StepGroups", name := "moveToSuperBlock", desc := "(IJI)V" } : Jvm.MethodName) prog_76_method_5_code (6 : Nat) (Option.none : Option Jvm.ClassFile.FieldType)).before args0 about1 = true := code_word (m := ⟨2, 3⟩) (meth := k2m3) (c := k2c3) (by decide +kernel) rfl rfl rfl (by decide +kernel)
def codes1 : List Jvm.Cond := [Jvm.Cond.code x code maxLocals ret, Jvm.Cond.code ({ cls := "com/example/lockstep/lockstep/check/StepGroups", name := "<init>", desc := "([III)V" } : Jvm.MethodName) prog_76_method_1_code (9 : Nat) (Option.none : Option Jvm.ClassFile.FieldType), Jvm.Cond.code ({ cls := "java/lang/Object", name := "<init>", desc := "()V" } : Jvm.MethodName) object_method_1_code (1 : Nat) (Option.none : Option Jvm.ClassFile.FieldType), Jvm.Cond.code ({ cls := "java/lang/Math", name := "max", desc := "(II)I" } : Jvm.MethodName) jdk_29_method_65_code (2 : Nat) (Option.some Jvm.ClassFile.FieldType.int), Jvm.Cond.code ({ cls := "java/util/Arrays", name := "fill", desc := "([II)V" } : Jvm.MethodName) jdk_65_method_103_code (4 : Nat) (Option.none : Option Jvm.ClassFile.FieldType), Jvm.Cond.code ({ cls := "com/example/lockstep/lockstep/check/StepGroups", name := "make", desc := "(III)I" } : Jvm.MethodName) prog_76_method_19_code (6 : Nat) (Option.some Jvm.ClassFile.FieldType.int), Jvm.Cond.code ({ cls := "com/example/lockstep/lockstep/check/StepGroups", name := "link", desc := "(II)V" } : Jvm.MethodName) prog_76_method_18_code (4 : Nat) (Option.none : Option Jvm.ClassFile.FieldType), Jvm.Cond.code ({ cls := "com/example/lockstep/lockstep/check/StepGroups", name := "newStamp", desc := "()J" } : Jvm.MethodName) prog_76_method_2_code (2 : Nat) (Option.some Jvm.ClassFile.FieldType.long), Jvm.Cond.code ({ cls := "com/example/lockstep/lockstep/check/StepGroups", name := "holds", desc := "(IIII)Z" } : Jvm.MethodName) prog_76_method_8_code (5 : Nat) (Option.some Jvm.ClassFile.FieldType.boolean), Jvm.Cond.code ({ cls := "com/example/lockstep/lockstep/check/StepGroups", name := "moveToBlock", desc := "(IJI)V" } : Jvm.MethodName) prog_76_method_4_code (6 : Nat) (Option.none : Option Jvm.ClassFile.FieldType), Jvm.Cond.code ({ cls := "com/example/lockstep/lockstep/check/StepGroups", name := "move", desc := "(IIJII)V" } : Jvm.MethodName) prog_76_method_17_code (9 : Nat) (Option.none : Option Jvm.ClassFile.FieldType), Jvm.Cond.code ({ cls := "com/example/lockstep/lockstep/check/StepGroups", name := "unlink", desc := "(I)V" } : Jvm.MethodName) prog_76_method_20_code (4 : Nat) (Option.none : Option Jvm.ClassFile.FieldType), Jvm.Cond.code ({ cls := "com/example/lockstep/lockstep/check/StepGroups", name := "moveToSuperBlock", desc := "(IJI)V" } : Jvm.MethodName) prog_76_method_5_code (6 : Nat) (Option.none : Option Jvm.ClassFile.FieldType)]
set_option maxRecDepth 65536 in
theorem codes_eq : words1.filter isCode = codes1 := rfl
theorem w_codes : ∀ c ∈ words1.filter isCode, c.before args0 about1 = true := by
  rw [codes_eq]
  intro c hc
  simp only [codes1, List.mem_cons, List.not_mem_nil, or_false] at hc
  rcases hc with rfl | rfl | rfl | rfl | rfl | rfl | rfl | rfl | rfl | rfl | rfl | rfl | rfl
  · exact w_c0
  · exact w_c1
  · exact w_c2
  · exact w_c3
  · exact w_c4
  · exact w_c5
  · exact w_c6
  · exact w_c7
  · exact w_c8
  · exact w_c9
  · exact w_c10
  · exact w_c11
  · exact w_c12
set_option maxRecDepth 65536 in
theorem w_t1 : (words1.take 24).all (fun c => isCode c || c.before args0 about1) = true := by decide +kernel
set_option maxRecDepth 65536 in
theorem w_t2 : ((words1.drop 24).take 24).all (fun c => isCode c || c.before args0 about1) = true := by decide +kernel
set_option maxRecDepth 65536 in
theorem w_t3 : (((words1.drop 24).drop 24).take 24).all (fun c => isCode c || c.before args0 about1) = true := by decide +kernel
set_option maxRecDepth 65536 in
theorem w_t4 : ((((words1.drop 24).drop 24).drop 24).take 24).all (fun c => isCode c || c.before args0 about1) = true := by decide +kernel
set_option maxRecDepth 65536 in
theorem w_t5 : ((((words1.drop 24).drop 24).drop 24).drop 24).all (fun c => isCode c || c.before args0 about1) = true := by decide +kernel
theorem w_tables : (allAtoms (Jvm.Cond.code x code maxLocals ret :: tables_1)).before args0 about1 = true := by
  rw [allAtoms_all]
  show words1.all (fun c => c.before args0 about1) = true
  refine all_split ?_ w_codes
  rw [← List.take_append_drop 24 words1, List.all_append, w_t1, ← List.take_append_drop 24 (words1.drop 24), List.all_append, w_t2, ← List.take_append_drop 24 ((words1.drop 24).drop 24), List.all_append, w_t3, ← List.take_append_drop 24 (((words1.drop 24).drop 24).drop 24), List.all_append, w_t4, w_t5]
  rfl
set_option maxRecDepth 65536 in
theorem w_case : (Jvm.Cond.and given_1 narrow_1).before args0 about1 = true := by decide +kernel
theorem w_applies : (headSpec (Jvm.Cond.code x code maxLocals ret :: tables_1) room_1).applies x e0.platform about1 = true :=
  (Spec.applies_iff w_frames).mpr ⟨w_running, w_runnable, w_alone, w_named, w_hears, w_ripe, w_room, w_tables⟩
theorem atStart : AtStart classFile x code maxLocals ret World_1 tables_1 room_1 Calls_1 rest_1 Pre_1 launch0 p0 e0 about1 theMethod args0 below0 :=
  ⟨lists_1, trivial, launch0.admits_env _ _ _, launch0.least_env, fairChoices_fair.cas, fairChoices_fair.clock, w_frames, w_args, w_heap, w_applies, trivial, trivial, w_case⟩
end start1
theorem witness_1 : WitnessClaimed_1 := ⟨start1.p0, start1.e0, start1.about1, start1.theMethod, start1.args0, start1.below0, start1.atStart⟩
end Jvm.Pilot.@@N@@
