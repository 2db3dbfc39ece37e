import JvmDerived
import JvmDerived.Pilot.@@N@@Statement
import JvmDerived.Pilot.@@N@@Code
set_option linter.unusedVariables false
set_option linter.unusedSimpArgs false
namespace Jvm.RoadKit
open Sem ClassFile Op Lib Jvm.Stand Jvm.Free Jvm.LawKit
section New
variable {p : Program} {l : Launch} {e : Env} {R : Room} {s : State} {m : MethodId} {args : Array Value} {below : List Frame} {meth : Method} {c : Code} {T : State} {locs : List Loc} {cells slots : Nat}
theorem retI (X : Stand p l e R s m args below meth c T locs cells slots) (hx : p.tables.exec = Jvm.exec) {pc : Nat} {Ls : Array Slot} {z : Int32} {rest : List Value} (hret : meth.sig.returnType = some .int) (hd : decode c.code pc = .ok (.ireturn, 1)) {fs : List Frame}
    (hl : ∀ (f : JFrame) (acts : List Action), f.method = m → f.locked = none → f.entered = [] → (doReturn e (T.setTop f) acts (some (.int z))).1 = T.setFrames fs) : Steps p.tables e below (T.setTop (mkF m pc Ls (.int z :: rest))) (T.setFrames fs) := by
  have hm' : T.vm.method? m = some meth := X.method'
  have hn : narrow .int (.int z) = .int z := rfl
  show Steps p.tables e below (T.setTop { method := m, pc := pc, locals := Ls, stack := _ :: rest, locked := none }) _
  jvm_step X.here [X.here.top, hx, hd, hm', hret, hn]
  first | (intro acts; rw [hl _ acts rfl rfl rfl]) | rw [hl _ _ rfl rfl rfl]
  exact Steps.refl _
end New
end Jvm.RoadKit
namespace Jvm.Pilot.@@N@@
open Jvm Jvm.ClassFile Sem Op Lib Jvm.Free Jvm.Stand Jvm.LawKit Jvm.RoadKit Bundle Jvm.Pilot.@@N@@.Jvm.D
section Own
variable {p : Program} {l : Launch} {e : Env} {R : Room} {s : State} {m : MethodId} {args : Array Value} {below : List Frame} {meth : Method} {c : Code} {T : State} {locs : List Loc} {cells slots : Nat}
/-- from the state A the run comes to an end of the invocation of which Q holds -/
def OGo (p : Program) (e : Env) (below : List Frame) (Q : Outcome → State → Prop) (A : State) : Prop :=
  ∃ s₂ o, Steps p.tables e below A s₂ ∧ s₂.status = .running ∧ Ended s₂ below o ∧ Q o s₂
theorem OGo.st {Q : Outcome → State → Prop} {A B : State} (h : ∀ t, Steps p.tables e below B t → Steps p.tables e below A t) (g : OGo p e below Q B) : OGo p e below Q A := by
  obtain ⟨s₂, o, k, r⟩ := g
  exact ⟨s₂, o, h _ k, r⟩
/-- what a contract says of the end -/
def Out (s : State) (cells slots : Nat) (Q : Option Value → Heap → List Loc → Prop) (o : Outcome) (U : State) : Prop :=
  ∃ v L, o = .returned v ∧ Q v U.heap L ∧ FrameEnd s o U L cells slots
/-- it returns the int z (the long z), and the heap is as it was -/
def PI (n0 : Nat) (h0 : Heap) (z : Int32) (v : Option Value) (h : Heap) (L : List Loc) : Prop := v = some (.int z) ∧ Fr n0 L ∧ h = h0
def PJ (n0 : Nat) (h0 : Heap) (z : Int64) (v : Option Value) (h : Heap) (L : List Loc) : Prop := v = some (.long z) ∧ Fr n0 L ∧ h = h0
def PF (n0 : Nat) (z : Int32) (v : Option Value) (h : Heap) (L : List Loc) : Prop := v = some (.int z) ∧ Fr n0 L
theorem OGo.eqvF {C S n0 : Nat} {z z' : Int32} {A : State} (q : z = z') (g : OGo p e below (Out s C S (PF n0 z')) A) : OGo p e below (Out s C S (PF n0 z)) A := q ▸ g
theorem OGo.eqvI {C S n0 : Nat} {h0 : Heap} {z z' : Int32} {A : State} (q : z = z') (g : OGo p e below (Out s C S (PI n0 h0 z')) A) : OGo p e below (Out s C S (PI n0 h0 z)) A := q ▸ g
theorem OGo.eqvJ {C S n0 : Nat} {h0 : Heap} {z z' : Int64} {A : State} (q : z = z') (g : OGo p e below (Out s C S (PJ n0 h0 z')) A) : OGo p e below (Out s C S (PJ n0 h0 z)) A := q ▸ g
theorem OGo.outI (X : Stand p l e R s m args below meth c T locs cells slots) (hx : p.tables.exec = Jvm.exec) (hret : meth.sig.returnType = some .int) (hlk : meth.locks = false) {pc : Nat} {Ls : Array Slot} {z : Int32} {rest : List Value} (hd : decode c.code pc = .ok (.ireturn, 1))
    {Q : Option Value → Heap → List Loc → Prop} {C S : Nat} (hq : Q (some (.int z)) T.heap locs) (hC : cells ≤ C) (hS : slots ≤ S) : OGo p e below (Out s C S Q) (T.setTop (mkF m pc Ls (.int z :: rest))) := by
  obtain ⟨fs, hr, hrun, hended, hW, hsame⟩ := X.leave (v := some (.int z)) (fun h => by rw [hret] at h; cases h) hlk
  exact ⟨_, _, retI X hx hret hd hr, hrun, hended, _, _, rfl, hq, ⟨_, rfl⟩, hW, hsame.mono hC hS⟩
theorem OGo.outN (X : Stand p l e R s m args below meth c T locs cells slots) (hx : p.tables.exec = Jvm.exec) {t : FieldType} (hret : meth.sig.returnType = some t) (ht : t = .boolean ∨ t = .byte ∨ t = .char ∨ t = .short) (hlk : meth.locks = false) {pc : Nat} {Ls : Array Slot} {z : Int32} {rest : List Value} (hd : decode c.code pc = .ok (.ireturn, 1))
    {Q : Option Value → Heap → List Loc → Prop} {C S : Nat} (hq : Q (some (.int (nar t z))) T.heap locs) (hC : cells ≤ C) (hS : slots ≤ S) : OGo p e below (Out s C S Q) (T.setTop (mkF m pc Ls (.int z :: rest))) := by
  obtain ⟨fs, hr, hrun, hended, hW, hsame⟩ := X.leave (v := some (.int (nar t z))) (fun h => by rw [hret] at h; cases h) hlk
  exact ⟨_, _, retN X hx hret ht hd hr, hrun, hended, _, _, rfl, hq, ⟨_, rfl⟩, hW, hsame.mono hC hS⟩
theorem OGo.outJ (X : Stand p l e R s m args below meth c T locs cells slots) (hx : p.tables.exec = Jvm.exec) (hret : meth.sig.returnType = some .long) (hlk : meth.locks = false) {pc : Nat} {Ls : Array Slot} {z : Int64} (hd : decode c.code pc = .ok (.lreturn, 1))
    {Q : Option Value → Heap → List Loc → Prop} {C S : Nat} (hq : Q (some (.long z)) T.heap locs) (hC : cells ≤ C) (hS : slots ≤ S) : OGo p e below (Out s C S Q) (T.setTop (mkF m pc Ls [.long z])) := by
  obtain ⟨fs, hr, hrun, hended, hW, hsame⟩ := X.leave (v := some (.long z)) (fun h => by rw [hret] at h; cases h) hlk
  exact ⟨_, _, X.lreturnOut hx hret hd hr, hrun, hended, _, _, rfl, hq, ⟨_, rfl⟩, hW, hsame.mono hC hS⟩
theorem OGo.outV (X : Stand p l e R s m args below meth c T locs cells slots) (hx : p.tables.exec = Jvm.exec) (hret : meth.sig.returnType = none) (hlk : meth.locks = false) {pc : Nat} {Ls : Array Slot} (hd : decode c.code pc = .ok (.return_, 1))
    {Q : Option Value → Heap → List Loc → Prop} {C S : Nat} (hq : Q none T.heap locs) (hC : cells ≤ C) (hS : slots ≤ S) : OGo p e below (Out s C S Q) (T.setTop (mkF m pc Ls [])) := by
  obtain ⟨fs, hr, hrun, hended, hW, hsame⟩ := X.leave (v := none) (fun _ => rfl) hlk
  exact ⟨_, _, X.returnOut hx hret hd hr, hrun, hended, _, _, rfl, hq, ⟨_, rfl⟩, hW, hsame.mono hC hS⟩
end Own
section OwnH
variable {p : Program} {l : Launch} {e : Env} {R : Room} {s : State} {m : MethodId} {args : Array Value} {below : List Frame} {meth : Method} {c : Code} {T : State} {locs : List Loc} {cells slots : Nat} {Z : State} {a0 : Array Value} {h h' : Heap} {a b : Addr} {ty : FieldType} {n : Nat} {f : Nat → Int32}
def oset (f : Nat → Int32) (k : Nat) (x : Int32) : Nat → Int32 := fun j => if j = k then x else f j
/-- at a lies an array of kind ty, of n places, whose place i holds the int f i -/
def OA (Z : State) (h : Heap) (a : Addr) (ty : FieldType) (n : Nat) (f : Nat → Int32) : Prop := ∃ c : Cell, Arr Z h a c ty ∧ c.slots.size = n ∧ ∀ i, i < n → c.slots[i]? = some (.int (f i))
theorem OA.lt (A : OA Z h a ty n f) : a < h.size := by obtain ⟨c, A, -⟩ := A; exact A.lt
theorem OA.ext (A : OA Z h a ty n f) (E : Ext h h') : OA Z h' a ty n f := by obtain ⟨c, A, r⟩ := A; exact ⟨c, A.ext E, r⟩
theorem OA.other {sl : Nat} {v : Value} (A : OA Z h b ty n f) (W : Wr h h' a sl v) (q : b ≠ a) : OA Z h' b ty n f := by obtain ⟨c, A, r⟩ := A; exact ⟨c, A.other W q, r⟩
theorem OA.keep {ws : List Addr} (A : OA Z h a ty n f) (K : Keep h h' ws) (q : a ∉ ws) : OA Z h' a ty n f := by obtain ⟨c, A, r⟩ := A; exact ⟨c, ⟨K.2.1 a c A.1 q, A.2⟩, r⟩
theorem OA.new {k : ClassId} {z : Int32} (A : Arr Z h a (newA k ty z) ty) (hz : z.toNatClampNeg = n) (hd : defaultValue ty = .int 0) : OA Z h a ty n (fun _ => 0) :=
  ⟨_, A, (sz_new _ _ _).trans hz, fun i hi => by
    have e : (newA k ty z).slots = Array.replicate z.toNatClampNeg (defaultValue ty) := rfl
    rw [e, hz, hd, Array.getElem?_replicate, if_pos hi]⟩
theorem OA.set {k : Nat} {x : Int32} (A : OA Z h a ty n f) (W : Wr h h' a k (.int x)) : OA Z h' a ty n (oset f k x) := by
  obtain ⟨c, A, S, H⟩ := A
  have hs : (c.setSlot k (.int x)).slots = c.slots.setIfInBounds k (.int x) := rfl
  refine ⟨_, A.same W, ?_, fun i hi => ?_⟩
  · rw [hs, Array.size_setIfInBounds, S]
  · rw [hs]
    by_cases q : i = k
    · subst q
      rw [Array.getElem?_setIfInBounds_self_of_lt (by omega)]
      simp [oset]
    · rw [Array.getElem?_setIfInBounds_ne (Ne.symm q), H i hi]
      simp [oset, q]
theorem OA.eqf {g : Nat → Int32} (A : OA Z h a ty n f) (q : ∀ i, i < n → f i = g i) : OA Z h a ty n g := by
  obtain ⟨c, A, S, H⟩ := A
  exact ⟨c, A, S, fun i hi => by rw [H i hi, q i hi]⟩
theorem oin {cl : Cell} {j : Int32} {k : Nat} (S : cl.slots.size = n) (hj : ¬ j < 0) (hk : j.toNatClampNeg = k) (hkn : k < n) : ¬ (j < 0 ∨ cl.slots.size ≤ j.toNatClampNeg) := by
  rintro (q | q)
  · exact hj q
  · rw [S, hk] at q; omega
theorem OA.stI (X : Stand p l e R s m args below meth c T locs cells slots) (hx : p.tables.exec = Jvm.exec) (hZ : Z.Warmed39 s.vm) (eT : T.heap = h) (A : OA Z h a .int n f) {j x : Int32} {k : Nat} (hj : ¬ j < 0) (hk : j.toNatClampNeg = k) (hkn : k < n) {g : JFrame} (hg : g.method = m) {rest : List Value} (hs : g.stack = .int x :: .int j :: .ref a :: rest) (hd : decode c.code g.pc = .ok (.iastore, 1)) :
    ∃ T' h', Stand p l e R s m args below meth c T' (locs ++ [⟨a, k⟩]) cells slots ∧ T'.heap = h' ∧ Wr h h' a k (.int x) ∧ OA Z h' a .int n (oset f k x) ∧ ∀ target, Steps p.tables e below (T'.setTop { g with pc := g.pc + 1, stack := rest }) target → Steps p.tables e below (T.setTop g) target := by
  obtain ⟨cl, Ar, S, H⟩ := A
  obtain ⟨T', h', X', e', W, st⟩ := Jvm.RoadKit.stI X hx hZ eT Ar (j := j) (x := x) (oin S hj hk hkn) hg hs hd
  subst hk
  exact ⟨T', h', X', e', W, OA.set ⟨cl, Ar, S, H⟩ W, st⟩
theorem OA.stB (X : Stand p l e R s m args below meth c T locs cells slots) (hx : p.tables.exec = Jvm.exec) (hZ : Z.Warmed39 s.vm) (eT : T.heap = h) (A : OA Z h a .byte n f) {j x : Int32} {k : Nat} (hj : ¬ j < 0) (hk : j.toNatClampNeg = k) (hkn : k < n) {g : JFrame} (hg : g.method = m) {rest : List Value} (hs : g.stack = .int x :: .int j :: .ref a :: rest) (hd : decode c.code g.pc = .ok (.bastore, 1)) :
    ∃ T' h', Stand p l e R s m args below meth c T' (locs ++ [⟨a, k⟩]) cells slots ∧ T'.heap = h' ∧ Wr h h' a k (.int x.toInt8.toInt32) ∧ OA Z h' a .byte n (oset f k x.toInt8.toInt32) ∧ ∀ target, Steps p.tables e below (T'.setTop { g with pc := g.pc + 1, stack := rest }) target → Steps p.tables e below (T.setTop g) target := by
  obtain ⟨cl, Ar, S, H⟩ := A
  obtain ⟨T', h', X', e', W, st⟩ := Jvm.RoadKit.stB X hx hZ eT Ar (j := j) (x := x) (oin S hj hk hkn) hg hs hd
  subst hk
  exact ⟨T', h', X', e', W, OA.set ⟨cl, Ar, S, H⟩ W, st⟩
theorem OA.ldI (X : Stand p l e R s m args below meth c T locs cells slots) (hx : p.tables.exec = Jvm.exec) (hZ : Z.Warmed39 s.vm) (eT : T.heap = h) (A : OA Z h a .int n f) {j : Int32} {k : Nat} (hj : ¬ j < 0) (hk : j.toNatClampNeg = k) (hkn : k < n) {g : JFrame} (hg : g.method = m) {rest : List Value} (hs : g.stack = .int j :: .ref a :: rest) (hd : decode c.code g.pc = .ok (.iaload, 1)) (target : State)
    (kt : Steps p.tables e below (T.setTop { g with pc := g.pc + 1, stack := .int (f k) :: rest }) target) : Steps p.tables e below (T.setTop g) target := by
  obtain ⟨cl, Ar, S, H⟩ := A
  exact X.iaload hx (j := j) (v := .int (f k)) (by rw [eT]; exact Ar.1) (State.isArrayOf_alike hZ.alike Ar.2.1) Ar.2.2 (oin S hj hk hkn) (by rw [hk]; exact H k hkn) (g := g) hg hs hd target kt
theorem OA.ldB (X : Stand p l e R s m args below meth c T locs cells slots) (hx : p.tables.exec = Jvm.exec) (hZ : Z.Warmed39 s.vm) (eT : T.heap = h) (A : OA Z h a .byte n f) {j : Int32} {k : Nat} (hj : ¬ j < 0) (hk : j.toNatClampNeg = k) (hkn : k < n) {g : JFrame} (hg : g.method = m) {rest : List Value} (hs : g.stack = .int j :: .ref a :: rest) (hd : decode c.code g.pc = .ok (.baload, 1)) (target : State)
    (kt : Steps p.tables e below (T.setTop { g with pc := g.pc + 1, stack := .int (f k) :: rest }) target) : Steps p.tables e below (T.setTop g) target := by
  obtain ⟨cl, Ar, S, H⟩ := A
  exact X.baloadBytes hx (j := j) (v := .int (f k)) (by rw [eT]; exact Ar.1) (State.isArrayOf_alike hZ.alike Ar.2.1) Ar.2.2 (oin S hj hk hkn) (by rw [hk]; exact H k hkn) (g := g) hg hs hd target kt
theorem OA.len (X : Stand p l e R s m args below meth c T locs cells slots) (hx : p.tables.exec = Jvm.exec) (hZ : Z.Warmed39 s.vm) (eT : T.heap = h) (A : OA Z h a ty n f) {z : Int32} (hz : n.toInt32 = z) {g : JFrame} (hg : g.method = m) {rest : List Value} (hs : g.stack = .ref a :: rest) (hd : decode c.code g.pc = .ok (.arraylength, 1)) (target : State)
    (kt : Steps p.tables e below (T.setTop { g with pc := g.pc + 1, stack := .int z :: rest }) target) : Steps p.tables e below (T.setTop g) target := by
  obtain ⟨cl, Ar, S, H⟩ := A
  refine X.arraylength hx (by rw [eT]; exact Ar.1) (State.isArrayOf_alike hZ.alike Ar.2.1) (g := g) hg hs hd target ?_
  rw [S, hz]; exact kt
/-- a private method is the one that is chosen -/
theorem osel {y : MethodName} {k : Nat} (hZ : Z.Warmed39 s.vm) (wi : (Cond.instantiable y.cls k).before a0 Z = true) (wp : (Cond.privateMethod y).before a0 Z = true) (wm : (Cond.instanceMethod y).before a0 Z = true) (hy : y.cls ≠ "java/lang/invoke/MethodHandle" ∧ y.cls ≠ "java/lang/invoke/VarHandle") : (Cond.selects y.cls y y).before args s = true := by
  have w : (Cond.instantiable y.cls k).before args s = true := mv hZ wi
  obtain ⟨cc, kk, h1, h2, h3, h4, -⟩ := Cond.instantiable_spec w
  have h5 : kk.isInterface = false := by
    cases q : kk.isInterface
    · rfl
    · rw [q] at h4; simp at h4
  exact Jvm.Stand.selects_self_of_private h1 h2 h5 (Cond.privateMethod_at (mvP hZ wp (args := args))) (mv hZ wm) hy
end OwnH
def aLn (c cr ln : Int32) : Int32 := if c = (10 : Int32) then (if cr = (0 : Int32) then ln + (1 : Int32) else ln) else if c = (13 : Int32) then ln + (1 : Int32) else ln
def aCo (c co : Int32) : Int32 := if c = (10 : Int32) then (1 : Int32) else if c = (13 : Int32) then (1 : Int32) else co + (1 : Int32)
def aCr (c : Int32) : Int32 := if c = (10 : Int32) then (0 : Int32) else if c = (13 : Int32) then (1 : Int32) else (0 : Int32)
theorem own_toInt {n : Nat} (h : n < 2000) : (Int32.ofNat n).toInt = n := toInt_of rfl (by omega)
theorem own_nat {i : Nat} (h : i < 1000) : (¬ Int32.ofNat i < 0) ∧ (Int32.ofNat i).toNatClampNeg = i := by
  refine ⟨?_, clamp_of rfl (by omega)⟩
  rw [Int32.lt_iff_toInt_lt, own_toInt (by omega)]
  show ¬ (i : Int) < 0
  omega
theorem own_ix {i j : Nat} (h : i + j < 1000) : (¬ (Int32.ofNat i + Int32.ofNat j) < 0) ∧ (Int32.ofNat i + Int32.ofNat j).toNatClampNeg = i + j := by
  have e : Int32.ofNat i + Int32.ofNat j = Int32.ofNat (i + j) := by
    rw [← Int32.toInt_inj, Int32.toInt_add, own_toInt (by omega), own_toInt (by omega), own_toInt (by omega)]
    rw [Int.bmod_eq_of_le (by omega) (by omega)]
    omega
  rw [e]
  exact own_nat h
theorem own_inc (n : Nat) : (Int32.ofNat n + (1 : Int32)) = Int32.ofNat (n + 1) := (inc_ofNat n).symm
theorem own_inc2 (n : Nat) : (Int32.ofNat n + (2 : Int32)) = Int32.ofNat (n + 2) := (inc2_ofNat n).symm
theorem own_ne7 {n : Nat} (h : n < 7) : ¬ Int32.ofNat n = (7 : Int32) := fun q => by
  have k := own_toInt (n := n) (by omega)
  rw [q] at k
  have e : (7 : Int32).toInt = 7 := by decide
  omega
theorem own_ne512 {n : Nat} (h : n < 100) : ¬ Int32.ofNat n = (512 : Int32) := fun q => by
  have k := own_toInt (n := n) (by omega)
  rw [q] at k
  have e : (512 : Int32).toInt = 512 := by decide
  omega
theorem own_and255 (x : Int32) : ¬ (x &&& (255 : Int32)) < (0 : Int32) := by
  have h : ∀ b : BitVec 32, 0 ≤ (b &&& 255#32).toInt := fun b => by
    have k : (b &&& 255#32).msb = false := by
      rw [BitVec.msb_and, show (255#32).msb = false from by decide, Bool.and_false]
    rw [BitVec.toInt_eq_toNat_of_msb k]
    omega
  have k := h x.toBitVec
  rw [Int32.lt_iff_toInt_lt]
  have k2 : (x &&& (255 : Int32)).toInt = (x.toBitVec &&& 255#32).toInt := rfl
  rw [k2]
  show ¬ _ < (0 : Int)
  omega
theorem own_sub0 (k : Nat) : ¬ (0 : Int32) < (Int32.ofNat k - Int32.ofNat k) := by
  rw [Int32.sub_self]
  decide
theorem own_sub1 {k : Nat} (h : k < 100) : (0 : Int32) < (Int32.ofNat (k + 1) - Int32.ofNat k) := by
  rw [Int32.lt_iff_toInt_lt, Int32.toInt_sub, own_toInt (by omega), own_toInt (by omega), Int.bmod_eq_of_le (by omega) (by omega)]
  show (0 : Int) < _
  omega
def UI (Z : State) (h : Heap) (u b w : Addr) (f g : Nat → Int32) (bp st en : Nat) (ln co cr : Int32) : Prop :=
  Exa Z h u "com/example/triadne/triadne/Utf8Input" ∧ Fld Z h u "com/example/triadne/triadne/Utf8Input" "bytes" "[B" (.ref b) ∧ Fld Z h u "com/example/triadne/triadne/Utf8Input" "byteLimit" "I" (.int 7) ∧ Fld Z h u "com/example/triadne/triadne/Utf8Input" "bytePosition" "I" (.int (Int32.ofNat bp)) ∧ Fld Z h u "com/example/triadne/triadne/Utf8Input" "window" "[I" (.ref w) ∧ Fld Z h u "com/example/triadne/triadne/Utf8Input" "start" "I" (.int (Int32.ofNat st)) ∧ Fld Z h u "com/example/triadne/triadne/Utf8Input" "end" "I" (.int (Int32.ofNat en)) ∧ Fld Z h u "com/example/triadne/triadne/Utf8Input" "line" "I" (.int ln) ∧ Fld Z h u "com/example/triadne/triadne/Utf8Input" "column" "I" (.int co) ∧ Fld Z h u "com/example/triadne/triadne/Utf8Input" "afterCarriageReturn" "Z" (.int cr) ∧ OA Z h b .byte 7 f ∧ OA Z h w .int 512 g
def QE (n0 : Nat) (h0 : Heap) (v : Option Value) (h : Heap) (L : List Loc) : Prop := v = none ∧ Fr n0 L ∧ h = h0
def QU (Z : State) (n0 : Nat) (r : Option Value) (u b w : Addr) (f g : Nat → Int32) (bp st en : Nat) (ln co cr : Int32) (v : Option Value) (h : Heap) (L : List Loc) : Prop := v = r ∧ Fr n0 L ∧ n0 ≤ h.size ∧ UI Z h u b w f g bp st en ln co cr
def Q3 (Z : State) (n0 : Nat) (u b : Addr) (f : Nat → Int32) (v : Option Value) (h : Heap) (L : List Loc) : Prop := v = none ∧ Fr n0 L ∧ n0 ≤ h.size ∧ ∃ w : Addr, n0 ≤ w ∧ u ≠ w ∧ b ≠ w ∧ UI Z h u b w f (fun _ => 0) 0 0 0 1 1 0
def Q2 (Z : State) (n0 : Nat) (b : Addr) (f : Nat → Int32) (ps : Nat) (v : Option Value) (h : Heap) (L : List Loc) : Prop := v = some (.int (Int32.ofNat ps)) ∧ Fr n0 L ∧ n0 ≤ h.size ∧ OA Z h b .byte 7 f
theorem d9_0 : decode prog_169_method_11_code 0 = .ok (.aload_n 0, 1) := by decide +kernel
theorem d9_1 : decode prog_169_method_11_code 1 = .ok (.getfield 61, 3) := by decide +kernel
theorem d9_4 : decode prog_169_method_11_code 4 = .ok (.aload_n 0, 1) := by decide +kernel
theorem d9_5 : decode prog_169_method_11_code 5 = .ok (.getfield 38, 3) := by decide +kernel
theorem d9_8 : decode prog_169_method_11_code 8 = .ok (.if_icmp .ne 12, 3) := by decide +kernel
theorem d9_20 : decode prog_169_method_11_code 20 = .ok (.aload_n 0, 1) := by decide +kernel
theorem d9_21 : decode prog_169_method_11_code 21 = .ok (.getfield 34, 3) := by decide +kernel
theorem d9_24 : decode prog_169_method_11_code 24 = .ok (.aload_n 0, 1) := by decide +kernel
theorem d9_25 : decode prog_169_method_11_code 25 = .ok (.getfield 61, 3) := by decide +kernel
theorem d9_28 : decode prog_169_method_11_code 28 = .ok (.baload, 1) := by decide +kernel
theorem d9_29 : decode prog_169_method_11_code 29 = .ok (.sipush 255, 3) := by decide +kernel
theorem d9_32 : decode prog_169_method_11_code 32 = .ok (.iand, 1) := by decide +kernel
theorem d9_33 : decode prog_169_method_11_code 33 = .ok (.ireturn, 1) := by decide +kernel
theorem pn9 : plainName "com/example/triadne/triadne/Utf8Input" = true := by first | (simp [plainName, overriddenIn]; done) | decide +kernel
theorem ef9 (m : MethodId) (u : Addr) : entryFrame m #[(.ref u)] 1 = mkF m 0 #[.val (.ref u)] [] := by first | (simp [entryFrame, mkF, argsToLocals, Value.category]; done) | rfl
set_option maxRecDepth 65536 in
set_option maxHeartbeats 40000000 in
theorem rm9 (l : Launch) (Z : State) (a0 : Array Value) (hw : ∀ d ∈ tables_1, d.before a0 Z = true) (ws : List Jvm.Cond) (u : Addr) (b : Addr) (w : Addr) (f : Nat → Int32) (g : Nat → Int32) (bp : Nat) (st : Nat) (en : Nat) (ln : Int32) (co : Int32) (cr : Int32) (h0 : Heap) (n0 : Nat) (Z0 : n0 ≤ h0.size) (U : UI Z h0 u b w f g bp st en ln co cr) (hub : u ≠ b) (huw : u ≠ w) (hbw : b ≠ w) (gu : n0 ≤ u) (gw : n0 ≤ w) (hbp : bp < 7) :
    MetFree l (⟨"com/example/triadne/triadne/Utf8Input", "peekByte", "()I"⟩ : MethodName) (head1 (Jvm.Cond.code (⟨"com/example/triadne/triadne/Utf8Input", "peekByte", "()I"⟩ : MethodName) prog_169_method_11_code 1 (some .int) :: ws) ({ frames := 0, cells := 0, slots := 0, locals := 0 } : Room)) (fun a U => a = #[(.ref u)] ∧ Z.Warmed39 U.vm ∧ U.heap = h0) (fun _ _ _ _ _ => True) (fun _ U o U' => ∃ v L, o = .returned v ∧ PI n0 h0 ((f bp) &&& (255 : Int32)) v U'.heap L ∧ FrameEnd U o U' L ({ frames := 0, cells := 0, slots := 0, locals := 0 } : Room).cells ({ frames := 0, cells := 0, slots := 0, locals := 0 } : Room).slots) := by
  refine MetFree.of_bodySF (plainFor_of_name pn9) hisR ?_
  intro p e s m args below meth c s₁ Bd hml0 hP hK
  obtain ⟨rfl, hZ, hh⟩ := hP
  have hx := Bd.exec
  have hby := Bd.bytes
  have hml : c.maxLocals = 1 := hml0
  have hown : s.vm.findClass "com/example/triadne/triadne/Utf8Input" = some m.cls := findClass_of_methodNamed Bd.named
  have hnm := (name_of_methodNamed Bd.named Bd.method).1
  have X0 : Stand p l e ({ frames := 0, cells := 0, slots := 0, locals := 0 } : Room) s m #[(.ref u)] below meth c s₁ [] 0 0 := Stand.of_body Bd
  have e0 : s₁.heap = h0 := by rw [← hh, Bd.state]; rfl
  have N0 := Fr.nil n0
  show OGo p e below (Out s ({ frames := 0, cells := 0, slots := 0, locals := 0 } : Room).cells ({ frames := 0, cells := 0, slots := 0, locals := 0 } : Room).slots (PI n0 h0 ((f bp) &&& (255 : Int32)))) (s₁.setTop (entryFrame m #[(.ref u)] 1))
  obtain ⟨E0, F0_bytes, F0_byteLimit, F0_bytePosition, F0_window, F0_start, F0_end, F0_line, F0_column, F0_afterCarriageReturn, Ob0, Ow0⟩ := U
  refine OGo.st (fun t k => castTop (ef9 m u) k) ?_
  show OGo p e below (Out s ({ frames := 0, cells := 0, slots := 0, locals := 0 } : Room).cells ({ frames := 0, cells := 0, slots := 0, locals := 0 } : Room).slots (PI n0 h0 ((f bp) &&& (255 : Int32)))) (s₁.setTop (mkF m 0 #[.val (.ref u)] []))
  refine OGo.st (fun t k => XS.aloadN X0.here hx rfl (hb hby d9_0) rfl rfl k) ?_
  show OGo p e below _ (s₁.setTop (mkF m 1 #[.val (.ref u)] [(.ref u)]))
  obtain ⟨T1, X1, e1, st1⟩ := getF X0 hx hZ hown (host := "") (Or.inl (hw _ (List.mem_of_getElem? (i := 56) rfl))) Via.refl e0 F0_bytePosition (g := (mkF m 1 #[.val (.ref u)] [(.ref u)])) rfl rfl (hb hby d9_1)
  refine OGo.st (fun t k => st1 t k) ?_
  show OGo p e below _ (T1.setTop (mkF m 4 #[.val (.ref u)] [(.int (Int32.ofNat bp))]))
  refine OGo.st (fun t k => XS.aloadN X1.here hx rfl (hb hby d9_4) rfl rfl k) ?_
  show OGo p e below _ (T1.setTop (mkF m 5 #[.val (.ref u)] [(.ref u), (.int (Int32.ofNat bp))]))
  obtain ⟨T2, X2, e2, st2⟩ := getF X1 hx hZ hown (host := "") (Or.inl (hw _ (List.mem_of_getElem? (i := 33) rfl))) Via.refl e1 F0_byteLimit (g := (mkF m 5 #[.val (.ref u)] [(.ref u), (.int (Int32.ofNat bp))])) rfl rfl (hb hby d9_5)
  refine OGo.st (fun t k => st2 t k) ?_
  show OGo p e below _ (T2.setTop (mkF m 8 #[.val (.ref u)] [(.int (7 : Int32)), (.int (Int32.ofNat bp))]))
  refine OGo.st (fun t k => XS.icmpYes X2.here hx rfl (pc0 := 8) (pc' := 20) rfl (hb hby d9_8) rfl (feq (own_ne7 hbp)).2 (by decide) (by decide) k) ?_
  show OGo p e below _ (T2.setTop (mkF m 20 #[.val (.ref u)] []))
  refine OGo.st (fun t k => XS.aloadN X2.here hx rfl (hb hby d9_20) rfl rfl k) ?_
  show OGo p e below _ (T2.setTop (mkF m 21 #[.val (.ref u)] [(.ref u)]))
  obtain ⟨T3, X3, e3, st3⟩ := getF X2 hx hZ hown (host := "") (Or.inl (hw _ (List.mem_of_getElem? (i := 31) rfl))) Via.refl e2 F0_bytes (g := (mkF m 21 #[.val (.ref u)] [(.ref u)])) rfl rfl (hb hby d9_21)
  refine OGo.st (fun t k => st3 t k) ?_
  show OGo p e below _ (T3.setTop (mkF m 24 #[.val (.ref u)] [(.ref b)]))
  refine OGo.st (fun t k => XS.aloadN X3.here hx rfl (hb hby d9_24) rfl rfl k) ?_
  show OGo p e below _ (T3.setTop (mkF m 25 #[.val (.ref u)] [(.ref u), (.ref b)]))
  obtain ⟨T4, X4, e4, st4⟩ := getF X3 hx hZ hown (host := "") (Or.inl (hw _ (List.mem_of_getElem? (i := 56) rfl))) Via.refl e3 F0_bytePosition (g := (mkF m 25 #[.val (.ref u)] [(.ref u), (.ref b)])) rfl rfl (hb hby d9_25)
  refine OGo.st (fun t k => st4 t k) ?_
  show OGo p e below _ (T4.setTop (mkF m 28 #[.val (.ref u)] [(.int (Int32.ofNat bp)), (.ref b)]))
  refine OGo.st (fun t k => OA.ldB X4 hx hZ e4 Ob0 (j := (Int32.ofNat bp)) (k := bp) (own_nat (show bp < 1000 by omega)).1 (own_nat (show bp < 1000 by omega)).2 hbp (g := (mkF m 28 #[.val (.ref u)] [(.int (Int32.ofNat bp)), (.ref b)])) rfl rfl (hb hby d9_28) t k) ?_
  show OGo p e below _ (T4.setTop (mkF m 29 #[.val (.ref u)] [(.int (f bp))]))
  refine OGo.st (fun t k => XS.sipush X4.here hx rfl (hb hby d9_29) k) ?_
  show OGo p e below _ (T4.setTop (mkF m 32 #[.val (.ref u)] [(.int (255 : Int32)), (.int (f bp))]))
  refine OGo.st (fun t k => XS.iand X4.here hx rfl (hb hby d9_32) rfl k) ?_
  show OGo p e below _ (T4.setTop (mkF m 33 #[.val (.ref u)] [(.int ((f bp) &&& (255 : Int32)))]))
  exact OGo.outI X4 hx Bd.returns Bd.notSynchronized (hb hby d9_33) ⟨rfl, N0, e4⟩ (by decide) (by decide)
theorem d8_0 : decode prog_169_method_12_code 0 = .ok (.aload_n 0, 1) := by decide +kernel
theorem d8_1 : decode prog_169_method_12_code 1 = .ok (.invokevirtual 82, 3) := by decide +kernel
theorem d8_4 : decode prog_169_method_12_code 4 = .ok (.istore_n 1, 1) := by decide +kernel
theorem d8_5 : decode prog_169_method_12_code 5 = .ok (.iload_n 1, 1) := by decide +kernel
theorem d8_6 : decode prog_169_method_12_code 6 = .ok (.ifCond .lt 13, 3) := by decide +kernel
theorem d8_9 : decode prog_169_method_12_code 9 = .ok (.aload_n 0, 1) := by decide +kernel
theorem d8_10 : decode prog_169_method_12_code 10 = .ok (.dup, 1) := by decide +kernel
theorem d8_11 : decode prog_169_method_12_code 11 = .ok (.getfield 61, 3) := by decide +kernel
theorem d8_14 : decode prog_169_method_12_code 14 = .ok (.iconst 1, 1) := by decide +kernel
theorem d8_15 : decode prog_169_method_12_code 15 = .ok (.iadd, 1) := by decide +kernel
theorem d8_16 : decode prog_169_method_12_code 16 = .ok (.putfield 61, 3) := by decide +kernel
theorem d8_19 : decode prog_169_method_12_code 19 = .ok (.iload_n 1, 1) := by decide +kernel
theorem d8_20 : decode prog_169_method_12_code 20 = .ok (.ireturn, 1) := by decide +kernel
theorem pn8 : plainName "com/example/triadne/triadne/Utf8Input" = true := by first | (simp [plainName, overriddenIn]; done) | decide +kernel
theorem pd8_0 : parseMethodDescriptor "()I" = some ⟨[], some .int⟩ := by decide +kernel
theorem ef8 (m : MethodId) (u : Addr) : entryFrame m #[(.ref u)] 2 = mkF m 0 #[.val (.ref u), .unset] [] := by first | (simp [entryFrame, mkF, argsToLocals, Value.category]; done) | rfl
set_option maxRecDepth 65536 in
set_option maxHeartbeats 40000000 in
theorem rm8 (l : Launch) (Z : State) (a0 : Array Value) (hw : ∀ d ∈ tables_1, d.before a0 Z = true) (ws : List Jvm.Cond) (u : Addr) (b : Addr) (w : Addr) (f : Nat → Int32) (g : Nat → Int32) (bp : Nat) (st : Nat) (en : Nat) (ln : Int32) (co : Int32) (cr : Int32) (h0 : Heap) (n0 : Nat) (Z0 : n0 ≤ h0.size) (U : UI Z h0 u b w f g bp st en ln co cr) (hub : u ≠ b) (huw : u ≠ w) (hbw : b ≠ w) (gu : n0 ≤ u) (gw : n0 ≤ w) (hbp : bp < 7) :
    MetFree l (⟨"com/example/triadne/triadne/Utf8Input", "readByte", "()I"⟩ : MethodName) (head1 (Jvm.Cond.code (⟨"com/example/triadne/triadne/Utf8Input", "readByte", "()I"⟩ : MethodName) prog_169_method_12_code 2 (some .int) :: ws) ({ frames := 1, cells := 0, slots := 0, locals := 12 } : Room)) (fun a U => a = #[(.ref u)] ∧ Z.Warmed39 U.vm ∧ U.heap = h0) (fun _ _ _ _ _ => True) (fun _ U o U' => ∃ v L, o = .returned v ∧ (QU Z n0 (some (.int ((f bp) &&& (255 : Int32)))) u b w f g (bp + 1) st en ln co cr) v U'.heap L ∧ FrameEnd U o U' L ({ frames := 1, cells := 0, slots := 0, locals := 12 } : Room).cells ({ frames := 1, cells := 0, slots := 0, locals := 12 } : Room).slots) := by
  refine MetFree.of_bodySF (plainFor_of_name pn8) hisR ?_
  intro p e s m args below meth c s₁ Bd hml0 hP hK
  obtain ⟨rfl, hZ, hh⟩ := hP
  have hx := Bd.exec
  have hby := Bd.bytes
  have hml : c.maxLocals = 2 := hml0
  have hown : s.vm.findClass "com/example/triadne/triadne/Utf8Input" = some m.cls := findClass_of_methodNamed Bd.named
  have hnm := (name_of_methodNamed Bd.named Bd.method).1
  have X0 : Stand p l e ({ frames := 1, cells := 0, slots := 0, locals := 12 } : Room) s m #[(.ref u)] below meth c s₁ [] 0 0 := Stand.of_body Bd
  have e0 : s₁.heap = h0 := by rw [← hh, Bd.state]; rfl
  have N0 := Fr.nil n0
  show OGo p e below (Out s ({ frames := 1, cells := 0, slots := 0, locals := 12 } : Room).cells ({ frames := 1, cells := 0, slots := 0, locals := 12 } : Room).slots ((QU Z n0 (some (.int ((f bp) &&& (255 : Int32)))) u b w f g (bp + 1) st en ln co cr))) (s₁.setTop (entryFrame m #[(.ref u)] 2))
  obtain ⟨E0, F0_bytes, F0_byteLimit, F0_bytePosition, F0_window, F0_start, F0_end, F0_line, F0_column, F0_afterCarriageReturn, Ob0, Ow0⟩ := U
  refine OGo.st (fun t k => castTop (ef8 m u) k) ?_
  show OGo p e below (Out s ({ frames := 1, cells := 0, slots := 0, locals := 12 } : Room).cells ({ frames := 1, cells := 0, slots := 0, locals := 12 } : Room).slots ((QU Z n0 (some (.int ((f bp) &&& (255 : Int32)))) u b w f g (bp + 1) st en ln co cr))) (s₁.setTop (mkF m 0 #[.val (.ref u), .unset] []))
  refine OGo.st (fun t k => XS.aloadN X0.here hx rfl (hb hby d8_0) rfl rfl k) ?_
  show OGo p e below _ (s₁.setTop (mkF m 1 #[.val (.ref u), .unset] [(.ref u)]))
  obtain ⟨cq1, q1, q1'⟩ := E0.cell
  obtain ⟨_, _, ⟨T1, L1, k1, n1⟩, -, X1, ⟨Lc1, hQ1, l1, y1, z1⟩, st1⟩ := X0.privateBack hx (y := (⟨"com/example/triadne/triadne/Utf8Input", "peekByte", "()I"⟩ : MethodName)) hown (mvT hZ (hw _ (List.mem_of_getElem? (i := 52) rfl))) (mvT hZ (hw _ (List.mem_of_getElem? (i := 53) rfl))) (osel (y := (⟨"com/example/triadne/triadne/Utf8Input", "peekByte", "()I"⟩ : MethodName)) hZ (hw _ (List.mem_of_getElem? (i := 9) rfl)) (hw _ (List.mem_of_getElem? (i := 54) rfl)) (hw _ (List.mem_of_getElem? (i := 53) rfl)) (by decide)) (Cond.privateMethod_at (mvP hZ (hw _ (List.mem_of_getElem? (i := 54) rfl)) (args := #[]))) (mvT hZ (hw _ (List.mem_of_getElem? (i := 55) rfl))) (by decide) (backOf (W := 0) (rm9 l Z a0 hw [] u b w f g bp st en ln co cr h0 n0 Z0 ⟨E0, F0_bytes, F0_byteLimit, F0_bytePosition, F0_window, F0_start, F0_end, F0_line, F0_column, F0_afterCarriageReturn, Ob0, Ow0⟩ hub huw hbw gu gw hbp) hZ (hw _ (List.mem_of_getElem? (i := 55) rfl)) (hw _ (List.mem_of_getElem? (i := 10) rfl)) (by decide) (by decide)) (g := (mkF m 1 #[.val (.ref u), .unset] [(.ref u)])) rfl (by rw [hml]; rfl) (Steps.refl _) (a := u) (by rw [e0]; exact q1) q1' (argsL := []) (rest := []) (lenOf pd8_0 rfl) rfl (by show 2 * 0 + _ ≤ _; exact Nat.le_of_eq rfl) (hb hby d8_1) (fun _ _ => ⟨rfl, e0, (by decide : 0 + 0 ≤ _), (by decide : 0 + 0 ≤ _)⟩)
  dsimp only [Pt.U, Pt.locs, Pt.cells, Pt.slots] at X1 l1 y1 z1 st1 hQ1
  subst l1 y1 z1
  obtain ⟨rfl, Nq1, e1⟩ := hQ1
  have N1 := Fr.app N0 Nq1
  obtain ⟨lo1, X1, N1⟩ : ∃ L, Stand p l e ({ frames := 1, cells := 0, slots := 0, locals := 12 } : Room) s m #[(.ref u)] below meth c T1 L 0 0 ∧ Fr n0 L := ⟨_, X1, N1⟩
  refine OGo.st (fun t k => st1.trans k) ?_
  show OGo p e below _ (T1.setTop (mkF m 4 #[.val (.ref u), .unset] [(.int ((f bp) &&& (255 : Int32)))]))
  refine OGo.st (fun t k => XS.istoreN X1.here hx rfl (hb hby d8_4) rfl (l' := #[.val (.ref u), .val (.int ((f bp) &&& (255 : Int32)))]) rfl k) ?_
  show OGo p e below _ (T1.setTop (mkF m 5 #[.val (.ref u), .val (.int ((f bp) &&& (255 : Int32)))] []))
  refine OGo.st (fun t k => XS.iloadN X1.here hx rfl (hb hby d8_5) rfl k) ?_
  show OGo p e below _ (T1.setTop (mkF m 6 #[.val (.ref u), .val (.int ((f bp) &&& (255 : Int32)))] [(.int ((f bp) &&& (255 : Int32)))]))
  refine OGo.st (fun t k => XS.ifNo X1.here hx rfl (hb hby d8_6) rfl ((if0 _ _).trans (flt (own_and255 _)).1) k) ?_
  show OGo p e below _ (T1.setTop (mkF m 9 #[.val (.ref u), .val (.int ((f bp) &&& (255 : Int32)))] []))
  refine OGo.st (fun t k => XS.aloadN X1.here hx rfl (hb hby d8_9) rfl rfl k) ?_
  show OGo p e below _ (T1.setTop (mkF m 10 #[.val (.ref u), .val (.int ((f bp) &&& (255 : Int32)))] [(.ref u)]))
  refine OGo.st (fun t k => XS.dup X1.here hx rfl (hb hby d8_10) rfl rfl k) ?_
  show OGo p e below _ (T1.setTop (mkF m 11 #[.val (.ref u), .val (.int ((f bp) &&& (255 : Int32)))] [(.ref u), (.ref u)]))
  obtain ⟨T2, X2, e2, st2⟩ := getF X1 hx hZ hown (host := "") (Or.inl (hw _ (List.mem_of_getElem? (i := 56) rfl))) Via.refl e1 F0_bytePosition (g := (mkF m 11 #[.val (.ref u), .val (.int ((f bp) &&& (255 : Int32)))] [(.ref u), (.ref u)])) rfl rfl (hb hby d8_11)
  refine OGo.st (fun t k => st2 t k) ?_
  show OGo p e below _ (T2.setTop (mkF m 14 #[.val (.ref u), .val (.int ((f bp) &&& (255 : Int32)))] [(.int (Int32.ofNat bp)), (.ref u)]))
  refine OGo.st (fun t k => XS.iconst X2.here hx rfl (hb hby d8_14) k) ?_
  show OGo p e below _ (T2.setTop (mkF m 15 #[.val (.ref u), .val (.int ((f bp) &&& (255 : Int32)))] [(.int (1 : Int32)), (.int (Int32.ofNat bp)), (.ref u)]))
  refine OGo.st (fun t k => XS.iadd X2.here hx rfl (hb hby d8_15) rfl k) ?_
  show OGo p e below _ (T2.setTop (mkF m 16 #[.val (.ref u), .val (.int ((f bp) &&& (255 : Int32)))] [(.int ((Int32.ofNat bp) + (1 : Int32))), (.ref u)]))
  rw [own_inc bp]
  show OGo p e below _ (T2.setTop (mkF m 16 #[.val (.ref u), .val (.int ((f bp) &&& (255 : Int32)))] [(.int (Int32.ofNat (bp + 1))), (.ref u)]))
  obtain ⟨T3, h3, X3, e3, W3, st3⟩ := putF X2 hx hZ hown (host := "") (Or.inl (hw _ (List.mem_of_getElem? (i := 56) rfl))) Via.refl e2 F0_bytePosition E0 (Or.inl (hw _ (List.mem_of_getElem? (i := 57) rfl))) (hw _ (List.mem_of_getElem? (i := 9) rfl)) (ty := .int) (by decide) rfl rfl (g := (mkF m 16 #[.val (.ref u), .val (.int ((f bp) &&& (255 : Int32)))] [(.int (Int32.ofNat (bp + 1))), (.ref u)])) rfl rfl (hb hby d8_16)
  have Fw3 := F0_bytePosition.same W3
  have N3 := Fr.snoc X3 N1 gu
  have Z3 : n0 ≤ h3.size := Nat.le_trans Z0 (Keep.of_wr W3).1
  obtain ⟨lo3, X3, N3⟩ : ∃ L, Stand p l e ({ frames := 1, cells := 0, slots := 0, locals := 12 } : Room) s m #[(.ref u)] below meth c T3 L 0 0 ∧ Fr n0 L := ⟨_, X3, N3⟩
  refine OGo.st (fun t k => st3 t k) ?_
  show OGo p e below _ (T3.setTop (mkF m 19 #[.val (.ref u), .val (.int ((f bp) &&& (255 : Int32)))] []))
  refine OGo.st (fun t k => XS.iloadN X3.here hx rfl (hb hby d8_19) rfl k) ?_
  show OGo p e below _ (T3.setTop (mkF m 20 #[.val (.ref u), .val (.int ((f bp) &&& (255 : Int32)))] [(.int ((f bp) &&& (255 : Int32)))]))
  have c4 := (E0.wr W3)
  have c5 := (F0_bytes.other W3 (Or.inr (slot_ne (Or.inr (hw _ (List.mem_of_getElem? (i := 32) rfl))) (Or.inl (hw _ (List.mem_of_getElem? (i := 57) rfl))) (by decide) (t := (.array .byte)) (t' := .int) (by decide) (by decide))))
  have c6 := (F0_byteLimit.other W3 (Or.inr (slot_ne (Or.inl (hw _ (List.mem_of_getElem? (i := 34) rfl))) (Or.inl (hw _ (List.mem_of_getElem? (i := 57) rfl))) (by decide) (t := .int) (t' := .int) (by decide) (by decide))))
  have c7 := (F0_window.other W3 (Or.inr (slot_ne (Or.inl (hw _ (List.mem_of_getElem? (i := 24) rfl))) (Or.inl (hw _ (List.mem_of_getElem? (i := 57) rfl))) (by decide) (t := (.array .int)) (t' := .int) (by decide) (by decide))))
  have c8 := (F0_start.other W3 (Or.inr (slot_ne (Or.inl (hw _ (List.mem_of_getElem? (i := 43) rfl))) (Or.inl (hw _ (List.mem_of_getElem? (i := 57) rfl))) (by decide) (t := .int) (t' := .int) (by decide) (by decide))))
  have c9 := (F0_end.other W3 (Or.inr (slot_ne (Or.inl (hw _ (List.mem_of_getElem? (i := 41) rfl))) (Or.inl (hw _ (List.mem_of_getElem? (i := 57) rfl))) (by decide) (t := .int) (t' := .int) (by decide) (by decide))))
  have c10 := (F0_line.other W3 (Or.inr (slot_ne (Or.inl (hw _ (List.mem_of_getElem? (i := 26) rfl))) (Or.inl (hw _ (List.mem_of_getElem? (i := 57) rfl))) (by decide) (t := .int) (t' := .int) (by decide) (by decide))))
  have c11 := (F0_column.other W3 (Or.inr (slot_ne (Or.inl (hw _ (List.mem_of_getElem? (i := 28) rfl))) (Or.inl (hw _ (List.mem_of_getElem? (i := 57) rfl))) (by decide) (t := .int) (t' := .int) (by decide) (by decide))))
  have c12 := (F0_afterCarriageReturn.other W3 (Or.inr (slot_ne (Or.inl (hw _ (List.mem_of_getElem? (i := 68) rfl))) (Or.inl (hw _ (List.mem_of_getElem? (i := 57) rfl))) (by decide) (t := .boolean) (t' := .int) (by decide) (by decide))))
  have c13 := (Ob0.other W3 (Ne.symm hub))
  have c14 := (Ow0.other W3 (Ne.symm huw))
  refine OGo.outI X3 hx Bd.returns Bd.notSynchronized (hb hby d8_20) ?_ (by decide) (by decide)
  rw [e3]
  exact ⟨rfl, N3, Z3, ⟨c4, c5, c6, Fw3, c7, c8, c9, c10, c11, c12, c13, c14⟩⟩
theorem d10_0 : decode prog_169_method_10_code 0 = .ok (.aload_n 0, 1) := by decide +kernel
theorem d10_1 : decode prog_169_method_10_code 1 = .ok (.getfield 41, 3) := by decide +kernel
theorem d10_4 : decode prog_169_method_10_code 4 = .ok (.aload_n 0, 1) := by decide +kernel
theorem d10_5 : decode prog_169_method_10_code 5 = .ok (.getfield 7, 3) := by decide +kernel
theorem d10_8 : decode prog_169_method_10_code 8 = .ok (.arraylength, 1) := by decide +kernel
theorem d10_9 : decode prog_169_method_10_code 9 = .ok (.if_icmp .ne 74, 3) := by decide +kernel
theorem d10_83 : decode prog_169_method_10_code 83 = .ok (.aload_n 0, 1) := by decide +kernel
theorem d10_84 : decode prog_169_method_10_code 84 = .ok (.getfield 7, 3) := by decide +kernel
theorem d10_87 : decode prog_169_method_10_code 87 = .ok (.aload_n 0, 1) := by decide +kernel
theorem d10_88 : decode prog_169_method_10_code 88 = .ok (.dup, 1) := by decide +kernel
theorem d10_89 : decode prog_169_method_10_code 89 = .ok (.getfield 41, 3) := by decide +kernel
theorem d10_92 : decode prog_169_method_10_code 92 = .ok (.dup_x1, 1) := by decide +kernel
theorem d10_93 : decode prog_169_method_10_code 93 = .ok (.iconst 1, 1) := by decide +kernel
theorem d10_94 : decode prog_169_method_10_code 94 = .ok (.iadd, 1) := by decide +kernel
theorem d10_95 : decode prog_169_method_10_code 95 = .ok (.putfield 41, 3) := by decide +kernel
theorem d10_98 : decode prog_169_method_10_code 98 = .ok (.iload_n 1, 1) := by decide +kernel
theorem d10_99 : decode prog_169_method_10_code 99 = .ok (.iastore, 1) := by decide +kernel
theorem d10_100 : decode prog_169_method_10_code 100 = .ok (.return_, 1) := by decide +kernel
theorem pn10 : plainName "com/example/triadne/triadne/Utf8Input" = true := by first | (simp [plainName, overriddenIn]; done) | decide +kernel
theorem ef10 (m : MethodId) (u : Addr) (ch : Int32) : entryFrame m #[(.ref u), (.int ch)] 2 = mkF m 0 #[.val (.ref u), .val (.int ch)] [] := by first | (simp [entryFrame, mkF, argsToLocals, Value.category]; done) | rfl
set_option maxRecDepth 65536 in
set_option maxHeartbeats 40000000 in
theorem rm10 (l : Launch) (Z : State) (a0 : Array Value) (hw : ∀ d ∈ tables_1, d.before a0 Z = true) (ws : List Jvm.Cond) (u : Addr) (ch : Int32) (b : Addr) (w : Addr) (f : Nat → Int32) (g : Nat → Int32) (bp : Nat) (st : Nat) (en : Nat) (ln : Int32) (co : Int32) (cr : Int32) (h0 : Heap) (n0 : Nat) (Z0 : n0 ≤ h0.size) (U : UI Z h0 u b w f g bp st en ln co cr) (hub : u ≠ b) (huw : u ≠ w) (hbw : b ≠ w) (gu : n0 ≤ u) (gw : n0 ≤ w) (hen : en < 100) :
    MetFree l (⟨"com/example/triadne/triadne/Utf8Input", "append", "(I)V"⟩ : MethodName) (head1 (Jvm.Cond.code (⟨"com/example/triadne/triadne/Utf8Input", "append", "(I)V"⟩ : MethodName) prog_169_method_10_code 2 none :: ws) ({ frames := 0, cells := 0, slots := 0, locals := 0 } : Room)) (fun a U => a = #[(.ref u), (.int ch)] ∧ Z.Warmed39 U.vm ∧ U.heap = h0) (fun _ _ _ _ _ => True) (fun _ U o U' => ∃ v L, o = .returned v ∧ (QU Z n0 none u b w f (oset g en ch) bp st (en + 1) ln co cr) v U'.heap L ∧ FrameEnd U o U' L ({ frames := 0, cells := 0, slots := 0, locals := 0 } : Room).cells ({ frames := 0, cells := 0, slots := 0, locals := 0 } : Room).slots) := by
  refine MetFree.of_bodySF (plainFor_of_name pn10) hisR ?_
  intro p e s m args below meth c s₁ Bd hml0 hP hK
  obtain ⟨rfl, hZ, hh⟩ := hP
  have hx := Bd.exec
  have hby := Bd.bytes
  have hml : c.maxLocals = 2 := hml0
  have hown : s.vm.findClass "com/example/triadne/triadne/Utf8Input" = some m.cls := findClass_of_methodNamed Bd.named
  have hnm := (name_of_methodNamed Bd.named Bd.method).1
  have X0 : Stand p l e ({ frames := 0, cells := 0, slots := 0, locals := 0 } : Room) s m #[(.ref u), (.int ch)] below meth c s₁ [] 0 0 := Stand.of_body Bd
  have e0 : s₁.heap = h0 := by rw [← hh, Bd.state]; rfl
  have N0 := Fr.nil n0
  show OGo p e below (Out s ({ frames := 0, cells := 0, slots := 0, locals := 0 } : Room).cells ({ frames := 0, cells := 0, slots := 0, locals := 0 } : Room).slots ((QU Z n0 none u b w f (oset g en ch) bp st (en + 1) ln co cr))) (s₁.setTop (entryFrame m #[(.ref u), (.int ch)] 2))
  obtain ⟨E0, F0_bytes, F0_byteLimit, F0_bytePosition, F0_window, F0_start, F0_end, F0_line, F0_column, F0_afterCarriageReturn, Ob0, Ow0⟩ := U
  refine OGo.st (fun t k => castTop (ef10 m u ch) k) ?_
  show OGo p e below (Out s ({ frames := 0, cells := 0, slots := 0, locals := 0 } : Room).cells ({ frames := 0, cells := 0, slots := 0, locals := 0 } : Room).slots ((QU Z n0 none u b w f (oset g en ch) bp st (en + 1) ln co cr))) (s₁.setTop (mkF m 0 #[.val (.ref u), .val (.int ch)] []))
  refine OGo.st (fun t k => XS.aloadN X0.here hx rfl (hb hby d10_0) rfl rfl k) ?_
  show OGo p e below _ (s₁.setTop (mkF m 1 #[.val (.ref u), .val (.int ch)] [(.ref u)]))
  obtain ⟨T1, X1, e1, st1⟩ := getF X0 hx hZ hown (host := "") (Or.inl (hw _ (List.mem_of_getElem? (i := 40) rfl))) Via.refl e0 F0_end (g := (mkF m 1 #[.val (.ref u), .val (.int ch)] [(.ref u)])) rfl rfl (hb hby d10_1)
  refine OGo.st (fun t k => st1 t k) ?_
  show OGo p e below _ (T1.setTop (mkF m 4 #[.val (.ref u), .val (.int ch)] [(.int (Int32.ofNat en))]))
  refine OGo.st (fun t k => XS.aloadN X1.here hx rfl (hb hby d10_4) rfl rfl k) ?_
  show OGo p e below _ (T1.setTop (mkF m 5 #[.val (.ref u), .val (.int ch)] [(.ref u), (.int (Int32.ofNat en))]))
  obtain ⟨T2, X2, e2, st2⟩ := getF X1 hx hZ hown (host := "") (Or.inl (hw _ (List.mem_of_getElem? (i := 23) rfl))) Via.refl e1 F0_window (g := (mkF m 5 #[.val (.ref u), .val (.int ch)] [(.ref u), (.int (Int32.ofNat en))])) rfl rfl (hb hby d10_5)
  refine OGo.st (fun t k => st2 t k) ?_
  show OGo p e below _ (T2.setTop (mkF m 8 #[.val (.ref u), .val (.int ch)] [(.ref w), (.int (Int32.ofNat en))]))
  refine OGo.st (fun t k => OA.len X2 hx hZ e2 Ow0 (z := (512 : Int32)) (by decide) (g := (mkF m 8 #[.val (.ref u), .val (.int ch)] [(.ref w), (.int (Int32.ofNat en))])) rfl rfl (hb hby d10_8) t k) ?_
  show OGo p e below _ (T2.setTop (mkF m 9 #[.val (.ref u), .val (.int ch)] [(.int (512 : Int32)), (.int (Int32.ofNat en))]))
  refine OGo.st (fun t k => XS.icmpYes X2.here hx rfl (pc0 := 9) (pc' := 83) rfl (hb hby d10_9) rfl (feq (own_ne512 hen)).2 (by decide) (by decide) k) ?_
  show OGo p e below _ (T2.setTop (mkF m 83 #[.val (.ref u), .val (.int ch)] []))
  refine OGo.st (fun t k => XS.aloadN X2.here hx rfl (hb hby d10_83) rfl rfl k) ?_
  show OGo p e below _ (T2.setTop (mkF m 84 #[.val (.ref u), .val (.int ch)] [(.ref u)]))
  obtain ⟨T3, X3, e3, st3⟩ := getF X2 hx hZ hown (host := "") (Or.inl (hw _ (List.mem_of_getElem? (i := 23) rfl))) Via.refl e2 F0_window (g := (mkF m 84 #[.val (.ref u), .val (.int ch)] [(.ref u)])) rfl rfl (hb hby d10_84)
  refine OGo.st (fun t k => st3 t k) ?_
  show OGo p e below _ (T3.setTop (mkF m 87 #[.val (.ref u), .val (.int ch)] [(.ref w)]))
  refine OGo.st (fun t k => XS.aloadN X3.here hx rfl (hb hby d10_87) rfl rfl k) ?_
  show OGo p e below _ (T3.setTop (mkF m 88 #[.val (.ref u), .val (.int ch)] [(.ref u), (.ref w)]))
  refine OGo.st (fun t k => XS.dup X3.here hx rfl (hb hby d10_88) rfl rfl k) ?_
  show OGo p e below _ (T3.setTop (mkF m 89 #[.val (.ref u), .val (.int ch)] [(.ref u), (.ref u), (.ref w)]))
  obtain ⟨T4, X4, e4, st4⟩ := getF X3 hx hZ hown (host := "") (Or.inl (hw _ (List.mem_of_getElem? (i := 40) rfl))) Via.refl e3 F0_end (g := (mkF m 89 #[.val (.ref u), .val (.int ch)] [(.ref u), (.ref u), (.ref w)])) rfl rfl (hb hby d10_89)
  refine OGo.st (fun t k => st4 t k) ?_
  show OGo p e below _ (T4.setTop (mkF m 92 #[.val (.ref u), .val (.int ch)] [(.int (Int32.ofNat en)), (.ref u), (.ref w)]))
  refine OGo.st (fun t k => XS.dupX1 X4.here hx rfl (hb hby d10_92) rfl rfl rfl k) ?_
  show OGo p e below _ (T4.setTop (mkF m 93 #[.val (.ref u), .val (.int ch)] [(.int (Int32.ofNat en)), (.ref u), (.int (Int32.ofNat en)), (.ref w)]))
  refine OGo.st (fun t k => XS.iconst X4.here hx rfl (hb hby d10_93) k) ?_
  show OGo p e below _ (T4.setTop (mkF m 94 #[.val (.ref u), .val (.int ch)] [(.int (1 : Int32)), (.int (Int32.ofNat en)), (.ref u), (.int (Int32.ofNat en)), (.ref w)]))
  refine OGo.st (fun t k => XS.iadd X4.here hx rfl (hb hby d10_94) rfl k) ?_
  show OGo p e below _ (T4.setTop (mkF m 95 #[.val (.ref u), .val (.int ch)] [(.int ((Int32.ofNat en) + (1 : Int32))), (.ref u), (.int (Int32.ofNat en)), (.ref w)]))
  rw [own_inc en]
  show OGo p e below _ (T4.setTop (mkF m 95 #[.val (.ref u), .val (.int ch)] [(.int (Int32.ofNat (en + 1))), (.ref u), (.int (Int32.ofNat en)), (.ref w)]))
  obtain ⟨T5, h5, X5, e5, W5, st5⟩ := putF X4 hx hZ hown (host := "") (Or.inl (hw _ (List.mem_of_getElem? (i := 40) rfl))) Via.refl e4 F0_end E0 (Or.inl (hw _ (List.mem_of_getElem? (i := 41) rfl))) (hw _ (List.mem_of_getElem? (i := 9) rfl)) (ty := .int) (by decide) rfl rfl (g := (mkF m 95 #[.val (.ref u), .val (.int ch)] [(.int (Int32.ofNat (en + 1))), (.ref u), (.int (Int32.ofNat en)), (.ref w)])) rfl rfl (hb hby d10_95)
  have Fw5 := F0_end.same W5
  have N5 := Fr.snoc X5 N0 gu
  have Z5 : n0 ≤ h5.size := Nat.le_trans Z0 (Keep.of_wr W5).1
  obtain ⟨lo5, X5, N5⟩ : ∃ L, Stand p l e ({ frames := 0, cells := 0, slots := 0, locals := 0 } : Room) s m #[(.ref u), (.int ch)] below meth c T5 L 0 0 ∧ Fr n0 L := ⟨_, X5, N5⟩
  refine OGo.st (fun t k => st5 t k) ?_
  show OGo p e below _ (T5.setTop (mkF m 98 #[.val (.ref u), .val (.int ch)] [(.int (Int32.ofNat en)), (.ref w)]))
  refine OGo.st (fun t k => XS.iloadN X5.here hx rfl (hb hby d10_98) rfl k) ?_
  show OGo p e below _ (T5.setTop (mkF m 99 #[.val (.ref u), .val (.int ch)] [(.int ch), (.int (Int32.ofNat en)), (.ref w)]))
  have c7 := (Ow0.other W5 (Ne.symm huw))
  obtain ⟨T6, h6, X6, e6, W6, O6', st6⟩ := OA.stI X5 hx hZ e5 c7 (j := (Int32.ofNat en)) (x := ch) (k := en) (own_nat (show en < 1000 by omega)).1 (own_nat (show en < 1000 by omega)).2 (by omega) (g := (mkF m 99 #[.val (.ref u), .val (.int ch)] [(.int ch), (.int (Int32.ofNat en)), (.ref w)])) rfl rfl (hb hby d10_99)
  have O6 := O6'
  have N6 := Fr.snoc X6 N5 gw
  have Z6 : n0 ≤ h6.size := Nat.le_trans Z5 (Keep.of_wr W6).1
  obtain ⟨lo6, X6, N6⟩ : ∃ L, Stand p l e ({ frames := 0, cells := 0, slots := 0, locals := 0 } : Room) s m #[(.ref u), (.int ch)] below meth c T6 L 0 0 ∧ Fr n0 L := ⟨_, X6, N6⟩
  refine OGo.st (fun t k => st6 t k) ?_
  show OGo p e below _ (T6.setTop (mkF m 100 #[.val (.ref u), .val (.int ch)] []))
  have c8 := ((E0.wr W5).wr W6)
  have c9 := ((F0_bytes.other W5 (Or.inr (slot_ne (Or.inr (hw _ (List.mem_of_getElem? (i := 32) rfl))) (Or.inl (hw _ (List.mem_of_getElem? (i := 41) rfl))) (by decide) (t := (.array .byte)) (t' := .int) (by decide) (by decide)))).other W6 (Or.inl huw))
  have c10 := ((F0_byteLimit.other W5 (Or.inr (slot_ne (Or.inl (hw _ (List.mem_of_getElem? (i := 34) rfl))) (Or.inl (hw _ (List.mem_of_getElem? (i := 41) rfl))) (by decide) (t := .int) (t' := .int) (by decide) (by decide)))).other W6 (Or.inl huw))
  have c11 := ((F0_bytePosition.other W5 (Or.inr (slot_ne (Or.inl (hw _ (List.mem_of_getElem? (i := 57) rfl))) (Or.inl (hw _ (List.mem_of_getElem? (i := 41) rfl))) (by decide) (t := .int) (t' := .int) (by decide) (by decide)))).other W6 (Or.inl huw))
  have c12 := ((F0_window.other W5 (Or.inr (slot_ne (Or.inl (hw _ (List.mem_of_getElem? (i := 24) rfl))) (Or.inl (hw _ (List.mem_of_getElem? (i := 41) rfl))) (by decide) (t := (.array .int)) (t' := .int) (by decide) (by decide)))).other W6 (Or.inl huw))
  have c13 := ((F0_start.other W5 (Or.inr (slot_ne (Or.inl (hw _ (List.mem_of_getElem? (i := 43) rfl))) (Or.inl (hw _ (List.mem_of_getElem? (i := 41) rfl))) (by decide) (t := .int) (t' := .int) (by decide) (by decide)))).other W6 (Or.inl huw))
  have c14 := (Fw5.other W6 (Or.inl huw))
  have c15 := ((F0_line.other W5 (Or.inr (slot_ne (Or.inl (hw _ (List.mem_of_getElem? (i := 26) rfl))) (Or.inl (hw _ (List.mem_of_getElem? (i := 41) rfl))) (by decide) (t := .int) (t' := .int) (by decide) (by decide)))).other W6 (Or.inl huw))
  have c16 := ((F0_column.other W5 (Or.inr (slot_ne (Or.inl (hw _ (List.mem_of_getElem? (i := 28) rfl))) (Or.inl (hw _ (List.mem_of_getElem? (i := 41) rfl))) (by decide) (t := .int) (t' := .int) (by decide) (by decide)))).other W6 (Or.inl huw))
  have c17 := ((F0_afterCarriageReturn.other W5 (Or.inr (slot_ne (Or.inl (hw _ (List.mem_of_getElem? (i := 68) rfl))) (Or.inl (hw _ (List.mem_of_getElem? (i := 41) rfl))) (by decide) (t := .boolean) (t' := .int) (by decide) (by decide)))).other W6 (Or.inl huw))
  have c18 := ((Ob0.other W5 (Ne.symm hub)).other W6 hbw)
  refine OGo.outV X6 hx Bd.returns Bd.notSynchronized (hb hby d10_100) ?_ (by decide) (by decide)
  rw [e6]
  exact ⟨rfl, N6, Z6, ⟨c8, c9, c10, c11, c12, c13, c14, c15, c16, c17, c18, O6⟩⟩
theorem d7_0 : decode prog_169_method_9_code 0 = .ok (.aload_n 0, 1) := by decide +kernel
theorem d7_1 : decode prog_169_method_9_code 1 = .ok (.invokevirtual 75, 3) := by decide +kernel
theorem d7_4 : decode prog_169_method_9_code 4 = .ok (.istore_n 1, 1) := by decide +kernel
theorem d7_5 : decode prog_169_method_9_code 5 = .ok (.iload_n 1, 1) := by decide +kernel
theorem d7_6 : decode prog_169_method_9_code 6 = .ok (.ifCond .ge 5, 3) := by decide +kernel
theorem d7_11 : decode prog_169_method_9_code 11 = .ok (.iload_n 1, 1) := by decide +kernel
theorem d7_12 : decode prog_169_method_9_code 12 = .ok (.sipush 128, 3) := by decide +kernel
theorem d7_15 : decode prog_169_method_9_code 15 = .ok (.if_icmp .ge 10, 3) := by decide +kernel
theorem d7_18 : decode prog_169_method_9_code 18 = .ok (.aload_n 0, 1) := by decide +kernel
theorem d7_19 : decode prog_169_method_9_code 19 = .ok (.iload_n 1, 1) := by decide +kernel
theorem d7_20 : decode prog_169_method_9_code 20 = .ok (.invokevirtual 79, 3) := by decide +kernel
theorem d7_23 : decode prog_169_method_9_code 23 = .ok (.iconst 1, 1) := by decide +kernel
theorem d7_24 : decode prog_169_method_9_code 24 = .ok (.ireturn, 1) := by decide +kernel
theorem pn7 : plainName "com/example/triadne/triadne/Utf8Input" = true := by first | (simp [plainName, overriddenIn]; done) | decide +kernel
theorem pd7_0 : parseMethodDescriptor "()I" = some ⟨[], some .int⟩ := by decide +kernel
theorem pd7_1 : parseMethodDescriptor "(I)V" = some ⟨[.int], none⟩ := by decide +kernel
theorem ef7 (m : MethodId) (u : Addr) : entryFrame m #[(.ref u)] 7 = mkF m 0 #[.val (.ref u), .unset, .unset, .unset, .unset, .unset, .unset] [] := by first | (simp [entryFrame, mkF, argsToLocals, Value.category]; done) | rfl
set_option maxRecDepth 65536 in
set_option maxHeartbeats 40000000 in
theorem rm7 (l : Launch) (Z : State) (a0 : Array Value) (hw : ∀ d ∈ tables_1, d.before a0 Z = true) (ws : List Jvm.Cond) (u : Addr) (b : Addr) (w : Addr) (f : Nat → Int32) (g : Nat → Int32) (bp : Nat) (st : Nat) (en : Nat) (ln : Int32) (co : Int32) (cr : Int32) (h0 : Heap) (n0 : Nat) (Z0 : n0 ≤ h0.size) (U : UI Z h0 u b w f g bp st en ln co cr) (hub : u ≠ b) (huw : u ≠ w) (hbw : b ≠ w) (gu : n0 ≤ u) (gw : n0 ≤ w) (hbp : bp < 7) (hen : en < 100) (hx1 : ((f bp) &&& (255 : Int32)) < 128) :
    MetFree l (⟨"com/example/triadne/triadne/Utf8Input", "decodeOne", "()Z"⟩ : MethodName) (head1 (Jvm.Cond.code (⟨"com/example/triadne/triadne/Utf8Input", "decodeOne", "()Z"⟩ : MethodName) prog_169_method_9_code 7 (some .boolean) :: ws) ({ frames := 2, cells := 0, slots := 0, locals := 25 } : Room)) (fun a U => a = #[(.ref u)] ∧ Z.Warmed39 U.vm ∧ U.heap = h0) (fun _ _ _ _ _ => True) (fun _ U o U' => ∃ v L, o = .returned v ∧ (QU Z n0 (some (.int 1)) u b w f (oset g en ((f bp) &&& (255 : Int32))) (bp + 1) st (en + 1) ln co cr) v U'.heap L ∧ FrameEnd U o U' L ({ frames := 2, cells := 0, slots := 0, locals := 25 } : Room).cells ({ frames := 2, cells := 0, slots := 0, locals := 25 } : Room).slots) := by
  refine MetFree.of_bodySF (plainFor_of_name pn7) hisR ?_
  intro p e s m args below meth c s₁ Bd hml0 hP hK
  obtain ⟨rfl, hZ, hh⟩ := hP
  have hx := Bd.exec
  have hby := Bd.bytes
  have hml : c.maxLocals = 7 := hml0
  have hown : s.vm.findClass "com/example/triadne/triadne/Utf8Input" = some m.cls := findClass_of_methodNamed Bd.named
  have hnm := (name_of_methodNamed Bd.named Bd.method).1
  have X0 : Stand p l e ({ frames := 2, cells := 0, slots := 0, locals := 25 } : Room) s m #[(.ref u)] below meth c s₁ [] 0 0 := Stand.of_body Bd
  have e0 : s₁.heap = h0 := by rw [← hh, Bd.state]; rfl
  have N0 := Fr.nil n0
  show OGo p e below (Out s ({ frames := 2, cells := 0, slots := 0, locals := 25 } : Room).cells ({ frames := 2, cells := 0, slots := 0, locals := 25 } : Room).slots ((QU Z n0 (some (.int 1)) u b w f (oset g en ((f bp) &&& (255 : Int32))) (bp + 1) st (en + 1) ln co cr))) (s₁.setTop (entryFrame m #[(.ref u)] 7))
  obtain ⟨E0, F0_bytes, F0_byteLimit, F0_bytePosition, F0_window, F0_start, F0_end, F0_line, F0_column, F0_afterCarriageReturn, Ob0, Ow0⟩ := U
  refine OGo.st (fun t k => castTop (ef7 m u) k) ?_
  show OGo p e below (Out s ({ frames := 2, cells := 0, slots := 0, locals := 25 } : Room).cells ({ frames := 2, cells := 0, slots := 0, locals := 25 } : Room).slots ((QU Z n0 (some (.int 1)) u b w f (oset g en ((f bp) &&& (255 : Int32))) (bp + 1) st (en + 1) ln co cr))) (s₁.setTop (mkF m 0 #[.val (.ref u), .unset, .unset, .unset, .unset, .unset, .unset] []))
  refine OGo.st (fun t k => XS.aloadN X0.here hx rfl (hb hby d7_0) rfl rfl k) ?_
  show OGo p e below _ (s₁.setTop (mkF m 1 #[.val (.ref u), .unset, .unset, .unset, .unset, .unset, .unset] [(.ref u)]))
  obtain ⟨cq1, q1, q1'⟩ := E0.cell
  obtain ⟨_, _, ⟨T1, L1, k1, n1⟩, -, X1, ⟨Lc1, hQ1, l1, y1, z1⟩, st1⟩ := X0.privateBack hx (y := (⟨"com/example/triadne/triadne/Utf8Input", "readByte", "()I"⟩ : MethodName)) hown (mvT hZ (hw _ (List.mem_of_getElem? (i := 48) rfl))) (mvT hZ (hw _ (List.mem_of_getElem? (i := 49) rfl))) (osel (y := (⟨"com/example/triadne/triadne/Utf8Input", "readByte", "()I"⟩ : MethodName)) hZ (hw _ (List.mem_of_getElem? (i := 9) rfl)) (hw _ (List.mem_of_getElem? (i := 50) rfl)) (hw _ (List.mem_of_getElem? (i := 49) rfl)) (by decide)) (Cond.privateMethod_at (mvP hZ (hw _ (List.mem_of_getElem? (i := 50) rfl)) (args := #[]))) (mvT hZ (hw _ (List.mem_of_getElem? (i := 51) rfl))) (by decide) (backOf (W := 0) (rm8 l Z a0 hw [] u b w f g bp st en ln co cr h0 n0 Z0 ⟨E0, F0_bytes, F0_byteLimit, F0_bytePosition, F0_window, F0_start, F0_end, F0_line, F0_column, F0_afterCarriageReturn, Ob0, Ow0⟩ hub huw hbw gu gw hbp) hZ (hw _ (List.mem_of_getElem? (i := 51) rfl)) (hw _ (List.mem_of_getElem? (i := 10) rfl)) (by decide) (by decide)) (g := (mkF m 1 #[.val (.ref u), .unset, .unset, .unset, .unset, .unset, .unset] [(.ref u)])) rfl (by rw [hml]; rfl) (Steps.refl _) (a := u) (by rw [e0]; exact q1) q1' (argsL := []) (rest := []) (lenOf pd7_0 rfl) rfl (by show 2 * 0 + _ ≤ _; exact Nat.le_of_eq rfl) (hb hby d7_1) (fun _ _ => ⟨rfl, e0, (by decide : 0 + 0 ≤ _), (by decide : 0 + 0 ≤ _)⟩)
  dsimp only [Pt.U, Pt.locs, Pt.cells, Pt.slots] at X1 l1 y1 z1 st1 hQ1
  subst l1 y1 z1
  obtain ⟨rfl, Nq1, Z1, Uq1⟩ := hQ1
  have N1 := Fr.app N0 Nq1
  obtain ⟨E1, F1_bytes, F1_byteLimit, F1_bytePosition, F1_window, F1_start, F1_end, F1_line, F1_column, F1_afterCarriageReturn, Ob1, Ow1⟩ := Uq1
  obtain ⟨lo1, X1, N1⟩ : ∃ L, Stand p l e ({ frames := 2, cells := 0, slots := 0, locals := 25 } : Room) s m #[(.ref u)] below meth c T1 L 0 0 ∧ Fr n0 L := ⟨_, X1, N1⟩
  refine OGo.st (fun t k => st1.trans k) ?_
  show OGo p e below _ (T1.setTop (mkF m 4 #[.val (.ref u), .unset, .unset, .unset, .unset, .unset, .unset] [(.int ((f bp) &&& (255 : Int32)))]))
  refine OGo.st (fun t k => XS.istoreN X1.here hx rfl (hb hby d7_4) rfl (l' := #[.val (.ref u), .val (.int ((f bp) &&& (255 : Int32))), .unset, .unset, .unset, .unset, .unset]) rfl k) ?_
  show OGo p e below _ (T1.setTop (mkF m 5 #[.val (.ref u), .val (.int ((f bp) &&& (255 : Int32))), .unset, .unset, .unset, .unset, .unset] []))
  refine OGo.st (fun t k => XS.iloadN X1.here hx rfl (hb hby d7_5) rfl k) ?_
  show OGo p e below _ (T1.setTop (mkF m 6 #[.val (.ref u), .val (.int ((f bp) &&& (255 : Int32))), .unset, .unset, .unset, .unset, .unset] [(.int ((f bp) &&& (255 : Int32)))]))
  refine OGo.st (fun t k => XS.ifYes X1.here hx rfl (pc0 := 6) (pc' := 11) rfl (hb hby d7_6) rfl ((if0 _ _).trans (flt (own_and255 _)).2.1) (by decide) (by decide) k) ?_
  show OGo p e below _ (T1.setTop (mkF m 11 #[.val (.ref u), .val (.int ((f bp) &&& (255 : Int32))), .unset, .unset, .unset, .unset, .unset] []))
  refine OGo.st (fun t k => XS.iloadN X1.here hx rfl (hb hby d7_11) rfl k) ?_
  show OGo p e below _ (T1.setTop (mkF m 12 #[.val (.ref u), .val (.int ((f bp) &&& (255 : Int32))), .unset, .unset, .unset, .unset, .unset] [(.int ((f bp) &&& (255 : Int32)))]))
  refine OGo.st (fun t k => XS.sipush X1.here hx rfl (hb hby d7_12) k) ?_
  show OGo p e below _ (T1.setTop (mkF m 15 #[.val (.ref u), .val (.int ((f bp) &&& (255 : Int32))), .unset, .unset, .unset, .unset, .unset] [(.int (128 : Int32)), (.int ((f bp) &&& (255 : Int32)))]))
  refine OGo.st (fun t k => XS.icmpNo X1.here hx rfl (hb hby d7_15) rfl (tlt hx1).2.1 k) ?_
  show OGo p e below _ (T1.setTop (mkF m 18 #[.val (.ref u), .val (.int ((f bp) &&& (255 : Int32))), .unset, .unset, .unset, .unset, .unset] []))
  refine OGo.st (fun t k => XS.aloadN X1.here hx rfl (hb hby d7_18) rfl rfl k) ?_
  show OGo p e below _ (T1.setTop (mkF m 19 #[.val (.ref u), .val (.int ((f bp) &&& (255 : Int32))), .unset, .unset, .unset, .unset, .unset] [(.ref u)]))
  refine OGo.st (fun t k => XS.iloadN X1.here hx rfl (hb hby d7_19) rfl k) ?_
  show OGo p e below _ (T1.setTop (mkF m 20 #[.val (.ref u), .val (.int ((f bp) &&& (255 : Int32))), .unset, .unset, .unset, .unset, .unset] [(.int ((f bp) &&& (255 : Int32))), (.ref u)]))
  obtain ⟨cq2, q2, q2'⟩ := E1.cell
  obtain ⟨_, _, ⟨T2, L2, k2, n2⟩, -, X2, ⟨Lc2, hQ2, l2, y2, z2⟩, st2⟩ := X1.privateBack hx (y := (⟨"com/example/triadne/triadne/Utf8Input", "append", "(I)V"⟩ : MethodName)) hown (mvT hZ (hw _ (List.mem_of_getElem? (i := 58) rfl))) (mvT hZ (hw _ (List.mem_of_getElem? (i := 59) rfl))) (osel (y := (⟨"com/example/triadne/triadne/Utf8Input", "append", "(I)V"⟩ : MethodName)) hZ (hw _ (List.mem_of_getElem? (i := 9) rfl)) (hw _ (List.mem_of_getElem? (i := 60) rfl)) (hw _ (List.mem_of_getElem? (i := 59) rfl)) (by decide)) (Cond.privateMethod_at (mvP hZ (hw _ (List.mem_of_getElem? (i := 60) rfl)) (args := #[]))) (mvT hZ (hw _ (List.mem_of_getElem? (i := 61) rfl))) (by decide) (backOf (W := 0) (rm10 l Z a0 hw [] u ((f bp) &&& (255 : Int32)) b w f g (bp + 1) st en ln co cr T1.heap n0 Z1 ⟨E1, F1_bytes, F1_byteLimit, F1_bytePosition, F1_window, F1_start, F1_end, F1_line, F1_column, F1_afterCarriageReturn, Ob1, Ow1⟩ hub huw hbw gu gw hen) hZ (hw _ (List.mem_of_getElem? (i := 61) rfl)) (hw _ (List.mem_of_getElem? (i := 10) rfl)) (by decide) (by decide)) (g := (mkF m 20 #[.val (.ref u), .val (.int ((f bp) &&& (255 : Int32))), .unset, .unset, .unset, .unset, .unset] [(.int ((f bp) &&& (255 : Int32))), (.ref u)])) rfl (by rw [hml]; rfl) (Steps.refl _) (a := u) q2 q2' (argsL := [(.int ((f bp) &&& (255 : Int32)))]) (rest := []) (lenOf pd7_1 rfl) rfl (by show 2 * 0 + _ ≤ _; exact Nat.le_of_eq rfl) (hb hby d7_20) (fun _ _ => ⟨rfl, rfl, (by decide : 0 + 0 ≤ _), (by decide : 0 + 0 ≤ _)⟩)
  dsimp only [Pt.U, Pt.locs, Pt.cells, Pt.slots] at X2 l2 y2 z2 st2 hQ2
  subst l2 y2 z2
  obtain ⟨rfl, Nq2, Z2, Uq2⟩ := hQ2
  have N2 := Fr.app N1 Nq2
  obtain ⟨E2, F2_bytes, F2_byteLimit, F2_bytePosition, F2_window, F2_start, F2_end, F2_line, F2_column, F2_afterCarriageReturn, Ob2, Ow2⟩ := Uq2
  obtain ⟨lo2, X2, N2⟩ : ∃ L, Stand p l e ({ frames := 2, cells := 0, slots := 0, locals := 25 } : Room) s m #[(.ref u)] below meth c T2 L 0 0 ∧ Fr n0 L := ⟨_, X2, N2⟩
  refine OGo.st (fun t k => st2.trans k) ?_
  show OGo p e below _ (T2.setTop (mkF m 23 #[.val (.ref u), .val (.int ((f bp) &&& (255 : Int32))), .unset, .unset, .unset, .unset, .unset] []))
  refine OGo.st (fun t k => XS.iconst X2.here hx rfl (hb hby d7_23) k) ?_
  show OGo p e below _ (T2.setTop (mkF m 24 #[.val (.ref u), .val (.int ((f bp) &&& (255 : Int32))), .unset, .unset, .unset, .unset, .unset] [(.int (1 : Int32))]))
  refine OGo.outN X2 hx (t := .boolean) Bd.returns (by simp) Bd.notSynchronized (hb hby d7_24) ?_ (by decide) (by decide)
  exact ⟨rfl, N2, Z2, ⟨E2, F2_bytes, F2_byteLimit, F2_bytePosition, F2_window, F2_start, F2_end, F2_line, F2_column, F2_afterCarriageReturn, Ob2, Ow2⟩⟩
theorem d7b_0 : decode prog_169_method_9_code 0 = .ok (.aload_n 0, 1) := by decide +kernel
theorem d7b_1 : decode prog_169_method_9_code 1 = .ok (.invokevirtual 75, 3) := by decide +kernel
theorem d7b_4 : decode prog_169_method_9_code 4 = .ok (.istore_n 1, 1) := by decide +kernel
theorem d7b_5 : decode prog_169_method_9_code 5 = .ok (.iload_n 1, 1) := by decide +kernel
theorem d7b_6 : decode prog_169_method_9_code 6 = .ok (.ifCond .ge 5, 3) := by decide +kernel
theorem d7b_11 : decode prog_169_method_9_code 11 = .ok (.iload_n 1, 1) := by decide +kernel
theorem d7b_12 : decode prog_169_method_9_code 12 = .ok (.sipush 128, 3) := by decide +kernel
theorem d7b_15 : decode prog_169_method_9_code 15 = .ok (.if_icmp .ge 10, 3) := by decide +kernel
theorem d7b_25 : decode prog_169_method_9_code 25 = .ok (.iload_n 1, 1) := by decide +kernel
theorem d7b_26 : decode prog_169_method_9_code 26 = .ok (.sipush 194, 3) := by decide +kernel
theorem d7b_29 : decode prog_169_method_9_code 29 = .ok (.if_icmp .lt 25, 3) := by decide +kernel
theorem d7b_32 : decode prog_169_method_9_code 32 = .ok (.iload_n 1, 1) := by decide +kernel
theorem d7b_33 : decode prog_169_method_9_code 33 = .ok (.sipush 223, 3) := by decide +kernel
theorem d7b_36 : decode prog_169_method_9_code 36 = .ok (.if_icmp .gt 18, 3) := by decide +kernel
theorem d7b_39 : decode prog_169_method_9_code 39 = .ok (.iconst 1, 1) := by decide +kernel
theorem d7b_40 : decode prog_169_method_9_code 40 = .ok (.istore_n 2, 1) := by decide +kernel
theorem d7b_41 : decode prog_169_method_9_code 41 = .ok (.iload_n 1, 1) := by decide +kernel
theorem d7b_42 : decode prog_169_method_9_code 42 = .ok (.bipush 31, 2) := by decide +kernel
theorem d7b_44 : decode prog_169_method_9_code 44 = .ok (.iand, 1) := by decide +kernel
theorem d7b_45 : decode prog_169_method_9_code 45 = .ok (.istore_n 3, 1) := by decide +kernel
theorem d7b_46 : decode prog_169_method_9_code 46 = .ok (.sipush 128, 3) := by decide +kernel
theorem d7b_49 : decode prog_169_method_9_code 49 = .ok (.istore 4, 2) := by decide +kernel
theorem d7b_51 : decode prog_169_method_9_code 51 = .ok (.goto 68, 3) := by decide +kernel
theorem d7b_119 : decode prog_169_method_9_code 119 = .ok (.iconst 0, 1) := by decide +kernel
theorem d7b_120 : decode prog_169_method_9_code 120 = .ok (.istore 5, 2) := by decide +kernel
theorem d7b_122 : decode prog_169_method_9_code 122 = .ok (.iload 5, 2) := by decide +kernel
theorem d7b_124 : decode prog_169_method_9_code 124 = .ok (.iload_n 2, 1) := by decide +kernel
theorem d7b_125 : decode prog_169_method_9_code 125 = .ok (.if_icmp .ge 56, 3) := by decide +kernel
theorem d7b_128 : decode prog_169_method_9_code 128 = .ok (.aload_n 0, 1) := by decide +kernel
theorem d7b_129 : decode prog_169_method_9_code 129 = .ok (.invokevirtual 82, 3) := by decide +kernel
theorem d7b_132 : decode prog_169_method_9_code 132 = .ok (.istore 6, 2) := by decide +kernel
theorem d7b_134 : decode prog_169_method_9_code 134 = .ok (.iload 6, 2) := by decide +kernel
theorem d7b_136 : decode prog_169_method_9_code 136 = .ok (.sipush 192, 3) := by decide +kernel
theorem d7b_139 : decode prog_169_method_9_code 139 = .ok (.iand, 1) := by decide +kernel
theorem d7b_140 : decode prog_169_method_9_code 140 = .ok (.sipush 128, 3) := by decide +kernel
theorem d7b_143 : decode prog_169_method_9_code 143 = .ok (.if_icmp .eq 11, 3) := by decide +kernel
theorem d7b_154 : decode prog_169_method_9_code 154 = .ok (.aload_n 0, 1) := by decide +kernel
theorem d7b_155 : decode prog_169_method_9_code 155 = .ok (.dup, 1) := by decide +kernel
theorem d7b_156 : decode prog_169_method_9_code 156 = .ok (.getfield 61, 3) := by decide +kernel
theorem d7b_159 : decode prog_169_method_9_code 159 = .ok (.iconst 1, 1) := by decide +kernel
theorem d7b_160 : decode prog_169_method_9_code 160 = .ok (.iadd, 1) := by decide +kernel
theorem d7b_161 : decode prog_169_method_9_code 161 = .ok (.putfield 61, 3) := by decide +kernel
theorem d7b_164 : decode prog_169_method_9_code 164 = .ok (.iload_n 3, 1) := by decide +kernel
theorem d7b_165 : decode prog_169_method_9_code 165 = .ok (.bipush 6, 2) := by decide +kernel
theorem d7b_167 : decode prog_169_method_9_code 167 = .ok (.ishl, 1) := by decide +kernel
theorem d7b_168 : decode prog_169_method_9_code 168 = .ok (.iload 6, 2) := by decide +kernel
theorem d7b_170 : decode prog_169_method_9_code 170 = .ok (.bipush 63, 2) := by decide +kernel
theorem d7b_172 : decode prog_169_method_9_code 172 = .ok (.iand, 1) := by decide +kernel
theorem d7b_173 : decode prog_169_method_9_code 173 = .ok (.ior, 1) := by decide +kernel
theorem d7b_174 : decode prog_169_method_9_code 174 = .ok (.istore_n 3, 1) := by decide +kernel
theorem d7b_175 : decode prog_169_method_9_code 175 = .ok (.iinc 5 1, 3) := by decide +kernel
theorem d7b_178 : decode prog_169_method_9_code 178 = .ok (.goto (-56), 3) := by decide +kernel
theorem d7b_181 : decode prog_169_method_9_code 181 = .ok (.iload_n 3, 1) := by decide +kernel
theorem d7b_182 : decode prog_169_method_9_code 182 = .ok (.iload 4, 2) := by decide +kernel
theorem d7b_184 : decode prog_169_method_9_code 184 = .ok (.if_icmp .lt 25, 3) := by decide +kernel
theorem d7b_187 : decode prog_169_method_9_code 187 = .ok (.iload_n 3, 1) := by decide +kernel
theorem d7b_188 : decode prog_169_method_9_code 188 = .ok (.ldc 87, 2) := by decide +kernel
theorem d7b_190 : decode prog_169_method_9_code 190 = .ok (.if_icmp .gt 19, 3) := by decide +kernel
theorem d7b_193 : decode prog_169_method_9_code 193 = .ok (.iload_n 3, 1) := by decide +kernel
theorem d7b_194 : decode prog_169_method_9_code 194 = .ok (.ldc 88, 2) := by decide +kernel
theorem d7b_196 : decode prog_169_method_9_code 196 = .ok (.if_icmp .lt 9, 3) := by decide +kernel
theorem d7b_205 : decode prog_169_method_9_code 205 = .ok (.iconst 1, 1) := by decide +kernel
theorem d7b_206 : decode prog_169_method_9_code 206 = .ok (.goto 4, 3) := by decide +kernel
theorem d7b_210 : decode prog_169_method_9_code 210 = .ok (.istore 5, 2) := by decide +kernel
theorem d7b_212 : decode prog_169_method_9_code 212 = .ok (.aload_n 0, 1) := by decide +kernel
theorem d7b_213 : decode prog_169_method_9_code 213 = .ok (.iload 5, 2) := by decide +kernel
theorem d7b_215 : decode prog_169_method_9_code 215 = .ok (.ifCond .eq 7, 3) := by decide +kernel
theorem d7b_218 : decode prog_169_method_9_code 218 = .ok (.iload_n 3, 1) := by decide +kernel
theorem d7b_219 : decode prog_169_method_9_code 219 = .ok (.goto 5, 3) := by decide +kernel
theorem d7b_224 : decode prog_169_method_9_code 224 = .ok (.invokevirtual 79, 3) := by decide +kernel
theorem d7b_227 : decode prog_169_method_9_code 227 = .ok (.iconst 1, 1) := by decide +kernel
theorem d7b_228 : decode prog_169_method_9_code 228 = .ok (.ireturn, 1) := by decide +kernel
theorem pn7b : plainName "com/example/triadne/triadne/Utf8Input" = true := by first | (simp [plainName, overriddenIn]; done) | decide +kernel
theorem pd7b_0 : parseMethodDescriptor "()I" = some ⟨[], some .int⟩ := by decide +kernel
theorem pd7b_1 : parseMethodDescriptor "(I)V" = some ⟨[.int], none⟩ := by decide +kernel
theorem ef7b (m : MethodId) (u : Addr) : entryFrame m #[(.ref u)] 7 = mkF m 0 #[.val (.ref u), .unset, .unset, .unset, .unset, .unset, .unset] [] := by first | (simp [entryFrame, mkF, argsToLocals, Value.category]; done) | rfl
set_option maxRecDepth 65536 in
set_option maxHeartbeats 40000000 in
theorem rm7b (l : Launch) (Z : State) (a0 : Array Value) (hw : ∀ d ∈ tables_1, d.before a0 Z = true) (ws : List Jvm.Cond) (u : Addr) (b : Addr) (w : Addr) (f : Nat → Int32) (g : Nat → Int32) (bp : Nat) (st : Nat) (en : Nat) (ln : Int32) (co : Int32) (cr : Int32) (h0 : Heap) (n0 : Nat) (Z0 : n0 ≤ h0.size) (U : UI Z h0 u b w f g bp st en ln co cr) (hub : u ≠ b) (huw : u ≠ w) (hbw : b ≠ w) (gu : n0 ≤ u) (gw : n0 ≤ w) (hbp : bp + 1 < 7) (hen : en < 100) (hx1 : ¬ ((f bp) &&& (255 : Int32)) < 128) (hx2 : ¬ ((f bp) &&& (255 : Int32)) < 194) (hx3 : ¬ 223 < ((f bp) &&& (255 : Int32))) (hy1 : (((f (bp + 1)) &&& (255 : Int32)) &&& (192 : Int32)) = 128) (hz1 : ¬ (((((f bp) &&& (255 : Int32)) &&& (31 : Int32)) <<< ((6 : Int32) &&& 31)) ||| (((f (bp + 1)) &&& (255 : Int32)) &&& (63 : Int32))) < 128) (hz2 : ¬ 1114111 < (((((f bp) &&& (255 : Int32)) &&& (31 : Int32)) <<< ((6 : Int32) &&& 31)) ||| (((f (bp + 1)) &&& (255 : Int32)) &&& (63 : Int32)))) (hz3 : (((((f bp) &&& (255 : Int32)) &&& (31 : Int32)) <<< ((6 : Int32) &&& 31)) ||| (((f (bp + 1)) &&& (255 : Int32)) &&& (63 : Int32))) < 55296) :
    MetFree l (⟨"com/example/triadne/triadne/Utf8Input", "decodeOne", "()Z"⟩ : MethodName) (head1 (Jvm.Cond.code (⟨"com/example/triadne/triadne/Utf8Input", "decodeOne", "()Z"⟩ : MethodName) prog_169_method_9_code 7 (some .boolean) :: ws) ({ frames := 2, cells := 0, slots := 0, locals := 25 } : Room)) (fun a U => a = #[(.ref u)] ∧ Z.Warmed39 U.vm ∧ U.heap = h0) (fun _ _ _ _ _ => True) (fun _ U o U' => ∃ v L, o = .returned v ∧ (QU Z n0 (some (.int 1)) u b w f (oset g en (((((f bp) &&& (255 : Int32)) &&& (31 : Int32)) <<< ((6 : Int32) &&& 31)) ||| (((f (bp + 1)) &&& (255 : Int32)) &&& (63 : Int32)))) (bp + 1 + 1) st (en + 1) ln co cr) v U'.heap L ∧ FrameEnd U o U' L ({ frames := 2, cells := 0, slots := 0, locals := 25 } : Room).cells ({ frames := 2, cells := 0, slots := 0, locals := 25 } : Room).slots) := by
  refine MetFree.of_bodySF (plainFor_of_name pn7b) hisR ?_
  intro p e s m args below meth c s₁ Bd hml0 hP hK
  obtain ⟨rfl, hZ, hh⟩ := hP
  have hx := Bd.exec
  have hby := Bd.bytes
  have hml : c.maxLocals = 7 := hml0
  have hown : s.vm.findClass "com/example/triadne/triadne/Utf8Input" = some m.cls := findClass_of_methodNamed Bd.named
  have hnm := (name_of_methodNamed Bd.named Bd.method).1
  have X0 : Stand p l e ({ frames := 2, cells := 0, slots := 0, locals := 25 } : Room) s m #[(.ref u)] below meth c s₁ [] 0 0 := Stand.of_body Bd
  have e0 : s₁.heap = h0 := by rw [← hh, Bd.state]; rfl
  have N0 := Fr.nil n0
  show OGo p e below (Out s ({ frames := 2, cells := 0, slots := 0, locals := 25 } : Room).cells ({ frames := 2, cells := 0, slots := 0, locals := 25 } : Room).slots ((QU Z n0 (some (.int 1)) u b w f (oset g en (((((f bp) &&& (255 : Int32)) &&& (31 : Int32)) <<< ((6 : Int32) &&& 31)) ||| (((f (bp + 1)) &&& (255 : Int32)) &&& (63 : Int32)))) (bp + 1 + 1) st (en + 1) ln co cr))) (s₁.setTop (entryFrame m #[(.ref u)] 7))
  obtain ⟨E0, F0_bytes, F0_byteLimit, F0_bytePosition, F0_window, F0_start, F0_end, F0_line, F0_column, F0_afterCarriageReturn, Ob0, Ow0⟩ := U
  refine OGo.st (fun t k => castTop (ef7b m u) k) ?_
  show OGo p e below (Out s ({ frames := 2, cells := 0, slots := 0, locals := 25 } : Room).cells ({ frames := 2, cells := 0, slots := 0, locals := 25 } : Room).slots ((QU Z n0 (some (.int 1)) u b w f (oset g en (((((f bp) &&& (255 : Int32)) &&& (31 : Int32)) <<< ((6 : Int32) &&& 31)) ||| (((f (bp + 1)) &&& (255 : Int32)) &&& (63 : Int32)))) (bp + 1 + 1) st (en + 1) ln co cr))) (s₁.setTop (mkF m 0 #[.val (.ref u), .unset, .unset, .unset, .unset, .unset, .unset] []))
  refine OGo.st (fun t k => XS.aloadN X0.here hx rfl (hb hby d7b_0) rfl rfl k) ?_
  show OGo p e below _ (s₁.setTop (mkF m 1 #[.val (.ref u), .unset, .unset, .unset, .unset, .unset, .unset] [(.ref u)]))
  obtain ⟨cq1, q1, q1'⟩ := E0.cell
  obtain ⟨_, _, ⟨T1, L1, k1, n1⟩, -, X1, ⟨Lc1, hQ1, l1, y1, z1⟩, st1⟩ := X0.privateBack hx (y := (⟨"com/example/triadne/triadne/Utf8Input", "readByte", "()I"⟩ : MethodName)) hown (mvT hZ (hw _ (List.mem_of_getElem? (i := 48) rfl))) (mvT hZ (hw _ (List.mem_of_getElem? (i := 49) rfl))) (osel (y := (⟨"com/example/triadne/triadne/Utf8Input", "readByte", "()I"⟩ : MethodName)) hZ (hw _ (List.mem_of_getElem? (i := 9) rfl)) (hw _ (List.mem_of_getElem? (i := 50) rfl)) (hw _ (List.mem_of_getElem? (i := 49) rfl)) (by decide)) (Cond.privateMethod_at (mvP hZ (hw _ (List.mem_of_getElem? (i := 50) rfl)) (args := #[]))) (mvT hZ (hw _ (List.mem_of_getElem? (i := 51) rfl))) (by decide) (backOf (W := 0) (rm8 l Z a0 hw [] u b w f g bp st en ln co cr h0 n0 Z0 ⟨E0, F0_bytes, F0_byteLimit, F0_bytePosition, F0_window, F0_start, F0_end, F0_line, F0_column, F0_afterCarriageReturn, Ob0, Ow0⟩ hub huw hbw gu gw (show bp < 7 by omega)) hZ (hw _ (List.mem_of_getElem? (i := 51) rfl)) (hw _ (List.mem_of_getElem? (i := 10) rfl)) (by decide) (by decide)) (g := (mkF m 1 #[.val (.ref u), .unset, .unset, .unset, .unset, .unset, .unset] [(.ref u)])) rfl (by rw [hml]; rfl) (Steps.refl _) (a := u) (by rw [e0]; exact q1) q1' (argsL := []) (rest := []) (lenOf pd7b_0 rfl) rfl (by show 2 * 0 + _ ≤ _; exact Nat.le_of_eq rfl) (hb hby d7b_1) (fun _ _ => ⟨rfl, e0, (by decide : 0 + 0 ≤ _), (by decide : 0 + 0 ≤ _)⟩)
  dsimp only [Pt.U, Pt.locs, Pt.cells, Pt.slots] at X1 l1 y1 z1 st1 hQ1
  subst l1 y1 z1
  obtain ⟨rfl, Nq1, Z1, Uq1⟩ := hQ1
  have N1 := Fr.app N0 Nq1
  obtain ⟨E1, F1_bytes, F1_byteLimit, F1_bytePosition, F1_window, F1_start, F1_end, F1_line, F1_column, F1_afterCarriageReturn, Ob1, Ow1⟩ := Uq1
  obtain ⟨lo1, X1, N1⟩ : ∃ L, Stand p l e ({ frames := 2, cells := 0, slots := 0, locals := 25 } : Room) s m #[(.ref u)] below meth c T1 L 0 0 ∧ Fr n0 L := ⟨_, X1, N1⟩
  refine OGo.st (fun t k => st1.trans k) ?_
  show OGo p e below _ (T1.setTop (mkF m 4 #[.val (.ref u), .unset, .unset, .unset, .unset, .unset, .unset] [(.int ((f bp) &&& (255 : Int32)))]))
  refine OGo.st (fun t k => XS.istoreN X1.here hx rfl (hb hby d7b_4) rfl (l' := #[.val (.ref u), .val (.int ((f bp) &&& (255 : Int32))), .unset, .unset, .unset, .unset, .unset]) rfl k) ?_
  show OGo p e below _ (T1.setTop (mkF m 5 #[.val (.ref u), .val (.int ((f bp) &&& (255 : Int32))), .unset, .unset, .unset, .unset, .unset] []))
  refine OGo.st (fun t k => XS.iloadN X1.here hx rfl (hb hby d7b_5) rfl k) ?_
  show OGo p e below _ (T1.setTop (mkF m 6 #[.val (.ref u), .val (.int ((f bp) &&& (255 : Int32))), .unset, .unset, .unset, .unset, .unset] [(.int ((f bp) &&& (255 : Int32)))]))
  refine OGo.st (fun t k => XS.ifYes X1.here hx rfl (pc0 := 6) (pc' := 11) rfl (hb hby d7b_6) rfl ((if0 _ _).trans (flt (own_and255 _)).2.1) (by decide) (by decide) k) ?_
  show OGo p e below _ (T1.setTop (mkF m 11 #[.val (.ref u), .val (.int ((f bp) &&& (255 : Int32))), .unset, .unset, .unset, .unset, .unset] []))
  refine OGo.st (fun t k => XS.iloadN X1.here hx rfl (hb hby d7b_11) rfl k) ?_
  show OGo p e below _ (T1.setTop (mkF m 12 #[.val (.ref u), .val (.int ((f bp) &&& (255 : Int32))), .unset, .unset, .unset, .unset, .unset] [(.int ((f bp) &&& (255 : Int32)))]))
  refine OGo.st (fun t k => XS.sipush X1.here hx rfl (hb hby d7b_12) k) ?_
  show OGo p e below _ (T1.setTop (mkF m 15 #[.val (.ref u), .val (.int ((f bp) &&& (255 : Int32))), .unset, .unset, .unset, .unset, .unset] [(.int (128 : Int32)), (.int ((f bp) &&& (255 : Int32)))]))
  refine OGo.st (fun t k => XS.icmpYes X1.here hx rfl (pc0 := 15) (pc' := 25) rfl (hb hby d7b_15) rfl (flt hx1).2.1 (by decide) (by decide) k) ?_
  show OGo p e below _ (T1.setTop (mkF m 25 #[.val (.ref u), .val (.int ((f bp) &&& (255 : Int32))), .unset, .unset, .unset, .unset, .unset] []))
  refine OGo.st (fun t k => XS.iloadN X1.here hx rfl (hb hby d7b_25) rfl k) ?_
  show OGo p e below _ (T1.setTop (mkF m 26 #[.val (.ref u), .val (.int ((f bp) &&& (255 : Int32))), .unset, .unset, .unset, .unset, .unset] [(.int ((f bp) &&& (255 : Int32)))]))
  refine OGo.st (fun t k => XS.sipush X1.here hx rfl (hb hby d7b_26) k) ?_
  show OGo p e below _ (T1.setTop (mkF m 29 #[.val (.ref u), .val (.int ((f bp) &&& (255 : Int32))), .unset, .unset, .unset, .unset, .unset] [(.int (194 : Int32)), (.int ((f bp) &&& (255 : Int32)))]))
  refine OGo.st (fun t k => XS.icmpNo X1.here hx rfl (hb hby d7b_29) rfl (flt hx2).1 k) ?_
  show OGo p e below _ (T1.setTop (mkF m 32 #[.val (.ref u), .val (.int ((f bp) &&& (255 : Int32))), .unset, .unset, .unset, .unset, .unset] []))
  refine OGo.st (fun t k => XS.iloadN X1.here hx rfl (hb hby d7b_32) rfl k) ?_
  show OGo p e below _ (T1.setTop (mkF m 33 #[.val (.ref u), .val (.int ((f bp) &&& (255 : Int32))), .unset, .unset, .unset, .unset, .unset] [(.int ((f bp) &&& (255 : Int32)))]))
  refine OGo.st (fun t k => XS.sipush X1.here hx rfl (hb hby d7b_33) k) ?_
  show OGo p e below _ (T1.setTop (mkF m 36 #[.val (.ref u), .val (.int ((f bp) &&& (255 : Int32))), .unset, .unset, .unset, .unset, .unset] [(.int (223 : Int32)), (.int ((f bp) &&& (255 : Int32)))]))
  refine OGo.st (fun t k => XS.icmpNo X1.here hx rfl (hb hby d7b_36) rfl (flt hx3).2.2.1 k) ?_
  show OGo p e below _ (T1.setTop (mkF m 39 #[.val (.ref u), .val (.int ((f bp) &&& (255 : Int32))), .unset, .unset, .unset, .unset, .unset] []))
  refine OGo.st (fun t k => XS.iconst X1.here hx rfl (hb hby d7b_39) k) ?_
  show OGo p e below _ (T1.setTop (mkF m 40 #[.val (.ref u), .val (.int ((f bp) &&& (255 : Int32))), .unset, .unset, .unset, .unset, .unset] [(.int (1 : Int32))]))
  refine OGo.st (fun t k => XS.istoreN X1.here hx rfl (hb hby d7b_40) rfl (l' := #[.val (.ref u), .val (.int ((f bp) &&& (255 : Int32))), .val (.int (1 : Int32)), .unset, .unset, .unset, .unset]) rfl k) ?_
  show OGo p e below _ (T1.setTop (mkF m 41 #[.val (.ref u), .val (.int ((f bp) &&& (255 : Int32))), .val (.int (1 : Int32)), .unset, .unset, .unset, .unset] []))
  refine OGo.st (fun t k => XS.iloadN X1.here hx rfl (hb hby d7b_41) rfl k) ?_
  show OGo p e below _ (T1.setTop (mkF m 42 #[.val (.ref u), .val (.int ((f bp) &&& (255 : Int32))), .val (.int (1 : Int32)), .unset, .unset, .unset, .unset] [(.int ((f bp) &&& (255 : Int32)))]))
  refine OGo.st (fun t k => XS.bipush X1.here hx rfl (hb hby d7b_42) k) ?_
  show OGo p e below _ (T1.setTop (mkF m 44 #[.val (.ref u), .val (.int ((f bp) &&& (255 : Int32))), .val (.int (1 : Int32)), .unset, .unset, .unset, .unset] [(.int (31 : Int32)), (.int ((f bp) &&& (255 : Int32)))]))
  refine OGo.st (fun t k => XS.iand X1.here hx rfl (hb hby d7b_44) rfl k) ?_
  show OGo p e below _ (T1.setTop (mkF m 45 #[.val (.ref u), .val (.int ((f bp) &&& (255 : Int32))), .val (.int (1 : Int32)), .unset, .unset, .unset, .unset] [(.int (((f bp) &&& (255 : Int32)) &&& (31 : Int32)))]))
  refine OGo.st (fun t k => XS.istoreN X1.here hx rfl (hb hby d7b_45) rfl (l' := #[.val (.ref u), .val (.int ((f bp) &&& (255 : Int32))), .val (.int (1 : Int32)), .val (.int (((f bp) &&& (255 : Int32)) &&& (31 : Int32))), .unset, .unset, .unset]) rfl k) ?_
  show OGo p e below _ (T1.setTop (mkF m 46 #[.val (.ref u), .val (.int ((f bp) &&& (255 : Int32))), .val (.int (1 : Int32)), .val (.int (((f bp) &&& (255 : Int32)) &&& (31 : Int32))), .unset, .unset, .unset] []))
  refine OGo.st (fun t k => XS.sipush X1.here hx rfl (hb hby d7b_46) k) ?_
  show OGo p e below _ (T1.setTop (mkF m 49 #[.val (.ref u), .val (.int ((f bp) &&& (255 : Int32))), .val (.int (1 : Int32)), .val (.int (((f bp) &&& (255 : Int32)) &&& (31 : Int32))), .unset, .unset, .unset] [(.int (128 : Int32))]))
  refine OGo.st (fun t k => XS.istore X1.here hx rfl (hb hby d7b_49) rfl (l' := #[.val (.ref u), .val (.int ((f bp) &&& (255 : Int32))), .val (.int (1 : Int32)), .val (.int (((f bp) &&& (255 : Int32)) &&& (31 : Int32))), .val (.int (128 : Int32)), .unset, .unset]) rfl k) ?_
  show OGo p e below _ (T1.setTop (mkF m 51 #[.val (.ref u), .val (.int ((f bp) &&& (255 : Int32))), .val (.int (1 : Int32)), .val (.int (((f bp) &&& (255 : Int32)) &&& (31 : Int32))), .val (.int (128 : Int32)), .unset, .unset] []))
  refine OGo.st (fun t k => XS.goto X1.here hx rfl (pc0 := 51) (pc' := 119) rfl (hb hby d7b_51) (by decide) (by decide) k) ?_
  show OGo p e below _ (T1.setTop (mkF m 119 #[.val (.ref u), .val (.int ((f bp) &&& (255 : Int32))), .val (.int (1 : Int32)), .val (.int (((f bp) &&& (255 : Int32)) &&& (31 : Int32))), .val (.int (128 : Int32)), .unset, .unset] []))
  refine OGo.st (fun t k => XS.iconst X1.here hx rfl (hb hby d7b_119) k) ?_
  show OGo p e below _ (T1.setTop (mkF m 120 #[.val (.ref u), .val (.int ((f bp) &&& (255 : Int32))), .val (.int (1 : Int32)), .val (.int (((f bp) &&& (255 : Int32)) &&& (31 : Int32))), .val (.int (128 : Int32)), .unset, .unset] [(.int (0 : Int32))]))
  refine OGo.st (fun t k => XS.istore X1.here hx rfl (hb hby d7b_120) rfl (l' := #[.val (.ref u), .val (.int ((f bp) &&& (255 : Int32))), .val (.int (1 : Int32)), .val (.int (((f bp) &&& (255 : Int32)) &&& (31 : Int32))), .val (.int (128 : Int32)), .val (.int (0 : Int32)), .unset]) rfl k) ?_
  show OGo p e below _ (T1.setTop (mkF m 122 #[.val (.ref u), .val (.int ((f bp) &&& (255 : Int32))), .val (.int (1 : Int32)), .val (.int (((f bp) &&& (255 : Int32)) &&& (31 : Int32))), .val (.int (128 : Int32)), .val (.int (0 : Int32)), .unset] []))
  refine OGo.st (fun t k => XS.iload X1.here hx rfl (hb hby d7b_122) rfl k) ?_
  show OGo p e below _ (T1.setTop (mkF m 124 #[.val (.ref u), .val (.int ((f bp) &&& (255 : Int32))), .val (.int (1 : Int32)), .val (.int (((f bp) &&& (255 : Int32)) &&& (31 : Int32))), .val (.int (128 : Int32)), .val (.int (0 : Int32)), .unset] [(.int (0 : Int32))]))
  refine OGo.st (fun t k => XS.iloadN X1.here hx rfl (hb hby d7b_124) rfl k) ?_
  show OGo p e below _ (T1.setTop (mkF m 125 #[.val (.ref u), .val (.int ((f bp) &&& (255 : Int32))), .val (.int (1 : Int32)), .val (.int (((f bp) &&& (255 : Int32)) &&& (31 : Int32))), .val (.int (128 : Int32)), .val (.int (0 : Int32)), .unset] [(.int (1 : Int32)), (.int (0 : Int32))]))
  refine OGo.st (fun t k => XS.icmpNo X1.here hx rfl (hb hby d7b_125) rfl (tlt (by decide : ((0 : Int32) < (1 : Int32)))).2.1 k) ?_
  show OGo p e below _ (T1.setTop (mkF m 128 #[.val (.ref u), .val (.int ((f bp) &&& (255 : Int32))), .val (.int (1 : Int32)), .val (.int (((f bp) &&& (255 : Int32)) &&& (31 : Int32))), .val (.int (128 : Int32)), .val (.int (0 : Int32)), .unset] []))
  refine OGo.st (fun t k => XS.aloadN X1.here hx rfl (hb hby d7b_128) rfl rfl k) ?_
  show OGo p e below _ (T1.setTop (mkF m 129 #[.val (.ref u), .val (.int ((f bp) &&& (255 : Int32))), .val (.int (1 : Int32)), .val (.int (((f bp) &&& (255 : Int32)) &&& (31 : Int32))), .val (.int (128 : Int32)), .val (.int (0 : Int32)), .unset] [(.ref u)]))
  obtain ⟨cq2, q2, q2'⟩ := E1.cell
  obtain ⟨_, _, ⟨T2, L2, k2, n2⟩, -, X2, ⟨Lc2, hQ2, l2, y2, z2⟩, st2⟩ := X1.privateBack hx (y := (⟨"com/example/triadne/triadne/Utf8Input", "peekByte", "()I"⟩ : MethodName)) hown (mvT hZ (hw _ (List.mem_of_getElem? (i := 52) rfl))) (mvT hZ (hw _ (List.mem_of_getElem? (i := 53) rfl))) (osel (y := (⟨"com/example/triadne/triadne/Utf8Input", "peekByte", "()I"⟩ : MethodName)) hZ (hw _ (List.mem_of_getElem? (i := 9) rfl)) (hw _ (List.mem_of_getElem? (i := 54) rfl)) (hw _ (List.mem_of_getElem? (i := 53) rfl)) (by decide)) (Cond.privateMethod_at (mvP hZ (hw _ (List.mem_of_getElem? (i := 54) rfl)) (args := #[]))) (mvT hZ (hw _ (List.mem_of_getElem? (i := 55) rfl))) (by decide) (backOf (W := 0) (rm9 l Z a0 hw [] u b w f g (bp + 1) st en ln co cr T1.heap n0 Z1 ⟨E1, F1_bytes, F1_byteLimit, F1_bytePosition, F1_window, F1_start, F1_end, F1_line, F1_column, F1_afterCarriageReturn, Ob1, Ow1⟩ hub huw hbw gu gw hbp) hZ (hw _ (List.mem_of_getElem? (i := 55) rfl)) (hw _ (List.mem_of_getElem? (i := 10) rfl)) (by decide) (by decide)) (g := (mkF m 129 #[.val (.ref u), .val (.int ((f bp) &&& (255 : Int32))), .val (.int (1 : Int32)), .val (.int (((f bp) &&& (255 : Int32)) &&& (31 : Int32))), .val (.int (128 : Int32)), .val (.int (0 : Int32)), .unset] [(.ref u)])) rfl (by rw [hml]; rfl) (Steps.refl _) (a := u) q2 q2' (argsL := []) (rest := []) (lenOf pd7b_0 rfl) rfl (by show 2 * 0 + _ ≤ _; exact Nat.le_of_eq rfl) (hb hby d7b_129) (fun _ _ => ⟨rfl, rfl, (by decide : 0 + 0 ≤ _), (by decide : 0 + 0 ≤ _)⟩)
  dsimp only [Pt.U, Pt.locs, Pt.cells, Pt.slots] at X2 l2 y2 z2 st2 hQ2
  subst l2 y2 z2
  obtain ⟨rfl, Nq2, e2⟩ := hQ2
  have N2 := Fr.app N1 Nq2
  obtain ⟨lo2, X2, N2⟩ : ∃ L, Stand p l e ({ frames := 2, cells := 0, slots := 0, locals := 25 } : Room) s m #[(.ref u)] below meth c T2 L 0 0 ∧ Fr n0 L := ⟨_, X2, N2⟩
  refine OGo.st (fun t k => st2.trans k) ?_
  show OGo p e below _ (T2.setTop (mkF m 132 #[.val (.ref u), .val (.int ((f bp) &&& (255 : Int32))), .val (.int (1 : Int32)), .val (.int (((f bp) &&& (255 : Int32)) &&& (31 : Int32))), .val (.int (128 : Int32)), .val (.int (0 : Int32)), .unset] [(.int ((f (bp + 1)) &&& (255 : Int32)))]))
  refine OGo.st (fun t k => XS.istore X2.here hx rfl (hb hby d7b_132) rfl (l' := #[.val (.ref u), .val (.int ((f bp) &&& (255 : Int32))), .val (.int (1 : Int32)), .val (.int (((f bp) &&& (255 : Int32)) &&& (31 : Int32))), .val (.int (128 : Int32)), .val (.int (0 : Int32)), .val (.int ((f (bp + 1)) &&& (255 : Int32)))]) rfl k) ?_
  show OGo p e below _ (T2.setTop (mkF m 134 #[.val (.ref u), .val (.int ((f bp) &&& (255 : Int32))), .val (.int (1 : Int32)), .val (.int (((f bp) &&& (255 : Int32)) &&& (31 : Int32))), .val (.int (128 : Int32)), .val (.int (0 : Int32)), .val (.int ((f (bp + 1)) &&& (255 : Int32)))] []))
  refine OGo.st (fun t k => XS.iload X2.here hx rfl (hb hby d7b_134) rfl k) ?_
  show OGo p e below _ (T2.setTop (mkF m 136 #[.val (.ref u), .val (.int ((f bp) &&& (255 : Int32))), .val (.int (1 : Int32)), .val (.int (((f bp) &&& (255 : Int32)) &&& (31 : Int32))), .val (.int (128 : Int32)), .val (.int (0 : Int32)), .val (.int ((f (bp + 1)) &&& (255 : Int32)))] [(.int ((f (bp + 1)) &&& (255 : Int32)))]))
  refine OGo.st (fun t k => XS.sipush X2.here hx rfl (hb hby d7b_136) k) ?_
  show OGo p e below _ (T2.setTop (mkF m 139 #[.val (.ref u), .val (.int ((f bp) &&& (255 : Int32))), .val (.int (1 : Int32)), .val (.int (((f bp) &&& (255 : Int32)) &&& (31 : Int32))), .val (.int (128 : Int32)), .val (.int (0 : Int32)), .val (.int ((f (bp + 1)) &&& (255 : Int32)))] [(.int (192 : Int32)), (.int ((f (bp + 1)) &&& (255 : Int32)))]))
  refine OGo.st (fun t k => XS.iand X2.here hx rfl (hb hby d7b_139) rfl k) ?_
  show OGo p e below _ (T2.setTop (mkF m 140 #[.val (.ref u), .val (.int ((f bp) &&& (255 : Int32))), .val (.int (1 : Int32)), .val (.int (((f bp) &&& (255 : Int32)) &&& (31 : Int32))), .val (.int (128 : Int32)), .val (.int (0 : Int32)), .val (.int ((f (bp + 1)) &&& (255 : Int32)))] [(.int (((f (bp + 1)) &&& (255 : Int32)) &&& (192 : Int32)))]))
  refine OGo.st (fun t k => XS.sipush X2.here hx rfl (hb hby d7b_140) k) ?_
  show OGo p e below _ (T2.setTop (mkF m 143 #[.val (.ref u), .val (.int ((f bp) &&& (255 : Int32))), .val (.int (1 : Int32)), .val (.int (((f bp) &&& (255 : Int32)) &&& (31 : Int32))), .val (.int (128 : Int32)), .val (.int (0 : Int32)), .val (.int ((f (bp + 1)) &&& (255 : Int32)))] [(.int (128 : Int32)), (.int (((f (bp + 1)) &&& (255 : Int32)) &&& (192 : Int32)))]))
  refine OGo.st (fun t k => XS.icmpYes X2.here hx rfl (pc0 := 143) (pc' := 154) rfl (hb hby d7b_143) rfl (teq hy1).1 (by decide) (by decide) k) ?_
  show OGo p e below _ (T2.setTop (mkF m 154 #[.val (.ref u), .val (.int ((f bp) &&& (255 : Int32))), .val (.int (1 : Int32)), .val (.int (((f bp) &&& (255 : Int32)) &&& (31 : Int32))), .val (.int (128 : Int32)), .val (.int (0 : Int32)), .val (.int ((f (bp + 1)) &&& (255 : Int32)))] []))
  refine OGo.st (fun t k => XS.aloadN X2.here hx rfl (hb hby d7b_154) rfl rfl k) ?_
  show OGo p e below _ (T2.setTop (mkF m 155 #[.val (.ref u), .val (.int ((f bp) &&& (255 : Int32))), .val (.int (1 : Int32)), .val (.int (((f bp) &&& (255 : Int32)) &&& (31 : Int32))), .val (.int (128 : Int32)), .val (.int (0 : Int32)), .val (.int ((f (bp + 1)) &&& (255 : Int32)))] [(.ref u)]))
  refine OGo.st (fun t k => XS.dup X2.here hx rfl (hb hby d7b_155) rfl rfl k) ?_
  show OGo p e below _ (T2.setTop (mkF m 156 #[.val (.ref u), .val (.int ((f bp) &&& (255 : Int32))), .val (.int (1 : Int32)), .val (.int (((f bp) &&& (255 : Int32)) &&& (31 : Int32))), .val (.int (128 : Int32)), .val (.int (0 : Int32)), .val (.int ((f (bp + 1)) &&& (255 : Int32)))] [(.ref u), (.ref u)]))
  obtain ⟨T3, X3, e3, st3⟩ := getF X2 hx hZ hown (host := "") (Or.inl (hw _ (List.mem_of_getElem? (i := 56) rfl))) Via.refl e2 F1_bytePosition (g := (mkF m 156 #[.val (.ref u), .val (.int ((f bp) &&& (255 : Int32))), .val (.int (1 : Int32)), .val (.int (((f bp) &&& (255 : Int32)) &&& (31 : Int32))), .val (.int (128 : Int32)), .val (.int (0 : Int32)), .val (.int ((f (bp + 1)) &&& (255 : Int32)))] [(.ref u), (.ref u)])) rfl rfl (hb hby d7b_156)
  refine OGo.st (fun t k => st3 t k) ?_
  show OGo p e below _ (T3.setTop (mkF m 159 #[.val (.ref u), .val (.int ((f bp) &&& (255 : Int32))), .val (.int (1 : Int32)), .val (.int (((f bp) &&& (255 : Int32)) &&& (31 : Int32))), .val (.int (128 : Int32)), .val (.int (0 : Int32)), .val (.int ((f (bp + 1)) &&& (255 : Int32)))] [(.int (Int32.ofNat (bp + 1))), (.ref u)]))
  refine OGo.st (fun t k => XS.iconst X3.here hx rfl (hb hby d7b_159) k) ?_
  show OGo p e below _ (T3.setTop (mkF m 160 #[.val (.ref u), .val (.int ((f bp) &&& (255 : Int32))), .val (.int (1 : Int32)), .val (.int (((f bp) &&& (255 : Int32)) &&& (31 : Int32))), .val (.int (128 : Int32)), .val (.int (0 : Int32)), .val (.int ((f (bp + 1)) &&& (255 : Int32)))] [(.int (1 : Int32)), (.int (Int32.ofNat (bp + 1))), (.ref u)]))
  refine OGo.st (fun t k => XS.iadd X3.here hx rfl (hb hby d7b_160) rfl k) ?_
  show OGo p e below _ (T3.setTop (mkF m 161 #[.val (.ref u), .val (.int ((f bp) &&& (255 : Int32))), .val (.int (1 : Int32)), .val (.int (((f bp) &&& (255 : Int32)) &&& (31 : Int32))), .val (.int (128 : Int32)), .val (.int (0 : Int32)), .val (.int ((f (bp + 1)) &&& (255 : Int32)))] [(.int ((Int32.ofNat (bp + 1)) + (1 : Int32))), (.ref u)]))
  rw [own_inc (bp + 1)]
  show OGo p e below _ (T3.setTop (mkF m 161 #[.val (.ref u), .val (.int ((f bp) &&& (255 : Int32))), .val (.int (1 : Int32)), .val (.int (((f bp) &&& (255 : Int32)) &&& (31 : Int32))), .val (.int (128 : Int32)), .val (.int (0 : Int32)), .val (.int ((f (bp + 1)) &&& (255 : Int32)))] [(.int (Int32.ofNat (bp + 1 + 1))), (.ref u)]))
  obtain ⟨T4, h4, X4, e4, W4, st4⟩ := putF X3 hx hZ hown (host := "") (Or.inl (hw _ (List.mem_of_getElem? (i := 56) rfl))) Via.refl e3 F1_bytePosition E1 (Or.inl (hw _ (List.mem_of_getElem? (i := 57) rfl))) (hw _ (List.mem_of_getElem? (i := 9) rfl)) (ty := .int) (by decide) rfl rfl (g := (mkF m 161 #[.val (.ref u), .val (.int ((f bp) &&& (255 : Int32))), .val (.int (1 : Int32)), .val (.int (((f bp) &&& (255 : Int32)) &&& (31 : Int32))), .val (.int (128 : Int32)), .val (.int (0 : Int32)), .val (.int ((f (bp + 1)) &&& (255 : Int32)))] [(.int (Int32.ofNat (bp + 1 + 1))), (.ref u)])) rfl rfl (hb hby d7b_161)
  have Fw4 := F1_bytePosition.same W4
  have N4 := Fr.snoc X4 N2 gu
  have Z4 : n0 ≤ h4.size := Nat.le_trans Z1 (Keep.of_wr W4).1
  obtain ⟨lo4, X4, N4⟩ : ∃ L, Stand p l e ({ frames := 2, cells := 0, slots := 0, locals := 25 } : Room) s m #[(.ref u)] below meth c T4 L 0 0 ∧ Fr n0 L := ⟨_, X4, N4⟩
  refine OGo.st (fun t k => st4 t k) ?_
  show OGo p e below _ (T4.setTop (mkF m 164 #[.val (.ref u), .val (.int ((f bp) &&& (255 : Int32))), .val (.int (1 : Int32)), .val (.int (((f bp) &&& (255 : Int32)) &&& (31 : Int32))), .val (.int (128 : Int32)), .val (.int (0 : Int32)), .val (.int ((f (bp + 1)) &&& (255 : Int32)))] []))
  refine OGo.st (fun t k => XS.iloadN X4.here hx rfl (hb hby d7b_164) rfl k) ?_
  show OGo p e below _ (T4.setTop (mkF m 165 #[.val (.ref u), .val (.int ((f bp) &&& (255 : Int32))), .val (.int (1 : Int32)), .val (.int (((f bp) &&& (255 : Int32)) &&& (31 : Int32))), .val (.int (128 : Int32)), .val (.int (0 : Int32)), .val (.int ((f (bp + 1)) &&& (255 : Int32)))] [(.int (((f bp) &&& (255 : Int32)) &&& (31 : Int32)))]))
  refine OGo.st (fun t k => XS.bipush X4.here hx rfl (hb hby d7b_165) k) ?_
  show OGo p e below _ (T4.setTop (mkF m 167 #[.val (.ref u), .val (.int ((f bp) &&& (255 : Int32))), .val (.int (1 : Int32)), .val (.int (((f bp) &&& (255 : Int32)) &&& (31 : Int32))), .val (.int (128 : Int32)), .val (.int (0 : Int32)), .val (.int ((f (bp + 1)) &&& (255 : Int32)))] [(.int (6 : Int32)), (.int (((f bp) &&& (255 : Int32)) &&& (31 : Int32)))]))
  refine OGo.st (fun t k => XS.ishl X4.here hx rfl (hb hby d7b_167) rfl k) ?_
  show OGo p e below _ (T4.setTop (mkF m 168 #[.val (.ref u), .val (.int ((f bp) &&& (255 : Int32))), .val (.int (1 : Int32)), .val (.int (((f bp) &&& (255 : Int32)) &&& (31 : Int32))), .val (.int (128 : Int32)), .val (.int (0 : Int32)), .val (.int ((f (bp + 1)) &&& (255 : Int32)))] [(.int ((((f bp) &&& (255 : Int32)) &&& (31 : Int32)) <<< ((6 : Int32) &&& 31)))]))
  refine OGo.st (fun t k => XS.iload X4.here hx rfl (hb hby d7b_168) rfl k) ?_
  show OGo p e below _ (T4.setTop (mkF m 170 #[.val (.ref u), .val (.int ((f bp) &&& (255 : Int32))), .val (.int (1 : Int32)), .val (.int (((f bp) &&& (255 : Int32)) &&& (31 : Int32))), .val (.int (128 : Int32)), .val (.int (0 : Int32)), .val (.int ((f (bp + 1)) &&& (255 : Int32)))] [(.int ((f (bp + 1)) &&& (255 : Int32))), (.int ((((f bp) &&& (255 : Int32)) &&& (31 : Int32)) <<< ((6 : Int32) &&& 31)))]))
  refine OGo.st (fun t k => XS.bipush X4.here hx rfl (hb hby d7b_170) k) ?_
  show OGo p e below _ (T4.setTop (mkF m 172 #[.val (.ref u), .val (.int ((f bp) &&& (255 : Int32))), .val (.int (1 : Int32)), .val (.int (((f bp) &&& (255 : Int32)) &&& (31 : Int32))), .val (.int (128 : Int32)), .val (.int (0 : Int32)), .val (.int ((f (bp + 1)) &&& (255 : Int32)))] [(.int (63 : Int32)), (.int ((f (bp + 1)) &&& (255 : Int32))), (.int ((((f bp) &&& (255 : Int32)) &&& (31 : Int32)) <<< ((6 : Int32) &&& 31)))]))
  refine OGo.st (fun t k => XS.iand X4.here hx rfl (hb hby d7b_172) rfl k) ?_
  show OGo p e below _ (T4.setTop (mkF m 173 #[.val (.ref u), .val (.int ((f bp) &&& (255 : Int32))), .val (.int (1 : Int32)), .val (.int (((f bp) &&& (255 : Int32)) &&& (31 : Int32))), .val (.int (128 : Int32)), .val (.int (0 : Int32)), .val (.int ((f (bp + 1)) &&& (255 : Int32)))] [(.int (((f (bp + 1)) &&& (255 : Int32)) &&& (63 : Int32))), (.int ((((f bp) &&& (255 : Int32)) &&& (31 : Int32)) <<< ((6 : Int32) &&& 31)))]))
  refine OGo.st (fun t k => XS.ior X4.here hx rfl (hb hby d7b_173) rfl k) ?_
  show OGo p e below _ (T4.setTop (mkF m 174 #[.val (.ref u), .val (.int ((f bp) &&& (255 : Int32))), .val (.int (1 : Int32)), .val (.int (((f bp) &&& (255 : Int32)) &&& (31 : Int32))), .val (.int (128 : Int32)), .val (.int (0 : Int32)), .val (.int ((f (bp + 1)) &&& (255 : Int32)))] [(.int (((((f bp) &&& (255 : Int32)) &&& (31 : Int32)) <<< ((6 : Int32) &&& 31)) ||| (((f (bp + 1)) &&& (255 : Int32)) &&& (63 : Int32))))]))
  refine OGo.st (fun t k => XS.istoreN X4.here hx rfl (hb hby d7b_174) rfl (l' := #[.val (.ref u), .val (.int ((f bp) &&& (255 : Int32))), .val (.int (1 : Int32)), .val (.int (((((f bp) &&& (255 : Int32)) &&& (31 : Int32)) <<< ((6 : Int32) &&& 31)) ||| (((f (bp + 1)) &&& (255 : Int32)) &&& (63 : Int32)))), .val (.int (128 : Int32)), .val (.int (0 : Int32)), .val (.int ((f (bp + 1)) &&& (255 : Int32)))]) rfl k) ?_
  show OGo p e below _ (T4.setTop (mkF m 175 #[.val (.ref u), .val (.int ((f bp) &&& (255 : Int32))), .val (.int (1 : Int32)), .val (.int (((((f bp) &&& (255 : Int32)) &&& (31 : Int32)) <<< ((6 : Int32) &&& 31)) ||| (((f (bp + 1)) &&& (255 : Int32)) &&& (63 : Int32)))), .val (.int (128 : Int32)), .val (.int (0 : Int32)), .val (.int ((f (bp + 1)) &&& (255 : Int32)))] []))
  refine OGo.st (fun t k => XS.iinc X4.here hx rfl (hb hby d7b_175) rfl (l' := #[.val (.ref u), .val (.int ((f bp) &&& (255 : Int32))), .val (.int (1 : Int32)), .val (.int (((((f bp) &&& (255 : Int32)) &&& (31 : Int32)) <<< ((6 : Int32) &&& 31)) ||| (((f (bp + 1)) &&& (255 : Int32)) &&& (63 : Int32)))), .val (.int (128 : Int32)), .val (.int (1 : Int32)), .val (.int ((f (bp + 1)) &&& (255 : Int32)))]) rfl k) ?_
  show OGo p e below _ (T4.setTop (mkF m 178 #[.val (.ref u), .val (.int ((f bp) &&& (255 : Int32))), .val (.int (1 : Int32)), .val (.int (((((f bp) &&& (255 : Int32)) &&& (31 : Int32)) <<< ((6 : Int32) &&& 31)) ||| (((f (bp + 1)) &&& (255 : Int32)) &&& (63 : Int32)))), .val (.int (128 : Int32)), .val (.int (1 : Int32)), .val (.int ((f (bp + 1)) &&& (255 : Int32)))] []))
  refine OGo.st (fun t k => XS.goto X4.here hx rfl (pc0 := 178) (pc' := 122) rfl (hb hby d7b_178) (by decide) (by decide) k) ?_
  show OGo p e below _ (T4.setTop (mkF m 122 #[.val (.ref u), .val (.int ((f bp) &&& (255 : Int32))), .val (.int (1 : Int32)), .val (.int (((((f bp) &&& (255 : Int32)) &&& (31 : Int32)) <<< ((6 : Int32) &&& 31)) ||| (((f (bp + 1)) &&& (255 : Int32)) &&& (63 : Int32)))), .val (.int (128 : Int32)), .val (.int (1 : Int32)), .val (.int ((f (bp + 1)) &&& (255 : Int32)))] []))
  refine OGo.st (fun t k => XS.iload X4.here hx rfl (hb hby d7b_122) rfl k) ?_
  show OGo p e below _ (T4.setTop (mkF m 124 #[.val (.ref u), .val (.int ((f bp) &&& (255 : Int32))), .val (.int (1 : Int32)), .val (.int (((((f bp) &&& (255 : Int32)) &&& (31 : Int32)) <<< ((6 : Int32) &&& 31)) ||| (((f (bp + 1)) &&& (255 : Int32)) &&& (63 : Int32)))), .val (.int (128 : Int32)), .val (.int (1 : Int32)), .val (.int ((f (bp + 1)) &&& (255 : Int32)))] [(.int (1 : Int32))]))
  refine OGo.st (fun t k => XS.iloadN X4.here hx rfl (hb hby d7b_124) rfl k) ?_
  show OGo p e below _ (T4.setTop (mkF m 125 #[.val (.ref u), .val (.int ((f bp) &&& (255 : Int32))), .val (.int (1 : Int32)), .val (.int (((((f bp) &&& (255 : Int32)) &&& (31 : Int32)) <<< ((6 : Int32) &&& 31)) ||| (((f (bp + 1)) &&& (255 : Int32)) &&& (63 : Int32)))), .val (.int (128 : Int32)), .val (.int (1 : Int32)), .val (.int ((f (bp + 1)) &&& (255 : Int32)))] [(.int (1 : Int32)), (.int (1 : Int32))]))
  refine OGo.st (fun t k => XS.icmpYes X4.here hx rfl (pc0 := 125) (pc' := 181) rfl (hb hby d7b_125) rfl (flt (by decide : ¬ ((1 : Int32) < (1 : Int32)))).2.1 (by decide) (by decide) k) ?_
  show OGo p e below _ (T4.setTop (mkF m 181 #[.val (.ref u), .val (.int ((f bp) &&& (255 : Int32))), .val (.int (1 : Int32)), .val (.int (((((f bp) &&& (255 : Int32)) &&& (31 : Int32)) <<< ((6 : Int32) &&& 31)) ||| (((f (bp + 1)) &&& (255 : Int32)) &&& (63 : Int32)))), .val (.int (128 : Int32)), .val (.int (1 : Int32)), .val (.int ((f (bp + 1)) &&& (255 : Int32)))] []))
  refine OGo.st (fun t k => XS.iloadN X4.here hx rfl (hb hby d7b_181) rfl k) ?_
  show OGo p e below _ (T4.setTop (mkF m 182 #[.val (.ref u), .val (.int ((f bp) &&& (255 : Int32))), .val (.int (1 : Int32)), .val (.int (((((f bp) &&& (255 : Int32)) &&& (31 : Int32)) <<< ((6 : Int32) &&& 31)) ||| (((f (bp + 1)) &&& (255 : Int32)) &&& (63 : Int32)))), .val (.int (128 : Int32)), .val (.int (1 : Int32)), .val (.int ((f (bp + 1)) &&& (255 : Int32)))] [(.int (((((f bp) &&& (255 : Int32)) &&& (31 : Int32)) <<< ((6 : Int32) &&& 31)) ||| (((f (bp + 1)) &&& (255 : Int32)) &&& (63 : Int32))))]))
  refine OGo.st (fun t k => XS.iload X4.here hx rfl (hb hby d7b_182) rfl k) ?_
  show OGo p e below _ (T4.setTop (mkF m 184 #[.val (.ref u), .val (.int ((f bp) &&& (255 : Int32))), .val (.int (1 : Int32)), .val (.int (((((f bp) &&& (255 : Int32)) &&& (31 : Int32)) <<< ((6 : Int32) &&& 31)) ||| (((f (bp + 1)) &&& (255 : Int32)) &&& (63 : Int32)))), .val (.int (128 : Int32)), .val (.int (1 : Int32)), .val (.int ((f (bp + 1)) &&& (255 : Int32)))] [(.int (128 : Int32)), (.int (((((f bp) &&& (255 : Int32)) &&& (31 : Int32)) <<< ((6 : Int32) &&& 31)) ||| (((f (bp + 1)) &&& (255 : Int32)) &&& (63 : Int32))))]))
  refine OGo.st (fun t k => XS.icmpNo X4.here hx rfl (hb hby d7b_184) rfl (flt hz1).1 k) ?_
  show OGo p e below _ (T4.setTop (mkF m 187 #[.val (.ref u), .val (.int ((f bp) &&& (255 : Int32))), .val (.int (1 : Int32)), .val (.int (((((f bp) &&& (255 : Int32)) &&& (31 : Int32)) <<< ((6 : Int32) &&& 31)) ||| (((f (bp + 1)) &&& (255 : Int32)) &&& (63 : Int32)))), .val (.int (128 : Int32)), .val (.int (1 : Int32)), .val (.int ((f (bp + 1)) &&& (255 : Int32)))] []))
  refine OGo.st (fun t k => XS.iloadN X4.here hx rfl (hb hby d7b_187) rfl k) ?_
  show OGo p e below _ (T4.setTop (mkF m 188 #[.val (.ref u), .val (.int ((f bp) &&& (255 : Int32))), .val (.int (1 : Int32)), .val (.int (((((f bp) &&& (255 : Int32)) &&& (31 : Int32)) <<< ((6 : Int32) &&& 31)) ||| (((f (bp + 1)) &&& (255 : Int32)) &&& (63 : Int32)))), .val (.int (128 : Int32)), .val (.int (1 : Int32)), .val (.int ((f (bp + 1)) &&& (255 : Int32)))] [(.int (((((f bp) &&& (255 : Int32)) &&& (31 : Int32)) <<< ((6 : Int32) &&& 31)) ||| (((f (bp + 1)) &&& (255 : Int32)) &&& (63 : Int32))))]))
  refine OGo.st (fun t k => X4.ldcInt hx hown (mvT hZ (hw _ (List.mem_of_getElem? (i := 69) rfl))) (g := (mkF m 188 #[.val (.ref u), .val (.int ((f bp) &&& (255 : Int32))), .val (.int (1 : Int32)), .val (.int (((((f bp) &&& (255 : Int32)) &&& (31 : Int32)) <<< ((6 : Int32) &&& 31)) ||| (((f (bp + 1)) &&& (255 : Int32)) &&& (63 : Int32)))), .val (.int (128 : Int32)), .val (.int (1 : Int32)), .val (.int ((f (bp + 1)) &&& (255 : Int32)))] [(.int (((((f bp) &&& (255 : Int32)) &&& (31 : Int32)) <<< ((6 : Int32) &&& 31)) ||| (((f (bp + 1)) &&& (255 : Int32)) &&& (63 : Int32))))])) rfl (hb hby d7b_188) t k) ?_
  show OGo p e below _ (T4.setTop (mkF m 190 #[.val (.ref u), .val (.int ((f bp) &&& (255 : Int32))), .val (.int (1 : Int32)), .val (.int (((((f bp) &&& (255 : Int32)) &&& (31 : Int32)) <<< ((6 : Int32) &&& 31)) ||| (((f (bp + 1)) &&& (255 : Int32)) &&& (63 : Int32)))), .val (.int (128 : Int32)), .val (.int (1 : Int32)), .val (.int ((f (bp + 1)) &&& (255 : Int32)))] [(.int (1114111 : Int32)), (.int (((((f bp) &&& (255 : Int32)) &&& (31 : Int32)) <<< ((6 : Int32) &&& 31)) ||| (((f (bp + 1)) &&& (255 : Int32)) &&& (63 : Int32))))]))
  refine OGo.st (fun t k => XS.icmpNo X4.here hx rfl (hb hby d7b_190) rfl (flt hz2).2.2.1 k) ?_
  show OGo p e below _ (T4.setTop (mkF m 193 #[.val (.ref u), .val (.int ((f bp) &&& (255 : Int32))), .val (.int (1 : Int32)), .val (.int (((((f bp) &&& (255 : Int32)) &&& (31 : Int32)) <<< ((6 : Int32) &&& 31)) ||| (((f (bp + 1)) &&& (255 : Int32)) &&& (63 : Int32)))), .val (.int (128 : Int32)), .val (.int (1 : Int32)), .val (.int ((f (bp + 1)) &&& (255 : Int32)))] []))
  refine OGo.st (fun t k => XS.iloadN X4.here hx rfl (hb hby d7b_193) rfl k) ?_
  show OGo p e below _ (T4.setTop (mkF m 194 #[.val (.ref u), .val (.int ((f bp) &&& (255 : Int32))), .val (.int (1 : Int32)), .val (.int (((((f bp) &&& (255 : Int32)) &&& (31 : Int32)) <<< ((6 : Int32) &&& 31)) ||| (((f (bp + 1)) &&& (255 : Int32)) &&& (63 : Int32)))), .val (.int (128 : Int32)), .val (.int (1 : Int32)), .val (.int ((f (bp + 1)) &&& (255 : Int32)))] [(.int (((((f bp) &&& (255 : Int32)) &&& (31 : Int32)) <<< ((6 : Int32) &&& 31)) ||| (((f (bp + 1)) &&& (255 : Int32)) &&& (63 : Int32))))]))
  refine OGo.st (fun t k => X4.ldcInt hx hown (mvT hZ (hw _ (List.mem_of_getElem? (i := 70) rfl))) (g := (mkF m 194 #[.val (.ref u), .val (.int ((f bp) &&& (255 : Int32))), .val (.int (1 : Int32)), .val (.int (((((f bp) &&& (255 : Int32)) &&& (31 : Int32)) <<< ((6 : Int32) &&& 31)) ||| (((f (bp + 1)) &&& (255 : Int32)) &&& (63 : Int32)))), .val (.int (128 : Int32)), .val (.int (1 : Int32)), .val (.int ((f (bp + 1)) &&& (255 : Int32)))] [(.int (((((f bp) &&& (255 : Int32)) &&& (31 : Int32)) <<< ((6 : Int32) &&& 31)) ||| (((f (bp + 1)) &&& (255 : Int32)) &&& (63 : Int32))))])) rfl (hb hby d7b_194) t k) ?_
  show OGo p e below _ (T4.setTop (mkF m 196 #[.val (.ref u), .val (.int ((f bp) &&& (255 : Int32))), .val (.int (1 : Int32)), .val (.int (((((f bp) &&& (255 : Int32)) &&& (31 : Int32)) <<< ((6 : Int32) &&& 31)) ||| (((f (bp + 1)) &&& (255 : Int32)) &&& (63 : Int32)))), .val (.int (128 : Int32)), .val (.int (1 : Int32)), .val (.int ((f (bp + 1)) &&& (255 : Int32)))] [(.int (55296 : Int32)), (.int (((((f bp) &&& (255 : Int32)) &&& (31 : Int32)) <<< ((6 : Int32) &&& 31)) ||| (((f (bp + 1)) &&& (255 : Int32)) &&& (63 : Int32))))]))
  refine OGo.st (fun t k => XS.icmpYes X4.here hx rfl (pc0 := 196) (pc' := 205) rfl (hb hby d7b_196) rfl (tlt hz3).1 (by decide) (by decide) k) ?_
  show OGo p e below _ (T4.setTop (mkF m 205 #[.val (.ref u), .val (.int ((f bp) &&& (255 : Int32))), .val (.int (1 : Int32)), .val (.int (((((f bp) &&& (255 : Int32)) &&& (31 : Int32)) <<< ((6 : Int32) &&& 31)) ||| (((f (bp + 1)) &&& (255 : Int32)) &&& (63 : Int32)))), .val (.int (128 : Int32)), .val (.int (1 : Int32)), .val (.int ((f (bp + 1)) &&& (255 : Int32)))] []))
  refine OGo.st (fun t k => XS.iconst X4.here hx rfl (hb hby d7b_205) k) ?_
  show OGo p e below _ (T4.setTop (mkF m 206 #[.val (.ref u), .val (.int ((f bp) &&& (255 : Int32))), .val (.int (1 : Int32)), .val (.int (((((f bp) &&& (255 : Int32)) &&& (31 : Int32)) <<< ((6 : Int32) &&& 31)) ||| (((f (bp + 1)) &&& (255 : Int32)) &&& (63 : Int32)))), .val (.int (128 : Int32)), .val (.int (1 : Int32)), .val (.int ((f (bp + 1)) &&& (255 : Int32)))] [(.int (1 : Int32))]))
  refine OGo.st (fun t k => XS.goto X4.here hx rfl (pc0 := 206) (pc' := 210) rfl (hb hby d7b_206) (by decide) (by decide) k) ?_
  show OGo p e below _ (T4.setTop (mkF m 210 #[.val (.ref u), .val (.int ((f bp) &&& (255 : Int32))), .val (.int (1 : Int32)), .val (.int (((((f bp) &&& (255 : Int32)) &&& (31 : Int32)) <<< ((6 : Int32) &&& 31)) ||| (((f (bp + 1)) &&& (255 : Int32)) &&& (63 : Int32)))), .val (.int (128 : Int32)), .val (.int (1 : Int32)), .val (.int ((f (bp + 1)) &&& (255 : Int32)))] [(.int (1 : Int32))]))
  refine OGo.st (fun t k => XS.istore X4.here hx rfl (hb hby d7b_210) rfl (l' := #[.val (.ref u), .val (.int ((f bp) &&& (255 : Int32))), .val (.int (1 : Int32)), .val (.int (((((f bp) &&& (255 : Int32)) &&& (31 : Int32)) <<< ((6 : Int32) &&& 31)) ||| (((f (bp + 1)) &&& (255 : Int32)) &&& (63 : Int32)))), .val (.int (128 : Int32)), .val (.int (1 : Int32)), .val (.int ((f (bp + 1)) &&& (255 : Int32)))]) rfl k) ?_
  show OGo p e below _ (T4.setTop (mkF m 212 #[.val (.ref u), .val (.int ((f bp) &&& (255 : Int32))), .val (.int (1 : Int32)), .val (.int (((((f bp) &&& (255 : Int32)) &&& (31 : Int32)) <<< ((6 : Int32) &&& 31)) ||| (((f (bp + 1)) &&& (255 : Int32)) &&& (63 : Int32)))), .val (.int (128 : Int32)), .val (.int (1 : Int32)), .val (.int ((f (bp + 1)) &&& (255 : Int32)))] []))
  refine OGo.st (fun t k => XS.aloadN X4.here hx rfl (hb hby d7b_212) rfl rfl k) ?_
  show OGo p e below _ (T4.setTop (mkF m 213 #[.val (.ref u), .val (.int ((f bp) &&& (255 : Int32))), .val (.int (1 : Int32)), .val (.int (((((f bp) &&& (255 : Int32)) &&& (31 : Int32)) <<< ((6 : Int32) &&& 31)) ||| (((f (bp + 1)) &&& (255 : Int32)) &&& (63 : Int32)))), .val (.int (128 : Int32)), .val (.int (1 : Int32)), .val (.int ((f (bp + 1)) &&& (255 : Int32)))] [(.ref u)]))
  refine OGo.st (fun t k => XS.iload X4.here hx rfl (hb hby d7b_213) rfl k) ?_
  show OGo p e below _ (T4.setTop (mkF m 215 #[.val (.ref u), .val (.int ((f bp) &&& (255 : Int32))), .val (.int (1 : Int32)), .val (.int (((((f bp) &&& (255 : Int32)) &&& (31 : Int32)) <<< ((6 : Int32) &&& 31)) ||| (((f (bp + 1)) &&& (255 : Int32)) &&& (63 : Int32)))), .val (.int (128 : Int32)), .val (.int (1 : Int32)), .val (.int ((f (bp + 1)) &&& (255 : Int32)))] [(.int (1 : Int32)), (.ref u)]))
  refine OGo.st (fun t k => XS.ifNo X4.here hx rfl (hb hby d7b_215) rfl ((if0 _ _).trans (feq (by decide : ¬ ((1 : Int32) = (0 : Int32)))).1) k) ?_
  show OGo p e below _ (T4.setTop (mkF m 218 #[.val (.ref u), .val (.int ((f bp) &&& (255 : Int32))), .val (.int (1 : Int32)), .val (.int (((((f bp) &&& (255 : Int32)) &&& (31 : Int32)) <<< ((6 : Int32) &&& 31)) ||| (((f (bp + 1)) &&& (255 : Int32)) &&& (63 : Int32)))), .val (.int (128 : Int32)), .val (.int (1 : Int32)), .val (.int ((f (bp + 1)) &&& (255 : Int32)))] [(.ref u)]))
  refine OGo.st (fun t k => XS.iloadN X4.here hx rfl (hb hby d7b_218) rfl k) ?_
  show OGo p e below _ (T4.setTop (mkF m 219 #[.val (.ref u), .val (.int ((f bp) &&& (255 : Int32))), .val (.int (1 : Int32)), .val (.int (((((f bp) &&& (255 : Int32)) &&& (31 : Int32)) <<< ((6 : Int32) &&& 31)) ||| (((f (bp + 1)) &&& (255 : Int32)) &&& (63 : Int32)))), .val (.int (128 : Int32)), .val (.int (1 : Int32)), .val (.int ((f (bp + 1)) &&& (255 : Int32)))] [(.int (((((f bp) &&& (255 : Int32)) &&& (31 : Int32)) <<< ((6 : Int32) &&& 31)) ||| (((f (bp + 1)) &&& (255 : Int32)) &&& (63 : Int32)))), (.ref u)]))
  refine OGo.st (fun t k => XS.goto X4.here hx rfl (pc0 := 219) (pc' := 224) rfl (hb hby d7b_219) (by decide) (by decide) k) ?_
  show OGo p e below _ (T4.setTop (mkF m 224 #[.val (.ref u), .val (.int ((f bp) &&& (255 : Int32))), .val (.int (1 : Int32)), .val (.int (((((f bp) &&& (255 : Int32)) &&& (31 : Int32)) <<< ((6 : Int32) &&& 31)) ||| (((f (bp + 1)) &&& (255 : Int32)) &&& (63 : Int32)))), .val (.int (128 : Int32)), .val (.int (1 : Int32)), .val (.int ((f (bp + 1)) &&& (255 : Int32)))] [(.int (((((f bp) &&& (255 : Int32)) &&& (31 : Int32)) <<< ((6 : Int32) &&& 31)) ||| (((f (bp + 1)) &&& (255 : Int32)) &&& (63 : Int32)))), (.ref u)]))
  have c6 := (E1.wr W4)
  have c7 := (F1_bytes.other W4 (Or.inr (slot_ne (Or.inr (hw _ (List.mem_of_getElem? (i := 32) rfl))) (Or.inl (hw _ (List.mem_of_getElem? (i := 57) rfl))) (by decide) (t := (.array .byte)) (t' := .int) (by decide) (by decide))))
  have c8 := (F1_byteLimit.other W4 (Or.inr (slot_ne (Or.inl (hw _ (List.mem_of_getElem? (i := 34) rfl))) (Or.inl (hw _ (List.mem_of_getElem? (i := 57) rfl))) (by decide) (t := .int) (t' := .int) (by decide) (by decide))))
  have c9 := (F1_window.other W4 (Or.inr (slot_ne (Or.inl (hw _ (List.mem_of_getElem? (i := 24) rfl))) (Or.inl (hw _ (List.mem_of_getElem? (i := 57) rfl))) (by decide) (t := (.array .int)) (t' := .int) (by decide) (by decide))))
  have c10 := (F1_start.other W4 (Or.inr (slot_ne (Or.inl (hw _ (List.mem_of_getElem? (i := 43) rfl))) (Or.inl (hw _ (List.mem_of_getElem? (i := 57) rfl))) (by decide) (t := .int) (t' := .int) (by decide) (by decide))))
  have c11 := (F1_end.other W4 (Or.inr (slot_ne (Or.inl (hw _ (List.mem_of_getElem? (i := 41) rfl))) (Or.inl (hw _ (List.mem_of_getElem? (i := 57) rfl))) (by decide) (t := .int) (t' := .int) (by decide) (by decide))))
  have c12 := (F1_line.other W4 (Or.inr (slot_ne (Or.inl (hw _ (List.mem_of_getElem? (i := 26) rfl))) (Or.inl (hw _ (List.mem_of_getElem? (i := 57) rfl))) (by decide) (t := .int) (t' := .int) (by decide) (by decide))))
  have c13 := (F1_column.other W4 (Or.inr (slot_ne (Or.inl (hw _ (List.mem_of_getElem? (i := 28) rfl))) (Or.inl (hw _ (List.mem_of_getElem? (i := 57) rfl))) (by decide) (t := .int) (t' := .int) (by decide) (by decide))))
  have c14 := (F1_afterCarriageReturn.other W4 (Or.inr (slot_ne (Or.inl (hw _ (List.mem_of_getElem? (i := 68) rfl))) (Or.inl (hw _ (List.mem_of_getElem? (i := 57) rfl))) (by decide) (t := .boolean) (t' := .int) (by decide) (by decide))))
  have c15 := (Ob1.other W4 (Ne.symm hub))
  have c16 := (Ow1.other W4 (Ne.symm huw))
  obtain ⟨cq5, q5, q5'⟩ := c6.cell
  obtain ⟨_, _, ⟨T5, L5, k5, n5⟩, -, X5, ⟨Lc5, hQ5, l5, y5, z5⟩, st5⟩ := X4.privateBack hx (y := (⟨"com/example/triadne/triadne/Utf8Input", "append", "(I)V"⟩ : MethodName)) hown (mvT hZ (hw _ (List.mem_of_getElem? (i := 58) rfl))) (mvT hZ (hw _ (List.mem_of_getElem? (i := 59) rfl))) (osel (y := (⟨"com/example/triadne/triadne/Utf8Input", "append", "(I)V"⟩ : MethodName)) hZ (hw _ (List.mem_of_getElem? (i := 9) rfl)) (hw _ (List.mem_of_getElem? (i := 60) rfl)) (hw _ (List.mem_of_getElem? (i := 59) rfl)) (by decide)) (Cond.privateMethod_at (mvP hZ (hw _ (List.mem_of_getElem? (i := 60) rfl)) (args := #[]))) (mvT hZ (hw _ (List.mem_of_getElem? (i := 61) rfl))) (by decide) (backOf (W := 0) (rm10 l Z a0 hw [] u (((((f bp) &&& (255 : Int32)) &&& (31 : Int32)) <<< ((6 : Int32) &&& 31)) ||| (((f (bp + 1)) &&& (255 : Int32)) &&& (63 : Int32))) b w f g (bp + 1 + 1) st en ln co cr h4 n0 Z4 ⟨c6, c7, c8, Fw4, c9, c10, c11, c12, c13, c14, c15, c16⟩ hub huw hbw gu gw hen) hZ (hw _ (List.mem_of_getElem? (i := 61) rfl)) (hw _ (List.mem_of_getElem? (i := 10) rfl)) (by decide) (by decide)) (g := (mkF m 224 #[.val (.ref u), .val (.int ((f bp) &&& (255 : Int32))), .val (.int (1 : Int32)), .val (.int (((((f bp) &&& (255 : Int32)) &&& (31 : Int32)) <<< ((6 : Int32) &&& 31)) ||| (((f (bp + 1)) &&& (255 : Int32)) &&& (63 : Int32)))), .val (.int (128 : Int32)), .val (.int (1 : Int32)), .val (.int ((f (bp + 1)) &&& (255 : Int32)))] [(.int (((((f bp) &&& (255 : Int32)) &&& (31 : Int32)) <<< ((6 : Int32) &&& 31)) ||| (((f (bp + 1)) &&& (255 : Int32)) &&& (63 : Int32)))), (.ref u)])) rfl (by rw [hml]; rfl) (Steps.refl _) (a := u) (by rw [e4]; exact q5) q5' (argsL := [(.int (((((f bp) &&& (255 : Int32)) &&& (31 : Int32)) <<< ((6 : Int32) &&& 31)) ||| (((f (bp + 1)) &&& (255 : Int32)) &&& (63 : Int32))))]) (rest := []) (lenOf pd7b_1 rfl) rfl (by show 2 * 0 + _ ≤ _; exact Nat.le_of_eq rfl) (hb hby d7b_224) (fun _ _ => ⟨rfl, e4, (by decide : 0 + 0 ≤ _), (by decide : 0 + 0 ≤ _)⟩)
  dsimp only [Pt.U, Pt.locs, Pt.cells, Pt.slots] at X5 l5 y5 z5 st5 hQ5
  subst l5 y5 z5
  obtain ⟨rfl, Nq5, Z5, Uq5⟩ := hQ5
  have N5 := Fr.app N4 Nq5
  obtain ⟨E5, F5_bytes, F5_byteLimit, F5_bytePosition, F5_window, F5_start, F5_end, F5_line, F5_column, F5_afterCarriageReturn, Ob5, Ow5⟩ := Uq5
  obtain ⟨lo5, X5, N5⟩ : ∃ L, Stand p l e ({ frames := 2, cells := 0, slots := 0, locals := 25 } : Room) s m #[(.ref u)] below meth c T5 L 0 0 ∧ Fr n0 L := ⟨_, X5, N5⟩
  refine OGo.st (fun t k => st5.trans k) ?_
  show OGo p e below _ (T5.setTop (mkF m 227 #[.val (.ref u), .val (.int ((f bp) &&& (255 : Int32))), .val (.int (1 : Int32)), .val (.int (((((f bp) &&& (255 : Int32)) &&& (31 : Int32)) <<< ((6 : Int32) &&& 31)) ||| (((f (bp + 1)) &&& (255 : Int32)) &&& (63 : Int32)))), .val (.int (128 : Int32)), .val (.int (1 : Int32)), .val (.int ((f (bp + 1)) &&& (255 : Int32)))] []))
  refine OGo.st (fun t k => XS.iconst X5.here hx rfl (hb hby d7b_227) k) ?_
  show OGo p e below _ (T5.setTop (mkF m 228 #[.val (.ref u), .val (.int ((f bp) &&& (255 : Int32))), .val (.int (1 : Int32)), .val (.int (((((f bp) &&& (255 : Int32)) &&& (31 : Int32)) <<< ((6 : Int32) &&& 31)) ||| (((f (bp + 1)) &&& (255 : Int32)) &&& (63 : Int32)))), .val (.int (128 : Int32)), .val (.int (1 : Int32)), .val (.int ((f (bp + 1)) &&& (255 : Int32)))] [(.int (1 : Int32))]))
  refine OGo.outN X5 hx (t := .boolean) Bd.returns (by simp) Bd.notSynchronized (hb hby d7b_228) ?_ (by decide) (by decide)
  exact ⟨rfl, N5, Z5, ⟨E5, F5_bytes, F5_byteLimit, F5_bytePosition, F5_window, F5_start, F5_end, F5_line, F5_column, F5_afterCarriageReturn, Ob5, Ow5⟩⟩
def Dec (f : Nat → Int32) (bp : Nat) (c : Int32) (d : Nat) : Prop :=
  (d = 1 ∧ bp < 7 ∧ ((f bp) &&& (255 : Int32)) < 128 ∧ c = ((f bp) &&& (255 : Int32))) ∨
  (d = 2 ∧ bp + 1 < 7 ∧ (¬ ((f bp) &&& (255 : Int32)) < 128) ∧ (¬ ((f bp) &&& (255 : Int32)) < 194) ∧ (¬ 223 < ((f bp) &&& (255 : Int32))) ∧ (((f (bp + 1)) &&& (255 : Int32)) &&& (192 : Int32)) = 128 ∧ (¬ c < 128) ∧ (¬ 1114111 < c) ∧ c < 55296 ∧ c = (((((f bp) &&& (255 : Int32)) &&& (31 : Int32)) <<< ((6 : Int32) &&& 31)) ||| (((f (bp + 1)) &&& (255 : Int32)) &&& (63 : Int32))))

theorem d6_0 : decode prog_169_method_3_code 0 = .ok (.aload_n 0, 1) := by decide +kernel
theorem d6_1 : decode prog_169_method_3_code 1 = .ok (.getfield 41, 3) := by decide +kernel
theorem d6_4 : decode prog_169_method_3_code 4 = .ok (.aload_n 0, 1) := by decide +kernel
theorem d6_5 : decode prog_169_method_3_code 5 = .ok (.getfield 44, 3) := by decide +kernel
theorem d6_8 : decode prog_169_method_3_code 8 = .ok (.isub, 1) := by decide +kernel
theorem d6_9 : decode prog_169_method_3_code 9 = .ok (.iload_n 1, 1) := by decide +kernel
theorem d6_10 : decode prog_169_method_3_code 10 = .ok (.if_icmp .gt 12, 3) := by decide +kernel
theorem d6_13 : decode prog_169_method_3_code 13 = .ok (.aload_n 0, 1) := by decide +kernel
theorem d6_14 : decode prog_169_method_3_code 14 = .ok (.invokevirtual 47, 3) := by decide +kernel
theorem d6_17 : decode prog_169_method_3_code 17 = .ok (.ifCond .ne (-17), 3) := by decide +kernel
theorem d6_22 : decode prog_169_method_3_code 22 = .ok (.aload_n 0, 1) := by decide +kernel
theorem d6_23 : decode prog_169_method_3_code 23 = .ok (.getfield 7, 3) := by decide +kernel
theorem d6_26 : decode prog_169_method_3_code 26 = .ok (.aload_n 0, 1) := by decide +kernel
theorem d6_27 : decode prog_169_method_3_code 27 = .ok (.getfield 44, 3) := by decide +kernel
theorem d6_30 : decode prog_169_method_3_code 30 = .ok (.iload_n 1, 1) := by decide +kernel
theorem d6_31 : decode prog_169_method_3_code 31 = .ok (.iadd, 1) := by decide +kernel
theorem d6_32 : decode prog_169_method_3_code 32 = .ok (.iaload, 1) := by decide +kernel
theorem d6_33 : decode prog_169_method_3_code 33 = .ok (.ireturn, 1) := by decide +kernel
theorem pn6 : plainName "com/example/triadne/triadne/Utf8Input" = true := by first | (simp [plainName, overriddenIn]; done) | decide +kernel
theorem pd6_0 : parseMethodDescriptor "()Z" = some ⟨[], some .boolean⟩ := by decide +kernel
theorem ef6 (m : MethodId) (u : Addr) : entryFrame m #[(.ref u), (.int (0 : Int32))] 2 = mkF m 0 #[.val (.ref u), .val (.int (0 : Int32))] [] := by first | (simp [entryFrame, mkF, argsToLocals, Value.category]; done) | rfl
set_option maxRecDepth 65536 in
set_option maxHeartbeats 40000000 in
theorem rm6 (l : Launch) (Z : State) (a0 : Array Value) (hw : ∀ d ∈ tables_1, d.before a0 Z = true) (ws : List Jvm.Cond) (u : Addr) (b : Addr) (w : Addr) (f : Nat → Int32) (g : Nat → Int32) (bp : Nat) (st : Nat) (ln : Int32) (co : Int32) (cr : Int32) (c' : Int32) (d : Nat) (h0 : Heap) (n0 : Nat) (Z0 : n0 ≤ h0.size) (U : UI Z h0 u b w f g bp st st ln co cr) (hub : u ≠ b) (huw : u ≠ w) (hbw : b ≠ w) (gu : n0 ≤ u) (gw : n0 ≤ w) (hst : st < 100) (hd : Dec f bp c' d) :
    MetFree l (⟨"com/example/triadne/triadne/Utf8Input", "peek", "(I)I"⟩ : MethodName) (head1 (Jvm.Cond.code (⟨"com/example/triadne/triadne/Utf8Input", "peek", "(I)I"⟩ : MethodName) prog_169_method_3_code 2 (some .int) :: ws) ({ frames := 3, cells := 0, slots := 0, locals := 43 } : Room)) (fun a U => a = #[(.ref u), (.int (0 : Int32))] ∧ Z.Warmed39 U.vm ∧ U.heap = h0) (fun _ _ _ _ _ => True) (fun _ U o U' => ∃ v L, o = .returned v ∧ (QU Z n0 (some (.int c')) u b w f (oset g st c') (bp + d) st (st + 1) ln co cr) v U'.heap L ∧ FrameEnd U o U' L ({ frames := 3, cells := 0, slots := 0, locals := 43 } : Room).cells ({ frames := 3, cells := 0, slots := 0, locals := 43 } : Room).slots) := by
  refine MetFree.of_bodySF (plainFor_of_name pn6) hisR ?_
  intro p e s m args below meth c s₁ Bd hml0 hP hK
  obtain ⟨rfl, hZ, hh⟩ := hP
  have hx := Bd.exec
  have hby := Bd.bytes
  have hml : c.maxLocals = 2 := hml0
  have hown : s.vm.findClass "com/example/triadne/triadne/Utf8Input" = some m.cls := findClass_of_methodNamed Bd.named
  have hnm := (name_of_methodNamed Bd.named Bd.method).1
  have X0 : Stand p l e ({ frames := 3, cells := 0, slots := 0, locals := 43 } : Room) s m #[(.ref u), (.int (0 : Int32))] below meth c s₁ [] 0 0 := Stand.of_body Bd
  have e0 : s₁.heap = h0 := by rw [← hh, Bd.state]; rfl
  have N0 := Fr.nil n0
  show OGo p e below (Out s ({ frames := 3, cells := 0, slots := 0, locals := 43 } : Room).cells ({ frames := 3, cells := 0, slots := 0, locals := 43 } : Room).slots ((QU Z n0 (some (.int c')) u b w f (oset g st c') (bp + d) st (st + 1) ln co cr))) (s₁.setTop (entryFrame m #[(.ref u), (.int (0 : Int32))] 2))
  obtain ⟨E0, F0_bytes, F0_byteLimit, F0_bytePosition, F0_window, F0_start, F0_end, F0_line, F0_column, F0_afterCarriageReturn, Ob0, Ow0⟩ := U
  refine OGo.st (fun t k => castTop (ef6 m u) k) ?_
  show OGo p e below (Out s ({ frames := 3, cells := 0, slots := 0, locals := 43 } : Room).cells ({ frames := 3, cells := 0, slots := 0, locals := 43 } : Room).slots ((QU Z n0 (some (.int c')) u b w f (oset g st c') (bp + d) st (st + 1) ln co cr))) (s₁.setTop (mkF m 0 #[.val (.ref u), .val (.int (0 : Int32))] []))
  rcases hd with ⟨rfl, hbq, h1, rfl⟩ | ⟨rfl, hbq, h1, h2, h3, h4, h5, h6, h7, rfl⟩
  · have _ := trivial
    refine OGo.st (fun t k => XS.aloadN X0.here hx rfl (hb hby d6_0) rfl rfl k) ?_
    show OGo p e below _ (s₁.setTop (mkF m 1 #[.val (.ref u), .val (.int (0 : Int32))] [(.ref u)]))
    obtain ⟨T1, X1, e1, st1⟩ := getF X0 hx hZ hown (host := "") (Or.inl (hw _ (List.mem_of_getElem? (i := 40) rfl))) Via.refl e0 F0_end (g := (mkF m 1 #[.val (.ref u), .val (.int (0 : Int32))] [(.ref u)])) rfl rfl (hb hby d6_1)
    refine OGo.st (fun t k => st1 t k) ?_
    show OGo p e below _ (T1.setTop (mkF m 4 #[.val (.ref u), .val (.int (0 : Int32))] [(.int (Int32.ofNat st))]))
    refine OGo.st (fun t k => XS.aloadN X1.here hx rfl (hb hby d6_4) rfl rfl k) ?_
    show OGo p e below _ (T1.setTop (mkF m 5 #[.val (.ref u), .val (.int (0 : Int32))] [(.ref u), (.int (Int32.ofNat st))]))
    obtain ⟨T2, X2, e2, st2⟩ := getF X1 hx hZ hown (host := "") (Or.inl (hw _ (List.mem_of_getElem? (i := 42) rfl))) Via.refl e1 F0_start (g := (mkF m 5 #[.val (.ref u), .val (.int (0 : Int32))] [(.ref u), (.int (Int32.ofNat st))])) rfl rfl (hb hby d6_5)
    refine OGo.st (fun t k => st2 t k) ?_
    show OGo p e below _ (T2.setTop (mkF m 8 #[.val (.ref u), .val (.int (0 : Int32))] [(.int (Int32.ofNat st)), (.int (Int32.ofNat st))]))
    refine OGo.st (fun t k => XS.isub X2.here hx rfl (hb hby d6_8) rfl k) ?_
    show OGo p e below _ (T2.setTop (mkF m 9 #[.val (.ref u), .val (.int (0 : Int32))] [(.int ((Int32.ofNat st) - (Int32.ofNat st)))]))
    refine OGo.st (fun t k => XS.iloadN X2.here hx rfl (hb hby d6_9) rfl k) ?_
    show OGo p e below _ (T2.setTop (mkF m 10 #[.val (.ref u), .val (.int (0 : Int32))] [(.int (0 : Int32)), (.int ((Int32.ofNat st) - (Int32.ofNat st)))]))
    refine OGo.st (fun t k => XS.icmpNo X2.here hx rfl (hb hby d6_10) rfl (flt (own_sub0 st)).2.2.1 k) ?_
    show OGo p e below _ (T2.setTop (mkF m 13 #[.val (.ref u), .val (.int (0 : Int32))] []))
    refine OGo.st (fun t k => XS.aloadN X2.here hx rfl (hb hby d6_13) rfl rfl k) ?_
    show OGo p e below _ (T2.setTop (mkF m 14 #[.val (.ref u), .val (.int (0 : Int32))] [(.ref u)]))
    obtain ⟨cq3, q3, q3'⟩ := E0.cell
    obtain ⟨_, _, ⟨T3, L3, k3, n3⟩, -, X3, ⟨Lc3, hQ3, l3, y3, z3⟩, st3⟩ := X2.privateBack hx (y := (⟨"com/example/triadne/triadne/Utf8Input", "decodeOne", "()Z"⟩ : MethodName)) hown (mvT hZ (hw _ (List.mem_of_getElem? (i := 44) rfl))) (mvT hZ (hw _ (List.mem_of_getElem? (i := 45) rfl))) (osel (y := (⟨"com/example/triadne/triadne/Utf8Input", "decodeOne", "()Z"⟩ : MethodName)) hZ (hw _ (List.mem_of_getElem? (i := 9) rfl)) (hw _ (List.mem_of_getElem? (i := 46) rfl)) (hw _ (List.mem_of_getElem? (i := 45) rfl)) (by decide)) (Cond.privateMethod_at (mvP hZ (hw _ (List.mem_of_getElem? (i := 46) rfl)) (args := #[]))) (mvT hZ (hw _ (List.mem_of_getElem? (i := 47) rfl))) (by decide) (backOf (W := 0) (rm7 l Z a0 hw [] u b w f g bp st st ln co cr h0 n0 Z0 ⟨E0, F0_bytes, F0_byteLimit, F0_bytePosition, F0_window, F0_start, F0_end, F0_line, F0_column, F0_afterCarriageReturn, Ob0, Ow0⟩ hub huw hbw gu gw hbq hst h1) hZ (hw _ (List.mem_of_getElem? (i := 47) rfl)) (hw _ (List.mem_of_getElem? (i := 10) rfl)) (by decide) (by decide)) (g := (mkF m 14 #[.val (.ref u), .val (.int (0 : Int32))] [(.ref u)])) rfl (by rw [hml]; rfl) (Steps.refl _) (a := u) (by rw [e2]; exact q3) q3' (argsL := []) (rest := []) (lenOf pd6_0 rfl) rfl (by show 2 * 0 + _ ≤ _; exact Nat.le_of_eq rfl) (hb hby d6_14) (fun _ _ => ⟨rfl, e2, (by decide : 0 + 0 ≤ _), (by decide : 0 + 0 ≤ _)⟩)
    dsimp only [Pt.U, Pt.locs, Pt.cells, Pt.slots] at X3 l3 y3 z3 st3 hQ3
    subst l3 y3 z3
    obtain ⟨rfl, Nq3, Z3, Uq3⟩ := hQ3
    have N3 := Fr.app N0 Nq3
    obtain ⟨E3, F3_bytes, F3_byteLimit, F3_bytePosition, F3_window, F3_start, F3_end, F3_line, F3_column, F3_afterCarriageReturn, Ob3, Ow3⟩ := Uq3
    obtain ⟨lo3, X3, N3⟩ : ∃ L, Stand p l e ({ frames := 3, cells := 0, slots := 0, locals := 43 } : Room) s m #[(.ref u), (.int (0 : Int32))] below meth c T3 L 0 0 ∧ Fr n0 L := ⟨_, X3, N3⟩
    refine OGo.st (fun t k => st3.trans k) ?_
    show OGo p e below _ (T3.setTop (mkF m 17 #[.val (.ref u), .val (.int (0 : Int32))] [(.int (1 : Int32))]))
    refine OGo.st (fun t k => XS.ifYes X3.here hx rfl (pc0 := 17) (pc' := 0) rfl (hb hby d6_17) rfl ((if0 _ _).trans (feq (by decide : ¬ ((1 : Int32) = (0 : Int32)))).2) (by decide) (by decide) k) ?_
    show OGo p e below _ (T3.setTop (mkF m 0 #[.val (.ref u), .val (.int (0 : Int32))] []))
    refine OGo.st (fun t k => XS.aloadN X3.here hx rfl (hb hby d6_0) rfl rfl k) ?_
    show OGo p e below _ (T3.setTop (mkF m 1 #[.val (.ref u), .val (.int (0 : Int32))] [(.ref u)]))
    obtain ⟨T4, X4, e4, st4⟩ := getF X3 hx hZ hown (host := "") (Or.inl (hw _ (List.mem_of_getElem? (i := 40) rfl))) Via.refl rfl F3_end (g := (mkF m 1 #[.val (.ref u), .val (.int (0 : Int32))] [(.ref u)])) rfl rfl (hb hby d6_1)
    refine OGo.st (fun t k => st4 t k) ?_
    show OGo p e below _ (T4.setTop (mkF m 4 #[.val (.ref u), .val (.int (0 : Int32))] [(.int (Int32.ofNat (st + 1)))]))
    refine OGo.st (fun t k => XS.aloadN X4.here hx rfl (hb hby d6_4) rfl rfl k) ?_
    show OGo p e below _ (T4.setTop (mkF m 5 #[.val (.ref u), .val (.int (0 : Int32))] [(.ref u), (.int (Int32.ofNat (st + 1)))]))
    obtain ⟨T5, X5, e5, st5⟩ := getF X4 hx hZ hown (host := "") (Or.inl (hw _ (List.mem_of_getElem? (i := 42) rfl))) Via.refl e4 F3_start (g := (mkF m 5 #[.val (.ref u), .val (.int (0 : Int32))] [(.ref u), (.int (Int32.ofNat (st + 1)))])) rfl rfl (hb hby d6_5)
    refine OGo.st (fun t k => st5 t k) ?_
    show OGo p e below _ (T5.setTop (mkF m 8 #[.val (.ref u), .val (.int (0 : Int32))] [(.int (Int32.ofNat st)), (.int (Int32.ofNat (st + 1)))]))
    refine OGo.st (fun t k => XS.isub X5.here hx rfl (hb hby d6_8) rfl k) ?_
    show OGo p e below _ (T5.setTop (mkF m 9 #[.val (.ref u), .val (.int (0 : Int32))] [(.int ((Int32.ofNat (st + 1)) - (Int32.ofNat st)))]))
    refine OGo.st (fun t k => XS.iloadN X5.here hx rfl (hb hby d6_9) rfl k) ?_
    show OGo p e below _ (T5.setTop (mkF m 10 #[.val (.ref u), .val (.int (0 : Int32))] [(.int (0 : Int32)), (.int ((Int32.ofNat (st + 1)) - (Int32.ofNat st)))]))
    refine OGo.st (fun t k => XS.icmpYes X5.here hx rfl (pc0 := 10) (pc' := 22) rfl (hb hby d6_10) rfl (tlt (own_sub1 (show st < 100 by omega))).2.2.1 (by decide) (by decide) k) ?_
    show OGo p e below _ (T5.setTop (mkF m 22 #[.val (.ref u), .val (.int (0 : Int32))] []))
    refine OGo.st (fun t k => XS.aloadN X5.here hx rfl (hb hby d6_22) rfl rfl k) ?_
    show OGo p e below _ (T5.setTop (mkF m 23 #[.val (.ref u), .val (.int (0 : Int32))] [(.ref u)]))
    obtain ⟨T6, X6, e6, st6⟩ := getF X5 hx hZ hown (host := "") (Or.inl (hw _ (List.mem_of_getElem? (i := 23) rfl))) Via.refl e5 F3_window (g := (mkF m 23 #[.val (.ref u), .val (.int (0 : Int32))] [(.ref u)])) rfl rfl (hb hby d6_23)
    refine OGo.st (fun t k => st6 t k) ?_
    show OGo p e below _ (T6.setTop (mkF m 26 #[.val (.ref u), .val (.int (0 : Int32))] [(.ref w)]))
    refine OGo.st (fun t k => XS.aloadN X6.here hx rfl (hb hby d6_26) rfl rfl k) ?_
    show OGo p e below _ (T6.setTop (mkF m 27 #[.val (.ref u), .val (.int (0 : Int32))] [(.ref u), (.ref w)]))
    obtain ⟨T7, X7, e7, st7⟩ := getF X6 hx hZ hown (host := "") (Or.inl (hw _ (List.mem_of_getElem? (i := 42) rfl))) Via.refl e6 F3_start (g := (mkF m 27 #[.val (.ref u), .val (.int (0 : Int32))] [(.ref u), (.ref w)])) rfl rfl (hb hby d6_27)
    refine OGo.st (fun t k => st7 t k) ?_
    show OGo p e below _ (T7.setTop (mkF m 30 #[.val (.ref u), .val (.int (0 : Int32))] [(.int (Int32.ofNat st)), (.ref w)]))
    refine OGo.st (fun t k => XS.iloadN X7.here hx rfl (hb hby d6_30) rfl k) ?_
    show OGo p e below _ (T7.setTop (mkF m 31 #[.val (.ref u), .val (.int (0 : Int32))] [(.int (0 : Int32)), (.int (Int32.ofNat st)), (.ref w)]))
    refine OGo.st (fun t k => XS.iadd X7.here hx rfl (hb hby d6_31) rfl k) ?_
    show OGo p e below _ (T7.setTop (mkF m 32 #[.val (.ref u), .val (.int (0 : Int32))] [(.int ((Int32.ofNat st) + (0 : Int32))), (.ref w)]))
    refine OGo.st (fun t k => OA.ldI X7 hx hZ e7 Ow3 (j := ((Int32.ofNat st) + (0 : Int32))) (k := (st + 0)) (own_ix (show st + 0 < 1000 by omega)).1 (own_ix (show st + 0 < 1000 by omega)).2 (by omega) (g := (mkF m 32 #[.val (.ref u), .val (.int (0 : Int32))] [(.int ((Int32.ofNat st) + (0 : Int32))), (.ref w)])) rfl rfl (hb hby d6_32) t k) ?_
    show OGo p e below _ (T7.setTop (mkF m 33 #[.val (.ref u), .val (.int (0 : Int32))] [(.int ((oset g st ((f bp) &&& (255 : Int32))) (st + 0)))]))
    rw [show oset g st ((f bp) &&& (255 : Int32)) (st + 0) = ((f bp) &&& (255 : Int32)) from by simp [oset]]
    show OGo p e below _ (T7.setTop (mkF m 33 #[.val (.ref u), .val (.int (0 : Int32))] [(.int ((f bp) &&& (255 : Int32)))]))
    refine OGo.outI X7 hx Bd.returns Bd.notSynchronized (hb hby d6_33) ?_ (by decide) (by decide)
    rw [e7]
    exact ⟨rfl, N3, Z3, ⟨E3, F3_bytes, F3_byteLimit, F3_bytePosition, F3_window, F3_start, F3_end, F3_line, F3_column, F3_afterCarriageReturn, Ob3, Ow3⟩⟩
  · have _ := trivial
    refine OGo.st (fun t k => XS.aloadN X0.here hx rfl (hb hby d6_0) rfl rfl k) ?_
    show OGo p e below _ (s₁.setTop (mkF m 1 #[.val (.ref u), .val (.int (0 : Int32))] [(.ref u)]))
    obtain ⟨T8, X8, e8, st8⟩ := getF X0 hx hZ hown (host := "") (Or.inl (hw _ (List.mem_of_getElem? (i := 40) rfl))) Via.refl e0 F0_end (g := (mkF m 1 #[.val (.ref u), .val (.int (0 : Int32))] [(.ref u)])) rfl rfl (hb hby d6_1)
    refine OGo.st (fun t k => st8 t k) ?_
    show OGo p e below _ (T8.setTop (mkF m 4 #[.val (.ref u), .val (.int (0 : Int32))] [(.int (Int32.ofNat st))]))
    refine OGo.st (fun t k => XS.aloadN X8.here hx rfl (hb hby d6_4) rfl rfl k) ?_
    show OGo p e below _ (T8.setTop (mkF m 5 #[.val (.ref u), .val (.int (0 : Int32))] [(.ref u), (.int (Int32.ofNat st))]))
    obtain ⟨T9, X9, e9, st9⟩ := getF X8 hx hZ hown (host := "") (Or.inl (hw _ (List.mem_of_getElem? (i := 42) rfl))) Via.refl e8 F0_start (g := (mkF m 5 #[.val (.ref u), .val (.int (0 : Int32))] [(.ref u), (.int (Int32.ofNat st))])) rfl rfl (hb hby d6_5)
    refine OGo.st (fun t k => st9 t k) ?_
    show OGo p e below _ (T9.setTop (mkF m 8 #[.val (.ref u), .val (.int (0 : Int32))] [(.int (Int32.ofNat st)), (.int (Int32.ofNat st))]))
    refine OGo.st (fun t k => XS.isub X9.here hx rfl (hb hby d6_8) rfl k) ?_
    show OGo p e below _ (T9.setTop (mkF m 9 #[.val (.ref u), .val (.int (0 : Int32))] [(.int ((Int32.ofNat st) - (Int32.ofNat st)))]))
    refine OGo.st (fun t k => XS.iloadN X9.here hx rfl (hb hby d6_9) rfl k) ?_
    show OGo p e below _ (T9.setTop (mkF m 10 #[.val (.ref u), .val (.int (0 : Int32))] [(.int (0 : Int32)), (.int ((Int32.ofNat st) - (Int32.ofNat st)))]))
    refine OGo.st (fun t k => XS.icmpNo X9.here hx rfl (hb hby d6_10) rfl (flt (own_sub0 st)).2.2.1 k) ?_
    show OGo p e below _ (T9.setTop (mkF m 13 #[.val (.ref u), .val (.int (0 : Int32))] []))
    refine OGo.st (fun t k => XS.aloadN X9.here hx rfl (hb hby d6_13) rfl rfl k) ?_
    show OGo p e below _ (T9.setTop (mkF m 14 #[.val (.ref u), .val (.int (0 : Int32))] [(.ref u)]))
    obtain ⟨cq10, q10, q10'⟩ := E0.cell
    obtain ⟨_, _, ⟨T10, L10, k10, n10⟩, -, X10, ⟨Lc10, hQ10, l10, y10, z10⟩, st10⟩ := X9.privateBack hx (y := (⟨"com/example/triadne/triadne/Utf8Input", "decodeOne", "()Z"⟩ : MethodName)) hown (mvT hZ (hw _ (List.mem_of_getElem? (i := 44) rfl))) (mvT hZ (hw _ (List.mem_of_getElem? (i := 45) rfl))) (osel (y := (⟨"com/example/triadne/triadne/Utf8Input", "decodeOne", "()Z"⟩ : MethodName)) hZ (hw _ (List.mem_of_getElem? (i := 9) rfl)) (hw _ (List.mem_of_getElem? (i := 46) rfl)) (hw _ (List.mem_of_getElem? (i := 45) rfl)) (by decide)) (Cond.privateMethod_at (mvP hZ (hw _ (List.mem_of_getElem? (i := 46) rfl)) (args := #[]))) (mvT hZ (hw _ (List.mem_of_getElem? (i := 47) rfl))) (by decide) (backOf (W := 0) (rm7b l Z a0 hw [] u b w f g bp st st ln co cr h0 n0 Z0 ⟨E0, F0_bytes, F0_byteLimit, F0_bytePosition, F0_window, F0_start, F0_end, F0_line, F0_column, F0_afterCarriageReturn, Ob0, Ow0⟩ hub huw hbw gu gw hbq hst h1 h2 h3 h4 h5 h6 h7) hZ (hw _ (List.mem_of_getElem? (i := 47) rfl)) (hw _ (List.mem_of_getElem? (i := 10) rfl)) (by decide) (by decide)) (g := (mkF m 14 #[.val (.ref u), .val (.int (0 : Int32))] [(.ref u)])) rfl (by rw [hml]; rfl) (Steps.refl _) (a := u) (by rw [e9]; exact q10) q10' (argsL := []) (rest := []) (lenOf pd6_0 rfl) rfl (by show 2 * 0 + _ ≤ _; exact Nat.le_of_eq rfl) (hb hby d6_14) (fun _ _ => ⟨rfl, e9, (by decide : 0 + 0 ≤ _), (by decide : 0 + 0 ≤ _)⟩)
    dsimp only [Pt.U, Pt.locs, Pt.cells, Pt.slots] at X10 l10 y10 z10 st10 hQ10
    subst l10 y10 z10
    obtain ⟨rfl, Nq10, Z10, Uq10⟩ := hQ10
    have N10 := Fr.app N0 Nq10
    obtain ⟨E10, F10_bytes, F10_byteLimit, F10_bytePosition, F10_window, F10_start, F10_end, F10_line, F10_column, F10_afterCarriageReturn, Ob10, Ow10⟩ := Uq10
    obtain ⟨lo10, X10, N10⟩ : ∃ L, Stand p l e ({ frames := 3, cells := 0, slots := 0, locals := 43 } : Room) s m #[(.ref u), (.int (0 : Int32))] below meth c T10 L 0 0 ∧ Fr n0 L := ⟨_, X10, N10⟩
    refine OGo.st (fun t k => st10.trans k) ?_
    show OGo p e below _ (T10.setTop (mkF m 17 #[.val (.ref u), .val (.int (0 : Int32))] [(.int (1 : Int32))]))
    refine OGo.st (fun t k => XS.ifYes X10.here hx rfl (pc0 := 17) (pc' := 0) rfl (hb hby d6_17) rfl ((if0 _ _).trans (feq (by decide : ¬ ((1 : Int32) = (0 : Int32)))).2) (by decide) (by decide) k) ?_
    show OGo p e below _ (T10.setTop (mkF m 0 #[.val (.ref u), .val (.int (0 : Int32))] []))
    refine OGo.st (fun t k => XS.aloadN X10.here hx rfl (hb hby d6_0) rfl rfl k) ?_
    show OGo p e below _ (T10.setTop (mkF m 1 #[.val (.ref u), .val (.int (0 : Int32))] [(.ref u)]))
    obtain ⟨T11, X11, e11, st11⟩ := getF X10 hx hZ hown (host := "") (Or.inl (hw _ (List.mem_of_getElem? (i := 40) rfl))) Via.refl rfl F10_end (g := (mkF m 1 #[.val (.ref u), .val (.int (0 : Int32))] [(.ref u)])) rfl rfl (hb hby d6_1)
    refine OGo.st (fun t k => st11 t k) ?_
    show OGo p e below _ (T11.setTop (mkF m 4 #[.val (.ref u), .val (.int (0 : Int32))] [(.int (Int32.ofNat (st + 1)))]))
    refine OGo.st (fun t k => XS.aloadN X11.here hx rfl (hb hby d6_4) rfl rfl k) ?_
    show OGo p e below _ (T11.setTop (mkF m 5 #[.val (.ref u), .val (.int (0 : Int32))] [(.ref u), (.int (Int32.ofNat (st + 1)))]))
    obtain ⟨T12, X12, e12, st12⟩ := getF X11 hx hZ hown (host := "") (Or.inl (hw _ (List.mem_of_getElem? (i := 42) rfl))) Via.refl e11 F10_start (g := (mkF m 5 #[.val (.ref u), .val (.int (0 : Int32))] [(.ref u), (.int (Int32.ofNat (st + 1)))])) rfl rfl (hb hby d6_5)
    refine OGo.st (fun t k => st12 t k) ?_
    show OGo p e below _ (T12.setTop (mkF m 8 #[.val (.ref u), .val (.int (0 : Int32))] [(.int (Int32.ofNat st)), (.int (Int32.ofNat (st + 1)))]))
    refine OGo.st (fun t k => XS.isub X12.here hx rfl (hb hby d6_8) rfl k) ?_
    show OGo p e below _ (T12.setTop (mkF m 9 #[.val (.ref u), .val (.int (0 : Int32))] [(.int ((Int32.ofNat (st + 1)) - (Int32.ofNat st)))]))
    refine OGo.st (fun t k => XS.iloadN X12.here hx rfl (hb hby d6_9) rfl k) ?_
    show OGo p e below _ (T12.setTop (mkF m 10 #[.val (.ref u), .val (.int (0 : Int32))] [(.int (0 : Int32)), (.int ((Int32.ofNat (st + 1)) - (Int32.ofNat st)))]))
    refine OGo.st (fun t k => XS.icmpYes X12.here hx rfl (pc0 := 10) (pc' := 22) rfl (hb hby d6_10) rfl (tlt (own_sub1 (show st < 100 by omega))).2.2.1 (by decide) (by decide) k) ?_
    show OGo p e below _ (T12.setTop (mkF m 22 #[.val (.ref u), .val (.int (0 : Int32))] []))
    refine OGo.st (fun t k => XS.aloadN X12.here hx rfl (hb hby d6_22) rfl rfl k) ?_
    show OGo p e below _ (T12.setTop (mkF m 23 #[.val (.ref u), .val (.int (0 : Int32))] [(.ref u)]))
    obtain ⟨T13, X13, e13, st13⟩ := getF X12 hx hZ hown (host := "") (Or.inl (hw _ (List.mem_of_getElem? (i := 23) rfl))) Via.refl e12 F10_window (g := (mkF m 23 #[.val (.ref u), .val (.int (0 : Int32))] [(.ref u)])) rfl rfl (hb hby d6_23)
    refine OGo.st (fun t k => st13 t k) ?_
    show OGo p e below _ (T13.setTop (mkF m 26 #[.val (.ref u), .val (.int (0 : Int32))] [(.ref w)]))
    refine OGo.st (fun t k => XS.aloadN X13.here hx rfl (hb hby d6_26) rfl rfl k) ?_
    show OGo p e below _ (T13.setTop (mkF m 27 #[.val (.ref u), .val (.int (0 : Int32))] [(.ref u), (.ref w)]))
    obtain ⟨T14, X14, e14, st14⟩ := getF X13 hx hZ hown (host := "") (Or.inl (hw _ (List.mem_of_getElem? (i := 42) rfl))) Via.refl e13 F10_start (g := (mkF m 27 #[.val (.ref u), .val (.int (0 : Int32))] [(.ref u), (.ref w)])) rfl rfl (hb hby d6_27)
    refine OGo.st (fun t k => st14 t k) ?_
    show OGo p e below _ (T14.setTop (mkF m 30 #[.val (.ref u), .val (.int (0 : Int32))] [(.int (Int32.ofNat st)), (.ref w)]))
    refine OGo.st (fun t k => XS.iloadN X14.here hx rfl (hb hby d6_30) rfl k) ?_
    show OGo p e below _ (T14.setTop (mkF m 31 #[.val (.ref u), .val (.int (0 : Int32))] [(.int (0 : Int32)), (.int (Int32.ofNat st)), (.ref w)]))
    refine OGo.st (fun t k => XS.iadd X14.here hx rfl (hb hby d6_31) rfl k) ?_
    show OGo p e below _ (T14.setTop (mkF m 32 #[.val (.ref u), .val (.int (0 : Int32))] [(.int ((Int32.ofNat st) + (0 : Int32))), (.ref w)]))
    refine OGo.st (fun t k => OA.ldI X14 hx hZ e14 Ow10 (j := ((Int32.ofNat st) + (0 : Int32))) (k := (st + 0)) (own_ix (show st + 0 < 1000 by omega)).1 (own_ix (show st + 0 < 1000 by omega)).2 (by omega) (g := (mkF m 32 #[.val (.ref u), .val (.int (0 : Int32))] [(.int ((Int32.ofNat st) + (0 : Int32))), (.ref w)])) rfl rfl (hb hby d6_32) t k) ?_
    show OGo p e below _ (T14.setTop (mkF m 33 #[.val (.ref u), .val (.int (0 : Int32))] [(.int ((oset g st (((((f bp) &&& (255 : Int32)) &&& (31 : Int32)) <<< ((6 : Int32) &&& 31)) ||| (((f (bp + 1)) &&& (255 : Int32)) &&& (63 : Int32)))) (st + 0)))]))
    rw [show oset g st (((((f bp) &&& (255 : Int32)) &&& (31 : Int32)) <<< ((6 : Int32) &&& 31)) ||| (((f (bp + 1)) &&& (255 : Int32)) &&& (63 : Int32))) (st + 0) = (((((f bp) &&& (255 : Int32)) &&& (31 : Int32)) <<< ((6 : Int32) &&& 31)) ||| (((f (bp + 1)) &&& (255 : Int32)) &&& (63 : Int32))) from by simp [oset]]
    show OGo p e below _ (T14.setTop (mkF m 33 #[.val (.ref u), .val (.int (0 : Int32))] [(.int (((((f bp) &&& (255 : Int32)) &&& (31 : Int32)) <<< ((6 : Int32) &&& 31)) ||| (((f (bp + 1)) &&& (255 : Int32)) &&& (63 : Int32))))]))
    refine OGo.outI X14 hx Bd.returns Bd.notSynchronized (hb hby d6_33) ?_ (by decide) (by decide)
    rw [e14]
    exact ⟨rfl, N10, Z10, ⟨E10, F10_bytes, F10_byteLimit, F10_bytePosition, F10_window, F10_start, F10_end, F10_line, F10_column, F10_afterCarriageReturn, Ob10, Ow10⟩⟩
theorem d11_0 : decode prog_169_method_4_code 0 = .ok (.aload_n 0, 1) := by decide +kernel
theorem d11_1 : decode prog_169_method_4_code 1 = .ok (.dup, 1) := by decide +kernel
theorem d11_2 : decode prog_169_method_4_code 2 = .ok (.getfield 44, 3) := by decide +kernel
theorem d11_5 : decode prog_169_method_4_code 5 = .ok (.iconst 1, 1) := by decide +kernel
theorem d11_6 : decode prog_169_method_4_code 6 = .ok (.iadd, 1) := by decide +kernel
theorem d11_7 : decode prog_169_method_4_code 7 = .ok (.putfield 44, 3) := by decide +kernel
theorem d11_10 : decode prog_169_method_4_code 10 = .ok (.iload_n 1, 1) := by decide +kernel
theorem d11_11 : decode prog_169_method_4_code 11 = .ok (.bipush 10, 2) := by decide +kernel
theorem d11_13 : decode prog_169_method_4_code 13 = .ok (.if_icmp .ne 33, 3) := by decide +kernel
theorem d11_16 : decode prog_169_method_4_code 16 = .ok (.aload_n 0, 1) := by decide +kernel
theorem d11_17 : decode prog_169_method_4_code 17 = .ok (.getfield 51, 3) := by decide +kernel
theorem d11_20 : decode prog_169_method_4_code 20 = .ok (.ifCond .ne 13, 3) := by decide +kernel
theorem d11_23 : decode prog_169_method_4_code 23 = .ok (.aload_n 0, 1) := by decide +kernel
theorem d11_24 : decode prog_169_method_4_code 24 = .ok (.dup, 1) := by decide +kernel
theorem d11_25 : decode prog_169_method_4_code 25 = .ok (.getfield 13, 3) := by decide +kernel
theorem d11_28 : decode prog_169_method_4_code 28 = .ok (.iconst 1, 1) := by decide +kernel
theorem d11_29 : decode prog_169_method_4_code 29 = .ok (.iadd, 1) := by decide +kernel
theorem d11_30 : decode prog_169_method_4_code 30 = .ok (.putfield 13, 3) := by decide +kernel
theorem d11_33 : decode prog_169_method_4_code 33 = .ok (.aload_n 0, 1) := by decide +kernel
theorem d11_34 : decode prog_169_method_4_code 34 = .ok (.iconst 1, 1) := by decide +kernel
theorem d11_35 : decode prog_169_method_4_code 35 = .ok (.putfield 17, 3) := by decide +kernel
theorem d11_38 : decode prog_169_method_4_code 38 = .ok (.aload_n 0, 1) := by decide +kernel
theorem d11_39 : decode prog_169_method_4_code 39 = .ok (.iconst 0, 1) := by decide +kernel
theorem d11_40 : decode prog_169_method_4_code 40 = .ok (.putfield 51, 3) := by decide +kernel
theorem d11_43 : decode prog_169_method_4_code 43 = .ok (.goto 47, 3) := by decide +kernel
theorem d11_46 : decode prog_169_method_4_code 46 = .ok (.iload_n 1, 1) := by decide +kernel
theorem d11_47 : decode prog_169_method_4_code 47 = .ok (.bipush 13, 2) := by decide +kernel
theorem d11_49 : decode prog_169_method_4_code 49 = .ok (.if_icmp .ne 26, 3) := by decide +kernel
theorem d11_52 : decode prog_169_method_4_code 52 = .ok (.aload_n 0, 1) := by decide +kernel
theorem d11_53 : decode prog_169_method_4_code 53 = .ok (.dup, 1) := by decide +kernel
theorem d11_54 : decode prog_169_method_4_code 54 = .ok (.getfield 13, 3) := by decide +kernel
theorem d11_57 : decode prog_169_method_4_code 57 = .ok (.iconst 1, 1) := by decide +kernel
theorem d11_58 : decode prog_169_method_4_code 58 = .ok (.iadd, 1) := by decide +kernel
theorem d11_59 : decode prog_169_method_4_code 59 = .ok (.putfield 13, 3) := by decide +kernel
theorem d11_62 : decode prog_169_method_4_code 62 = .ok (.aload_n 0, 1) := by decide +kernel
theorem d11_63 : decode prog_169_method_4_code 63 = .ok (.iconst 1, 1) := by decide +kernel
theorem d11_64 : decode prog_169_method_4_code 64 = .ok (.putfield 17, 3) := by decide +kernel
theorem d11_67 : decode prog_169_method_4_code 67 = .ok (.aload_n 0, 1) := by decide +kernel
theorem d11_68 : decode prog_169_method_4_code 68 = .ok (.iconst 1, 1) := by decide +kernel
theorem d11_69 : decode prog_169_method_4_code 69 = .ok (.putfield 51, 3) := by decide +kernel
theorem d11_72 : decode prog_169_method_4_code 72 = .ok (.goto 18, 3) := by decide +kernel
theorem d11_75 : decode prog_169_method_4_code 75 = .ok (.aload_n 0, 1) := by decide +kernel
theorem d11_76 : decode prog_169_method_4_code 76 = .ok (.dup, 1) := by decide +kernel
theorem d11_77 : decode prog_169_method_4_code 77 = .ok (.getfield 17, 3) := by decide +kernel
theorem d11_80 : decode prog_169_method_4_code 80 = .ok (.iconst 1, 1) := by decide +kernel
theorem d11_81 : decode prog_169_method_4_code 81 = .ok (.iadd, 1) := by decide +kernel
theorem d11_82 : decode prog_169_method_4_code 82 = .ok (.putfield 17, 3) := by decide +kernel
theorem d11_85 : decode prog_169_method_4_code 85 = .ok (.aload_n 0, 1) := by decide +kernel
theorem d11_86 : decode prog_169_method_4_code 86 = .ok (.iconst 0, 1) := by decide +kernel
theorem d11_87 : decode prog_169_method_4_code 87 = .ok (.putfield 51, 3) := by decide +kernel
theorem d11_90 : decode prog_169_method_4_code 90 = .ok (.return_, 1) := by decide +kernel
theorem pn11 : plainName "com/example/triadne/triadne/Utf8Input" = true := by first | (simp [plainName, overriddenIn]; done) | decide +kernel
theorem ef11 (m : MethodId) (u : Addr) (ch : Int32) : entryFrame m #[(.ref u), (.int ch)] 2 = mkF m 0 #[.val (.ref u), .val (.int ch)] [] := by first | (simp [entryFrame, mkF, argsToLocals, Value.category]; done) | rfl
set_option maxRecDepth 65536 in
set_option maxHeartbeats 40000000 in
theorem rm11 (l : Launch) (Z : State) (a0 : Array Value) (hw : ∀ d ∈ tables_1, d.before a0 Z = true) (ws : List Jvm.Cond) (u : Addr) (ch : Int32) (b : Addr) (w : Addr) (f : Nat → Int32) (g : Nat → Int32) (bp : Nat) (st : Nat) (en : Nat) (ln : Int32) (co : Int32) (cr : Int32) (h0 : Heap) (n0 : Nat) (Z0 : n0 ≤ h0.size) (U : UI Z h0 u b w f g bp st en ln co cr) (hub : u ≠ b) (huw : u ≠ w) (hbw : b ≠ w) (gu : n0 ≤ u) (gw : n0 ≤ w) :
    MetFree l (⟨"com/example/triadne/triadne/Utf8Input", "advance", "(I)V"⟩ : MethodName) (head1 (Jvm.Cond.code (⟨"com/example/triadne/triadne/Utf8Input", "advance", "(I)V"⟩ : MethodName) prog_169_method_4_code 2 none :: ws) ({ frames := 0, cells := 0, slots := 0, locals := 0 } : Room)) (fun a U => a = #[(.ref u), (.int ch)] ∧ Z.Warmed39 U.vm ∧ U.heap = h0) (fun _ _ _ _ _ => True) (fun _ U o U' => ∃ v L, o = .returned v ∧ (QU Z n0 none u b w f g bp (st + 1) en (aLn ch cr ln) (aCo ch co) (aCr ch)) v U'.heap L ∧ FrameEnd U o U' L ({ frames := 0, cells := 0, slots := 0, locals := 0 } : Room).cells ({ frames := 0, cells := 0, slots := 0, locals := 0 } : Room).slots) := by
  refine MetFree.of_bodySF (plainFor_of_name pn11) hisR ?_
  intro p e s m args below meth c s₁ Bd hml0 hP hK
  obtain ⟨rfl, hZ, hh⟩ := hP
  have hx := Bd.exec
  have hby := Bd.bytes
  have hml : c.maxLocals = 2 := hml0
  have hown : s.vm.findClass "com/example/triadne/triadne/Utf8Input" = some m.cls := findClass_of_methodNamed Bd.named
  have hnm := (name_of_methodNamed Bd.named Bd.method).1
  have X0 : Stand p l e ({ frames := 0, cells := 0, slots := 0, locals := 0 } : Room) s m #[(.ref u), (.int ch)] below meth c s₁ [] 0 0 := Stand.of_body Bd
  have e0 : s₁.heap = h0 := by rw [← hh, Bd.state]; rfl
  have N0 := Fr.nil n0
  show OGo p e below (Out s ({ frames := 0, cells := 0, slots := 0, locals := 0 } : Room).cells ({ frames := 0, cells := 0, slots := 0, locals := 0 } : Room).slots ((QU Z n0 none u b w f g bp (st + 1) en (aLn ch cr ln) (aCo ch co) (aCr ch)))) (s₁.setTop (entryFrame m #[(.ref u), (.int ch)] 2))
  obtain ⟨E0, F0_bytes, F0_byteLimit, F0_bytePosition, F0_window, F0_start, F0_end, F0_line, F0_column, F0_afterCarriageReturn, Ob0, Ow0⟩ := U
  refine OGo.st (fun t k => castTop (ef11 m u ch) k) ?_
  show OGo p e below (Out s ({ frames := 0, cells := 0, slots := 0, locals := 0 } : Room).cells ({ frames := 0, cells := 0, slots := 0, locals := 0 } : Room).slots ((QU Z n0 none u b w f g bp (st + 1) en (aLn ch cr ln) (aCo ch co) (aCr ch)))) (s₁.setTop (mkF m 0 #[.val (.ref u), .val (.int ch)] []))
  refine OGo.st (fun t k => XS.aloadN X0.here hx rfl (hb hby d11_0) rfl rfl k) ?_
  show OGo p e below _ (s₁.setTop (mkF m 1 #[.val (.ref u), .val (.int ch)] [(.ref u)]))
  refine OGo.st (fun t k => XS.dup X0.here hx rfl (hb hby d11_1) rfl rfl k) ?_
  show OGo p e below _ (s₁.setTop (mkF m 2 #[.val (.ref u), .val (.int ch)] [(.ref u), (.ref u)]))
  obtain ⟨T1, X1, e1, st1⟩ := getF X0 hx hZ hown (host := "") (Or.inl (hw _ (List.mem_of_getElem? (i := 42) rfl))) Via.refl e0 F0_start (g := (mkF m 2 #[.val (.ref u), .val (.int ch)] [(.ref u), (.ref u)])) rfl rfl (hb hby d11_2)
  refine OGo.st (fun t k => st1 t k) ?_
  show OGo p e below _ (T1.setTop (mkF m 5 #[.val (.ref u), .val (.int ch)] [(.int (Int32.ofNat st)), (.ref u)]))
  refine OGo.st (fun t k => XS.iconst X1.here hx rfl (hb hby d11_5) k) ?_
  show OGo p e below _ (T1.setTop (mkF m 6 #[.val (.ref u), .val (.int ch)] [(.int (1 : Int32)), (.int (Int32.ofNat st)), (.ref u)]))
  refine OGo.st (fun t k => XS.iadd X1.here hx rfl (hb hby d11_6) rfl k) ?_
  show OGo p e below _ (T1.setTop (mkF m 7 #[.val (.ref u), .val (.int ch)] [(.int ((Int32.ofNat st) + (1 : Int32))), (.ref u)]))
  rw [own_inc st]
  show OGo p e below _ (T1.setTop (mkF m 7 #[.val (.ref u), .val (.int ch)] [(.int (Int32.ofNat (st + 1))), (.ref u)]))
  obtain ⟨T2, h2, X2, e2, W2, st2⟩ := putF X1 hx hZ hown (host := "") (Or.inl (hw _ (List.mem_of_getElem? (i := 42) rfl))) Via.refl e1 F0_start E0 (Or.inl (hw _ (List.mem_of_getElem? (i := 43) rfl))) (hw _ (List.mem_of_getElem? (i := 9) rfl)) (ty := .int) (by decide) rfl rfl (g := (mkF m 7 #[.val (.ref u), .val (.int ch)] [(.int (Int32.ofNat (st + 1))), (.ref u)])) rfl rfl (hb hby d11_7)
  have Fw2 := F0_start.same W2
  have N2 := Fr.snoc X2 N0 gu
  have Z2 : n0 ≤ h2.size := Nat.le_trans Z0 (Keep.of_wr W2).1
  obtain ⟨lo2, X2, N2⟩ : ∃ L, Stand p l e ({ frames := 0, cells := 0, slots := 0, locals := 0 } : Room) s m #[(.ref u), (.int ch)] below meth c T2 L 0 0 ∧ Fr n0 L := ⟨_, X2, N2⟩
  refine OGo.st (fun t k => st2 t k) ?_
  show OGo p e below _ (T2.setTop (mkF m 10 #[.val (.ref u), .val (.int ch)] []))
  refine OGo.st (fun t k => XS.iloadN X2.here hx rfl (hb hby d11_10) rfl k) ?_
  show OGo p e below _ (T2.setTop (mkF m 11 #[.val (.ref u), .val (.int ch)] [(.int ch)]))
  refine OGo.st (fun t k => XS.bipush X2.here hx rfl (hb hby d11_11) k) ?_
  show OGo p e below _ (T2.setTop (mkF m 13 #[.val (.ref u), .val (.int ch)] [(.int (10 : Int32)), (.int ch)]))
  by_cases hc13_3 : ch = (10 : Int32)
  · refine OGo.st (fun t k => XS.icmpNo X2.here hx rfl (hb hby d11_13) rfl (teq hc13_3).2 k) ?_
    show OGo p e below _ (T2.setTop (mkF m 16 #[.val (.ref u), .val (.int ch)] []))
    refine OGo.st (fun t k => XS.aloadN X2.here hx rfl (hb hby d11_16) rfl rfl k) ?_
    show OGo p e below _ (T2.setTop (mkF m 17 #[.val (.ref u), .val (.int ch)] [(.ref u)]))
    have c4 := (F0_afterCarriageReturn.other W2 (Or.inr (slot_ne (Or.inl (hw _ (List.mem_of_getElem? (i := 68) rfl))) (Or.inl (hw _ (List.mem_of_getElem? (i := 43) rfl))) (by decide) (t := .boolean) (t' := .int) (by decide) (by decide))))
    obtain ⟨T5, X5, e5, st5⟩ := getF X2 hx hZ hown (host := "") (Or.inl (hw _ (List.mem_of_getElem? (i := 67) rfl))) Via.refl e2 c4 (g := (mkF m 17 #[.val (.ref u), .val (.int ch)] [(.ref u)])) rfl rfl (hb hby d11_17)
    refine OGo.st (fun t k => st5 t k) ?_
    show OGo p e below _ (T5.setTop (mkF m 20 #[.val (.ref u), .val (.int ch)] [(.int cr)]))
    by_cases hc20_6 : cr = (0 : Int32)
    · refine OGo.st (fun t k => XS.ifNo X5.here hx rfl (hb hby d11_20) rfl ((if0 _ _).trans (teq hc20_6).2) k) ?_
      show OGo p e below _ (T5.setTop (mkF m 23 #[.val (.ref u), .val (.int ch)] []))
      refine OGo.st (fun t k => XS.aloadN X5.here hx rfl (hb hby d11_23) rfl rfl k) ?_
      show OGo p e below _ (T5.setTop (mkF m 24 #[.val (.ref u), .val (.int ch)] [(.ref u)]))
      refine OGo.st (fun t k => XS.dup X5.here hx rfl (hb hby d11_24) rfl rfl k) ?_
      show OGo p e below _ (T5.setTop (mkF m 25 #[.val (.ref u), .val (.int ch)] [(.ref u), (.ref u)]))
      have c7 := (F0_line.other W2 (Or.inr (slot_ne (Or.inl (hw _ (List.mem_of_getElem? (i := 26) rfl))) (Or.inl (hw _ (List.mem_of_getElem? (i := 43) rfl))) (by decide) (t := .int) (t' := .int) (by decide) (by decide))))
      obtain ⟨T8, X8, e8, st8⟩ := getF X5 hx hZ hown (host := "") (Or.inl (hw _ (List.mem_of_getElem? (i := 25) rfl))) Via.refl e5 c7 (g := (mkF m 25 #[.val (.ref u), .val (.int ch)] [(.ref u), (.ref u)])) rfl rfl (hb hby d11_25)
      refine OGo.st (fun t k => st8 t k) ?_
      show OGo p e below _ (T8.setTop (mkF m 28 #[.val (.ref u), .val (.int ch)] [(.int ln), (.ref u)]))
      refine OGo.st (fun t k => XS.iconst X8.here hx rfl (hb hby d11_28) k) ?_
      show OGo p e below _ (T8.setTop (mkF m 29 #[.val (.ref u), .val (.int ch)] [(.int (1 : Int32)), (.int ln), (.ref u)]))
      refine OGo.st (fun t k => XS.iadd X8.here hx rfl (hb hby d11_29) rfl k) ?_
      show OGo p e below _ (T8.setTop (mkF m 30 #[.val (.ref u), .val (.int ch)] [(.int (ln + (1 : Int32))), (.ref u)]))
      have c9 := (E0.wr W2)
      obtain ⟨T10, h10, X10, e10, W10, st10⟩ := putF X8 hx hZ hown (host := "") (Or.inl (hw _ (List.mem_of_getElem? (i := 25) rfl))) Via.refl e8 c7 c9 (Or.inl (hw _ (List.mem_of_getElem? (i := 26) rfl))) (hw _ (List.mem_of_getElem? (i := 9) rfl)) (ty := .int) (by decide) rfl rfl (g := (mkF m 30 #[.val (.ref u), .val (.int ch)] [(.int (ln + (1 : Int32))), (.ref u)])) rfl rfl (hb hby d11_30)
      have Fw10 := c7.same W10
      have N10 := Fr.snoc X10 N2 gu
      have Z10 : n0 ≤ h10.size := Nat.le_trans Z2 (Keep.of_wr W10).1
      obtain ⟨lo10, X10, N10⟩ : ∃ L, Stand p l e ({ frames := 0, cells := 0, slots := 0, locals := 0 } : Room) s m #[(.ref u), (.int ch)] below meth c T10 L 0 0 ∧ Fr n0 L := ⟨_, X10, N10⟩
      refine OGo.st (fun t k => st10 t k) ?_
      show OGo p e below _ (T10.setTop (mkF m 33 #[.val (.ref u), .val (.int ch)] []))
      refine OGo.st (fun t k => XS.aloadN X10.here hx rfl (hb hby d11_33) rfl rfl k) ?_
      show OGo p e below _ (T10.setTop (mkF m 34 #[.val (.ref u), .val (.int ch)] [(.ref u)]))
      refine OGo.st (fun t k => XS.iconst X10.here hx rfl (hb hby d11_34) k) ?_
      show OGo p e below _ (T10.setTop (mkF m 35 #[.val (.ref u), .val (.int ch)] [(.int (1 : Int32)), (.ref u)]))
      have c11 := ((F0_column.other W2 (Or.inr (slot_ne (Or.inl (hw _ (List.mem_of_getElem? (i := 28) rfl))) (Or.inl (hw _ (List.mem_of_getElem? (i := 43) rfl))) (by decide) (t := .int) (t' := .int) (by decide) (by decide)))).other W10 (Or.inr (slot_ne (Or.inl (hw _ (List.mem_of_getElem? (i := 28) rfl))) (Or.inl (hw _ (List.mem_of_getElem? (i := 26) rfl))) (by decide) (t := .int) (t' := .int) (by decide) (by decide))))
      have c12 := (c9.wr W10)
      obtain ⟨T13, h13, X13, e13, W13, st13⟩ := putF X10 hx hZ hown (host := "") (Or.inl (hw _ (List.mem_of_getElem? (i := 27) rfl))) Via.refl e10 c11 c12 (Or.inl (hw _ (List.mem_of_getElem? (i := 28) rfl))) (hw _ (List.mem_of_getElem? (i := 9) rfl)) (ty := .int) (by decide) rfl rfl (g := (mkF m 35 #[.val (.ref u), .val (.int ch)] [(.int (1 : Int32)), (.ref u)])) rfl rfl (hb hby d11_35)
      have Fw13 := c11.same W13
      have N13 := Fr.snoc X13 N10 gu
      have Z13 : n0 ≤ h13.size := Nat.le_trans Z10 (Keep.of_wr W13).1
      obtain ⟨lo13, X13, N13⟩ : ∃ L, Stand p l e ({ frames := 0, cells := 0, slots := 0, locals := 0 } : Room) s m #[(.ref u), (.int ch)] below meth c T13 L 0 0 ∧ Fr n0 L := ⟨_, X13, N13⟩
      refine OGo.st (fun t k => st13 t k) ?_
      show OGo p e below _ (T13.setTop (mkF m 38 #[.val (.ref u), .val (.int ch)] []))
      refine OGo.st (fun t k => XS.aloadN X13.here hx rfl (hb hby d11_38) rfl rfl k) ?_
      show OGo p e below _ (T13.setTop (mkF m 39 #[.val (.ref u), .val (.int ch)] [(.ref u)]))
      refine OGo.st (fun t k => XS.iconst X13.here hx rfl (hb hby d11_39) k) ?_
      show OGo p e below _ (T13.setTop (mkF m 40 #[.val (.ref u), .val (.int ch)] [(.int (0 : Int32)), (.ref u)]))
      have c14 := ((c4.other W10 (Or.inr (slot_ne (Or.inl (hw _ (List.mem_of_getElem? (i := 68) rfl))) (Or.inl (hw _ (List.mem_of_getElem? (i := 26) rfl))) (by decide) (t := .boolean) (t' := .int) (by decide) (by decide)))).other W13 (Or.inr (slot_ne (Or.inl (hw _ (List.mem_of_getElem? (i := 68) rfl))) (Or.inl (hw _ (List.mem_of_getElem? (i := 28) rfl))) (by decide) (t := .boolean) (t' := .int) (by decide) (by decide))))
      have c15 := (c12.wr W13)
      obtain ⟨T16, h16, X16, e16, W16, st16⟩ := putFN X13 hx hZ hown (hw _ (List.mem_of_getElem? (i := 67) rfl)) Via.refl e13 c14 c15 (Or.inl (hw _ (List.mem_of_getElem? (i := 68) rfl))) (hw _ (List.mem_of_getElem? (i := 9) rfl)) (ty := .boolean) (v' := (.int (0 : Int32))) (by decide) rfl (by decide) (g := (mkF m 40 #[.val (.ref u), .val (.int ch)] [(.int (0 : Int32)), (.ref u)])) rfl rfl (hb hby d11_40)
      have Fw16 := c14.same W16
      have N16 := Fr.snoc X16 N13 gu
      have Z16 : n0 ≤ h16.size := Nat.le_trans Z13 (Keep.of_wr W16).1
      obtain ⟨lo16, X16, N16⟩ : ∃ L, Stand p l e ({ frames := 0, cells := 0, slots := 0, locals := 0 } : Room) s m #[(.ref u), (.int ch)] below meth c T16 L 0 0 ∧ Fr n0 L := ⟨_, X16, N16⟩
      refine OGo.st (fun t k => st16 t k) ?_
      show OGo p e below _ (T16.setTop (mkF m 43 #[.val (.ref u), .val (.int ch)] []))
      refine OGo.st (fun t k => XS.goto X16.here hx rfl (pc0 := 43) (pc' := 90) rfl (hb hby d11_43) (by decide) (by decide) k) ?_
      show OGo p e below _ (T16.setTop (mkF m 90 #[.val (.ref u), .val (.int ch)] []))
      have c17 := (c15.wr W16)
      have c18 := ((((F0_bytes.other W2 (Or.inr (slot_ne (Or.inr (hw _ (List.mem_of_getElem? (i := 32) rfl))) (Or.inl (hw _ (List.mem_of_getElem? (i := 43) rfl))) (by decide) (t := (.array .byte)) (t' := .int) (by decide) (by decide)))).other W10 (Or.inr (slot_ne (Or.inr (hw _ (List.mem_of_getElem? (i := 32) rfl))) (Or.inl (hw _ (List.mem_of_getElem? (i := 26) rfl))) (by decide) (t := (.array .byte)) (t' := .int) (by decide) (by decide)))).other W13 (Or.inr (slot_ne (Or.inr (hw _ (List.mem_of_getElem? (i := 32) rfl))) (Or.inl (hw _ (List.mem_of_getElem? (i := 28) rfl))) (by decide) (t := (.array .byte)) (t' := .int) (by decide) (by decide)))).other W16 (Or.inr (slot_ne (Or.inr (hw _ (List.mem_of_getElem? (i := 32) rfl))) (Or.inl (hw _ (List.mem_of_getElem? (i := 68) rfl))) (by decide) (t := (.array .byte)) (t' := .boolean) (by decide) (by decide))))
      have c19 := ((((F0_byteLimit.other W2 (Or.inr (slot_ne (Or.inl (hw _ (List.mem_of_getElem? (i := 34) rfl))) (Or.inl (hw _ (List.mem_of_getElem? (i := 43) rfl))) (by decide) (t := .int) (t' := .int) (by decide) (by decide)))).other W10 (Or.inr (slot_ne (Or.inl (hw _ (List.mem_of_getElem? (i := 34) rfl))) (Or.inl (hw _ (List.mem_of_getElem? (i := 26) rfl))) (by decide) (t := .int) (t' := .int) (by decide) (by decide)))).other W13 (Or.inr (slot_ne (Or.inl (hw _ (List.mem_of_getElem? (i := 34) rfl))) (Or.inl (hw _ (List.mem_of_getElem? (i := 28) rfl))) (by decide) (t := .int) (t' := .int) (by decide) (by decide)))).other W16 (Or.inr (slot_ne (Or.inl (hw _ (List.mem_of_getElem? (i := 34) rfl))) (Or.inl (hw _ (List.mem_of_getElem? (i := 68) rfl))) (by decide) (t := .int) (t' := .boolean) (by decide) (by decide))))
      have c20 := ((((F0_bytePosition.other W2 (Or.inr (slot_ne (Or.inl (hw _ (List.mem_of_getElem? (i := 57) rfl))) (Or.inl (hw _ (List.mem_of_getElem? (i := 43) rfl))) (by decide) (t := .int) (t' := .int) (by decide) (by decide)))).other W10 (Or.inr (slot_ne (Or.inl (hw _ (List.mem_of_getElem? (i := 57) rfl))) (Or.inl (hw _ (List.mem_of_getElem? (i := 26) rfl))) (by decide) (t := .int) (t' := .int) (by decide) (by decide)))).other W13 (Or.inr (slot_ne (Or.inl (hw _ (List.mem_of_getElem? (i := 57) rfl))) (Or.inl (hw _ (List.mem_of_getElem? (i := 28) rfl))) (by decide) (t := .int) (t' := .int) (by decide) (by decide)))).other W16 (Or.inr (slot_ne (Or.inl (hw _ (List.mem_of_getElem? (i := 57) rfl))) (Or.inl (hw _ (List.mem_of_getElem? (i := 68) rfl))) (by decide) (t := .int) (t' := .boolean) (by decide) (by decide))))
      have c21 := ((((F0_window.other W2 (Or.inr (slot_ne (Or.inl (hw _ (List.mem_of_getElem? (i := 24) rfl))) (Or.inl (hw _ (List.mem_of_getElem? (i := 43) rfl))) (by decide) (t := (.array .int)) (t' := .int) (by decide) (by decide)))).other W10 (Or.inr (slot_ne (Or.inl (hw _ (List.mem_of_getElem? (i := 24) rfl))) (Or.inl (hw _ (List.mem_of_getElem? (i := 26) rfl))) (by decide) (t := (.array .int)) (t' := .int) (by decide) (by decide)))).other W13 (Or.inr (slot_ne (Or.inl (hw _ (List.mem_of_getElem? (i := 24) rfl))) (Or.inl (hw _ (List.mem_of_getElem? (i := 28) rfl))) (by decide) (t := (.array .int)) (t' := .int) (by decide) (by decide)))).other W16 (Or.inr (slot_ne (Or.inl (hw _ (List.mem_of_getElem? (i := 24) rfl))) (Or.inl (hw _ (List.mem_of_getElem? (i := 68) rfl))) (by decide) (t := (.array .int)) (t' := .boolean) (by decide) (by decide))))
      have c22 := (((Fw2.other W10 (Or.inr (slot_ne (Or.inl (hw _ (List.mem_of_getElem? (i := 43) rfl))) (Or.inl (hw _ (List.mem_of_getElem? (i := 26) rfl))) (by decide) (t := .int) (t' := .int) (by decide) (by decide)))).other W13 (Or.inr (slot_ne (Or.inl (hw _ (List.mem_of_getElem? (i := 43) rfl))) (Or.inl (hw _ (List.mem_of_getElem? (i := 28) rfl))) (by decide) (t := .int) (t' := .int) (by decide) (by decide)))).other W16 (Or.inr (slot_ne (Or.inl (hw _ (List.mem_of_getElem? (i := 43) rfl))) (Or.inl (hw _ (List.mem_of_getElem? (i := 68) rfl))) (by decide) (t := .int) (t' := .boolean) (by decide) (by decide))))
      have c23 := ((((F0_end.other W2 (Or.inr (slot_ne (Or.inl (hw _ (List.mem_of_getElem? (i := 41) rfl))) (Or.inl (hw _ (List.mem_of_getElem? (i := 43) rfl))) (by decide) (t := .int) (t' := .int) (by decide) (by decide)))).other W10 (Or.inr (slot_ne (Or.inl (hw _ (List.mem_of_getElem? (i := 41) rfl))) (Or.inl (hw _ (List.mem_of_getElem? (i := 26) rfl))) (by decide) (t := .int) (t' := .int) (by decide) (by decide)))).other W13 (Or.inr (slot_ne (Or.inl (hw _ (List.mem_of_getElem? (i := 41) rfl))) (Or.inl (hw _ (List.mem_of_getElem? (i := 28) rfl))) (by decide) (t := .int) (t' := .int) (by decide) (by decide)))).other W16 (Or.inr (slot_ne (Or.inl (hw _ (List.mem_of_getElem? (i := 41) rfl))) (Or.inl (hw _ (List.mem_of_getElem? (i := 68) rfl))) (by decide) (t := .int) (t' := .boolean) (by decide) (by decide))))
      have c24 := ((Fw10.other W13 (Or.inr (slot_ne (Or.inl (hw _ (List.mem_of_getElem? (i := 26) rfl))) (Or.inl (hw _ (List.mem_of_getElem? (i := 28) rfl))) (by decide) (t := .int) (t' := .int) (by decide) (by decide)))).other W16 (Or.inr (slot_ne (Or.inl (hw _ (List.mem_of_getElem? (i := 26) rfl))) (Or.inl (hw _ (List.mem_of_getElem? (i := 68) rfl))) (by decide) (t := .int) (t' := .boolean) (by decide) (by decide))))
      have c25 := (Fw13.other W16 (Or.inr (slot_ne (Or.inl (hw _ (List.mem_of_getElem? (i := 28) rfl))) (Or.inl (hw _ (List.mem_of_getElem? (i := 68) rfl))) (by decide) (t := .int) (t' := .boolean) (by decide) (by decide))))
      have c26 := ((((Ob0.other W2 (Ne.symm hub)).other W10 (Ne.symm hub)).other W13 (Ne.symm hub)).other W16 (Ne.symm hub))
      have c27 := ((((Ow0.other W2 (Ne.symm huw)).other W10 (Ne.symm huw)).other W13 (Ne.symm huw)).other W16 (Ne.symm huw))
      refine OGo.outV X16 hx Bd.returns Bd.notSynchronized (hb hby d11_90) ?_ (by decide) (by decide)
      rw [e16]
      rw [show aLn ch cr ln = (ln + (1 : Int32)) from by simp +decide only [aLn, hc13_3, hc20_6, if_true, if_false, reduceIte]]
      rw [show aCo ch co = (1 : Int32) from by simp +decide only [aCo, hc13_3, hc20_6, if_true, if_false, reduceIte]]
      rw [show aCr ch = (0 : Int32) from by simp +decide only [aCr, hc13_3, hc20_6, if_true, if_false, reduceIte]]
      exact ⟨rfl, N16, Z16, ⟨c17, c18, c19, c20, c21, c22, c23, c24, c25, Fw16, c26, c27⟩⟩
    · refine OGo.st (fun t k => XS.ifYes X5.here hx rfl (pc0 := 20) (pc' := 33) rfl (hb hby d11_20) rfl ((if0 _ _).trans (feq hc20_6).2) (by decide) (by decide) k) ?_
      show OGo p e below _ (T5.setTop (mkF m 33 #[.val (.ref u), .val (.int ch)] []))
      refine OGo.st (fun t k => XS.aloadN X5.here hx rfl (hb hby d11_33) rfl rfl k) ?_
      show OGo p e below _ (T5.setTop (mkF m 34 #[.val (.ref u), .val (.int ch)] [(.ref u)]))
      refine OGo.st (fun t k => XS.iconst X5.here hx rfl (hb hby d11_34) k) ?_
      show OGo p e below _ (T5.setTop (mkF m 35 #[.val (.ref u), .val (.int ch)] [(.int (1 : Int32)), (.ref u)]))
      have c28 := (F0_column.other W2 (Or.inr (slot_ne (Or.inl (hw _ (List.mem_of_getElem? (i := 28) rfl))) (Or.inl (hw _ (List.mem_of_getElem? (i := 43) rfl))) (by decide) (t := .int) (t' := .int) (by decide) (by decide))))
      have c29 := (E0.wr W2)
      obtain ⟨T30, h30, X30, e30, W30, st30⟩ := putF X5 hx hZ hown (host := "") (Or.inl (hw _ (List.mem_of_getElem? (i := 27) rfl))) Via.refl e5 c28 c29 (Or.inl (hw _ (List.mem_of_getElem? (i := 28) rfl))) (hw _ (List.mem_of_getElem? (i := 9) rfl)) (ty := .int) (by decide) rfl rfl (g := (mkF m 35 #[.val (.ref u), .val (.int ch)] [(.int (1 : Int32)), (.ref u)])) rfl rfl (hb hby d11_35)
      have Fw30 := c28.same W30
      have N30 := Fr.snoc X30 N2 gu
      have Z30 : n0 ≤ h30.size := Nat.le_trans Z2 (Keep.of_wr W30).1
      obtain ⟨lo30, X30, N30⟩ : ∃ L, Stand p l e ({ frames := 0, cells := 0, slots := 0, locals := 0 } : Room) s m #[(.ref u), (.int ch)] below meth c T30 L 0 0 ∧ Fr n0 L := ⟨_, X30, N30⟩
      refine OGo.st (fun t k => st30 t k) ?_
      show OGo p e below _ (T30.setTop (mkF m 38 #[.val (.ref u), .val (.int ch)] []))
      refine OGo.st (fun t k => XS.aloadN X30.here hx rfl (hb hby d11_38) rfl rfl k) ?_
      show OGo p e below _ (T30.setTop (mkF m 39 #[.val (.ref u), .val (.int ch)] [(.ref u)]))
      refine OGo.st (fun t k => XS.iconst X30.here hx rfl (hb hby d11_39) k) ?_
      show OGo p e below _ (T30.setTop (mkF m 40 #[.val (.ref u), .val (.int ch)] [(.int (0 : Int32)), (.ref u)]))
      have c31 := (c4.other W30 (Or.inr (slot_ne (Or.inl (hw _ (List.mem_of_getElem? (i := 68) rfl))) (Or.inl (hw _ (List.mem_of_getElem? (i := 28) rfl))) (by decide) (t := .boolean) (t' := .int) (by decide) (by decide))))
      have c32 := (c29.wr W30)
      obtain ⟨T33, h33, X33, e33, W33, st33⟩ := putFN X30 hx hZ hown (hw _ (List.mem_of_getElem? (i := 67) rfl)) Via.refl e30 c31 c32 (Or.inl (hw _ (List.mem_of_getElem? (i := 68) rfl))) (hw _ (List.mem_of_getElem? (i := 9) rfl)) (ty := .boolean) (v' := (.int (0 : Int32))) (by decide) rfl (by decide) (g := (mkF m 40 #[.val (.ref u), .val (.int ch)] [(.int (0 : Int32)), (.ref u)])) rfl rfl (hb hby d11_40)
      have Fw33 := c31.same W33
      have N33 := Fr.snoc X33 N30 gu
      have Z33 : n0 ≤ h33.size := Nat.le_trans Z30 (Keep.of_wr W33).1
      obtain ⟨lo33, X33, N33⟩ : ∃ L, Stand p l e ({ frames := 0, cells := 0, slots := 0, locals := 0 } : Room) s m #[(.ref u), (.int ch)] below meth c T33 L 0 0 ∧ Fr n0 L := ⟨_, X33, N33⟩
      refine OGo.st (fun t k => st33 t k) ?_
      show OGo p e below _ (T33.setTop (mkF m 43 #[.val (.ref u), .val (.int ch)] []))
      refine OGo.st (fun t k => XS.goto X33.here hx rfl (pc0 := 43) (pc' := 90) rfl (hb hby d11_43) (by decide) (by decide) k) ?_
      show OGo p e below _ (T33.setTop (mkF m 90 #[.val (.ref u), .val (.int ch)] []))
      have c34 := (c32.wr W33)
      have c35 := (((F0_bytes.other W2 (Or.inr (slot_ne (Or.inr (hw _ (List.mem_of_getElem? (i := 32) rfl))) (Or.inl (hw _ (List.mem_of_getElem? (i := 43) rfl))) (by decide) (t := (.array .byte)) (t' := .int) (by decide) (by decide)))).other W30 (Or.inr (slot_ne (Or.inr (hw _ (List.mem_of_getElem? (i := 32) rfl))) (Or.inl (hw _ (List.mem_of_getElem? (i := 28) rfl))) (by decide) (t := (.array .byte)) (t' := .int) (by decide) (by decide)))).other W33 (Or.inr (slot_ne (Or.inr (hw _ (List.mem_of_getElem? (i := 32) rfl))) (Or.inl (hw _ (List.mem_of_getElem? (i := 68) rfl))) (by decide) (t := (.array .byte)) (t' := .boolean) (by decide) (by decide))))
      have c36 := (((F0_byteLimit.other W2 (Or.inr (slot_ne (Or.inl (hw _ (List.mem_of_getElem? (i := 34) rfl))) (Or.inl (hw _ (List.mem_of_getElem? (i := 43) rfl))) (by decide) (t := .int) (t' := .int) (by decide) (by decide)))).other W30 (Or.inr (slot_ne (Or.inl (hw _ (List.mem_of_getElem? (i := 34) rfl))) (Or.inl (hw _ (List.mem_of_getElem? (i := 28) rfl))) (by decide) (t := .int) (t' := .int) (by decide) (by decide)))).other W33 (Or.inr (slot_ne (Or.inl (hw _ (List.mem_of_getElem? (i := 34) rfl))) (Or.inl (hw _ (List.mem_of_getElem? (i := 68) rfl))) (by decide) (t := .int) (t' := .boolean) (by decide) (by decide))))
      have c37 := (((F0_bytePosition.other W2 (Or.inr (slot_ne (Or.inl (hw _ (List.mem_of_getElem? (i := 57) rfl))) (Or.inl (hw _ (List.mem_of_getElem? (i := 43) rfl))) (by decide) (t := .int) (t' := .int) (by decide) (by decide)))).other W30 (Or.inr (slot_ne (Or.inl (hw _ (List.mem_of_getElem? (i := 57) rfl))) (Or.inl (hw _ (List.mem_of_getElem? (i := 28) rfl))) (by decide) (t := .int) (t' := .int) (by decide) (by decide)))).other W33 (Or.inr (slot_ne (Or.inl (hw _ (List.mem_of_getElem? (i := 57) rfl))) (Or.inl (hw _ (List.mem_of_getElem? (i := 68) rfl))) (by decide) (t := .int) (t' := .boolean) (by decide) (by decide))))
      have c38 := (((F0_window.other W2 (Or.inr (slot_ne (Or.inl (hw _ (List.mem_of_getElem? (i := 24) rfl))) (Or.inl (hw _ (List.mem_of_getElem? (i := 43) rfl))) (by decide) (t := (.array .int)) (t' := .int) (by decide) (by decide)))).other W30 (Or.inr (slot_ne (Or.inl (hw _ (List.mem_of_getElem? (i := 24) rfl))) (Or.inl (hw _ (List.mem_of_getElem? (i := 28) rfl))) (by decide) (t := (.array .int)) (t' := .int) (by decide) (by decide)))).other W33 (Or.inr (slot_ne (Or.inl (hw _ (List.mem_of_getElem? (i := 24) rfl))) (Or.inl (hw _ (List.mem_of_getElem? (i := 68) rfl))) (by decide) (t := (.array .int)) (t' := .boolean) (by decide) (by decide))))
      have c39 := ((Fw2.other W30 (Or.inr (slot_ne (Or.inl (hw _ (List.mem_of_getElem? (i := 43) rfl))) (Or.inl (hw _ (List.mem_of_getElem? (i := 28) rfl))) (by decide) (t := .int) (t' := .int) (by decide) (by decide)))).other W33 (Or.inr (slot_ne (Or.inl (hw _ (List.mem_of_getElem? (i := 43) rfl))) (Or.inl (hw _ (List.mem_of_getElem? (i := 68) rfl))) (by decide) (t := .int) (t' := .boolean) (by decide) (by decide))))
      have c40 := (((F0_end.other W2 (Or.inr (slot_ne (Or.inl (hw _ (List.mem_of_getElem? (i := 41) rfl))) (Or.inl (hw _ (List.mem_of_getElem? (i := 43) rfl))) (by decide) (t := .int) (t' := .int) (by decide) (by decide)))).other W30 (Or.inr (slot_ne (Or.inl (hw _ (List.mem_of_getElem? (i := 41) rfl))) (Or.inl (hw _ (List.mem_of_getElem? (i := 28) rfl))) (by decide) (t := .int) (t' := .int) (by decide) (by decide)))).other W33 (Or.inr (slot_ne (Or.inl (hw _ (List.mem_of_getElem? (i := 41) rfl))) (Or.inl (hw _ (List.mem_of_getElem? (i := 68) rfl))) (by decide) (t := .int) (t' := .boolean) (by decide) (by decide))))
      have c41 := (((F0_line.other W2 (Or.inr (slot_ne (Or.inl (hw _ (List.mem_of_getElem? (i := 26) rfl))) (Or.inl (hw _ (List.mem_of_getElem? (i := 43) rfl))) (by decide) (t := .int) (t' := .int) (by decide) (by decide)))).other W30 (Or.inr (slot_ne (Or.inl (hw _ (List.mem_of_getElem? (i := 26) rfl))) (Or.inl (hw _ (List.mem_of_getElem? (i := 28) rfl))) (by decide) (t := .int) (t' := .int) (by decide) (by decide)))).other W33 (Or.inr (slot_ne (Or.inl (hw _ (List.mem_of_getElem? (i := 26) rfl))) (Or.inl (hw _ (List.mem_of_getElem? (i := 68) rfl))) (by decide) (t := .int) (t' := .boolean) (by decide) (by decide))))
      have c42 := (Fw30.other W33 (Or.inr (slot_ne (Or.inl (hw _ (List.mem_of_getElem? (i := 28) rfl))) (Or.inl (hw _ (List.mem_of_getElem? (i := 68) rfl))) (by decide) (t := .int) (t' := .boolean) (by decide) (by decide))))
      have c43 := (((Ob0.other W2 (Ne.symm hub)).other W30 (Ne.symm hub)).other W33 (Ne.symm hub))
      have c44 := (((Ow0.other W2 (Ne.symm huw)).other W30 (Ne.symm huw)).other W33 (Ne.symm huw))
      refine OGo.outV X33 hx Bd.returns Bd.notSynchronized (hb hby d11_90) ?_ (by decide) (by decide)
      rw [e33]
      rw [show aLn ch cr ln = ln from by simp +decide only [aLn, hc13_3, hc20_6, if_true, if_false, reduceIte]]
      rw [show aCo ch co = (1 : Int32) from by simp +decide only [aCo, hc13_3, hc20_6, if_true, if_false, reduceIte]]
      rw [show aCr ch = (0 : Int32) from by simp +decide only [aCr, hc13_3, hc20_6, if_true, if_false, reduceIte]]
      exact ⟨rfl, N33, Z33, ⟨c34, c35, c36, c37, c38, c39, c40, c41, c42, Fw33, c43, c44⟩⟩
  · refine OGo.st (fun t k => XS.icmpYes X2.here hx rfl (pc0 := 13) (pc' := 46) rfl (hb hby d11_13) rfl (feq hc13_3).2 (by decide) (by decide) k) ?_
    show OGo p e below _ (T2.setTop (mkF m 46 #[.val (.ref u), .val (.int ch)] []))
    refine OGo.st (fun t k => XS.iloadN X2.here hx rfl (hb hby d11_46) rfl k) ?_
    show OGo p e below _ (T2.setTop (mkF m 47 #[.val (.ref u), .val (.int ch)] [(.int ch)]))
    refine OGo.st (fun t k => XS.bipush X2.here hx rfl (hb hby d11_47) k) ?_
    show OGo p e below _ (T2.setTop (mkF m 49 #[.val (.ref u), .val (.int ch)] [(.int (13 : Int32)), (.int ch)]))
    by_cases hc49_45 : ch = (13 : Int32)
    · refine OGo.st (fun t k => XS.icmpNo X2.here hx rfl (hb hby d11_49) rfl (teq hc49_45).2 k) ?_
      show OGo p e below _ (T2.setTop (mkF m 52 #[.val (.ref u), .val (.int ch)] []))
      refine OGo.st (fun t k => XS.aloadN X2.here hx rfl (hb hby d11_52) rfl rfl k) ?_
      show OGo p e below _ (T2.setTop (mkF m 53 #[.val (.ref u), .val (.int ch)] [(.ref u)]))
      refine OGo.st (fun t k => XS.dup X2.here hx rfl (hb hby d11_53) rfl rfl k) ?_
      show OGo p e below _ (T2.setTop (mkF m 54 #[.val (.ref u), .val (.int ch)] [(.ref u), (.ref u)]))
      have c46 := (F0_line.other W2 (Or.inr (slot_ne (Or.inl (hw _ (List.mem_of_getElem? (i := 26) rfl))) (Or.inl (hw _ (List.mem_of_getElem? (i := 43) rfl))) (by decide) (t := .int) (t' := .int) (by decide) (by decide))))
      obtain ⟨T47, X47, e47, st47⟩ := getF X2 hx hZ hown (host := "") (Or.inl (hw _ (List.mem_of_getElem? (i := 25) rfl))) Via.refl e2 c46 (g := (mkF m 54 #[.val (.ref u), .val (.int ch)] [(.ref u), (.ref u)])) rfl rfl (hb hby d11_54)
      refine OGo.st (fun t k => st47 t k) ?_
      show OGo p e below _ (T47.setTop (mkF m 57 #[.val (.ref u), .val (.int ch)] [(.int ln), (.ref u)]))
      refine OGo.st (fun t k => XS.iconst X47.here hx rfl (hb hby d11_57) k) ?_
      show OGo p e below _ (T47.setTop (mkF m 58 #[.val (.ref u), .val (.int ch)] [(.int (1 : Int32)), (.int ln), (.ref u)]))
      refine OGo.st (fun t k => XS.iadd X47.here hx rfl (hb hby d11_58) rfl k) ?_
      show OGo p e below _ (T47.setTop (mkF m 59 #[.val (.ref u), .val (.int ch)] [(.int (ln + (1 : Int32))), (.ref u)]))
      have c48 := (E0.wr W2)
      obtain ⟨T49, h49, X49, e49, W49, st49⟩ := putF X47 hx hZ hown (host := "") (Or.inl (hw _ (List.mem_of_getElem? (i := 25) rfl))) Via.refl e47 c46 c48 (Or.inl (hw _ (List.mem_of_getElem? (i := 26) rfl))) (hw _ (List.mem_of_getElem? (i := 9) rfl)) (ty := .int) (by decide) rfl rfl (g := (mkF m 59 #[.val (.ref u), .val (.int ch)] [(.int (ln + (1 : Int32))), (.ref u)])) rfl rfl (hb hby d11_59)
      have Fw49 := c46.same W49
      have N49 := Fr.snoc X49 N2 gu
      have Z49 : n0 ≤ h49.size := Nat.le_trans Z2 (Keep.of_wr W49).1
      obtain ⟨lo49, X49, N49⟩ : ∃ L, Stand p l e ({ frames := 0, cells := 0, slots := 0, locals := 0 } : Room) s m #[(.ref u), (.int ch)] below meth c T49 L 0 0 ∧ Fr n0 L := ⟨_, X49, N49⟩
      refine OGo.st (fun t k => st49 t k) ?_
      show OGo p e below _ (T49.setTop (mkF m 62 #[.val (.ref u), .val (.int ch)] []))
      refine OGo.st (fun t k => XS.aloadN X49.here hx rfl (hb hby d11_62) rfl rfl k) ?_
      show OGo p e below _ (T49.setTop (mkF m 63 #[.val (.ref u), .val (.int ch)] [(.ref u)]))
      refine OGo.st (fun t k => XS.iconst X49.here hx rfl (hb hby d11_63) k) ?_
      show OGo p e below _ (T49.setTop (mkF m 64 #[.val (.ref u), .val (.int ch)] [(.int (1 : Int32)), (.ref u)]))
      have c50 := ((F0_column.other W2 (Or.inr (slot_ne (Or.inl (hw _ (List.mem_of_getElem? (i := 28) rfl))) (Or.inl (hw _ (List.mem_of_getElem? (i := 43) rfl))) (by decide) (t := .int) (t' := .int) (by decide) (by decide)))).other W49 (Or.inr (slot_ne (Or.inl (hw _ (List.mem_of_getElem? (i := 28) rfl))) (Or.inl (hw _ (List.mem_of_getElem? (i := 26) rfl))) (by decide) (t := .int) (t' := .int) (by decide) (by decide))))
      have c51 := (c48.wr W49)
      obtain ⟨T52, h52, X52, e52, W52, st52⟩ := putF X49 hx hZ hown (host := "") (Or.inl (hw _ (List.mem_of_getElem? (i := 27) rfl))) Via.refl e49 c50 c51 (Or.inl (hw _ (List.mem_of_getElem? (i := 28) rfl))) (hw _ (List.mem_of_getElem? (i := 9) rfl)) (ty := .int) (by decide) rfl rfl (g := (mkF m 64 #[.val (.ref u), .val (.int ch)] [(.int (1 : Int32)), (.ref u)])) rfl rfl (hb hby d11_64)
      have Fw52 := c50.same W52
      have N52 := Fr.snoc X52 N49 gu
      have Z52 : n0 ≤ h52.size := Nat.le_trans Z49 (Keep.of_wr W52).1
      obtain ⟨lo52, X52, N52⟩ : ∃ L, Stand p l e ({ frames := 0, cells := 0, slots := 0, locals := 0 } : Room) s m #[(.ref u), (.int ch)] below meth c T52 L 0 0 ∧ Fr n0 L := ⟨_, X52, N52⟩
      refine OGo.st (fun t k => st52 t k) ?_
      show OGo p e below _ (T52.setTop (mkF m 67 #[.val (.ref u), .val (.int ch)] []))
      refine OGo.st (fun t k => XS.aloadN X52.here hx rfl (hb hby d11_67) rfl rfl k) ?_
      show OGo p e below _ (T52.setTop (mkF m 68 #[.val (.ref u), .val (.int ch)] [(.ref u)]))
      refine OGo.st (fun t k => XS.iconst X52.here hx rfl (hb hby d11_68) k) ?_
      show OGo p e below _ (T52.setTop (mkF m 69 #[.val (.ref u), .val (.int ch)] [(.int (1 : Int32)), (.ref u)]))
      have c53 := (((F0_afterCarriageReturn.other W2 (Or.inr (slot_ne (Or.inl (hw _ (List.mem_of_getElem? (i := 68) rfl))) (Or.inl (hw _ (List.mem_of_getElem? (i := 43) rfl))) (by decide) (t := .boolean) (t' := .int) (by decide) (by decide)))).other W49 (Or.inr (slot_ne (Or.inl (hw _ (List.mem_of_getElem? (i := 68) rfl))) (Or.inl (hw _ (List.mem_of_getElem? (i := 26) rfl))) (by decide) (t := .boolean) (t' := .int) (by decide) (by decide)))).other W52 (Or.inr (slot_ne (Or.inl (hw _ (List.mem_of_getElem? (i := 68) rfl))) (Or.inl (hw _ (List.mem_of_getElem? (i := 28) rfl))) (by decide) (t := .boolean) (t' := .int) (by decide) (by decide))))
      have c54 := (c51.wr W52)
      obtain ⟨T55, h55, X55, e55, W55, st55⟩ := putFN X52 hx hZ hown (hw _ (List.mem_of_getElem? (i := 67) rfl)) Via.refl e52 c53 c54 (Or.inl (hw _ (List.mem_of_getElem? (i := 68) rfl))) (hw _ (List.mem_of_getElem? (i := 9) rfl)) (ty := .boolean) (v' := (.int (1 : Int32))) (by decide) rfl (by decide) (g := (mkF m 69 #[.val (.ref u), .val (.int ch)] [(.int (1 : Int32)), (.ref u)])) rfl rfl (hb hby d11_69)
      have Fw55 := c53.same W55
      have N55 := Fr.snoc X55 N52 gu
      have Z55 : n0 ≤ h55.size := Nat.le_trans Z52 (Keep.of_wr W55).1
      obtain ⟨lo55, X55, N55⟩ : ∃ L, Stand p l e ({ frames := 0, cells := 0, slots := 0, locals := 0 } : Room) s m #[(.ref u), (.int ch)] below meth c T55 L 0 0 ∧ Fr n0 L := ⟨_, X55, N55⟩
      refine OGo.st (fun t k => st55 t k) ?_
      show OGo p e below _ (T55.setTop (mkF m 72 #[.val (.ref u), .val (.int ch)] []))
      refine OGo.st (fun t k => XS.goto X55.here hx rfl (pc0 := 72) (pc' := 90) rfl (hb hby d11_72) (by decide) (by decide) k) ?_
      show OGo p e below _ (T55.setTop (mkF m 90 #[.val (.ref u), .val (.int ch)] []))
      have c56 := (c54.wr W55)
      have c57 := ((((F0_bytes.other W2 (Or.inr (slot_ne (Or.inr (hw _ (List.mem_of_getElem? (i := 32) rfl))) (Or.inl (hw _ (List.mem_of_getElem? (i := 43) rfl))) (by decide) (t := (.array .byte)) (t' := .int) (by decide) (by decide)))).other W49 (Or.inr (slot_ne (Or.inr (hw _ (List.mem_of_getElem? (i := 32) rfl))) (Or.inl (hw _ (List.mem_of_getElem? (i := 26) rfl))) (by decide) (t := (.array .byte)) (t' := .int) (by decide) (by decide)))).other W52 (Or.inr (slot_ne (Or.inr (hw _ (List.mem_of_getElem? (i := 32) rfl))) (Or.inl (hw _ (List.mem_of_getElem? (i := 28) rfl))) (by decide) (t := (.array .byte)) (t' := .int) (by decide) (by decide)))).other W55 (Or.inr (slot_ne (Or.inr (hw _ (List.mem_of_getElem? (i := 32) rfl))) (Or.inl (hw _ (List.mem_of_getElem? (i := 68) rfl))) (by decide) (t := (.array .byte)) (t' := .boolean) (by decide) (by decide))))
      have c58 := ((((F0_byteLimit.other W2 (Or.inr (slot_ne (Or.inl (hw _ (List.mem_of_getElem? (i := 34) rfl))) (Or.inl (hw _ (List.mem_of_getElem? (i := 43) rfl))) (by decide) (t := .int) (t' := .int) (by decide) (by decide)))).other W49 (Or.inr (slot_ne (Or.inl (hw _ (List.mem_of_getElem? (i := 34) rfl))) (Or.inl (hw _ (List.mem_of_getElem? (i := 26) rfl))) (by decide) (t := .int) (t' := .int) (by decide) (by decide)))).other W52 (Or.inr (slot_ne (Or.inl (hw _ (List.mem_of_getElem? (i := 34) rfl))) (Or.inl (hw _ (List.mem_of_getElem? (i := 28) rfl))) (by decide) (t := .int) (t' := .int) (by decide) (by decide)))).other W55 (Or.inr (slot_ne (Or.inl (hw _ (List.mem_of_getElem? (i := 34) rfl))) (Or.inl (hw _ (List.mem_of_getElem? (i := 68) rfl))) (by decide) (t := .int) (t' := .boolean) (by decide) (by decide))))
      have c59 := ((((F0_bytePosition.other W2 (Or.inr (slot_ne (Or.inl (hw _ (List.mem_of_getElem? (i := 57) rfl))) (Or.inl (hw _ (List.mem_of_getElem? (i := 43) rfl))) (by decide) (t := .int) (t' := .int) (by decide) (by decide)))).other W49 (Or.inr (slot_ne (Or.inl (hw _ (List.mem_of_getElem? (i := 57) rfl))) (Or.inl (hw _ (List.mem_of_getElem? (i := 26) rfl))) (by decide) (t := .int) (t' := .int) (by decide) (by decide)))).other W52 (Or.inr (slot_ne (Or.inl (hw _ (List.mem_of_getElem? (i := 57) rfl))) (Or.inl (hw _ (List.mem_of_getElem? (i := 28) rfl))) (by decide) (t := .int) (t' := .int) (by decide) (by decide)))).other W55 (Or.inr (slot_ne (Or.inl (hw _ (List.mem_of_getElem? (i := 57) rfl))) (Or.inl (hw _ (List.mem_of_getElem? (i := 68) rfl))) (by decide) (t := .int) (t' := .boolean) (by decide) (by decide))))
      have c60 := ((((F0_window.other W2 (Or.inr (slot_ne (Or.inl (hw _ (List.mem_of_getElem? (i := 24) rfl))) (Or.inl (hw _ (List.mem_of_getElem? (i := 43) rfl))) (by decide) (t := (.array .int)) (t' := .int) (by decide) (by decide)))).other W49 (Or.inr (slot_ne (Or.inl (hw _ (List.mem_of_getElem? (i := 24) rfl))) (Or.inl (hw _ (List.mem_of_getElem? (i := 26) rfl))) (by decide) (t := (.array .int)) (t' := .int) (by decide) (by decide)))).other W52 (Or.inr (slot_ne (Or.inl (hw _ (List.mem_of_getElem? (i := 24) rfl))) (Or.inl (hw _ (List.mem_of_getElem? (i := 28) rfl))) (by decide) (t := (.array .int)) (t' := .int) (by decide) (by decide)))).other W55 (Or.inr (slot_ne (Or.inl (hw _ (List.mem_of_getElem? (i := 24) rfl))) (Or.inl (hw _ (List.mem_of_getElem? (i := 68) rfl))) (by decide) (t := (.array .int)) (t' := .boolean) (by decide) (by decide))))
      have c61 := (((Fw2.other W49 (Or.inr (slot_ne (Or.inl (hw _ (List.mem_of_getElem? (i := 43) rfl))) (Or.inl (hw _ (List.mem_of_getElem? (i := 26) rfl))) (by decide) (t := .int) (t' := .int) (by decide) (by decide)))).other W52 (Or.inr (slot_ne (Or.inl (hw _ (List.mem_of_getElem? (i := 43) rfl))) (Or.inl (hw _ (List.mem_of_getElem? (i := 28) rfl))) (by decide) (t := .int) (t' := .int) (by decide) (by decide)))).other W55 (Or.inr (slot_ne (Or.inl (hw _ (List.mem_of_getElem? (i := 43) rfl))) (Or.inl (hw _ (List.mem_of_getElem? (i := 68) rfl))) (by decide) (t := .int) (t' := .boolean) (by decide) (by decide))))
      have c62 := ((((F0_end.other W2 (Or.inr (slot_ne (Or.inl (hw _ (List.mem_of_getElem? (i := 41) rfl))) (Or.inl (hw _ (List.mem_of_getElem? (i := 43) rfl))) (by decide) (t := .int) (t' := .int) (by decide) (by decide)))).other W49 (Or.inr (slot_ne (Or.inl (hw _ (List.mem_of_getElem? (i := 41) rfl))) (Or.inl (hw _ (List.mem_of_getElem? (i := 26) rfl))) (by decide) (t := .int) (t' := .int) (by decide) (by decide)))).other W52 (Or.inr (slot_ne (Or.inl (hw _ (List.mem_of_getElem? (i := 41) rfl))) (Or.inl (hw _ (List.mem_of_getElem? (i := 28) rfl))) (by decide) (t := .int) (t' := .int) (by decide) (by decide)))).other W55 (Or.inr (slot_ne (Or.inl (hw _ (List.mem_of_getElem? (i := 41) rfl))) (Or.inl (hw _ (List.mem_of_getElem? (i := 68) rfl))) (by decide) (t := .int) (t' := .boolean) (by decide) (by decide))))
      have c63 := ((Fw49.other W52 (Or.inr (slot_ne (Or.inl (hw _ (List.mem_of_getElem? (i := 26) rfl))) (Or.inl (hw _ (List.mem_of_getElem? (i := 28) rfl))) (by decide) (t := .int) (t' := .int) (by decide) (by decide)))).other W55 (Or.inr (slot_ne (Or.inl (hw _ (List.mem_of_getElem? (i := 26) rfl))) (Or.inl (hw _ (List.mem_of_getElem? (i := 68) rfl))) (by decide) (t := .int) (t' := .boolean) (by decide) (by decide))))
      have c64 := (Fw52.other W55 (Or.inr (slot_ne (Or.inl (hw _ (List.mem_of_getElem? (i := 28) rfl))) (Or.inl (hw _ (List.mem_of_getElem? (i := 68) rfl))) (by decide) (t := .int) (t' := .boolean) (by decide) (by decide))))
      have c65 := ((((Ob0.other W2 (Ne.symm hub)).other W49 (Ne.symm hub)).other W52 (Ne.symm hub)).other W55 (Ne.symm hub))
      have c66 := ((((Ow0.other W2 (Ne.symm huw)).other W49 (Ne.symm huw)).other W52 (Ne.symm huw)).other W55 (Ne.symm huw))
      refine OGo.outV X55 hx Bd.returns Bd.notSynchronized (hb hby d11_90) ?_ (by decide) (by decide)
      rw [e55]
      rw [show aLn ch cr ln = (ln + (1 : Int32)) from by simp +decide only [aLn, hc13_3, hc49_45, if_true, if_false, reduceIte]]
      rw [show aCo ch co = (1 : Int32) from by simp +decide only [aCo, hc13_3, hc49_45, if_true, if_false, reduceIte]]
      rw [show aCr ch = (1 : Int32) from by simp +decide only [aCr, hc13_3, hc49_45, if_true, if_false, reduceIte]]
      exact ⟨rfl, N55, Z55, ⟨c56, c57, c58, c59, c60, c61, c62, c63, c64, Fw55, c65, c66⟩⟩
    · refine OGo.st (fun t k => XS.icmpYes X2.here hx rfl (pc0 := 49) (pc' := 75) rfl (hb hby d11_49) rfl (feq hc49_45).2 (by decide) (by decide) k) ?_
      show OGo p e below _ (T2.setTop (mkF m 75 #[.val (.ref u), .val (.int ch)] []))
      refine OGo.st (fun t k => XS.aloadN X2.here hx rfl (hb hby d11_75) rfl rfl k) ?_
      show OGo p e below _ (T2.setTop (mkF m 76 #[.val (.ref u), .val (.int ch)] [(.ref u)]))
      refine OGo.st (fun t k => XS.dup X2.here hx rfl (hb hby d11_76) rfl rfl k) ?_
      show OGo p e below _ (T2.setTop (mkF m 77 #[.val (.ref u), .val (.int ch)] [(.ref u), (.ref u)]))
      have c67 := (F0_column.other W2 (Or.inr (slot_ne (Or.inl (hw _ (List.mem_of_getElem? (i := 28) rfl))) (Or.inl (hw _ (List.mem_of_getElem? (i := 43) rfl))) (by decide) (t := .int) (t' := .int) (by decide) (by decide))))
      obtain ⟨T68, X68, e68, st68⟩ := getF X2 hx hZ hown (host := "") (Or.inl (hw _ (List.mem_of_getElem? (i := 27) rfl))) Via.refl e2 c67 (g := (mkF m 77 #[.val (.ref u), .val (.int ch)] [(.ref u), (.ref u)])) rfl rfl (hb hby d11_77)
      refine OGo.st (fun t k => st68 t k) ?_
      show OGo p e below _ (T68.setTop (mkF m 80 #[.val (.ref u), .val (.int ch)] [(.int co), (.ref u)]))
      refine OGo.st (fun t k => XS.iconst X68.here hx rfl (hb hby d11_80) k) ?_
      show OGo p e below _ (T68.setTop (mkF m 81 #[.val (.ref u), .val (.int ch)] [(.int (1 : Int32)), (.int co), (.ref u)]))
      refine OGo.st (fun t k => XS.iadd X68.here hx rfl (hb hby d11_81) rfl k) ?_
      show OGo p e below _ (T68.setTop (mkF m 82 #[.val (.ref u), .val (.int ch)] [(.int (co + (1 : Int32))), (.ref u)]))
      have c69 := (E0.wr W2)
      obtain ⟨T70, h70, X70, e70, W70, st70⟩ := putF X68 hx hZ hown (host := "") (Or.inl (hw _ (List.mem_of_getElem? (i := 27) rfl))) Via.refl e68 c67 c69 (Or.inl (hw _ (List.mem_of_getElem? (i := 28) rfl))) (hw _ (List.mem_of_getElem? (i := 9) rfl)) (ty := .int) (by decide) rfl rfl (g := (mkF m 82 #[.val (.ref u), .val (.int ch)] [(.int (co + (1 : Int32))), (.ref u)])) rfl rfl (hb hby d11_82)
      have Fw70 := c67.same W70
      have N70 := Fr.snoc X70 N2 gu
      have Z70 : n0 ≤ h70.size := Nat.le_trans Z2 (Keep.of_wr W70).1
      obtain ⟨lo70, X70, N70⟩ : ∃ L, Stand p l e ({ frames := 0, cells := 0, slots := 0, locals := 0 } : Room) s m #[(.ref u), (.int ch)] below meth c T70 L 0 0 ∧ Fr n0 L := ⟨_, X70, N70⟩
      refine OGo.st (fun t k => st70 t k) ?_
      show OGo p e below _ (T70.setTop (mkF m 85 #[.val (.ref u), .val (.int ch)] []))
      refine OGo.st (fun t k => XS.aloadN X70.here hx rfl (hb hby d11_85) rfl rfl k) ?_
      show OGo p e below _ (T70.setTop (mkF m 86 #[.val (.ref u), .val (.int ch)] [(.ref u)]))
      refine OGo.st (fun t k => XS.iconst X70.here hx rfl (hb hby d11_86) k) ?_
      show OGo p e below _ (T70.setTop (mkF m 87 #[.val (.ref u), .val (.int ch)] [(.int (0 : Int32)), (.ref u)]))
      have c71 := ((F0_afterCarriageReturn.other W2 (Or.inr (slot_ne (Or.inl (hw _ (List.mem_of_getElem? (i := 68) rfl))) (Or.inl (hw _ (List.mem_of_getElem? (i := 43) rfl))) (by decide) (t := .boolean) (t' := .int) (by decide) (by decide)))).other W70 (Or.inr (slot_ne (Or.inl (hw _ (List.mem_of_getElem? (i := 68) rfl))) (Or.inl (hw _ (List.mem_of_getElem? (i := 28) rfl))) (by decide) (t := .boolean) (t' := .int) (by decide) (by decide))))
      have c72 := (c69.wr W70)
      obtain ⟨T73, h73, X73, e73, W73, st73⟩ := putFN X70 hx hZ hown (hw _ (List.mem_of_getElem? (i := 67) rfl)) Via.refl e70 c71 c72 (Or.inl (hw _ (List.mem_of_getElem? (i := 68) rfl))) (hw _ (List.mem_of_getElem? (i := 9) rfl)) (ty := .boolean) (v' := (.int (0 : Int32))) (by decide) rfl (by decide) (g := (mkF m 87 #[.val (.ref u), .val (.int ch)] [(.int (0 : Int32)), (.ref u)])) rfl rfl (hb hby d11_87)
      have Fw73 := c71.same W73
      have N73 := Fr.snoc X73 N70 gu
      have Z73 : n0 ≤ h73.size := Nat.le_trans Z70 (Keep.of_wr W73).1
      obtain ⟨lo73, X73, N73⟩ : ∃ L, Stand p l e ({ frames := 0, cells := 0, slots := 0, locals := 0 } : Room) s m #[(.ref u), (.int ch)] below meth c T73 L 0 0 ∧ Fr n0 L := ⟨_, X73, N73⟩
      refine OGo.st (fun t k => st73 t k) ?_
      show OGo p e below _ (T73.setTop (mkF m 90 #[.val (.ref u), .val (.int ch)] []))
      have c74 := (c72.wr W73)
      have c75 := (((F0_bytes.other W2 (Or.inr (slot_ne (Or.inr (hw _ (List.mem_of_getElem? (i := 32) rfl))) (Or.inl (hw _ (List.mem_of_getElem? (i := 43) rfl))) (by decide) (t := (.array .byte)) (t' := .int) (by decide) (by decide)))).other W70 (Or.inr (slot_ne (Or.inr (hw _ (List.mem_of_getElem? (i := 32) rfl))) (Or.inl (hw _ (List.mem_of_getElem? (i := 28) rfl))) (by decide) (t := (.array .byte)) (t' := .int) (by decide) (by decide)))).other W73 (Or.inr (slot_ne (Or.inr (hw _ (List.mem_of_getElem? (i := 32) rfl))) (Or.inl (hw _ (List.mem_of_getElem? (i := 68) rfl))) (by decide) (t := (.array .byte)) (t' := .boolean) (by decide) (by decide))))
      have c76 := (((F0_byteLimit.other W2 (Or.inr (slot_ne (Or.inl (hw _ (List.mem_of_getElem? (i := 34) rfl))) (Or.inl (hw _ (List.mem_of_getElem? (i := 43) rfl))) (by decide) (t := .int) (t' := .int) (by decide) (by decide)))).other W70 (Or.inr (slot_ne (Or.inl (hw _ (List.mem_of_getElem? (i := 34) rfl))) (Or.inl (hw _ (List.mem_of_getElem? (i := 28) rfl))) (by decide) (t := .int) (t' := .int) (by decide) (by decide)))).other W73 (Or.inr (slot_ne (Or.inl (hw _ (List.mem_of_getElem? (i := 34) rfl))) (Or.inl (hw _ (List.mem_of_getElem? (i := 68) rfl))) (by decide) (t := .int) (t' := .boolean) (by decide) (by decide))))
      have c77 := (((F0_bytePosition.other W2 (Or.inr (slot_ne (Or.inl (hw _ (List.mem_of_getElem? (i := 57) rfl))) (Or.inl (hw _ (List.mem_of_getElem? (i := 43) rfl))) (by decide) (t := .int) (t' := .int) (by decide) (by decide)))).other W70 (Or.inr (slot_ne (Or.inl (hw _ (List.mem_of_getElem? (i := 57) rfl))) (Or.inl (hw _ (List.mem_of_getElem? (i := 28) rfl))) (by decide) (t := .int) (t' := .int) (by decide) (by decide)))).other W73 (Or.inr (slot_ne (Or.inl (hw _ (List.mem_of_getElem? (i := 57) rfl))) (Or.inl (hw _ (List.mem_of_getElem? (i := 68) rfl))) (by decide) (t := .int) (t' := .boolean) (by decide) (by decide))))
      have c78 := (((F0_window.other W2 (Or.inr (slot_ne (Or.inl (hw _ (List.mem_of_getElem? (i := 24) rfl))) (Or.inl (hw _ (List.mem_of_getElem? (i := 43) rfl))) (by decide) (t := (.array .int)) (t' := .int) (by decide) (by decide)))).other W70 (Or.inr (slot_ne (Or.inl (hw _ (List.mem_of_getElem? (i := 24) rfl))) (Or.inl (hw _ (List.mem_of_getElem? (i := 28) rfl))) (by decide) (t := (.array .int)) (t' := .int) (by decide) (by decide)))).other W73 (Or.inr (slot_ne (Or.inl (hw _ (List.mem_of_getElem? (i := 24) rfl))) (Or.inl (hw _ (List.mem_of_getElem? (i := 68) rfl))) (by decide) (t := (.array .int)) (t' := .boolean) (by decide) (by decide))))
      have c79 := ((Fw2.other W70 (Or.inr (slot_ne (Or.inl (hw _ (List.mem_of_getElem? (i := 43) rfl))) (Or.inl (hw _ (List.mem_of_getElem? (i := 28) rfl))) (by decide) (t := .int) (t' := .int) (by decide) (by decide)))).other W73 (Or.inr (slot_ne (Or.inl (hw _ (List.mem_of_getElem? (i := 43) rfl))) (Or.inl (hw _ (List.mem_of_getElem? (i := 68) rfl))) (by decide) (t := .int) (t' := .boolean) (by decide) (by decide))))
      have c80 := (((F0_end.other W2 (Or.inr (slot_ne (Or.inl (hw _ (List.mem_of_getElem? (i := 41) rfl))) (Or.inl (hw _ (List.mem_of_getElem? (i := 43) rfl))) (by decide) (t := .int) (t' := .int) (by decide) (by decide)))).other W70 (Or.inr (slot_ne (Or.inl (hw _ (List.mem_of_getElem? (i := 41) rfl))) (Or.inl (hw _ (List.mem_of_getElem? (i := 28) rfl))) (by decide) (t := .int) (t' := .int) (by decide) (by decide)))).other W73 (Or.inr (slot_ne (Or.inl (hw _ (List.mem_of_getElem? (i := 41) rfl))) (Or.inl (hw _ (List.mem_of_getElem? (i := 68) rfl))) (by decide) (t := .int) (t' := .boolean) (by decide) (by decide))))
      have c81 := (((F0_line.other W2 (Or.inr (slot_ne (Or.inl (hw _ (List.mem_of_getElem? (i := 26) rfl))) (Or.inl (hw _ (List.mem_of_getElem? (i := 43) rfl))) (by decide) (t := .int) (t' := .int) (by decide) (by decide)))).other W70 (Or.inr (slot_ne (Or.inl (hw _ (List.mem_of_getElem? (i := 26) rfl))) (Or.inl (hw _ (List.mem_of_getElem? (i := 28) rfl))) (by decide) (t := .int) (t' := .int) (by decide) (by decide)))).other W73 (Or.inr (slot_ne (Or.inl (hw _ (List.mem_of_getElem? (i := 26) rfl))) (Or.inl (hw _ (List.mem_of_getElem? (i := 68) rfl))) (by decide) (t := .int) (t' := .boolean) (by decide) (by decide))))
      have c82 := (Fw70.other W73 (Or.inr (slot_ne (Or.inl (hw _ (List.mem_of_getElem? (i := 28) rfl))) (Or.inl (hw _ (List.mem_of_getElem? (i := 68) rfl))) (by decide) (t := .int) (t' := .boolean) (by decide) (by decide))))
      have c83 := (((Ob0.other W2 (Ne.symm hub)).other W70 (Ne.symm hub)).other W73 (Ne.symm hub))
      have c84 := (((Ow0.other W2 (Ne.symm huw)).other W70 (Ne.symm huw)).other W73 (Ne.symm huw))
      refine OGo.outV X73 hx Bd.returns Bd.notSynchronized (hb hby d11_90) ?_ (by decide) (by decide)
      rw [e73]
      rw [show aLn ch cr ln = ln from by simp +decide only [aLn, hc13_3, hc49_45, if_true, if_false, reduceIte]]
      rw [show aCo ch co = (co + (1 : Int32)) from by simp +decide only [aCo, hc13_3, hc49_45, if_true, if_false, reduceIte]]
      rw [show aCr ch = (0 : Int32) from by simp +decide only [aCr, hc13_3, hc49_45, if_true, if_false, reduceIte]]
      exact ⟨rfl, N73, Z73, ⟨c74, c75, c76, c77, c78, c79, c80, c81, c82, Fw73, c83, c84⟩⟩
theorem d14_0 : decode prog_169_method_7_code 0 = .ok (.aload_n 0, 1) := by decide +kernel
theorem d14_1 : decode prog_169_method_7_code 1 = .ok (.getfield 13, 3) := by decide +kernel
theorem d14_4 : decode prog_169_method_7_code 4 = .ok (.ireturn, 1) := by decide +kernel
theorem pn14 : plainName "com/example/triadne/triadne/Utf8Input" = true := by first | (simp [plainName, overriddenIn]; done) | decide +kernel
theorem ef14 (m : MethodId) (u : Addr) : entryFrame m #[(.ref u)] 1 = mkF m 0 #[.val (.ref u)] [] := by first | (simp [entryFrame, mkF, argsToLocals, Value.category]; done) | rfl
set_option maxRecDepth 65536 in
set_option maxHeartbeats 40000000 in
theorem rm14 (l : Launch) (Z : State) (a0 : Array Value) (hw : ∀ d ∈ tables_1, d.before a0 Z = true) (ws : List Jvm.Cond) (u : Addr) (b : Addr) (w : Addr) (f : Nat → Int32) (g : Nat → Int32) (bp : Nat) (st : Nat) (en : Nat) (ln : Int32) (co : Int32) (cr : Int32) (h0 : Heap) (n0 : Nat) (Z0 : n0 ≤ h0.size) (U : UI Z h0 u b w f g bp st en ln co cr) (hub : u ≠ b) (huw : u ≠ w) (hbw : b ≠ w) (gu : n0 ≤ u) (gw : n0 ≤ w) :
    MetFree l (⟨"com/example/triadne/triadne/Utf8Input", "line", "()I"⟩ : MethodName) (head1 (Jvm.Cond.code (⟨"com/example/triadne/triadne/Utf8Input", "line", "()I"⟩ : MethodName) prog_169_method_7_code 1 (some .int) :: ws) ({ frames := 0, cells := 0, slots := 0, locals := 0 } : Room)) (fun a U => a = #[(.ref u)] ∧ Z.Warmed39 U.vm ∧ U.heap = h0) (fun _ _ _ _ _ => True) (fun _ U o U' => ∃ v L, o = .returned v ∧ PI n0 h0 ln v U'.heap L ∧ FrameEnd U o U' L ({ frames := 0, cells := 0, slots := 0, locals := 0 } : Room).cells ({ frames := 0, cells := 0, slots := 0, locals := 0 } : Room).slots) := by
  refine MetFree.of_bodySF (plainFor_of_name pn14) hisR ?_
  intro p e s m args below meth c s₁ Bd hml0 hP hK
  obtain ⟨rfl, hZ, hh⟩ := hP
  have hx := Bd.exec
  have hby := Bd.bytes
  have hml : c.maxLocals = 1 := hml0
  have hown : s.vm.findClass "com/example/triadne/triadne/Utf8Input" = some m.cls := findClass_of_methodNamed Bd.named
  have hnm := (name_of_methodNamed Bd.named Bd.method).1
  have X0 : Stand p l e ({ frames := 0, cells := 0, slots := 0, locals := 0 } : Room) s m #[(.ref u)] below meth c s₁ [] 0 0 := Stand.of_body Bd
  have e0 : s₁.heap = h0 := by rw [← hh, Bd.state]; rfl
  have N0 := Fr.nil n0
  show OGo p e below (Out s ({ frames := 0, cells := 0, slots := 0, locals := 0 } : Room).cells ({ frames := 0, cells := 0, slots := 0, locals := 0 } : Room).slots (PI n0 h0 ln)) (s₁.setTop (entryFrame m #[(.ref u)] 1))
  obtain ⟨E0, F0_bytes, F0_byteLimit, F0_bytePosition, F0_window, F0_start, F0_end, F0_line, F0_column, F0_afterCarriageReturn, Ob0, Ow0⟩ := U
  refine OGo.st (fun t k => castTop (ef14 m u) k) ?_
  show OGo p e below (Out s ({ frames := 0, cells := 0, slots := 0, locals := 0 } : Room).cells ({ frames := 0, cells := 0, slots := 0, locals := 0 } : Room).slots (PI n0 h0 ln)) (s₁.setTop (mkF m 0 #[.val (.ref u)] []))
  refine OGo.st (fun t k => XS.aloadN X0.here hx rfl (hb hby d14_0) rfl rfl k) ?_
  show OGo p e below _ (s₁.setTop (mkF m 1 #[.val (.ref u)] [(.ref u)]))
  obtain ⟨T1, X1, e1, st1⟩ := getF X0 hx hZ hown (host := "") (Or.inl (hw _ (List.mem_of_getElem? (i := 25) rfl))) Via.refl e0 F0_line (g := (mkF m 1 #[.val (.ref u)] [(.ref u)])) rfl rfl (hb hby d14_1)
  refine OGo.st (fun t k => st1 t k) ?_
  show OGo p e below _ (T1.setTop (mkF m 4 #[.val (.ref u)] [(.int ln)]))
  exact OGo.outI X1 hx Bd.returns Bd.notSynchronized (hb hby d14_4) ⟨rfl, N0, e1⟩ (by decide) (by decide)
theorem d15_0 : decode prog_169_method_8_code 0 = .ok (.aload_n 0, 1) := by decide +kernel
theorem d15_1 : decode prog_169_method_8_code 1 = .ok (.getfield 17, 3) := by decide +kernel
theorem d15_4 : decode prog_169_method_8_code 4 = .ok (.ireturn, 1) := by decide +kernel
theorem pn15 : plainName "com/example/triadne/triadne/Utf8Input" = true := by first | (simp [plainName, overriddenIn]; done) | decide +kernel
theorem ef15 (m : MethodId) (u : Addr) : entryFrame m #[(.ref u)] 1 = mkF m 0 #[.val (.ref u)] [] := by first | (simp [entryFrame, mkF, argsToLocals, Value.category]; done) | rfl
set_option maxRecDepth 65536 in
set_option maxHeartbeats 40000000 in
theorem rm15 (l : Launch) (Z : State) (a0 : Array Value) (hw : ∀ d ∈ tables_1, d.before a0 Z = true) (ws : List Jvm.Cond) (u : Addr) (b : Addr) (w : Addr) (f : Nat → Int32) (g : Nat → Int32) (bp : Nat) (st : Nat) (en : Nat) (ln : Int32) (co : Int32) (cr : Int32) (h0 : Heap) (n0 : Nat) (Z0 : n0 ≤ h0.size) (U : UI Z h0 u b w f g bp st en ln co cr) (hub : u ≠ b) (huw : u ≠ w) (hbw : b ≠ w) (gu : n0 ≤ u) (gw : n0 ≤ w) :
    MetFree l (⟨"com/example/triadne/triadne/Utf8Input", "column", "()I"⟩ : MethodName) (head1 (Jvm.Cond.code (⟨"com/example/triadne/triadne/Utf8Input", "column", "()I"⟩ : MethodName) prog_169_method_8_code 1 (some .int) :: ws) ({ frames := 0, cells := 0, slots := 0, locals := 0 } : Room)) (fun a U => a = #[(.ref u)] ∧ Z.Warmed39 U.vm ∧ U.heap = h0) (fun _ _ _ _ _ => True) (fun _ U o U' => ∃ v L, o = .returned v ∧ PI n0 h0 co v U'.heap L ∧ FrameEnd U o U' L ({ frames := 0, cells := 0, slots := 0, locals := 0 } : Room).cells ({ frames := 0, cells := 0, slots := 0, locals := 0 } : Room).slots) := by
  refine MetFree.of_bodySF (plainFor_of_name pn15) hisR ?_
  intro p e s m args below meth c s₁ Bd hml0 hP hK
  obtain ⟨rfl, hZ, hh⟩ := hP
  have hx := Bd.exec
  have hby := Bd.bytes
  have hml : c.maxLocals = 1 := hml0
  have hown : s.vm.findClass "com/example/triadne/triadne/Utf8Input" = some m.cls := findClass_of_methodNamed Bd.named
  have hnm := (name_of_methodNamed Bd.named Bd.method).1
  have X0 : Stand p l e ({ frames := 0, cells := 0, slots := 0, locals := 0 } : Room) s m #[(.ref u)] below meth c s₁ [] 0 0 := Stand.of_body Bd
  have e0 : s₁.heap = h0 := by rw [← hh, Bd.state]; rfl
  have N0 := Fr.nil n0
  show OGo p e below (Out s ({ frames := 0, cells := 0, slots := 0, locals := 0 } : Room).cells ({ frames := 0, cells := 0, slots := 0, locals := 0 } : Room).slots (PI n0 h0 co)) (s₁.setTop (entryFrame m #[(.ref u)] 1))
  obtain ⟨E0, F0_bytes, F0_byteLimit, F0_bytePosition, F0_window, F0_start, F0_end, F0_line, F0_column, F0_afterCarriageReturn, Ob0, Ow0⟩ := U
  refine OGo.st (fun t k => castTop (ef15 m u) k) ?_
  show OGo p e below (Out s ({ frames := 0, cells := 0, slots := 0, locals := 0 } : Room).cells ({ frames := 0, cells := 0, slots := 0, locals := 0 } : Room).slots (PI n0 h0 co)) (s₁.setTop (mkF m 0 #[.val (.ref u)] []))
  refine OGo.st (fun t k => XS.aloadN X0.here hx rfl (hb hby d15_0) rfl rfl k) ?_
  show OGo p e below _ (s₁.setTop (mkF m 1 #[.val (.ref u)] [(.ref u)]))
  obtain ⟨T1, X1, e1, st1⟩ := getF X0 hx hZ hown (host := "") (Or.inl (hw _ (List.mem_of_getElem? (i := 27) rfl))) Via.refl e0 F0_column (g := (mkF m 1 #[.val (.ref u)] [(.ref u)])) rfl rfl (hb hby d15_1)
  refine OGo.st (fun t k => st1 t k) ?_
  show OGo p e below _ (T1.setTop (mkF m 4 #[.val (.ref u)] [(.int co)]))
  exact OGo.outI X1 hx Bd.returns Bd.notSynchronized (hb hby d15_4) ⟨rfl, N0, e1⟩ (by decide) (by decide)
theorem d4_0 : decode prog_68_method_1_code 0 = .ok (.aload_n 0, 1) := by decide +kernel
theorem d4_1 : decode prog_68_method_1_code 1 = .ok (.invokespecial 1, 3) := by decide +kernel
theorem d4_4 : decode prog_68_method_1_code 4 = .ok (.return_, 1) := by decide +kernel
theorem pn4 : plainName "com/example/triadne/triadne/Input" = true := by first | (simp [plainName, overriddenIn]; done) | decide +kernel
theorem ef4 (m : MethodId) (u : Addr) : entryFrame m #[(.ref u)] 1 = mkF m 0 #[.val (.ref u)] [] := by first | (simp [entryFrame, mkF, argsToLocals, Value.category]; done) | rfl
set_option maxRecDepth 65536 in
set_option maxHeartbeats 40000000 in
theorem rm4 (l : Launch) (Z : State) (a0 : Array Value) (hw : ∀ d ∈ tables_1, d.before a0 Z = true) (ws : List Jvm.Cond) (u : Addr) (h0 : Heap) (n0 : Nat) (Z0 : n0 ≤ h0.size) :
    MetFree l (⟨"com/example/triadne/triadne/Input", "<init>", "()V"⟩ : MethodName) (head1 (Jvm.Cond.code (⟨"com/example/triadne/triadne/Input", "<init>", "()V"⟩ : MethodName) prog_68_method_1_code 1 none :: ws) ({ frames := 1, cells := 0, slots := 0, locals := 12 } : Room)) (fun a U => a = #[(.ref u)] ∧ Z.Warmed39 U.vm ∧ U.heap = h0) (fun _ _ _ _ _ => True) (fun _ U o U' => ∃ v L, o = .returned v ∧ (QE n0 h0) v U'.heap L ∧ FrameEnd U o U' L ({ frames := 1, cells := 0, slots := 0, locals := 12 } : Room).cells ({ frames := 1, cells := 0, slots := 0, locals := 12 } : Room).slots) := by
  refine MetFree.of_bodySF (plainFor_of_name pn4) hisR ?_
  intro p e s m args below meth c s₁ Bd hml0 hP hK
  obtain ⟨rfl, hZ, hh⟩ := hP
  have hx := Bd.exec
  have hby := Bd.bytes
  have hml : c.maxLocals = 1 := hml0
  have hown : s.vm.findClass "com/example/triadne/triadne/Input" = some m.cls := findClass_of_methodNamed Bd.named
  have hnm := (name_of_methodNamed Bd.named Bd.method).1
  have X0 : Stand p l e ({ frames := 1, cells := 0, slots := 0, locals := 12 } : Room) s m #[(.ref u)] below meth c s₁ [] 0 0 := Stand.of_body Bd
  have e0 : s₁.heap = h0 := by rw [← hh, Bd.state]; rfl
  have N0 := Fr.nil n0
  show OGo p e below (Out s ({ frames := 1, cells := 0, slots := 0, locals := 12 } : Room).cells ({ frames := 1, cells := 0, slots := 0, locals := 12 } : Room).slots ((QE n0 h0))) (s₁.setTop (entryFrame m #[(.ref u)] 1))
  refine OGo.st (fun t k => castTop (ef4 m u) k) ?_
  show OGo p e below (Out s ({ frames := 1, cells := 0, slots := 0, locals := 12 } : Room).cells ({ frames := 1, cells := 0, slots := 0, locals := 12 } : Room).slots ((QE n0 h0))) (s₁.setTop (mkF m 0 #[.val (.ref u)] []))
  refine OGo.st (fun t k => XS.aloadN X0.here hx rfl (hb hby d4_0) rfl rfl k) ?_
  show OGo p e below _ (s₁.setTop (mkF m 1 #[.val (.ref u)] [(.ref u)]))
  obtain ⟨T1, X1, e1, st1⟩ := initO X0 hx hZ hown (hw _ (List.mem_of_getElem? (i := 19) rfl)) (hw _ (List.mem_of_getElem? (i := 20) rfl)) (hw _ (List.mem_of_getElem? (i := 21) rfl)) e0 (g := (mkF m 1 #[.val (.ref u)] [(.ref u)])) rfl (by rw [hml]; rfl) rfl (hb hby d4_1) (by decide) (W := 0) (by show 2 * 0 + _ ≤ _; exact Nat.le_of_eq rfl) (by decide)
  refine OGo.st (fun t k => st1 t k) ?_
  show OGo p e below _ (T1.setTop (mkF m 4 #[.val (.ref u)] []))
  exact OGo.outV X1 hx Bd.returns Bd.notSynchronized (hb hby d4_4) ⟨rfl, N0, e1⟩ (by decide) (by decide)
theorem d3_0 : decode prog_169_method_2_code 0 = .ok (.aload_n 0, 1) := by decide +kernel
theorem d3_1 : decode prog_169_method_2_code 1 = .ok (.invokespecial 1, 3) := by decide +kernel
theorem d3_4 : decode prog_169_method_2_code 4 = .ok (.aload_n 0, 1) := by decide +kernel
theorem d3_5 : decode prog_169_method_2_code 5 = .ok (.sipush 512, 3) := by decide +kernel
theorem d3_8 : decode prog_169_method_2_code 8 = .ok (.newarray .int, 2) := by decide +kernel
theorem d3_10 : decode prog_169_method_2_code 10 = .ok (.putfield 7, 3) := by decide +kernel
theorem d3_13 : decode prog_169_method_2_code 13 = .ok (.aload_n 0, 1) := by decide +kernel
theorem d3_14 : decode prog_169_method_2_code 14 = .ok (.iconst 1, 1) := by decide +kernel
theorem d3_15 : decode prog_169_method_2_code 15 = .ok (.putfield 13, 3) := by decide +kernel
theorem d3_18 : decode prog_169_method_2_code 18 = .ok (.aload_n 0, 1) := by decide +kernel
theorem d3_19 : decode prog_169_method_2_code 19 = .ok (.iconst 1, 1) := by decide +kernel
theorem d3_20 : decode prog_169_method_2_code 20 = .ok (.putfield 17, 3) := by decide +kernel
theorem d3_23 : decode prog_169_method_2_code 23 = .ok (.aload_n 0, 1) := by decide +kernel
theorem d3_24 : decode prog_169_method_2_code 24 = .ok (.aconst_null, 1) := by decide +kernel
theorem d3_25 : decode prog_169_method_2_code 25 = .ok (.putfield 30, 3) := by decide +kernel
theorem d3_28 : decode prog_169_method_2_code 28 = .ok (.aload_n 0, 1) := by decide +kernel
theorem d3_29 : decode prog_169_method_2_code 29 = .ok (.aload_n 1, 1) := by decide +kernel
theorem d3_30 : decode prog_169_method_2_code 30 = .ok (.putfield 34, 3) := by decide +kernel
theorem d3_33 : decode prog_169_method_2_code 33 = .ok (.aload_n 0, 1) := by decide +kernel
theorem d3_34 : decode prog_169_method_2_code 34 = .ok (.aload_n 1, 1) := by decide +kernel
theorem d3_35 : decode prog_169_method_2_code 35 = .ok (.arraylength, 1) := by decide +kernel
theorem d3_36 : decode prog_169_method_2_code 36 = .ok (.putfield 38, 3) := by decide +kernel
theorem d3_39 : decode prog_169_method_2_code 39 = .ok (.return_, 1) := by decide +kernel
theorem pn3 : plainName "com/example/triadne/triadne/Utf8Input" = true := by first | (simp [plainName, overriddenIn]; done) | decide +kernel
theorem pd3_0 : parseMethodDescriptor "()V" = some ⟨[], none⟩ := by decide +kernel
theorem ef3 (m : MethodId) (u : Addr) (b : Addr) : entryFrame m #[(.ref u), (.ref b)] 2 = mkF m 0 #[.val (.ref u), .val (.ref b)] [] := by first | (simp [entryFrame, mkF, argsToLocals, Value.category]; done) | rfl
set_option maxRecDepth 65536 in
set_option maxHeartbeats 40000000 in
theorem rm3 (l : Launch) (Z : State) (a0 : Array Value) (hw : ∀ d ∈ tables_1, d.before a0 Z = true) (ws : List Jvm.Cond) (u : Addr) (b : Addr) (f : Nat → Int32) (h0 : Heap) (n0 : Nat) (Z0 : n0 ≤ h0.size) (E0 : Exa Z h0 u "com/example/triadne/triadne/Utf8Input") (F0_bytes : Fld Z h0 u "com/example/triadne/triadne/Utf8Input" "bytes" "[B" .null) (F0_byteLimit : Fld Z h0 u "com/example/triadne/triadne/Utf8Input" "byteLimit" "I" (.int (0 : Int32))) (F0_bytePosition : Fld Z h0 u "com/example/triadne/triadne/Utf8Input" "bytePosition" "I" (.int (0 : Int32))) (F0_window : Fld Z h0 u "com/example/triadne/triadne/Utf8Input" "window" "[I" .null) (F0_start : Fld Z h0 u "com/example/triadne/triadne/Utf8Input" "start" "I" (.int (0 : Int32))) (F0_end : Fld Z h0 u "com/example/triadne/triadne/Utf8Input" "end" "I" (.int (0 : Int32))) (F0_line : Fld Z h0 u "com/example/triadne/triadne/Utf8Input" "line" "I" (.int (0 : Int32))) (F0_column : Fld Z h0 u "com/example/triadne/triadne/Utf8Input" "column" "I" (.int (0 : Int32))) (F0_afterCarriageReturn : Fld Z h0 u "com/example/triadne/triadne/Utf8Input" "afterCarriageReturn" "Z" (.int (0 : Int32))) (F0_in : Fld Z h0 u "com/example/triadne/triadne/Utf8Input" "in" "Ljava/io/InputStream;" .null) (Ob0 : OA Z h0 b .byte 7 f) (hub : u ≠ b) (gu : n0 ≤ u) :
    MetFree l (⟨"com/example/triadne/triadne/Utf8Input", "<init>", "([B)V"⟩ : MethodName) (head1 (Jvm.Cond.code (⟨"com/example/triadne/triadne/Utf8Input", "<init>", "([B)V"⟩ : MethodName) prog_169_method_2_code 2 none :: ws) ({ frames := 2, cells := 1, slots := 512, locals := 24 } : Room)) (fun a U => a = #[(.ref u), (.ref b)] ∧ Z.Warmed39 U.vm ∧ U.heap = h0) (fun _ _ _ _ _ => True) (fun _ U o U' => ∃ v L, o = .returned v ∧ (Q3 Z n0 u b f) v U'.heap L ∧ FrameEnd U o U' L ({ frames := 2, cells := 1, slots := 512, locals := 24 } : Room).cells ({ frames := 2, cells := 1, slots := 512, locals := 24 } : Room).slots) := by
  refine MetFree.of_bodySF (plainFor_of_name pn3) hisR ?_
  intro p e s m args below meth c s₁ Bd hml0 hP hK
  obtain ⟨rfl, hZ, hh⟩ := hP
  have hx := Bd.exec
  have hby := Bd.bytes
  have hml : c.maxLocals = 2 := hml0
  have hown : s.vm.findClass "com/example/triadne/triadne/Utf8Input" = some m.cls := findClass_of_methodNamed Bd.named
  have hnm := (name_of_methodNamed Bd.named Bd.method).1
  have X0 : Stand p l e ({ frames := 2, cells := 1, slots := 512, locals := 24 } : Room) s m #[(.ref u), (.ref b)] below meth c s₁ [] 0 0 := Stand.of_body Bd
  have e0 : s₁.heap = h0 := by rw [← hh, Bd.state]; rfl
  have N0 := Fr.nil n0
  show OGo p e below (Out s ({ frames := 2, cells := 1, slots := 512, locals := 24 } : Room).cells ({ frames := 2, cells := 1, slots := 512, locals := 24 } : Room).slots ((Q3 Z n0 u b f))) (s₁.setTop (entryFrame m #[(.ref u), (.ref b)] 2))
  refine OGo.st (fun t k => castTop (ef3 m u b) k) ?_
  show OGo p e below (Out s ({ frames := 2, cells := 1, slots := 512, locals := 24 } : Room).cells ({ frames := 2, cells := 1, slots := 512, locals := 24 } : Room).slots ((Q3 Z n0 u b f))) (s₁.setTop (mkF m 0 #[.val (.ref u), .val (.ref b)] []))
  refine OGo.st (fun t k => XS.aloadN X0.here hx rfl (hb hby d3_0) rfl rfl k) ?_
  show OGo p e below _ (s₁.setTop (mkF m 1 #[.val (.ref u), .val (.ref b)] [(.ref u)]))
  obtain ⟨_, _, ⟨T1, L1, k1, n1⟩, -, X1, ⟨Lc1, hQ1, l1, y1, z1⟩, st1⟩ := X0.specialBack hx (y := (⟨"com/example/triadne/triadne/Input", "<init>", "()V"⟩ : MethodName)) rfl hown (mvT hZ (hw _ (List.mem_of_getElem? (i := 14) rfl))) (mvT hZ (hw _ (List.mem_of_getElem? (i := 15) rfl))) (mvT hZ (hw _ (List.mem_of_getElem? (i := 18) rfl))) (by decide) (backOf (W := 0) (rm4 l Z a0 hw [] u h0 n0 Z0) hZ (hw _ (List.mem_of_getElem? (i := 18) rfl)) (hw _ (List.mem_of_getElem? (i := 17) rfl)) (by decide) (by decide)) (g := (mkF m 1 #[.val (.ref u), .val (.ref b)] [(.ref u)])) rfl (by rw [hml]; rfl) (Steps.refl _) (a := u) (argsL := []) (rest := []) (lenOf pd3_0 rfl) rfl (by show 2 * 0 + _ ≤ _; exact Nat.le_of_eq rfl) (hb hby d3_1) (fun _ _ => ⟨rfl, e0, (by decide : 0 + 0 ≤ _), (by decide : 0 + 0 ≤ _)⟩)
  dsimp only [Pt.U, Pt.locs, Pt.cells, Pt.slots] at X1 l1 y1 z1 st1 hQ1
  subst l1 y1 z1
  obtain ⟨rfl, Nq1, e1⟩ := hQ1
  have N1 := Fr.app N0 Nq1
  obtain ⟨lo1, X1, N1⟩ : ∃ L, Stand p l e ({ frames := 2, cells := 1, slots := 512, locals := 24 } : Room) s m #[(.ref u), (.ref b)] below meth c T1 L 0 0 ∧ Fr n0 L := ⟨_, X1, N1⟩
  refine OGo.st (fun t k => st1.trans k) ?_
  show OGo p e below _ (T1.setTop (mkF m 4 #[.val (.ref u), .val (.ref b)] []))
  refine OGo.st (fun t k => XS.aloadN X1.here hx rfl (hb hby d3_4) rfl rfl k) ?_
  show OGo p e below _ (T1.setTop (mkF m 5 #[.val (.ref u), .val (.ref b)] [(.ref u)]))
  refine OGo.st (fun t k => XS.sipush X1.here hx rfl (hb hby d3_5) k) ?_
  show OGo p e below _ (T1.setTop (mkF m 8 #[.val (.ref u), .val (.ref b)] [(.int (512 : Int32)), (.ref u)]))
  obtain ⟨T2, h2, k2, X2, e2, E2, A2, st2⟩ := newP X1 hx hZ (hw _ (List.mem_of_getElem? (i := 22) rfl)) e1 (g := (mkF m 8 #[.val (.ref u), .val (.ref b)] [(.int (512 : Int32)), (.ref u)])) rfl (hb hby d3_8) rfl (by decide) (cap := 512) (by decide) (by decide) (by decide) (by decide)
  obtain ⟨b2, g2⟩ : ∃ z, z = h0.size := ⟨_, rfl⟩
  rw [← g2] at A2 st2
  have O2 : OA Z h2 b2 .int 512 (fun _ => 0) := OA.new A2 (by decide) rfl
  have gb2 : n0 ≤ b2 := Nat.le_trans Z0 (Nat.le_of_eq g2.symm)
  have Z2 : n0 ≤ h2.size := Nat.le_trans Z0 E2.1
  have ne_u_b2 : u ≠ b2 := Nat.ne_of_lt (Nat.lt_of_lt_of_le E0.lt (Nat.le_of_eq g2.symm))
  have ne_b_b2 : b ≠ b2 := Nat.ne_of_lt (Nat.lt_of_lt_of_le Ob0.lt (Nat.le_of_eq g2.symm))
  obtain ⟨lo2, X2, N2⟩ : ∃ L, Stand p l e ({ frames := 2, cells := 1, slots := 512, locals := 24 } : Room) s m #[(.ref u), (.ref b)] below meth c T2 L 1 512 ∧ Fr n0 L := ⟨_, X2, N1⟩
  refine OGo.st (fun t k => st2 t k) ?_
  show OGo p e below _ (T2.setTop (mkF m 10 #[.val (.ref u), .val (.ref b)] [(.ref b2), (.ref u)]))
  have c3 := (F0_window.ext E2)
  have c4 := (E0.ext E2)
  obtain ⟨T5, h5, X5, e5, W5, st5⟩ := putF X2 hx hZ hown (host := "") (Or.inl (hw _ (List.mem_of_getElem? (i := 23) rfl))) Via.refl e2 c3 c4 (Or.inl (hw _ (List.mem_of_getElem? (i := 24) rfl))) (hw _ (List.mem_of_getElem? (i := 9) rfl)) (ty := (.array .int)) (by decide) rfl rfl (g := (mkF m 10 #[.val (.ref u), .val (.ref b)] [(.ref b2), (.ref u)])) rfl rfl (hb hby d3_10)
  have Fw5 := c3.same W5
  have N5 := Fr.snoc X5 N2 gu
  have Z5 : n0 ≤ h5.size := Nat.le_trans Z2 (Keep.of_wr W5).1
  obtain ⟨lo5, X5, N5⟩ : ∃ L, Stand p l e ({ frames := 2, cells := 1, slots := 512, locals := 24 } : Room) s m #[(.ref u), (.ref b)] below meth c T5 L 1 512 ∧ Fr n0 L := ⟨_, X5, N5⟩
  refine OGo.st (fun t k => st5 t k) ?_
  show OGo p e below _ (T5.setTop (mkF m 13 #[.val (.ref u), .val (.ref b)] []))
  refine OGo.st (fun t k => XS.aloadN X5.here hx rfl (hb hby d3_13) rfl rfl k) ?_
  show OGo p e below _ (T5.setTop (mkF m 14 #[.val (.ref u), .val (.ref b)] [(.ref u)]))
  refine OGo.st (fun t k => XS.iconst X5.here hx rfl (hb hby d3_14) k) ?_
  show OGo p e below _ (T5.setTop (mkF m 15 #[.val (.ref u), .val (.ref b)] [(.int (1 : Int32)), (.ref u)]))
  have c6 := ((F0_line.ext E2).other W5 (Or.inr (slot_ne (Or.inl (hw _ (List.mem_of_getElem? (i := 26) rfl))) (Or.inl (hw _ (List.mem_of_getElem? (i := 24) rfl))) (by decide) (t := .int) (t' := (.array .int)) (by decide) (by decide))))
  have c7 := (c4.wr W5)
  obtain ⟨T8, h8, X8, e8, W8, st8⟩ := putF X5 hx hZ hown (host := "") (Or.inl (hw _ (List.mem_of_getElem? (i := 25) rfl))) Via.refl e5 c6 c7 (Or.inl (hw _ (List.mem_of_getElem? (i := 26) rfl))) (hw _ (List.mem_of_getElem? (i := 9) rfl)) (ty := .int) (by decide) rfl rfl (g := (mkF m 15 #[.val (.ref u), .val (.ref b)] [(.int (1 : Int32)), (.ref u)])) rfl rfl (hb hby d3_15)
  have Fw8 := c6.same W8
  have N8 := Fr.snoc X8 N5 gu
  have Z8 : n0 ≤ h8.size := Nat.le_trans Z5 (Keep.of_wr W8).1
  obtain ⟨lo8, X8, N8⟩ : ∃ L, Stand p l e ({ frames := 2, cells := 1, slots := 512, locals := 24 } : Room) s m #[(.ref u), (.ref b)] below meth c T8 L 1 512 ∧ Fr n0 L := ⟨_, X8, N8⟩
  refine OGo.st (fun t k => st8 t k) ?_
  show OGo p e below _ (T8.setTop (mkF m 18 #[.val (.ref u), .val (.ref b)] []))
  refine OGo.st (fun t k => XS.aloadN X8.here hx rfl (hb hby d3_18) rfl rfl k) ?_
  show OGo p e below _ (T8.setTop (mkF m 19 #[.val (.ref u), .val (.ref b)] [(.ref u)]))
  refine OGo.st (fun t k => XS.iconst X8.here hx rfl (hb hby d3_19) k) ?_
  show OGo p e below _ (T8.setTop (mkF m 20 #[.val (.ref u), .val (.ref b)] [(.int (1 : Int32)), (.ref u)]))
  have c9 := (((F0_column.ext E2).other W5 (Or.inr (slot_ne (Or.inl (hw _ (List.mem_of_getElem? (i := 28) rfl))) (Or.inl (hw _ (List.mem_of_getElem? (i := 24) rfl))) (by decide) (t := .int) (t' := (.array .int)) (by decide) (by decide)))).other W8 (Or.inr (slot_ne (Or.inl (hw _ (List.mem_of_getElem? (i := 28) rfl))) (Or.inl (hw _ (List.mem_of_getElem? (i := 26) rfl))) (by decide) (t := .int) (t' := .int) (by decide) (by decide))))
  have c10 := (c7.wr W8)
  obtain ⟨T11, h11, X11, e11, W11, st11⟩ := putF X8 hx hZ hown (host := "") (Or.inl (hw _ (List.mem_of_getElem? (i := 27) rfl))) Via.refl e8 c9 c10 (Or.inl (hw _ (List.mem_of_getElem? (i := 28) rfl))) (hw _ (List.mem_of_getElem? (i := 9) rfl)) (ty := .int) (by decide) rfl rfl (g := (mkF m 20 #[.val (.ref u), .val (.ref b)] [(.int (1 : Int32)), (.ref u)])) rfl rfl (hb hby d3_20)
  have Fw11 := c9.same W11
  have N11 := Fr.snoc X11 N8 gu
  have Z11 : n0 ≤ h11.size := Nat.le_trans Z8 (Keep.of_wr W11).1
  obtain ⟨lo11, X11, N11⟩ : ∃ L, Stand p l e ({ frames := 2, cells := 1, slots := 512, locals := 24 } : Room) s m #[(.ref u), (.ref b)] below meth c T11 L 1 512 ∧ Fr n0 L := ⟨_, X11, N11⟩
  refine OGo.st (fun t k => st11 t k) ?_
  show OGo p e below _ (T11.setTop (mkF m 23 #[.val (.ref u), .val (.ref b)] []))
  refine OGo.st (fun t k => XS.aloadN X11.here hx rfl (hb hby d3_23) rfl rfl k) ?_
  show OGo p e below _ (T11.setTop (mkF m 24 #[.val (.ref u), .val (.ref b)] [(.ref u)]))
  refine OGo.st (fun t k => XS.aconstNull X11.here hx rfl (hb hby d3_24) k) ?_
  show OGo p e below _ (T11.setTop (mkF m 25 #[.val (.ref u), .val (.ref b)] [.null, (.ref u)]))
  have c12 := ((((F0_in.ext E2).other W5 (Or.inr (slot_ne (Or.inr (hw _ (List.mem_of_getElem? (i := 30) rfl))) (Or.inl (hw _ (List.mem_of_getElem? (i := 24) rfl))) (by decide) (t := (.object "java/io/InputStream")) (t' := (.array .int)) (by decide) (by decide)))).other W8 (Or.inr (slot_ne (Or.inr (hw _ (List.mem_of_getElem? (i := 30) rfl))) (Or.inl (hw _ (List.mem_of_getElem? (i := 26) rfl))) (by decide) (t := (.object "java/io/InputStream")) (t' := .int) (by decide) (by decide)))).other W11 (Or.inr (slot_ne (Or.inr (hw _ (List.mem_of_getElem? (i := 30) rfl))) (Or.inl (hw _ (List.mem_of_getElem? (i := 28) rfl))) (by decide) (t := (.object "java/io/InputStream")) (t' := .int) (by decide) (by decide))))
  have c13 := (c10.wr W11)
  obtain ⟨T14, h14, X14, e14, W14, st14⟩ := putF X11 hx hZ hown (host := "") (Or.inl (hw _ (List.mem_of_getElem? (i := 29) rfl))) Via.refl e11 c12 c13 (Or.inr ⟨(hw _ (List.mem_of_getElem? (i := 30) rfl)), rfl, hnm⟩) (hw _ (List.mem_of_getElem? (i := 9) rfl)) (ty := (.object "java/io/InputStream")) (by decide) rfl rfl (g := (mkF m 25 #[.val (.ref u), .val (.ref b)] [.null, (.ref u)])) rfl rfl (hb hby d3_25)
  have Fw14 := c12.same W14
  have N14 := Fr.snoc X14 N11 gu
  have Z14 : n0 ≤ h14.size := Nat.le_trans Z11 (Keep.of_wr W14).1
  obtain ⟨lo14, X14, N14⟩ : ∃ L, Stand p l e ({ frames := 2, cells := 1, slots := 512, locals := 24 } : Room) s m #[(.ref u), (.ref b)] below meth c T14 L 1 512 ∧ Fr n0 L := ⟨_, X14, N14⟩
  refine OGo.st (fun t k => st14 t k) ?_
  show OGo p e below _ (T14.setTop (mkF m 28 #[.val (.ref u), .val (.ref b)] []))
  refine OGo.st (fun t k => XS.aloadN X14.here hx rfl (hb hby d3_28) rfl rfl k) ?_
  show OGo p e below _ (T14.setTop (mkF m 29 #[.val (.ref u), .val (.ref b)] [(.ref u)]))
  refine OGo.st (fun t k => XS.aloadN X14.here hx rfl (hb hby d3_29) rfl rfl k) ?_
  show OGo p e below _ (T14.setTop (mkF m 30 #[.val (.ref u), .val (.ref b)] [(.ref b), (.ref u)]))
  have c15 := (((((F0_bytes.ext E2).other W5 (Or.inr (slot_ne (Or.inr (hw _ (List.mem_of_getElem? (i := 32) rfl))) (Or.inl (hw _ (List.mem_of_getElem? (i := 24) rfl))) (by decide) (t := (.array .byte)) (t' := (.array .int)) (by decide) (by decide)))).other W8 (Or.inr (slot_ne (Or.inr (hw _ (List.mem_of_getElem? (i := 32) rfl))) (Or.inl (hw _ (List.mem_of_getElem? (i := 26) rfl))) (by decide) (t := (.array .byte)) (t' := .int) (by decide) (by decide)))).other W11 (Or.inr (slot_ne (Or.inr (hw _ (List.mem_of_getElem? (i := 32) rfl))) (Or.inl (hw _ (List.mem_of_getElem? (i := 28) rfl))) (by decide) (t := (.array .byte)) (t' := .int) (by decide) (by decide)))).other W14 (Or.inr (slot_ne (Or.inr (hw _ (List.mem_of_getElem? (i := 32) rfl))) (Or.inr (hw _ (List.mem_of_getElem? (i := 30) rfl))) (by decide) (t := (.array .byte)) (t' := (.object "java/io/InputStream")) (by decide) (by decide))))
  have c16 := (c13.wr W14)
  obtain ⟨T17, h17, X17, e17, W17, st17⟩ := putF X14 hx hZ hown (host := "") (Or.inl (hw _ (List.mem_of_getElem? (i := 31) rfl))) Via.refl e14 c15 c16 (Or.inr ⟨(hw _ (List.mem_of_getElem? (i := 32) rfl)), rfl, hnm⟩) (hw _ (List.mem_of_getElem? (i := 9) rfl)) (ty := (.array .byte)) (by decide) rfl rfl (g := (mkF m 30 #[.val (.ref u), .val (.ref b)] [(.ref b), (.ref u)])) rfl rfl (hb hby d3_30)
  have Fw17 := c15.same W17
  have N17 := Fr.snoc X17 N14 gu
  have Z17 : n0 ≤ h17.size := Nat.le_trans Z14 (Keep.of_wr W17).1
  obtain ⟨lo17, X17, N17⟩ : ∃ L, Stand p l e ({ frames := 2, cells := 1, slots := 512, locals := 24 } : Room) s m #[(.ref u), (.ref b)] below meth c T17 L 1 512 ∧ Fr n0 L := ⟨_, X17, N17⟩
  refine OGo.st (fun t k => st17 t k) ?_
  show OGo p e below _ (T17.setTop (mkF m 33 #[.val (.ref u), .val (.ref b)] []))
  refine OGo.st (fun t k => XS.aloadN X17.here hx rfl (hb hby d3_33) rfl rfl k) ?_
  show OGo p e below _ (T17.setTop (mkF m 34 #[.val (.ref u), .val (.ref b)] [(.ref u)]))
  refine OGo.st (fun t k => XS.aloadN X17.here hx rfl (hb hby d3_34) rfl rfl k) ?_
  show OGo p e below _ (T17.setTop (mkF m 35 #[.val (.ref u), .val (.ref b)] [(.ref b), (.ref u)]))
  have c18 := ((((((Ob0.ext E2).other W5 (Ne.symm hub)).other W8 (Ne.symm hub)).other W11 (Ne.symm hub)).other W14 (Ne.symm hub)).other W17 (Ne.symm hub))
  refine OGo.st (fun t k => OA.len X17 hx hZ e17 c18 (z := (7 : Int32)) (by decide) (g := (mkF m 35 #[.val (.ref u), .val (.ref b)] [(.ref b), (.ref u)])) rfl rfl (hb hby d3_35) t k) ?_
  show OGo p e below _ (T17.setTop (mkF m 36 #[.val (.ref u), .val (.ref b)] [(.int (7 : Int32)), (.ref u)]))
  have c19 := ((((((F0_byteLimit.ext E2).other W5 (Or.inr (slot_ne (Or.inl (hw _ (List.mem_of_getElem? (i := 34) rfl))) (Or.inl (hw _ (List.mem_of_getElem? (i := 24) rfl))) (by decide) (t := .int) (t' := (.array .int)) (by decide) (by decide)))).other W8 (Or.inr (slot_ne (Or.inl (hw _ (List.mem_of_getElem? (i := 34) rfl))) (Or.inl (hw _ (List.mem_of_getElem? (i := 26) rfl))) (by decide) (t := .int) (t' := .int) (by decide) (by decide)))).other W11 (Or.inr (slot_ne (Or.inl (hw _ (List.mem_of_getElem? (i := 34) rfl))) (Or.inl (hw _ (List.mem_of_getElem? (i := 28) rfl))) (by decide) (t := .int) (t' := .int) (by decide) (by decide)))).other W14 (Or.inr (slot_ne (Or.inl (hw _ (List.mem_of_getElem? (i := 34) rfl))) (Or.inr (hw _ (List.mem_of_getElem? (i := 30) rfl))) (by decide) (t := .int) (t' := (.object "java/io/InputStream")) (by decide) (by decide)))).other W17 (Or.inr (slot_ne (Or.inl (hw _ (List.mem_of_getElem? (i := 34) rfl))) (Or.inr (hw _ (List.mem_of_getElem? (i := 32) rfl))) (by decide) (t := .int) (t' := (.array .byte)) (by decide) (by decide))))
  have c20 := (c16.wr W17)
  obtain ⟨T21, h21, X21, e21, W21, st21⟩ := putF X17 hx hZ hown (host := "") (Or.inl (hw _ (List.mem_of_getElem? (i := 33) rfl))) Via.refl e17 c19 c20 (Or.inl (hw _ (List.mem_of_getElem? (i := 34) rfl))) (hw _ (List.mem_of_getElem? (i := 9) rfl)) (ty := .int) (by decide) rfl rfl (g := (mkF m 36 #[.val (.ref u), .val (.ref b)] [(.int (7 : Int32)), (.ref u)])) rfl rfl (hb hby d3_36)
  have Fw21 := c19.same W21
  have N21 := Fr.snoc X21 N17 gu
  have Z21 : n0 ≤ h21.size := Nat.le_trans Z17 (Keep.of_wr W21).1
  obtain ⟨lo21, X21, N21⟩ : ∃ L, Stand p l e ({ frames := 2, cells := 1, slots := 512, locals := 24 } : Room) s m #[(.ref u), (.ref b)] below meth c T21 L 1 512 ∧ Fr n0 L := ⟨_, X21, N21⟩
  refine OGo.st (fun t k => st21 t k) ?_
  show OGo p e below _ (T21.setTop (mkF m 39 #[.val (.ref u), .val (.ref b)] []))
  have c22 := (c20.wr W21)
  have c23 := (Fw17.other W21 (Or.inr (slot_ne (Or.inr (hw _ (List.mem_of_getElem? (i := 32) rfl))) (Or.inl (hw _ (List.mem_of_getElem? (i := 34) rfl))) (by decide) (t := (.array .byte)) (t' := .int) (by decide) (by decide))))
  have c24 := (((((((F0_bytePosition.ext E2).other W5 (Or.inr (slot_ne (Or.inl (hw _ (List.mem_of_getElem? (i := 57) rfl))) (Or.inl (hw _ (List.mem_of_getElem? (i := 24) rfl))) (by decide) (t := .int) (t' := (.array .int)) (by decide) (by decide)))).other W8 (Or.inr (slot_ne (Or.inl (hw _ (List.mem_of_getElem? (i := 57) rfl))) (Or.inl (hw _ (List.mem_of_getElem? (i := 26) rfl))) (by decide) (t := .int) (t' := .int) (by decide) (by decide)))).other W11 (Or.inr (slot_ne (Or.inl (hw _ (List.mem_of_getElem? (i := 57) rfl))) (Or.inl (hw _ (List.mem_of_getElem? (i := 28) rfl))) (by decide) (t := .int) (t' := .int) (by decide) (by decide)))).other W14 (Or.inr (slot_ne (Or.inl (hw _ (List.mem_of_getElem? (i := 57) rfl))) (Or.inr (hw _ (List.mem_of_getElem? (i := 30) rfl))) (by decide) (t := .int) (t' := (.object "java/io/InputStream")) (by decide) (by decide)))).other W17 (Or.inr (slot_ne (Or.inl (hw _ (List.mem_of_getElem? (i := 57) rfl))) (Or.inr (hw _ (List.mem_of_getElem? (i := 32) rfl))) (by decide) (t := .int) (t' := (.array .byte)) (by decide) (by decide)))).other W21 (Or.inr (slot_ne (Or.inl (hw _ (List.mem_of_getElem? (i := 57) rfl))) (Or.inl (hw _ (List.mem_of_getElem? (i := 34) rfl))) (by decide) (t := .int) (t' := .int) (by decide) (by decide))))
  have c25 := (((((Fw5.other W8 (Or.inr (slot_ne (Or.inl (hw _ (List.mem_of_getElem? (i := 24) rfl))) (Or.inl (hw _ (List.mem_of_getElem? (i := 26) rfl))) (by decide) (t := (.array .int)) (t' := .int) (by decide) (by decide)))).other W11 (Or.inr (slot_ne (Or.inl (hw _ (List.mem_of_getElem? (i := 24) rfl))) (Or.inl (hw _ (List.mem_of_getElem? (i := 28) rfl))) (by decide) (t := (.array .int)) (t' := .int) (by decide) (by decide)))).other W14 (Or.inr (slot_ne (Or.inl (hw _ (List.mem_of_getElem? (i := 24) rfl))) (Or.inr (hw _ (List.mem_of_getElem? (i := 30) rfl))) (by decide) (t := (.array .int)) (t' := (.object "java/io/InputStream")) (by decide) (by decide)))).other W17 (Or.inr (slot_ne (Or.inl (hw _ (List.mem_of_getElem? (i := 24) rfl))) (Or.inr (hw _ (List.mem_of_getElem? (i := 32) rfl))) (by decide) (t := (.array .int)) (t' := (.array .byte)) (by decide) (by decide)))).other W21 (Or.inr (slot_ne (Or.inl (hw _ (List.mem_of_getElem? (i := 24) rfl))) (Or.inl (hw _ (List.mem_of_getElem? (i := 34) rfl))) (by decide) (t := (.array .int)) (t' := .int) (by decide) (by decide))))
  have c26 := (((((((F0_start.ext E2).other W5 (Or.inr (slot_ne (Or.inl (hw _ (List.mem_of_getElem? (i := 43) rfl))) (Or.inl (hw _ (List.mem_of_getElem? (i := 24) rfl))) (by decide) (t := .int) (t' := (.array .int)) (by decide) (by decide)))).other W8 (Or.inr (slot_ne (Or.inl (hw _ (List.mem_of_getElem? (i := 43) rfl))) (Or.inl (hw _ (List.mem_of_getElem? (i := 26) rfl))) (by decide) (t := .int) (t' := .int) (by decide) (by decide)))).other W11 (Or.inr (slot_ne (Or.inl (hw _ (List.mem_of_getElem? (i := 43) rfl))) (Or.inl (hw _ (List.mem_of_getElem? (i := 28) rfl))) (by decide) (t := .int) (t' := .int) (by decide) (by decide)))).other W14 (Or.inr (slot_ne (Or.inl (hw _ (List.mem_of_getElem? (i := 43) rfl))) (Or.inr (hw _ (List.mem_of_getElem? (i := 30) rfl))) (by decide) (t := .int) (t' := (.object "java/io/InputStream")) (by decide) (by decide)))).other W17 (Or.inr (slot_ne (Or.inl (hw _ (List.mem_of_getElem? (i := 43) rfl))) (Or.inr (hw _ (List.mem_of_getElem? (i := 32) rfl))) (by decide) (t := .int) (t' := (.array .byte)) (by decide) (by decide)))).other W21 (Or.inr (slot_ne (Or.inl (hw _ (List.mem_of_getElem? (i := 43) rfl))) (Or.inl (hw _ (List.mem_of_getElem? (i := 34) rfl))) (by decide) (t := .int) (t' := .int) (by decide) (by decide))))
  have c27 := (((((((F0_end.ext E2).other W5 (Or.inr (slot_ne (Or.inl (hw _ (List.mem_of_getElem? (i := 41) rfl))) (Or.inl (hw _ (List.mem_of_getElem? (i := 24) rfl))) (by decide) (t := .int) (t' := (.array .int)) (by decide) (by decide)))).other W8 (Or.inr (slot_ne (Or.inl (hw _ (List.mem_of_getElem? (i := 41) rfl))) (Or.inl (hw _ (List.mem_of_getElem? (i := 26) rfl))) (by decide) (t := .int) (t' := .int) (by decide) (by decide)))).other W11 (Or.inr (slot_ne (Or.inl (hw _ (List.mem_of_getElem? (i := 41) rfl))) (Or.inl (hw _ (List.mem_of_getElem? (i := 28) rfl))) (by decide) (t := .int) (t' := .int) (by decide) (by decide)))).other W14 (Or.inr (slot_ne (Or.inl (hw _ (List.mem_of_getElem? (i := 41) rfl))) (Or.inr (hw _ (List.mem_of_getElem? (i := 30) rfl))) (by decide) (t := .int) (t' := (.object "java/io/InputStream")) (by decide) (by decide)))).other W17 (Or.inr (slot_ne (Or.inl (hw _ (List.mem_of_getElem? (i := 41) rfl))) (Or.inr (hw _ (List.mem_of_getElem? (i := 32) rfl))) (by decide) (t := .int) (t' := (.array .byte)) (by decide) (by decide)))).other W21 (Or.inr (slot_ne (Or.inl (hw _ (List.mem_of_getElem? (i := 41) rfl))) (Or.inl (hw _ (List.mem_of_getElem? (i := 34) rfl))) (by decide) (t := .int) (t' := .int) (by decide) (by decide))))
  have c28 := ((((Fw8.other W11 (Or.inr (slot_ne (Or.inl (hw _ (List.mem_of_getElem? (i := 26) rfl))) (Or.inl (hw _ (List.mem_of_getElem? (i := 28) rfl))) (by decide) (t := .int) (t' := .int) (by decide) (by decide)))).other W14 (Or.inr (slot_ne (Or.inl (hw _ (List.mem_of_getElem? (i := 26) rfl))) (Or.inr (hw _ (List.mem_of_getElem? (i := 30) rfl))) (by decide) (t := .int) (t' := (.object "java/io/InputStream")) (by decide) (by decide)))).other W17 (Or.inr (slot_ne (Or.inl (hw _ (List.mem_of_getElem? (i := 26) rfl))) (Or.inr (hw _ (List.mem_of_getElem? (i := 32) rfl))) (by decide) (t := .int) (t' := (.array .byte)) (by decide) (by decide)))).other W21 (Or.inr (slot_ne (Or.inl (hw _ (List.mem_of_getElem? (i := 26) rfl))) (Or.inl (hw _ (List.mem_of_getElem? (i := 34) rfl))) (by decide) (t := .int) (t' := .int) (by decide) (by decide))))
  have c29 := (((Fw11.other W14 (Or.inr (slot_ne (Or.inl (hw _ (List.mem_of_getElem? (i := 28) rfl))) (Or.inr (hw _ (List.mem_of_getElem? (i := 30) rfl))) (by decide) (t := .int) (t' := (.object "java/io/InputStream")) (by decide) (by decide)))).other W17 (Or.inr (slot_ne (Or.inl (hw _ (List.mem_of_getElem? (i := 28) rfl))) (Or.inr (hw _ (List.mem_of_getElem? (i := 32) rfl))) (by decide) (t := .int) (t' := (.array .byte)) (by decide) (by decide)))).other W21 (Or.inr (slot_ne (Or.inl (hw _ (List.mem_of_getElem? (i := 28) rfl))) (Or.inl (hw _ (List.mem_of_getElem? (i := 34) rfl))) (by decide) (t := .int) (t' := .int) (by decide) (by decide))))
  have c30 := (((((((F0_afterCarriageReturn.ext E2).other W5 (Or.inr (slot_ne (Or.inl (hw _ (List.mem_of_getElem? (i := 68) rfl))) (Or.inl (hw _ (List.mem_of_getElem? (i := 24) rfl))) (by decide) (t := .boolean) (t' := (.array .int)) (by decide) (by decide)))).other W8 (Or.inr (slot_ne (Or.inl (hw _ (List.mem_of_getElem? (i := 68) rfl))) (Or.inl (hw _ (List.mem_of_getElem? (i := 26) rfl))) (by decide) (t := .boolean) (t' := .int) (by decide) (by decide)))).other W11 (Or.inr (slot_ne (Or.inl (hw _ (List.mem_of_getElem? (i := 68) rfl))) (Or.inl (hw _ (List.mem_of_getElem? (i := 28) rfl))) (by decide) (t := .boolean) (t' := .int) (by decide) (by decide)))).other W14 (Or.inr (slot_ne (Or.inl (hw _ (List.mem_of_getElem? (i := 68) rfl))) (Or.inr (hw _ (List.mem_of_getElem? (i := 30) rfl))) (by decide) (t := .boolean) (t' := (.object "java/io/InputStream")) (by decide) (by decide)))).other W17 (Or.inr (slot_ne (Or.inl (hw _ (List.mem_of_getElem? (i := 68) rfl))) (Or.inr (hw _ (List.mem_of_getElem? (i := 32) rfl))) (by decide) (t := .boolean) (t' := (.array .byte)) (by decide) (by decide)))).other W21 (Or.inr (slot_ne (Or.inl (hw _ (List.mem_of_getElem? (i := 68) rfl))) (Or.inl (hw _ (List.mem_of_getElem? (i := 34) rfl))) (by decide) (t := .boolean) (t' := .int) (by decide) (by decide))))
  have c31 := (c18.other W21 (Ne.symm hub))
  have c32 := ((((((O2.other W5 (Ne.symm ne_u_b2)).other W8 (Ne.symm ne_u_b2)).other W11 (Ne.symm ne_u_b2)).other W14 (Ne.symm ne_u_b2)).other W17 (Ne.symm ne_u_b2)).other W21 (Ne.symm ne_u_b2))
  refine OGo.outV X21 hx Bd.returns Bd.notSynchronized (hb hby d3_39) ?_ (by decide) (by decide)
  rw [e21]
  exact ⟨rfl, N21, Z21, b2, gb2, ne_u_b2, ne_b_b2, ⟨c22, c23, Fw21, c24, c25, c26, c27, c28, c29, c30, c31, c32⟩⟩
def sz (ch : Int32) : Nat := if ch < (128 : Int32) then 1 else 2
def putF (f : Nat → Int32) (ps : Nat) (ch : Int32) : Nat → Int32 := if ch < (128 : Int32) then (oset f ps ((ch.toInt8.toInt32).toInt8.toInt32)) else (oset (oset f ps ((((192 : Int32) ||| (ch >>> ((6 : Int32) &&& 31))).toInt8.toInt32).toInt8.toInt32)) (ps + 1) ((((128 : Int32) ||| (ch &&& (63 : Int32))).toInt8.toInt32).toInt8.toInt32))
theorem d2_0 : decode method_3_code 0 = .ok (.iload_n 2, 1) := by decide +kernel
theorem d2_1 : decode method_3_code 1 = .ok (.sipush 128, 3) := by decide +kernel
theorem d2_4 : decode method_3_code 4 = .ok (.if_icmp .ge 12, 3) := by decide +kernel
theorem d2_7 : decode method_3_code 7 = .ok (.aload_n 0, 1) := by decide +kernel
theorem d2_8 : decode method_3_code 8 = .ok (.iload_n 1, 1) := by decide +kernel
theorem d2_9 : decode method_3_code 9 = .ok (.iload_n 2, 1) := by decide +kernel
theorem d2_10 : decode method_3_code 10 = .ok (.i2b, 1) := by decide +kernel
theorem d2_11 : decode method_3_code 11 = .ok (.bastore, 1) := by decide +kernel
theorem d2_12 : decode method_3_code 12 = .ok (.iload_n 1, 1) := by decide +kernel
theorem d2_13 : decode method_3_code 13 = .ok (.iconst 1, 1) := by decide +kernel
theorem d2_14 : decode method_3_code 14 = .ok (.iadd, 1) := by decide +kernel
theorem d2_15 : decode method_3_code 15 = .ok (.ireturn, 1) := by decide +kernel
theorem d2_16 : decode method_3_code 16 = .ok (.aload_n 0, 1) := by decide +kernel
theorem d2_17 : decode method_3_code 17 = .ok (.iload_n 1, 1) := by decide +kernel
theorem d2_18 : decode method_3_code 18 = .ok (.sipush 192, 3) := by decide +kernel
theorem d2_21 : decode method_3_code 21 = .ok (.iload_n 2, 1) := by decide +kernel
theorem d2_22 : decode method_3_code 22 = .ok (.bipush 6, 2) := by decide +kernel
theorem d2_24 : decode method_3_code 24 = .ok (.ishr, 1) := by decide +kernel
theorem d2_25 : decode method_3_code 25 = .ok (.ior, 1) := by decide +kernel
theorem d2_26 : decode method_3_code 26 = .ok (.i2b, 1) := by decide +kernel
theorem d2_27 : decode method_3_code 27 = .ok (.bastore, 1) := by decide +kernel
theorem d2_28 : decode method_3_code 28 = .ok (.aload_n 0, 1) := by decide +kernel
theorem d2_29 : decode method_3_code 29 = .ok (.iload_n 1, 1) := by decide +kernel
theorem d2_30 : decode method_3_code 30 = .ok (.iconst 1, 1) := by decide +kernel
theorem d2_31 : decode method_3_code 31 = .ok (.iadd, 1) := by decide +kernel
theorem d2_32 : decode method_3_code 32 = .ok (.sipush 128, 3) := by decide +kernel
theorem d2_35 : decode method_3_code 35 = .ok (.iload_n 2, 1) := by decide +kernel
theorem d2_36 : decode method_3_code 36 = .ok (.bipush 63, 2) := by decide +kernel
theorem d2_38 : decode method_3_code 38 = .ok (.iand, 1) := by decide +kernel
theorem d2_39 : decode method_3_code 39 = .ok (.ior, 1) := by decide +kernel
theorem d2_40 : decode method_3_code 40 = .ok (.i2b, 1) := by decide +kernel
theorem d2_41 : decode method_3_code 41 = .ok (.bastore, 1) := by decide +kernel
theorem d2_42 : decode method_3_code 42 = .ok (.iload_n 1, 1) := by decide +kernel
theorem d2_43 : decode method_3_code 43 = .ok (.iconst 2, 1) := by decide +kernel
theorem d2_44 : decode method_3_code 44 = .ok (.iadd, 1) := by decide +kernel
theorem d2_45 : decode method_3_code 45 = .ok (.ireturn, 1) := by decide +kernel
theorem pn2 : plainName "com/example/triadne/triadne/Utf8InputAdvancePinLaw" = true := by first | (simp [plainName, overriddenIn]; done) | decide +kernel
theorem ef2 (m : MethodId) (b : Addr) (ps : Nat) (ch : Int32) : entryFrame m #[(.ref b), (.int (Int32.ofNat ps)), (.int ch)] 3 = mkF m 0 #[.val (.ref b), .val (.int (Int32.ofNat ps)), .val (.int ch)] [] := by first | (simp [entryFrame, mkF, argsToLocals, Value.category]; done) | rfl
set_option maxRecDepth 65536 in
set_option maxHeartbeats 40000000 in
theorem rm2 (l : Launch) (Z : State) (a0 : Array Value) (hw : ∀ d ∈ tables_1, d.before a0 Z = true) (ws : List Jvm.Cond) (b : Addr) (ps : Nat) (ch : Int32) (f : Nat → Int32) (h0 : Heap) (n0 : Nat) (Z0 : n0 ≤ h0.size) (O0 : OA Z h0 b .byte 7 f) (hps : ps + 2 ≤ 7) (gb : n0 ≤ b) :
    MetFree l (⟨"com/example/triadne/triadne/Utf8InputAdvancePinLaw", "put", "([BII)I"⟩ : MethodName) (head1 (Jvm.Cond.code (⟨"com/example/triadne/triadne/Utf8InputAdvancePinLaw", "put", "([BII)I"⟩ : MethodName) method_3_code 3 (some .int) :: ws) ({ frames := 0, cells := 0, slots := 0, locals := 0 } : Room)) (fun a U => a = #[(.ref b), (.int (Int32.ofNat ps)), (.int ch)] ∧ Z.Warmed39 U.vm ∧ U.heap = h0) (fun _ _ _ _ _ => True) (fun _ U o U' => ∃ v L, o = .returned v ∧ (Q2 Z n0 b (putF f ps ch) (ps + sz ch)) v U'.heap L ∧ FrameEnd U o U' L ({ frames := 0, cells := 0, slots := 0, locals := 0 } : Room).cells ({ frames := 0, cells := 0, slots := 0, locals := 0 } : Room).slots) := by
  refine MetFree.of_bodySF (plainFor_of_name pn2) hisR ?_
  intro p e s m args below meth c s₁ Bd hml0 hP hK
  obtain ⟨rfl, hZ, hh⟩ := hP
  have hx := Bd.exec
  have hby := Bd.bytes
  have hml : c.maxLocals = 3 := hml0
  have hown : s.vm.findClass "com/example/triadne/triadne/Utf8InputAdvancePinLaw" = some m.cls := findClass_of_methodNamed Bd.named
  have hnm := (name_of_methodNamed Bd.named Bd.method).1
  have X0 : Stand p l e ({ frames := 0, cells := 0, slots := 0, locals := 0 } : Room) s m #[(.ref b), (.int (Int32.ofNat ps)), (.int ch)] below meth c s₁ [] 0 0 := Stand.of_body Bd
  have e0 : s₁.heap = h0 := by rw [← hh, Bd.state]; rfl
  have N0 := Fr.nil n0
  show OGo p e below (Out s ({ frames := 0, cells := 0, slots := 0, locals := 0 } : Room).cells ({ frames := 0, cells := 0, slots := 0, locals := 0 } : Room).slots ((Q2 Z n0 b (putF f ps ch) (ps + sz ch)))) (s₁.setTop (entryFrame m #[(.ref b), (.int (Int32.ofNat ps)), (.int ch)] 3))
  refine OGo.st (fun t k => castTop (ef2 m b ps ch) k) ?_
  show OGo p e below (Out s ({ frames := 0, cells := 0, slots := 0, locals := 0 } : Room).cells ({ frames := 0, cells := 0, slots := 0, locals := 0 } : Room).slots ((Q2 Z n0 b (putF f ps ch) (ps + sz ch)))) (s₁.setTop (mkF m 0 #[.val (.ref b), .val (.int (Int32.ofNat ps)), .val (.int ch)] []))
  refine OGo.st (fun t k => XS.iloadN X0.here hx rfl (hb hby d2_0) rfl k) ?_
  show OGo p e below _ (s₁.setTop (mkF m 1 #[.val (.ref b), .val (.int (Int32.ofNat ps)), .val (.int ch)] [(.int ch)]))
  refine OGo.st (fun t k => XS.sipush X0.here hx rfl (hb hby d2_1) k) ?_
  show OGo p e below _ (s₁.setTop (mkF m 4 #[.val (.ref b), .val (.int (Int32.ofNat ps)), .val (.int ch)] [(.int (128 : Int32)), (.int ch)]))
  by_cases hc4_1 : ch < (128 : Int32)
  · refine OGo.st (fun t k => XS.icmpNo X0.here hx rfl (hb hby d2_4) rfl (tlt hc4_1).2.1 k) ?_
    show OGo p e below _ (s₁.setTop (mkF m 7 #[.val (.ref b), .val (.int (Int32.ofNat ps)), .val (.int ch)] []))
    refine OGo.st (fun t k => XS.aloadN X0.here hx rfl (hb hby d2_7) rfl rfl k) ?_
    show OGo p e below _ (s₁.setTop (mkF m 8 #[.val (.ref b), .val (.int (Int32.ofNat ps)), .val (.int ch)] [(.ref b)]))
    refine OGo.st (fun t k => XS.iloadN X0.here hx rfl (hb hby d2_8) rfl k) ?_
    show OGo p e below _ (s₁.setTop (mkF m 9 #[.val (.ref b), .val (.int (Int32.ofNat ps)), .val (.int ch)] [(.int (Int32.ofNat ps)), (.ref b)]))
    refine OGo.st (fun t k => XS.iloadN X0.here hx rfl (hb hby d2_9) rfl k) ?_
    show OGo p e below _ (s₁.setTop (mkF m 10 #[.val (.ref b), .val (.int (Int32.ofNat ps)), .val (.int ch)] [(.int ch), (.int (Int32.ofNat ps)), (.ref b)]))
    refine OGo.st (fun t k => XS.i2b X0.here hx rfl (hb hby d2_10) rfl k) ?_
    show OGo p e below _ (s₁.setTop (mkF m 11 #[.val (.ref b), .val (.int (Int32.ofNat ps)), .val (.int ch)] [(.int (ch.toInt8.toInt32)), (.int (Int32.ofNat ps)), (.ref b)]))
    obtain ⟨T2, h2, X2, e2, W2, O2', st2⟩ := OA.stB X0 hx hZ e0 O0 (j := (Int32.ofNat ps)) (x := (ch.toInt8.toInt32)) (k := ps) (own_nat (show ps < 1000 by omega)).1 (own_nat (show ps < 1000 by omega)).2 (by omega) (g := (mkF m 11 #[.val (.ref b), .val (.int (Int32.ofNat ps)), .val (.int ch)] [(.int (ch.toInt8.toInt32)), (.int (Int32.ofNat ps)), (.ref b)])) rfl rfl (hb hby d2_11)
    have O2 := O2'
    have N2 := Fr.snoc X2 N0 gb
    have Z2 : n0 ≤ h2.size := Nat.le_trans Z0 (Keep.of_wr W2).1
    obtain ⟨lo2, X2, N2⟩ : ∃ L, Stand p l e ({ frames := 0, cells := 0, slots := 0, locals := 0 } : Room) s m #[(.ref b), (.int (Int32.ofNat ps)), (.int ch)] below meth c T2 L 0 0 ∧ Fr n0 L := ⟨_, X2, N2⟩
    refine OGo.st (fun t k => st2 t k) ?_
    show OGo p e below _ (T2.setTop (mkF m 12 #[.val (.ref b), .val (.int (Int32.ofNat ps)), .val (.int ch)] []))
    refine OGo.st (fun t k => XS.iloadN X2.here hx rfl (hb hby d2_12) rfl k) ?_
    show OGo p e below _ (T2.setTop (mkF m 13 #[.val (.ref b), .val (.int (Int32.ofNat ps)), .val (.int ch)] [(.int (Int32.ofNat ps))]))
    refine OGo.st (fun t k => XS.iconst X2.here hx rfl (hb hby d2_13) k) ?_
    show OGo p e below _ (T2.setTop (mkF m 14 #[.val (.ref b), .val (.int (Int32.ofNat ps)), .val (.int ch)] [(.int (1 : Int32)), (.int (Int32.ofNat ps))]))
    refine OGo.st (fun t k => XS.iadd X2.here hx rfl (hb hby d2_14) rfl k) ?_
    show OGo p e below _ (T2.setTop (mkF m 15 #[.val (.ref b), .val (.int (Int32.ofNat ps)), .val (.int ch)] [(.int ((Int32.ofNat ps) + (1 : Int32)))]))
    rw [own_inc ps]
    show OGo p e below _ (T2.setTop (mkF m 15 #[.val (.ref b), .val (.int (Int32.ofNat ps)), .val (.int ch)] [(.int (Int32.ofNat (ps + 1)))]))
    refine OGo.outI X2 hx Bd.returns Bd.notSynchronized (hb hby d2_15) ?_ (by decide) (by decide)
    rw [e2]
    refine ⟨?_, N2, Z2, ?_⟩
    · rw [show sz ch = 1 from if_pos hc4_1]
    · rw [show putF f ps ch = (oset f ps ((ch.toInt8.toInt32).toInt8.toInt32)) from if_pos hc4_1]
      exact O2
  · refine OGo.st (fun t k => XS.icmpYes X0.here hx rfl (pc0 := 4) (pc' := 16) rfl (hb hby d2_4) rfl (flt hc4_1).2.1 (by decide) (by decide) k) ?_
    show OGo p e below _ (s₁.setTop (mkF m 16 #[.val (.ref b), .val (.int (Int32.ofNat ps)), .val (.int ch)] []))
    refine OGo.st (fun t k => XS.aloadN X0.here hx rfl (hb hby d2_16) rfl rfl k) ?_
    show OGo p e below _ (s₁.setTop (mkF m 17 #[.val (.ref b), .val (.int (Int32.ofNat ps)), .val (.int ch)] [(.ref b)]))
    refine OGo.st (fun t k => XS.iloadN X0.here hx rfl (hb hby d2_17) rfl k) ?_
    show OGo p e below _ (s₁.setTop (mkF m 18 #[.val (.ref b), .val (.int (Int32.ofNat ps)), .val (.int ch)] [(.int (Int32.ofNat ps)), (.ref b)]))
    refine OGo.st (fun t k => XS.sipush X0.here hx rfl (hb hby d2_18) k) ?_
    show OGo p e below _ (s₁.setTop (mkF m 21 #[.val (.ref b), .val (.int (Int32.ofNat ps)), .val (.int ch)] [(.int (192 : Int32)), (.int (Int32.ofNat ps)), (.ref b)]))
    refine OGo.st (fun t k => XS.iloadN X0.here hx rfl (hb hby d2_21) rfl k) ?_
    show OGo p e below _ (s₁.setTop (mkF m 22 #[.val (.ref b), .val (.int (Int32.ofNat ps)), .val (.int ch)] [(.int ch), (.int (192 : Int32)), (.int (Int32.ofNat ps)), (.ref b)]))
    refine OGo.st (fun t k => XS.bipush X0.here hx rfl (hb hby d2_22) k) ?_
    show OGo p e below _ (s₁.setTop (mkF m 24 #[.val (.ref b), .val (.int (Int32.ofNat ps)), .val (.int ch)] [(.int (6 : Int32)), (.int ch), (.int (192 : Int32)), (.int (Int32.ofNat ps)), (.ref b)]))
    refine OGo.st (fun t k => XS.ishr X0.here hx rfl (hb hby d2_24) rfl k) ?_
    show OGo p e below _ (s₁.setTop (mkF m 25 #[.val (.ref b), .val (.int (Int32.ofNat ps)), .val (.int ch)] [(.int (ch >>> ((6 : Int32) &&& 31))), (.int (192 : Int32)), (.int (Int32.ofNat ps)), (.ref b)]))
    refine OGo.st (fun t k => XS.ior X0.here hx rfl (hb hby d2_25) rfl k) ?_
    show OGo p e below _ (s₁.setTop (mkF m 26 #[.val (.ref b), .val (.int (Int32.ofNat ps)), .val (.int ch)] [(.int ((192 : Int32) ||| (ch >>> ((6 : Int32) &&& 31)))), (.int (Int32.ofNat ps)), (.ref b)]))
    refine OGo.st (fun t k => XS.i2b X0.here hx rfl (hb hby d2_26) rfl k) ?_
    show OGo p e below _ (s₁.setTop (mkF m 27 #[.val (.ref b), .val (.int (Int32.ofNat ps)), .val (.int ch)] [(.int (((192 : Int32) ||| (ch >>> ((6 : Int32) &&& 31))).toInt8.toInt32)), (.int (Int32.ofNat ps)), (.ref b)]))
    obtain ⟨T3, h3, X3, e3, W3, O3', st3⟩ := OA.stB X0 hx hZ e0 O0 (j := (Int32.ofNat ps)) (x := (((192 : Int32) ||| (ch >>> ((6 : Int32) &&& 31))).toInt8.toInt32)) (k := ps) (own_nat (show ps < 1000 by omega)).1 (own_nat (show ps < 1000 by omega)).2 (by omega) (g := (mkF m 27 #[.val (.ref b), .val (.int (Int32.ofNat ps)), .val (.int ch)] [(.int (((192 : Int32) ||| (ch >>> ((6 : Int32) &&& 31))).toInt8.toInt32)), (.int (Int32.ofNat ps)), (.ref b)])) rfl rfl (hb hby d2_27)
    have O3 := O3'
    have N3 := Fr.snoc X3 N0 gb
    have Z3 : n0 ≤ h3.size := Nat.le_trans Z0 (Keep.of_wr W3).1
    obtain ⟨lo3, X3, N3⟩ : ∃ L, Stand p l e ({ frames := 0, cells := 0, slots := 0, locals := 0 } : Room) s m #[(.ref b), (.int (Int32.ofNat ps)), (.int ch)] below meth c T3 L 0 0 ∧ Fr n0 L := ⟨_, X3, N3⟩
    refine OGo.st (fun t k => st3 t k) ?_
    show OGo p e below _ (T3.setTop (mkF m 28 #[.val (.ref b), .val (.int (Int32.ofNat ps)), .val (.int ch)] []))
    refine OGo.st (fun t k => XS.aloadN X3.here hx rfl (hb hby d2_28) rfl rfl k) ?_
    show OGo p e below _ (T3.setTop (mkF m 29 #[.val (.ref b), .val (.int (Int32.ofNat ps)), .val (.int ch)] [(.ref b)]))
    refine OGo.st (fun t k => XS.iloadN X3.here hx rfl (hb hby d2_29) rfl k) ?_
    show OGo p e below _ (T3.setTop (mkF m 30 #[.val (.ref b), .val (.int (Int32.ofNat ps)), .val (.int ch)] [(.int (Int32.ofNat ps)), (.ref b)]))
    refine OGo.st (fun t k => XS.iconst X3.here hx rfl (hb hby d2_30) k) ?_
    show OGo p e below _ (T3.setTop (mkF m 31 #[.val (.ref b), .val (.int (Int32.ofNat ps)), .val (.int ch)] [(.int (1 : Int32)), (.int (Int32.ofNat ps)), (.ref b)]))
    refine OGo.st (fun t k => XS.iadd X3.here hx rfl (hb hby d2_31) rfl k) ?_
    show OGo p e below _ (T3.setTop (mkF m 32 #[.val (.ref b), .val (.int (Int32.ofNat ps)), .val (.int ch)] [(.int ((Int32.ofNat ps) + (1 : Int32))), (.ref b)]))
    refine OGo.st (fun t k => XS.sipush X3.here hx rfl (hb hby d2_32) k) ?_
    show OGo p e below _ (T3.setTop (mkF m 35 #[.val (.ref b), .val (.int (Int32.ofNat ps)), .val (.int ch)] [(.int (128 : Int32)), (.int ((Int32.ofNat ps) + (1 : Int32))), (.ref b)]))
    refine OGo.st (fun t k => XS.iloadN X3.here hx rfl (hb hby d2_35) rfl k) ?_
    show OGo p e below _ (T3.setTop (mkF m 36 #[.val (.ref b), .val (.int (Int32.ofNat ps)), .val (.int ch)] [(.int ch), (.int (128 : Int32)), (.int ((Int32.ofNat ps) + (1 : Int32))), (.ref b)]))
    refine OGo.st (fun t k => XS.bipush X3.here hx rfl (hb hby d2_36) k) ?_
    show OGo p e below _ (T3.setTop (mkF m 38 #[.val (.ref b), .val (.int (Int32.ofNat ps)), .val (.int ch)] [(.int (63 : Int32)), (.int ch), (.int (128 : Int32)), (.int ((Int32.ofNat ps) + (1 : Int32))), (.ref b)]))
    refine OGo.st (fun t k => XS.iand X3.here hx rfl (hb hby d2_38) rfl k) ?_
    show OGo p e below _ (T3.setTop (mkF m 39 #[.val (.ref b), .val (.int (Int32.ofNat ps)), .val (.int ch)] [(.int (ch &&& (63 : Int32))), (.int (128 : Int32)), (.int ((Int32.ofNat ps) + (1 : Int32))), (.ref b)]))
    refine OGo.st (fun t k => XS.ior X3.here hx rfl (hb hby d2_39) rfl k) ?_
    show OGo p e below _ (T3.setTop (mkF m 40 #[.val (.ref b), .val (.int (Int32.ofNat ps)), .val (.int ch)] [(.int ((128 : Int32) ||| (ch &&& (63 : Int32)))), (.int ((Int32.ofNat ps) + (1 : Int32))), (.ref b)]))
    refine OGo.st (fun t k => XS.i2b X3.here hx rfl (hb hby d2_40) rfl k) ?_
    show OGo p e below _ (T3.setTop (mkF m 41 #[.val (.ref b), .val (.int (Int32.ofNat ps)), .val (.int ch)] [(.int (((128 : Int32) ||| (ch &&& (63 : Int32))).toInt8.toInt32)), (.int ((Int32.ofNat ps) + (1 : Int32))), (.ref b)]))
    obtain ⟨T4, h4, X4, e4, W4, O4', st4⟩ := OA.stB X3 hx hZ e3 O3 (j := ((Int32.ofNat ps) + (1 : Int32))) (x := (((128 : Int32) ||| (ch &&& (63 : Int32))).toInt8.toInt32)) (k := (ps + 1)) (own_ix (show ps + 1 < 1000 by omega)).1 (own_ix (show ps + 1 < 1000 by omega)).2 (by omega) (g := (mkF m 41 #[.val (.ref b), .val (.int (Int32.ofNat ps)), .val (.int ch)] [(.int (((128 : Int32) ||| (ch &&& (63 : Int32))).toInt8.toInt32)), (.int ((Int32.ofNat ps) + (1 : Int32))), (.ref b)])) rfl rfl (hb hby d2_41)
    have O4 := O4'
    have N4 := Fr.snoc X4 N3 gb
    have Z4 : n0 ≤ h4.size := Nat.le_trans Z3 (Keep.of_wr W4).1
    obtain ⟨lo4, X4, N4⟩ : ∃ L, Stand p l e ({ frames := 0, cells := 0, slots := 0, locals := 0 } : Room) s m #[(.ref b), (.int (Int32.ofNat ps)), (.int ch)] below meth c T4 L 0 0 ∧ Fr n0 L := ⟨_, X4, N4⟩
    refine OGo.st (fun t k => st4 t k) ?_
    show OGo p e below _ (T4.setTop (mkF m 42 #[.val (.ref b), .val (.int (Int32.ofNat ps)), .val (.int ch)] []))
    refine OGo.st (fun t k => XS.iloadN X4.here hx rfl (hb hby d2_42) rfl k) ?_
    show OGo p e below _ (T4.setTop (mkF m 43 #[.val (.ref b), .val (.int (Int32.ofNat ps)), .val (.int ch)] [(.int (Int32.ofNat ps))]))
    refine OGo.st (fun t k => XS.iconst X4.here hx rfl (hb hby d2_43) k) ?_
    show OGo p e below _ (T4.setTop (mkF m 44 #[.val (.ref b), .val (.int (Int32.ofNat ps)), .val (.int ch)] [(.int (2 : Int32)), (.int (Int32.ofNat ps))]))
    refine OGo.st (fun t k => XS.iadd X4.here hx rfl (hb hby d2_44) rfl k) ?_
    show OGo p e below _ (T4.setTop (mkF m 45 #[.val (.ref b), .val (.int (Int32.ofNat ps)), .val (.int ch)] [(.int ((Int32.ofNat ps) + (2 : Int32)))]))
    rw [own_inc2 ps]
    show OGo p e below _ (T4.setTop (mkF m 45 #[.val (.ref b), .val (.int (Int32.ofNat ps)), .val (.int ch)] [(.int (Int32.ofNat (ps + 2)))]))
    refine OGo.outI X4 hx Bd.returns Bd.notSynchronized (hb hby d2_45) ?_ (by decide) (by decide)
    rw [e4]
    refine ⟨?_, N4, Z4, ?_⟩
    · rw [show sz ch = 2 from if_neg hc4_1]
    · rw [show putF f ps ch = (oset (oset f ps ((((192 : Int32) ||| (ch >>> ((6 : Int32) &&& 31))).toInt8.toInt32).toInt8.toInt32)) (ps + 1) ((((128 : Int32) ||| (ch &&& (63 : Int32))).toInt8.toInt32).toInt8.toInt32)) from if_neg hc4_1]
      exact O4
theorem d1_0 : decode method_2_code 0 = .ok (.iload_n 0, 1) := by decide +kernel
theorem d1_1 : decode method_2_code 1 = .ok (.iconst 3, 1) := by decide +kernel
theorem d1_2 : decode method_2_code 2 = .ok (.iand, 1) := by decide +kernel
theorem d1_3 : decode method_2_code 3 = .ok (.istore_n 1, 1) := by decide +kernel
theorem d1_4 : decode method_2_code 4 = .ok (.iload_n 1, 1) := by decide +kernel
theorem d1_5 : decode method_2_code 5 = .ok (.ifCond .ne 6, 3) := by decide +kernel
theorem d1_8 : decode method_2_code 8 = .ok (.bipush 10, 2) := by decide +kernel
theorem d1_10 : decode method_2_code 10 = .ok (.ireturn, 1) := by decide +kernel
theorem d1_11 : decode method_2_code 11 = .ok (.iload_n 1, 1) := by decide +kernel
theorem d1_12 : decode method_2_code 12 = .ok (.iconst 1, 1) := by decide +kernel
theorem d1_13 : decode method_2_code 13 = .ok (.if_icmp .ne 6, 3) := by decide +kernel
theorem d1_16 : decode method_2_code 16 = .ok (.bipush 13, 2) := by decide +kernel
theorem d1_18 : decode method_2_code 18 = .ok (.ireturn, 1) := by decide +kernel
theorem d1_19 : decode method_2_code 19 = .ok (.iload_n 1, 1) := by decide +kernel
theorem d1_20 : decode method_2_code 20 = .ok (.iconst 2, 1) := by decide +kernel
theorem d1_21 : decode method_2_code 21 = .ok (.if_icmp .ne 10, 3) := by decide +kernel
theorem d1_24 : decode method_2_code 24 = .ok (.iload_n 0, 1) := by decide +kernel
theorem d1_25 : decode method_2_code 25 = .ok (.iconst 2, 1) := by decide +kernel
theorem d1_26 : decode method_2_code 26 = .ok (.iushr, 1) := by decide +kernel
theorem d1_27 : decode method_2_code 27 = .ok (.bipush 127, 2) := by decide +kernel
theorem d1_29 : decode method_2_code 29 = .ok (.iand, 1) := by decide +kernel
theorem d1_30 : decode method_2_code 30 = .ok (.ireturn, 1) := by decide +kernel
theorem d1_31 : decode method_2_code 31 = .ok (.iload_n 0, 1) := by decide +kernel
theorem d1_32 : decode method_2_code 32 = .ok (.iconst 2, 1) := by decide +kernel
theorem d1_33 : decode method_2_code 33 = .ok (.iushr, 1) := by decide +kernel
theorem d1_34 : decode method_2_code 34 = .ok (.sipush 1023, 3) := by decide +kernel
theorem d1_37 : decode method_2_code 37 = .ok (.iand, 1) := by decide +kernel
theorem d1_38 : decode method_2_code 38 = .ok (.sipush 128, 3) := by decide +kernel
theorem d1_41 : decode method_2_code 41 = .ok (.iadd, 1) := by decide +kernel
theorem d1_42 : decode method_2_code 42 = .ok (.ireturn, 1) := by decide +kernel
theorem pn1 : plainName "com/example/triadne/triadne/Utf8InputAdvancePinLaw" = true := by first | (simp [plainName, overriddenIn]; done) | decide +kernel
theorem ef1 (m : MethodId) (q1 : Int32) : entryFrame m #[(.int q1)] 2 = mkF m 0 #[.val (.int q1), .unset] [] := by first | (simp [entryFrame, mkF, argsToLocals, Value.category]; done) | rfl
def g1_21_1 (q1 : Int32) : Int32 := if (q1 &&& (3 : Int32)) = (2 : Int32) then (((q1.toUInt32 >>> ((2 : Int32) &&& 31).toUInt32).toInt32) &&& (127 : Int32)) else ((((q1.toUInt32 >>> ((2 : Int32) &&& 31).toUInt32).toInt32) &&& (1023 : Int32)) + (128 : Int32))
def g1_13_2 (q1 : Int32) : Int32 := if (q1 &&& (3 : Int32)) = (1 : Int32) then (13 : Int32) else (g1_21_1 q1)
def g1_5_3 (q1 : Int32) : Int32 := if (q1 &&& (3 : Int32)) = (0 : Int32) then (10 : Int32) else (g1_13_2 q1)
def f1 (q1 : Int32) : Int32 := (g1_5_3 q1)
set_option maxRecDepth 65536 in
set_option maxHeartbeats 40000000 in
theorem rm1 (l : Launch) (Z : State) (a0 : Array Value) (hw : ∀ d ∈ tables_1, d.before a0 Z = true) (ws : List Jvm.Cond) (q1 : Int32) (h0 : Heap) (n0 : Nat) (Z0 : n0 ≤ h0.size) :
    MetFree l (⟨"com/example/triadne/triadne/Utf8InputAdvancePinLaw", "pick", "(I)I"⟩ : MethodName) (head1 (Jvm.Cond.code (⟨"com/example/triadne/triadne/Utf8InputAdvancePinLaw", "pick", "(I)I"⟩ : MethodName) method_2_code 2 (some .int) :: ws) ({ frames := 0, cells := 0, slots := 0, locals := 0 } : Room)) (fun a U => a = #[(.int q1)] ∧ Z.Warmed39 U.vm ∧ U.heap = h0) (fun _ _ _ _ _ => True) (fun _ U o U' => ∃ v L, o = .returned v ∧ PI n0 h0 (f1 q1) v U'.heap L ∧ FrameEnd U o U' L ({ frames := 0, cells := 0, slots := 0, locals := 0 } : Room).cells ({ frames := 0, cells := 0, slots := 0, locals := 0 } : Room).slots) := by
  refine MetFree.of_bodySF (plainFor_of_name pn1) hisR ?_
  intro p e s m args below meth c s₁ Bd hml0 hP hK
  obtain ⟨rfl, hZ, hh⟩ := hP
  have hx := Bd.exec
  have hby := Bd.bytes
  have hml : c.maxLocals = 2 := hml0
  have hown : s.vm.findClass "com/example/triadne/triadne/Utf8InputAdvancePinLaw" = some m.cls := findClass_of_methodNamed Bd.named
  have X0 : Stand p l e ({ frames := 0, cells := 0, slots := 0, locals := 0 } : Room) s m #[(.int q1)] below meth c s₁ [] 0 0 := Stand.of_body Bd
  have e0 : s₁.heap = h0 := by rw [← hh, Bd.state]; rfl
  have N0 := Fr.nil n0
  show OGo p e below (Out s ({ frames := 0, cells := 0, slots := 0, locals := 0 } : Room).cells ({ frames := 0, cells := 0, slots := 0, locals := 0 } : Room).slots (PI n0 h0 (f1 q1))) (s₁.setTop (entryFrame m #[(.int q1)] 2))
  refine OGo.st (fun t k => castTop (ef1 m q1) k) ?_
  show OGo p e below (Out s ({ frames := 0, cells := 0, slots := 0, locals := 0 } : Room).cells ({ frames := 0, cells := 0, slots := 0, locals := 0 } : Room).slots (PI n0 h0 (g1_5_3 q1))) (s₁.setTop (mkF m 0 #[.val (.int q1), .unset] []))
  refine OGo.st (fun t k => XS.iloadN X0.here hx rfl (hb hby d1_0) rfl k) ?_
  show OGo p e below _ (s₁.setTop (mkF m 1 #[.val (.int q1), .unset] [(.int q1)]))
  refine OGo.st (fun t k => XS.iconst X0.here hx rfl (hb hby d1_1) k) ?_
  show OGo p e below _ (s₁.setTop (mkF m 2 #[.val (.int q1), .unset] [(.int (3 : Int32)), (.int q1)]))
  refine OGo.st (fun t k => XS.iand X0.here hx rfl (hb hby d1_2) rfl k) ?_
  show OGo p e below _ (s₁.setTop (mkF m 3 #[.val (.int q1), .unset] [(.int (q1 &&& (3 : Int32)))]))
  refine OGo.st (fun t k => XS.istoreN X0.here hx rfl (hb hby d1_3) rfl (l' := #[.val (.int q1), .val (.int (q1 &&& (3 : Int32)))]) rfl k) ?_
  show OGo p e below _ (s₁.setTop (mkF m 4 #[.val (.int q1), .val (.int (q1 &&& (3 : Int32)))] []))
  refine OGo.st (fun t k => XS.iloadN X0.here hx rfl (hb hby d1_4) rfl k) ?_
  show OGo p e below _ (s₁.setTop (mkF m 5 #[.val (.int q1), .val (.int (q1 &&& (3 : Int32)))] [(.int (q1 &&& (3 : Int32)))]))
  by_cases hc5_1 : (q1 &&& (3 : Int32)) = (0 : Int32)
  · refine OGo.eqvI (show (g1_5_3 q1) = (10 : Int32) from if_pos hc5_1) ?_
    refine OGo.st (fun t k => XS.ifNo X0.here hx rfl (hb hby d1_5) rfl ((if0 _ _).trans (teq hc5_1).2) k) ?_
    show OGo p e below _ (s₁.setTop (mkF m 8 #[.val (.int q1), .val (.int (q1 &&& (3 : Int32)))] []))
    refine OGo.st (fun t k => XS.bipush X0.here hx rfl (hb hby d1_8) k) ?_
    show OGo p e below _ (s₁.setTop (mkF m 10 #[.val (.int q1), .val (.int (q1 &&& (3 : Int32)))] [(.int (10 : Int32))]))
    exact OGo.outI X0 hx Bd.returns Bd.notSynchronized (hb hby d1_10) ⟨rfl, N0, e0⟩ (by decide) (by decide)
  · refine OGo.eqvI (show (g1_5_3 q1) = (g1_13_2 q1) from if_neg hc5_1) ?_
    refine OGo.st (fun t k => XS.ifYes X0.here hx rfl (pc0 := 5) (pc' := 11) rfl (hb hby d1_5) rfl ((if0 _ _).trans (feq hc5_1).2) (by decide) (by decide) k) ?_
    show OGo p e below _ (s₁.setTop (mkF m 11 #[.val (.int q1), .val (.int (q1 &&& (3 : Int32)))] []))
    refine OGo.st (fun t k => XS.iloadN X0.here hx rfl (hb hby d1_11) rfl k) ?_
    show OGo p e below _ (s₁.setTop (mkF m 12 #[.val (.int q1), .val (.int (q1 &&& (3 : Int32)))] [(.int (q1 &&& (3 : Int32)))]))
    refine OGo.st (fun t k => XS.iconst X0.here hx rfl (hb hby d1_12) k) ?_
    show OGo p e below _ (s₁.setTop (mkF m 13 #[.val (.int q1), .val (.int (q1 &&& (3 : Int32)))] [(.int (1 : Int32)), (.int (q1 &&& (3 : Int32)))]))
    by_cases hc13_2 : (q1 &&& (3 : Int32)) = (1 : Int32)
    · refine OGo.eqvI (show (g1_13_2 q1) = (13 : Int32) from if_pos hc13_2) ?_
      refine OGo.st (fun t k => XS.icmpNo X0.here hx rfl (hb hby d1_13) rfl (teq hc13_2).2 k) ?_
      show OGo p e below _ (s₁.setTop (mkF m 16 #[.val (.int q1), .val (.int (q1 &&& (3 : Int32)))] []))
      refine OGo.st (fun t k => XS.bipush X0.here hx rfl (hb hby d1_16) k) ?_
      show OGo p e below _ (s₁.setTop (mkF m 18 #[.val (.int q1), .val (.int (q1 &&& (3 : Int32)))] [(.int (13 : Int32))]))
      exact OGo.outI X0 hx Bd.returns Bd.notSynchronized (hb hby d1_18) ⟨rfl, N0, e0⟩ (by decide) (by decide)
    · refine OGo.eqvI (show (g1_13_2 q1) = (g1_21_1 q1) from if_neg hc13_2) ?_
      refine OGo.st (fun t k => XS.icmpYes X0.here hx rfl (pc0 := 13) (pc' := 19) rfl (hb hby d1_13) rfl (feq hc13_2).2 (by decide) (by decide) k) ?_
      show OGo p e below _ (s₁.setTop (mkF m 19 #[.val (.int q1), .val (.int (q1 &&& (3 : Int32)))] []))
      refine OGo.st (fun t k => XS.iloadN X0.here hx rfl (hb hby d1_19) rfl k) ?_
      show OGo p e below _ (s₁.setTop (mkF m 20 #[.val (.int q1), .val (.int (q1 &&& (3 : Int32)))] [(.int (q1 &&& (3 : Int32)))]))
      refine OGo.st (fun t k => XS.iconst X0.here hx rfl (hb hby d1_20) k) ?_
      show OGo p e below _ (s₁.setTop (mkF m 21 #[.val (.int q1), .val (.int (q1 &&& (3 : Int32)))] [(.int (2 : Int32)), (.int (q1 &&& (3 : Int32)))]))
      by_cases hc21_3 : (q1 &&& (3 : Int32)) = (2 : Int32)
      · refine OGo.eqvI (show (g1_21_1 q1) = (((q1.toUInt32 >>> ((2 : Int32) &&& 31).toUInt32).toInt32) &&& (127 : Int32)) from if_pos hc21_3) ?_
        refine OGo.st (fun t k => XS.icmpNo X0.here hx rfl (hb hby d1_21) rfl (teq hc21_3).2 k) ?_
        show OGo p e below _ (s₁.setTop (mkF m 24 #[.val (.int q1), .val (.int (q1 &&& (3 : Int32)))] []))
        refine OGo.st (fun t k => XS.iloadN X0.here hx rfl (hb hby d1_24) rfl k) ?_
        show OGo p e below _ (s₁.setTop (mkF m 25 #[.val (.int q1), .val (.int (q1 &&& (3 : Int32)))] [(.int q1)]))
        refine OGo.st (fun t k => XS.iconst X0.here hx rfl (hb hby d1_25) k) ?_
        show OGo p e below _ (s₁.setTop (mkF m 26 #[.val (.int q1), .val (.int (q1 &&& (3 : Int32)))] [(.int (2 : Int32)), (.int q1)]))
        refine OGo.st (fun t k => XS.iushr X0.here hx rfl (hb hby d1_26) rfl k) ?_
        show OGo p e below _ (s₁.setTop (mkF m 27 #[.val (.int q1), .val (.int (q1 &&& (3 : Int32)))] [(.int ((q1.toUInt32 >>> ((2 : Int32) &&& 31).toUInt32).toInt32))]))
        refine OGo.st (fun t k => XS.bipush X0.here hx rfl (hb hby d1_27) k) ?_
        show OGo p e below _ (s₁.setTop (mkF m 29 #[.val (.int q1), .val (.int (q1 &&& (3 : Int32)))] [(.int (127 : Int32)), (.int ((q1.toUInt32 >>> ((2 : Int32) &&& 31).toUInt32).toInt32))]))
        refine OGo.st (fun t k => XS.iand X0.here hx rfl (hb hby d1_29) rfl k) ?_
        show OGo p e below _ (s₁.setTop (mkF m 30 #[.val (.int q1), .val (.int (q1 &&& (3 : Int32)))] [(.int (((q1.toUInt32 >>> ((2 : Int32) &&& 31).toUInt32).toInt32) &&& (127 : Int32)))]))
        exact OGo.outI X0 hx Bd.returns Bd.notSynchronized (hb hby d1_30) ⟨rfl, N0, e0⟩ (by decide) (by decide)
      · refine OGo.eqvI (show (g1_21_1 q1) = ((((q1.toUInt32 >>> ((2 : Int32) &&& 31).toUInt32).toInt32) &&& (1023 : Int32)) + (128 : Int32)) from if_neg hc21_3) ?_
        refine OGo.st (fun t k => XS.icmpYes X0.here hx rfl (pc0 := 21) (pc' := 31) rfl (hb hby d1_21) rfl (feq hc21_3).2 (by decide) (by decide) k) ?_
        show OGo p e below _ (s₁.setTop (mkF m 31 #[.val (.int q1), .val (.int (q1 &&& (3 : Int32)))] []))
        refine OGo.st (fun t k => XS.iloadN X0.here hx rfl (hb hby d1_31) rfl k) ?_
        show OGo p e below _ (s₁.setTop (mkF m 32 #[.val (.int q1), .val (.int (q1 &&& (3 : Int32)))] [(.int q1)]))
        refine OGo.st (fun t k => XS.iconst X0.here hx rfl (hb hby d1_32) k) ?_
        show OGo p e below _ (s₁.setTop (mkF m 33 #[.val (.int q1), .val (.int (q1 &&& (3 : Int32)))] [(.int (2 : Int32)), (.int q1)]))
        refine OGo.st (fun t k => XS.iushr X0.here hx rfl (hb hby d1_33) rfl k) ?_
        show OGo p e below _ (s₁.setTop (mkF m 34 #[.val (.int q1), .val (.int (q1 &&& (3 : Int32)))] [(.int ((q1.toUInt32 >>> ((2 : Int32) &&& 31).toUInt32).toInt32))]))
        refine OGo.st (fun t k => XS.sipush X0.here hx rfl (hb hby d1_34) k) ?_
        show OGo p e below _ (s₁.setTop (mkF m 37 #[.val (.int q1), .val (.int (q1 &&& (3 : Int32)))] [(.int (1023 : Int32)), (.int ((q1.toUInt32 >>> ((2 : Int32) &&& 31).toUInt32).toInt32))]))
        refine OGo.st (fun t k => XS.iand X0.here hx rfl (hb hby d1_37) rfl k) ?_
        show OGo p e below _ (s₁.setTop (mkF m 38 #[.val (.int q1), .val (.int (q1 &&& (3 : Int32)))] [(.int (((q1.toUInt32 >>> ((2 : Int32) &&& 31).toUInt32).toInt32) &&& (1023 : Int32)))]))
        refine OGo.st (fun t k => XS.sipush X0.here hx rfl (hb hby d1_38) k) ?_
        show OGo p e below _ (s₁.setTop (mkF m 41 #[.val (.int q1), .val (.int (q1 &&& (3 : Int32)))] [(.int (128 : Int32)), (.int (((q1.toUInt32 >>> ((2 : Int32) &&& 31).toUInt32).toInt32) &&& (1023 : Int32)))]))
        refine OGo.st (fun t k => XS.iadd X0.here hx rfl (hb hby d1_41) rfl k) ?_
        show OGo p e below _ (s₁.setTop (mkF m 42 #[.val (.int q1), .val (.int (q1 &&& (3 : Int32)))] [(.int ((((q1.toUInt32 >>> ((2 : Int32) &&& 31).toUInt32).toInt32) &&& (1023 : Int32)) + (128 : Int32)))]))
        exact OGo.outI X0 hx Bd.returns Bd.notSynchronized (hb hby d1_42) ⟨rfl, N0, e0⟩ (by decide) (by decide)
theorem d12_0 : decode method_5_code 0 = .ok (.iload_n 0, 1) := by decide +kernel
theorem d12_1 : decode method_5_code 1 = .ok (.bipush 13, 2) := by decide +kernel
theorem d12_3 : decode method_5_code 3 = .ok (.if_icmp .ne 5, 3) := by decide +kernel
theorem d12_6 : decode method_5_code 6 = .ok (.iconst 1, 1) := by decide +kernel
theorem d12_7 : decode method_5_code 7 = .ok (.ireturn, 1) := by decide +kernel
theorem d12_8 : decode method_5_code 8 = .ok (.iload_n 0, 1) := by decide +kernel
theorem d12_9 : decode method_5_code 9 = .ok (.bipush 10, 2) := by decide +kernel
theorem d12_11 : decode method_5_code 11 = .ok (.if_icmp .ne 9, 3) := by decide +kernel
theorem d12_14 : decode method_5_code 14 = .ok (.iload_n 1, 1) := by decide +kernel
theorem d12_15 : decode method_5_code 15 = .ok (.ifCond .ne 5, 3) := by decide +kernel
theorem d12_18 : decode method_5_code 18 = .ok (.iconst 1, 1) := by decide +kernel
theorem d12_19 : decode method_5_code 19 = .ok (.ireturn, 1) := by decide +kernel
theorem d12_20 : decode method_5_code 20 = .ok (.iconst 0, 1) := by decide +kernel
theorem d12_21 : decode method_5_code 21 = .ok (.ireturn, 1) := by decide +kernel
theorem pn12 : plainName "com/example/triadne/triadne/Utf8InputAdvancePinLaw" = true := by first | (simp [plainName, overriddenIn]; done) | decide +kernel
theorem ef12 (m : MethodId) (q1 : Int32) (q2 : Int32) : entryFrame m #[(.int q1), (.int q2)] 2 = mkF m 0 #[.val (.int q1), .val (.int q2)] [] := by first | (simp [entryFrame, mkF, argsToLocals, Value.category]; done) | rfl
def g12_15_1 (q1 : Int32) (q2 : Int32) : Int32 := if q2 = (0 : Int32) then (1 : Int32) else (0 : Int32)
def g12_11_2 (q1 : Int32) (q2 : Int32) : Int32 := if q1 = (10 : Int32) then (g12_15_1 q1 q2) else (0 : Int32)
def g12_3_3 (q1 : Int32) (q2 : Int32) : Int32 := if q1 = (13 : Int32) then (1 : Int32) else (g12_11_2 q1 q2)
def f12 (q1 : Int32) (q2 : Int32) : Int32 := (g12_3_3 q1 q2)
set_option maxRecDepth 65536 in
set_option maxHeartbeats 40000000 in
theorem rm12 (l : Launch) (Z : State) (a0 : Array Value) (hw : ∀ d ∈ tables_1, d.before a0 Z = true) (ws : List Jvm.Cond) (q1 : Int32) (q2 : Int32) (h0 : Heap) (n0 : Nat) (Z0 : n0 ≤ h0.size) :
    MetFree l (⟨"com/example/triadne/triadne/Utf8InputAdvancePinLaw", "breaks", "(IZ)I"⟩ : MethodName) (head1 (Jvm.Cond.code (⟨"com/example/triadne/triadne/Utf8InputAdvancePinLaw", "breaks", "(IZ)I"⟩ : MethodName) method_5_code 2 (some .int) :: ws) ({ frames := 0, cells := 0, slots := 0, locals := 0 } : Room)) (fun a U => a = #[(.int q1), (.int q2)] ∧ Z.Warmed39 U.vm ∧ U.heap = h0) (fun _ _ _ _ _ => True) (fun _ U o U' => ∃ v L, o = .returned v ∧ PI n0 h0 (f12 q1 q2) v U'.heap L ∧ FrameEnd U o U' L ({ frames := 0, cells := 0, slots := 0, locals := 0 } : Room).cells ({ frames := 0, cells := 0, slots := 0, locals := 0 } : Room).slots) := by
  refine MetFree.of_bodySF (plainFor_of_name pn12) hisR ?_
  intro p e s m args below meth c s₁ Bd hml0 hP hK
  obtain ⟨rfl, hZ, hh⟩ := hP
  have hx := Bd.exec
  have hby := Bd.bytes
  have hml : c.maxLocals = 2 := hml0
  have hown : s.vm.findClass "com/example/triadne/triadne/Utf8InputAdvancePinLaw" = some m.cls := findClass_of_methodNamed Bd.named
  have X0 : Stand p l e ({ frames := 0, cells := 0, slots := 0, locals := 0 } : Room) s m #[(.int q1), (.int q2)] below meth c s₁ [] 0 0 := Stand.of_body Bd
  have e0 : s₁.heap = h0 := by rw [← hh, Bd.state]; rfl
  have N0 := Fr.nil n0
  show OGo p e below (Out s ({ frames := 0, cells := 0, slots := 0, locals := 0 } : Room).cells ({ frames := 0, cells := 0, slots := 0, locals := 0 } : Room).slots (PI n0 h0 (f12 q1 q2))) (s₁.setTop (entryFrame m #[(.int q1), (.int q2)] 2))
  refine OGo.st (fun t k => castTop (ef12 m q1 q2) k) ?_
  show OGo p e below (Out s ({ frames := 0, cells := 0, slots := 0, locals := 0 } : Room).cells ({ frames := 0, cells := 0, slots := 0, locals := 0 } : Room).slots (PI n0 h0 (g12_3_3 q1 q2))) (s₁.setTop (mkF m 0 #[.val (.int q1), .val (.int q2)] []))
  refine OGo.st (fun t k => XS.iloadN X0.here hx rfl (hb hby d12_0) rfl k) ?_
  show OGo p e below _ (s₁.setTop (mkF m 1 #[.val (.int q1), .val (.int q2)] [(.int q1)]))
  refine OGo.st (fun t k => XS.bipush X0.here hx rfl (hb hby d12_1) k) ?_
  show OGo p e below _ (s₁.setTop (mkF m 3 #[.val (.int q1), .val (.int q2)] [(.int (13 : Int32)), (.int q1)]))
  by_cases hc3_1 : q1 = (13 : Int32)
  · refine OGo.eqvI (show (g12_3_3 q1 q2) = (1 : Int32) from if_pos hc3_1) ?_
    refine OGo.st (fun t k => XS.icmpNo X0.here hx rfl (hb hby d12_3) rfl (teq hc3_1).2 k) ?_
    show OGo p e below _ (s₁.setTop (mkF m 6 #[.val (.int q1), .val (.int q2)] []))
    refine OGo.st (fun t k => XS.iconst X0.here hx rfl (hb hby d12_6) k) ?_
    show OGo p e below _ (s₁.setTop (mkF m 7 #[.val (.int q1), .val (.int q2)] [(.int (1 : Int32))]))
    exact OGo.outI X0 hx Bd.returns Bd.notSynchronized (hb hby d12_7) ⟨rfl, N0, e0⟩ (by decide) (by decide)
  · refine OGo.eqvI (show (g12_3_3 q1 q2) = (g12_11_2 q1 q2) from if_neg hc3_1) ?_
    refine OGo.st (fun t k => XS.icmpYes X0.here hx rfl (pc0 := 3) (pc' := 8) rfl (hb hby d12_3) rfl (feq hc3_1).2 (by decide) (by decide) k) ?_
    show OGo p e below _ (s₁.setTop (mkF m 8 #[.val (.int q1), .val (.int q2)] []))
    refine OGo.st (fun t k => XS.iloadN X0.here hx rfl (hb hby d12_8) rfl k) ?_
    show OGo p e below _ (s₁.setTop (mkF m 9 #[.val (.int q1), .val (.int q2)] [(.int q1)]))
    refine OGo.st (fun t k => XS.bipush X0.here hx rfl (hb hby d12_9) k) ?_
    show OGo p e below _ (s₁.setTop (mkF m 11 #[.val (.int q1), .val (.int q2)] [(.int (10 : Int32)), (.int q1)]))
    by_cases hc11_2 : q1 = (10 : Int32)
    · refine OGo.eqvI (show (g12_11_2 q1 q2) = (g12_15_1 q1 q2) from if_pos hc11_2) ?_
      refine OGo.st (fun t k => XS.icmpNo X0.here hx rfl (hb hby d12_11) rfl (teq hc11_2).2 k) ?_
      show OGo p e below _ (s₁.setTop (mkF m 14 #[.val (.int q1), .val (.int q2)] []))
      refine OGo.st (fun t k => XS.iloadN X0.here hx rfl (hb hby d12_14) rfl k) ?_
      show OGo p e below _ (s₁.setTop (mkF m 15 #[.val (.int q1), .val (.int q2)] [(.int q2)]))
      by_cases hc15_3 : q2 = (0 : Int32)
      · refine OGo.eqvI (show (g12_15_1 q1 q2) = (1 : Int32) from if_pos hc15_3) ?_
        refine OGo.st (fun t k => XS.ifNo X0.here hx rfl (hb hby d12_15) rfl ((if0 _ _).trans (teq hc15_3).2) k) ?_
        show OGo p e below _ (s₁.setTop (mkF m 18 #[.val (.int q1), .val (.int q2)] []))
        refine OGo.st (fun t k => XS.iconst X0.here hx rfl (hb hby d12_18) k) ?_
        show OGo p e below _ (s₁.setTop (mkF m 19 #[.val (.int q1), .val (.int q2)] [(.int (1 : Int32))]))
        exact OGo.outI X0 hx Bd.returns Bd.notSynchronized (hb hby d12_19) ⟨rfl, N0, e0⟩ (by decide) (by decide)
      · refine OGo.eqvI (show (g12_15_1 q1 q2) = (0 : Int32) from if_neg hc15_3) ?_
        refine OGo.st (fun t k => XS.ifYes X0.here hx rfl (pc0 := 15) (pc' := 20) rfl (hb hby d12_15) rfl ((if0 _ _).trans (feq hc15_3).2) (by decide) (by decide) k) ?_
        show OGo p e below _ (s₁.setTop (mkF m 20 #[.val (.int q1), .val (.int q2)] []))
        refine OGo.st (fun t k => XS.iconst X0.here hx rfl (hb hby d12_20) k) ?_
        show OGo p e below _ (s₁.setTop (mkF m 21 #[.val (.int q1), .val (.int q2)] [(.int (0 : Int32))]))
        exact OGo.outI X0 hx Bd.returns Bd.notSynchronized (hb hby d12_21) ⟨rfl, N0, e0⟩ (by decide) (by decide)
    · refine OGo.eqvI (show (g12_11_2 q1 q2) = (0 : Int32) from if_neg hc11_2) ?_
      refine OGo.st (fun t k => XS.icmpYes X0.here hx rfl (pc0 := 11) (pc' := 20) rfl (hb hby d12_11) rfl (feq hc11_2).2 (by decide) (by decide) k) ?_
      show OGo p e below _ (s₁.setTop (mkF m 20 #[.val (.int q1), .val (.int q2)] []))
      refine OGo.st (fun t k => XS.iconst X0.here hx rfl (hb hby d12_20) k) ?_
      show OGo p e below _ (s₁.setTop (mkF m 21 #[.val (.int q1), .val (.int q2)] [(.int (0 : Int32))]))
      exact OGo.outI X0 hx Bd.returns Bd.notSynchronized (hb hby d12_21) ⟨rfl, N0, e0⟩ (by decide) (by decide)
theorem d13_0 : decode method_4_code 0 = .ok (.iload_n 0, 1) := by decide +kernel
theorem d13_1 : decode method_4_code 1 = .ok (.bipush 10, 2) := by decide +kernel
theorem d13_3 : decode method_4_code 3 = .ok (.if_icmp .eq 9, 3) := by decide +kernel
theorem d13_6 : decode method_4_code 6 = .ok (.iload_n 0, 1) := by decide +kernel
theorem d13_7 : decode method_4_code 7 = .ok (.bipush 13, 2) := by decide +kernel
theorem d13_9 : decode method_4_code 9 = .ok (.if_icmp .ne 7, 3) := by decide +kernel
theorem d13_12 : decode method_4_code 12 = .ok (.iconst 1, 1) := by decide +kernel
theorem d13_13 : decode method_4_code 13 = .ok (.goto 4, 3) := by decide +kernel
theorem d13_16 : decode method_4_code 16 = .ok (.iconst 0, 1) := by decide +kernel
theorem d13_17 : decode method_4_code 17 = .ok (.ireturn, 1) := by decide +kernel
theorem pn13 : plainName "com/example/triadne/triadne/Utf8InputAdvancePinLaw" = true := by first | (simp [plainName, overriddenIn]; done) | decide +kernel
theorem ef13 (m : MethodId) (q1 : Int32) : entryFrame m #[(.int q1)] 1 = mkF m 0 #[.val (.int q1)] [] := by first | (simp [entryFrame, mkF, argsToLocals, Value.category]; done) | rfl
def g13_9_1 (q1 : Int32) : Int32 := if q1 = (13 : Int32) then (1 : Int32) else (0 : Int32)
def g13_3_2 (q1 : Int32) : Int32 := if q1 = (10 : Int32) then (1 : Int32) else (g13_9_1 q1)
def f13 (q1 : Int32) : Int32 := (g13_3_2 q1)
set_option maxRecDepth 65536 in
set_option maxHeartbeats 40000000 in
theorem rm13 (l : Launch) (Z : State) (a0 : Array Value) (hw : ∀ d ∈ tables_1, d.before a0 Z = true) (ws : List Jvm.Cond) (q1 : Int32) (h0 : Heap) (n0 : Nat) (Z0 : n0 ≤ h0.size) :
    MetFree l (⟨"com/example/triadne/triadne/Utf8InputAdvancePinLaw", "isBreak", "(I)Z"⟩ : MethodName) (head1 (Jvm.Cond.code (⟨"com/example/triadne/triadne/Utf8InputAdvancePinLaw", "isBreak", "(I)Z"⟩ : MethodName) method_4_code 1 (some .boolean) :: ws) ({ frames := 0, cells := 0, slots := 0, locals := 0 } : Room)) (fun a U => a = #[(.int q1)] ∧ Z.Warmed39 U.vm ∧ U.heap = h0) (fun _ _ _ _ _ => True) (fun _ U o U' => ∃ v L, o = .returned v ∧ PI n0 h0 (f13 q1) v U'.heap L ∧ FrameEnd U o U' L ({ frames := 0, cells := 0, slots := 0, locals := 0 } : Room).cells ({ frames := 0, cells := 0, slots := 0, locals := 0 } : Room).slots) := by
  refine MetFree.of_bodySF (plainFor_of_name pn13) hisR ?_
  intro p e s m args below meth c s₁ Bd hml0 hP hK
  obtain ⟨rfl, hZ, hh⟩ := hP
  have hx := Bd.exec
  have hby := Bd.bytes
  have hml : c.maxLocals = 1 := hml0
  have hown : s.vm.findClass "com/example/triadne/triadne/Utf8InputAdvancePinLaw" = some m.cls := findClass_of_methodNamed Bd.named
  have X0 : Stand p l e ({ frames := 0, cells := 0, slots := 0, locals := 0 } : Room) s m #[(.int q1)] below meth c s₁ [] 0 0 := Stand.of_body Bd
  have e0 : s₁.heap = h0 := by rw [← hh, Bd.state]; rfl
  have N0 := Fr.nil n0
  show OGo p e below (Out s ({ frames := 0, cells := 0, slots := 0, locals := 0 } : Room).cells ({ frames := 0, cells := 0, slots := 0, locals := 0 } : Room).slots (PI n0 h0 (f13 q1))) (s₁.setTop (entryFrame m #[(.int q1)] 1))
  refine OGo.st (fun t k => castTop (ef13 m q1) k) ?_
  show OGo p e below (Out s ({ frames := 0, cells := 0, slots := 0, locals := 0 } : Room).cells ({ frames := 0, cells := 0, slots := 0, locals := 0 } : Room).slots (PI n0 h0 (g13_3_2 q1))) (s₁.setTop (mkF m 0 #[.val (.int q1)] []))
  refine OGo.st (fun t k => XS.iloadN X0.here hx rfl (hb hby d13_0) rfl k) ?_
  show OGo p e below _ (s₁.setTop (mkF m 1 #[.val (.int q1)] [(.int q1)]))
  refine OGo.st (fun t k => XS.bipush X0.here hx rfl (hb hby d13_1) k) ?_
  show OGo p e below _ (s₁.setTop (mkF m 3 #[.val (.int q1)] [(.int (10 : Int32)), (.int q1)]))
  by_cases hc3_1 : q1 = (10 : Int32)
  · refine OGo.eqvI (show (g13_3_2 q1) = (1 : Int32) from if_pos hc3_1) ?_
    refine OGo.st (fun t k => XS.icmpYes X0.here hx rfl (pc0 := 3) (pc' := 12) rfl (hb hby d13_3) rfl (teq hc3_1).1 (by decide) (by decide) k) ?_
    show OGo p e below _ (s₁.setTop (mkF m 12 #[.val (.int q1)] []))
    refine OGo.st (fun t k => XS.iconst X0.here hx rfl (hb hby d13_12) k) ?_
    show OGo p e below _ (s₁.setTop (mkF m 13 #[.val (.int q1)] [(.int (1 : Int32))]))
    refine OGo.st (fun t k => XS.goto X0.here hx rfl (pc0 := 13) (pc' := 17) rfl (hb hby d13_13) (by decide) (by decide) k) ?_
    show OGo p e below _ (s₁.setTop (mkF m 17 #[.val (.int q1)] [(.int (1 : Int32))]))
    exact OGo.outN X0 hx (t := .boolean) Bd.returns (by simp) Bd.notSynchronized (hb hby d13_17) ⟨rfl, N0, e0⟩ (by decide) (by decide)
  · refine OGo.eqvI (show (g13_3_2 q1) = (g13_9_1 q1) from if_neg hc3_1) ?_
    refine OGo.st (fun t k => XS.icmpNo X0.here hx rfl (hb hby d13_3) rfl (feq hc3_1).1 k) ?_
    show OGo p e below _ (s₁.setTop (mkF m 6 #[.val (.int q1)] []))
    refine OGo.st (fun t k => XS.iloadN X0.here hx rfl (hb hby d13_6) rfl k) ?_
    show OGo p e below _ (s₁.setTop (mkF m 7 #[.val (.int q1)] [(.int q1)]))
    refine OGo.st (fun t k => XS.bipush X0.here hx rfl (hb hby d13_7) k) ?_
    show OGo p e below _ (s₁.setTop (mkF m 9 #[.val (.int q1)] [(.int (13 : Int32)), (.int q1)]))
    by_cases hc9_2 : q1 = (13 : Int32)
    · refine OGo.eqvI (show (g13_9_1 q1) = (1 : Int32) from if_pos hc9_2) ?_
      refine OGo.st (fun t k => XS.icmpNo X0.here hx rfl (hb hby d13_9) rfl (teq hc9_2).2 k) ?_
      show OGo p e below _ (s₁.setTop (mkF m 12 #[.val (.int q1)] []))
      refine OGo.st (fun t k => XS.iconst X0.here hx rfl (hb hby d13_12) k) ?_
      show OGo p e below _ (s₁.setTop (mkF m 13 #[.val (.int q1)] [(.int (1 : Int32))]))
      refine OGo.st (fun t k => XS.goto X0.here hx rfl (pc0 := 13) (pc' := 17) rfl (hb hby d13_13) (by decide) (by decide) k) ?_
      show OGo p e below _ (s₁.setTop (mkF m 17 #[.val (.int q1)] [(.int (1 : Int32))]))
      exact OGo.outN X0 hx (t := .boolean) Bd.returns (by simp) Bd.notSynchronized (hb hby d13_17) ⟨rfl, N0, e0⟩ (by decide) (by decide)
    · refine OGo.eqvI (show (g13_9_1 q1) = (0 : Int32) from if_neg hc9_2) ?_
      refine OGo.st (fun t k => XS.icmpYes X0.here hx rfl (pc0 := 9) (pc' := 16) rfl (hb hby d13_9) rfl (feq hc9_2).2 (by decide) (by decide) k) ?_
      show OGo p e below _ (s₁.setTop (mkF m 16 #[.val (.int q1)] []))
      refine OGo.st (fun t k => XS.iconst X0.here hx rfl (hb hby d13_16) k) ?_
      show OGo p e below _ (s₁.setTop (mkF m 17 #[.val (.int q1)] [(.int (0 : Int32))]))
      exact OGo.outN X0 hx (t := .boolean) Bd.returns (by simp) Bd.notSynchronized (hb hby d13_17) ⟨rfl, N0, e0⟩ (by decide) (by decide)
theorem own_oeq {f : Nat → Int32} {k : Nat} {x : Int32} : oset f k x k = x := if_pos rfl
theorem own_one {f : Nat → Int32} {k j : Nat} {x : Int32} (h : ¬ j = k) : oset f k x j = f j := if_neg h
theorem own_sz (c : Int32) : 1 ≤ sz c ∧ sz c ≤ 2 := by
  unfold sz
  by_cases h : c < 128
  · rw [if_pos h]; omega
  · rw [if_neg h]; omega
def own_V (c : Int32) : Prop := ∃ n : Nat, n < 1152 ∧ c = Int32.ofNat n
theorem own_mask (x : Int32) (k : Nat) (hk : k < 20) : ∃ n : Nat, n < 2 ^ k ∧ (x &&& (Int32.ofNat (2 ^ k - 1))) = Int32.ofNat n := by
  have hp : 2 ^ k < 2 ^ 20 := Nat.pow_lt_pow_right (by omega) hk
  have hp0 : 0 < 2 ^ k := Nat.two_pow_pos k
  have h : ∀ b : BitVec 32, b &&& BitVec.ofNat 32 (2 ^ k - 1) = BitVec.ofNat 32 (b.toNat % 2 ^ k) := fun b => by
    apply BitVec.eq_of_toNat_eq
    have e1 : (2 ^ k - 1) % 2 ^ 32 = 2 ^ k - 1 := Nat.mod_eq_of_lt (by omega)
    have e2 : b.toNat % 2 ^ k < 2 ^ k := Nat.mod_lt _ (by omega)
    rw [BitVec.toNat_and, BitVec.toNat_ofNat, BitVec.toNat_ofNat, e1, Nat.and_two_pow_sub_one_eq_mod, Nat.mod_eq_of_lt (a := b.toNat % 2 ^ k) (by omega)]
  exact ⟨x.toBitVec.toNat % 2 ^ k, Nat.mod_lt _ (by omega), Int32.toBitVec_inj.mp (h x.toBitVec)⟩
theorem own_pick {q c : Int32} (h : f1 q = c) : own_V c := by
  subst h
  unfold f1
  unfold g1_5_3
  split
  · exact ⟨10, by omega, rfl⟩
  · unfold g1_13_2
    split
    · exact ⟨13, by omega, rfl⟩
    · unfold g1_21_1
      split
      · obtain ⟨n, hn, e⟩ := own_mask ((q.toUInt32 >>> ((2 : Int32) &&& 31).toUInt32).toInt32) 7 (by omega)
        exact ⟨n, by omega, e⟩
      · obtain ⟨n, hn, e⟩ := own_mask ((q.toUInt32 >>> ((2 : Int32) &&& 31).toUInt32).toInt32) 10 (by omega)
        refine ⟨n + 128, by omega, ?_⟩
        have e' : (((q.toUInt32 >>> ((2 : Int32) &&& 31).toUInt32).toInt32) &&& (1023 : Int32)) = Int32.ofNat n := e
        rw [e']
        rw [← Int32.toInt_inj, Int32.toInt_add, own_toInt (by omega), own_toInt (by omega)]
        have e128 : (128 : Int32).toInt = 128 := by decide
        rw [e128, Int.bmod_eq_of_le (by omega) (by omega)]
        omega
set_option maxRecDepth 65536 in
theorem own_ascii : ∀ n : Fin 128, Int32.ofNat n.val < 128 ∧ ((((Int32.ofNat n.val).toInt8.toInt32).toInt8.toInt32) &&& (255 : Int32)) = Int32.ofNat n.val ∧ Int32.ofNat n.val < 128 := by
  decide +kernel
def own_A (c : Int32) : Int32 := ((((192 : Int32) ||| (c >>> ((6 : Int32) &&& 31))).toInt8.toInt32).toInt8.toInt32)
def own_B (c : Int32) : Int32 := ((((128 : Int32) ||| (c &&& (63 : Int32))).toInt8.toInt32).toInt8.toInt32)
def own_ok (c : Int32) : Bool := decide (¬ c < 128) && decide (¬ (own_A c &&& 255) < 128) && decide (¬ (own_A c &&& 255) < 194) && decide (¬ 223 < (own_A c &&& 255)) && decide (((own_B c &&& 255) &&& 192) = 128) && decide (¬ 1114111 < c) && decide (c < 55296) && decide (c = (((own_A c &&& 255) &&& 31) <<< ((6 : Int32) &&& 31)) ||| ((own_B c &&& 255) &&& 63))
set_option maxRecDepth 65536 in
theorem own_two : ∀ n : Fin 1024, own_ok (Int32.ofNat (n.val + 128)) = true := by
  decide +kernel
theorem own_V2 {c : Int32} (v : own_V c) : (c < 128 ∧ ((c.toInt8.toInt32).toInt8.toInt32 &&& (255 : Int32)) = c) ∨ own_ok c = true := by
  obtain ⟨n, hn, rfl⟩ := v
  by_cases h : n < 128
  · have q := own_ascii ⟨n, h⟩
    exact Or.inl ⟨q.1, q.2.1⟩
  · have q := own_two ⟨n - 128, by omega⟩
    have e : n - 128 + 128 = n := by omega
    rw [show (⟨n - 128, by omega⟩ : Fin 1024).val + 128 = n from e] at q
    exact Or.inr q
theorem own_put_lt {f : Nat → Int32} {ps j : Nat} {c : Int32} (h : j < ps) : putF f ps c j = f j := by
  unfold putF
  by_cases q : c < 128
  · rw [if_pos q, own_one (by omega)]
  · rw [if_neg q, own_one (by omega), own_one (by omega)]
theorem own_put_ge {f : Nat → Int32} {ps j : Nat} {c : Int32} (h : ps + sz c ≤ j) : putF f ps c j = f j := by
  unfold putF sz at *
  by_cases q : c < 128
  · rw [if_pos q] at h ⊢; rw [own_one (by omega)]
  · rw [if_neg q] at h ⊢; rw [own_one (by omega), own_one (by omega)]
theorem own_dec {f : Nat → Int32} {ps : Nat} {c : Int32} (v : own_V c) (h : ps + 2 ≤ 7) : Dec (putF f ps c) ps c (sz c) := by
  rcases own_V2 v with ⟨h1, h2⟩ | h1
  · refine Or.inl ⟨if_pos h1, by omega, ?_⟩
    have e : putF f ps c ps = (c.toInt8.toInt32).toInt8.toInt32 := by
      unfold putF
      rw [if_pos h1, own_oeq]
    rw [e, h2]
    exact ⟨h1, rfl⟩
  · simp only [own_ok, Bool.and_eq_true, decide_eq_true_eq] at h1
    obtain ⟨⟨⟨⟨⟨⟨⟨k0, k1⟩, k2⟩, k3⟩, k4⟩, k5⟩, k6⟩, k7⟩ := h1
    have e1 : putF f ps c ps = own_A c := by
      unfold putF
      rw [if_neg k0, own_one (by omega), own_oeq]
      rfl
    have e2 : putF f ps c (ps + 1) = own_B c := by
      unfold putF
      rw [if_neg k0, own_oeq]
      rfl
    refine Or.inr ⟨if_neg k0, by omega, ?_⟩
    rw [e1, e2]
    exact ⟨k1, k2, k3, k4, k0, k5, k6, k7⟩
theorem own_frame {f g : Nat → Int32} {bp d : Nat} {c : Int32} (D : Dec f bp c d) (h : ∀ j, j < bp + d → g j = f j) : Dec g bp c d := by
  rcases D with ⟨rfl, h1⟩ | ⟨rfl, h1⟩
  · refine Or.inl ⟨rfl, ?_⟩
    rw [h bp (by omega)]
    exact h1
  · refine Or.inr ⟨rfl, ?_⟩
    rw [h bp (by omega), h (bp + 1) (by omega)]
    exact h1
section Three
variable {c0 c1 c2 : Int32}
theorem own_d0 (v0 : own_V c0) (v1 : own_V c1) (v2 : own_V c2) : Dec (putF (putF (putF (fun _ => 0) 0 c0) (0 + sz c0) c1) ((0 + sz c0) + sz c1) c2) 0 c0 (sz c0) :=
  own_frame (own_frame (own_dec v0 (by omega)) fun j hj => own_put_lt hj) fun j hj => own_put_lt (by omega)
theorem own_d1 (v0 : own_V c0) (v1 : own_V c1) (v2 : own_V c2) : Dec (putF (putF (putF (fun _ => 0) 0 c0) (0 + sz c0) c1) ((0 + sz c0) + sz c1) c2) (0 + sz c0) c1 (sz c1) :=
  own_frame (own_dec v1 (by have := own_sz c0; omega)) fun j hj => own_put_lt hj
theorem own_d2 (v0 : own_V c0) (v1 : own_V c1) (v2 : own_V c2) : Dec (putF (putF (putF (fun _ => 0) 0 c0) (0 + sz c0) c1) ((0 + sz c0) + sz c1) c2) ((0 + sz c0) + sz c1) c2 (sz c2) :=
  own_dec v2 (by have := own_sz c0; have := own_sz c1; omega)
theorem own_d3 (v0 : own_V c0) (v1 : own_V c1) (v2 : own_V c2) : Dec (putF (putF (putF (fun _ => 0) 0 c0) (0 + sz c0) c1) ((0 + sz c0) + sz c1) c2) (((0 + sz c0) + sz c1) + sz c2) 0 1 := by
  have s0 := own_sz c0; have s1 := own_sz c1; have s2 := own_sz c2
  refine Or.inl ⟨rfl, by omega, ?_⟩
  rw [own_put_ge (Nat.le_refl _), own_put_ge (by omega), own_put_ge (by omega)]
  decide
theorem own_line (c0 c1 c2 : Int32) : (aLn c2 (aCr c1) (aLn c1 (aCr c0) (aLn c0 0 1))) = ((((1 : Int32) + (f12 c0 (0 : Int32))) + (f12 c1 (if c0 = (13 : Int32) then (1 : Int32) else (0 : Int32)))) + (f12 c2 (if c1 = (13 : Int32) then (1 : Int32) else (0 : Int32)))) := by
  have w : ∀ c : Int32, c = 13 ∨ c = 10 ∨ (¬ c = 13 ∧ ¬ c = 10) := fun c => by
    by_cases h : c = 13
    · exact Or.inl h
    · by_cases h1 : c = 10
      · exact Or.inr (Or.inl h1)
      · exact Or.inr (Or.inr ⟨h, h1⟩)
  rcases w c0 with rfl | rfl | ⟨a1, a2⟩ <;> rcases w c1 with rfl | rfl | ⟨b1, b2⟩ <;> rcases w c2 with rfl | rfl | ⟨d1, d2⟩ <;> simp +decide [aLn, aCr, f12, g12_15_1, g12_11_2, g12_3_3, *]
theorem own_isb (c : Int32) : f13 c = if c = 10 ∨ c = 13 then 1 else 0 := by
  by_cases h : c = 10
  · simp [f13, g13_9_1, g13_3_2, h]
  · by_cases h1 : c = 13
    · simp +decide [f13, g13_9_1, g13_3_2, h1]
    · simp [f13, g13_9_1, g13_3_2, h, h1]
theorem own_b1 {c : Int32} (h : ¬ f13 c = 0) (x : Int32) : aCo c x = 1 := by
  rw [own_isb] at h
  by_cases q : c = 10
  · simp [aCo, q]
  · by_cases q1 : c = 13
    · simp [aCo, q1]
    · exact absurd (if_neg (by rintro (z | z); exact q z; exact q1 z)) h
theorem own_b0 {c : Int32} (h : f13 c = 0) (x : Int32) : aCo c x = x + 1 := by
  rw [own_isb] at h
  have q : ¬ (c = 10 ∨ c = 13) := fun z => by rw [if_pos z] at h; exact absurd h (by decide)
  have q1 : ¬ c = 10 := fun z => q (Or.inl z)
  have q2 : ¬ c = 13 := fun z => q (Or.inr z)
  simp [aCo, q1, q2]
theorem own_colx (h2 : f13 c2 = 0) (h1 : f13 c1 = 0) (h0 : f13 c0 = 0) : aCo c2 (aCo c1 (aCo c0 1)) = 4 := by rw [own_b0 h2, own_b0 h1, own_b0 h0]; decide
theorem own_col3 (h2 : f13 c2 = 0) (h1 : f13 c1 = 0) (h0 : ¬ f13 c0 = 0) : aCo c2 (aCo c1 (aCo c0 1)) = 3 := by rw [own_b0 h2, own_b0 h1, own_b1 h0]; decide
theorem own_col2 (h2 : f13 c2 = 0) (h1 : ¬ f13 c1 = 0) : aCo c2 (aCo c1 (aCo c0 1)) = 2 := by rw [own_b0 h2, own_b1 h1]; decide
theorem own_col1 (h2 : ¬ f13 c2 = 0) : aCo c2 (aCo c1 (aCo c0 1)) = 1 := own_b1 h2 _
end Three
theorem pn0 : plainName "com/example/triadne/triadne/Utf8InputAdvancePinLaw" = true := by first | (simp [plainName, overriddenIn]; done) | decide +kernel
theorem pd0_0 : parseMethodDescriptor "(I)I" = some ⟨[.int], some .int⟩ := by decide +kernel
theorem pd0_1 : parseMethodDescriptor "([BII)I" = some ⟨[(.array .byte), .int, .int], some .int⟩ := by decide +kernel
theorem pd0_2 : parseMethodDescriptor "([B)V" = some ⟨[(.array .byte)], none⟩ := by decide +kernel
theorem pd0_3 : parseMethodDescriptor "(I)V" = some ⟨[.int], none⟩ := by decide +kernel
theorem pd0_4 : parseMethodDescriptor "(IZ)I" = some ⟨[.int, .boolean], some .int⟩ := by decide +kernel
theorem pd0_5 : parseMethodDescriptor "(I)Z" = some ⟨[.int], some .boolean⟩ := by decide +kernel
theorem pd0_6 : parseMethodDescriptor "()I" = some ⟨[], some .int⟩ := by decide +kernel
theorem ef0 (m : MethodId) (q1 : Int32) (q2 : Int32) (q3 : Int32) : entryFrame m #[(.int q1), (.int q2), (.int q3)] maxLocals = mkF m 0 #[.val (.int q1), .val (.int q2), .val (.int q3), .unset, .unset, .unset, .unset, .unset, .unset, .unset, .unset, .unset, .unset] [] := by first | (simp [entryFrame, mkF, argsToLocals, Value.category, maxLocals]; done) | rfl
set_option maxRecDepth 65536 in
set_option maxHeartbeats 40000000 in
theorem rm0 (l : Launch) (Z : State) (a0 : Array Value) (hw : ∀ d ∈ tables_1, d.before a0 Z = true) (ws : List Jvm.Cond) (q1 : Int32) (q2 : Int32) (q3 : Int32) (h0 : Heap) (n0 : Nat) (Z0 : n0 ≤ h0.size) :
    MetFree l x (head1 (Jvm.Cond.code x code maxLocals ret :: ws) room_1) (fun a U => a = #[(.int q1), (.int q2), (.int q3)] ∧ Z.Warmed39 U.vm ∧ U.heap = h0) (fun _ _ _ _ _ => True) (fun _ U o U' => ∃ v L, o = .returned v ∧ PF n0 1 v U'.heap L ∧ FrameEnd U o U' L room_1.cells room_1.slots) := by
  refine MetFree.of_bodySF (plainFor_of_name pn0) hisR ?_
  intro p e s m args below meth c s₁ Bd hml0 hP hK
  obtain ⟨rfl, hZ, hh⟩ := hP
  have hx := Bd.exec
  have hby := Bd.bytes
  have hml : c.maxLocals = 13 := hml0
  have hown : s.vm.findClass "com/example/triadne/triadne/Utf8InputAdvancePinLaw" = some m.cls := findClass_of_methodNamed Bd.named
  have hnm := (name_of_methodNamed Bd.named Bd.method).1
  have X0 : Stand p l e room_1 s m #[(.int q1), (.int q2), (.int q3)] below meth c s₁ [] 0 0 := Stand.of_body Bd
  have e0 : s₁.heap = h0 := by rw [← hh, Bd.state]; rfl
  have N0 := Fr.nil n0
  show OGo p e below (Out s room_1.cells room_1.slots (PF n0 1)) (s₁.setTop (entryFrame m #[(.int q1), (.int q2), (.int q3)] maxLocals))
  obtain ⟨c0, hc0⟩ : ∃ z, f1 q1 = z := ⟨_, rfl⟩
  obtain ⟨c1, hc1⟩ : ∃ z, f1 q2 = z := ⟨_, rfl⟩
  obtain ⟨c2, hc2⟩ : ∃ z, f1 q3 = z := ⟨_, rfl⟩
  have v0 := own_pick hc0
  have v1 := own_pick hc1
  have v2 := own_pick hc2
  refine OGo.st (fun t k => castTop (ef0 m q1 q2 q3) k) ?_
  show OGo p e below (Out s room_1.cells room_1.slots (PF n0 1)) (s₁.setTop (mkF m 0 #[.val (.int q1), .val (.int q2), .val (.int q3), .unset, .unset, .unset, .unset, .unset, .unset, .unset, .unset, .unset, .unset] []))
  refine OGo.st (fun t k => XS.iloadN X0.here hx rfl (hb hby at_0) rfl k) ?_
  show OGo p e below _ (s₁.setTop (mkF m 1 #[.val (.int q1), .val (.int q2), .val (.int q3), .unset, .unset, .unset, .unset, .unset, .unset, .unset, .unset, .unset, .unset] [(.int q1)]))
  obtain ⟨_, _, ⟨T1, L1, k1, n1⟩, -, X1, ⟨Lc1, hQ1, l1, y1, z1⟩, st1⟩ := Jvm.LawKit.callS X0 hx (y := (⟨"com/example/triadne/triadne/Utf8InputAdvancePinLaw", "pick", "(I)I"⟩ : MethodName)) hown (mvT hZ (hw _ (List.mem_of_getElem? (i := 0) rfl))) (mvT hZ (hw _ (List.mem_of_getElem? (i := 1) rfl))) (mvT hZ (hw _ (List.mem_of_getElem? (i := 2) rfl))) (mvT hZ (hw _ (List.mem_of_getElem? (i := 3) rfl))) (by decide) (backOf (W := 0) (rm1 l Z a0 hw [] q1 h0 n0 Z0) hZ (hw _ (List.mem_of_getElem? (i := 3) rfl)) (hw _ (List.mem_of_getElem? (i := 2) rfl)) (by decide) (by decide)) (g := (mkF m 1 #[.val (.int q1), .val (.int q2), .val (.int q3), .unset, .unset, .unset, .unset, .unset, .unset, .unset, .unset, .unset, .unset] [(.int q1)])) rfl (by rw [hml]; rfl) (argsL := [(.int q1)]) (rest := []) (lenOf pd0_0 rfl) rfl (by show 2 * 0 + _ ≤ _; exact Nat.le_of_eq rfl) (hb hby at_1) (fun _ _ => ⟨rfl, e0, (by decide : 0 + 0 ≤ _), (by decide : 0 + 0 ≤ _)⟩)
  dsimp only [Pt.U, Pt.locs, Pt.cells, Pt.slots] at X1 l1 y1 z1 st1 hQ1
  subst l1 y1 z1
  obtain ⟨rfl, Nq1, e1⟩ := hQ1
  have N1 := Fr.app N0 Nq1
  obtain ⟨lo1, X1, N1⟩ : ∃ L, Stand p l e room_1 s m #[(.int q1), (.int q2), (.int q3)] below meth c T1 L 0 0 ∧ Fr n0 L := ⟨_, X1, N1⟩
  refine OGo.st (fun t k => st1 t k) ?_
  show OGo p e below _ (T1.setTop (mkF m 4 #[.val (.int q1), .val (.int q2), .val (.int q3), .unset, .unset, .unset, .unset, .unset, .unset, .unset, .unset, .unset, .unset] [(.int (f1 q1))]))
  rw [hc0]
  show OGo p e below _ (T1.setTop (mkF m 4 #[.val (.int q1), .val (.int q2), .val (.int q3), .unset, .unset, .unset, .unset, .unset, .unset, .unset, .unset, .unset, .unset] [(.int c0)]))
  refine OGo.st (fun t k => XS.istoreN X1.here hx rfl (hb hby at_4) rfl (l' := #[.val (.int q1), .val (.int q2), .val (.int q3), .val (.int c0), .unset, .unset, .unset, .unset, .unset, .unset, .unset, .unset, .unset]) rfl k) ?_
  show OGo p e below _ (T1.setTop (mkF m 5 #[.val (.int q1), .val (.int q2), .val (.int q3), .val (.int c0), .unset, .unset, .unset, .unset, .unset, .unset, .unset, .unset, .unset] []))
  refine OGo.st (fun t k => XS.iloadN X1.here hx rfl (hb hby at_5) rfl k) ?_
  show OGo p e below _ (T1.setTop (mkF m 6 #[.val (.int q1), .val (.int q2), .val (.int q3), .val (.int c0), .unset, .unset, .unset, .unset, .unset, .unset, .unset, .unset, .unset] [(.int q2)]))
  obtain ⟨_, _, ⟨T2, L2, k2, n2⟩, -, X2, ⟨Lc2, hQ2, l2, y2, z2⟩, st2⟩ := Jvm.LawKit.callS X1 hx (y := (⟨"com/example/triadne/triadne/Utf8InputAdvancePinLaw", "pick", "(I)I"⟩ : MethodName)) hown (mvT hZ (hw _ (List.mem_of_getElem? (i := 0) rfl))) (mvT hZ (hw _ (List.mem_of_getElem? (i := 1) rfl))) (mvT hZ (hw _ (List.mem_of_getElem? (i := 2) rfl))) (mvT hZ (hw _ (List.mem_of_getElem? (i := 3) rfl))) (by decide) (backOf (W := 0) (rm1 l Z a0 hw [] q2 h0 n0 Z0) hZ (hw _ (List.mem_of_getElem? (i := 3) rfl)) (hw _ (List.mem_of_getElem? (i := 2) rfl)) (by decide) (by decide)) (g := (mkF m 6 #[.val (.int q1), .val (.int q2), .val (.int q3), .val (.int c0), .unset, .unset, .unset, .unset, .unset, .unset, .unset, .unset, .unset] [(.int q2)])) rfl (by rw [hml]; rfl) (argsL := [(.int q2)]) (rest := []) (lenOf pd0_0 rfl) rfl (by show 2 * 0 + _ ≤ _; exact Nat.le_of_eq rfl) (hb hby at_6) (fun _ _ => ⟨rfl, e1, (by decide : 0 + 0 ≤ _), (by decide : 0 + 0 ≤ _)⟩)
  dsimp only [Pt.U, Pt.locs, Pt.cells, Pt.slots] at X2 l2 y2 z2 st2 hQ2
  subst l2 y2 z2
  obtain ⟨rfl, Nq2, e2⟩ := hQ2
  have N2 := Fr.app N1 Nq2
  obtain ⟨lo2, X2, N2⟩ : ∃ L, Stand p l e room_1 s m #[(.int q1), (.int q2), (.int q3)] below meth c T2 L 0 0 ∧ Fr n0 L := ⟨_, X2, N2⟩
  refine OGo.st (fun t k => st2 t k) ?_
  show OGo p e below _ (T2.setTop (mkF m 9 #[.val (.int q1), .val (.int q2), .val (.int q3), .val (.int c0), .unset, .unset, .unset, .unset, .unset, .unset, .unset, .unset, .unset] [(.int (f1 q2))]))
  rw [hc1]
  show OGo p e below _ (T2.setTop (mkF m 9 #[.val (.int q1), .val (.int q2), .val (.int q3), .val (.int c0), .unset, .unset, .unset, .unset, .unset, .unset, .unset, .unset, .unset] [(.int c1)]))
  refine OGo.st (fun t k => XS.istore X2.here hx rfl (hb hby at_9) rfl (l' := #[.val (.int q1), .val (.int q2), .val (.int q3), .val (.int c0), .val (.int c1), .unset, .unset, .unset, .unset, .unset, .unset, .unset, .unset]) rfl k) ?_
  show OGo p e below _ (T2.setTop (mkF m 11 #[.val (.int q1), .val (.int q2), .val (.int q3), .val (.int c0), .val (.int c1), .unset, .unset, .unset, .unset, .unset, .unset, .unset, .unset] []))
  refine OGo.st (fun t k => XS.iloadN X2.here hx rfl (hb hby at_11) rfl k) ?_
  show OGo p e below _ (T2.setTop (mkF m 12 #[.val (.int q1), .val (.int q2), .val (.int q3), .val (.int c0), .val (.int c1), .unset, .unset, .unset, .unset, .unset, .unset, .unset, .unset] [(.int q3)]))
  obtain ⟨_, _, ⟨T3, L3, k3, n3⟩, -, X3, ⟨Lc3, hQ3, l3, y3, z3⟩, st3⟩ := Jvm.LawKit.callS X2 hx (y := (⟨"com/example/triadne/triadne/Utf8InputAdvancePinLaw", "pick", "(I)I"⟩ : MethodName)) hown (mvT hZ (hw _ (List.mem_of_getElem? (i := 0) rfl))) (mvT hZ (hw _ (List.mem_of_getElem? (i := 1) rfl))) (mvT hZ (hw _ (List.mem_of_getElem? (i := 2) rfl))) (mvT hZ (hw _ (List.mem_of_getElem? (i := 3) rfl))) (by decide) (backOf (W := 0) (rm1 l Z a0 hw [] q3 h0 n0 Z0) hZ (hw _ (List.mem_of_getElem? (i := 3) rfl)) (hw _ (List.mem_of_getElem? (i := 2) rfl)) (by decide) (by decide)) (g := (mkF m 12 #[.val (.int q1), .val (.int q2), .val (.int q3), .val (.int c0), .val (.int c1), .unset, .unset, .unset, .unset, .unset, .unset, .unset, .unset] [(.int q3)])) rfl (by rw [hml]; rfl) (argsL := [(.int q3)]) (rest := []) (lenOf pd0_0 rfl) rfl (by show 2 * 0 + _ ≤ _; exact Nat.le_of_eq rfl) (hb hby at_12) (fun _ _ => ⟨rfl, e2, (by decide : 0 + 0 ≤ _), (by decide : 0 + 0 ≤ _)⟩)
  dsimp only [Pt.U, Pt.locs, Pt.cells, Pt.slots] at X3 l3 y3 z3 st3 hQ3
  subst l3 y3 z3
  obtain ⟨rfl, Nq3, e3⟩ := hQ3
  have N3 := Fr.app N2 Nq3
  obtain ⟨lo3, X3, N3⟩ : ∃ L, Stand p l e room_1 s m #[(.int q1), (.int q2), (.int q3)] below meth c T3 L 0 0 ∧ Fr n0 L := ⟨_, X3, N3⟩
  refine OGo.st (fun t k => st3 t k) ?_
  show OGo p e below _ (T3.setTop (mkF m 15 #[.val (.int q1), .val (.int q2), .val (.int q3), .val (.int c0), .val (.int c1), .unset, .unset, .unset, .unset, .unset, .unset, .unset, .unset] [(.int (f1 q3))]))
  rw [hc2]
  show OGo p e below _ (T3.setTop (mkF m 15 #[.val (.int q1), .val (.int q2), .val (.int q3), .val (.int c0), .val (.int c1), .unset, .unset, .unset, .unset, .unset, .unset, .unset, .unset] [(.int c2)]))
  refine OGo.st (fun t k => XS.istore X3.here hx rfl (hb hby at_15) rfl (l' := #[.val (.int q1), .val (.int q2), .val (.int q3), .val (.int c0), .val (.int c1), .val (.int c2), .unset, .unset, .unset, .unset, .unset, .unset, .unset]) rfl k) ?_
  show OGo p e below _ (T3.setTop (mkF m 17 #[.val (.int q1), .val (.int q2), .val (.int q3), .val (.int c0), .val (.int c1), .val (.int c2), .unset, .unset, .unset, .unset, .unset, .unset, .unset] []))
  refine OGo.st (fun t k => XS.bipush X3.here hx rfl (hb hby at_17) k) ?_
  show OGo p e below _ (T3.setTop (mkF m 19 #[.val (.int q1), .val (.int q2), .val (.int q3), .val (.int c0), .val (.int c1), .val (.int c2), .unset, .unset, .unset, .unset, .unset, .unset, .unset] [(.int (7 : Int32))]))
  obtain ⟨T4, h4, k4, X4, e4, E4, A4, st4⟩ := newP X3 hx hZ (hw _ (List.mem_of_getElem? (i := 4) rfl)) e3 (g := (mkF m 19 #[.val (.int q1), .val (.int q2), .val (.int q3), .val (.int c0), .val (.int c1), .val (.int c2), .unset, .unset, .unset, .unset, .unset, .unset, .unset] [(.int (7 : Int32))])) rfl (hb hby at_19) rfl (by decide) (cap := 7) (by decide) (by decide) (by decide) (by decide)
  obtain ⟨b4, g4⟩ : ∃ z, z = h0.size := ⟨_, rfl⟩
  rw [← g4] at A4 st4
  have O4 : OA Z h4 b4 .byte 7 (fun _ => 0) := OA.new A4 (by decide) rfl
  have gb4 : n0 ≤ b4 := Nat.le_trans Z0 (Nat.le_of_eq g4.symm)
  have Z4 : n0 ≤ h4.size := Nat.le_trans Z0 E4.1
  obtain ⟨lo4, X4, N4⟩ : ∃ L, Stand p l e room_1 s m #[(.int q1), (.int q2), (.int q3)] below meth c T4 L 1 7 ∧ Fr n0 L := ⟨_, X4, N3⟩
  refine OGo.st (fun t k => st4 t k) ?_
  show OGo p e below _ (T4.setTop (mkF m 21 #[.val (.int q1), .val (.int q2), .val (.int q3), .val (.int c0), .val (.int c1), .val (.int c2), .unset, .unset, .unset, .unset, .unset, .unset, .unset] [(.ref b4)]))
  refine OGo.st (fun t k => XS.astore X4.here hx rfl (hb hby at_21) rfl rfl (l' := #[.val (.int q1), .val (.int q2), .val (.int q3), .val (.int c0), .val (.int c1), .val (.int c2), .val (.ref b4), .unset, .unset, .unset, .unset, .unset, .unset]) rfl k) ?_
  show OGo p e below _ (T4.setTop (mkF m 23 #[.val (.int q1), .val (.int q2), .val (.int q3), .val (.int c0), .val (.int c1), .val (.int c2), .val (.ref b4), .unset, .unset, .unset, .unset, .unset, .unset] []))
  refine OGo.st (fun t k => XS.aload X4.here hx rfl (hb hby at_23) rfl rfl k) ?_
  show OGo p e below _ (T4.setTop (mkF m 25 #[.val (.int q1), .val (.int q2), .val (.int q3), .val (.int c0), .val (.int c1), .val (.int c2), .val (.ref b4), .unset, .unset, .unset, .unset, .unset, .unset] [(.ref b4)]))
  refine OGo.st (fun t k => XS.iconst X4.here hx rfl (hb hby at_25) k) ?_
  show OGo p e below _ (T4.setTop (mkF m 26 #[.val (.int q1), .val (.int q2), .val (.int q3), .val (.int c0), .val (.int c1), .val (.int c2), .val (.ref b4), .unset, .unset, .unset, .unset, .unset, .unset] [(.int (0 : Int32)), (.ref b4)]))
  refine OGo.st (fun t k => XS.iloadN X4.here hx rfl (hb hby at_26) rfl k) ?_
  show OGo p e below _ (T4.setTop (mkF m 27 #[.val (.int q1), .val (.int q2), .val (.int q3), .val (.int c0), .val (.int c1), .val (.int c2), .val (.ref b4), .unset, .unset, .unset, .unset, .unset, .unset] [(.int c0), (.int (0 : Int32)), (.ref b4)]))
  obtain ⟨_, _, ⟨T5, L5, k5, n5⟩, -, X5, ⟨Lc5, hQ5, l5, y5, z5⟩, st5⟩ := Jvm.LawKit.callS X4 hx (y := (⟨"com/example/triadne/triadne/Utf8InputAdvancePinLaw", "put", "([BII)I"⟩ : MethodName)) hown (mvT hZ (hw _ (List.mem_of_getElem? (i := 5) rfl))) (mvT hZ (hw _ (List.mem_of_getElem? (i := 6) rfl))) (mvT hZ (hw _ (List.mem_of_getElem? (i := 2) rfl))) (mvT hZ (hw _ (List.mem_of_getElem? (i := 7) rfl))) (by decide) (backOf (W := 0) (rm2 l Z a0 hw [] b4 0 c0 (fun _ => 0) h4 n0 Z4 O4 (by omega) gb4) hZ (hw _ (List.mem_of_getElem? (i := 7) rfl)) (hw _ (List.mem_of_getElem? (i := 2) rfl)) (by decide) (by decide)) (g := (mkF m 27 #[.val (.int q1), .val (.int q2), .val (.int q3), .val (.int c0), .val (.int c1), .val (.int c2), .val (.ref b4), .unset, .unset, .unset, .unset, .unset, .unset] [(.int c0), (.int (0 : Int32)), (.ref b4)])) rfl (by rw [hml]; rfl) (argsL := [(.ref b4), (.int (0 : Int32)), (.int c0)]) (rest := []) (lenOf pd0_1 rfl) rfl (by show 2 * 0 + _ ≤ _; exact Nat.le_of_eq rfl) (hb hby at_27) (fun _ _ => ⟨rfl, e4, (by decide : 1 + 0 ≤ _), (by decide : 7 + 0 ≤ _)⟩)
  dsimp only [Pt.U, Pt.locs, Pt.cells, Pt.slots] at X5 l5 y5 z5 st5 hQ5
  subst l5 y5 z5
  obtain ⟨rfl, Nq5, Z5, Oq5⟩ := hQ5
  have N5 := Fr.app N4 Nq5
  obtain ⟨lo5, X5, N5⟩ : ∃ L, Stand p l e room_1 s m #[(.int q1), (.int q2), (.int q3)] below meth c T5 L 1 7 ∧ Fr n0 L := ⟨_, X5, N5⟩
  refine OGo.st (fun t k => st5 t k) ?_
  show OGo p e below _ (T5.setTop (mkF m 30 #[.val (.int q1), .val (.int q2), .val (.int q3), .val (.int c0), .val (.int c1), .val (.int c2), .val (.ref b4), .unset, .unset, .unset, .unset, .unset, .unset] [(.int (Int32.ofNat (0 + sz c0)))]))
  refine OGo.st (fun t k => XS.istore X5.here hx rfl (hb hby at_30) rfl (l' := #[.val (.int q1), .val (.int q2), .val (.int q3), .val (.int c0), .val (.int c1), .val (.int c2), .val (.ref b4), .val (.int (Int32.ofNat (0 + sz c0))), .unset, .unset, .unset, .unset, .unset]) rfl k) ?_
  show OGo p e below _ (T5.setTop (mkF m 32 #[.val (.int q1), .val (.int q2), .val (.int q3), .val (.int c0), .val (.int c1), .val (.int c2), .val (.ref b4), .val (.int (Int32.ofNat (0 + sz c0))), .unset, .unset, .unset, .unset, .unset] []))
  refine OGo.st (fun t k => XS.aload X5.here hx rfl (hb hby at_32) rfl rfl k) ?_
  show OGo p e below _ (T5.setTop (mkF m 34 #[.val (.int q1), .val (.int q2), .val (.int q3), .val (.int c0), .val (.int c1), .val (.int c2), .val (.ref b4), .val (.int (Int32.ofNat (0 + sz c0))), .unset, .unset, .unset, .unset, .unset] [(.ref b4)]))
  refine OGo.st (fun t k => XS.iload X5.here hx rfl (hb hby at_34) rfl k) ?_
  show OGo p e below _ (T5.setTop (mkF m 36 #[.val (.int q1), .val (.int q2), .val (.int q3), .val (.int c0), .val (.int c1), .val (.int c2), .val (.ref b4), .val (.int (Int32.ofNat (0 + sz c0))), .unset, .unset, .unset, .unset, .unset] [(.int (Int32.ofNat (0 + sz c0))), (.ref b4)]))
  refine OGo.st (fun t k => XS.iload X5.here hx rfl (hb hby at_36) rfl k) ?_
  show OGo p e below _ (T5.setTop (mkF m 38 #[.val (.int q1), .val (.int q2), .val (.int q3), .val (.int c0), .val (.int c1), .val (.int c2), .val (.ref b4), .val (.int (Int32.ofNat (0 + sz c0))), .unset, .unset, .unset, .unset, .unset] [(.int c1), (.int (Int32.ofNat (0 + sz c0))), (.ref b4)]))
  obtain ⟨_, _, ⟨T6, L6, k6, n6⟩, -, X6, ⟨Lc6, hQ6, l6, y6, z6⟩, st6⟩ := Jvm.LawKit.callS X5 hx (y := (⟨"com/example/triadne/triadne/Utf8InputAdvancePinLaw", "put", "([BII)I"⟩ : MethodName)) hown (mvT hZ (hw _ (List.mem_of_getElem? (i := 5) rfl))) (mvT hZ (hw _ (List.mem_of_getElem? (i := 6) rfl))) (mvT hZ (hw _ (List.mem_of_getElem? (i := 2) rfl))) (mvT hZ (hw _ (List.mem_of_getElem? (i := 7) rfl))) (by decide) (backOf (W := 0) (rm2 l Z a0 hw [] b4 (0 + sz c0) c1 (putF (fun _ => 0) 0 c0) T5.heap n0 Z5 Oq5 (by have := own_sz c0; have := own_sz c1; omega) gb4) hZ (hw _ (List.mem_of_getElem? (i := 7) rfl)) (hw _ (List.mem_of_getElem? (i := 2) rfl)) (by decide) (by decide)) (g := (mkF m 38 #[.val (.int q1), .val (.int q2), .val (.int q3), .val (.int c0), .val (.int c1), .val (.int c2), .val (.ref b4), .val (.int (Int32.ofNat (0 + sz c0))), .unset, .unset, .unset, .unset, .unset] [(.int c1), (.int (Int32.ofNat (0 + sz c0))), (.ref b4)])) rfl (by rw [hml]; rfl) (argsL := [(.ref b4), (.int (Int32.ofNat (0 + sz c0))), (.int c1)]) (rest := []) (lenOf pd0_1 rfl) rfl (by show 2 * 0 + _ ≤ _; exact Nat.le_of_eq rfl) (hb hby at_38) (fun _ _ => ⟨rfl, rfl, (by decide : 1 + 0 ≤ _), (by decide : 7 + 0 ≤ _)⟩)
  dsimp only [Pt.U, Pt.locs, Pt.cells, Pt.slots] at X6 l6 y6 z6 st6 hQ6
  subst l6 y6 z6
  obtain ⟨rfl, Nq6, Z6, Oq6⟩ := hQ6
  have N6 := Fr.app N5 Nq6
  obtain ⟨lo6, X6, N6⟩ : ∃ L, Stand p l e room_1 s m #[(.int q1), (.int q2), (.int q3)] below meth c T6 L 1 7 ∧ Fr n0 L := ⟨_, X6, N6⟩
  refine OGo.st (fun t k => st6 t k) ?_
  show OGo p e below _ (T6.setTop (mkF m 41 #[.val (.int q1), .val (.int q2), .val (.int q3), .val (.int c0), .val (.int c1), .val (.int c2), .val (.ref b4), .val (.int (Int32.ofNat (0 + sz c0))), .unset, .unset, .unset, .unset, .unset] [(.int (Int32.ofNat ((0 + sz c0) + sz c1)))]))
  refine OGo.st (fun t k => XS.istore X6.here hx rfl (hb hby at_41) rfl (l' := #[.val (.int q1), .val (.int q2), .val (.int q3), .val (.int c0), .val (.int c1), .val (.int c2), .val (.ref b4), .val (.int (Int32.ofNat ((0 + sz c0) + sz c1))), .unset, .unset, .unset, .unset, .unset]) rfl k) ?_
  show OGo p e below _ (T6.setTop (mkF m 43 #[.val (.int q1), .val (.int q2), .val (.int q3), .val (.int c0), .val (.int c1), .val (.int c2), .val (.ref b4), .val (.int (Int32.ofNat ((0 + sz c0) + sz c1))), .unset, .unset, .unset, .unset, .unset] []))
  refine OGo.st (fun t k => XS.aload X6.here hx rfl (hb hby at_43) rfl rfl k) ?_
  show OGo p e below _ (T6.setTop (mkF m 45 #[.val (.int q1), .val (.int q2), .val (.int q3), .val (.int c0), .val (.int c1), .val (.int c2), .val (.ref b4), .val (.int (Int32.ofNat ((0 + sz c0) + sz c1))), .unset, .unset, .unset, .unset, .unset] [(.ref b4)]))
  refine OGo.st (fun t k => XS.iload X6.here hx rfl (hb hby at_45) rfl k) ?_
  show OGo p e below _ (T6.setTop (mkF m 47 #[.val (.int q1), .val (.int q2), .val (.int q3), .val (.int c0), .val (.int c1), .val (.int c2), .val (.ref b4), .val (.int (Int32.ofNat ((0 + sz c0) + sz c1))), .unset, .unset, .unset, .unset, .unset] [(.int (Int32.ofNat ((0 + sz c0) + sz c1))), (.ref b4)]))
  refine OGo.st (fun t k => XS.iload X6.here hx rfl (hb hby at_47) rfl k) ?_
  show OGo p e below _ (T6.setTop (mkF m 49 #[.val (.int q1), .val (.int q2), .val (.int q3), .val (.int c0), .val (.int c1), .val (.int c2), .val (.ref b4), .val (.int (Int32.ofNat ((0 + sz c0) + sz c1))), .unset, .unset, .unset, .unset, .unset] [(.int c2), (.int (Int32.ofNat ((0 + sz c0) + sz c1))), (.ref b4)]))
  obtain ⟨_, _, ⟨T7, L7, k7, n7⟩, -, X7, ⟨Lc7, hQ7, l7, y7, z7⟩, st7⟩ := Jvm.LawKit.callS X6 hx (y := (⟨"com/example/triadne/triadne/Utf8InputAdvancePinLaw", "put", "([BII)I"⟩ : MethodName)) hown (mvT hZ (hw _ (List.mem_of_getElem? (i := 5) rfl))) (mvT hZ (hw _ (List.mem_of_getElem? (i := 6) rfl))) (mvT hZ (hw _ (List.mem_of_getElem? (i := 2) rfl))) (mvT hZ (hw _ (List.mem_of_getElem? (i := 7) rfl))) (by decide) (backOf (W := 0) (rm2 l Z a0 hw [] b4 ((0 + sz c0) + sz c1) c2 (putF (putF (fun _ => 0) 0 c0) (0 + sz c0) c1) T6.heap n0 Z6 Oq6 (by have := own_sz c0; have := own_sz c1; omega) gb4) hZ (hw _ (List.mem_of_getElem? (i := 7) rfl)) (hw _ (List.mem_of_getElem? (i := 2) rfl)) (by decide) (by decide)) (g := (mkF m 49 #[.val (.int q1), .val (.int q2), .val (.int q3), .val (.int c0), .val (.int c1), .val (.int c2), .val (.ref b4), .val (.int (Int32.ofNat ((0 + sz c0) + sz c1))), .unset, .unset, .unset, .unset, .unset] [(.int c2), (.int (Int32.ofNat ((0 + sz c0) + sz c1))), (.ref b4)])) rfl (by rw [hml]; rfl) (argsL := [(.ref b4), (.int (Int32.ofNat ((0 + sz c0) + sz c1))), (.int c2)]) (rest := []) (lenOf pd0_1 rfl) rfl (by show 2 * 0 + _ ≤ _; exact Nat.le_of_eq rfl) (hb hby at_49) (fun _ _ => ⟨rfl, rfl, (by decide : 1 + 0 ≤ _), (by decide : 7 + 0 ≤ _)⟩)
  dsimp only [Pt.U, Pt.locs, Pt.cells, Pt.slots] at X7 l7 y7 z7 st7 hQ7
  subst l7 y7 z7
  obtain ⟨rfl, Nq7, Z7, Oq7⟩ := hQ7
  have N7 := Fr.app N6 Nq7
  obtain ⟨lo7, X7, N7⟩ : ∃ L, Stand p l e room_1 s m #[(.int q1), (.int q2), (.int q3)] below meth c T7 L 1 7 ∧ Fr n0 L := ⟨_, X7, N7⟩
  refine OGo.st (fun t k => st7 t k) ?_
  show OGo p e below _ (T7.setTop (mkF m 52 #[.val (.int q1), .val (.int q2), .val (.int q3), .val (.int c0), .val (.int c1), .val (.int c2), .val (.ref b4), .val (.int (Int32.ofNat ((0 + sz c0) + sz c1))), .unset, .unset, .unset, .unset, .unset] [(.int (Int32.ofNat (((0 + sz c0) + sz c1) + sz c2)))]))
  refine OGo.st (fun t k => XS.istore X7.here hx rfl (hb hby at_52) rfl (l' := #[.val (.int q1), .val (.int q2), .val (.int q3), .val (.int c0), .val (.int c1), .val (.int c2), .val (.ref b4), .val (.int (Int32.ofNat (((0 + sz c0) + sz c1) + sz c2))), .unset, .unset, .unset, .unset, .unset]) rfl k) ?_
  show OGo p e below _ (T7.setTop (mkF m 54 #[.val (.int q1), .val (.int q2), .val (.int q3), .val (.int c0), .val (.int c1), .val (.int c2), .val (.ref b4), .val (.int (Int32.ofNat (((0 + sz c0) + sz c1) + sz c2))), .unset, .unset, .unset, .unset, .unset] []))
  obtain ⟨T8, h8, X8, e8, E8, A8, D8, -, st8⟩ := newO X7 hx hZ hown (hw _ (List.mem_of_getElem? (i := 8) rfl)) (hw _ (List.mem_of_getElem? (i := 9) rfl)) (hw _ (List.mem_of_getElem? (i := 10) rfl)) rfl (g := (mkF m 54 #[.val (.int q1), .val (.int q2), .val (.int q3), .val (.int c0), .val (.int c1), .val (.int c2), .val (.ref b4), .val (.int (Int32.ofNat (((0 + sz c0) + sz c1) + sz c2))), .unset, .unset, .unset, .unset, .unset] [])) rfl (hb hby at_54) (by decide) (by decide)
  obtain ⟨b8, g8⟩ : ∃ z, z = T7.heap.size := ⟨_, rfl⟩
  rw [← g8] at A8 D8 st8
  have gb8 : n0 ≤ b8 := Nat.le_trans Z7 (Nat.le_of_eq g8.symm)
  have Z8 : n0 ≤ h8.size := Nat.le_trans Z7 E8.1
  have ne_b4_b8 : b4 ≠ b8 := Nat.ne_of_lt (Nat.lt_of_lt_of_le Oq7.lt (Nat.le_of_eq g8.symm))
  have F8_window : Fld Z h8 b8 "com/example/triadne/triadne/Utf8Input" "window" "[I" .null := D8 (Or.inl (hw _ (List.mem_of_getElem? (i := 24) rfl))) (ty := (.array .int)) (by decide)
  have F8_line : Fld Z h8 b8 "com/example/triadne/triadne/Utf8Input" "line" "I" (.int (0 : Int32)) := D8 (Or.inl (hw _ (List.mem_of_getElem? (i := 26) rfl))) (ty := .int) (by decide)
  have F8_column : Fld Z h8 b8 "com/example/triadne/triadne/Utf8Input" "column" "I" (.int (0 : Int32)) := D8 (Or.inl (hw _ (List.mem_of_getElem? (i := 28) rfl))) (ty := .int) (by decide)
  have F8_in : Fld Z h8 b8 "com/example/triadne/triadne/Utf8Input" "in" "Ljava/io/InputStream;" .null := D8 (Or.inr (hw _ (List.mem_of_getElem? (i := 30) rfl))) (ty := (.object "java/io/InputStream")) (by decide)
  have F8_bytes : Fld Z h8 b8 "com/example/triadne/triadne/Utf8Input" "bytes" "[B" .null := D8 (Or.inr (hw _ (List.mem_of_getElem? (i := 32) rfl))) (ty := (.array .byte)) (by decide)
  have F8_byteLimit : Fld Z h8 b8 "com/example/triadne/triadne/Utf8Input" "byteLimit" "I" (.int (0 : Int32)) := D8 (Or.inl (hw _ (List.mem_of_getElem? (i := 34) rfl))) (ty := .int) (by decide)
  have F8_end : Fld Z h8 b8 "com/example/triadne/triadne/Utf8Input" "end" "I" (.int (0 : Int32)) := D8 (Or.inl (hw _ (List.mem_of_getElem? (i := 41) rfl))) (ty := .int) (by decide)
  have F8_start : Fld Z h8 b8 "com/example/triadne/triadne/Utf8Input" "start" "I" (.int (0 : Int32)) := D8 (Or.inl (hw _ (List.mem_of_getElem? (i := 43) rfl))) (ty := .int) (by decide)
  have F8_bytePosition : Fld Z h8 b8 "com/example/triadne/triadne/Utf8Input" "bytePosition" "I" (.int (0 : Int32)) := D8 (Or.inl (hw _ (List.mem_of_getElem? (i := 57) rfl))) (ty := .int) (by decide)
  have F8_afterCarriageReturn : Fld Z h8 b8 "com/example/triadne/triadne/Utf8Input" "afterCarriageReturn" "Z" (.int (0 : Int32)) := D8 (Or.inl (hw _ (List.mem_of_getElem? (i := 68) rfl))) (ty := .boolean) (by decide)
  obtain ⟨lo8, X8, N8⟩ : ∃ L, Stand p l e room_1 s m #[(.int q1), (.int q2), (.int q3)] below meth c T8 L 2 17 ∧ Fr n0 L := ⟨_, X8, N7⟩
  refine OGo.st (fun t k => st8 t k) ?_
  show OGo p e below _ (T8.setTop (mkF m 57 #[.val (.int q1), .val (.int q2), .val (.int q3), .val (.int c0), .val (.int c1), .val (.int c2), .val (.ref b4), .val (.int (Int32.ofNat (((0 + sz c0) + sz c1) + sz c2))), .unset, .unset, .unset, .unset, .unset] [(.ref b8)]))
  refine OGo.st (fun t k => XS.dup X8.here hx rfl (hb hby at_57) rfl rfl k) ?_
  show OGo p e below _ (T8.setTop (mkF m 58 #[.val (.int q1), .val (.int q2), .val (.int q3), .val (.int c0), .val (.int c1), .val (.int c2), .val (.ref b4), .val (.int (Int32.ofNat (((0 + sz c0) + sz c1) + sz c2))), .unset, .unset, .unset, .unset, .unset] [(.ref b8), (.ref b8)]))
  refine OGo.st (fun t k => XS.aload X8.here hx rfl (hb hby at_58) rfl rfl k) ?_
  show OGo p e below _ (T8.setTop (mkF m 60 #[.val (.int q1), .val (.int q2), .val (.int q3), .val (.int c0), .val (.int c1), .val (.int c2), .val (.ref b4), .val (.int (Int32.ofNat (((0 + sz c0) + sz c1) + sz c2))), .unset, .unset, .unset, .unset, .unset] [(.ref b4), (.ref b8), (.ref b8)]))
  have c10 := (Oq7.ext E8)
  obtain ⟨_, _, ⟨T9, L9, k9, n9⟩, -, X9, ⟨Lc9, hQ9, l9, y9, z9⟩, st9⟩ := X8.specialBack hx (y := (⟨"com/example/triadne/triadne/Utf8Input", "<init>", "([B)V"⟩ : MethodName)) rfl hown (mvT hZ (hw _ (List.mem_of_getElem? (i := 11) rfl))) (mvT hZ (hw _ (List.mem_of_getElem? (i := 12) rfl))) (mvT hZ (hw _ (List.mem_of_getElem? (i := 13) rfl))) (by decide) (backOf (W := 1) (rm3 l Z a0 hw [] b8 b4 (putF (putF (putF (fun _ => 0) 0 c0) (0 + sz c0) c1) ((0 + sz c0) + sz c1) c2) h8 n0 Z8 A8 F8_bytes F8_byteLimit F8_bytePosition F8_window F8_start F8_end F8_line F8_column F8_afterCarriageReturn F8_in c10 (Ne.symm ne_b4_b8) gb8) hZ (hw _ (List.mem_of_getElem? (i := 13) rfl)) (hw _ (List.mem_of_getElem? (i := 10) rfl)) (by decide) (by decide)) (g := (mkF m 60 #[.val (.int q1), .val (.int q2), .val (.int q3), .val (.int c0), .val (.int c1), .val (.int c2), .val (.ref b4), .val (.int (Int32.ofNat (((0 + sz c0) + sz c1) + sz c2))), .unset, .unset, .unset, .unset, .unset] [(.ref b4), (.ref b8), (.ref b8)])) rfl (by rw [hml]; rfl) (Steps.refl _) (a := b8) (argsL := [(.ref b4)]) (rest := [(.ref b8)]) (lenOf pd0_2 rfl) rfl (by show 2 * 0 + _ ≤ _; exact Nat.le_of_eq rfl) (hb hby at_60) (fun _ _ => ⟨rfl, e8, (by decide : 2 + 1 ≤ _), (by decide : 17 + 512 ≤ _)⟩)
  dsimp only [Pt.U, Pt.locs, Pt.cells, Pt.slots] at X9 l9 y9 z9 st9 hQ9
  subst l9 y9 z9
  obtain ⟨rfl, Nq9, Z9, wn, gwn, nuw, nbw, Uq9⟩ := hQ9
  have N9 := Fr.app N8 Nq9
  obtain ⟨E9, F9_bytes, F9_byteLimit, F9_bytePosition, F9_window, F9_start, F9_end, F9_line, F9_column, F9_afterCarriageReturn, Ob9, Ow9⟩ := Uq9
  obtain ⟨lo9, X9, N9⟩ : ∃ L, Stand p l e room_1 s m #[(.int q1), (.int q2), (.int q3)] below meth c T9 L 3 529 ∧ Fr n0 L := ⟨_, X9, N9⟩
  refine OGo.st (fun t k => st9.trans k) ?_
  show OGo p e below _ (T9.setTop (mkF m 63 #[.val (.int q1), .val (.int q2), .val (.int q3), .val (.int c0), .val (.int c1), .val (.int c2), .val (.ref b4), .val (.int (Int32.ofNat (((0 + sz c0) + sz c1) + sz c2))), .unset, .unset, .unset, .unset, .unset] [(.ref b8)]))
  refine OGo.st (fun t k => XS.astore X9.here hx rfl (hb hby at_63) rfl rfl (l' := #[.val (.int q1), .val (.int q2), .val (.int q3), .val (.int c0), .val (.int c1), .val (.int c2), .val (.ref b4), .val (.int (Int32.ofNat (((0 + sz c0) + sz c1) + sz c2))), .val (.ref b8), .unset, .unset, .unset, .unset]) rfl k) ?_
  show OGo p e below _ (T9.setTop (mkF m 65 #[.val (.int q1), .val (.int q2), .val (.int q3), .val (.int c0), .val (.int c1), .val (.int c2), .val (.ref b4), .val (.int (Int32.ofNat (((0 + sz c0) + sz c1) + sz c2))), .val (.ref b8), .unset, .unset, .unset, .unset] []))
  refine OGo.st (fun t k => XS.iconst X9.here hx rfl (hb hby at_65) k) ?_
  show OGo p e below _ (T9.setTop (mkF m 66 #[.val (.int q1), .val (.int q2), .val (.int q3), .val (.int c0), .val (.int c1), .val (.int c2), .val (.ref b4), .val (.int (Int32.ofNat (((0 + sz c0) + sz c1) + sz c2))), .val (.ref b8), .unset, .unset, .unset, .unset] [(.int (1 : Int32))]))
  refine OGo.st (fun t k => XS.istore X9.here hx rfl (hb hby at_66) rfl (l' := #[.val (.int q1), .val (.int q2), .val (.int q3), .val (.int c0), .val (.int c1), .val (.int c2), .val (.ref b4), .val (.int (Int32.ofNat (((0 + sz c0) + sz c1) + sz c2))), .val (.ref b8), .val (.int (1 : Int32)), .unset, .unset, .unset]) rfl k) ?_
  show OGo p e below _ (T9.setTop (mkF m 68 #[.val (.int q1), .val (.int q2), .val (.int q3), .val (.int c0), .val (.int c1), .val (.int c2), .val (.ref b4), .val (.int (Int32.ofNat (((0 + sz c0) + sz c1) + sz c2))), .val (.ref b8), .val (.int (1 : Int32)), .unset, .unset, .unset] []))
  refine OGo.st (fun t k => XS.aload X9.here hx rfl (hb hby at_68) rfl rfl k) ?_
  show OGo p e below _ (T9.setTop (mkF m 70 #[.val (.int q1), .val (.int q2), .val (.int q3), .val (.int c0), .val (.int c1), .val (.int c2), .val (.ref b4), .val (.int (Int32.ofNat (((0 + sz c0) + sz c1) + sz c2))), .val (.ref b8), .val (.int (1 : Int32)), .unset, .unset, .unset] [(.ref b8)]))
  refine OGo.st (fun t k => XS.iconst X9.here hx rfl (hb hby at_70) k) ?_
  show OGo p e below _ (T9.setTop (mkF m 71 #[.val (.int q1), .val (.int q2), .val (.int q3), .val (.int c0), .val (.int c1), .val (.int c2), .val (.ref b4), .val (.int (Int32.ofNat (((0 + sz c0) + sz c1) + sz c2))), .val (.ref b8), .val (.int (1 : Int32)), .unset, .unset, .unset] [(.int (0 : Int32)), (.ref b8)]))
  obtain ⟨cq11, kq11, q11a, q11b, q11c⟩ := isOf hZ rfl E9
  obtain ⟨_, _, ⟨T11, L11, k11, n11⟩, -, X11, ⟨Lc11, hQ11, l11, y11, z11⟩, st11⟩ := X9.virtualBack hx (y := (⟨"com/example/triadne/triadne/Utf8Input", "peek", "(I)I"⟩ : MethodName)) (z := (⟨"com/example/triadne/triadne/Utf8Input", "peek", "(I)I"⟩ : MethodName)) hown (mvT hZ (hw _ (List.mem_of_getElem? (i := 35) rfl))) (mvT hZ (hw _ (List.mem_of_getElem? (i := 36) rfl))) (notFace_of_selects (args := #[]) (mvT hZ (hw _ (List.mem_of_getElem? (i := 38) rfl)))) (mvT hZ (hw _ (List.mem_of_getElem? (i := 38) rfl))) (mvT hZ (hw _ (List.mem_of_getElem? (i := 37) rfl))) (by decide) (backOf (W := 0) (rm6 l Z a0 hw [] b8 b4 wn (putF (putF (putF (fun _ => 0) 0 c0) (0 + sz c0) c1) ((0 + sz c0) + sz c1) c2) (fun _ => 0) 0 0 (1 : Int32) (1 : Int32) (0 : Int32) c0 (sz c0) T9.heap n0 Z9 ⟨E9, F9_bytes, F9_byteLimit, F9_bytePosition, F9_window, F9_start, F9_end, F9_line, F9_column, F9_afterCarriageReturn, Ob9, Ow9⟩ (Ne.symm ne_b4_b8) nuw nbw gb8 gwn (by omega) (own_d0 v0 v1 v2)) hZ (hw _ (List.mem_of_getElem? (i := 39) rfl)) (hw _ (List.mem_of_getElem? (i := 10) rfl)) (by decide) (by decide)) q11a q11c (g := (mkF m 71 #[.val (.int q1), .val (.int q2), .val (.int q3), .val (.int c0), .val (.int c1), .val (.int c2), .val (.ref b4), .val (.int (Int32.ofNat (((0 + sz c0) + sz c1) + sz c2))), .val (.ref b8), .val (.int (1 : Int32)), .unset, .unset, .unset] [(.int (0 : Int32)), (.ref b8)])) rfl (by rw [hml]; rfl) (Steps.refl _) (argsL := [(.int (0 : Int32))]) (rest := []) (lenOf pd0_0 rfl) rfl (by show 2 * 0 + _ ≤ _; exact Nat.le_of_eq rfl) (hb hby at_71) (fun _ _ => ⟨rfl, rfl, (by decide : 3 + 0 ≤ _), (by decide : 529 + 0 ≤ _)⟩)
  dsimp only [Pt.U, Pt.locs, Pt.cells, Pt.slots] at X11 l11 y11 z11 st11 hQ11
  subst l11 y11 z11
  obtain ⟨rfl, Nq11, Z11, Uq11⟩ := hQ11
  have N11 := Fr.app N9 Nq11
  obtain ⟨E11, F11_bytes, F11_byteLimit, F11_bytePosition, F11_window, F11_start, F11_end, F11_line, F11_column, F11_afterCarriageReturn, Ob11, Ow11⟩ := Uq11
  obtain ⟨lo11, X11, N11⟩ : ∃ L, Stand p l e room_1 s m #[(.int q1), (.int q2), (.int q3)] below meth c T11 L 3 529 ∧ Fr n0 L := ⟨_, X11, N11⟩
  refine OGo.st (fun t k => st11.trans k) ?_
  show OGo p e below _ (T11.setTop (mkF m 74 #[.val (.int q1), .val (.int q2), .val (.int q3), .val (.int c0), .val (.int c1), .val (.int c2), .val (.ref b4), .val (.int (Int32.ofNat (((0 + sz c0) + sz c1) + sz c2))), .val (.ref b8), .val (.int (1 : Int32)), .unset, .unset, .unset] [(.int c0)]))
  refine OGo.st (fun t k => XS.istore X11.here hx rfl (hb hby at_74) rfl (l' := #[.val (.int q1), .val (.int q2), .val (.int q3), .val (.int c0), .val (.int c1), .val (.int c2), .val (.ref b4), .val (.int (Int32.ofNat (((0 + sz c0) + sz c1) + sz c2))), .val (.ref b8), .val (.int (1 : Int32)), .val (.int c0), .unset, .unset]) rfl k) ?_
  show OGo p e below _ (T11.setTop (mkF m 76 #[.val (.int q1), .val (.int q2), .val (.int q3), .val (.int c0), .val (.int c1), .val (.int c2), .val (.ref b4), .val (.int (Int32.ofNat (((0 + sz c0) + sz c1) + sz c2))), .val (.ref b8), .val (.int (1 : Int32)), .val (.int c0), .unset, .unset] []))
  refine OGo.st (fun t k => XS.iload X11.here hx rfl (hb hby at_76) rfl k) ?_
  show OGo p e below _ (T11.setTop (mkF m 78 #[.val (.int q1), .val (.int q2), .val (.int q3), .val (.int c0), .val (.int c1), .val (.int c2), .val (.ref b4), .val (.int (Int32.ofNat (((0 + sz c0) + sz c1) + sz c2))), .val (.ref b8), .val (.int (1 : Int32)), .val (.int c0), .unset, .unset] [(.int (1 : Int32))]))
  refine OGo.st (fun t k => XS.ifNo X11.here hx rfl (hb hby at_78) rfl ((if0 _ _).trans (feq (by decide : ¬ ((1 : Int32) = (0 : Int32)))).1) k) ?_
  show OGo p e below _ (T11.setTop (mkF m 81 #[.val (.int q1), .val (.int q2), .val (.int q3), .val (.int c0), .val (.int c1), .val (.int c2), .val (.ref b4), .val (.int (Int32.ofNat (((0 + sz c0) + sz c1) + sz c2))), .val (.ref b8), .val (.int (1 : Int32)), .val (.int c0), .unset, .unset] []))
  refine OGo.st (fun t k => XS.iload X11.here hx rfl (hb hby at_81) rfl k) ?_
  show OGo p e below _ (T11.setTop (mkF m 83 #[.val (.int q1), .val (.int q2), .val (.int q3), .val (.int c0), .val (.int c1), .val (.int c2), .val (.ref b4), .val (.int (Int32.ofNat (((0 + sz c0) + sz c1) + sz c2))), .val (.ref b8), .val (.int (1 : Int32)), .val (.int c0), .unset, .unset] [(.int c0)]))
  refine OGo.st (fun t k => XS.iloadN X11.here hx rfl (hb hby at_83) rfl k) ?_
  show OGo p e below _ (T11.setTop (mkF m 84 #[.val (.int q1), .val (.int q2), .val (.int q3), .val (.int c0), .val (.int c1), .val (.int c2), .val (.ref b4), .val (.int (Int32.ofNat (((0 + sz c0) + sz c1) + sz c2))), .val (.ref b8), .val (.int (1 : Int32)), .val (.int c0), .unset, .unset] [(.int c0), (.int c0)]))
  refine OGo.st (fun t k => XS.icmpNo X11.here hx rfl (hb hby at_84) rfl (teq (rfl : c0 = c0)).2 k) ?_
  show OGo p e below _ (T11.setTop (mkF m 87 #[.val (.int q1), .val (.int q2), .val (.int q3), .val (.int c0), .val (.int c1), .val (.int c2), .val (.ref b4), .val (.int (Int32.ofNat (((0 + sz c0) + sz c1) + sz c2))), .val (.ref b8), .val (.int (1 : Int32)), .val (.int c0), .unset, .unset] []))
  refine OGo.st (fun t k => XS.iconst X11.here hx rfl (hb hby at_87) k) ?_
  show OGo p e below _ (T11.setTop (mkF m 88 #[.val (.int q1), .val (.int q2), .val (.int q3), .val (.int c0), .val (.int c1), .val (.int c2), .val (.ref b4), .val (.int (Int32.ofNat (((0 + sz c0) + sz c1) + sz c2))), .val (.ref b8), .val (.int (1 : Int32)), .val (.int c0), .unset, .unset] [(.int (1 : Int32))]))
  refine OGo.st (fun t k => XS.goto X11.here hx rfl (pc0 := 88) (pc' := 92) rfl (hb hby at_88) (by decide) (by decide) k) ?_
  show OGo p e below _ (T11.setTop (mkF m 92 #[.val (.int q1), .val (.int q2), .val (.int q3), .val (.int c0), .val (.int c1), .val (.int c2), .val (.ref b4), .val (.int (Int32.ofNat (((0 + sz c0) + sz c1) + sz c2))), .val (.ref b8), .val (.int (1 : Int32)), .val (.int c0), .unset, .unset] [(.int (1 : Int32))]))
  refine OGo.st (fun t k => XS.istore X11.here hx rfl (hb hby at_92) rfl (l' := #[.val (.int q1), .val (.int q2), .val (.int q3), .val (.int c0), .val (.int c1), .val (.int c2), .val (.ref b4), .val (.int (Int32.ofNat (((0 + sz c0) + sz c1) + sz c2))), .val (.ref b8), .val (.int (1 : Int32)), .val (.int c0), .unset, .unset]) rfl k) ?_
  show OGo p e below _ (T11.setTop (mkF m 94 #[.val (.int q1), .val (.int q2), .val (.int q3), .val (.int c0), .val (.int c1), .val (.int c2), .val (.ref b4), .val (.int (Int32.ofNat (((0 + sz c0) + sz c1) + sz c2))), .val (.ref b8), .val (.int (1 : Int32)), .val (.int c0), .unset, .unset] []))
  refine OGo.st (fun t k => XS.aload X11.here hx rfl (hb hby at_94) rfl rfl k) ?_
  show OGo p e below _ (T11.setTop (mkF m 96 #[.val (.int q1), .val (.int q2), .val (.int q3), .val (.int c0), .val (.int c1), .val (.int c2), .val (.ref b4), .val (.int (Int32.ofNat (((0 + sz c0) + sz c1) + sz c2))), .val (.ref b8), .val (.int (1 : Int32)), .val (.int c0), .unset, .unset] [(.ref b8)]))
  refine OGo.st (fun t k => XS.iload X11.here hx rfl (hb hby at_96) rfl k) ?_
  show OGo p e below _ (T11.setTop (mkF m 98 #[.val (.int q1), .val (.int q2), .val (.int q3), .val (.int c0), .val (.int c1), .val (.int c2), .val (.ref b4), .val (.int (Int32.ofNat (((0 + sz c0) + sz c1) + sz c2))), .val (.ref b8), .val (.int (1 : Int32)), .val (.int c0), .unset, .unset] [(.int c0), (.ref b8)]))
  obtain ⟨cq12, kq12, q12a, q12b, q12c⟩ := isOf hZ rfl E11
  obtain ⟨_, _, ⟨T12, L12, k12, n12⟩, -, X12, ⟨Lc12, hQ12, l12, y12, z12⟩, st12⟩ := X11.virtualBack hx (y := (⟨"com/example/triadne/triadne/Utf8Input", "advance", "(I)V"⟩ : MethodName)) (z := (⟨"com/example/triadne/triadne/Utf8Input", "advance", "(I)V"⟩ : MethodName)) hown (mvT hZ (hw _ (List.mem_of_getElem? (i := 62) rfl))) (mvT hZ (hw _ (List.mem_of_getElem? (i := 63) rfl))) (notFace_of_selects (args := #[]) (mvT hZ (hw _ (List.mem_of_getElem? (i := 65) rfl)))) (mvT hZ (hw _ (List.mem_of_getElem? (i := 65) rfl))) (mvT hZ (hw _ (List.mem_of_getElem? (i := 64) rfl))) (by decide) (backOf (W := 0) (rm11 l Z a0 hw [] b8 c0 b4 wn (putF (putF (putF (fun _ => 0) 0 c0) (0 + sz c0) c1) ((0 + sz c0) + sz c1) c2) (oset (fun _ => 0) 0 c0) (0 + sz c0) 0 (0 + 1) (1 : Int32) (1 : Int32) (0 : Int32) T11.heap n0 Z11 ⟨E11, F11_bytes, F11_byteLimit, F11_bytePosition, F11_window, F11_start, F11_end, F11_line, F11_column, F11_afterCarriageReturn, Ob11, Ow11⟩ (Ne.symm ne_b4_b8) nuw nbw gb8 gwn) hZ (hw _ (List.mem_of_getElem? (i := 66) rfl)) (hw _ (List.mem_of_getElem? (i := 10) rfl)) (by decide) (by decide)) q12a q12c (g := (mkF m 98 #[.val (.int q1), .val (.int q2), .val (.int q3), .val (.int c0), .val (.int c1), .val (.int c2), .val (.ref b4), .val (.int (Int32.ofNat (((0 + sz c0) + sz c1) + sz c2))), .val (.ref b8), .val (.int (1 : Int32)), .val (.int c0), .unset, .unset] [(.int c0), (.ref b8)])) rfl (by rw [hml]; rfl) (Steps.refl _) (argsL := [(.int c0)]) (rest := []) (lenOf pd0_3 rfl) rfl (by show 2 * 0 + _ ≤ _; exact Nat.le_of_eq rfl) (hb hby at_98) (fun _ _ => ⟨rfl, rfl, (by decide : 3 + 0 ≤ _), (by decide : 529 + 0 ≤ _)⟩)
  dsimp only [Pt.U, Pt.locs, Pt.cells, Pt.slots] at X12 l12 y12 z12 st12 hQ12
  subst l12 y12 z12
  obtain ⟨rfl, Nq12, Z12, Uq12⟩ := hQ12
  have N12 := Fr.app N11 Nq12
  obtain ⟨E12, F12_bytes, F12_byteLimit, F12_bytePosition, F12_window, F12_start, F12_end, F12_line, F12_column, F12_afterCarriageReturn, Ob12, Ow12⟩ := Uq12
  obtain ⟨lo12, X12, N12⟩ : ∃ L, Stand p l e room_1 s m #[(.int q1), (.int q2), (.int q3)] below meth c T12 L 3 529 ∧ Fr n0 L := ⟨_, X12, N12⟩
  refine OGo.st (fun t k => st12.trans k) ?_
  show OGo p e below _ (T12.setTop (mkF m 101 #[.val (.int q1), .val (.int q2), .val (.int q3), .val (.int c0), .val (.int c1), .val (.int c2), .val (.ref b4), .val (.int (Int32.ofNat (((0 + sz c0) + sz c1) + sz c2))), .val (.ref b8), .val (.int (1 : Int32)), .val (.int c0), .unset, .unset] []))
  refine OGo.st (fun t k => XS.aload X12.here hx rfl (hb hby at_101) rfl rfl k) ?_
  show OGo p e below _ (T12.setTop (mkF m 103 #[.val (.int q1), .val (.int q2), .val (.int q3), .val (.int c0), .val (.int c1), .val (.int c2), .val (.ref b4), .val (.int (Int32.ofNat (((0 + sz c0) + sz c1) + sz c2))), .val (.ref b8), .val (.int (1 : Int32)), .val (.int c0), .unset, .unset] [(.ref b8)]))
  refine OGo.st (fun t k => XS.iconst X12.here hx rfl (hb hby at_103) k) ?_
  show OGo p e below _ (T12.setTop (mkF m 104 #[.val (.int q1), .val (.int q2), .val (.int q3), .val (.int c0), .val (.int c1), .val (.int c2), .val (.ref b4), .val (.int (Int32.ofNat (((0 + sz c0) + sz c1) + sz c2))), .val (.ref b8), .val (.int (1 : Int32)), .val (.int c0), .unset, .unset] [(.int (0 : Int32)), (.ref b8)]))
  obtain ⟨cq13, kq13, q13a, q13b, q13c⟩ := isOf hZ rfl E12
  obtain ⟨_, _, ⟨T13, L13, k13, n13⟩, -, X13, ⟨Lc13, hQ13, l13, y13, z13⟩, st13⟩ := X12.virtualBack hx (y := (⟨"com/example/triadne/triadne/Utf8Input", "peek", "(I)I"⟩ : MethodName)) (z := (⟨"com/example/triadne/triadne/Utf8Input", "peek", "(I)I"⟩ : MethodName)) hown (mvT hZ (hw _ (List.mem_of_getElem? (i := 35) rfl))) (mvT hZ (hw _ (List.mem_of_getElem? (i := 36) rfl))) (notFace_of_selects (args := #[]) (mvT hZ (hw _ (List.mem_of_getElem? (i := 38) rfl)))) (mvT hZ (hw _ (List.mem_of_getElem? (i := 38) rfl))) (mvT hZ (hw _ (List.mem_of_getElem? (i := 37) rfl))) (by decide) (backOf (W := 0) (rm6 l Z a0 hw [] b8 b4 wn (putF (putF (putF (fun _ => 0) 0 c0) (0 + sz c0) c1) ((0 + sz c0) + sz c1) c2) (oset (fun _ => 0) 0 c0) (0 + sz c0) (0 + 1) (aLn c0 (0 : Int32) (1 : Int32)) (aCo c0 (1 : Int32)) (aCr c0) c1 (sz c1) T12.heap n0 Z12 ⟨E12, F12_bytes, F12_byteLimit, F12_bytePosition, F12_window, F12_start, F12_end, F12_line, F12_column, F12_afterCarriageReturn, Ob12, Ow12⟩ (Ne.symm ne_b4_b8) nuw nbw gb8 gwn (by omega) (own_d1 v0 v1 v2)) hZ (hw _ (List.mem_of_getElem? (i := 39) rfl)) (hw _ (List.mem_of_getElem? (i := 10) rfl)) (by decide) (by decide)) q13a q13c (g := (mkF m 104 #[.val (.int q1), .val (.int q2), .val (.int q3), .val (.int c0), .val (.int c1), .val (.int c2), .val (.ref b4), .val (.int (Int32.ofNat (((0 + sz c0) + sz c1) + sz c2))), .val (.ref b8), .val (.int (1 : Int32)), .val (.int c0), .unset, .unset] [(.int (0 : Int32)), (.ref b8)])) rfl (by rw [hml]; rfl) (Steps.refl _) (argsL := [(.int (0 : Int32))]) (rest := []) (lenOf pd0_0 rfl) rfl (by show 2 * 0 + _ ≤ _; exact Nat.le_of_eq rfl) (hb hby at_104) (fun _ _ => ⟨rfl, rfl, (by decide : 3 + 0 ≤ _), (by decide : 529 + 0 ≤ _)⟩)
  dsimp only [Pt.U, Pt.locs, Pt.cells, Pt.slots] at X13 l13 y13 z13 st13 hQ13
  subst l13 y13 z13
  obtain ⟨rfl, Nq13, Z13, Uq13⟩ := hQ13
  have N13 := Fr.app N12 Nq13
  obtain ⟨E13, F13_bytes, F13_byteLimit, F13_bytePosition, F13_window, F13_start, F13_end, F13_line, F13_column, F13_afterCarriageReturn, Ob13, Ow13⟩ := Uq13
  obtain ⟨lo13, X13, N13⟩ : ∃ L, Stand p l e room_1 s m #[(.int q1), (.int q2), (.int q3)] below meth c T13 L 3 529 ∧ Fr n0 L := ⟨_, X13, N13⟩
  refine OGo.st (fun t k => st13.trans k) ?_
  show OGo p e below _ (T13.setTop (mkF m 107 #[.val (.int q1), .val (.int q2), .val (.int q3), .val (.int c0), .val (.int c1), .val (.int c2), .val (.ref b4), .val (.int (Int32.ofNat (((0 + sz c0) + sz c1) + sz c2))), .val (.ref b8), .val (.int (1 : Int32)), .val (.int c0), .unset, .unset] [(.int c1)]))
  refine OGo.st (fun t k => XS.istore X13.here hx rfl (hb hby at_107) rfl (l' := #[.val (.int q1), .val (.int q2), .val (.int q3), .val (.int c0), .val (.int c1), .val (.int c2), .val (.ref b4), .val (.int (Int32.ofNat (((0 + sz c0) + sz c1) + sz c2))), .val (.ref b8), .val (.int (1 : Int32)), .val (.int c1), .unset, .unset]) rfl k) ?_
  show OGo p e below _ (T13.setTop (mkF m 109 #[.val (.int q1), .val (.int q2), .val (.int q3), .val (.int c0), .val (.int c1), .val (.int c2), .val (.ref b4), .val (.int (Int32.ofNat (((0 + sz c0) + sz c1) + sz c2))), .val (.ref b8), .val (.int (1 : Int32)), .val (.int c1), .unset, .unset] []))
  refine OGo.st (fun t k => XS.iload X13.here hx rfl (hb hby at_109) rfl k) ?_
  show OGo p e below _ (T13.setTop (mkF m 111 #[.val (.int q1), .val (.int q2), .val (.int q3), .val (.int c0), .val (.int c1), .val (.int c2), .val (.ref b4), .val (.int (Int32.ofNat (((0 + sz c0) + sz c1) + sz c2))), .val (.ref b8), .val (.int (1 : Int32)), .val (.int c1), .unset, .unset] [(.int (1 : Int32))]))
  refine OGo.st (fun t k => XS.ifNo X13.here hx rfl (hb hby at_111) rfl ((if0 _ _).trans (feq (by decide : ¬ ((1 : Int32) = (0 : Int32)))).1) k) ?_
  show OGo p e below _ (T13.setTop (mkF m 114 #[.val (.int q1), .val (.int q2), .val (.int q3), .val (.int c0), .val (.int c1), .val (.int c2), .val (.ref b4), .val (.int (Int32.ofNat (((0 + sz c0) + sz c1) + sz c2))), .val (.ref b8), .val (.int (1 : Int32)), .val (.int c1), .unset, .unset] []))
  refine OGo.st (fun t k => XS.iload X13.here hx rfl (hb hby at_114) rfl k) ?_
  show OGo p e below _ (T13.setTop (mkF m 116 #[.val (.int q1), .val (.int q2), .val (.int q3), .val (.int c0), .val (.int c1), .val (.int c2), .val (.ref b4), .val (.int (Int32.ofNat (((0 + sz c0) + sz c1) + sz c2))), .val (.ref b8), .val (.int (1 : Int32)), .val (.int c1), .unset, .unset] [(.int c1)]))
  refine OGo.st (fun t k => XS.iload X13.here hx rfl (hb hby at_116) rfl k) ?_
  show OGo p e below _ (T13.setTop (mkF m 118 #[.val (.int q1), .val (.int q2), .val (.int q3), .val (.int c0), .val (.int c1), .val (.int c2), .val (.ref b4), .val (.int (Int32.ofNat (((0 + sz c0) + sz c1) + sz c2))), .val (.ref b8), .val (.int (1 : Int32)), .val (.int c1), .unset, .unset] [(.int c1), (.int c1)]))
  refine OGo.st (fun t k => XS.icmpNo X13.here hx rfl (hb hby at_118) rfl (teq (rfl : c1 = c1)).2 k) ?_
  show OGo p e below _ (T13.setTop (mkF m 121 #[.val (.int q1), .val (.int q2), .val (.int q3), .val (.int c0), .val (.int c1), .val (.int c2), .val (.ref b4), .val (.int (Int32.ofNat (((0 + sz c0) + sz c1) + sz c2))), .val (.ref b8), .val (.int (1 : Int32)), .val (.int c1), .unset, .unset] []))
  refine OGo.st (fun t k => XS.iconst X13.here hx rfl (hb hby at_121) k) ?_
  show OGo p e below _ (T13.setTop (mkF m 122 #[.val (.int q1), .val (.int q2), .val (.int q3), .val (.int c0), .val (.int c1), .val (.int c2), .val (.ref b4), .val (.int (Int32.ofNat (((0 + sz c0) + sz c1) + sz c2))), .val (.ref b8), .val (.int (1 : Int32)), .val (.int c1), .unset, .unset] [(.int (1 : Int32))]))
  refine OGo.st (fun t k => XS.goto X13.here hx rfl (pc0 := 122) (pc' := 126) rfl (hb hby at_122) (by decide) (by decide) k) ?_
  show OGo p e below _ (T13.setTop (mkF m 126 #[.val (.int q1), .val (.int q2), .val (.int q3), .val (.int c0), .val (.int c1), .val (.int c2), .val (.ref b4), .val (.int (Int32.ofNat (((0 + sz c0) + sz c1) + sz c2))), .val (.ref b8), .val (.int (1 : Int32)), .val (.int c1), .unset, .unset] [(.int (1 : Int32))]))
  refine OGo.st (fun t k => XS.istore X13.here hx rfl (hb hby at_126) rfl (l' := #[.val (.int q1), .val (.int q2), .val (.int q3), .val (.int c0), .val (.int c1), .val (.int c2), .val (.ref b4), .val (.int (Int32.ofNat (((0 + sz c0) + sz c1) + sz c2))), .val (.ref b8), .val (.int (1 : Int32)), .val (.int c1), .unset, .unset]) rfl k) ?_
  show OGo p e below _ (T13.setTop (mkF m 128 #[.val (.int q1), .val (.int q2), .val (.int q3), .val (.int c0), .val (.int c1), .val (.int c2), .val (.ref b4), .val (.int (Int32.ofNat (((0 + sz c0) + sz c1) + sz c2))), .val (.ref b8), .val (.int (1 : Int32)), .val (.int c1), .unset, .unset] []))
  refine OGo.st (fun t k => XS.aload X13.here hx rfl (hb hby at_128) rfl rfl k) ?_
  show OGo p e below _ (T13.setTop (mkF m 130 #[.val (.int q1), .val (.int q2), .val (.int q3), .val (.int c0), .val (.int c1), .val (.int c2), .val (.ref b4), .val (.int (Int32.ofNat (((0 + sz c0) + sz c1) + sz c2))), .val (.ref b8), .val (.int (1 : Int32)), .val (.int c1), .unset, .unset] [(.ref b8)]))
  refine OGo.st (fun t k => XS.iload X13.here hx rfl (hb hby at_130) rfl k) ?_
  show OGo p e below _ (T13.setTop (mkF m 132 #[.val (.int q1), .val (.int q2), .val (.int q3), .val (.int c0), .val (.int c1), .val (.int c2), .val (.ref b4), .val (.int (Int32.ofNat (((0 + sz c0) + sz c1) + sz c2))), .val (.ref b8), .val (.int (1 : Int32)), .val (.int c1), .unset, .unset] [(.int c1), (.ref b8)]))
  obtain ⟨cq14, kq14, q14a, q14b, q14c⟩ := isOf hZ rfl E13
  obtain ⟨_, _, ⟨T14, L14, k14, n14⟩, -, X14, ⟨Lc14, hQ14, l14, y14, z14⟩, st14⟩ := X13.virtualBack hx (y := (⟨"com/example/triadne/triadne/Utf8Input", "advance", "(I)V"⟩ : MethodName)) (z := (⟨"com/example/triadne/triadne/Utf8Input", "advance", "(I)V"⟩ : MethodName)) hown (mvT hZ (hw _ (List.mem_of_getElem? (i := 62) rfl))) (mvT hZ (hw _ (List.mem_of_getElem? (i := 63) rfl))) (notFace_of_selects (args := #[]) (mvT hZ (hw _ (List.mem_of_getElem? (i := 65) rfl)))) (mvT hZ (hw _ (List.mem_of_getElem? (i := 65) rfl))) (mvT hZ (hw _ (List.mem_of_getElem? (i := 64) rfl))) (by decide) (backOf (W := 0) (rm11 l Z a0 hw [] b8 c1 b4 wn (putF (putF (putF (fun _ => 0) 0 c0) (0 + sz c0) c1) ((0 + sz c0) + sz c1) c2) (oset (oset (fun _ => 0) 0 c0) (0 + 1) c1) ((0 + sz c0) + sz c1) (0 + 1) ((0 + 1) + 1) (aLn c0 (0 : Int32) (1 : Int32)) (aCo c0 (1 : Int32)) (aCr c0) T13.heap n0 Z13 ⟨E13, F13_bytes, F13_byteLimit, F13_bytePosition, F13_window, F13_start, F13_end, F13_line, F13_column, F13_afterCarriageReturn, Ob13, Ow13⟩ (Ne.symm ne_b4_b8) nuw nbw gb8 gwn) hZ (hw _ (List.mem_of_getElem? (i := 66) rfl)) (hw _ (List.mem_of_getElem? (i := 10) rfl)) (by decide) (by decide)) q14a q14c (g := (mkF m 132 #[.val (.int q1), .val (.int q2), .val (.int q3), .val (.int c0), .val (.int c1), .val (.int c2), .val (.ref b4), .val (.int (Int32.ofNat (((0 + sz c0) + sz c1) + sz c2))), .val (.ref b8), .val (.int (1 : Int32)), .val (.int c1), .unset, .unset] [(.int c1), (.ref b8)])) rfl (by rw [hml]; rfl) (Steps.refl _) (argsL := [(.int c1)]) (rest := []) (lenOf pd0_3 rfl) rfl (by show 2 * 0 + _ ≤ _; exact Nat.le_of_eq rfl) (hb hby at_132) (fun _ _ => ⟨rfl, rfl, (by decide : 3 + 0 ≤ _), (by decide : 529 + 0 ≤ _)⟩)
  dsimp only [Pt.U, Pt.locs, Pt.cells, Pt.slots] at X14 l14 y14 z14 st14 hQ14
  subst l14 y14 z14
  obtain ⟨rfl, Nq14, Z14, Uq14⟩ := hQ14
  have N14 := Fr.app N13 Nq14
  obtain ⟨E14, F14_bytes, F14_byteLimit, F14_bytePosition, F14_window, F14_start, F14_end, F14_line, F14_column, F14_afterCarriageReturn, Ob14, Ow14⟩ := Uq14
  obtain ⟨lo14, X14, N14⟩ : ∃ L, Stand p l e room_1 s m #[(.int q1), (.int q2), (.int q3)] below meth c T14 L 3 529 ∧ Fr n0 L := ⟨_, X14, N14⟩
  refine OGo.st (fun t k => st14.trans k) ?_
  show OGo p e below _ (T14.setTop (mkF m 135 #[.val (.int q1), .val (.int q2), .val (.int q3), .val (.int c0), .val (.int c1), .val (.int c2), .val (.ref b4), .val (.int (Int32.ofNat (((0 + sz c0) + sz c1) + sz c2))), .val (.ref b8), .val (.int (1 : Int32)), .val (.int c1), .unset, .unset] []))
  refine OGo.st (fun t k => XS.aload X14.here hx rfl (hb hby at_135) rfl rfl k) ?_
  show OGo p e below _ (T14.setTop (mkF m 137 #[.val (.int q1), .val (.int q2), .val (.int q3), .val (.int c0), .val (.int c1), .val (.int c2), .val (.ref b4), .val (.int (Int32.ofNat (((0 + sz c0) + sz c1) + sz c2))), .val (.ref b8), .val (.int (1 : Int32)), .val (.int c1), .unset, .unset] [(.ref b8)]))
  refine OGo.st (fun t k => XS.iconst X14.here hx rfl (hb hby at_137) k) ?_
  show OGo p e below _ (T14.setTop (mkF m 138 #[.val (.int q1), .val (.int q2), .val (.int q3), .val (.int c0), .val (.int c1), .val (.int c2), .val (.ref b4), .val (.int (Int32.ofNat (((0 + sz c0) + sz c1) + sz c2))), .val (.ref b8), .val (.int (1 : Int32)), .val (.int c1), .unset, .unset] [(.int (0 : Int32)), (.ref b8)]))
  obtain ⟨cq15, kq15, q15a, q15b, q15c⟩ := isOf hZ rfl E14
  obtain ⟨_, _, ⟨T15, L15, k15, n15⟩, -, X15, ⟨Lc15, hQ15, l15, y15, z15⟩, st15⟩ := X14.virtualBack hx (y := (⟨"com/example/triadne/triadne/Utf8Input", "peek", "(I)I"⟩ : MethodName)) (z := (⟨"com/example/triadne/triadne/Utf8Input", "peek", "(I)I"⟩ : MethodName)) hown (mvT hZ (hw _ (List.mem_of_getElem? (i := 35) rfl))) (mvT hZ (hw _ (List.mem_of_getElem? (i := 36) rfl))) (notFace_of_selects (args := #[]) (mvT hZ (hw _ (List.mem_of_getElem? (i := 38) rfl)))) (mvT hZ (hw _ (List.mem_of_getElem? (i := 38) rfl))) (mvT hZ (hw _ (List.mem_of_getElem? (i := 37) rfl))) (by decide) (backOf (W := 0) (rm6 l Z a0 hw [] b8 b4 wn (putF (putF (putF (fun _ => 0) 0 c0) (0 + sz c0) c1) ((0 + sz c0) + sz c1) c2) (oset (oset (fun _ => 0) 0 c0) (0 + 1) c1) ((0 + sz c0) + sz c1) ((0 + 1) + 1) (aLn c1 (aCr c0) (aLn c0 (0 : Int32) (1 : Int32))) (aCo c1 (aCo c0 (1 : Int32))) (aCr c1) c2 (sz c2) T14.heap n0 Z14 ⟨E14, F14_bytes, F14_byteLimit, F14_bytePosition, F14_window, F14_start, F14_end, F14_line, F14_column, F14_afterCarriageReturn, Ob14, Ow14⟩ (Ne.symm ne_b4_b8) nuw nbw gb8 gwn (by omega) (own_d2 v0 v1 v2)) hZ (hw _ (List.mem_of_getElem? (i := 39) rfl)) (hw _ (List.mem_of_getElem? (i := 10) rfl)) (by decide) (by decide)) q15a q15c (g := (mkF m 138 #[.val (.int q1), .val (.int q2), .val (.int q3), .val (.int c0), .val (.int c1), .val (.int c2), .val (.ref b4), .val (.int (Int32.ofNat (((0 + sz c0) + sz c1) + sz c2))), .val (.ref b8), .val (.int (1 : Int32)), .val (.int c1), .unset, .unset] [(.int (0 : Int32)), (.ref b8)])) rfl (by rw [hml]; rfl) (Steps.refl _) (argsL := [(.int (0 : Int32))]) (rest := []) (lenOf pd0_0 rfl) rfl (by show 2 * 0 + _ ≤ _; exact Nat.le_of_eq rfl) (hb hby at_138) (fun _ _ => ⟨rfl, rfl, (by decide : 3 + 0 ≤ _), (by decide : 529 + 0 ≤ _)⟩)
  dsimp only [Pt.U, Pt.locs, Pt.cells, Pt.slots] at X15 l15 y15 z15 st15 hQ15
  subst l15 y15 z15
  obtain ⟨rfl, Nq15, Z15, Uq15⟩ := hQ15
  have N15 := Fr.app N14 Nq15
  obtain ⟨E15, F15_bytes, F15_byteLimit, F15_bytePosition, F15_window, F15_start, F15_end, F15_line, F15_column, F15_afterCarriageReturn, Ob15, Ow15⟩ := Uq15
  obtain ⟨lo15, X15, N15⟩ : ∃ L, Stand p l e room_1 s m #[(.int q1), (.int q2), (.int q3)] below meth c T15 L 3 529 ∧ Fr n0 L := ⟨_, X15, N15⟩
  refine OGo.st (fun t k => st15.trans k) ?_
  show OGo p e below _ (T15.setTop (mkF m 141 #[.val (.int q1), .val (.int q2), .val (.int q3), .val (.int c0), .val (.int c1), .val (.int c2), .val (.ref b4), .val (.int (Int32.ofNat (((0 + sz c0) + sz c1) + sz c2))), .val (.ref b8), .val (.int (1 : Int32)), .val (.int c1), .unset, .unset] [(.int c2)]))
  refine OGo.st (fun t k => XS.istore X15.here hx rfl (hb hby at_141) rfl (l' := #[.val (.int q1), .val (.int q2), .val (.int q3), .val (.int c0), .val (.int c1), .val (.int c2), .val (.ref b4), .val (.int (Int32.ofNat (((0 + sz c0) + sz c1) + sz c2))), .val (.ref b8), .val (.int (1 : Int32)), .val (.int c2), .unset, .unset]) rfl k) ?_
  show OGo p e below _ (T15.setTop (mkF m 143 #[.val (.int q1), .val (.int q2), .val (.int q3), .val (.int c0), .val (.int c1), .val (.int c2), .val (.ref b4), .val (.int (Int32.ofNat (((0 + sz c0) + sz c1) + sz c2))), .val (.ref b8), .val (.int (1 : Int32)), .val (.int c2), .unset, .unset] []))
  refine OGo.st (fun t k => XS.iload X15.here hx rfl (hb hby at_143) rfl k) ?_
  show OGo p e below _ (T15.setTop (mkF m 145 #[.val (.int q1), .val (.int q2), .val (.int q3), .val (.int c0), .val (.int c1), .val (.int c2), .val (.ref b4), .val (.int (Int32.ofNat (((0 + sz c0) + sz c1) + sz c2))), .val (.ref b8), .val (.int (1 : Int32)), .val (.int c2), .unset, .unset] [(.int (1 : Int32))]))
  refine OGo.st (fun t k => XS.ifNo X15.here hx rfl (hb hby at_145) rfl ((if0 _ _).trans (feq (by decide : ¬ ((1 : Int32) = (0 : Int32)))).1) k) ?_
  show OGo p e below _ (T15.setTop (mkF m 148 #[.val (.int q1), .val (.int q2), .val (.int q3), .val (.int c0), .val (.int c1), .val (.int c2), .val (.ref b4), .val (.int (Int32.ofNat (((0 + sz c0) + sz c1) + sz c2))), .val (.ref b8), .val (.int (1 : Int32)), .val (.int c2), .unset, .unset] []))
  refine OGo.st (fun t k => XS.iload X15.here hx rfl (hb hby at_148) rfl k) ?_
  show OGo p e below _ (T15.setTop (mkF m 150 #[.val (.int q1), .val (.int q2), .val (.int q3), .val (.int c0), .val (.int c1), .val (.int c2), .val (.ref b4), .val (.int (Int32.ofNat (((0 + sz c0) + sz c1) + sz c2))), .val (.ref b8), .val (.int (1 : Int32)), .val (.int c2), .unset, .unset] [(.int c2)]))
  refine OGo.st (fun t k => XS.iload X15.here hx rfl (hb hby at_150) rfl k) ?_
  show OGo p e below _ (T15.setTop (mkF m 152 #[.val (.int q1), .val (.int q2), .val (.int q3), .val (.int c0), .val (.int c1), .val (.int c2), .val (.ref b4), .val (.int (Int32.ofNat (((0 + sz c0) + sz c1) + sz c2))), .val (.ref b8), .val (.int (1 : Int32)), .val (.int c2), .unset, .unset] [(.int c2), (.int c2)]))
  refine OGo.st (fun t k => XS.icmpNo X15.here hx rfl (hb hby at_152) rfl (teq (rfl : c2 = c2)).2 k) ?_
  show OGo p e below _ (T15.setTop (mkF m 155 #[.val (.int q1), .val (.int q2), .val (.int q3), .val (.int c0), .val (.int c1), .val (.int c2), .val (.ref b4), .val (.int (Int32.ofNat (((0 + sz c0) + sz c1) + sz c2))), .val (.ref b8), .val (.int (1 : Int32)), .val (.int c2), .unset, .unset] []))
  refine OGo.st (fun t k => XS.iconst X15.here hx rfl (hb hby at_155) k) ?_
  show OGo p e below _ (T15.setTop (mkF m 156 #[.val (.int q1), .val (.int q2), .val (.int q3), .val (.int c0), .val (.int c1), .val (.int c2), .val (.ref b4), .val (.int (Int32.ofNat (((0 + sz c0) + sz c1) + sz c2))), .val (.ref b8), .val (.int (1 : Int32)), .val (.int c2), .unset, .unset] [(.int (1 : Int32))]))
  refine OGo.st (fun t k => XS.goto X15.here hx rfl (pc0 := 156) (pc' := 160) rfl (hb hby at_156) (by decide) (by decide) k) ?_
  show OGo p e below _ (T15.setTop (mkF m 160 #[.val (.int q1), .val (.int q2), .val (.int q3), .val (.int c0), .val (.int c1), .val (.int c2), .val (.ref b4), .val (.int (Int32.ofNat (((0 + sz c0) + sz c1) + sz c2))), .val (.ref b8), .val (.int (1 : Int32)), .val (.int c2), .unset, .unset] [(.int (1 : Int32))]))
  refine OGo.st (fun t k => XS.istore X15.here hx rfl (hb hby at_160) rfl (l' := #[.val (.int q1), .val (.int q2), .val (.int q3), .val (.int c0), .val (.int c1), .val (.int c2), .val (.ref b4), .val (.int (Int32.ofNat (((0 + sz c0) + sz c1) + sz c2))), .val (.ref b8), .val (.int (1 : Int32)), .val (.int c2), .unset, .unset]) rfl k) ?_
  show OGo p e below _ (T15.setTop (mkF m 162 #[.val (.int q1), .val (.int q2), .val (.int q3), .val (.int c0), .val (.int c1), .val (.int c2), .val (.ref b4), .val (.int (Int32.ofNat (((0 + sz c0) + sz c1) + sz c2))), .val (.ref b8), .val (.int (1 : Int32)), .val (.int c2), .unset, .unset] []))
  refine OGo.st (fun t k => XS.aload X15.here hx rfl (hb hby at_162) rfl rfl k) ?_
  show OGo p e below _ (T15.setTop (mkF m 164 #[.val (.int q1), .val (.int q2), .val (.int q3), .val (.int c0), .val (.int c1), .val (.int c2), .val (.ref b4), .val (.int (Int32.ofNat (((0 + sz c0) + sz c1) + sz c2))), .val (.ref b8), .val (.int (1 : Int32)), .val (.int c2), .unset, .unset] [(.ref b8)]))
  refine OGo.st (fun t k => XS.iload X15.here hx rfl (hb hby at_164) rfl k) ?_
  show OGo p e below _ (T15.setTop (mkF m 166 #[.val (.int q1), .val (.int q2), .val (.int q3), .val (.int c0), .val (.int c1), .val (.int c2), .val (.ref b4), .val (.int (Int32.ofNat (((0 + sz c0) + sz c1) + sz c2))), .val (.ref b8), .val (.int (1 : Int32)), .val (.int c2), .unset, .unset] [(.int c2), (.ref b8)]))
  obtain ⟨cq16, kq16, q16a, q16b, q16c⟩ := isOf hZ rfl E15
  obtain ⟨_, _, ⟨T16, L16, k16, n16⟩, -, X16, ⟨Lc16, hQ16, l16, y16, z16⟩, st16⟩ := X15.virtualBack hx (y := (⟨"com/example/triadne/triadne/Utf8Input", "advance", "(I)V"⟩ : MethodName)) (z := (⟨"com/example/triadne/triadne/Utf8Input", "advance", "(I)V"⟩ : MethodName)) hown (mvT hZ (hw _ (List.mem_of_getElem? (i := 62) rfl))) (mvT hZ (hw _ (List.mem_of_getElem? (i := 63) rfl))) (notFace_of_selects (args := #[]) (mvT hZ (hw _ (List.mem_of_getElem? (i := 65) rfl)))) (mvT hZ (hw _ (List.mem_of_getElem? (i := 65) rfl))) (mvT hZ (hw _ (List.mem_of_getElem? (i := 64) rfl))) (by decide) (backOf (W := 0) (rm11 l Z a0 hw [] b8 c2 b4 wn (putF (putF (putF (fun _ => 0) 0 c0) (0 + sz c0) c1) ((0 + sz c0) + sz c1) c2) (oset (oset (oset (fun _ => 0) 0 c0) (0 + 1) c1) ((0 + 1) + 1) c2) (((0 + sz c0) + sz c1) + sz c2) ((0 + 1) + 1) (((0 + 1) + 1) + 1) (aLn c1 (aCr c0) (aLn c0 (0 : Int32) (1 : Int32))) (aCo c1 (aCo c0 (1 : Int32))) (aCr c1) T15.heap n0 Z15 ⟨E15, F15_bytes, F15_byteLimit, F15_bytePosition, F15_window, F15_start, F15_end, F15_line, F15_column, F15_afterCarriageReturn, Ob15, Ow15⟩ (Ne.symm ne_b4_b8) nuw nbw gb8 gwn) hZ (hw _ (List.mem_of_getElem? (i := 66) rfl)) (hw _ (List.mem_of_getElem? (i := 10) rfl)) (by decide) (by decide)) q16a q16c (g := (mkF m 166 #[.val (.int q1), .val (.int q2), .val (.int q3), .val (.int c0), .val (.int c1), .val (.int c2), .val (.ref b4), .val (.int (Int32.ofNat (((0 + sz c0) + sz c1) + sz c2))), .val (.ref b8), .val (.int (1 : Int32)), .val (.int c2), .unset, .unset] [(.int c2), (.ref b8)])) rfl (by rw [hml]; rfl) (Steps.refl _) (argsL := [(.int c2)]) (rest := []) (lenOf pd0_3 rfl) rfl (by show 2 * 0 + _ ≤ _; exact Nat.le_of_eq rfl) (hb hby at_166) (fun _ _ => ⟨rfl, rfl, (by decide : 3 + 0 ≤ _), (by decide : 529 + 0 ≤ _)⟩)
  dsimp only [Pt.U, Pt.locs, Pt.cells, Pt.slots] at X16 l16 y16 z16 st16 hQ16
  subst l16 y16 z16
  obtain ⟨rfl, Nq16, Z16, Uq16⟩ := hQ16
  have N16 := Fr.app N15 Nq16
  obtain ⟨E16, F16_bytes, F16_byteLimit, F16_bytePosition, F16_window, F16_start, F16_end, F16_line, F16_column, F16_afterCarriageReturn, Ob16, Ow16⟩ := Uq16
  obtain ⟨lo16, X16, N16⟩ : ∃ L, Stand p l e room_1 s m #[(.int q1), (.int q2), (.int q3)] below meth c T16 L 3 529 ∧ Fr n0 L := ⟨_, X16, N16⟩
  refine OGo.st (fun t k => st16.trans k) ?_
  show OGo p e below _ (T16.setTop (mkF m 169 #[.val (.int q1), .val (.int q2), .val (.int q3), .val (.int c0), .val (.int c1), .val (.int c2), .val (.ref b4), .val (.int (Int32.ofNat (((0 + sz c0) + sz c1) + sz c2))), .val (.ref b8), .val (.int (1 : Int32)), .val (.int c2), .unset, .unset] []))
  refine OGo.st (fun t k => XS.iload X16.here hx rfl (hb hby at_169) rfl k) ?_
  show OGo p e below _ (T16.setTop (mkF m 171 #[.val (.int q1), .val (.int q2), .val (.int q3), .val (.int c0), .val (.int c1), .val (.int c2), .val (.ref b4), .val (.int (Int32.ofNat (((0 + sz c0) + sz c1) + sz c2))), .val (.ref b8), .val (.int (1 : Int32)), .val (.int c2), .unset, .unset] [(.int (1 : Int32))]))
  refine OGo.st (fun t k => XS.ifNo X16.here hx rfl (hb hby at_171) rfl ((if0 _ _).trans (feq (by decide : ¬ ((1 : Int32) = (0 : Int32)))).1) k) ?_
  show OGo p e below _ (T16.setTop (mkF m 174 #[.val (.int q1), .val (.int q2), .val (.int q3), .val (.int c0), .val (.int c1), .val (.int c2), .val (.ref b4), .val (.int (Int32.ofNat (((0 + sz c0) + sz c1) + sz c2))), .val (.ref b8), .val (.int (1 : Int32)), .val (.int c2), .unset, .unset] []))
  refine OGo.st (fun t k => XS.aload X16.here hx rfl (hb hby at_174) rfl rfl k) ?_
  show OGo p e below _ (T16.setTop (mkF m 176 #[.val (.int q1), .val (.int q2), .val (.int q3), .val (.int c0), .val (.int c1), .val (.int c2), .val (.ref b4), .val (.int (Int32.ofNat (((0 + sz c0) + sz c1) + sz c2))), .val (.ref b8), .val (.int (1 : Int32)), .val (.int c2), .unset, .unset] [(.ref b8)]))
  refine OGo.st (fun t k => XS.iconst X16.here hx rfl (hb hby at_176) k) ?_
  show OGo p e below _ (T16.setTop (mkF m 177 #[.val (.int q1), .val (.int q2), .val (.int q3), .val (.int c0), .val (.int c1), .val (.int c2), .val (.ref b4), .val (.int (Int32.ofNat (((0 + sz c0) + sz c1) + sz c2))), .val (.ref b8), .val (.int (1 : Int32)), .val (.int c2), .unset, .unset] [(.int (0 : Int32)), (.ref b8)]))
  obtain ⟨cq17, kq17, q17a, q17b, q17c⟩ := isOf hZ rfl E16
  obtain ⟨_, _, ⟨T17, L17, k17, n17⟩, -, X17, ⟨Lc17, hQ17, l17, y17, z17⟩, st17⟩ := X16.virtualBack hx (y := (⟨"com/example/triadne/triadne/Utf8Input", "peek", "(I)I"⟩ : MethodName)) (z := (⟨"com/example/triadne/triadne/Utf8Input", "peek", "(I)I"⟩ : MethodName)) hown (mvT hZ (hw _ (List.mem_of_getElem? (i := 35) rfl))) (mvT hZ (hw _ (List.mem_of_getElem? (i := 36) rfl))) (notFace_of_selects (args := #[]) (mvT hZ (hw _ (List.mem_of_getElem? (i := 38) rfl)))) (mvT hZ (hw _ (List.mem_of_getElem? (i := 38) rfl))) (mvT hZ (hw _ (List.mem_of_getElem? (i := 37) rfl))) (by decide) (backOf (W := 0) (rm6 l Z a0 hw [] b8 b4 wn (putF (putF (putF (fun _ => 0) 0 c0) (0 + sz c0) c1) ((0 + sz c0) + sz c1) c2) (oset (oset (oset (fun _ => 0) 0 c0) (0 + 1) c1) ((0 + 1) + 1) c2) (((0 + sz c0) + sz c1) + sz c2) (((0 + 1) + 1) + 1) (aLn c2 (aCr c1) (aLn c1 (aCr c0) (aLn c0 (0 : Int32) (1 : Int32)))) (aCo c2 (aCo c1 (aCo c0 (1 : Int32)))) (aCr c2) 0 (1) T16.heap n0 Z16 ⟨E16, F16_bytes, F16_byteLimit, F16_bytePosition, F16_window, F16_start, F16_end, F16_line, F16_column, F16_afterCarriageReturn, Ob16, Ow16⟩ (Ne.symm ne_b4_b8) nuw nbw gb8 gwn (by omega) (own_d3 v0 v1 v2)) hZ (hw _ (List.mem_of_getElem? (i := 39) rfl)) (hw _ (List.mem_of_getElem? (i := 10) rfl)) (by decide) (by decide)) q17a q17c (g := (mkF m 177 #[.val (.int q1), .val (.int q2), .val (.int q3), .val (.int c0), .val (.int c1), .val (.int c2), .val (.ref b4), .val (.int (Int32.ofNat (((0 + sz c0) + sz c1) + sz c2))), .val (.ref b8), .val (.int (1 : Int32)), .val (.int c2), .unset, .unset] [(.int (0 : Int32)), (.ref b8)])) rfl (by rw [hml]; rfl) (Steps.refl _) (argsL := [(.int (0 : Int32))]) (rest := []) (lenOf pd0_0 rfl) rfl (by show 2 * 0 + _ ≤ _; exact Nat.le_of_eq rfl) (hb hby at_177) (fun _ _ => ⟨rfl, rfl, (by decide : 3 + 0 ≤ _), (by decide : 529 + 0 ≤ _)⟩)
  dsimp only [Pt.U, Pt.locs, Pt.cells, Pt.slots] at X17 l17 y17 z17 st17 hQ17
  subst l17 y17 z17
  obtain ⟨rfl, Nq17, Z17, Uq17⟩ := hQ17
  have N17 := Fr.app N16 Nq17
  obtain ⟨E17, F17_bytes, F17_byteLimit, F17_bytePosition, F17_window, F17_start, F17_end, F17_line, F17_column, F17_afterCarriageReturn, Ob17, Ow17⟩ := Uq17
  obtain ⟨lo17, X17, N17⟩ : ∃ L, Stand p l e room_1 s m #[(.int q1), (.int q2), (.int q3)] below meth c T17 L 3 529 ∧ Fr n0 L := ⟨_, X17, N17⟩
  refine OGo.st (fun t k => st17.trans k) ?_
  show OGo p e below _ (T17.setTop (mkF m 180 #[.val (.int q1), .val (.int q2), .val (.int q3), .val (.int c0), .val (.int c1), .val (.int c2), .val (.ref b4), .val (.int (Int32.ofNat (((0 + sz c0) + sz c1) + sz c2))), .val (.ref b8), .val (.int (1 : Int32)), .val (.int c2), .unset, .unset] [(.int (0 : Int32))]))
  refine OGo.st (fun t k => XS.ifNo X17.here hx rfl (hb hby at_180) rfl ((if0 _ _).trans (teq (by decide : ((0 : Int32) = (0 : Int32)))).2) k) ?_
  show OGo p e below _ (T17.setTop (mkF m 183 #[.val (.int q1), .val (.int q2), .val (.int q3), .val (.int c0), .val (.int c1), .val (.int c2), .val (.ref b4), .val (.int (Int32.ofNat (((0 + sz c0) + sz c1) + sz c2))), .val (.ref b8), .val (.int (1 : Int32)), .val (.int c2), .unset, .unset] []))
  refine OGo.st (fun t k => XS.iconst X17.here hx rfl (hb hby at_183) k) ?_
  show OGo p e below _ (T17.setTop (mkF m 184 #[.val (.int q1), .val (.int q2), .val (.int q3), .val (.int c0), .val (.int c1), .val (.int c2), .val (.ref b4), .val (.int (Int32.ofNat (((0 + sz c0) + sz c1) + sz c2))), .val (.ref b8), .val (.int (1 : Int32)), .val (.int c2), .unset, .unset] [(.int (1 : Int32))]))
  refine OGo.st (fun t k => XS.goto X17.here hx rfl (pc0 := 184) (pc' := 188) rfl (hb hby at_184) (by decide) (by decide) k) ?_
  show OGo p e below _ (T17.setTop (mkF m 188 #[.val (.int q1), .val (.int q2), .val (.int q3), .val (.int c0), .val (.int c1), .val (.int c2), .val (.ref b4), .val (.int (Int32.ofNat (((0 + sz c0) + sz c1) + sz c2))), .val (.ref b8), .val (.int (1 : Int32)), .val (.int c2), .unset, .unset] [(.int (1 : Int32))]))
  refine OGo.st (fun t k => XS.istore X17.here hx rfl (hb hby at_188) rfl (l' := #[.val (.int q1), .val (.int q2), .val (.int q3), .val (.int c0), .val (.int c1), .val (.int c2), .val (.ref b4), .val (.int (Int32.ofNat (((0 + sz c0) + sz c1) + sz c2))), .val (.ref b8), .val (.int (1 : Int32)), .val (.int c2), .unset, .unset]) rfl k) ?_
  show OGo p e below _ (T17.setTop (mkF m 190 #[.val (.int q1), .val (.int q2), .val (.int q3), .val (.int c0), .val (.int c1), .val (.int c2), .val (.ref b4), .val (.int (Int32.ofNat (((0 + sz c0) + sz c1) + sz c2))), .val (.ref b8), .val (.int (1 : Int32)), .val (.int c2), .unset, .unset] []))
  refine OGo.st (fun t k => XS.iconst X17.here hx rfl (hb hby at_190) k) ?_
  show OGo p e below _ (T17.setTop (mkF m 191 #[.val (.int q1), .val (.int q2), .val (.int q3), .val (.int c0), .val (.int c1), .val (.int c2), .val (.ref b4), .val (.int (Int32.ofNat (((0 + sz c0) + sz c1) + sz c2))), .val (.ref b8), .val (.int (1 : Int32)), .val (.int c2), .unset, .unset] [(.int (1 : Int32))]))
  refine OGo.st (fun t k => XS.iloadN X17.here hx rfl (hb hby at_191) rfl k) ?_
  show OGo p e below _ (T17.setTop (mkF m 192 #[.val (.int q1), .val (.int q2), .val (.int q3), .val (.int c0), .val (.int c1), .val (.int c2), .val (.ref b4), .val (.int (Int32.ofNat (((0 + sz c0) + sz c1) + sz c2))), .val (.ref b8), .val (.int (1 : Int32)), .val (.int c2), .unset, .unset] [(.int c0), (.int (1 : Int32))]))
  refine OGo.st (fun t k => XS.iconst X17.here hx rfl (hb hby at_192) k) ?_
  show OGo p e below _ (T17.setTop (mkF m 193 #[.val (.int q1), .val (.int q2), .val (.int q3), .val (.int c0), .val (.int c1), .val (.int c2), .val (.ref b4), .val (.int (Int32.ofNat (((0 + sz c0) + sz c1) + sz c2))), .val (.ref b8), .val (.int (1 : Int32)), .val (.int c2), .unset, .unset] [(.int (0 : Int32)), (.int c0), (.int (1 : Int32))]))
  obtain ⟨_, _, ⟨T18, L18, k18, n18⟩, -, X18, ⟨Lc18, hQ18, l18, y18, z18⟩, st18⟩ := Jvm.LawKit.callS X17 hx (y := (⟨"com/example/triadne/triadne/Utf8InputAdvancePinLaw", "breaks", "(IZ)I"⟩ : MethodName)) hown (mvT hZ (hw _ (List.mem_of_getElem? (i := 71) rfl))) (mvT hZ (hw _ (List.mem_of_getElem? (i := 72) rfl))) (mvT hZ (hw _ (List.mem_of_getElem? (i := 2) rfl))) (mvT hZ (hw _ (List.mem_of_getElem? (i := 73) rfl))) (by decide) (backOf (W := 1) (rm12 l Z a0 hw [] c0 (0 : Int32) T17.heap n0 Z17) hZ (hw _ (List.mem_of_getElem? (i := 73) rfl)) (hw _ (List.mem_of_getElem? (i := 2) rfl)) (by decide) (by decide)) (g := (mkF m 193 #[.val (.int q1), .val (.int q2), .val (.int q3), .val (.int c0), .val (.int c1), .val (.int c2), .val (.ref b4), .val (.int (Int32.ofNat (((0 + sz c0) + sz c1) + sz c2))), .val (.ref b8), .val (.int (1 : Int32)), .val (.int c2), .unset, .unset] [(.int (0 : Int32)), (.int c0), (.int (1 : Int32))])) rfl (by rw [hml]; rfl) (argsL := [(.int c0), (.int (0 : Int32))]) (rest := [(.int (1 : Int32))]) (lenOf pd0_4 rfl) rfl (by show 2 * 0 + _ ≤ _; exact Nat.le_of_eq rfl) (hb hby at_193) (fun _ _ => ⟨rfl, rfl, (by decide : 3 + 0 ≤ _), (by decide : 529 + 0 ≤ _)⟩)
  dsimp only [Pt.U, Pt.locs, Pt.cells, Pt.slots] at X18 l18 y18 z18 st18 hQ18
  subst l18 y18 z18
  obtain ⟨rfl, Nq18, e18⟩ := hQ18
  have N18 := Fr.app N17 Nq18
  obtain ⟨lo18, X18, N18⟩ : ∃ L, Stand p l e room_1 s m #[(.int q1), (.int q2), (.int q3)] below meth c T18 L 3 529 ∧ Fr n0 L := ⟨_, X18, N18⟩
  refine OGo.st (fun t k => st18 t k) ?_
  show OGo p e below _ (T18.setTop (mkF m 196 #[.val (.int q1), .val (.int q2), .val (.int q3), .val (.int c0), .val (.int c1), .val (.int c2), .val (.ref b4), .val (.int (Int32.ofNat (((0 + sz c0) + sz c1) + sz c2))), .val (.ref b8), .val (.int (1 : Int32)), .val (.int c2), .unset, .unset] [(.int (f12 c0 (0 : Int32))), (.int (1 : Int32))]))
  refine OGo.st (fun t k => XS.iadd X18.here hx rfl (hb hby at_196) rfl k) ?_
  show OGo p e below _ (T18.setTop (mkF m 197 #[.val (.int q1), .val (.int q2), .val (.int q3), .val (.int c0), .val (.int c1), .val (.int c2), .val (.ref b4), .val (.int (Int32.ofNat (((0 + sz c0) + sz c1) + sz c2))), .val (.ref b8), .val (.int (1 : Int32)), .val (.int c2), .unset, .unset] [(.int ((1 : Int32) + (f12 c0 (0 : Int32))))]))
  refine OGo.st (fun t k => XS.iload X18.here hx rfl (hb hby at_197) rfl k) ?_
  show OGo p e below _ (T18.setTop (mkF m 199 #[.val (.int q1), .val (.int q2), .val (.int q3), .val (.int c0), .val (.int c1), .val (.int c2), .val (.ref b4), .val (.int (Int32.ofNat (((0 + sz c0) + sz c1) + sz c2))), .val (.ref b8), .val (.int (1 : Int32)), .val (.int c2), .unset, .unset] [(.int c1), (.int ((1 : Int32) + (f12 c0 (0 : Int32))))]))
  refine OGo.st (fun t k => XS.iloadN X18.here hx rfl (hb hby at_199) rfl k) ?_
  show OGo p e below _ (T18.setTop (mkF m 200 #[.val (.int q1), .val (.int q2), .val (.int q3), .val (.int c0), .val (.int c1), .val (.int c2), .val (.ref b4), .val (.int (Int32.ofNat (((0 + sz c0) + sz c1) + sz c2))), .val (.ref b8), .val (.int (1 : Int32)), .val (.int c2), .unset, .unset] [(.int c0), (.int c1), (.int ((1 : Int32) + (f12 c0 (0 : Int32))))]))
  refine OGo.st (fun t k => XS.bipush X18.here hx rfl (hb hby at_200) k) ?_
  show OGo p e below _ (T18.setTop (mkF m 202 #[.val (.int q1), .val (.int q2), .val (.int q3), .val (.int c0), .val (.int c1), .val (.int c2), .val (.ref b4), .val (.int (Int32.ofNat (((0 + sz c0) + sz c1) + sz c2))), .val (.ref b8), .val (.int (1 : Int32)), .val (.int c2), .unset, .unset] [(.int (13 : Int32)), (.int c0), (.int c1), (.int ((1 : Int32) + (f12 c0 (0 : Int32))))]))
  refine OGo.st (B := T18.setTop (mkF m 210 #[.val (.int q1), .val (.int q2), .val (.int q3), .val (.int c0), .val (.int c1), .val (.int c2), .val (.ref b4), .val (.int (Int32.ofNat (((0 + sz c0) + sz c1) + sz c2))), .val (.ref b8), .val (.int (1 : Int32)), .val (.int c2), .unset, .unset] [(.int (if c0 = (13 : Int32) then (1 : Int32) else (0 : Int32))), (.int c1), (.int ((1 : Int32) + (f12 c0 (0 : Int32))))])) (fun t kt => ?_) ?_
  · show Steps p.tables e below (T18.setTop (mkF m 202 #[.val (.int q1), .val (.int q2), .val (.int q3), .val (.int c0), .val (.int c1), .val (.int c2), .val (.ref b4), .val (.int (Int32.ofNat (((0 + sz c0) + sz c1) + sz c2))), .val (.ref b8), .val (.int (1 : Int32)), .val (.int c2), .unset, .unset] [(.int (13 : Int32)), (.int c0), (.int c1), (.int ((1 : Int32) + (f12 c0 (0 : Int32))))])) t
    by_cases hc202_19 : c0 = (13 : Int32)
    · rw [if_pos hc202_19] at kt
      refine XS.icmpNo X18.here hx rfl (hb hby at_202) rfl (teq hc202_19).2 ?_
      show Steps p.tables e below (T18.setTop (mkF m 205 #[.val (.int q1), .val (.int q2), .val (.int q3), .val (.int c0), .val (.int c1), .val (.int c2), .val (.ref b4), .val (.int (Int32.ofNat (((0 + sz c0) + sz c1) + sz c2))), .val (.ref b8), .val (.int (1 : Int32)), .val (.int c2), .unset, .unset] [(.int c1), (.int ((1 : Int32) + (f12 c0 (0 : Int32))))])) t
      refine XS.iconst X18.here hx rfl (hb hby at_205) ?_
      show Steps p.tables e below (T18.setTop (mkF m 206 #[.val (.int q1), .val (.int q2), .val (.int q3), .val (.int c0), .val (.int c1), .val (.int c2), .val (.ref b4), .val (.int (Int32.ofNat (((0 + sz c0) + sz c1) + sz c2))), .val (.ref b8), .val (.int (1 : Int32)), .val (.int c2), .unset, .unset] [(.int (1 : Int32)), (.int c1), (.int ((1 : Int32) + (f12 c0 (0 : Int32))))])) t
      refine XS.goto X18.here hx rfl (pc0 := 206) (pc' := 210) rfl (hb hby at_206) (by decide) (by decide) ?_
      show Steps p.tables e below (T18.setTop (mkF m 210 #[.val (.int q1), .val (.int q2), .val (.int q3), .val (.int c0), .val (.int c1), .val (.int c2), .val (.ref b4), .val (.int (Int32.ofNat (((0 + sz c0) + sz c1) + sz c2))), .val (.ref b8), .val (.int (1 : Int32)), .val (.int c2), .unset, .unset] [(.int (1 : Int32)), (.int c1), (.int ((1 : Int32) + (f12 c0 (0 : Int32))))])) t
      exact kt
    · rw [if_neg hc202_19] at kt
      refine XS.icmpYes X18.here hx rfl (pc0 := 202) (pc' := 209) rfl (hb hby at_202) rfl (feq hc202_19).2 (by decide) (by decide) ?_
      show Steps p.tables e below (T18.setTop (mkF m 209 #[.val (.int q1), .val (.int q2), .val (.int q3), .val (.int c0), .val (.int c1), .val (.int c2), .val (.ref b4), .val (.int (Int32.ofNat (((0 + sz c0) + sz c1) + sz c2))), .val (.ref b8), .val (.int (1 : Int32)), .val (.int c2), .unset, .unset] [(.int c1), (.int ((1 : Int32) + (f12 c0 (0 : Int32))))])) t
      refine XS.iconst X18.here hx rfl (hb hby at_209) ?_
      show Steps p.tables e below (T18.setTop (mkF m 210 #[.val (.int q1), .val (.int q2), .val (.int q3), .val (.int c0), .val (.int c1), .val (.int c2), .val (.ref b4), .val (.int (Int32.ofNat (((0 + sz c0) + sz c1) + sz c2))), .val (.ref b8), .val (.int (1 : Int32)), .val (.int c2), .unset, .unset] [(.int (0 : Int32)), (.int c1), (.int ((1 : Int32) + (f12 c0 (0 : Int32))))])) t
      exact kt
  obtain ⟨_, _, ⟨T20, L20, k20, n20⟩, -, X20, ⟨Lc20, hQ20, l20, y20, z20⟩, st20⟩ := Jvm.LawKit.callS X18 hx (y := (⟨"com/example/triadne/triadne/Utf8InputAdvancePinLaw", "breaks", "(IZ)I"⟩ : MethodName)) hown (mvT hZ (hw _ (List.mem_of_getElem? (i := 71) rfl))) (mvT hZ (hw _ (List.mem_of_getElem? (i := 72) rfl))) (mvT hZ (hw _ (List.mem_of_getElem? (i := 2) rfl))) (mvT hZ (hw _ (List.mem_of_getElem? (i := 73) rfl))) (by decide) (backOf (W := 1) (rm12 l Z a0 hw [] c1 (if c0 = (13 : Int32) then (1 : Int32) else (0 : Int32)) T17.heap n0 Z17) hZ (hw _ (List.mem_of_getElem? (i := 73) rfl)) (hw _ (List.mem_of_getElem? (i := 2) rfl)) (by decide) (by decide)) (g := (mkF m 210 #[.val (.int q1), .val (.int q2), .val (.int q3), .val (.int c0), .val (.int c1), .val (.int c2), .val (.ref b4), .val (.int (Int32.ofNat (((0 + sz c0) + sz c1) + sz c2))), .val (.ref b8), .val (.int (1 : Int32)), .val (.int c2), .unset, .unset] [(.int (if c0 = (13 : Int32) then (1 : Int32) else (0 : Int32))), (.int c1), (.int ((1 : Int32) + (f12 c0 (0 : Int32))))])) rfl (by rw [hml]; rfl) (argsL := [(.int c1), (.int (if c0 = (13 : Int32) then (1 : Int32) else (0 : Int32)))]) (rest := [(.int ((1 : Int32) + (f12 c0 (0 : Int32))))]) (lenOf pd0_4 rfl) rfl (by show 2 * 0 + _ ≤ _; exact Nat.le_of_eq rfl) (hb hby at_210) (fun _ _ => ⟨rfl, e18, (by decide : 3 + 0 ≤ _), (by decide : 529 + 0 ≤ _)⟩)
  dsimp only [Pt.U, Pt.locs, Pt.cells, Pt.slots] at X20 l20 y20 z20 st20 hQ20
  subst l20 y20 z20
  obtain ⟨rfl, Nq20, e20⟩ := hQ20
  have N20 := Fr.app N18 Nq20
  obtain ⟨lo20, X20, N20⟩ : ∃ L, Stand p l e room_1 s m #[(.int q1), (.int q2), (.int q3)] below meth c T20 L 3 529 ∧ Fr n0 L := ⟨_, X20, N20⟩
  refine OGo.st (fun t k => st20 t k) ?_
  show OGo p e below _ (T20.setTop (mkF m 213 #[.val (.int q1), .val (.int q2), .val (.int q3), .val (.int c0), .val (.int c1), .val (.int c2), .val (.ref b4), .val (.int (Int32.ofNat (((0 + sz c0) + sz c1) + sz c2))), .val (.ref b8), .val (.int (1 : Int32)), .val (.int c2), .unset, .unset] [(.int (f12 c1 (if c0 = (13 : Int32) then (1 : Int32) else (0 : Int32)))), (.int ((1 : Int32) + (f12 c0 (0 : Int32))))]))
  refine OGo.st (fun t k => XS.iadd X20.here hx rfl (hb hby at_213) rfl k) ?_
  show OGo p e below _ (T20.setTop (mkF m 214 #[.val (.int q1), .val (.int q2), .val (.int q3), .val (.int c0), .val (.int c1), .val (.int c2), .val (.ref b4), .val (.int (Int32.ofNat (((0 + sz c0) + sz c1) + sz c2))), .val (.ref b8), .val (.int (1 : Int32)), .val (.int c2), .unset, .unset] [(.int (((1 : Int32) + (f12 c0 (0 : Int32))) + (f12 c1 (if c0 = (13 : Int32) then (1 : Int32) else (0 : Int32)))))]))
  refine OGo.st (fun t k => XS.iload X20.here hx rfl (hb hby at_214) rfl k) ?_
  show OGo p e below _ (T20.setTop (mkF m 216 #[.val (.int q1), .val (.int q2), .val (.int q3), .val (.int c0), .val (.int c1), .val (.int c2), .val (.ref b4), .val (.int (Int32.ofNat (((0 + sz c0) + sz c1) + sz c2))), .val (.ref b8), .val (.int (1 : Int32)), .val (.int c2), .unset, .unset] [(.int c2), (.int (((1 : Int32) + (f12 c0 (0 : Int32))) + (f12 c1 (if c0 = (13 : Int32) then (1 : Int32) else (0 : Int32)))))]))
  refine OGo.st (fun t k => XS.iload X20.here hx rfl (hb hby at_216) rfl k) ?_
  show OGo p e below _ (T20.setTop (mkF m 218 #[.val (.int q1), .val (.int q2), .val (.int q3), .val (.int c0), .val (.int c1), .val (.int c2), .val (.ref b4), .val (.int (Int32.ofNat (((0 + sz c0) + sz c1) + sz c2))), .val (.ref b8), .val (.int (1 : Int32)), .val (.int c2), .unset, .unset] [(.int c1), (.int c2), (.int (((1 : Int32) + (f12 c0 (0 : Int32))) + (f12 c1 (if c0 = (13 : Int32) then (1 : Int32) else (0 : Int32)))))]))
  refine OGo.st (fun t k => XS.bipush X20.here hx rfl (hb hby at_218) k) ?_
  show OGo p e below _ (T20.setTop (mkF m 220 #[.val (.int q1), .val (.int q2), .val (.int q3), .val (.int c0), .val (.int c1), .val (.int c2), .val (.ref b4), .val (.int (Int32.ofNat (((0 + sz c0) + sz c1) + sz c2))), .val (.ref b8), .val (.int (1 : Int32)), .val (.int c2), .unset, .unset] [(.int (13 : Int32)), (.int c1), (.int c2), (.int (((1 : Int32) + (f12 c0 (0 : Int32))) + (f12 c1 (if c0 = (13 : Int32) then (1 : Int32) else (0 : Int32)))))]))
  refine OGo.st (B := T20.setTop (mkF m 228 #[.val (.int q1), .val (.int q2), .val (.int q3), .val (.int c0), .val (.int c1), .val (.int c2), .val (.ref b4), .val (.int (Int32.ofNat (((0 + sz c0) + sz c1) + sz c2))), .val (.ref b8), .val (.int (1 : Int32)), .val (.int c2), .unset, .unset] [(.int (if c1 = (13 : Int32) then (1 : Int32) else (0 : Int32))), (.int c2), (.int (((1 : Int32) + (f12 c0 (0 : Int32))) + (f12 c1 (if c0 = (13 : Int32) then (1 : Int32) else (0 : Int32)))))])) (fun t kt => ?_) ?_
  · show Steps p.tables e below (T20.setTop (mkF m 220 #[.val (.int q1), .val (.int q2), .val (.int q3), .val (.int c0), .val (.int c1), .val (.int c2), .val (.ref b4), .val (.int (Int32.ofNat (((0 + sz c0) + sz c1) + sz c2))), .val (.ref b8), .val (.int (1 : Int32)), .val (.int c2), .unset, .unset] [(.int (13 : Int32)), (.int c1), (.int c2), (.int (((1 : Int32) + (f12 c0 (0 : Int32))) + (f12 c1 (if c0 = (13 : Int32) then (1 : Int32) else (0 : Int32)))))])) t
    by_cases hc220_21 : c1 = (13 : Int32)
    · rw [if_pos hc220_21] at kt
      refine XS.icmpNo X20.here hx rfl (hb hby at_220) rfl (teq hc220_21).2 ?_
      show Steps p.tables e below (T20.setTop (mkF m 223 #[.val (.int q1), .val (.int q2), .val (.int q3), .val (.int c0), .val (.int c1), .val (.int c2), .val (.ref b4), .val (.int (Int32.ofNat (((0 + sz c0) + sz c1) + sz c2))), .val (.ref b8), .val (.int (1 : Int32)), .val (.int c2), .unset, .unset] [(.int c2), (.int (((1 : Int32) + (f12 c0 (0 : Int32))) + (f12 c1 (if c0 = (13 : Int32) then (1 : Int32) else (0 : Int32)))))])) t
      refine XS.iconst X20.here hx rfl (hb hby at_223) ?_
      show Steps p.tables e below (T20.setTop (mkF m 224 #[.val (.int q1), .val (.int q2), .val (.int q3), .val (.int c0), .val (.int c1), .val (.int c2), .val (.ref b4), .val (.int (Int32.ofNat (((0 + sz c0) + sz c1) + sz c2))), .val (.ref b8), .val (.int (1 : Int32)), .val (.int c2), .unset, .unset] [(.int (1 : Int32)), (.int c2), (.int (((1 : Int32) + (f12 c0 (0 : Int32))) + (f12 c1 (if c0 = (13 : Int32) then (1 : Int32) else (0 : Int32)))))])) t
      refine XS.goto X20.here hx rfl (pc0 := 224) (pc' := 228) rfl (hb hby at_224) (by decide) (by decide) ?_
      show Steps p.tables e below (T20.setTop (mkF m 228 #[.val (.int q1), .val (.int q2), .val (.int q3), .val (.int c0), .val (.int c1), .val (.int c2), .val (.ref b4), .val (.int (Int32.ofNat (((0 + sz c0) + sz c1) + sz c2))), .val (.ref b8), .val (.int (1 : Int32)), .val (.int c2), .unset, .unset] [(.int (1 : Int32)), (.int c2), (.int (((1 : Int32) + (f12 c0 (0 : Int32))) + (f12 c1 (if c0 = (13 : Int32) then (1 : Int32) else (0 : Int32)))))])) t
      exact kt
    · rw [if_neg hc220_21] at kt
      refine XS.icmpYes X20.here hx rfl (pc0 := 220) (pc' := 227) rfl (hb hby at_220) rfl (feq hc220_21).2 (by decide) (by decide) ?_
      show Steps p.tables e below (T20.setTop (mkF m 227 #[.val (.int q1), .val (.int q2), .val (.int q3), .val (.int c0), .val (.int c1), .val (.int c2), .val (.ref b4), .val (.int (Int32.ofNat (((0 + sz c0) + sz c1) + sz c2))), .val (.ref b8), .val (.int (1 : Int32)), .val (.int c2), .unset, .unset] [(.int c2), (.int (((1 : Int32) + (f12 c0 (0 : Int32))) + (f12 c1 (if c0 = (13 : Int32) then (1 : Int32) else (0 : Int32)))))])) t
      refine XS.iconst X20.here hx rfl (hb hby at_227) ?_
      show Steps p.tables e below (T20.setTop (mkF m 228 #[.val (.int q1), .val (.int q2), .val (.int q3), .val (.int c0), .val (.int c1), .val (.int c2), .val (.ref b4), .val (.int (Int32.ofNat (((0 + sz c0) + sz c1) + sz c2))), .val (.ref b8), .val (.int (1 : Int32)), .val (.int c2), .unset, .unset] [(.int (0 : Int32)), (.int c2), (.int (((1 : Int32) + (f12 c0 (0 : Int32))) + (f12 c1 (if c0 = (13 : Int32) then (1 : Int32) else (0 : Int32)))))])) t
      exact kt
  obtain ⟨_, _, ⟨T22, L22, k22, n22⟩, -, X22, ⟨Lc22, hQ22, l22, y22, z22⟩, st22⟩ := Jvm.LawKit.callS X20 hx (y := (⟨"com/example/triadne/triadne/Utf8InputAdvancePinLaw", "breaks", "(IZ)I"⟩ : MethodName)) hown (mvT hZ (hw _ (List.mem_of_getElem? (i := 71) rfl))) (mvT hZ (hw _ (List.mem_of_getElem? (i := 72) rfl))) (mvT hZ (hw _ (List.mem_of_getElem? (i := 2) rfl))) (mvT hZ (hw _ (List.mem_of_getElem? (i := 73) rfl))) (by decide) (backOf (W := 1) (rm12 l Z a0 hw [] c2 (if c1 = (13 : Int32) then (1 : Int32) else (0 : Int32)) T17.heap n0 Z17) hZ (hw _ (List.mem_of_getElem? (i := 73) rfl)) (hw _ (List.mem_of_getElem? (i := 2) rfl)) (by decide) (by decide)) (g := (mkF m 228 #[.val (.int q1), .val (.int q2), .val (.int q3), .val (.int c0), .val (.int c1), .val (.int c2), .val (.ref b4), .val (.int (Int32.ofNat (((0 + sz c0) + sz c1) + sz c2))), .val (.ref b8), .val (.int (1 : Int32)), .val (.int c2), .unset, .unset] [(.int (if c1 = (13 : Int32) then (1 : Int32) else (0 : Int32))), (.int c2), (.int (((1 : Int32) + (f12 c0 (0 : Int32))) + (f12 c1 (if c0 = (13 : Int32) then (1 : Int32) else (0 : Int32)))))])) rfl (by rw [hml]; rfl) (argsL := [(.int c2), (.int (if c1 = (13 : Int32) then (1 : Int32) else (0 : Int32)))]) (rest := [(.int (((1 : Int32) + (f12 c0 (0 : Int32))) + (f12 c1 (if c0 = (13 : Int32) then (1 : Int32) else (0 : Int32)))))]) (lenOf pd0_4 rfl) rfl (by show 2 * 0 + _ ≤ _; exact Nat.le_of_eq rfl) (hb hby at_228) (fun _ _ => ⟨rfl, e20, (by decide : 3 + 0 ≤ _), (by decide : 529 + 0 ≤ _)⟩)
  dsimp only [Pt.U, Pt.locs, Pt.cells, Pt.slots] at X22 l22 y22 z22 st22 hQ22
  subst l22 y22 z22
  obtain ⟨rfl, Nq22, e22⟩ := hQ22
  have N22 := Fr.app N20 Nq22
  obtain ⟨lo22, X22, N22⟩ : ∃ L, Stand p l e room_1 s m #[(.int q1), (.int q2), (.int q3)] below meth c T22 L 3 529 ∧ Fr n0 L := ⟨_, X22, N22⟩
  refine OGo.st (fun t k => st22 t k) ?_
  show OGo p e below _ (T22.setTop (mkF m 231 #[.val (.int q1), .val (.int q2), .val (.int q3), .val (.int c0), .val (.int c1), .val (.int c2), .val (.ref b4), .val (.int (Int32.ofNat (((0 + sz c0) + sz c1) + sz c2))), .val (.ref b8), .val (.int (1 : Int32)), .val (.int c2), .unset, .unset] [(.int (f12 c2 (if c1 = (13 : Int32) then (1 : Int32) else (0 : Int32)))), (.int (((1 : Int32) + (f12 c0 (0 : Int32))) + (f12 c1 (if c0 = (13 : Int32) then (1 : Int32) else (0 : Int32)))))]))
  refine OGo.st (fun t k => XS.iadd X22.here hx rfl (hb hby at_231) rfl k) ?_
  show OGo p e below _ (T22.setTop (mkF m 232 #[.val (.int q1), .val (.int q2), .val (.int q3), .val (.int c0), .val (.int c1), .val (.int c2), .val (.ref b4), .val (.int (Int32.ofNat (((0 + sz c0) + sz c1) + sz c2))), .val (.ref b8), .val (.int (1 : Int32)), .val (.int c2), .unset, .unset] [(.int ((((1 : Int32) + (f12 c0 (0 : Int32))) + (f12 c1 (if c0 = (13 : Int32) then (1 : Int32) else (0 : Int32)))) + (f12 c2 (if c1 = (13 : Int32) then (1 : Int32) else (0 : Int32)))))]))
  refine OGo.st (fun t k => XS.istore X22.here hx rfl (hb hby at_232) rfl (l' := #[.val (.int q1), .val (.int q2), .val (.int q3), .val (.int c0), .val (.int c1), .val (.int c2), .val (.ref b4), .val (.int (Int32.ofNat (((0 + sz c0) + sz c1) + sz c2))), .val (.ref b8), .val (.int (1 : Int32)), .val (.int c2), .val (.int ((((1 : Int32) + (f12 c0 (0 : Int32))) + (f12 c1 (if c0 = (13 : Int32) then (1 : Int32) else (0 : Int32)))) + (f12 c2 (if c1 = (13 : Int32) then (1 : Int32) else (0 : Int32))))), .unset]) rfl k) ?_
  show OGo p e below _ (T22.setTop (mkF m 234 #[.val (.int q1), .val (.int q2), .val (.int q3), .val (.int c0), .val (.int c1), .val (.int c2), .val (.ref b4), .val (.int (Int32.ofNat (((0 + sz c0) + sz c1) + sz c2))), .val (.ref b8), .val (.int (1 : Int32)), .val (.int c2), .val (.int ((((1 : Int32) + (f12 c0 (0 : Int32))) + (f12 c1 (if c0 = (13 : Int32) then (1 : Int32) else (0 : Int32)))) + (f12 c2 (if c1 = (13 : Int32) then (1 : Int32) else (0 : Int32))))), .unset] []))
  refine OGo.st (fun t k => XS.iload X22.here hx rfl (hb hby at_234) rfl k) ?_
  show OGo p e below _ (T22.setTop (mkF m 236 #[.val (.int q1), .val (.int q2), .val (.int q3), .val (.int c0), .val (.int c1), .val (.int c2), .val (.ref b4), .val (.int (Int32.ofNat (((0 + sz c0) + sz c1) + sz c2))), .val (.ref b8), .val (.int (1 : Int32)), .val (.int c2), .val (.int ((((1 : Int32) + (f12 c0 (0 : Int32))) + (f12 c1 (if c0 = (13 : Int32) then (1 : Int32) else (0 : Int32)))) + (f12 c2 (if c1 = (13 : Int32) then (1 : Int32) else (0 : Int32))))), .unset] [(.int c2)]))
  obtain ⟨_, _, ⟨T23, L23, k23, n23⟩, -, X23, ⟨Lc23, hQ23, l23, y23, z23⟩, st23⟩ := Jvm.LawKit.callS X22 hx (y := (⟨"com/example/triadne/triadne/Utf8InputAdvancePinLaw", "isBreak", "(I)Z"⟩ : MethodName)) hown (mvT hZ (hw _ (List.mem_of_getElem? (i := 74) rfl))) (mvT hZ (hw _ (List.mem_of_getElem? (i := 75) rfl))) (mvT hZ (hw _ (List.mem_of_getElem? (i := 2) rfl))) (mvT hZ (hw _ (List.mem_of_getElem? (i := 76) rfl))) (by decide) (backOf (W := 0) (rm13 l Z a0 hw [] c2 T17.heap n0 Z17) hZ (hw _ (List.mem_of_getElem? (i := 76) rfl)) (hw _ (List.mem_of_getElem? (i := 2) rfl)) (by decide) (by decide)) (g := (mkF m 236 #[.val (.int q1), .val (.int q2), .val (.int q3), .val (.int c0), .val (.int c1), .val (.int c2), .val (.ref b4), .val (.int (Int32.ofNat (((0 + sz c0) + sz c1) + sz c2))), .val (.ref b8), .val (.int (1 : Int32)), .val (.int c2), .val (.int ((((1 : Int32) + (f12 c0 (0 : Int32))) + (f12 c1 (if c0 = (13 : Int32) then (1 : Int32) else (0 : Int32)))) + (f12 c2 (if c1 = (13 : Int32) then (1 : Int32) else (0 : Int32))))), .unset] [(.int c2)])) rfl (by rw [hml]; rfl) (argsL := [(.int c2)]) (rest := []) (lenOf pd0_5 rfl) rfl (by show 2 * 0 + _ ≤ _; exact Nat.le_of_eq rfl) (hb hby at_236) (fun _ _ => ⟨rfl, e22, (by decide : 3 + 0 ≤ _), (by decide : 529 + 0 ≤ _)⟩)
  dsimp only [Pt.U, Pt.locs, Pt.cells, Pt.slots] at X23 l23 y23 z23 st23 hQ23
  subst l23 y23 z23
  obtain ⟨rfl, Nq23, e23⟩ := hQ23
  have N23 := Fr.app N22 Nq23
  obtain ⟨lo23, X23, N23⟩ : ∃ L, Stand p l e room_1 s m #[(.int q1), (.int q2), (.int q3)] below meth c T23 L 3 529 ∧ Fr n0 L := ⟨_, X23, N23⟩
  refine OGo.st (fun t k => st23 t k) ?_
  show OGo p e below _ (T23.setTop (mkF m 239 #[.val (.int q1), .val (.int q2), .val (.int q3), .val (.int c0), .val (.int c1), .val (.int c2), .val (.ref b4), .val (.int (Int32.ofNat (((0 + sz c0) + sz c1) + sz c2))), .val (.ref b8), .val (.int (1 : Int32)), .val (.int c2), .val (.int ((((1 : Int32) + (f12 c0 (0 : Int32))) + (f12 c1 (if c0 = (13 : Int32) then (1 : Int32) else (0 : Int32)))) + (f12 c2 (if c1 = (13 : Int32) then (1 : Int32) else (0 : Int32))))), .unset] [(.int (f13 c2))]))
  by_cases hc239_24 : (f13 c2) = (0 : Int32)
  · refine OGo.st (fun t k => XS.ifYes X23.here hx rfl (pc0 := 239) (pc' := 246) rfl (hb hby at_239) rfl ((if0 _ _).trans (teq hc239_24).1) (by decide) (by decide) k) ?_
    show OGo p e below _ (T23.setTop (mkF m 246 #[.val (.int q1), .val (.int q2), .val (.int q3), .val (.int c0), .val (.int c1), .val (.int c2), .val (.ref b4), .val (.int (Int32.ofNat (((0 + sz c0) + sz c1) + sz c2))), .val (.ref b8), .val (.int (1 : Int32)), .val (.int c2), .val (.int ((((1 : Int32) + (f12 c0 (0 : Int32))) + (f12 c1 (if c0 = (13 : Int32) then (1 : Int32) else (0 : Int32)))) + (f12 c2 (if c1 = (13 : Int32) then (1 : Int32) else (0 : Int32))))), .unset] []))
    refine OGo.st (fun t k => XS.iload X23.here hx rfl (hb hby at_246) rfl k) ?_
    show OGo p e below _ (T23.setTop (mkF m 248 #[.val (.int q1), .val (.int q2), .val (.int q3), .val (.int c0), .val (.int c1), .val (.int c2), .val (.ref b4), .val (.int (Int32.ofNat (((0 + sz c0) + sz c1) + sz c2))), .val (.ref b8), .val (.int (1 : Int32)), .val (.int c2), .val (.int ((((1 : Int32) + (f12 c0 (0 : Int32))) + (f12 c1 (if c0 = (13 : Int32) then (1 : Int32) else (0 : Int32)))) + (f12 c2 (if c1 = (13 : Int32) then (1 : Int32) else (0 : Int32))))), .unset] [(.int c1)]))
    obtain ⟨_, _, ⟨T25, L25, k25, n25⟩, -, X25, ⟨Lc25, hQ25, l25, y25, z25⟩, st25⟩ := Jvm.LawKit.callS X23 hx (y := (⟨"com/example/triadne/triadne/Utf8InputAdvancePinLaw", "isBreak", "(I)Z"⟩ : MethodName)) hown (mvT hZ (hw _ (List.mem_of_getElem? (i := 74) rfl))) (mvT hZ (hw _ (List.mem_of_getElem? (i := 75) rfl))) (mvT hZ (hw _ (List.mem_of_getElem? (i := 2) rfl))) (mvT hZ (hw _ (List.mem_of_getElem? (i := 76) rfl))) (by decide) (backOf (W := 0) (rm13 l Z a0 hw [] c1 T17.heap n0 Z17) hZ (hw _ (List.mem_of_getElem? (i := 76) rfl)) (hw _ (List.mem_of_getElem? (i := 2) rfl)) (by decide) (by decide)) (g := (mkF m 248 #[.val (.int q1), .val (.int q2), .val (.int q3), .val (.int c0), .val (.int c1), .val (.int c2), .val (.ref b4), .val (.int (Int32.ofNat (((0 + sz c0) + sz c1) + sz c2))), .val (.ref b8), .val (.int (1 : Int32)), .val (.int c2), .val (.int ((((1 : Int32) + (f12 c0 (0 : Int32))) + (f12 c1 (if c0 = (13 : Int32) then (1 : Int32) else (0 : Int32)))) + (f12 c2 (if c1 = (13 : Int32) then (1 : Int32) else (0 : Int32))))), .unset] [(.int c1)])) rfl (by rw [hml]; rfl) (argsL := [(.int c1)]) (rest := []) (lenOf pd0_5 rfl) rfl (by show 2 * 0 + _ ≤ _; exact Nat.le_of_eq rfl) (hb hby at_248) (fun _ _ => ⟨rfl, e23, (by decide : 3 + 0 ≤ _), (by decide : 529 + 0 ≤ _)⟩)
    dsimp only [Pt.U, Pt.locs, Pt.cells, Pt.slots] at X25 l25 y25 z25 st25 hQ25
    subst l25 y25 z25
    obtain ⟨rfl, Nq25, e25⟩ := hQ25
    have N25 := Fr.app N23 Nq25
    obtain ⟨lo25, X25, N25⟩ : ∃ L, Stand p l e room_1 s m #[(.int q1), (.int q2), (.int q3)] below meth c T25 L 3 529 ∧ Fr n0 L := ⟨_, X25, N25⟩
    refine OGo.st (fun t k => st25 t k) ?_
    show OGo p e below _ (T25.setTop (mkF m 251 #[.val (.int q1), .val (.int q2), .val (.int q3), .val (.int c0), .val (.int c1), .val (.int c2), .val (.ref b4), .val (.int (Int32.ofNat (((0 + sz c0) + sz c1) + sz c2))), .val (.ref b8), .val (.int (1 : Int32)), .val (.int c2), .val (.int ((((1 : Int32) + (f12 c0 (0 : Int32))) + (f12 c1 (if c0 = (13 : Int32) then (1 : Int32) else (0 : Int32)))) + (f12 c2 (if c1 = (13 : Int32) then (1 : Int32) else (0 : Int32))))), .unset] [(.int (f13 c1))]))
    by_cases hc251_26 : (f13 c1) = (0 : Int32)
    · refine OGo.st (fun t k => XS.ifYes X25.here hx rfl (pc0 := 251) (pc' := 258) rfl (hb hby at_251) rfl ((if0 _ _).trans (teq hc251_26).1) (by decide) (by decide) k) ?_
      show OGo p e below _ (T25.setTop (mkF m 258 #[.val (.int q1), .val (.int q2), .val (.int q3), .val (.int c0), .val (.int c1), .val (.int c2), .val (.ref b4), .val (.int (Int32.ofNat (((0 + sz c0) + sz c1) + sz c2))), .val (.ref b8), .val (.int (1 : Int32)), .val (.int c2), .val (.int ((((1 : Int32) + (f12 c0 (0 : Int32))) + (f12 c1 (if c0 = (13 : Int32) then (1 : Int32) else (0 : Int32)))) + (f12 c2 (if c1 = (13 : Int32) then (1 : Int32) else (0 : Int32))))), .unset] []))
      refine OGo.st (fun t k => XS.iloadN X25.here hx rfl (hb hby at_258) rfl k) ?_
      show OGo p e below _ (T25.setTop (mkF m 259 #[.val (.int q1), .val (.int q2), .val (.int q3), .val (.int c0), .val (.int c1), .val (.int c2), .val (.ref b4), .val (.int (Int32.ofNat (((0 + sz c0) + sz c1) + sz c2))), .val (.ref b8), .val (.int (1 : Int32)), .val (.int c2), .val (.int ((((1 : Int32) + (f12 c0 (0 : Int32))) + (f12 c1 (if c0 = (13 : Int32) then (1 : Int32) else (0 : Int32)))) + (f12 c2 (if c1 = (13 : Int32) then (1 : Int32) else (0 : Int32))))), .unset] [(.int c0)]))
      obtain ⟨_, _, ⟨T27, L27, k27, n27⟩, -, X27, ⟨Lc27, hQ27, l27, y27, z27⟩, st27⟩ := Jvm.LawKit.callS X25 hx (y := (⟨"com/example/triadne/triadne/Utf8InputAdvancePinLaw", "isBreak", "(I)Z"⟩ : MethodName)) hown (mvT hZ (hw _ (List.mem_of_getElem? (i := 74) rfl))) (mvT hZ (hw _ (List.mem_of_getElem? (i := 75) rfl))) (mvT hZ (hw _ (List.mem_of_getElem? (i := 2) rfl))) (mvT hZ (hw _ (List.mem_of_getElem? (i := 76) rfl))) (by decide) (backOf (W := 0) (rm13 l Z a0 hw [] c0 T17.heap n0 Z17) hZ (hw _ (List.mem_of_getElem? (i := 76) rfl)) (hw _ (List.mem_of_getElem? (i := 2) rfl)) (by decide) (by decide)) (g := (mkF m 259 #[.val (.int q1), .val (.int q2), .val (.int q3), .val (.int c0), .val (.int c1), .val (.int c2), .val (.ref b4), .val (.int (Int32.ofNat (((0 + sz c0) + sz c1) + sz c2))), .val (.ref b8), .val (.int (1 : Int32)), .val (.int c2), .val (.int ((((1 : Int32) + (f12 c0 (0 : Int32))) + (f12 c1 (if c0 = (13 : Int32) then (1 : Int32) else (0 : Int32)))) + (f12 c2 (if c1 = (13 : Int32) then (1 : Int32) else (0 : Int32))))), .unset] [(.int c0)])) rfl (by rw [hml]; rfl) (argsL := [(.int c0)]) (rest := []) (lenOf pd0_5 rfl) rfl (by show 2 * 0 + _ ≤ _; exact Nat.le_of_eq rfl) (hb hby at_259) (fun _ _ => ⟨rfl, e25, (by decide : 3 + 0 ≤ _), (by decide : 529 + 0 ≤ _)⟩)
      dsimp only [Pt.U, Pt.locs, Pt.cells, Pt.slots] at X27 l27 y27 z27 st27 hQ27
      subst l27 y27 z27
      obtain ⟨rfl, Nq27, e27⟩ := hQ27
      have N27 := Fr.app N25 Nq27
      obtain ⟨lo27, X27, N27⟩ : ∃ L, Stand p l e room_1 s m #[(.int q1), (.int q2), (.int q3)] below meth c T27 L 3 529 ∧ Fr n0 L := ⟨_, X27, N27⟩
      refine OGo.st (fun t k => st27 t k) ?_
      show OGo p e below _ (T27.setTop (mkF m 262 #[.val (.int q1), .val (.int q2), .val (.int q3), .val (.int c0), .val (.int c1), .val (.int c2), .val (.ref b4), .val (.int (Int32.ofNat (((0 + sz c0) + sz c1) + sz c2))), .val (.ref b8), .val (.int (1 : Int32)), .val (.int c2), .val (.int ((((1 : Int32) + (f12 c0 (0 : Int32))) + (f12 c1 (if c0 = (13 : Int32) then (1 : Int32) else (0 : Int32)))) + (f12 c2 (if c1 = (13 : Int32) then (1 : Int32) else (0 : Int32))))), .unset] [(.int (f13 c0))]))
      by_cases hc262_28 : (f13 c0) = (0 : Int32)
      · refine OGo.st (fun t k => XS.ifYes X27.here hx rfl (pc0 := 262) (pc' := 269) rfl (hb hby at_262) rfl ((if0 _ _).trans (teq hc262_28).1) (by decide) (by decide) k) ?_
        show OGo p e below _ (T27.setTop (mkF m 269 #[.val (.int q1), .val (.int q2), .val (.int q3), .val (.int c0), .val (.int c1), .val (.int c2), .val (.ref b4), .val (.int (Int32.ofNat (((0 + sz c0) + sz c1) + sz c2))), .val (.ref b8), .val (.int (1 : Int32)), .val (.int c2), .val (.int ((((1 : Int32) + (f12 c0 (0 : Int32))) + (f12 c1 (if c0 = (13 : Int32) then (1 : Int32) else (0 : Int32)))) + (f12 c2 (if c1 = (13 : Int32) then (1 : Int32) else (0 : Int32))))), .unset] []))
        refine OGo.st (fun t k => XS.iconst X27.here hx rfl (hb hby at_269) k) ?_
        show OGo p e below _ (T27.setTop (mkF m 270 #[.val (.int q1), .val (.int q2), .val (.int q3), .val (.int c0), .val (.int c1), .val (.int c2), .val (.ref b4), .val (.int (Int32.ofNat (((0 + sz c0) + sz c1) + sz c2))), .val (.ref b8), .val (.int (1 : Int32)), .val (.int c2), .val (.int ((((1 : Int32) + (f12 c0 (0 : Int32))) + (f12 c1 (if c0 = (13 : Int32) then (1 : Int32) else (0 : Int32)))) + (f12 c2 (if c1 = (13 : Int32) then (1 : Int32) else (0 : Int32))))), .unset] [(.int (4 : Int32))]))
        refine OGo.st (fun t k => XS.istore X27.here hx rfl (hb hby at_270) rfl (l' := #[.val (.int q1), .val (.int q2), .val (.int q3), .val (.int c0), .val (.int c1), .val (.int c2), .val (.ref b4), .val (.int (Int32.ofNat (((0 + sz c0) + sz c1) + sz c2))), .val (.ref b8), .val (.int (1 : Int32)), .val (.int c2), .val (.int ((((1 : Int32) + (f12 c0 (0 : Int32))) + (f12 c1 (if c0 = (13 : Int32) then (1 : Int32) else (0 : Int32)))) + (f12 c2 (if c1 = (13 : Int32) then (1 : Int32) else (0 : Int32))))), .val (.int (4 : Int32))]) rfl k) ?_
        show OGo p e below _ (T27.setTop (mkF m 272 #[.val (.int q1), .val (.int q2), .val (.int q3), .val (.int c0), .val (.int c1), .val (.int c2), .val (.ref b4), .val (.int (Int32.ofNat (((0 + sz c0) + sz c1) + sz c2))), .val (.ref b8), .val (.int (1 : Int32)), .val (.int c2), .val (.int ((((1 : Int32) + (f12 c0 (0 : Int32))) + (f12 c1 (if c0 = (13 : Int32) then (1 : Int32) else (0 : Int32)))) + (f12 c2 (if c1 = (13 : Int32) then (1 : Int32) else (0 : Int32))))), .val (.int (4 : Int32))] []))
        refine OGo.st (fun t k => XS.iload X27.here hx rfl (hb hby at_272) rfl k) ?_
        show OGo p e below _ (T27.setTop (mkF m 274 #[.val (.int q1), .val (.int q2), .val (.int q3), .val (.int c0), .val (.int c1), .val (.int c2), .val (.ref b4), .val (.int (Int32.ofNat (((0 + sz c0) + sz c1) + sz c2))), .val (.ref b8), .val (.int (1 : Int32)), .val (.int c2), .val (.int ((((1 : Int32) + (f12 c0 (0 : Int32))) + (f12 c1 (if c0 = (13 : Int32) then (1 : Int32) else (0 : Int32)))) + (f12 c2 (if c1 = (13 : Int32) then (1 : Int32) else (0 : Int32))))), .val (.int (4 : Int32))] [(.int (1 : Int32))]))
        refine OGo.st (fun t k => XS.ifNo X27.here hx rfl (hb hby at_274) rfl ((if0 _ _).trans (feq (by decide : ¬ ((1 : Int32) = (0 : Int32)))).1) k) ?_
        show OGo p e below _ (T27.setTop (mkF m 277 #[.val (.int q1), .val (.int q2), .val (.int q3), .val (.int c0), .val (.int c1), .val (.int c2), .val (.ref b4), .val (.int (Int32.ofNat (((0 + sz c0) + sz c1) + sz c2))), .val (.ref b8), .val (.int (1 : Int32)), .val (.int c2), .val (.int ((((1 : Int32) + (f12 c0 (0 : Int32))) + (f12 c1 (if c0 = (13 : Int32) then (1 : Int32) else (0 : Int32)))) + (f12 c2 (if c1 = (13 : Int32) then (1 : Int32) else (0 : Int32))))), .val (.int (4 : Int32))] []))
        refine OGo.st (fun t k => XS.aload X27.here hx rfl (hb hby at_277) rfl rfl k) ?_
        show OGo p e below _ (T27.setTop (mkF m 279 #[.val (.int q1), .val (.int q2), .val (.int q3), .val (.int c0), .val (.int c1), .val (.int c2), .val (.ref b4), .val (.int (Int32.ofNat (((0 + sz c0) + sz c1) + sz c2))), .val (.ref b8), .val (.int (1 : Int32)), .val (.int c2), .val (.int ((((1 : Int32) + (f12 c0 (0 : Int32))) + (f12 c1 (if c0 = (13 : Int32) then (1 : Int32) else (0 : Int32)))) + (f12 c2 (if c1 = (13 : Int32) then (1 : Int32) else (0 : Int32))))), .val (.int (4 : Int32))] [(.ref b8)]))
        obtain ⟨cq29, kq29, q29a, q29b, q29c⟩ := isOf hZ e27 E17
        obtain ⟨_, _, ⟨T29, L29, k29, n29⟩, -, X29, ⟨Lc29, hQ29, l29, y29, z29⟩, st29⟩ := X27.virtualBack hx (y := (⟨"com/example/triadne/triadne/Utf8Input", "line", "()I"⟩ : MethodName)) (z := (⟨"com/example/triadne/triadne/Utf8Input", "line", "()I"⟩ : MethodName)) hown (mvT hZ (hw _ (List.mem_of_getElem? (i := 77) rfl))) (mvT hZ (hw _ (List.mem_of_getElem? (i := 78) rfl))) (notFace_of_selects (args := #[]) (mvT hZ (hw _ (List.mem_of_getElem? (i := 80) rfl)))) (mvT hZ (hw _ (List.mem_of_getElem? (i := 80) rfl))) (mvT hZ (hw _ (List.mem_of_getElem? (i := 79) rfl))) (by decide) (backOf (W := 0) (rm14 l Z a0 hw [] b8 b4 wn (putF (putF (putF (fun _ => 0) 0 c0) (0 + sz c0) c1) ((0 + sz c0) + sz c1) c2) (oset (oset (oset (oset (fun _ => 0) 0 c0) (0 + 1) c1) ((0 + 1) + 1) c2) (((0 + 1) + 1) + 1) 0) ((((0 + sz c0) + sz c1) + sz c2) + 1) (((0 + 1) + 1) + 1) ((((0 + 1) + 1) + 1) + 1) (aLn c2 (aCr c1) (aLn c1 (aCr c0) (aLn c0 (0 : Int32) (1 : Int32)))) (aCo c2 (aCo c1 (aCo c0 (1 : Int32)))) (aCr c2) T17.heap n0 Z17 ⟨E17, F17_bytes, F17_byteLimit, F17_bytePosition, F17_window, F17_start, F17_end, F17_line, F17_column, F17_afterCarriageReturn, Ob17, Ow17⟩ (Ne.symm ne_b4_b8) nuw nbw gb8 gwn) hZ (hw _ (List.mem_of_getElem? (i := 81) rfl)) (hw _ (List.mem_of_getElem? (i := 10) rfl)) (by decide) (by decide)) q29a q29c (g := (mkF m 279 #[.val (.int q1), .val (.int q2), .val (.int q3), .val (.int c0), .val (.int c1), .val (.int c2), .val (.ref b4), .val (.int (Int32.ofNat (((0 + sz c0) + sz c1) + sz c2))), .val (.ref b8), .val (.int (1 : Int32)), .val (.int c2), .val (.int ((((1 : Int32) + (f12 c0 (0 : Int32))) + (f12 c1 (if c0 = (13 : Int32) then (1 : Int32) else (0 : Int32)))) + (f12 c2 (if c1 = (13 : Int32) then (1 : Int32) else (0 : Int32))))), .val (.int (4 : Int32))] [(.ref b8)])) rfl (by rw [hml]; rfl) (Steps.refl _) (argsL := []) (rest := []) (lenOf pd0_6 rfl) rfl (by show 2 * 0 + _ ≤ _; exact Nat.le_of_eq rfl) (hb hby at_279) (fun _ _ => ⟨rfl, e27, (by decide : 3 + 0 ≤ _), (by decide : 529 + 0 ≤ _)⟩)
        dsimp only [Pt.U, Pt.locs, Pt.cells, Pt.slots] at X29 l29 y29 z29 st29 hQ29
        subst l29 y29 z29
        obtain ⟨rfl, Nq29, e29⟩ := hQ29
        have N29 := Fr.app N27 Nq29
        obtain ⟨lo29, X29, N29⟩ : ∃ L, Stand p l e room_1 s m #[(.int q1), (.int q2), (.int q3)] below meth c T29 L 3 529 ∧ Fr n0 L := ⟨_, X29, N29⟩
        refine OGo.st (fun t k => st29.trans k) ?_
        show OGo p e below _ (T29.setTop (mkF m 282 #[.val (.int q1), .val (.int q2), .val (.int q3), .val (.int c0), .val (.int c1), .val (.int c2), .val (.ref b4), .val (.int (Int32.ofNat (((0 + sz c0) + sz c1) + sz c2))), .val (.ref b8), .val (.int (1 : Int32)), .val (.int c2), .val (.int ((((1 : Int32) + (f12 c0 (0 : Int32))) + (f12 c1 (if c0 = (13 : Int32) then (1 : Int32) else (0 : Int32)))) + (f12 c2 (if c1 = (13 : Int32) then (1 : Int32) else (0 : Int32))))), .val (.int (4 : Int32))] [(.int (aLn c2 (aCr c1) (aLn c1 (aCr c0) (aLn c0 (0 : Int32) (1 : Int32)))))]))
        refine OGo.st (fun t k => XS.iload X29.here hx rfl (hb hby at_282) rfl k) ?_
        show OGo p e below _ (T29.setTop (mkF m 284 #[.val (.int q1), .val (.int q2), .val (.int q3), .val (.int c0), .val (.int c1), .val (.int c2), .val (.ref b4), .val (.int (Int32.ofNat (((0 + sz c0) + sz c1) + sz c2))), .val (.ref b8), .val (.int (1 : Int32)), .val (.int c2), .val (.int ((((1 : Int32) + (f12 c0 (0 : Int32))) + (f12 c1 (if c0 = (13 : Int32) then (1 : Int32) else (0 : Int32)))) + (f12 c2 (if c1 = (13 : Int32) then (1 : Int32) else (0 : Int32))))), .val (.int (4 : Int32))] [(.int ((((1 : Int32) + (f12 c0 (0 : Int32))) + (f12 c1 (if c0 = (13 : Int32) then (1 : Int32) else (0 : Int32)))) + (f12 c2 (if c1 = (13 : Int32) then (1 : Int32) else (0 : Int32))))), (.int (aLn c2 (aCr c1) (aLn c1 (aCr c0) (aLn c0 (0 : Int32) (1 : Int32)))))]))
        refine OGo.st (fun t k => XS.icmpNo X29.here hx rfl (hb hby at_284) rfl (teq (own_line c0 c1 c2)).2 k) ?_
        show OGo p e below _ (T29.setTop (mkF m 287 #[.val (.int q1), .val (.int q2), .val (.int q3), .val (.int c0), .val (.int c1), .val (.int c2), .val (.ref b4), .val (.int (Int32.ofNat (((0 + sz c0) + sz c1) + sz c2))), .val (.ref b8), .val (.int (1 : Int32)), .val (.int c2), .val (.int ((((1 : Int32) + (f12 c0 (0 : Int32))) + (f12 c1 (if c0 = (13 : Int32) then (1 : Int32) else (0 : Int32)))) + (f12 c2 (if c1 = (13 : Int32) then (1 : Int32) else (0 : Int32))))), .val (.int (4 : Int32))] []))
        refine OGo.st (fun t k => XS.aload X29.here hx rfl (hb hby at_287) rfl rfl k) ?_
        show OGo p e below _ (T29.setTop (mkF m 289 #[.val (.int q1), .val (.int q2), .val (.int q3), .val (.int c0), .val (.int c1), .val (.int c2), .val (.ref b4), .val (.int (Int32.ofNat (((0 + sz c0) + sz c1) + sz c2))), .val (.ref b8), .val (.int (1 : Int32)), .val (.int c2), .val (.int ((((1 : Int32) + (f12 c0 (0 : Int32))) + (f12 c1 (if c0 = (13 : Int32) then (1 : Int32) else (0 : Int32)))) + (f12 c2 (if c1 = (13 : Int32) then (1 : Int32) else (0 : Int32))))), .val (.int (4 : Int32))] [(.ref b8)]))
        obtain ⟨cq30, kq30, q30a, q30b, q30c⟩ := isOf hZ e29 E17
        obtain ⟨_, _, ⟨T30, L30, k30, n30⟩, -, X30, ⟨Lc30, hQ30, l30, y30, z30⟩, st30⟩ := X29.virtualBack hx (y := (⟨"com/example/triadne/triadne/Utf8Input", "column", "()I"⟩ : MethodName)) (z := (⟨"com/example/triadne/triadne/Utf8Input", "column", "()I"⟩ : MethodName)) hown (mvT hZ (hw _ (List.mem_of_getElem? (i := 82) rfl))) (mvT hZ (hw _ (List.mem_of_getElem? (i := 83) rfl))) (notFace_of_selects (args := #[]) (mvT hZ (hw _ (List.mem_of_getElem? (i := 85) rfl)))) (mvT hZ (hw _ (List.mem_of_getElem? (i := 85) rfl))) (mvT hZ (hw _ (List.mem_of_getElem? (i := 84) rfl))) (by decide) (backOf (W := 0) (rm15 l Z a0 hw [] b8 b4 wn (putF (putF (putF (fun _ => 0) 0 c0) (0 + sz c0) c1) ((0 + sz c0) + sz c1) c2) (oset (oset (oset (oset (fun _ => 0) 0 c0) (0 + 1) c1) ((0 + 1) + 1) c2) (((0 + 1) + 1) + 1) 0) ((((0 + sz c0) + sz c1) + sz c2) + 1) (((0 + 1) + 1) + 1) ((((0 + 1) + 1) + 1) + 1) (aLn c2 (aCr c1) (aLn c1 (aCr c0) (aLn c0 (0 : Int32) (1 : Int32)))) (aCo c2 (aCo c1 (aCo c0 (1 : Int32)))) (aCr c2) T17.heap n0 Z17 ⟨E17, F17_bytes, F17_byteLimit, F17_bytePosition, F17_window, F17_start, F17_end, F17_line, F17_column, F17_afterCarriageReturn, Ob17, Ow17⟩ (Ne.symm ne_b4_b8) nuw nbw gb8 gwn) hZ (hw _ (List.mem_of_getElem? (i := 86) rfl)) (hw _ (List.mem_of_getElem? (i := 10) rfl)) (by decide) (by decide)) q30a q30c (g := (mkF m 289 #[.val (.int q1), .val (.int q2), .val (.int q3), .val (.int c0), .val (.int c1), .val (.int c2), .val (.ref b4), .val (.int (Int32.ofNat (((0 + sz c0) + sz c1) + sz c2))), .val (.ref b8), .val (.int (1 : Int32)), .val (.int c2), .val (.int ((((1 : Int32) + (f12 c0 (0 : Int32))) + (f12 c1 (if c0 = (13 : Int32) then (1 : Int32) else (0 : Int32)))) + (f12 c2 (if c1 = (13 : Int32) then (1 : Int32) else (0 : Int32))))), .val (.int (4 : Int32))] [(.ref b8)])) rfl (by rw [hml]; rfl) (Steps.refl _) (argsL := []) (rest := []) (lenOf pd0_6 rfl) rfl (by show 2 * 0 + _ ≤ _; exact Nat.le_of_eq rfl) (hb hby at_289) (fun _ _ => ⟨rfl, e29, (by decide : 3 + 0 ≤ _), (by decide : 529 + 0 ≤ _)⟩)
        dsimp only [Pt.U, Pt.locs, Pt.cells, Pt.slots] at X30 l30 y30 z30 st30 hQ30
        subst l30 y30 z30
        obtain ⟨rfl, Nq30, e30⟩ := hQ30
        have N30 := Fr.app N29 Nq30
        obtain ⟨lo30, X30, N30⟩ : ∃ L, Stand p l e room_1 s m #[(.int q1), (.int q2), (.int q3)] below meth c T30 L 3 529 ∧ Fr n0 L := ⟨_, X30, N30⟩
        refine OGo.st (fun t k => st30.trans k) ?_
        show OGo p e below _ (T30.setTop (mkF m 292 #[.val (.int q1), .val (.int q2), .val (.int q3), .val (.int c0), .val (.int c1), .val (.int c2), .val (.ref b4), .val (.int (Int32.ofNat (((0 + sz c0) + sz c1) + sz c2))), .val (.ref b8), .val (.int (1 : Int32)), .val (.int c2), .val (.int ((((1 : Int32) + (f12 c0 (0 : Int32))) + (f12 c1 (if c0 = (13 : Int32) then (1 : Int32) else (0 : Int32)))) + (f12 c2 (if c1 = (13 : Int32) then (1 : Int32) else (0 : Int32))))), .val (.int (4 : Int32))] [(.int (aCo c2 (aCo c1 (aCo c0 (1 : Int32)))))]))
        refine OGo.st (fun t k => XS.iload X30.here hx rfl (hb hby at_292) rfl k) ?_
        show OGo p e below _ (T30.setTop (mkF m 294 #[.val (.int q1), .val (.int q2), .val (.int q3), .val (.int c0), .val (.int c1), .val (.int c2), .val (.ref b4), .val (.int (Int32.ofNat (((0 + sz c0) + sz c1) + sz c2))), .val (.ref b8), .val (.int (1 : Int32)), .val (.int c2), .val (.int ((((1 : Int32) + (f12 c0 (0 : Int32))) + (f12 c1 (if c0 = (13 : Int32) then (1 : Int32) else (0 : Int32)))) + (f12 c2 (if c1 = (13 : Int32) then (1 : Int32) else (0 : Int32))))), .val (.int (4 : Int32))] [(.int (4 : Int32)), (.int (aCo c2 (aCo c1 (aCo c0 (1 : Int32)))))]))
        refine OGo.st (fun t k => XS.icmpNo X30.here hx rfl (hb hby at_294) rfl (teq (own_colx hc239_24 hc251_26 hc262_28)).2 k) ?_
        show OGo p e below _ (T30.setTop (mkF m 297 #[.val (.int q1), .val (.int q2), .val (.int q3), .val (.int c0), .val (.int c1), .val (.int c2), .val (.ref b4), .val (.int (Int32.ofNat (((0 + sz c0) + sz c1) + sz c2))), .val (.ref b8), .val (.int (1 : Int32)), .val (.int c2), .val (.int ((((1 : Int32) + (f12 c0 (0 : Int32))) + (f12 c1 (if c0 = (13 : Int32) then (1 : Int32) else (0 : Int32)))) + (f12 c2 (if c1 = (13 : Int32) then (1 : Int32) else (0 : Int32))))), .val (.int (4 : Int32))] []))
        refine OGo.st (fun t k => XS.iconst X30.here hx rfl (hb hby at_297) k) ?_
        show OGo p e below _ (T30.setTop (mkF m 298 #[.val (.int q1), .val (.int q2), .val (.int q3), .val (.int c0), .val (.int c1), .val (.int c2), .val (.ref b4), .val (.int (Int32.ofNat (((0 + sz c0) + sz c1) + sz c2))), .val (.ref b8), .val (.int (1 : Int32)), .val (.int c2), .val (.int ((((1 : Int32) + (f12 c0 (0 : Int32))) + (f12 c1 (if c0 = (13 : Int32) then (1 : Int32) else (0 : Int32)))) + (f12 c2 (if c1 = (13 : Int32) then (1 : Int32) else (0 : Int32))))), .val (.int (4 : Int32))] [(.int (1 : Int32))]))
        refine OGo.st (fun t k => XS.goto X30.here hx rfl (pc0 := 298) (pc' := 302) rfl (hb hby at_298) (by decide) (by decide) k) ?_
        show OGo p e below _ (T30.setTop (mkF m 302 #[.val (.int q1), .val (.int q2), .val (.int q3), .val (.int c0), .val (.int c1), .val (.int c2), .val (.ref b4), .val (.int (Int32.ofNat (((0 + sz c0) + sz c1) + sz c2))), .val (.ref b8), .val (.int (1 : Int32)), .val (.int c2), .val (.int ((((1 : Int32) + (f12 c0 (0 : Int32))) + (f12 c1 (if c0 = (13 : Int32) then (1 : Int32) else (0 : Int32)))) + (f12 c2 (if c1 = (13 : Int32) then (1 : Int32) else (0 : Int32))))), .val (.int (4 : Int32))] [(.int (1 : Int32))]))
        exact OGo.outN X30 hx (t := .boolean) Bd.returns (by simp) Bd.notSynchronized (hb hby at_302) ⟨rfl, N30⟩ (by decide) (by decide)
      · refine OGo.st (fun t k => XS.ifNo X27.here hx rfl (hb hby at_262) rfl ((if0 _ _).trans (feq hc262_28).1) k) ?_
        show OGo p e below _ (T27.setTop (mkF m 265 #[.val (.int q1), .val (.int q2), .val (.int q3), .val (.int c0), .val (.int c1), .val (.int c2), .val (.ref b4), .val (.int (Int32.ofNat (((0 + sz c0) + sz c1) + sz c2))), .val (.ref b8), .val (.int (1 : Int32)), .val (.int c2), .val (.int ((((1 : Int32) + (f12 c0 (0 : Int32))) + (f12 c1 (if c0 = (13 : Int32) then (1 : Int32) else (0 : Int32)))) + (f12 c2 (if c1 = (13 : Int32) then (1 : Int32) else (0 : Int32))))), .unset] []))
        refine OGo.st (fun t k => XS.iconst X27.here hx rfl (hb hby at_265) k) ?_
        show OGo p e below _ (T27.setTop (mkF m 266 #[.val (.int q1), .val (.int q2), .val (.int q3), .val (.int c0), .val (.int c1), .val (.int c2), .val (.ref b4), .val (.int (Int32.ofNat (((0 + sz c0) + sz c1) + sz c2))), .val (.ref b8), .val (.int (1 : Int32)), .val (.int c2), .val (.int ((((1 : Int32) + (f12 c0 (0 : Int32))) + (f12 c1 (if c0 = (13 : Int32) then (1 : Int32) else (0 : Int32)))) + (f12 c2 (if c1 = (13 : Int32) then (1 : Int32) else (0 : Int32))))), .unset] [(.int (3 : Int32))]))
        refine OGo.st (fun t k => XS.goto X27.here hx rfl (pc0 := 266) (pc' := 270) rfl (hb hby at_266) (by decide) (by decide) k) ?_
        show OGo p e below _ (T27.setTop (mkF m 270 #[.val (.int q1), .val (.int q2), .val (.int q3), .val (.int c0), .val (.int c1), .val (.int c2), .val (.ref b4), .val (.int (Int32.ofNat (((0 + sz c0) + sz c1) + sz c2))), .val (.ref b8), .val (.int (1 : Int32)), .val (.int c2), .val (.int ((((1 : Int32) + (f12 c0 (0 : Int32))) + (f12 c1 (if c0 = (13 : Int32) then (1 : Int32) else (0 : Int32)))) + (f12 c2 (if c1 = (13 : Int32) then (1 : Int32) else (0 : Int32))))), .unset] [(.int (3 : Int32))]))
        refine OGo.st (fun t k => XS.istore X27.here hx rfl (hb hby at_270) rfl (l' := #[.val (.int q1), .val (.int q2), .val (.int q3), .val (.int c0), .val (.int c1), .val (.int c2), .val (.ref b4), .val (.int (Int32.ofNat (((0 + sz c0) + sz c1) + sz c2))), .val (.ref b8), .val (.int (1 : Int32)), .val (.int c2), .val (.int ((((1 : Int32) + (f12 c0 (0 : Int32))) + (f12 c1 (if c0 = (13 : Int32) then (1 : Int32) else (0 : Int32)))) + (f12 c2 (if c1 = (13 : Int32) then (1 : Int32) else (0 : Int32))))), .val (.int (3 : Int32))]) rfl k) ?_
        show OGo p e below _ (T27.setTop (mkF m 272 #[.val (.int q1), .val (.int q2), .val (.int q3), .val (.int c0), .val (.int c1), .val (.int c2), .val (.ref b4), .val (.int (Int32.ofNat (((0 + sz c0) + sz c1) + sz c2))), .val (.ref b8), .val (.int (1 : Int32)), .val (.int c2), .val (.int ((((1 : Int32) + (f12 c0 (0 : Int32))) + (f12 c1 (if c0 = (13 : Int32) then (1 : Int32) else (0 : Int32)))) + (f12 c2 (if c1 = (13 : Int32) then (1 : Int32) else (0 : Int32))))), .val (.int (3 : Int32))] []))
        refine OGo.st (fun t k => XS.iload X27.here hx rfl (hb hby at_272) rfl k) ?_
        show OGo p e below _ (T27.setTop (mkF m 274 #[.val (.int q1), .val (.int q2), .val (.int q3), .val (.int c0), .val (.int c1), .val (.int c2), .val (.ref b4), .val (.int (Int32.ofNat (((0 + sz c0) + sz c1) + sz c2))), .val (.ref b8), .val (.int (1 : Int32)), .val (.int c2), .val (.int ((((1 : Int32) + (f12 c0 (0 : Int32))) + (f12 c1 (if c0 = (13 : Int32) then (1 : Int32) else (0 : Int32)))) + (f12 c2 (if c1 = (13 : Int32) then (1 : Int32) else (0 : Int32))))), .val (.int (3 : Int32))] [(.int (1 : Int32))]))
        refine OGo.st (fun t k => XS.ifNo X27.here hx rfl (hb hby at_274) rfl ((if0 _ _).trans (feq (by decide : ¬ ((1 : Int32) = (0 : Int32)))).1) k) ?_
        show OGo p e below _ (T27.setTop (mkF m 277 #[.val (.int q1), .val (.int q2), .val (.int q3), .val (.int c0), .val (.int c1), .val (.int c2), .val (.ref b4), .val (.int (Int32.ofNat (((0 + sz c0) + sz c1) + sz c2))), .val (.ref b8), .val (.int (1 : Int32)), .val (.int c2), .val (.int ((((1 : Int32) + (f12 c0 (0 : Int32))) + (f12 c1 (if c0 = (13 : Int32) then (1 : Int32) else (0 : Int32)))) + (f12 c2 (if c1 = (13 : Int32) then (1 : Int32) else (0 : Int32))))), .val (.int (3 : Int32))] []))
        refine OGo.st (fun t k => XS.aload X27.here hx rfl (hb hby at_277) rfl rfl k) ?_
        show OGo p e below _ (T27.setTop (mkF m 279 #[.val (.int q1), .val (.int q2), .val (.int q3), .val (.int c0), .val (.int c1), .val (.int c2), .val (.ref b4), .val (.int (Int32.ofNat (((0 + sz c0) + sz c1) + sz c2))), .val (.ref b8), .val (.int (1 : Int32)), .val (.int c2), .val (.int ((((1 : Int32) + (f12 c0 (0 : Int32))) + (f12 c1 (if c0 = (13 : Int32) then (1 : Int32) else (0 : Int32)))) + (f12 c2 (if c1 = (13 : Int32) then (1 : Int32) else (0 : Int32))))), .val (.int (3 : Int32))] [(.ref b8)]))
        obtain ⟨cq31, kq31, q31a, q31b, q31c⟩ := isOf hZ e27 E17
        obtain ⟨_, _, ⟨T31, L31, k31, n31⟩, -, X31, ⟨Lc31, hQ31, l31, y31, z31⟩, st31⟩ := X27.virtualBack hx (y := (⟨"com/example/triadne/triadne/Utf8Input", "line", "()I"⟩ : MethodName)) (z := (⟨"com/example/triadne/triadne/Utf8Input", "line", "()I"⟩ : MethodName)) hown (mvT hZ (hw _ (List.mem_of_getElem? (i := 77) rfl))) (mvT hZ (hw _ (List.mem_of_getElem? (i := 78) rfl))) (notFace_of_selects (args := #[]) (mvT hZ (hw _ (List.mem_of_getElem? (i := 80) rfl)))) (mvT hZ (hw _ (List.mem_of_getElem? (i := 80) rfl))) (mvT hZ (hw _ (List.mem_of_getElem? (i := 79) rfl))) (by decide) (backOf (W := 0) (rm14 l Z a0 hw [] b8 b4 wn (putF (putF (putF (fun _ => 0) 0 c0) (0 + sz c0) c1) ((0 + sz c0) + sz c1) c2) (oset (oset (oset (oset (fun _ => 0) 0 c0) (0 + 1) c1) ((0 + 1) + 1) c2) (((0 + 1) + 1) + 1) 0) ((((0 + sz c0) + sz c1) + sz c2) + 1) (((0 + 1) + 1) + 1) ((((0 + 1) + 1) + 1) + 1) (aLn c2 (aCr c1) (aLn c1 (aCr c0) (aLn c0 (0 : Int32) (1 : Int32)))) (aCo c2 (aCo c1 (aCo c0 (1 : Int32)))) (aCr c2) T17.heap n0 Z17 ⟨E17, F17_bytes, F17_byteLimit, F17_bytePosition, F17_window, F17_start, F17_end, F17_line, F17_column, F17_afterCarriageReturn, Ob17, Ow17⟩ (Ne.symm ne_b4_b8) nuw nbw gb8 gwn) hZ (hw _ (List.mem_of_getElem? (i := 81) rfl)) (hw _ (List.mem_of_getElem? (i := 10) rfl)) (by decide) (by decide)) q31a q31c (g := (mkF m 279 #[.val (.int q1), .val (.int q2), .val (.int q3), .val (.int c0), .val (.int c1), .val (.int c2), .val (.ref b4), .val (.int (Int32.ofNat (((0 + sz c0) + sz c1) + sz c2))), .val (.ref b8), .val (.int (1 : Int32)), .val (.int c2), .val (.int ((((1 : Int32) + (f12 c0 (0 : Int32))) + (f12 c1 (if c0 = (13 : Int32) then (1 : Int32) else (0 : Int32)))) + (f12 c2 (if c1 = (13 : Int32) then (1 : Int32) else (0 : Int32))))), .val (.int (3 : Int32))] [(.ref b8)])) rfl (by rw [hml]; rfl) (Steps.refl _) (argsL := []) (rest := []) (lenOf pd0_6 rfl) rfl (by show 2 * 0 + _ ≤ _; exact Nat.le_of_eq rfl) (hb hby at_279) (fun _ _ => ⟨rfl, e27, (by decide : 3 + 0 ≤ _), (by decide : 529 + 0 ≤ _)⟩)
        dsimp only [Pt.U, Pt.locs, Pt.cells, Pt.slots] at X31 l31 y31 z31 st31 hQ31
        subst l31 y31 z31
        obtain ⟨rfl, Nq31, e31⟩ := hQ31
        have N31 := Fr.app N27 Nq31
        obtain ⟨lo31, X31, N31⟩ : ∃ L, Stand p l e room_1 s m #[(.int q1), (.int q2), (.int q3)] below meth c T31 L 3 529 ∧ Fr n0 L := ⟨_, X31, N31⟩
        refine OGo.st (fun t k => st31.trans k) ?_
        show OGo p e below _ (T31.setTop (mkF m 282 #[.val (.int q1), .val (.int q2), .val (.int q3), .val (.int c0), .val (.int c1), .val (.int c2), .val (.ref b4), .val (.int (Int32.ofNat (((0 + sz c0) + sz c1) + sz c2))), .val (.ref b8), .val (.int (1 : Int32)), .val (.int c2), .val (.int ((((1 : Int32) + (f12 c0 (0 : Int32))) + (f12 c1 (if c0 = (13 : Int32) then (1 : Int32) else (0 : Int32)))) + (f12 c2 (if c1 = (13 : Int32) then (1 : Int32) else (0 : Int32))))), .val (.int (3 : Int32))] [(.int (aLn c2 (aCr c1) (aLn c1 (aCr c0) (aLn c0 (0 : Int32) (1 : Int32)))))]))
        refine OGo.st (fun t k => XS.iload X31.here hx rfl (hb hby at_282) rfl k) ?_
        show OGo p e below _ (T31.setTop (mkF m 284 #[.val (.int q1), .val (.int q2), .val (.int q3), .val (.int c0), .val (.int c1), .val (.int c2), .val (.ref b4), .val (.int (Int32.ofNat (((0 + sz c0) + sz c1) + sz c2))), .val (.ref b8), .val (.int (1 : Int32)), .val (.int c2), .val (.int ((((1 : Int32) + (f12 c0 (0 : Int32))) + (f12 c1 (if c0 = (13 : Int32) then (1 : Int32) else (0 : Int32)))) + (f12 c2 (if c1 = (13 : Int32) then (1 : Int32) else (0 : Int32))))), .val (.int (3 : Int32))] [(.int ((((1 : Int32) + (f12 c0 (0 : Int32))) + (f12 c1 (if c0 = (13 : Int32) then (1 : Int32) else (0 : Int32)))) + (f12 c2 (if c1 = (13 : Int32) then (1 : Int32) else (0 : Int32))))), (.int (aLn c2 (aCr c1) (aLn c1 (aCr c0) (aLn c0 (0 : Int32) (1 : Int32)))))]))
        refine OGo.st (fun t k => XS.icmpNo X31.here hx rfl (hb hby at_284) rfl (teq (own_line c0 c1 c2)).2 k) ?_
        show OGo p e below _ (T31.setTop (mkF m 287 #[.val (.int q1), .val (.int q2), .val (.int q3), .val (.int c0), .val (.int c1), .val (.int c2), .val (.ref b4), .val (.int (Int32.ofNat (((0 + sz c0) + sz c1) + sz c2))), .val (.ref b8), .val (.int (1 : Int32)), .val (.int c2), .val (.int ((((1 : Int32) + (f12 c0 (0 : Int32))) + (f12 c1 (if c0 = (13 : Int32) then (1 : Int32) else (0 : Int32)))) + (f12 c2 (if c1 = (13 : Int32) then (1 : Int32) else (0 : Int32))))), .val (.int (3 : Int32))] []))
        refine OGo.st (fun t k => XS.aload X31.here hx rfl (hb hby at_287) rfl rfl k) ?_
        show OGo p e below _ (T31.setTop (mkF m 289 #[.val (.int q1), .val (.int q2), .val (.int q3), .val (.int c0), .val (.int c1), .val (.int c2), .val (.ref b4), .val (.int (Int32.ofNat (((0 + sz c0) + sz c1) + sz c2))), .val (.ref b8), .val (.int (1 : Int32)), .val (.int c2), .val (.int ((((1 : Int32) + (f12 c0 (0 : Int32))) + (f12 c1 (if c0 = (13 : Int32) then (1 : Int32) else (0 : Int32)))) + (f12 c2 (if c1 = (13 : Int32) then (1 : Int32) else (0 : Int32))))), .val (.int (3 : Int32))] [(.ref b8)]))
        obtain ⟨cq32, kq32, q32a, q32b, q32c⟩ := isOf hZ e31 E17
        obtain ⟨_, _, ⟨T32, L32, k32, n32⟩, -, X32, ⟨Lc32, hQ32, l32, y32, z32⟩, st32⟩ := X31.virtualBack hx (y := (⟨"com/example/triadne/triadne/Utf8Input", "column", "()I"⟩ : MethodName)) (z := (⟨"com/example/triadne/triadne/Utf8Input", "column", "()I"⟩ : MethodName)) hown (mvT hZ (hw _ (List.mem_of_getElem? (i := 82) rfl))) (mvT hZ (hw _ (List.mem_of_getElem? (i := 83) rfl))) (notFace_of_selects (args := #[]) (mvT hZ (hw _ (List.mem_of_getElem? (i := 85) rfl)))) (mvT hZ (hw _ (List.mem_of_getElem? (i := 85) rfl))) (mvT hZ (hw _ (List.mem_of_getElem? (i := 84) rfl))) (by decide) (backOf (W := 0) (rm15 l Z a0 hw [] b8 b4 wn (putF (putF (putF (fun _ => 0) 0 c0) (0 + sz c0) c1) ((0 + sz c0) + sz c1) c2) (oset (oset (oset (oset (fun _ => 0) 0 c0) (0 + 1) c1) ((0 + 1) + 1) c2) (((0 + 1) + 1) + 1) 0) ((((0 + sz c0) + sz c1) + sz c2) + 1) (((0 + 1) + 1) + 1) ((((0 + 1) + 1) + 1) + 1) (aLn c2 (aCr c1) (aLn c1 (aCr c0) (aLn c0 (0 : Int32) (1 : Int32)))) (aCo c2 (aCo c1 (aCo c0 (1 : Int32)))) (aCr c2) T17.heap n0 Z17 ⟨E17, F17_bytes, F17_byteLimit, F17_bytePosition, F17_window, F17_start, F17_end, F17_line, F17_column, F17_afterCarriageReturn, Ob17, Ow17⟩ (Ne.symm ne_b4_b8) nuw nbw gb8 gwn) hZ (hw _ (List.mem_of_getElem? (i := 86) rfl)) (hw _ (List.mem_of_getElem? (i := 10) rfl)) (by decide) (by decide)) q32a q32c (g := (mkF m 289 #[.val (.int q1), .val (.int q2), .val (.int q3), .val (.int c0), .val (.int c1), .val (.int c2), .val (.ref b4), .val (.int (Int32.ofNat (((0 + sz c0) + sz c1) + sz c2))), .val (.ref b8), .val (.int (1 : Int32)), .val (.int c2), .val (.int ((((1 : Int32) + (f12 c0 (0 : Int32))) + (f12 c1 (if c0 = (13 : Int32) then (1 : Int32) else (0 : Int32)))) + (f12 c2 (if c1 = (13 : Int32) then (1 : Int32) else (0 : Int32))))), .val (.int (3 : Int32))] [(.ref b8)])) rfl (by rw [hml]; rfl) (Steps.refl _) (argsL := []) (rest := []) (lenOf pd0_6 rfl) rfl (by show 2 * 0 + _ ≤ _; exact Nat.le_of_eq rfl) (hb hby at_289) (fun _ _ => ⟨rfl, e31, (by decide : 3 + 0 ≤ _), (by decide : 529 + 0 ≤ _)⟩)
        dsimp only [Pt.U, Pt.locs, Pt.cells, Pt.slots] at X32 l32 y32 z32 st32 hQ32
        subst l32 y32 z32
        obtain ⟨rfl, Nq32, e32⟩ := hQ32
        have N32 := Fr.app N31 Nq32
        obtain ⟨lo32, X32, N32⟩ : ∃ L, Stand p l e room_1 s m #[(.int q1), (.int q2), (.int q3)] below meth c T32 L 3 529 ∧ Fr n0 L := ⟨_, X32, N32⟩
        refine OGo.st (fun t k => st32.trans k) ?_
        show OGo p e below _ (T32.setTop (mkF m 292 #[.val (.int q1), .val (.int q2), .val (.int q3), .val (.int c0), .val (.int c1), .val (.int c2), .val (.ref b4), .val (.int (Int32.ofNat (((0 + sz c0) + sz c1) + sz c2))), .val (.ref b8), .val (.int (1 : Int32)), .val (.int c2), .val (.int ((((1 : Int32) + (f12 c0 (0 : Int32))) + (f12 c1 (if c0 = (13 : Int32) then (1 : Int32) else (0 : Int32)))) + (f12 c2 (if c1 = (13 : Int32) then (1 : Int32) else (0 : Int32))))), .val (.int (3 : Int32))] [(.int (aCo c2 (aCo c1 (aCo c0 (1 : Int32)))))]))
        refine OGo.st (fun t k => XS.iload X32.here hx rfl (hb hby at_292) rfl k) ?_
        show OGo p e below _ (T32.setTop (mkF m 294 #[.val (.int q1), .val (.int q2), .val (.int q3), .val (.int c0), .val (.int c1), .val (.int c2), .val (.ref b4), .val (.int (Int32.ofNat (((0 + sz c0) + sz c1) + sz c2))), .val (.ref b8), .val (.int (1 : Int32)), .val (.int c2), .val (.int ((((1 : Int32) + (f12 c0 (0 : Int32))) + (f12 c1 (if c0 = (13 : Int32) then (1 : Int32) else (0 : Int32)))) + (f12 c2 (if c1 = (13 : Int32) then (1 : Int32) else (0 : Int32))))), .val (.int (3 : Int32))] [(.int (3 : Int32)), (.int (aCo c2 (aCo c1 (aCo c0 (1 : Int32)))))]))
        refine OGo.st (fun t k => XS.icmpNo X32.here hx rfl (hb hby at_294) rfl (teq (own_col3 hc239_24 hc251_26 hc262_28)).2 k) ?_
        show OGo p e below _ (T32.setTop (mkF m 297 #[.val (.int q1), .val (.int q2), .val (.int q3), .val (.int c0), .val (.int c1), .val (.int c2), .val (.ref b4), .val (.int (Int32.ofNat (((0 + sz c0) + sz c1) + sz c2))), .val (.ref b8), .val (.int (1 : Int32)), .val (.int c2), .val (.int ((((1 : Int32) + (f12 c0 (0 : Int32))) + (f12 c1 (if c0 = (13 : Int32) then (1 : Int32) else (0 : Int32)))) + (f12 c2 (if c1 = (13 : Int32) then (1 : Int32) else (0 : Int32))))), .val (.int (3 : Int32))] []))
        refine OGo.st (fun t k => XS.iconst X32.here hx rfl (hb hby at_297) k) ?_
        show OGo p e below _ (T32.setTop (mkF m 298 #[.val (.int q1), .val (.int q2), .val (.int q3), .val (.int c0), .val (.int c1), .val (.int c2), .val (.ref b4), .val (.int (Int32.ofNat (((0 + sz c0) + sz c1) + sz c2))), .val (.ref b8), .val (.int (1 : Int32)), .val (.int c2), .val (.int ((((1 : Int32) + (f12 c0 (0 : Int32))) + (f12 c1 (if c0 = (13 : Int32) then (1 : Int32) else (0 : Int32)))) + (f12 c2 (if c1 = (13 : Int32) then (1 : Int32) else (0 : Int32))))), .val (.int (3 : Int32))] [(.int (1 : Int32))]))
        refine OGo.st (fun t k => XS.goto X32.here hx rfl (pc0 := 298) (pc' := 302) rfl (hb hby at_298) (by decide) (by decide) k) ?_
        show OGo p e below _ (T32.setTop (mkF m 302 #[.val (.int q1), .val (.int q2), .val (.int q3), .val (.int c0), .val (.int c1), .val (.int c2), .val (.ref b4), .val (.int (Int32.ofNat (((0 + sz c0) + sz c1) + sz c2))), .val (.ref b8), .val (.int (1 : Int32)), .val (.int c2), .val (.int ((((1 : Int32) + (f12 c0 (0 : Int32))) + (f12 c1 (if c0 = (13 : Int32) then (1 : Int32) else (0 : Int32)))) + (f12 c2 (if c1 = (13 : Int32) then (1 : Int32) else (0 : Int32))))), .val (.int (3 : Int32))] [(.int (1 : Int32))]))
        exact OGo.outN X32 hx (t := .boolean) Bd.returns (by simp) Bd.notSynchronized (hb hby at_302) ⟨rfl, N32⟩ (by decide) (by decide)
    · refine OGo.st (fun t k => XS.ifNo X25.here hx rfl (hb hby at_251) rfl ((if0 _ _).trans (feq hc251_26).1) k) ?_
      show OGo p e below _ (T25.setTop (mkF m 254 #[.val (.int q1), .val (.int q2), .val (.int q3), .val (.int c0), .val (.int c1), .val (.int c2), .val (.ref b4), .val (.int (Int32.ofNat (((0 + sz c0) + sz c1) + sz c2))), .val (.ref b8), .val (.int (1 : Int32)), .val (.int c2), .val (.int ((((1 : Int32) + (f12 c0 (0 : Int32))) + (f12 c1 (if c0 = (13 : Int32) then (1 : Int32) else (0 : Int32)))) + (f12 c2 (if c1 = (13 : Int32) then (1 : Int32) else (0 : Int32))))), .unset] []))
      refine OGo.st (fun t k => XS.iconst X25.here hx rfl (hb hby at_254) k) ?_
      show OGo p e below _ (T25.setTop (mkF m 255 #[.val (.int q1), .val (.int q2), .val (.int q3), .val (.int c0), .val (.int c1), .val (.int c2), .val (.ref b4), .val (.int (Int32.ofNat (((0 + sz c0) + sz c1) + sz c2))), .val (.ref b8), .val (.int (1 : Int32)), .val (.int c2), .val (.int ((((1 : Int32) + (f12 c0 (0 : Int32))) + (f12 c1 (if c0 = (13 : Int32) then (1 : Int32) else (0 : Int32)))) + (f12 c2 (if c1 = (13 : Int32) then (1 : Int32) else (0 : Int32))))), .unset] [(.int (2 : Int32))]))
      refine OGo.st (fun t k => XS.goto X25.here hx rfl (pc0 := 255) (pc' := 270) rfl (hb hby at_255) (by decide) (by decide) k) ?_
      show OGo p e below _ (T25.setTop (mkF m 270 #[.val (.int q1), .val (.int q2), .val (.int q3), .val (.int c0), .val (.int c1), .val (.int c2), .val (.ref b4), .val (.int (Int32.ofNat (((0 + sz c0) + sz c1) + sz c2))), .val (.ref b8), .val (.int (1 : Int32)), .val (.int c2), .val (.int ((((1 : Int32) + (f12 c0 (0 : Int32))) + (f12 c1 (if c0 = (13 : Int32) then (1 : Int32) else (0 : Int32)))) + (f12 c2 (if c1 = (13 : Int32) then (1 : Int32) else (0 : Int32))))), .unset] [(.int (2 : Int32))]))
      refine OGo.st (fun t k => XS.istore X25.here hx rfl (hb hby at_270) rfl (l' := #[.val (.int q1), .val (.int q2), .val (.int q3), .val (.int c0), .val (.int c1), .val (.int c2), .val (.ref b4), .val (.int (Int32.ofNat (((0 + sz c0) + sz c1) + sz c2))), .val (.ref b8), .val (.int (1 : Int32)), .val (.int c2), .val (.int ((((1 : Int32) + (f12 c0 (0 : Int32))) + (f12 c1 (if c0 = (13 : Int32) then (1 : Int32) else (0 : Int32)))) + (f12 c2 (if c1 = (13 : Int32) then (1 : Int32) else (0 : Int32))))), .val (.int (2 : Int32))]) rfl k) ?_
      show OGo p e below _ (T25.setTop (mkF m 272 #[.val (.int q1), .val (.int q2), .val (.int q3), .val (.int c0), .val (.int c1), .val (.int c2), .val (.ref b4), .val (.int (Int32.ofNat (((0 + sz c0) + sz c1) + sz c2))), .val (.ref b8), .val (.int (1 : Int32)), .val (.int c2), .val (.int ((((1 : Int32) + (f12 c0 (0 : Int32))) + (f12 c1 (if c0 = (13 : Int32) then (1 : Int32) else (0 : Int32)))) + (f12 c2 (if c1 = (13 : Int32) then (1 : Int32) else (0 : Int32))))), .val (.int (2 : Int32))] []))
      refine OGo.st (fun t k => XS.iload X25.here hx rfl (hb hby at_272) rfl k) ?_
      show OGo p e below _ (T25.setTop (mkF m 274 #[.val (.int q1), .val (.int q2), .val (.int q3), .val (.int c0), .val (.int c1), .val (.int c2), .val (.ref b4), .val (.int (Int32.ofNat (((0 + sz c0) + sz c1) + sz c2))), .val (.ref b8), .val (.int (1 : Int32)), .val (.int c2), .val (.int ((((1 : Int32) + (f12 c0 (0 : Int32))) + (f12 c1 (if c0 = (13 : Int32) then (1 : Int32) else (0 : Int32)))) + (f12 c2 (if c1 = (13 : Int32) then (1 : Int32) else (0 : Int32))))), .val (.int (2 : Int32))] [(.int (1 : Int32))]))
      refine OGo.st (fun t k => XS.ifNo X25.here hx rfl (hb hby at_274) rfl ((if0 _ _).trans (feq (by decide : ¬ ((1 : Int32) = (0 : Int32)))).1) k) ?_
      show OGo p e below _ (T25.setTop (mkF m 277 #[.val (.int q1), .val (.int q2), .val (.int q3), .val (.int c0), .val (.int c1), .val (.int c2), .val (.ref b4), .val (.int (Int32.ofNat (((0 + sz c0) + sz c1) + sz c2))), .val (.ref b8), .val (.int (1 : Int32)), .val (.int c2), .val (.int ((((1 : Int32) + (f12 c0 (0 : Int32))) + (f12 c1 (if c0 = (13 : Int32) then (1 : Int32) else (0 : Int32)))) + (f12 c2 (if c1 = (13 : Int32) then (1 : Int32) else (0 : Int32))))), .val (.int (2 : Int32))] []))
      refine OGo.st (fun t k => XS.aload X25.here hx rfl (hb hby at_277) rfl rfl k) ?_
      show OGo p e below _ (T25.setTop (mkF m 279 #[.val (.int q1), .val (.int q2), .val (.int q3), .val (.int c0), .val (.int c1), .val (.int c2), .val (.ref b4), .val (.int (Int32.ofNat (((0 + sz c0) + sz c1) + sz c2))), .val (.ref b8), .val (.int (1 : Int32)), .val (.int c2), .val (.int ((((1 : Int32) + (f12 c0 (0 : Int32))) + (f12 c1 (if c0 = (13 : Int32) then (1 : Int32) else (0 : Int32)))) + (f12 c2 (if c1 = (13 : Int32) then (1 : Int32) else (0 : Int32))))), .val (.int (2 : Int32))] [(.ref b8)]))
      obtain ⟨cq33, kq33, q33a, q33b, q33c⟩ := isOf hZ e25 E17
      obtain ⟨_, _, ⟨T33, L33, k33, n33⟩, -, X33, ⟨Lc33, hQ33, l33, y33, z33⟩, st33⟩ := X25.virtualBack hx (y := (⟨"com/example/triadne/triadne/Utf8Input", "line", "()I"⟩ : MethodName)) (z := (⟨"com/example/triadne/triadne/Utf8Input", "line", "()I"⟩ : MethodName)) hown (mvT hZ (hw _ (List.mem_of_getElem? (i := 77) rfl))) (mvT hZ (hw _ (List.mem_of_getElem? (i := 78) rfl))) (notFace_of_selects (args := #[]) (mvT hZ (hw _ (List.mem_of_getElem? (i := 80) rfl)))) (mvT hZ (hw _ (List.mem_of_getElem? (i := 80) rfl))) (mvT hZ (hw _ (List.mem_of_getElem? (i := 79) rfl))) (by decide) (backOf (W := 0) (rm14 l Z a0 hw [] b8 b4 wn (putF (putF (putF (fun _ => 0) 0 c0) (0 + sz c0) c1) ((0 + sz c0) + sz c1) c2) (oset (oset (oset (oset (fun _ => 0) 0 c0) (0 + 1) c1) ((0 + 1) + 1) c2) (((0 + 1) + 1) + 1) 0) ((((0 + sz c0) + sz c1) + sz c2) + 1) (((0 + 1) + 1) + 1) ((((0 + 1) + 1) + 1) + 1) (aLn c2 (aCr c1) (aLn c1 (aCr c0) (aLn c0 (0 : Int32) (1 : Int32)))) (aCo c2 (aCo c1 (aCo c0 (1 : Int32)))) (aCr c2) T17.heap n0 Z17 ⟨E17, F17_bytes, F17_byteLimit, F17_bytePosition, F17_window, F17_start, F17_end, F17_line, F17_column, F17_afterCarriageReturn, Ob17, Ow17⟩ (Ne.symm ne_b4_b8) nuw nbw gb8 gwn) hZ (hw _ (List.mem_of_getElem? (i := 81) rfl)) (hw _ (List.mem_of_getElem? (i := 10) rfl)) (by decide) (by decide)) q33a q33c (g := (mkF m 279 #[.val (.int q1), .val (.int q2), .val (.int q3), .val (.int c0), .val (.int c1), .val (.int c2), .val (.ref b4), .val (.int (Int32.ofNat (((0 + sz c0) + sz c1) + sz c2))), .val (.ref b8), .val (.int (1 : Int32)), .val (.int c2), .val (.int ((((1 : Int32) + (f12 c0 (0 : Int32))) + (f12 c1 (if c0 = (13 : Int32) then (1 : Int32) else (0 : Int32)))) + (f12 c2 (if c1 = (13 : Int32) then (1 : Int32) else (0 : Int32))))), .val (.int (2 : Int32))] [(.ref b8)])) rfl (by rw [hml]; rfl) (Steps.refl _) (argsL := []) (rest := []) (lenOf pd0_6 rfl) rfl (by show 2 * 0 + _ ≤ _; exact Nat.le_of_eq rfl) (hb hby at_279) (fun _ _ => ⟨rfl, e25, (by decide : 3 + 0 ≤ _), (by decide : 529 + 0 ≤ _)⟩)
      dsimp only [Pt.U, Pt.locs, Pt.cells, Pt.slots] at X33 l33 y33 z33 st33 hQ33
      subst l33 y33 z33
      obtain ⟨rfl, Nq33, e33⟩ := hQ33
      have N33 := Fr.app N25 Nq33
      obtain ⟨lo33, X33, N33⟩ : ∃ L, Stand p l e room_1 s m #[(.int q1), (.int q2), (.int q3)] below meth c T33 L 3 529 ∧ Fr n0 L := ⟨_, X33, N33⟩
      refine OGo.st (fun t k => st33.trans k) ?_
      show OGo p e below _ (T33.setTop (mkF m 282 #[.val (.int q1), .val (.int q2), .val (.int q3), .val (.int c0), .val (.int c1), .val (.int c2), .val (.ref b4), .val (.int (Int32.ofNat (((0 + sz c0) + sz c1) + sz c2))), .val (.ref b8), .val (.int (1 : Int32)), .val (.int c2), .val (.int ((((1 : Int32) + (f12 c0 (0 : Int32))) + (f12 c1 (if c0 = (13 : Int32) then (1 : Int32) else (0 : Int32)))) + (f12 c2 (if c1 = (13 : Int32) then (1 : Int32) else (0 : Int32))))), .val (.int (2 : Int32))] [(.int (aLn c2 (aCr c1) (aLn c1 (aCr c0) (aLn c0 (0 : Int32) (1 : Int32)))))]))
      refine OGo.st (fun t k => XS.iload X33.here hx rfl (hb hby at_282) rfl k) ?_
      show OGo p e below _ (T33.setTop (mkF m 284 #[.val (.int q1), .val (.int q2), .val (.int q3), .val (.int c0), .val (.int c1), .val (.int c2), .val (.ref b4), .val (.int (Int32.ofNat (((0 + sz c0) + sz c1) + sz c2))), .val (.ref b8), .val (.int (1 : Int32)), .val (.int c2), .val (.int ((((1 : Int32) + (f12 c0 (0 : Int32))) + (f12 c1 (if c0 = (13 : Int32) then (1 : Int32) else (0 : Int32)))) + (f12 c2 (if c1 = (13 : Int32) then (1 : Int32) else (0 : Int32))))), .val (.int (2 : Int32))] [(.int ((((1 : Int32) + (f12 c0 (0 : Int32))) + (f12 c1 (if c0 = (13 : Int32) then (1 : Int32) else (0 : Int32)))) + (f12 c2 (if c1 = (13 : Int32) then (1 : Int32) else (0 : Int32))))), (.int (aLn c2 (aCr c1) (aLn c1 (aCr c0) (aLn c0 (0 : Int32) (1 : Int32)))))]))
      refine OGo.st (fun t k => XS.icmpNo X33.here hx rfl (hb hby at_284) rfl (teq (own_line c0 c1 c2)).2 k) ?_
      show OGo p e below _ (T33.setTop (mkF m 287 #[.val (.int q1), .val (.int q2), .val (.int q3), .val (.int c0), .val (.int c1), .val (.int c2), .val (.ref b4), .val (.int (Int32.ofNat (((0 + sz c0) + sz c1) + sz c2))), .val (.ref b8), .val (.int (1 : Int32)), .val (.int c2), .val (.int ((((1 : Int32) + (f12 c0 (0 : Int32))) + (f12 c1 (if c0 = (13 : Int32) then (1 : Int32) else (0 : Int32)))) + (f12 c2 (if c1 = (13 : Int32) then (1 : Int32) else (0 : Int32))))), .val (.int (2 : Int32))] []))
      refine OGo.st (fun t k => XS.aload X33.here hx rfl (hb hby at_287) rfl rfl k) ?_
      show OGo p e below _ (T33.setTop (mkF m 289 #[.val (.int q1), .val (.int q2), .val (.int q3), .val (.int c0), .val (.int c1), .val (.int c2), .val (.ref b4), .val (.int (Int32.ofNat (((0 + sz c0) + sz c1) + sz c2))), .val (.ref b8), .val (.int (1 : Int32)), .val (.int c2), .val (.int ((((1 : Int32) + (f12 c0 (0 : Int32))) + (f12 c1 (if c0 = (13 : Int32) then (1 : Int32) else (0 : Int32)))) + (f12 c2 (if c1 = (13 : Int32) then (1 : Int32) else (0 : Int32))))), .val (.int (2 : Int32))] [(.ref b8)]))
      obtain ⟨cq34, kq34, q34a, q34b, q34c⟩ := isOf hZ e33 E17
      obtain ⟨_, _, ⟨T34, L34, k34, n34⟩, -, X34, ⟨Lc34, hQ34, l34, y34, z34⟩, st34⟩ := X33.virtualBack hx (y := (⟨"com/example/triadne/triadne/Utf8Input", "column", "()I"⟩ : MethodName)) (z := (⟨"com/example/triadne/triadne/Utf8Input", "column", "()I"⟩ : MethodName)) hown (mvT hZ (hw _ (List.mem_of_getElem? (i := 82) rfl))) (mvT hZ (hw _ (List.mem_of_getElem? (i := 83) rfl))) (notFace_of_selects (args := #[]) (mvT hZ (hw _ (List.mem_of_getElem? (i := 85) rfl)))) (mvT hZ (hw _ (List.mem_of_getElem? (i := 85) rfl))) (mvT hZ (hw _ (List.mem_of_getElem? (i := 84) rfl))) (by decide) (backOf (W := 0) (rm15 l Z a0 hw [] b8 b4 wn (putF (putF (putF (fun _ => 0) 0 c0) (0 + sz c0) c1) ((0 + sz c0) + sz c1) c2) (oset (oset (oset (oset (fun _ => 0) 0 c0) (0 + 1) c1) ((0 + 1) + 1) c2) (((0 + 1) + 1) + 1) 0) ((((0 + sz c0) + sz c1) + sz c2) + 1) (((0 + 1) + 1) + 1) ((((0 + 1) + 1) + 1) + 1) (aLn c2 (aCr c1) (aLn c1 (aCr c0) (aLn c0 (0 : Int32) (1 : Int32)))) (aCo c2 (aCo c1 (aCo c0 (1 : Int32)))) (aCr c2) T17.heap n0 Z17 ⟨E17, F17_bytes, F17_byteLimit, F17_bytePosition, F17_window, F17_start, F17_end, F17_line, F17_column, F17_afterCarriageReturn, Ob17, Ow17⟩ (Ne.symm ne_b4_b8) nuw nbw gb8 gwn) hZ (hw _ (List.mem_of_getElem? (i := 86) rfl)) (hw _ (List.mem_of_getElem? (i := 10) rfl)) (by decide) (by decide)) q34a q34c (g := (mkF m 289 #[.val (.int q1), .val (.int q2), .val (.int q3), .val (.int c0), .val (.int c1), .val (.int c2), .val (.ref b4), .val (.int (Int32.ofNat (((0 + sz c0) + sz c1) + sz c2))), .val (.ref b8), .val (.int (1 : Int32)), .val (.int c2), .val (.int ((((1 : Int32) + (f12 c0 (0 : Int32))) + (f12 c1 (if c0 = (13 : Int32) then (1 : Int32) else (0 : Int32)))) + (f12 c2 (if c1 = (13 : Int32) then (1 : Int32) else (0 : Int32))))), .val (.int (2 : Int32))] [(.ref b8)])) rfl (by rw [hml]; rfl) (Steps.refl _) (argsL := []) (rest := []) (lenOf pd0_6 rfl) rfl (by show 2 * 0 + _ ≤ _; exact Nat.le_of_eq rfl) (hb hby at_289) (fun _ _ => ⟨rfl, e33, (by decide : 3 + 0 ≤ _), (by decide : 529 + 0 ≤ _)⟩)
      dsimp only [Pt.U, Pt.locs, Pt.cells, Pt.slots] at X34 l34 y34 z34 st34 hQ34
      subst l34 y34 z34
      obtain ⟨rfl, Nq34, e34⟩ := hQ34
      have N34 := Fr.app N33 Nq34
      obtain ⟨lo34, X34, N34⟩ : ∃ L, Stand p l e room_1 s m #[(.int q1), (.int q2), (.int q3)] below meth c T34 L 3 529 ∧ Fr n0 L := ⟨_, X34, N34⟩
      refine OGo.st (fun t k => st34.trans k) ?_
      show OGo p e below _ (T34.setTop (mkF m 292 #[.val (.int q1), .val (.int q2), .val (.int q3), .val (.int c0), .val (.int c1), .val (.int c2), .val (.ref b4), .val (.int (Int32.ofNat (((0 + sz c0) + sz c1) + sz c2))), .val (.ref b8), .val (.int (1 : Int32)), .val (.int c2), .val (.int ((((1 : Int32) + (f12 c0 (0 : Int32))) + (f12 c1 (if c0 = (13 : Int32) then (1 : Int32) else (0 : Int32)))) + (f12 c2 (if c1 = (13 : Int32) then (1 : Int32) else (0 : Int32))))), .val (.int (2 : Int32))] [(.int (aCo c2 (aCo c1 (aCo c0 (1 : Int32)))))]))
      refine OGo.st (fun t k => XS.iload X34.here hx rfl (hb hby at_292) rfl k) ?_
      show OGo p e below _ (T34.setTop (mkF m 294 #[.val (.int q1), .val (.int q2), .val (.int q3), .val (.int c0), .val (.int c1), .val (.int c2), .val (.ref b4), .val (.int (Int32.ofNat (((0 + sz c0) + sz c1) + sz c2))), .val (.ref b8), .val (.int (1 : Int32)), .val (.int c2), .val (.int ((((1 : Int32) + (f12 c0 (0 : Int32))) + (f12 c1 (if c0 = (13 : Int32) then (1 : Int32) else (0 : Int32)))) + (f12 c2 (if c1 = (13 : Int32) then (1 : Int32) else (0 : Int32))))), .val (.int (2 : Int32))] [(.int (2 : Int32)), (.int (aCo c2 (aCo c1 (aCo c0 (1 : Int32)))))]))
      refine OGo.st (fun t k => XS.icmpNo X34.here hx rfl (hb hby at_294) rfl (teq (own_col2 hc239_24 hc251_26)).2 k) ?_
      show OGo p e below _ (T34.setTop (mkF m 297 #[.val (.int q1), .val (.int q2), .val (.int q3), .val (.int c0), .val (.int c1), .val (.int c2), .val (.ref b4), .val (.int (Int32.ofNat (((0 + sz c0) + sz c1) + sz c2))), .val (.ref b8), .val (.int (1 : Int32)), .val (.int c2), .val (.int ((((1 : Int32) + (f12 c0 (0 : Int32))) + (f12 c1 (if c0 = (13 : Int32) then (1 : Int32) else (0 : Int32)))) + (f12 c2 (if c1 = (13 : Int32) then (1 : Int32) else (0 : Int32))))), .val (.int (2 : Int32))] []))
      refine OGo.st (fun t k => XS.iconst X34.here hx rfl (hb hby at_297) k) ?_
      show OGo p e below _ (T34.setTop (mkF m 298 #[.val (.int q1), .val (.int q2), .val (.int q3), .val (.int c0), .val (.int c1), .val (.int c2), .val (.ref b4), .val (.int (Int32.ofNat (((0 + sz c0) + sz c1) + sz c2))), .val (.ref b8), .val (.int (1 : Int32)), .val (.int c2), .val (.int ((((1 : Int32) + (f12 c0 (0 : Int32))) + (f12 c1 (if c0 = (13 : Int32) then (1 : Int32) else (0 : Int32)))) + (f12 c2 (if c1 = (13 : Int32) then (1 : Int32) else (0 : Int32))))), .val (.int (2 : Int32))] [(.int (1 : Int32))]))
      refine OGo.st (fun t k => XS.goto X34.here hx rfl (pc0 := 298) (pc' := 302) rfl (hb hby at_298) (by decide) (by decide) k) ?_
      show OGo p e below _ (T34.setTop (mkF m 302 #[.val (.int q1), .val (.int q2), .val (.int q3), .val (.int c0), .val (.int c1), .val (.int c2), .val (.ref b4), .val (.int (Int32.ofNat (((0 + sz c0) + sz c1) + sz c2))), .val (.ref b8), .val (.int (1 : Int32)), .val (.int c2), .val (.int ((((1 : Int32) + (f12 c0 (0 : Int32))) + (f12 c1 (if c0 = (13 : Int32) then (1 : Int32) else (0 : Int32)))) + (f12 c2 (if c1 = (13 : Int32) then (1 : Int32) else (0 : Int32))))), .val (.int (2 : Int32))] [(.int (1 : Int32))]))
      exact OGo.outN X34 hx (t := .boolean) Bd.returns (by simp) Bd.notSynchronized (hb hby at_302) ⟨rfl, N34⟩ (by decide) (by decide)
  · refine OGo.st (fun t k => XS.ifNo X23.here hx rfl (hb hby at_239) rfl ((if0 _ _).trans (feq hc239_24).1) k) ?_
    show OGo p e below _ (T23.setTop (mkF m 242 #[.val (.int q1), .val (.int q2), .val (.int q3), .val (.int c0), .val (.int c1), .val (.int c2), .val (.ref b4), .val (.int (Int32.ofNat (((0 + sz c0) + sz c1) + sz c2))), .val (.ref b8), .val (.int (1 : Int32)), .val (.int c2), .val (.int ((((1 : Int32) + (f12 c0 (0 : Int32))) + (f12 c1 (if c0 = (13 : Int32) then (1 : Int32) else (0 : Int32)))) + (f12 c2 (if c1 = (13 : Int32) then (1 : Int32) else (0 : Int32))))), .unset] []))
    refine OGo.st (fun t k => XS.iconst X23.here hx rfl (hb hby at_242) k) ?_
    show OGo p e below _ (T23.setTop (mkF m 243 #[.val (.int q1), .val (.int q2), .val (.int q3), .val (.int c0), .val (.int c1), .val (.int c2), .val (.ref b4), .val (.int (Int32.ofNat (((0 + sz c0) + sz c1) + sz c2))), .val (.ref b8), .val (.int (1 : Int32)), .val (.int c2), .val (.int ((((1 : Int32) + (f12 c0 (0 : Int32))) + (f12 c1 (if c0 = (13 : Int32) then (1 : Int32) else (0 : Int32)))) + (f12 c2 (if c1 = (13 : Int32) then (1 : Int32) else (0 : Int32))))), .unset] [(.int (1 : Int32))]))
    refine OGo.st (fun t k => XS.goto X23.here hx rfl (pc0 := 243) (pc' := 270) rfl (hb hby at_243) (by decide) (by decide) k) ?_
    show OGo p e below _ (T23.setTop (mkF m 270 #[.val (.int q1), .val (.int q2), .val (.int q3), .val (.int c0), .val (.int c1), .val (.int c2), .val (.ref b4), .val (.int (Int32.ofNat (((0 + sz c0) + sz c1) + sz c2))), .val (.ref b8), .val (.int (1 : Int32)), .val (.int c2), .val (.int ((((1 : Int32) + (f12 c0 (0 : Int32))) + (f12 c1 (if c0 = (13 : Int32) then (1 : Int32) else (0 : Int32)))) + (f12 c2 (if c1 = (13 : Int32) then (1 : Int32) else (0 : Int32))))), .unset] [(.int (1 : Int32))]))
    refine OGo.st (fun t k => XS.istore X23.here hx rfl (hb hby at_270) rfl (l' := #[.val (.int q1), .val (.int q2), .val (.int q3), .val (.int c0), .val (.int c1), .val (.int c2), .val (.ref b4), .val (.int (Int32.ofNat (((0 + sz c0) + sz c1) + sz c2))), .val (.ref b8), .val (.int (1 : Int32)), .val (.int c2), .val (.int ((((1 : Int32) + (f12 c0 (0 : Int32))) + (f12 c1 (if c0 = (13 : Int32) then (1 : Int32) else (0 : Int32)))) + (f12 c2 (if c1 = (13 : Int32) then (1 : Int32) else (0 : Int32))))), .val (.int (1 : Int32))]) rfl k) ?_
    show OGo p e below _ (T23.setTop (mkF m 272 #[.val (.int q1), .val (.int q2), .val (.int q3), .val (.int c0), .val (.int c1), .val (.int c2), .val (.ref b4), .val (.int (Int32.ofNat (((0 + sz c0) + sz c1) + sz c2))), .val (.ref b8), .val (.int (1 : Int32)), .val (.int c2), .val (.int ((((1 : Int32) + (f12 c0 (0 : Int32))) + (f12 c1 (if c0 = (13 : Int32) then (1 : Int32) else (0 : Int32)))) + (f12 c2 (if c1 = (13 : Int32) then (1 : Int32) else (0 : Int32))))), .val (.int (1 : Int32))] []))
    refine OGo.st (fun t k => XS.iload X23.here hx rfl (hb hby at_272) rfl k) ?_
    show OGo p e below _ (T23.setTop (mkF m 274 #[.val (.int q1), .val (.int q2), .val (.int q3), .val (.int c0), .val (.int c1), .val (.int c2), .val (.ref b4), .val (.int (Int32.ofNat (((0 + sz c0) + sz c1) + sz c2))), .val (.ref b8), .val (.int (1 : Int32)), .val (.int c2), .val (.int ((((1 : Int32) + (f12 c0 (0 : Int32))) + (f12 c1 (if c0 = (13 : Int32) then (1 : Int32) else (0 : Int32)))) + (f12 c2 (if c1 = (13 : Int32) then (1 : Int32) else (0 : Int32))))), .val (.int (1 : Int32))] [(.int (1 : Int32))]))
    refine OGo.st (fun t k => XS.ifNo X23.here hx rfl (hb hby at_274) rfl ((if0 _ _).trans (feq (by decide : ¬ ((1 : Int32) = (0 : Int32)))).1) k) ?_
    show OGo p e below _ (T23.setTop (mkF m 277 #[.val (.int q1), .val (.int q2), .val (.int q3), .val (.int c0), .val (.int c1), .val (.int c2), .val (.ref b4), .val (.int (Int32.ofNat (((0 + sz c0) + sz c1) + sz c2))), .val (.ref b8), .val (.int (1 : Int32)), .val (.int c2), .val (.int ((((1 : Int32) + (f12 c0 (0 : Int32))) + (f12 c1 (if c0 = (13 : Int32) then (1 : Int32) else (0 : Int32)))) + (f12 c2 (if c1 = (13 : Int32) then (1 : Int32) else (0 : Int32))))), .val (.int (1 : Int32))] []))
    refine OGo.st (fun t k => XS.aload X23.here hx rfl (hb hby at_277) rfl rfl k) ?_
    show OGo p e below _ (T23.setTop (mkF m 279 #[.val (.int q1), .val (.int q2), .val (.int q3), .val (.int c0), .val (.int c1), .val (.int c2), .val (.ref b4), .val (.int (Int32.ofNat (((0 + sz c0) + sz c1) + sz c2))), .val (.ref b8), .val (.int (1 : Int32)), .val (.int c2), .val (.int ((((1 : Int32) + (f12 c0 (0 : Int32))) + (f12 c1 (if c0 = (13 : Int32) then (1 : Int32) else (0 : Int32)))) + (f12 c2 (if c1 = (13 : Int32) then (1 : Int32) else (0 : Int32))))), .val (.int (1 : Int32))] [(.ref b8)]))
    obtain ⟨cq35, kq35, q35a, q35b, q35c⟩ := isOf hZ e23 E17
    obtain ⟨_, _, ⟨T35, L35, k35, n35⟩, -, X35, ⟨Lc35, hQ35, l35, y35, z35⟩, st35⟩ := X23.virtualBack hx (y := (⟨"com/example/triadne/triadne/Utf8Input", "line", "()I"⟩ : MethodName)) (z := (⟨"com/example/triadne/triadne/Utf8Input", "line", "()I"⟩ : MethodName)) hown (mvT hZ (hw _ (List.mem_of_getElem? (i := 77) rfl))) (mvT hZ (hw _ (List.mem_of_getElem? (i := 78) rfl))) (notFace_of_selects (args := #[]) (mvT hZ (hw _ (List.mem_of_getElem? (i := 80) rfl)))) (mvT hZ (hw _ (List.mem_of_getElem? (i := 80) rfl))) (mvT hZ (hw _ (List.mem_of_getElem? (i := 79) rfl))) (by decide) (backOf (W := 0) (rm14 l Z a0 hw [] b8 b4 wn (putF (putF (putF (fun _ => 0) 0 c0) (0 + sz c0) c1) ((0 + sz c0) + sz c1) c2) (oset (oset (oset (oset (fun _ => 0) 0 c0) (0 + 1) c1) ((0 + 1) + 1) c2) (((0 + 1) + 1) + 1) 0) ((((0 + sz c0) + sz c1) + sz c2) + 1) (((0 + 1) + 1) + 1) ((((0 + 1) + 1) + 1) + 1) (aLn c2 (aCr c1) (aLn c1 (aCr c0) (aLn c0 (0 : Int32) (1 : Int32)))) (aCo c2 (aCo c1 (aCo c0 (1 : Int32)))) (aCr c2) T17.heap n0 Z17 ⟨E17, F17_bytes, F17_byteLimit, F17_bytePosition, F17_window, F17_start, F17_end, F17_line, F17_column, F17_afterCarriageReturn, Ob17, Ow17⟩ (Ne.symm ne_b4_b8) nuw nbw gb8 gwn) hZ (hw _ (List.mem_of_getElem? (i := 81) rfl)) (hw _ (List.mem_of_getElem? (i := 10) rfl)) (by decide) (by decide)) q35a q35c (g := (mkF m 279 #[.val (.int q1), .val (.int q2), .val (.int q3), .val (.int c0), .val (.int c1), .val (.int c2), .val (.ref b4), .val (.int (Int32.ofNat (((0 + sz c0) + sz c1) + sz c2))), .val (.ref b8), .val (.int (1 : Int32)), .val (.int c2), .val (.int ((((1 : Int32) + (f12 c0 (0 : Int32))) + (f12 c1 (if c0 = (13 : Int32) then (1 : Int32) else (0 : Int32)))) + (f12 c2 (if c1 = (13 : Int32) then (1 : Int32) else (0 : Int32))))), .val (.int (1 : Int32))] [(.ref b8)])) rfl (by rw [hml]; rfl) (Steps.refl _) (argsL := []) (rest := []) (lenOf pd0_6 rfl) rfl (by show 2 * 0 + _ ≤ _; exact Nat.le_of_eq rfl) (hb hby at_279) (fun _ _ => ⟨rfl, e23, (by decide : 3 + 0 ≤ _), (by decide : 529 + 0 ≤ _)⟩)
    dsimp only [Pt.U, Pt.locs, Pt.cells, Pt.slots] at X35 l35 y35 z35 st35 hQ35
    subst l35 y35 z35
    obtain ⟨rfl, Nq35, e35⟩ := hQ35
    have N35 := Fr.app N23 Nq35
    obtain ⟨lo35, X35, N35⟩ : ∃ L, Stand p l e room_1 s m #[(.int q1), (.int q2), (.int q3)] below meth c T35 L 3 529 ∧ Fr n0 L := ⟨_, X35, N35⟩
    refine OGo.st (fun t k => st35.trans k) ?_
    show OGo p e below _ (T35.setTop (mkF m 282 #[.val (.int q1), .val (.int q2), .val (.int q3), .val (.int c0), .val (.int c1), .val (.int c2), .val (.ref b4), .val (.int (Int32.ofNat (((0 + sz c0) + sz c1) + sz c2))), .val (.ref b8), .val (.int (1 : Int32)), .val (.int c2), .val (.int ((((1 : Int32) + (f12 c0 (0 : Int32))) + (f12 c1 (if c0 = (13 : Int32) then (1 : Int32) else (0 : Int32)))) + (f12 c2 (if c1 = (13 : Int32) then (1 : Int32) else (0 : Int32))))), .val (.int (1 : Int32))] [(.int (aLn c2 (aCr c1) (aLn c1 (aCr c0) (aLn c0 (0 : Int32) (1 : Int32)))))]))
    refine OGo.st (fun t k => XS.iload X35.here hx rfl (hb hby at_282) rfl k) ?_
    show OGo p e below _ (T35.setTop (mkF m 284 #[.val (.int q1), .val (.int q2), .val (.int q3), .val (.int c0), .val (.int c1), .val (.int c2), .val (.ref b4), .val (.int (Int32.ofNat (((0 + sz c0) + sz c1) + sz c2))), .val (.ref b8), .val (.int (1 : Int32)), .val (.int c2), .val (.int ((((1 : Int32) + (f12 c0 (0 : Int32))) + (f12 c1 (if c0 = (13 : Int32) then (1 : Int32) else (0 : Int32)))) + (f12 c2 (if c1 = (13 : Int32) then (1 : Int32) else (0 : Int32))))), .val (.int (1 : Int32))] [(.int ((((1 : Int32) + (f12 c0 (0 : Int32))) + (f12 c1 (if c0 = (13 : Int32) then (1 : Int32) else (0 : Int32)))) + (f12 c2 (if c1 = (13 : Int32) then (1 : Int32) else (0 : Int32))))), (.int (aLn c2 (aCr c1) (aLn c1 (aCr c0) (aLn c0 (0 : Int32) (1 : Int32)))))]))
    refine OGo.st (fun t k => XS.icmpNo X35.here hx rfl (hb hby at_284) rfl (teq (own_line c0 c1 c2)).2 k) ?_
    show OGo p e below _ (T35.setTop (mkF m 287 #[.val (.int q1), .val (.int q2), .val (.int q3), .val (.int c0), .val (.int c1), .val (.int c2), .val (.ref b4), .val (.int (Int32.ofNat (((0 + sz c0) + sz c1) + sz c2))), .val (.ref b8), .val (.int (1 : Int32)), .val (.int c2), .val (.int ((((1 : Int32) + (f12 c0 (0 : Int32))) + (f12 c1 (if c0 = (13 : Int32) then (1 : Int32) else (0 : Int32)))) + (f12 c2 (if c1 = (13 : Int32) then (1 : Int32) else (0 : Int32))))), .val (.int (1 : Int32))] []))
    refine OGo.st (fun t k => XS.aload X35.here hx rfl (hb hby at_287) rfl rfl k) ?_
    show OGo p e below _ (T35.setTop (mkF m 289 #[.val (.int q1), .val (.int q2), .val (.int q3), .val (.int c0), .val (.int c1), .val (.int c2), .val (.ref b4), .val (.int (Int32.ofNat (((0 + sz c0) + sz c1) + sz c2))), .val (.ref b8), .val (.int (1 : Int32)), .val (.int c2), .val (.int ((((1 : Int32) + (f12 c0 (0 : Int32))) + (f12 c1 (if c0 = (13 : Int32) then (1 : Int32) else (0 : Int32)))) + (f12 c2 (if c1 = (13 : Int32) then (1 : Int32) else (0 : Int32))))), .val (.int (1 : Int32))] [(.ref b8)]))
    obtain ⟨cq36, kq36, q36a, q36b, q36c⟩ := isOf hZ e35 E17
    obtain ⟨_, _, ⟨T36, L36, k36, n36⟩, -, X36, ⟨Lc36, hQ36, l36, y36, z36⟩, st36⟩ := X35.virtualBack hx (y := (⟨"com/example/triadne/triadne/Utf8Input", "column", "()I"⟩ : MethodName)) (z := (⟨"com/example/triadne/triadne/Utf8Input", "column", "()I"⟩ : MethodName)) hown (mvT hZ (hw _ (List.mem_of_getElem? (i := 82) rfl))) (mvT hZ (hw _ (List.mem_of_getElem? (i := 83) rfl))) (notFace_of_selects (args := #[]) (mvT hZ (hw _ (List.mem_of_getElem? (i := 85) rfl)))) (mvT hZ (hw _ (List.mem_of_getElem? (i := 85) rfl))) (mvT hZ (hw _ (List.mem_of_getElem? (i := 84) rfl))) (by decide) (backOf (W := 0) (rm15 l Z a0 hw [] b8 b4 wn (putF (putF (putF (fun _ => 0) 0 c0) (0 + sz c0) c1) ((0 + sz c0) + sz c1) c2) (oset (oset (oset (oset (fun _ => 0) 0 c0) (0 + 1) c1) ((0 + 1) + 1) c2) (((0 + 1) + 1) + 1) 0) ((((0 + sz c0) + sz c1) + sz c2) + 1) (((0 + 1) + 1) + 1) ((((0 + 1) + 1) + 1) + 1) (aLn c2 (aCr c1) (aLn c1 (aCr c0) (aLn c0 (0 : Int32) (1 : Int32)))) (aCo c2 (aCo c1 (aCo c0 (1 : Int32)))) (aCr c2) T17.heap n0 Z17 ⟨E17, F17_bytes, F17_byteLimit, F17_bytePosition, F17_window, F17_start, F17_end, F17_line, F17_column, F17_afterCarriageReturn, Ob17, Ow17⟩ (Ne.symm ne_b4_b8) nuw nbw gb8 gwn) hZ (hw _ (List.mem_of_getElem? (i := 86) rfl)) (hw _ (List.mem_of_getElem? (i := 10) rfl)) (by decide) (by decide)) q36a q36c (g := (mkF m 289 #[.val (.int q1), .val (.int q2), .val (.int q3), .val (.int c0), .val (.int c1), .val (.int c2), .val (.ref b4), .val (.int (Int32.ofNat (((0 + sz c0) + sz c1) + sz c2))), .val (.ref b8), .val (.int (1 : Int32)), .val (.int c2), .val (.int ((((1 : Int32) + (f12 c0 (0 : Int32))) + (f12 c1 (if c0 = (13 : Int32) then (1 : Int32) else (0 : Int32)))) + (f12 c2 (if c1 = (13 : Int32) then (1 : Int32) else (0 : Int32))))), .val (.int (1 : Int32))] [(.ref b8)])) rfl (by rw [hml]; rfl) (Steps.refl _) (argsL := []) (rest := []) (lenOf pd0_6 rfl) rfl (by show 2 * 0 + _ ≤ _; exact Nat.le_of_eq rfl) (hb hby at_289) (fun _ _ => ⟨rfl, e35, (by decide : 3 + 0 ≤ _), (by decide : 529 + 0 ≤ _)⟩)
    dsimp only [Pt.U, Pt.locs, Pt.cells, Pt.slots] at X36 l36 y36 z36 st36 hQ36
    subst l36 y36 z36
    obtain ⟨rfl, Nq36, e36⟩ := hQ36
    have N36 := Fr.app N35 Nq36
    obtain ⟨lo36, X36, N36⟩ : ∃ L, Stand p l e room_1 s m #[(.int q1), (.int q2), (.int q3)] below meth c T36 L 3 529 ∧ Fr n0 L := ⟨_, X36, N36⟩
    refine OGo.st (fun t k => st36.trans k) ?_
    show OGo p e below _ (T36.setTop (mkF m 292 #[.val (.int q1), .val (.int q2), .val (.int q3), .val (.int c0), .val (.int c1), .val (.int c2), .val (.ref b4), .val (.int (Int32.ofNat (((0 + sz c0) + sz c1) + sz c2))), .val (.ref b8), .val (.int (1 : Int32)), .val (.int c2), .val (.int ((((1 : Int32) + (f12 c0 (0 : Int32))) + (f12 c1 (if c0 = (13 : Int32) then (1 : Int32) else (0 : Int32)))) + (f12 c2 (if c1 = (13 : Int32) then (1 : Int32) else (0 : Int32))))), .val (.int (1 : Int32))] [(.int (aCo c2 (aCo c1 (aCo c0 (1 : Int32)))))]))
    refine OGo.st (fun t k => XS.iload X36.here hx rfl (hb hby at_292) rfl k) ?_
    show OGo p e below _ (T36.setTop (mkF m 294 #[.val (.int q1), .val (.int q2), .val (.int q3), .val (.int c0), .val (.int c1), .val (.int c2), .val (.ref b4), .val (.int (Int32.ofNat (((0 + sz c0) + sz c1) + sz c2))), .val (.ref b8), .val (.int (1 : Int32)), .val (.int c2), .val (.int ((((1 : Int32) + (f12 c0 (0 : Int32))) + (f12 c1 (if c0 = (13 : Int32) then (1 : Int32) else (0 : Int32)))) + (f12 c2 (if c1 = (13 : Int32) then (1 : Int32) else (0 : Int32))))), .val (.int (1 : Int32))] [(.int (1 : Int32)), (.int (aCo c2 (aCo c1 (aCo c0 (1 : Int32)))))]))
    refine OGo.st (fun t k => XS.icmpNo X36.here hx rfl (hb hby at_294) rfl (teq (own_col1 hc239_24)).2 k) ?_
    show OGo p e below _ (T36.setTop (mkF m 297 #[.val (.int q1), .val (.int q2), .val (.int q3), .val (.int c0), .val (.int c1), .val (.int c2), .val (.ref b4), .val (.int (Int32.ofNat (((0 + sz c0) + sz c1) + sz c2))), .val (.ref b8), .val (.int (1 : Int32)), .val (.int c2), .val (.int ((((1 : Int32) + (f12 c0 (0 : Int32))) + (f12 c1 (if c0 = (13 : Int32) then (1 : Int32) else (0 : Int32)))) + (f12 c2 (if c1 = (13 : Int32) then (1 : Int32) else (0 : Int32))))), .val (.int (1 : Int32))] []))
    refine OGo.st (fun t k => XS.iconst X36.here hx rfl (hb hby at_297) k) ?_
    show OGo p e below _ (T36.setTop (mkF m 298 #[.val (.int q1), .val (.int q2), .val (.int q3), .val (.int c0), .val (.int c1), .val (.int c2), .val (.ref b4), .val (.int (Int32.ofNat (((0 + sz c0) + sz c1) + sz c2))), .val (.ref b8), .val (.int (1 : Int32)), .val (.int c2), .val (.int ((((1 : Int32) + (f12 c0 (0 : Int32))) + (f12 c1 (if c0 = (13 : Int32) then (1 : Int32) else (0 : Int32)))) + (f12 c2 (if c1 = (13 : Int32) then (1 : Int32) else (0 : Int32))))), .val (.int (1 : Int32))] [(.int (1 : Int32))]))
    refine OGo.st (fun t k => XS.goto X36.here hx rfl (pc0 := 298) (pc' := 302) rfl (hb hby at_298) (by decide) (by decide) k) ?_
    show OGo p e below _ (T36.setTop (mkF m 302 #[.val (.int q1), .val (.int q2), .val (.int q3), .val (.int c0), .val (.int c1), .val (.int c2), .val (.ref b4), .val (.int (Int32.ofNat (((0 + sz c0) + sz c1) + sz c2))), .val (.ref b8), .val (.int (1 : Int32)), .val (.int c2), .val (.int ((((1 : Int32) + (f12 c0 (0 : Int32))) + (f12 c1 (if c0 = (13 : Int32) then (1 : Int32) else (0 : Int32)))) + (f12 c2 (if c1 = (13 : Int32) then (1 : Int32) else (0 : Int32))))), .val (.int (1 : Int32))] [(.int (1 : Int32))]))
    exact OGo.outN X36 hx (t := .boolean) Bd.returns (by simp) Bd.notSynchronized (hb hby at_302) ⟨rfl, N36⟩ (by decide) (by decide)
set_option maxRecDepth 65536 in
set_option maxHeartbeats 40000000 in
theorem comes_1 {Post : Tables → Env → Array Value → State → Outcome → State → Prop} (hpost : ∀ tb e args s v u, (limb_1_1.after args s (.returned v) u = true ∧ limb_1_2.after args s (.returned v) u = true ∧ True) → FrameEnd s (.returned v) u (Jvm.fieldLocs frame_1_writes args s ++ Jvm.arrayLocs frame_1_arrays args s ++ Jvm.staticLocs frame_1_statics s) 16 1152 → Post tb e args s (.returned v) u) :
    ArmFor flags0 classFile x code maxLocals ret World_1 tables_1 room_1 Calls_1 rest_1 Pre_1 Post := by
  intro l hfl _ _ p e ha hc hk s m args below hf hA hF happ hP
  obtain ⟨hcalls, hrest, hpre⟩ := hP
  obtain ⟨-, -, -, hnamed, -, -, -, hat⟩ := (Spec.applies_iff hf).mp happ
  obtain ⟨hg, hn⟩ := and_e (Cond.before_iff.mp (show (Jvm.Cond.and given_1 narrow_1).before args s = true from hpre))
  obtain ⟨gg1, gg2⟩ := and_e hg
  obtain ⟨gg3, gg4⟩ := and_e gg2
  obtain ⟨gg5, gg6⟩ := and_e gg4
  obtain ⟨w0, w1, w2, rfl⟩ : ∃ w0 w1 w2 : Value, args = #[w0, w1, w2] := by
    have hs : args.size = 3 := by simpa [Cond.value, given_1] using gg1
    obtain ⟨L⟩ := args
    match L, hs with
    | [w0, w1, w2], _ => exact ⟨w0, w1, w2, rfl⟩
  have hw := fun d (hd : d ∈ tables_1) => atoms_spec (ws := Jvm.Cond.code x code maxLocals ret :: tables_1) hat d (List.mem_cons_of_mem _ hd)
  obtain ⟨i0, ei0⟩ := is_v gg3
  obtain rfl : w0 = (.int i0) := Option.some.inj ei0
  obtain ⟨i1, ei1⟩ := is_v gg5
  obtain rfl : w1 = (.int i1) := Option.some.inj ei1
  obtain ⟨i2, ei2⟩ := is_v gg6
  obtain rfl : w2 = (.int i2) := Option.some.inj ei2
  obtain ⟨n, o, h1, h2, h3, _, L, rfl, ⟨rfl, N⟩, hq⟩ := rm0 l s _ hw tables_1 i0 i1 i2 s.heap s.heap.size (Nat.le_refl _) p e ha hc hk s m _ below hf ((Spec.applies_iff_loose hf).mp happ).1 ⟨rfl, State.Warmed39.refl s, rfl⟩ trivial
  refine ⟨n, _, h1, h2, h3, hpost _ _ _ _ _ _ ⟨Cond.after_iff.mpr rfl, Cond.after_iff.mpr (eq_i res_at (Term.int_eval (1)) rfl), trivial⟩ ⟨hq.1, hq.2.1, (hq.2.2.sift fun y hy => Or.inr (N y hy)).mono (by decide) (by decide)⟩⟩
theorem main_1_1 : Claimed_1_1 := comes_1 fun _ _ _ _ _ _ h hF => ⟨h.1, hF⟩
theorem main_1_2 : Claimed_1_2 := comes_1 fun _ _ _ _ _ _ h hF => ⟨h.2.1, hF⟩
end Jvm.Pilot.@@N@@
namespace Jvm.Pilot.@@N@@
open Jvm Jvm.ClassFile Sem Op Lib Jvm.Free Jvm.Stand Jvm.Pilot.@@N@@.Jvm.D
/-! MADE BY PROGRAM (witnessworld.py) out of the Statement's table words and the real class files: 10 classes; the members and pool entries that the words name. The judged class is class 1, her method 5. -/
namespace start1
open Jvm.ClassFile
def u (s : String) : CpInfo := .utf8 (stringToUtf16 s)
/-- a pool by its gaps: so many unusable entries, then the entry; so many at the end -/
def gap : Nat → List CpInfo → List CpInfo
  | 0, r => r
  | n + 1, r => .unusable :: gap n r
def poolList (es : List (Nat × CpInfo)) (last : Nat) : List CpInfo := es.foldr (fun e r => gap e.1 (e.2 :: r)) (gap last [])
def pool (es : List (Nat × CpInfo)) (last : Nat) : Array CpInfo := ⟨poolList es last⟩
def fileOf (pool : Array CpInfo) (this : Nat) (attrs : Array Attribute := #[]) (ms : Array MethodInfo := #[]) (fl : Nat := 33) (sup : Nat := 0) (ifs : Array Nat := #[]) (fds : Array FieldInfo := #[]) : ClassFile where
  minorVersion := 0
  majorVersion := 65
  constantPool := pool
  accessFlags := fl
  thisClass := this
  superClass := sup
  interfaces := ifs
  fields := fds
  methods := ms
  attributes := attrs
def plain (name : String) (sup : Option ClassId) : Class where
  name := name
  kind := .ordinary
  loader := none
  accessFlags := 33
  super := sup
  interfaces := #[]
  cf := none
  fields := #[]
  methods := #[]
  instanceTypes := #[]
  staticTypes := #[]
  resolved := #[]
  callSites := []
  init := .initialized
  statics := none
  mirror := none

def pool0 : Array CpInfo := pool [(5, u "<init>"), (0, u "()V"), (1, .class_ 10), (1, u "java/lang/Object")] 113

def k0c0 : Code := { maxStack := 0, maxLocals := 1, code := object_method_1_code, exceptionTable := #[], attributes := #[] }
def k0m0 : Method := { name := "<init>", desc := "()V", sig := { parameters := [], returnType := none }, accessFlags := 1, code := some k0c0 }
/-- java/lang/Object -/
def k0 : Class := { plain "java/lang/Object" none with
  accessFlags := 33
  interfaces := #[]
  cf := some (fileOf pool0 8 #[] #[{ accessFlags := 1, nameIndex := 5, descriptorIndex := 6, attributes := #[] }] 33 0 #[] #[])
  fields := #[]
  methods := #[k0m0]
  instanceTypes := #[]
  staticTypes := #[]
  resolved := Array.replicate 124 none
  statics := none }

def pool1 : Array CpInfo := pool [(2, .class_ 4), (1, u "java/lang/Object"), (0, u "<init>"), (0, u "()V"), (0, .methodref 8 9), (0, .class_ 10), (0, .nameAndType 11 12), (0, u "com/example/triadne/triadne/Utf8InputAdvancePinLaw"), (0, u "pick"), (0, u "(I)I"), (0, .methodref 8 14), (0, .nameAndType 15 16), (0, u "put"), (0, u "([BII)I"), (0, .class_ 18), (0, u "com/example/triadne/triadne/Utf8Input"), (0, .methodref 17 20), (0, .nameAndType 5 21), (0, u "([B)V"), (0, .methodref 17 23), (0, .nameAndType 24 12), (0, u "peek"), (0, .methodref 17 26), (0, .nameAndType 27 28), (0, u "advance"), (0, u "(I)V"), (0, .methodref 8 30), (0, .nameAndType 31 32), (0, u "breaks"), (0, u "(IZ)I"), (0, .methodref 8 34), (0, .nameAndType 35 36), (0, u "isBreak"), (0, u "(I)Z"), (0, .methodref 17 38), (0, .nameAndType 39 40), (0, u "line"), (0, u "()I"), (0, .methodref 17 42), (0, .nameAndType 43 40), (0, u "column"), (3, u "law"), (0, u "(III)Z")] 4

def k1m0 : Method := { name := "<init>", desc := "()V", sig := { parameters := [], returnType := none }, accessFlags := 1, code := none }
def k1c1 : Code := { maxStack := 2, maxLocals := 2, code := method_2_code, exceptionTable := #[], attributes := #[] }
def k1m1 : Method := { name := "pick", desc := "(I)I", sig := { parameters := [.int], returnType := some .int }, accessFlags := 10, code := some k1c1 }
def k1c2 : Code := { maxStack := 5, maxLocals := 3, code := method_3_code, exceptionTable := #[], attributes := #[] }
def k1m2 : Method := { name := "put", desc := "([BII)I", sig := { parameters := [(.array .byte), .int, .int], returnType := some .int }, accessFlags := 10, code := some k1c2 }
def k1c3 : Code := { maxStack := 2, maxLocals := 1, code := method_4_code, exceptionTable := #[], attributes := #[] }
def k1m3 : Method := { name := "isBreak", desc := "(I)Z", sig := { parameters := [.int], returnType := some .boolean }, accessFlags := 10, code := some k1c3 }
def k1c4 : Code := { maxStack := 2, maxLocals := 2, code := method_5_code, exceptionTable := #[], attributes := #[] }
def k1m4 : Method := { name := "breaks", desc := "(IZ)I", sig := { parameters := [.int, .boolean], returnType := some .int }, accessFlags := 10, code := some k1c4 }
def k1c5 : Code := { maxStack := 4, maxLocals := 13, code := code, exceptionTable := #[], attributes := #[] }
def k1m5 : Method := { name := "law", desc := "(III)Z", sig := { parameters := [.int, .int, .int], returnType := some .boolean }, accessFlags := 9, code := some k1c5 }
/-- com/example/triadne/triadne/Utf8InputAdvancePinLaw -/
def k1 : Class := { plain "com/example/triadne/triadne/Utf8InputAdvancePinLaw" (some 0) with
  accessFlags := 49
  interfaces := #[]
  cf := some (fileOf pool1 8 #[] #[{ accessFlags := 1, nameIndex := 5, descriptorIndex := 6, attributes := #[] }, { accessFlags := 10, nameIndex := 11, descriptorIndex := 12, attributes := #[] }, { accessFlags := 10, nameIndex := 15, descriptorIndex := 16, attributes := #[] }, { accessFlags := 10, nameIndex := 35, descriptorIndex := 36, attributes := #[] }, { accessFlags := 10, nameIndex := 31, descriptorIndex := 32, attributes := #[] }, { accessFlags := 9, nameIndex := 47, descriptorIndex := 48, attributes := #[] }] 49 2 #[] #[])
  fields := #[]
  methods := #[k1m0, k1m1, k1m2, k1m3, k1m4, k1m5]
  instanceTypes := #[]
  staticTypes := #[]
  resolved := Array.replicate 53 none
  statics := none }

def pool2 : Array CpInfo := pool [(1, .methodref 2 3), (0, .class_ 4), (0, .nameAndType 5 6), (0, u "java/lang/Object"), (0, u "<init>"), (0, u "()V"), (1, .class_ 10), (1, u "com/example/triadne/triadne/Input"), (84, u "EOF"), (0, u "I"), (2, u "MALFORMED")] 31

def k2c0 : Code := { maxStack := 1, maxLocals := 1, code := prog_68_method_1_code, exceptionTable := #[], attributes := #[] }
def k2m0 : Method := { name := "<init>", desc := "()V", sig := { parameters := [], returnType := none }, accessFlags := 0, code := some k2c0 }
/-- com/example/triadne/triadne/Input -/
def k2 : Class := { plain "com/example/triadne/triadne/Input" (some 0) with
  accessFlags := 1056
  interfaces := #[]
  cf := some (fileOf pool2 8 #[] #[{ accessFlags := 0, nameIndex := 5, descriptorIndex := 6, attributes := #[] }] 1056 2 #[] #[{ accessFlags := 24, nameIndex := 95, descriptorIndex := 96, attributes := #[] }, { accessFlags := 24, nameIndex := 99, descriptorIndex := 96, attributes := #[] }])
  fields := #[{ name := "EOF", type := .int, accessFlags := 24, slot := 0, constantValue := 0 }, { name := "MALFORMED", type := .int, accessFlags := 24, slot := 1, constantValue := 0 }]
  methods := #[k2m0]
  instanceTypes := #[]
  staticTypes := #[.int, .int]
  resolved := Array.replicate 131 none
  statics := none }

def pool3 : Array CpInfo := pool [(1, .methodref 2 3), (0, .class_ 4), (0, .nameAndType 5 6), (0, u "com/example/triadne/triadne/Input"), (0, u "<init>"), (0, u "()V"), (0, .fieldref 8 9), (0, .class_ 10), (0, .nameAndType 11 12), (0, u "com/example/triadne/triadne/Utf8Input"), (0, u "window"), (0, u "[I"), (0, .fieldref 8 14), (0, .nameAndType 15 16), (0, u "line"), (0, u "I"), (0, .fieldref 8 18), (0, .nameAndType 19 16), (0, u "column"), (1, u "in"), (8, .fieldref 8 31), (0, .nameAndType 21 32), (0, u "Ljava/io/InputStream;"), (0, .integer 65536), (0, .fieldref 8 35), (0, .nameAndType 36 37), (0, u "bytes"), (0, u "[B"), (0, .fieldref 8 39), (0, .nameAndType 40 16), (0, u "byteLimit"), (0, .fieldref 8 42), (0, .nameAndType 43 16), (0, u "end"), (0, .fieldref 8 45), (0, .nameAndType 46 16), (0, u "start"), (0, .methodref 8 48), (0, .nameAndType 49 50), (0, u "decodeOne"), (0, u "()Z"), (0, .fieldref 8 52), (0, .nameAndType 53 54), (0, u "afterCarriageReturn"), (0, u "Z"), (4, u "append"), (1, .fieldref 8 62), (0, .nameAndType 63 16), (0, u "bytePosition"), (11, .methodref 8 76), (0, .nameAndType 77 78), (0, u "readByte"), (0, u "()I"), (0, .methodref 8 80), (0, .nameAndType 59 81), (0, u "(I)V"), (0, .methodref 8 83), (0, .nameAndType 84 78), (0, u "peekByte"), (2, .integer 1114111), (0, .integer 55296), (0, .integer 57343), (26, u "([B)V"), (0, u "peek"), (0, u "(I)I"), (1, u "advance")] 6

def k3c0 : Code := { maxStack := 2, maxLocals := 2, code := prog_169_method_2_code, exceptionTable := #[], attributes := #[] }
def k3m0 : Method := { name := "<init>", desc := "([B)V", sig := { parameters := [(.array .byte)], returnType := none }, accessFlags := 0, code := some k3c0 }
def k3c1 : Code := { maxStack := 3, maxLocals := 2, code := prog_169_method_3_code, exceptionTable := #[], attributes := #[] }
def k3m1 : Method := { name := "peek", desc := "(I)I", sig := { parameters := [.int], returnType := some .int }, accessFlags := 0, code := some k3c1 }
def k3c2 : Code := { maxStack := 3, maxLocals := 2, code := prog_169_method_4_code, exceptionTable := #[], attributes := #[] }
def k3m2 : Method := { name := "advance", desc := "(I)V", sig := { parameters := [.int], returnType := none }, accessFlags := 0, code := some k3c2 }
def k3c3 : Code := { maxStack := 1, maxLocals := 1, code := prog_169_method_7_code, exceptionTable := #[], attributes := #[] }
def k3m3 : Method := { name := "line", desc := "()I", sig := { parameters := [], returnType := some .int }, accessFlags := 0, code := some k3c3 }
def k3c4 : Code := { maxStack := 1, maxLocals := 1, code := prog_169_method_8_code, exceptionTable := #[], attributes := #[] }
def k3m4 : Method := { name := "column", desc := "()I", sig := { parameters := [], returnType := some .int }, accessFlags := 0, code := some k3c4 }
def k3c5 : Code := { maxStack := 3, maxLocals := 7, code := prog_169_method_9_code, exceptionTable := #[], attributes := #[] }
def k3m5 : Method := { name := "decodeOne", desc := "()Z", sig := { parameters := [], returnType := some .boolean }, accessFlags := 2, code := some k3c5 }
def k3c6 : Code := { maxStack := 6, maxLocals := 2, code := prog_169_method_10_code, exceptionTable := #[], attributes := #[] }
def k3m6 : Method := { name := "append", desc := "(I)V", sig := { parameters := [.int], returnType := none }, accessFlags := 2, code := some k3c6 }
def k3c7 : Code := { maxStack := 2, maxLocals := 1, code := prog_169_method_11_code, exceptionTable := #[], attributes := #[] }
def k3m7 : Method := { name := "peekByte", desc := "()I", sig := { parameters := [], returnType := some .int }, accessFlags := 2, code := some k3c7 }
def k3c8 : Code := { maxStack := 3, maxLocals := 2, code := prog_169_method_12_code, exceptionTable := #[], attributes := #[] }
def k3m8 : Method := { name := "readByte", desc := "()I", sig := { parameters := [], returnType := some .int }, accessFlags := 2, code := some k3c8 }
/-- com/example/triadne/triadne/Utf8Input -/
def k3 : Class := { plain "com/example/triadne/triadne/Utf8Input" (some 2) with
  accessFlags := 48
  interfaces := #[]
  cf := some (fileOf pool3 8 #[] #[{ accessFlags := 0, nameIndex := 5, descriptorIndex := 116, attributes := #[] }, { accessFlags := 0, nameIndex := 117, descriptorIndex := 118, attributes := #[] }, { accessFlags := 0, nameIndex := 120, descriptorIndex := 81, attributes := #[] }, { accessFlags := 0, nameIndex := 15, descriptorIndex := 78, attributes := #[] }, { accessFlags := 0, nameIndex := 19, descriptorIndex := 78, attributes := #[] }, { accessFlags := 2, nameIndex := 49, descriptorIndex := 50, attributes := #[] }, { accessFlags := 2, nameIndex := 59, descriptorIndex := 81, attributes := #[] }, { accessFlags := 2, nameIndex := 84, descriptorIndex := 78, attributes := #[] }, { accessFlags := 2, nameIndex := 77, descriptorIndex := 78, attributes := #[] }] 48 2 #[] #[{ accessFlags := 18, nameIndex := 21, descriptorIndex := 32, attributes := #[] }, { accessFlags := 18, nameIndex := 36, descriptorIndex := 37, attributes := #[] }, { accessFlags := 2, nameIndex := 63, descriptorIndex := 16, attributes := #[] }, { accessFlags := 2, nameIndex := 40, descriptorIndex := 16, attributes := #[] }, { accessFlags := 2, nameIndex := 11, descriptorIndex := 12, attributes := #[] }, { accessFlags := 2, nameIndex := 46, descriptorIndex := 16, attributes := #[] }, { accessFlags := 2, nameIndex := 43, descriptorIndex := 16, attributes := #[] }, { accessFlags := 2, nameIndex := 15, descriptorIndex := 16, attributes := #[] }, { accessFlags := 2, nameIndex := 19, descriptorIndex := 16, attributes := #[] }, { accessFlags := 2, nameIndex := 53, descriptorIndex := 54, attributes := #[] }])
  fields := #[{ name := "in", type := (.object "java/io/InputStream"), accessFlags := 18, slot := 0, constantValue := 0 }, { name := "bytes", type := (.array .byte), accessFlags := 18, slot := 1, constantValue := 0 }, { name := "bytePosition", type := .int, accessFlags := 2, slot := 2, constantValue := 0 }, { name := "byteLimit", type := .int, accessFlags := 2, slot := 3, constantValue := 0 }, { name := "window", type := (.array .int), accessFlags := 2, slot := 4, constantValue := 0 }, { name := "start", type := .int, accessFlags := 2, slot := 5, constantValue := 0 }, { name := "end", type := .int, accessFlags := 2, slot := 6, constantValue := 0 }, { name := "line", type := .int, accessFlags := 2, slot := 7, constantValue := 0 }, { name := "column", type := .int, accessFlags := 2, slot := 8, constantValue := 0 }, { name := "afterCarriageReturn", type := .boolean, accessFlags := 2, slot := 9, constantValue := 0 }]
  methods := #[k3m0, k3m1, k3m2, k3m3, k3m4, k3m5, k3m6, k3m7, k3m8]
  instanceTypes := #[(.object "java/io/InputStream"), (.array .byte), .int, .int, (.array .int), .int, .int, .int, .int, .boolean]
  staticTypes := #[]
  resolved := Array.replicate 127 none
  statics := none }

def pool4 : Array CpInfo := pool [(1, u "java/lang/Cloneable"), (0, .class_ 1), (0, u "java/lang/Object"), (0, .class_ 3)] 3

/-- java/lang/Cloneable -/
def k4 : Class := { plain "java/lang/Cloneable" (some 0) with
  accessFlags := 1537
  interfaces := #[]
  cf := some (fileOf pool4 2 #[] #[] 1537 4 #[] #[])
  fields := #[]
  methods := #[]
  instanceTypes := #[]
  staticTypes := #[]
  resolved := Array.replicate 8 none
  statics := none }

def pool5 : Array CpInfo := pool [(1, u "java/io/Serializable"), (0, .class_ 1), (0, u "java/lang/Object"), (0, .class_ 3)] 3

/-- java/io/Serializable -/
def k5 : Class := { plain "java/io/Serializable" (some 0) with
  accessFlags := 1537
  interfaces := #[]
  cf := some (fileOf pool5 2 #[] #[] 1537 4 #[] #[])
  fields := #[]
  methods := #[]
  instanceTypes := #[]
  staticTypes := #[]
  resolved := Array.replicate 8 none
  statics := none }

/-- the primitive byte -/
def k6 : Class := { plain "byte" none with kind := .primitive 'B', accessFlags := 0x411 }
/-- [B -/
def k7 : Class := { plain "[B" (some 0) with kind := .array 6 .byte, interfaces := #[4, 5], accessFlags := 1041 }

/-- the primitive int -/
def k8 : Class := { plain "int" none with kind := .primitive 'I', accessFlags := 0x411 }
/-- [I -/
def k9 : Class := { plain "[I" (some 0) with kind := .array 8 .int, interfaces := #[4, 5], accessFlags := 1041 }

def heap : Heap := #[]
def classes : Array Class := #[k0, k1, k2, k3, k4, k5, k6, k7, k8, k9]
def interned : List (Array UInt16 × Addr) := []
def slotsUsed : Nat := 0
def theMethod : MethodId := ⟨1, 5⟩
def args0 : Array Value := #[.int 5, .int 3, .int 7]
def aboutOver (below : List Frame) : State where
  vm := { classes := classes, interned := interned.toArray }
  heap := heap
  slotsUsed := slotsUsed
  threads := #[{ frames := .invoking theMethod args0 :: below }]
def below0 : List Frame := [.native { method := ⟨0, 0⟩, args := #[] }]
def about1 : State := aboutOver below0
def p0 : Program := .bare "" "" ""
def e0 : Env := launch0.env 0 0 0
theorem w_frames : about1.frames = Frame.invoking theMethod args0 :: below0 := rfl
set_option maxRecDepth 65536 in
theorem w_args : argsFit about1.vm theMethod args0 = true := by decide +kernel
set_option maxRecDepth 65536 in
theorem w_heap : heapFits about1 = true := by decide +kernel
set_option maxRecDepth 65536 in
theorem w_runnable : about1.curStatus? = some .runnable := by decide +kernel
set_option maxRecDepth 65536 in
theorem w_alone : about1.alone = true := by decide +kernel
set_option maxRecDepth 65536 in
theorem w_named : about1.methodNamed? x = some theMethod := by decide +kernel
set_option maxRecDepth 65536 in
theorem w_hears : about1.hears theMethod below0 = true := by decide +kernel
set_option maxRecDepth 65536 in
theorem w_ripe : about1.ripe theMethod args0 below0 = true := by decide +kernel
theorem w_running : about1.status = .running := rfl
set_option maxRecDepth 65536 in
theorem w_room : about1.hasRoom e0.platform room_1 = true :=
  launch0.hasRoom_least _ room_1 (by decide +kernel) (by decide +kernel) (by decide +kernel) (by decide +kernel) (by decide +kernel) (by decide +kernel)
theorem allAtoms_all (ts : List Jvm.Cond) (a : Array Jvm.Value) (st : Jvm.State) : (allAtoms ts).before a st = ts.all (fun c => c.before a st) := by
  induction ts with
  | nil => rfl
  | cons c t ih =>
    show (Jvm.Cond.and c (allAtoms t)).before a st = _
    rw [Jvm.Cond.before_and, ih, List.all_cons]
def words1 : List Jvm.Cond := Jvm.Cond.code x code maxLocals ret :: tables_1
/-- a 'code' word, met by the world's own term for the bytes: nothing is compared byte by byte -/
theorem code_word {y : MethodName} {bytes : ByteArray} {mx : Nat} {rt : Option FieldType} {a : Array Value} {s : State} {m : MethodId} {meth : Method} {c : Code} (h1 : s.methodNamed? y = some m) (h2 : s.vm.method? m = some meth) (h3 : meth.code = some c) (h4 : c.code = bytes)
    (h5 : (c.maxLocals == mx && c.exceptionTable.isEmpty && decide (c.maxStack ≤ mostOperands) && decide (meth.sig.returnType = rt) && !meth.locks && decide (parseMethodDescriptor y.desc = some meth.sig)) = true) : (Jvm.Cond.code y bytes mx rt).before a s = true := by
  simp only [Bool.and_eq_true, beq_iff_eq, Bool.not_eq_true', decide_eq_true_eq] at h5
  obtain ⟨⟨⟨⟨⟨g1, g2⟩, g3⟩, g4⟩, g5⟩, g6⟩ := h5
  simp [Cond.before, Cond.holds, Cond.value, h1, h2, h3, h4, g1, g2, g3, g4, g5, g6]
def isCode : Jvm.Cond → Bool
  | .code _ _ _ _ => true
  | _ => false
theorem all_split {L : List Jvm.Cond} {P : Jvm.Cond → Bool} (h1 : L.all (fun c => isCode c || P c) = true) (h2 : ∀ c ∈ L.filter isCode, P c = true) : L.all P = true := by
  refine List.all_eq_true.mpr fun c hc => ?_
  have h := List.all_eq_true.mp h1 c hc
  rcases Bool.eq_false_or_eq_true (isCode c) with hi | hi
  · exact h2 c (List.mem_filter.mpr ⟨hc, hi⟩)
  · simpa [hi] using h
set_option maxRecDepth 65536 in
theorem w_c0 : (Jvm.Cond.code x code maxLocals ret).before args0 about1 = true := code_word (m := ⟨1, 5⟩) (meth := k1m5) (c := k1c5) (by decide +kernel) rfl rfl rfl (by decide +kernel)
set_option maxRecDepth 65536 in
theorem w_c1 : (Jvm.Cond.code ({ cls := "com/example/triadne/triadne/Utf8InputAdvancePinLaw", name := "pick", desc := "(I)I" } : Jvm.MethodName) method_2_code (2 : Nat) (Option.some Jvm.ClassFile.FieldType.int)).before args0 about1 = true := code_word (m := ⟨1, 1⟩) (meth := k1m1) (c := k1c1) (by decide +kernel) rfl rfl rfl (by decide +kernel)
set_option maxRecDepth 65536 in
theorem w_c2 : (Jvm.Cond.code ({ cls := "com/example/triadne/triadne/Utf8InputAdvancePinLaw", name := "put", desc := "([BII)I" } : Jvm.MethodName) method_3_code (3 : Nat) (Option.some Jvm.ClassFile.FieldType.int)).before args0 about1 = true := code_word (m := ⟨1, 2⟩) (meth := k1m2) (c := k1c2) (by decide +kernel) rfl rfl rfl (by decide +kernel)
set_option maxRecDepth 65536 in
theorem w_c3 : (Jvm.Cond.code ({ cls := "com/example/triadne/triadne/Utf8Input", name := "<init>", desc := "([B)V" } : Jvm.MethodName) prog_169_method_2_code (2 : Nat) (Option.none : Option Jvm.ClassFile.FieldType)).before args0 about1 = true := code_word (m := ⟨3, 0⟩) (meth := k3m0) (c := k3c0) (by decide +kernel) rfl rfl rfl (by decide +kernel)
set_option maxRecDepth 65536 in
theorem w_c4 : (Jvm.Cond.code ({ cls := "com/example/triadne/triadne/Input", name := "<init>", desc := "()V" } : Jvm.MethodName) prog_68_method_1_code (1 : Nat) (Option.none : Option Jvm.ClassFile.FieldType)).before args0 about1 = true := code_word (m := ⟨2, 0⟩) (meth := k2m0) (c := k2c0) (by decide +kernel) rfl rfl rfl (by decide +kernel)
set_option maxRecDepth 65536 in
theorem w_c5 : (Jvm.Cond.code ({ cls := "java/lang/Object", name := "<init>", desc := "()V" } : Jvm.MethodName) object_method_1_code (1 : Nat) (Option.none : Option Jvm.ClassFile.FieldType)).before args0 about1 = true := code_word (m := ⟨0, 0⟩) (meth := k0m0) (c := k0c0) (by decide +kernel) rfl rfl rfl (by decide +kernel)
set_option maxRecDepth 65536 in
theorem w_c6 : (Jvm.Cond.code ({ cls := "com/example/triadne/triadne/Utf8Input", name := "peek", desc := "(I)I" } : Jvm.MethodName) prog_169_method_3_code (2 : Nat) (Option.some Jvm.ClassFile.FieldType.int)).before args0 about1 = true := code_word (m := ⟨3, 1⟩) (meth := k3m1) (c := k3c1) (by decide +kernel) rfl rfl rfl (by decide +kernel)
set_option maxRecDepth 65536 in
theorem w_c7 : (Jvm.Cond.code ({ cls := "com/example/triadne/triadne/Utf8Input", name := "decodeOne", desc := "()Z" } : Jvm.MethodName) prog_169_method_9_code (7 : Nat) (Option.some Jvm.ClassFile.FieldType.boolean)).before args0 about1 = true := code_word (m := ⟨3, 5⟩) (meth := k3m5) (c := k3c5) (by decide +kernel) rfl rfl rfl (by decide +kernel)
set_option maxRecDepth 65536 in
theorem w_c8 : (Jvm.Cond.code ({ cls := "com/example/triadne/triadne/Utf8Input", name := "readByte", desc := "()I" } : Jvm.MethodName) prog_169_method_12_code (2 : Nat) (Option.some Jvm.ClassFile.FieldType.int)).before args0 about1 = true := code_word (m := ⟨3, 8⟩) (meth := k3m8) (c := k3c8) (by decide +kernel) rfl rfl rfl (by decide +kernel)
set_option maxRecDepth 65536 in
theorem w_c9 : (Jvm.Cond.code ({ cls := "com/example/triadne/triadne/Utf8Input", name := "peekByte", desc := "()I" } : Jvm.MethodName) prog_169_method_11_code (1 : Nat) (Option.some Jvm.ClassFile.FieldType.int)).before args0 about1 = true := code_word (m := ⟨3, 7⟩) (meth := k3m7) (c := k3c7) (by decide +kernel) rfl rfl rfl (by decide +kernel)
set_option maxRecDepth 65536 in
theorem w_c10 : (Jvm.Cond.code ({ cls := "com/example/triadne/triadne/Utf8Input", name := "append", desc := "(I)V" } : Jvm.MethodName) prog_169_method_10_code (2 : Nat) (Option.none : Option Jvm.ClassFile.FieldType)).before args0 about1 = true := code_word (m := ⟨3, 6⟩) (meth := k3m6) (c := k3c6) (by decide +kernel) rfl rfl rfl (by decide +kernel)
set_option maxRecDepth 65536 in
theorem w_c11 : (Jvm.Cond.code ({ cls := "com/example/triadne/triadne/Utf8Input", name := "advance", desc := "(I)V" } : Jvm.MethodName) prog_169_method_4_code (2 : Nat) (Option.none : Option Jvm.ClassFile.FieldType)).before args0 about1 = true := code_word (m := ⟨3, 2⟩) (meth := k3m2) (c := k3c2) (by decide +kernel) rfl rfl rfl (by decide +kernel)
set_option maxRecDepth 65536 in
theorem w_c12 : (Jvm.Cond.code ({ cls := "com/example/triadne/triadne/Utf8InputAdvancePinLaw", name := "breaks", desc := "(IZ)I" } : Jvm.MethodName) method_5_code (2 : Nat) (Option.some Jvm.ClassFile.FieldType.int)).before args0 about1 = true := code_word (m := ⟨1, 4⟩) (meth := k1m4) (c := k1c4) (by decide +kernel) rfl rfl rfl (by decide +kernel)
set_option maxRecDepth 65536 in
theorem w_c13 : (Jvm.Cond.code ({ cls := "com/example/triadne/triadne/Utf8InputAdvancePinLaw", name := "isBreak", desc := "(I)Z" } : Jvm.MethodName) method_4_code (1 : Nat) (Option.some Jvm.ClassFile.FieldType.boolean)).before args0 about1 = true := code_word (m := ⟨1, 3⟩) (meth := k1m3) (c := k1c3) (by decide +kernel) rfl rfl rfl (by decide +kernel)
set_option maxRecDepth 65536 in
theorem w_c14 : (Jvm.Cond.code ({ cls := "com/example/triadne/triadne/Utf8Input", name := "line", desc := "()I" } : Jvm.MethodName) prog_169_method_7_code (1 : Nat) (Option.some Jvm.ClassFile.FieldType.int)).before args0 about1 = true := code_word (m := ⟨3, 3⟩) (meth := k3m3) (c := k3c3) (by decide +kernel) rfl rfl rfl (by decide +kernel)
set_option maxRecDepth 65536 in
theorem w_c15 : (Jvm.Cond.code ({ cls := "com/example/triadne/triadne/Utf8Input", name := "column", desc := "()I" } : Jvm.MethodName) prog_169_method_8_code (1 : Nat) (Option.some Jvm.ClassFile.FieldType.int)).before args0 about1 = true := code_word (m := ⟨3, 4⟩) (meth := k3m4) (c := k3c4) (by decide +kernel) rfl rfl rfl (by decide +kernel)
def codes1 : List Jvm.Cond := [Jvm.Cond.code x code maxLocals ret, Jvm.Cond.code ({ cls := "com/example/triadne/triadne/Utf8InputAdvancePinLaw", name := "pick", desc := "(I)I" } : Jvm.MethodName) method_2_code (2 : Nat) (Option.some Jvm.ClassFile.FieldType.int), Jvm.Cond.code ({ cls := "com/example/triadne/triadne/Utf8InputAdvancePinLaw", name := "put", desc := "([BII)I" } : Jvm.MethodName) method_3_code (3 : Nat) (Option.some Jvm.ClassFile.FieldType.int), Jvm.Cond.code ({ cls := "com/example/triadne/triadne/Utf8Input", name := "<init>", desc := "([B)V" } : Jvm.MethodName) prog_169_method_2_code (2 : Nat) (Option.none : Option Jvm.ClassFile.FieldType), Jvm.Cond.code ({ cls := "com/example/triadne/triadne/Input", name := "<init>", desc := "()V" } : Jvm.MethodName) prog_68_method_1_code (1 : Nat) (Option.none : Option Jvm.ClassFile.FieldType), Jvm.Cond.code ({ cls := "java/lang/Object", name := "<init>", desc := "()V" } : Jvm.MethodName) object_method_1_code (1 : Nat) (Option.none : Option Jvm.ClassFile.FieldType), Jvm.Cond.code ({ cls := "com/example/triadne/triadne/Utf8Input", name := "peek", desc := "(I)I" } : Jvm.MethodName) prog_169_method_3_code (2 : Nat) (Option.some Jvm.ClassFile.FieldType.int), Jvm.Cond.code ({ cls := "com/example/triadne/triadne/Utf8Input", name := "decodeOne", desc := "()Z" } : Jvm.MethodName) prog_169_method_9_code (7 : Nat) (Option.some Jvm.ClassFile.FieldType.boolean), Jvm.Cond.code ({ cls := "com/example/triadne/triadne/Utf8Input", name := "readByte", desc := "()I" } : Jvm.MethodName) prog_169_method_12_code (2 : Nat) (Option.some Jvm.ClassFile.FieldType.int), Jvm.Cond.code ({ cls := "com/example/triadne/triadne/Utf8Input", name := "peekByte", desc := "()I" } : Jvm.MethodName) prog_169_method_11_code (1 : Nat) (Option.some Jvm.ClassFile.FieldType.int), Jvm.Cond.code ({ cls := "com/example/triadne/triadne/Utf8Input", name := "append", desc := "(I)V" } : Jvm.MethodName) prog_169_method_10_code (2 : Nat) (Option.none : Option Jvm.ClassFile.FieldType), Jvm.Cond.code ({ cls := "com/example/triadne/triadne/Utf8Input", name := "advance", desc := "(I)V" } : Jvm.MethodName) prog_169_method_4_code (2 : Nat) (Option.none : Option Jvm.ClassFile.FieldType), Jvm.Cond.code ({ cls := "com/example/triadne/triadne/Utf8InputAdvancePinLaw", name := "breaks", desc := "(IZ)I" } : Jvm.MethodName) method_5_code (2 : Nat) (Option.some Jvm.ClassFile.FieldType.int), Jvm.Cond.code ({ cls := "com/example/triadne/triadne/Utf8InputAdvancePinLaw", name := "isBreak", desc := "(I)Z" } : Jvm.MethodName) method_4_code (1 : Nat) (Option.some Jvm.ClassFile.FieldType.boolean), Jvm.Cond.code ({ cls := "com/example/triadne/triadne/Utf8Input", name := "line", desc := "()I" } : Jvm.MethodName) prog_169_method_7_code (1 : Nat) (Option.some Jvm.ClassFile.FieldType.int), Jvm.Cond.code ({ cls := "com/example/triadne/triadne/Utf8Input", name := "column", desc := "()I" } : Jvm.MethodName) prog_169_method_8_code (1 : Nat) (Option.some Jvm.ClassFile.FieldType.int)]
set_option maxRecDepth 65536 in
theorem codes_eq : words1.filter isCode = codes1 := rfl
theorem w_codes : ∀ c ∈ words1.filter isCode, c.before args0 about1 = true := by
  rw [codes_eq]
  intro c hc
  simp only [codes1, List.mem_cons, List.not_mem_nil, or_false] at hc
  rcases hc with rfl | rfl | rfl | rfl | rfl | rfl | rfl | rfl | rfl | rfl | rfl | rfl | rfl | rfl | rfl | rfl
  · exact w_c0
  · exact w_c1
  · exact w_c2
  · exact w_c3
  · exact w_c4
  · exact w_c5
  · exact w_c6
  · exact w_c7
  · exact w_c8
  · exact w_c9
  · exact w_c10
  · exact w_c11
  · exact w_c12
  · exact w_c13
  · exact w_c14
  · exact w_c15
set_option maxRecDepth 65536 in
theorem w_t1 : (words1.take 24).all (fun c => isCode c || c.before args0 about1) = true := by decide +kernel
set_option maxRecDepth 65536 in
theorem w_t2 : ((words1.drop 24).take 24).all (fun c => isCode c || c.before args0 about1) = true := by decide +kernel
set_option maxRecDepth 65536 in
theorem w_t3 : (((words1.drop 24).drop 24).take 24).all (fun c => isCode c || c.before args0 about1) = true := by decide +kernel
set_option maxRecDepth 65536 in
theorem w_t4 : (((words1.drop 24).drop 24).drop 24).all (fun c => isCode c || c.before args0 about1) = true := by decide +kernel
theorem w_tables : (allAtoms (Jvm.Cond.code x code maxLocals ret :: tables_1)).before args0 about1 = true := by
  rw [allAtoms_all]
  show words1.all (fun c => c.before args0 about1) = true
  refine all_split ?_ w_codes
  rw [← List.take_append_drop 24 words1, List.all_append, w_t1, ← List.take_append_drop 24 (words1.drop 24), List.all_append, w_t2, ← List.take_append_drop 24 ((words1.drop 24).drop 24), List.all_append, w_t3, w_t4]
  rfl
set_option maxRecDepth 65536 in
theorem w_case : (Jvm.Cond.and given_1 narrow_1).before args0 about1 = true := by decide +kernel
theorem w_applies : (headSpec (Jvm.Cond.code x code maxLocals ret :: tables_1) room_1).applies x e0.platform about1 = true :=
  (Spec.applies_iff w_frames).mpr ⟨w_running, w_runnable, w_alone, w_named, w_hears, w_ripe, w_room, w_tables⟩
theorem atStart : AtStart classFile x code maxLocals ret World_1 tables_1 room_1 Calls_1 rest_1 Pre_1 launch0 p0 e0 about1 theMethod args0 below0 :=
  ⟨lists_1, trivial, launch0.admits_env _ _ _, launch0.least_env, fairChoices_fair.cas, fairChoices_fair.clock, w_frames, w_args, w_heap, w_applies, trivial, trivial, w_case⟩
end start1
theorem witness_1 : WitnessClaimed_1 := ⟨start1.p0, start1.e0, start1.about1, start1.theMethod, start1.args0, start1.below0, start1.atStart⟩
end Jvm.Pilot.@@N@@
