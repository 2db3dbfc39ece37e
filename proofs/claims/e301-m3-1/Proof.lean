import JvmDerived
import JvmDerived.Pilot.@@N@@Statement
import JvmDerived.Pilot.@@N@@Code
set_option linter.unusedVariables false
set_option linter.unusedSimpArgs false
namespace Jvm.RoadKit
open Sem ClassFile Op Lib Jvm.Stand Jvm.Free Jvm.LawKit
section New
variable {p : Program} {l : Launch} {e : Env} {R : Room} {s : State} {m : MethodId} {args : Array Value} {below : List Frame} {meth : Method} {c : Code} {T : State} {locs : List Loc} {cells slots : Nat}
theorem retI (X : Stand p l e R s m args below meth c T locs cells slots) (hx : p.tables.exec = Jvm.exec) {pc : Nat} {Ls : Array Slot} {z : Int32} {rest : List Value} (hret : meth.sig.returnType = some .int) (hd : decode c.code pc = .ok (.ireturn, 1)) {fs : List Frame}
    (hl : ∀ (f : JFrame) (acts : List Action), f.method = m → f.locked = none → f.entered = [] → (doReturn e (T.setTop f) acts (some (.int z))).1 = T.setFrames fs) : Steps p.tables e below (T.setTop (mkF m pc Ls (.int z :: rest))) (T.setFrames fs) := by
  have hm' : T.vm.method? m = some meth := X.method'
  have hn : narrow .int (.int z) = .int z := rfl
  show Steps p.tables e below (T.setTop { method := m, pc := pc, locals := Ls, stack := _ :: rest, locked := none }) _
  jvm_step X.here [X.here.top, hx, hd, hm', hret, hn]
  first | (intro acts; rw [hl _ acts rfl rfl rfl]) | rw [hl _ _ rfl rfl rfl]
  exact Steps.refl _
end New
end Jvm.RoadKit
namespace Jvm.Pilot.@@N@@
open Jvm Jvm.ClassFile Sem Op Lib Jvm.Free Jvm.Stand Jvm.LawKit Jvm.RoadKit Bundle Jvm.Pilot.@@N@@.Jvm.D
section Own
variable {p : Program} {l : Launch} {e : Env} {R : Room} {s : State} {m : MethodId} {args : Array Value} {below : List Frame} {meth : Method} {c : Code} {T : State} {locs : List Loc} {cells slots : Nat}
/-- from the state A the run comes to an end of the invocation of which Q holds -/
def OGo (p : Program) (e : Env) (below : List Frame) (Q : Outcome → State → Prop) (A : State) : Prop :=
  ∃ s₂ o, Steps p.tables e below A s₂ ∧ s₂.status = .running ∧ Ended s₂ below o ∧ Q o s₂
theorem OGo.st {Q : Outcome → State → Prop} {A B : State} (h : ∀ t, Steps p.tables e below B t → Steps p.tables e below A t) (g : OGo p e below Q B) : OGo p e below Q A := by
  obtain ⟨s₂, o, k, r⟩ := g
  exact ⟨s₂, o, h _ k, r⟩
/-- what a contract says of the end -/
def Out (s : State) (cells slots : Nat) (Q : Option Value → Heap → List Loc → Prop) (o : Outcome) (U : State) : Prop :=
  ∃ v L, o = .returned v ∧ Q v U.heap L ∧ FrameEnd s o U L cells slots
/-- it returns the int z (the long z), and the heap is as it was -/
def PI (n0 : Nat) (h0 : Heap) (z : Int32) (v : Option Value) (h : Heap) (L : List Loc) : Prop := v = some (.int z) ∧ Fr n0 L ∧ h = h0
def PJ (n0 : Nat) (h0 : Heap) (z : Int64) (v : Option Value) (h : Heap) (L : List Loc) : Prop := v = some (.long z) ∧ Fr n0 L ∧ h = h0
def PF (n0 : Nat) (z : Int32) (v : Option Value) (h : Heap) (L : List Loc) : Prop := v = some (.int z) ∧ Fr n0 L
theorem OGo.eqvF {C S n0 : Nat} {z z' : Int32} {A : State} (q : z = z') (g : OGo p e below (Out s C S (PF n0 z')) A) : OGo p e below (Out s C S (PF n0 z)) A := q ▸ g
theorem OGo.eqvI {C S n0 : Nat} {h0 : Heap} {z z' : Int32} {A : State} (q : z = z') (g : OGo p e below (Out s C S (PI n0 h0 z')) A) : OGo p e below (Out s C S (PI n0 h0 z)) A := q ▸ g
theorem OGo.eqvJ {C S n0 : Nat} {h0 : Heap} {z z' : Int64} {A : State} (q : z = z') (g : OGo p e below (Out s C S (PJ n0 h0 z')) A) : OGo p e below (Out s C S (PJ n0 h0 z)) A := q ▸ g
theorem OGo.outI (X : Stand p l e R s m args below meth c T locs cells slots) (hx : p.tables.exec = Jvm.exec) (hret : meth.sig.returnType = some .int) (hlk : meth.locks = false) {pc : Nat} {Ls : Array Slot} {z : Int32} {rest : List Value} (hd : decode c.code pc = .ok (.ireturn, 1))
    {Q : Option Value → Heap → List Loc → Prop} {C S : Nat} (hq : Q (some (.int z)) T.heap locs) (hC : cells ≤ C) (hS : slots ≤ S) : OGo p e below (Out s C S Q) (T.setTop (mkF m pc Ls (.int z :: rest))) := by
  obtain ⟨fs, hr, hrun, hended, hW, hsame⟩ := X.leave (v := some (.int z)) (fun h => by rw [hret] at h; cases h) hlk
  exact ⟨_, _, retI X hx hret hd hr, hrun, hended, _, _, rfl, hq, ⟨_, rfl⟩, hW, hsame.mono hC hS⟩
theorem OGo.outN (X : Stand p l e R s m args below meth c T locs cells slots) (hx : p.tables.exec = Jvm.exec) {t : FieldType} (hret : meth.sig.returnType = some t) (ht : t = .boolean ∨ t = .byte ∨ t = .char ∨ t = .short) (hlk : meth.locks = false) {pc : Nat} {Ls : Array Slot} {z : Int32} {rest : List Value} (hd : decode c.code pc = .ok (.ireturn, 1))
    {Q : Option Value → Heap → List Loc → Prop} {C S : Nat} (hq : Q (some (.int (nar t z))) T.heap locs) (hC : cells ≤ C) (hS : slots ≤ S) : OGo p e below (Out s C S Q) (T.setTop (mkF m pc Ls (.int z :: rest))) := by
  obtain ⟨fs, hr, hrun, hended, hW, hsame⟩ := X.leave (v := some (.int (nar t z))) (fun h => by rw [hret] at h; cases h) hlk
  exact ⟨_, _, retN X hx hret ht hd hr, hrun, hended, _, _, rfl, hq, ⟨_, rfl⟩, hW, hsame.mono hC hS⟩
theorem OGo.outJ (X : Stand p l e R s m args below meth c T locs cells slots) (hx : p.tables.exec = Jvm.exec) (hret : meth.sig.returnType = some .long) (hlk : meth.locks = false) {pc : Nat} {Ls : Array Slot} {z : Int64} (hd : decode c.code pc = .ok (.lreturn, 1))
    {Q : Option Value → Heap → List Loc → Prop} {C S : Nat} (hq : Q (some (.long z)) T.heap locs) (hC : cells ≤ C) (hS : slots ≤ S) : OGo p e below (Out s C S Q) (T.setTop (mkF m pc Ls [.long z])) := by
  obtain ⟨fs, hr, hrun, hended, hW, hsame⟩ := X.leave (v := some (.long z)) (fun h => by rw [hret] at h; cases h) hlk
  exact ⟨_, _, X.lreturnOut hx hret hd hr, hrun, hended, _, _, rfl, hq, ⟨_, rfl⟩, hW, hsame.mono hC hS⟩
theorem OGo.outV (X : Stand p l e R s m args below meth c T locs cells slots) (hx : p.tables.exec = Jvm.exec) (hret : meth.sig.returnType = none) (hlk : meth.locks = false) {pc : Nat} {Ls : Array Slot} (hd : decode c.code pc = .ok (.return_, 1))
    {Q : Option Value → Heap → List Loc → Prop} {C S : Nat} (hq : Q none T.heap locs) (hC : cells ≤ C) (hS : slots ≤ S) : OGo p e below (Out s C S Q) (T.setTop (mkF m pc Ls [])) := by
  obtain ⟨fs, hr, hrun, hended, hW, hsame⟩ := X.leave (v := none) (fun _ => rfl) hlk
  exact ⟨_, _, X.returnOut hx hret hd hr, hrun, hended, _, _, rfl, hq, ⟨_, rfl⟩, hW, hsame.mono hC hS⟩
end Own
section OwnH
variable {p : Program} {l : Launch} {e : Env} {R : Room} {s : State} {m : MethodId} {args : Array Value} {below : List Frame} {meth : Method} {c : Code} {T : State} {locs : List Loc} {cells slots : Nat} {Z : State} {a0 : Array Value} {h h' : Heap} {a b : Addr} {ty : FieldType} {n : Nat} {f : Nat → Int32}
def oset (f : Nat → Int32) (k : Nat) (x : Int32) : Nat → Int32 := fun j => if j = k then x else f j
/-- at a lies an array of kind ty, of n places, whose place i holds the int f i -/
def OA (Z : State) (h : Heap) (a : Addr) (ty : FieldType) (n : Nat) (f : Nat → Int32) : Prop := ∃ c : Cell, Arr Z h a c ty ∧ c.slots.size = n ∧ ∀ i, i < n → c.slots[i]? = some (.int (f i))
theorem OA.lt (A : OA Z h a ty n f) : a < h.size := by obtain ⟨c, A, -⟩ := A; exact A.lt
theorem OA.ext (A : OA Z h a ty n f) (E : Ext h h') : OA Z h' a ty n f := by obtain ⟨c, A, r⟩ := A; exact ⟨c, A.ext E, r⟩
theorem OA.other {sl : Nat} {v : Value} (A : OA Z h b ty n f) (W : Wr h h' a sl v) (q : b ≠ a) : OA Z h' b ty n f := by obtain ⟨c, A, r⟩ := A; exact ⟨c, A.other W q, r⟩
theorem OA.keep {ws : List Addr} (A : OA Z h a ty n f) (K : Keep h h' ws) (q : a ∉ ws) : OA Z h' a ty n f := by obtain ⟨c, A, r⟩ := A; exact ⟨c, ⟨K.2.1 a c A.1 q, A.2⟩, r⟩
theorem OA.new {k : ClassId} {z : Int32} (A : Arr Z h a (newA k ty z) ty) (hz : z.toNatClampNeg = n) (hd : defaultValue ty = .int 0) : OA Z h a ty n (fun _ => 0) :=
  ⟨_, A, (sz_new _ _ _).trans hz, fun i hi => by
    have e : (newA k ty z).slots = Array.replicate z.toNatClampNeg (defaultValue ty) := rfl
    rw [e, hz, hd, Array.getElem?_replicate, if_pos hi]⟩
theorem OA.set {k : Nat} {x : Int32} (A : OA Z h a ty n f) (W : Wr h h' a k (.int x)) : OA Z h' a ty n (oset f k x) := by
  obtain ⟨c, A, S, H⟩ := A
  have hs : (c.setSlot k (.int x)).slots = c.slots.setIfInBounds k (.int x) := rfl
  refine ⟨_, A.same W, ?_, fun i hi => ?_⟩
  · rw [hs, Array.size_setIfInBounds, S]
  · rw [hs]
    by_cases q : i = k
    · subst q
      rw [Array.getElem?_setIfInBounds_self_of_lt (by omega)]
      simp [oset]
    · rw [Array.getElem?_setIfInBounds_ne (Ne.symm q), H i hi]
      simp [oset, q]
theorem OA.eqf {g : Nat → Int32} (A : OA Z h a ty n f) (q : ∀ i, i < n → f i = g i) : OA Z h a ty n g := by
  obtain ⟨c, A, S, H⟩ := A
  exact ⟨c, A, S, fun i hi => by rw [H i hi, q i hi]⟩
theorem oin {cl : Cell} {j : Int32} {k : Nat} (S : cl.slots.size = n) (hj : ¬ j < 0) (hk : j.toNatClampNeg = k) (hkn : k < n) : ¬ (j < 0 ∨ cl.slots.size ≤ j.toNatClampNeg) := by
  rintro (q | q)
  · exact hj q
  · rw [S, hk] at q; omega
theorem OA.stI (X : Stand p l e R s m args below meth c T locs cells slots) (hx : p.tables.exec = Jvm.exec) (hZ : Z.Warmed39 s.vm) (eT : T.heap = h) (A : OA Z h a .int n f) {j x : Int32} {k : Nat} (hj : ¬ j < 0) (hk : j.toNatClampNeg = k) (hkn : k < n) {g : JFrame} (hg : g.method = m) {rest : List Value} (hs : g.stack = .int x :: .int j :: .ref a :: rest) (hd : decode c.code g.pc = .ok (.iastore, 1)) :
    ∃ T' h', Stand p l e R s m args below meth c T' (locs ++ [⟨a, k⟩]) cells slots ∧ T'.heap = h' ∧ Wr h h' a k (.int x) ∧ OA Z h' a .int n (oset f k x) ∧ ∀ target, Steps p.tables e below (T'.setTop { g with pc := g.pc + 1, stack := rest }) target → Steps p.tables e below (T.setTop g) target := by
  obtain ⟨cl, Ar, S, H⟩ := A
  obtain ⟨T', h', X', e', W, st⟩ := Jvm.RoadKit.stI X hx hZ eT Ar (j := j) (x := x) (oin S hj hk hkn) hg hs hd
  subst hk
  exact ⟨T', h', X', e', W, OA.set ⟨cl, Ar, S, H⟩ W, st⟩
theorem OA.stB (X : Stand p l e R s m args below meth c T locs cells slots) (hx : p.tables.exec = Jvm.exec) (hZ : Z.Warmed39 s.vm) (eT : T.heap = h) (A : OA Z h a .byte n f) {j x : Int32} {k : Nat} (hj : ¬ j < 0) (hk : j.toNatClampNeg = k) (hkn : k < n) {g : JFrame} (hg : g.method = m) {rest : List Value} (hs : g.stack = .int x :: .int j :: .ref a :: rest) (hd : decode c.code g.pc = .ok (.bastore, 1)) :
    ∃ T' h', Stand p l e R s m args below meth c T' (locs ++ [⟨a, k⟩]) cells slots ∧ T'.heap = h' ∧ Wr h h' a k (.int x.toInt8.toInt32) ∧ OA Z h' a .byte n (oset f k x.toInt8.toInt32) ∧ ∀ target, Steps p.tables e below (T'.setTop { g with pc := g.pc + 1, stack := rest }) target → Steps p.tables e below (T.setTop g) target := by
  obtain ⟨cl, Ar, S, H⟩ := A
  obtain ⟨T', h', X', e', W, st⟩ := Jvm.RoadKit.stB X hx hZ eT Ar (j := j) (x := x) (oin S hj hk hkn) hg hs hd
  subst hk
  exact ⟨T', h', X', e', W, OA.set ⟨cl, Ar, S, H⟩ W, st⟩
theorem OA.ldI (X : Stand p l e R s m args below meth c T locs cells slots) (hx : p.tables.exec = Jvm.exec) (hZ : Z.Warmed39 s.vm) (eT : T.heap = h) (A : OA Z h a .int n f) {j : Int32} {k : Nat} (hj : ¬ j < 0) (hk : j.toNatClampNeg = k) (hkn : k < n) {g : JFrame} (hg : g.method = m) {rest : List Value} (hs : g.stack = .int j :: .ref a :: rest) (hd : decode c.code g.pc = .ok (.iaload, 1)) (target : State)
    (kt : Steps p.tables e below (T.setTop { g with pc := g.pc + 1, stack := .int (f k) :: rest }) target) : Steps p.tables e below (T.setTop g) target := by
  obtain ⟨cl, Ar, S, H⟩ := A
  exact X.iaload hx (j := j) (v := .int (f k)) (by rw [eT]; exact Ar.1) (State.isArrayOf_alike hZ.alike Ar.2.1) Ar.2.2 (oin S hj hk hkn) (by rw [hk]; exact H k hkn) (g := g) hg hs hd target kt
theorem OA.ldB (X : Stand p l e R s m args below meth c T locs cells slots) (hx : p.tables.exec = Jvm.exec) (hZ : Z.Warmed39 s.vm) (eT : T.heap = h) (A : OA Z h a .byte n f) {j : Int32} {k : Nat} (hj : ¬ j < 0) (hk : j.toNatClampNeg = k) (hkn : k < n) {g : JFrame} (hg : g.method = m) {rest : List Value} (hs : g.stack = .int j :: .ref a :: rest) (hd : decode c.code g.pc = .ok (.baload, 1)) (target : State)
    (kt : Steps p.tables e below (T.setTop { g with pc := g.pc + 1, stack := .int (f k) :: rest }) target) : Steps p.tables e below (T.setTop g) target := by
  obtain ⟨cl, Ar, S, H⟩ := A
  exact X.baloadBytes hx (j := j) (v := .int (f k)) (by rw [eT]; exact Ar.1) (State.isArrayOf_alike hZ.alike Ar.2.1) Ar.2.2 (oin S hj hk hkn) (by rw [hk]; exact H k hkn) (g := g) hg hs hd target kt
theorem OA.len (X : Stand p l e R s m args below meth c T locs cells slots) (hx : p.tables.exec = Jvm.exec) (hZ : Z.Warmed39 s.vm) (eT : T.heap = h) (A : OA Z h a ty n f) {z : Int32} (hz : n.toInt32 = z) {g : JFrame} (hg : g.method = m) {rest : List Value} (hs : g.stack = .ref a :: rest) (hd : decode c.code g.pc = .ok (.arraylength, 1)) (target : State)
    (kt : Steps p.tables e below (T.setTop { g with pc := g.pc + 1, stack := .int z :: rest }) target) : Steps p.tables e below (T.setTop g) target := by
  obtain ⟨cl, Ar, S, H⟩ := A
  refine X.arraylength hx (by rw [eT]; exact Ar.1) (State.isArrayOf_alike hZ.alike Ar.2.1) (g := g) hg hs hd target ?_
  rw [S, hz]; exact kt
/-- a private method is the one that is chosen -/
theorem osel {y : MethodName} {k : Nat} (hZ : Z.Warmed39 s.vm) (wi : (Cond.instantiable y.cls k).before a0 Z = true) (wp : (Cond.privateMethod y).before a0 Z = true) (wm : (Cond.instanceMethod y).before a0 Z = true) (hy : y.cls ≠ "java/lang/invoke/MethodHandle" ∧ y.cls ≠ "java/lang/invoke/VarHandle") : (Cond.selects y.cls y y).before args s = true := by
  have w : (Cond.instantiable y.cls k).before args s = true := mv hZ wi
  obtain ⟨cc, kk, h1, h2, h3, h4, -⟩ := Cond.instantiable_spec w
  have h5 : kk.isInterface = false := by
    cases q : kk.isInterface
    · rfl
    · rw [q] at h4; simp at h4
  exact Jvm.Stand.selects_self_of_private h1 h2 h5 (Cond.privateMethod_at (mvP hZ wp (args := args))) (mv hZ wm) hy
end OwnH
def H0 (s0 h : Int32) : Int32 := h * (31 : Int32) + s0
def H2 (z s0 s2 h : Int32) : Int32 := if z = 0 then h * (31 : Int32) + s2 else H0 s0 (h * (31 : Int32) + s2)
def H4 (z cc s0 s2 s4 h : Int32) : Int32 := if cc = 0 then h * (31 : Int32) + s4 else if cc = 1 then H0 s0 (h * (31 : Int32) + s4) else H2 z s0 s2 (h * (31 : Int32) + s4)
def HV (i : Nat) (z cc s0 s2 s4 t : Int32) : Int32 := match i with
  | 0 => t
  | 1 => H0 s0 t
  | 2 => H2 z s0 s2 t
  | _ => H4 z cc s0 s2 s4 t
theorem own_toInt {n : Nat} (h : n < 1000) : (Int32.ofNat n).toInt = n := toInt_of rfl (by omega)
theorem own_nat {i : Nat} (h : i < 100) : (¬ Int32.ofNat i < 0) ∧ (Int32.ofNat i).toNatClampNeg = i := by
  refine ⟨?_, clamp_of rfl (by omega)⟩
  rw [Int32.lt_iff_toInt_lt, own_toInt (by omega)]
  show ¬ (i : Int) < 0
  omega
theorem own_ix {i j : Nat} (h : i + j < 100) : (¬ (Int32.ofNat i + Int32.ofNat j) < 0) ∧ (Int32.ofNat i + Int32.ofNat j).toNatClampNeg = i + j := by
  have e : Int32.ofNat i + Int32.ofNat j = Int32.ofNat (i + j) := by
    rw [← Int32.toInt_inj, Int32.toInt_add, own_toInt (by omega), own_toInt (by omega), own_toInt (by omega)]
    rw [Int.bmod_eq_of_le (by omega) (by omega)]
    omega
  rw [e]
  exact own_nat h
theorem own_mask (x : Int32) (k : Nat) (hk : k < 20) : ∃ n : Nat, (x &&& (Int32.ofNat (2 ^ k - 1))) = Int32.ofNat n ∧ n < 2 ^ k := by
  have hp : 2 ^ k < 2 ^ 20 := Nat.pow_lt_pow_right (by omega) hk
  have hp0 : 0 < 2 ^ k := Nat.two_pow_pos k
  have h : ∀ b : BitVec 32, b &&& BitVec.ofNat 32 (2 ^ k - 1) = BitVec.ofNat 32 (b.toNat % 2 ^ k) := fun b => by
    apply BitVec.eq_of_toNat_eq
    have e1 : (2 ^ k - 1) % 2 ^ 32 = 2 ^ k - 1 := Nat.mod_eq_of_lt (by omega)
    have e2 : b.toNat % 2 ^ k < 2 ^ k := Nat.mod_lt _ (by omega)
    rw [BitVec.toNat_and, BitVec.toNat_ofNat, BitVec.toNat_ofNat, e1, Nat.and_two_pow_sub_one_eq_mod, Nat.mod_eq_of_lt (a := b.toNat % 2 ^ k) (by omega)]
  exact ⟨x.toBitVec.toNat % 2 ^ k, Int32.toBitVec_inj.mp (h x.toBitVec), Nat.mod_lt _ (by omega)⟩
theorem own_and3 (x : Int32) : ∃ i : Nat, (x &&& (3 : Int32)) = Int32.ofNat i ∧ i < 4 := own_mask x 2 (by omega)
theorem own_z1 (z : Int32) : (z = 0 ∧ (if z = (0 : Int32) then (-1 : Int32) else (0 : Int32)) = -1) ∨ (¬ z = 0 ∧ (if z = (0 : Int32) then (-1 : Int32) else (0 : Int32)) = 0) := by
  by_cases h : z = 0
  · exact Or.inl ⟨h, if_pos h⟩
  · exact Or.inr ⟨h, if_neg h⟩
theorem own_z2 (c : Int32) : (c = 0 ∧ (if c = (0 : Int32) then (-1 : Int32) else (if c = (1 : Int32) then (0 : Int32) else (2 : Int32))) = -1) ∨ (¬ c = 0 ∧ c = 1 ∧ (if c = (0 : Int32) then (-1 : Int32) else (if c = (1 : Int32) then (0 : Int32) else (2 : Int32))) = 0) ∨ (¬ c = 0 ∧ ¬ c = 1 ∧ (if c = (0 : Int32) then (-1 : Int32) else (if c = (1 : Int32) then (0 : Int32) else (2 : Int32))) = 2) := by
  by_cases h : c = 0
  · exact Or.inl ⟨h, if_pos h⟩
  · by_cases h1 : c = 1
    · exact Or.inr (Or.inl ⟨h, h1, (if_neg h).trans (if_pos h1)⟩)
    · exact Or.inr (Or.inr ⟨h, h1, (if_neg h).trans (if_neg h1)⟩)
section Fill
variable {f g1 g2 g3 g4 : Nat → Int32} {x0 x1 x2 x3 : Int32}
theorem own_inn0 (h1 : g1 = oset f 0 x0) (h2 : g2 = oset g1 1 x1) (h3 : g3 = oset g2 2 x2) (h4 : g4 = oset g3 3 x3) : g4 0 = x0 := by subst h1 h2 h3 h4; simp [oset]
theorem own_inn1 (h1 : g1 = oset f 0 x0) (h2 : g2 = oset g1 1 x1) (h3 : g3 = oset g2 2 x2) (h4 : g4 = oset g3 3 x3) : g4 1 = x1 := by subst h1 h2 h3 h4; simp [oset]
theorem own_inn2 (h1 : g1 = oset f 0 x0) (h2 : g2 = oset g1 1 x1) (h3 : g3 = oset g2 2 x2) (h4 : g4 = oset g3 3 x3) : g4 2 = x2 := by subst h1 h2 h3 h4; simp [oset]
theorem own_inn3 (h1 : g1 = oset f 0 x0) (h2 : g2 = oset g1 1 x1) (h3 : g3 = oset g2 2 x2) (h4 : g4 = oset g3 3 x3) : g4 3 = x3 := by subst h1 h2 h3 h4; simp [oset]
theorem own_aro0 (h1 : g1 = oset f 0 x0) (h2 : g2 = oset g1 1 x1) (h3 : g3 = oset g2 2 x2) : g3 0 = x0 := by subst h1 h2 h3; simp [oset]
theorem own_aro1 (h1 : g1 = oset f 0 x0) (h2 : g2 = oset g1 1 x1) (h3 : g3 = oset g2 2 x2) : g3 1 = x1 := by subst h1 h2 h3; simp [oset]
theorem own_aro2 (h1 : g1 = oset f 0 x0) (h2 : g2 = oset g1 1 x1) (h3 : g3 = oset g2 2 x2) : g3 2 = x2 := by subst h1 h2 h3; simp [oset]
theorem own_slo0 {fr : Nat} (h1 : g1 = oset f fr x0) (h2 : g2 = oset g1 (fr + 2) x1) (h3 : g3 = oset g2 (fr + 4) x2) : g3 (fr + 0) = x0 := by subst h1 h2 h3; simp [oset]
theorem own_slo2 {fr : Nat} (h1 : g1 = oset f fr x0) (h2 : g2 = oset g1 (fr + 2) x1) (h3 : g3 = oset g2 (fr + 4) x2) : g3 (fr + 2) = x1 := by subst h1 h2 h3; simp [oset]
theorem own_slo4 {fr : Nat} (h1 : g1 = oset f fr x0) (h2 : g2 = oset g1 (fr + 2) x1) (h3 : g3 = oset g2 (fr + 4) x2) : g3 (fr + 4) = x2 := by subst h1 h2 h3; simp [oset]
end Fill
theorem own_i {i m : Nat} (hi : i < 4) (hm : m < 4) (h : Int32.ofNat i = Int32.ofNat m) : i = m := by
  have k := congrArg Int32.toInt h
  rw [own_toInt (by omega), own_toInt (by omega)] at k
  omega
theorem own_i3 {i : Nat} (hi : i < 4) (h0 : ¬ Int32.ofNat i = (0 : Int32)) (h1 : ¬ Int32.ofNat i = (1 : Int32)) (h2 : ¬ Int32.ofNat i = (2 : Int32)) : i = 3 := by
  rcases (show i = 0 ∨ i = 1 ∨ i = 2 ∨ i = 3 by omega) with rfl | rfl | rfl | rfl
  · exact absurd rfl h0
  · exact absurd rfl h1
  · exact absurd rfl h2
  · rfl
theorem own_r31 (a b c : Int32) : (a * (31 : Int32) + b) * (31 : Int32) + c = a * (961 : Int32) + b * (31 : Int32) + c := by
  rw [Int32.add_mul, Int32.mul_assoc, show (31 : Int32) * 31 = 961 from by decide]
theorem own_r31' (a b c d : Int32) : ((a * (31 : Int32) + b) * (31 : Int32) + c) * (31 : Int32) + d = a * (29791 : Int32) + b * (961 : Int32) + c * (31 : Int32) + d := by
  rw [own_r31, Int32.add_mul, Int32.mul_assoc, show (31 : Int32) * 961 = 29791 from by decide]
theorem d1_0 : decode prog_17_method_1_code 0 = .ok (.aload_n 0, 1) := by decide +kernel
theorem d1_1 : decode prog_17_method_1_code 1 = .ok (.invokespecial 1, 3) := by decide +kernel
theorem d1_4 : decode prog_17_method_1_code 4 = .ok (.aload_n 0, 1) := by decide +kernel
theorem d1_5 : decode prog_17_method_1_code 5 = .ok (.aload_n 1, 1) := by decide +kernel
theorem d1_6 : decode prog_17_method_1_code 6 = .ok (.putfield 7, 3) := by decide +kernel
theorem d1_9 : decode prog_17_method_1_code 9 = .ok (.aload_n 0, 1) := by decide +kernel
theorem d1_10 : decode prog_17_method_1_code 10 = .ok (.aload_n 2, 1) := by decide +kernel
theorem d1_11 : decode prog_17_method_1_code 11 = .ok (.putfield 13, 3) := by decide +kernel
theorem d1_14 : decode prog_17_method_1_code 14 = .ok (.aload_n 0, 1) := by decide +kernel
theorem d1_15 : decode prog_17_method_1_code 15 = .ok (.aload_n 3, 1) := by decide +kernel
theorem d1_16 : decode prog_17_method_1_code 16 = .ok (.putfield 17, 3) := by decide +kernel
theorem d1_19 : decode prog_17_method_1_code 19 = .ok (.aload_n 0, 1) := by decide +kernel
theorem d1_20 : decode prog_17_method_1_code 20 = .ok (.aload 4, 2) := by decide +kernel
theorem d1_22 : decode prog_17_method_1_code 22 = .ok (.putfield 20, 3) := by decide +kernel
theorem d1_25 : decode prog_17_method_1_code 25 = .ok (.aload_n 0, 1) := by decide +kernel
theorem d1_26 : decode prog_17_method_1_code 26 = .ok (.aload_n 1, 1) := by decide +kernel
theorem d1_27 : decode prog_17_method_1_code 27 = .ok (.arraylength, 1) := by decide +kernel
theorem d1_28 : decode prog_17_method_1_code 28 = .ok (.iconst 1, 1) := by decide +kernel
theorem d1_29 : decode prog_17_method_1_code 29 = .ok (.iadd, 1) := by decide +kernel
theorem d1_30 : decode prog_17_method_1_code 30 = .ok (.newarray .int, 2) := by decide +kernel
theorem d1_32 : decode prog_17_method_1_code 32 = .ok (.putfield 23, 3) := by decide +kernel
theorem d1_35 : decode prog_17_method_1_code 35 = .ok (.aload_n 0, 1) := by decide +kernel
theorem d1_36 : decode prog_17_method_1_code 36 = .ok (.aload_n 1, 1) := by decide +kernel
theorem d1_37 : decode prog_17_method_1_code 37 = .ok (.arraylength, 1) := by decide +kernel
theorem d1_38 : decode prog_17_method_1_code 38 = .ok (.iconst 1, 1) := by decide +kernel
theorem d1_39 : decode prog_17_method_1_code 39 = .ok (.iadd, 1) := by decide +kernel
theorem d1_40 : decode prog_17_method_1_code 40 = .ok (.newarray .int, 2) := by decide +kernel
theorem d1_42 : decode prog_17_method_1_code 42 = .ok (.putfield 26, 3) := by decide +kernel
theorem d1_45 : decode prog_17_method_1_code 45 = .ok (.aload_n 0, 1) := by decide +kernel
theorem d1_46 : decode prog_17_method_1_code 46 = .ok (.getfield 26, 3) := by decide +kernel
theorem d1_49 : decode prog_17_method_1_code 49 = .ok (.iconst 0, 1) := by decide +kernel
theorem d1_50 : decode prog_17_method_1_code 50 = .ok (.iconst 1, 1) := by decide +kernel
theorem d1_51 : decode prog_17_method_1_code 51 = .ok (.iastore, 1) := by decide +kernel
theorem d1_52 : decode prog_17_method_1_code 52 = .ok (.iconst 0, 1) := by decide +kernel
theorem d1_53 : decode prog_17_method_1_code 53 = .ok (.istore 5, 2) := by decide +kernel
theorem d1_55 : decode prog_17_method_1_code 55 = .ok (.iload 5, 2) := by decide +kernel
theorem d1_57 : decode prog_17_method_1_code 57 = .ok (.aload_n 1, 1) := by decide +kernel
theorem d1_58 : decode prog_17_method_1_code 58 = .ok (.arraylength, 1) := by decide +kernel
theorem d1_59 : decode prog_17_method_1_code 59 = .ok (.if_icmp .ge 52, 3) := by decide +kernel
theorem d1_111 : decode prog_17_method_1_code 111 = .ok (.return_, 1) := by decide +kernel
theorem pn1 : plainName "com/example/triadne/triadne/CaptureKeys" = true := by first | (simp [plainName, overriddenIn]; done) | decide +kernel
theorem ef1 (m : MethodId) (a1 : Addr) (a2 : Addr) (a3 : Addr) (a4 : Addr) (a5 : Addr) : entryFrame m #[(.ref a1), (.ref a2), (.ref a3), (.ref a4), (.ref a5)] 6 = mkF m 0 #[.val (.ref a1), .val (.ref a2), .val (.ref a3), .val (.ref a4), .val (.ref a5), .unset] [] := by first | (simp [entryFrame, mkF, argsToLocals, Value.category]; done) | rfl
def Q1 (Z : State) (a1 a4 a5 : Addr) (h0 : Heap) (n0 : Nat) (v : Option Value) (h : Heap) (L : List Loc) : Prop := v = none ∧ Fr n0 L ∧ Keep h0 h [a1] ∧ Exa Z h a1 "com/example/triadne/triadne/CaptureKeys" ∧ Fld Z h a1 "com/example/triadne/triadne/CaptureKeys" "innermostOpen" "[I" (.ref a4) ∧ Fld Z h a1 "com/example/triadne/triadne/CaptureKeys" "openAround" "[I" (.ref a5)
set_option maxRecDepth 65536 in
set_option maxHeartbeats 40000000 in
theorem rm1 (l : Launch) (Z : State) (a0 : Array Value) (hw : ∀ d ∈ tables_1, d.before a0 Z = true) (ws : List Jvm.Cond) (a1 : Addr) (a2 : Addr) (a3 : Addr) (a4 : Addr) (a5 : Addr) (ft : Nat → Int32) (h0 : Heap) (n0 : Nat) (Z0 : n0 ≤ h0.size) (E1 : Exa Z h0 a1 "com/example/triadne/triadne/CaptureKeys") (F1_text : Fld Z h0 a1 "com/example/triadne/triadne/CaptureKeys" "text" "[C" .null) (F1_groups : Fld Z h0 a1 "com/example/triadne/triadne/CaptureKeys" "groups" "[I" .null) (F1_innermostOpen : Fld Z h0 a1 "com/example/triadne/triadne/CaptureKeys" "innermostOpen" "[I" .null) (F1_openAround : Fld Z h0 a1 "com/example/triadne/triadne/CaptureKeys" "openAround" "[I" .null) (F1_prefixes : Fld Z h0 a1 "com/example/triadne/triadne/CaptureKeys" "prefixes" "[I" .null) (F1_powers : Fld Z h0 a1 "com/example/triadne/triadne/CaptureKeys" "powers" "[I" .null) (O2 : OA Z h0 a2 .char 0 ft) (ne12 : a1 ≠ a2) (g1 : n0 ≤ a1) :
    MetFree l (⟨"com/example/triadne/triadne/CaptureKeys", "<init>", "([C[I[I[I)V"⟩ : MethodName) (head1 (Jvm.Cond.code (⟨"com/example/triadne/triadne/CaptureKeys", "<init>", "([C[I[I[I)V"⟩ : MethodName) prog_17_method_1_code 6 none :: ws) ({ frames := 1, cells := 2, slots := 2, locals := 12 } : Room)) (fun a U => a = #[(.ref a1), (.ref a2), (.ref a3), (.ref a4), (.ref a5)] ∧ Z.Warmed39 U.vm ∧ U.heap = h0) (fun _ _ _ _ _ => True) (fun _ U o U' => ∃ v L, o = .returned v ∧ Q1 Z a1 a4 a5 h0 n0 v U'.heap L ∧ FrameEnd U o U' L ({ frames := 1, cells := 2, slots := 2, locals := 12 } : Room).cells ({ frames := 1, cells := 2, slots := 2, locals := 12 } : Room).slots) := by
  refine MetFree.of_bodySF (plainFor_of_name pn1) hisR ?_
  intro p e s m args below meth c s₁ Bd hml0 hP hK
  obtain ⟨rfl, hZ, hh⟩ := hP
  have hx := Bd.exec
  have hby := Bd.bytes
  have hml : c.maxLocals = 6 := hml0
  have hown : s.vm.findClass "com/example/triadne/triadne/CaptureKeys" = some m.cls := findClass_of_methodNamed Bd.named
  have hnm := (name_of_methodNamed Bd.named Bd.method).1
  have X0 : Stand p l e ({ frames := 1, cells := 2, slots := 2, locals := 12 } : Room) s m #[(.ref a1), (.ref a2), (.ref a3), (.ref a4), (.ref a5)] below meth c s₁ [] 0 0 := Stand.of_body Bd
  have e0 : s₁.heap = h0 := by rw [← hh, Bd.state]; rfl
  have N0 := Fr.nil n0
  show OGo p e below (Out s ({ frames := 1, cells := 2, slots := 2, locals := 12 } : Room).cells ({ frames := 1, cells := 2, slots := 2, locals := 12 } : Room).slots (Q1 Z a1 a4 a5 h0 n0)) (s₁.setTop (entryFrame m #[(.ref a1), (.ref a2), (.ref a3), (.ref a4), (.ref a5)] 6))
  refine OGo.st (fun t k => castTop (ef1 m a1 a2 a3 a4 a5) k) ?_
  show OGo p e below (Out s ({ frames := 1, cells := 2, slots := 2, locals := 12 } : Room).cells ({ frames := 1, cells := 2, slots := 2, locals := 12 } : Room).slots (Q1 Z a1 a4 a5 h0 n0)) (s₁.setTop (mkF m 0 #[.val (.ref a1), .val (.ref a2), .val (.ref a3), .val (.ref a4), .val (.ref a5), .unset] []))
  refine OGo.st (fun t k => XS.aloadN X0.here hx rfl (hb hby d1_0) rfl rfl k) ?_
  show OGo p e below _ (s₁.setTop (mkF m 1 #[.val (.ref a1), .val (.ref a2), .val (.ref a3), .val (.ref a4), .val (.ref a5), .unset] [(.ref a1)]))
  obtain ⟨T1, X1, e1, st1⟩ := initO X0 hx hZ hown (hw _ (List.mem_of_getElem? (i := 8) rfl)) (hw _ (List.mem_of_getElem? (i := 9) rfl)) (hw _ (List.mem_of_getElem? (i := 10) rfl)) e0 (g := (mkF m 1 #[.val (.ref a1), .val (.ref a2), .val (.ref a3), .val (.ref a4), .val (.ref a5), .unset] [(.ref a1)])) rfl (by rw [hml]; rfl) rfl (hb hby d1_1) (by decide) (W := 0) (by show 2 * 0 + _ ≤ _; exact Nat.le_of_eq rfl) (by decide)
  refine OGo.st (fun t k => st1 t k) ?_
  show OGo p e below _ (T1.setTop (mkF m 4 #[.val (.ref a1), .val (.ref a2), .val (.ref a3), .val (.ref a4), .val (.ref a5), .unset] []))
  refine OGo.st (fun t k => XS.aloadN X1.here hx rfl (hb hby d1_4) rfl rfl k) ?_
  show OGo p e below _ (T1.setTop (mkF m 5 #[.val (.ref a1), .val (.ref a2), .val (.ref a3), .val (.ref a4), .val (.ref a5), .unset] [(.ref a1)]))
  refine OGo.st (fun t k => XS.aloadN X1.here hx rfl (hb hby d1_5) rfl rfl k) ?_
  show OGo p e below _ (T1.setTop (mkF m 6 #[.val (.ref a1), .val (.ref a2), .val (.ref a3), .val (.ref a4), .val (.ref a5), .unset] [(.ref a2), (.ref a1)]))
  obtain ⟨T2, h2, X2, e2, W2, st2⟩ := putF X1 hx hZ hown (host := "") (Or.inl (hw _ (List.mem_of_getElem? (i := 11) rfl))) Via.refl e1 F1_text E1 (Or.inr ⟨(hw _ (List.mem_of_getElem? (i := 12) rfl)), rfl, hnm⟩) (hw _ (List.mem_of_getElem? (i := 2) rfl)) (ty := (.array .char)) (by decide) rfl rfl (g := (mkF m 6 #[.val (.ref a1), .val (.ref a2), .val (.ref a3), .val (.ref a4), .val (.ref a5), .unset] [(.ref a2), (.ref a1)])) rfl rfl (hb hby d1_6)
  have Fw2 := F1_text.same W2
  have N2 := Fr.snoc X2 N0 g1
  have Z2 : n0 ≤ h2.size := Nat.le_trans Z0 (Keep.of_wr W2).1
  have K2 : Keep h0 h2 [a1] := (Keep.refl h0 _).wr W2 (Or.inl (List.mem_of_getElem? (i := 0) rfl))
  obtain ⟨lo2, X2, N2⟩ : ∃ L, Stand p l e ({ frames := 1, cells := 2, slots := 2, locals := 12 } : Room) s m #[(.ref a1), (.ref a2), (.ref a3), (.ref a4), (.ref a5)] below meth c T2 L 0 0 ∧ Fr n0 L := ⟨_, X2, N2⟩
  refine OGo.st (fun t k => st2 t k) ?_
  show OGo p e below _ (T2.setTop (mkF m 9 #[.val (.ref a1), .val (.ref a2), .val (.ref a3), .val (.ref a4), .val (.ref a5), .unset] []))
  refine OGo.st (fun t k => XS.aloadN X2.here hx rfl (hb hby d1_9) rfl rfl k) ?_
  show OGo p e below _ (T2.setTop (mkF m 10 #[.val (.ref a1), .val (.ref a2), .val (.ref a3), .val (.ref a4), .val (.ref a5), .unset] [(.ref a1)]))
  refine OGo.st (fun t k => XS.aloadN X2.here hx rfl (hb hby d1_10) rfl rfl k) ?_
  show OGo p e below _ (T2.setTop (mkF m 11 #[.val (.ref a1), .val (.ref a2), .val (.ref a3), .val (.ref a4), .val (.ref a5), .unset] [(.ref a3), (.ref a1)]))
  have c3 := (F1_groups.other W2 (Or.inr (slot_ne (Or.inr (hw _ (List.mem_of_getElem? (i := 14) rfl))) (Or.inr (hw _ (List.mem_of_getElem? (i := 12) rfl))) (by decide) (t := (.array .int)) (t' := (.array .char)) (by decide) (by decide))))
  have c4 := (E1.wr W2)
  obtain ⟨T5, h5, X5, e5, W5, st5⟩ := putF X2 hx hZ hown (host := "") (Or.inl (hw _ (List.mem_of_getElem? (i := 13) rfl))) Via.refl e2 c3 c4 (Or.inr ⟨(hw _ (List.mem_of_getElem? (i := 14) rfl)), rfl, hnm⟩) (hw _ (List.mem_of_getElem? (i := 2) rfl)) (ty := (.array .int)) (by decide) rfl rfl (g := (mkF m 11 #[.val (.ref a1), .val (.ref a2), .val (.ref a3), .val (.ref a4), .val (.ref a5), .unset] [(.ref a3), (.ref a1)])) rfl rfl (hb hby d1_11)
  have Fw5 := c3.same W5
  have N5 := Fr.snoc X5 N2 g1
  have Z5 : n0 ≤ h5.size := Nat.le_trans Z2 (Keep.of_wr W5).1
  have K5 : Keep h0 h5 [a1] := K2.wr W5 (Or.inl (List.mem_of_getElem? (i := 0) rfl))
  obtain ⟨lo5, X5, N5⟩ : ∃ L, Stand p l e ({ frames := 1, cells := 2, slots := 2, locals := 12 } : Room) s m #[(.ref a1), (.ref a2), (.ref a3), (.ref a4), (.ref a5)] below meth c T5 L 0 0 ∧ Fr n0 L := ⟨_, X5, N5⟩
  refine OGo.st (fun t k => st5 t k) ?_
  show OGo p e below _ (T5.setTop (mkF m 14 #[.val (.ref a1), .val (.ref a2), .val (.ref a3), .val (.ref a4), .val (.ref a5), .unset] []))
  refine OGo.st (fun t k => XS.aloadN X5.here hx rfl (hb hby d1_14) rfl rfl k) ?_
  show OGo p e below _ (T5.setTop (mkF m 15 #[.val (.ref a1), .val (.ref a2), .val (.ref a3), .val (.ref a4), .val (.ref a5), .unset] [(.ref a1)]))
  refine OGo.st (fun t k => XS.aloadN X5.here hx rfl (hb hby d1_15) rfl rfl k) ?_
  show OGo p e below _ (T5.setTop (mkF m 16 #[.val (.ref a1), .val (.ref a2), .val (.ref a3), .val (.ref a4), .val (.ref a5), .unset] [(.ref a4), (.ref a1)]))
  have c6 := ((F1_innermostOpen.other W2 (Or.inr (slot_ne (Or.inr (hw _ (List.mem_of_getElem? (i := 16) rfl))) (Or.inr (hw _ (List.mem_of_getElem? (i := 12) rfl))) (by decide) (t := (.array .int)) (t' := (.array .char)) (by decide) (by decide)))).other W5 (Or.inr (slot_ne (Or.inr (hw _ (List.mem_of_getElem? (i := 16) rfl))) (Or.inr (hw _ (List.mem_of_getElem? (i := 14) rfl))) (by decide) (t := (.array .int)) (t' := (.array .int)) (by decide) (by decide))))
  have c7 := (c4.wr W5)
  obtain ⟨T8, h8, X8, e8, W8, st8⟩ := putF X5 hx hZ hown (host := "") (Or.inl (hw _ (List.mem_of_getElem? (i := 15) rfl))) Via.refl e5 c6 c7 (Or.inr ⟨(hw _ (List.mem_of_getElem? (i := 16) rfl)), rfl, hnm⟩) (hw _ (List.mem_of_getElem? (i := 2) rfl)) (ty := (.array .int)) (by decide) rfl rfl (g := (mkF m 16 #[.val (.ref a1), .val (.ref a2), .val (.ref a3), .val (.ref a4), .val (.ref a5), .unset] [(.ref a4), (.ref a1)])) rfl rfl (hb hby d1_16)
  have Fw8 := c6.same W8
  have N8 := Fr.snoc X8 N5 g1
  have Z8 : n0 ≤ h8.size := Nat.le_trans Z5 (Keep.of_wr W8).1
  have K8 : Keep h0 h8 [a1] := K5.wr W8 (Or.inl (List.mem_of_getElem? (i := 0) rfl))
  obtain ⟨lo8, X8, N8⟩ : ∃ L, Stand p l e ({ frames := 1, cells := 2, slots := 2, locals := 12 } : Room) s m #[(.ref a1), (.ref a2), (.ref a3), (.ref a4), (.ref a5)] below meth c T8 L 0 0 ∧ Fr n0 L := ⟨_, X8, N8⟩
  refine OGo.st (fun t k => st8 t k) ?_
  show OGo p e below _ (T8.setTop (mkF m 19 #[.val (.ref a1), .val (.ref a2), .val (.ref a3), .val (.ref a4), .val (.ref a5), .unset] []))
  refine OGo.st (fun t k => XS.aloadN X8.here hx rfl (hb hby d1_19) rfl rfl k) ?_
  show OGo p e below _ (T8.setTop (mkF m 20 #[.val (.ref a1), .val (.ref a2), .val (.ref a3), .val (.ref a4), .val (.ref a5), .unset] [(.ref a1)]))
  refine OGo.st (fun t k => XS.aload X8.here hx rfl (hb hby d1_20) rfl rfl k) ?_
  show OGo p e below _ (T8.setTop (mkF m 22 #[.val (.ref a1), .val (.ref a2), .val (.ref a3), .val (.ref a4), .val (.ref a5), .unset] [(.ref a5), (.ref a1)]))
  have c9 := (((F1_openAround.other W2 (Or.inr (slot_ne (Or.inr (hw _ (List.mem_of_getElem? (i := 18) rfl))) (Or.inr (hw _ (List.mem_of_getElem? (i := 12) rfl))) (by decide) (t := (.array .int)) (t' := (.array .char)) (by decide) (by decide)))).other W5 (Or.inr (slot_ne (Or.inr (hw _ (List.mem_of_getElem? (i := 18) rfl))) (Or.inr (hw _ (List.mem_of_getElem? (i := 14) rfl))) (by decide) (t := (.array .int)) (t' := (.array .int)) (by decide) (by decide)))).other W8 (Or.inr (slot_ne (Or.inr (hw _ (List.mem_of_getElem? (i := 18) rfl))) (Or.inr (hw _ (List.mem_of_getElem? (i := 16) rfl))) (by decide) (t := (.array .int)) (t' := (.array .int)) (by decide) (by decide))))
  have c10 := (c7.wr W8)
  obtain ⟨T11, h11, X11, e11, W11, st11⟩ := putF X8 hx hZ hown (host := "") (Or.inl (hw _ (List.mem_of_getElem? (i := 17) rfl))) Via.refl e8 c9 c10 (Or.inr ⟨(hw _ (List.mem_of_getElem? (i := 18) rfl)), rfl, hnm⟩) (hw _ (List.mem_of_getElem? (i := 2) rfl)) (ty := (.array .int)) (by decide) rfl rfl (g := (mkF m 22 #[.val (.ref a1), .val (.ref a2), .val (.ref a3), .val (.ref a4), .val (.ref a5), .unset] [(.ref a5), (.ref a1)])) rfl rfl (hb hby d1_22)
  have Fw11 := c9.same W11
  have N11 := Fr.snoc X11 N8 g1
  have Z11 : n0 ≤ h11.size := Nat.le_trans Z8 (Keep.of_wr W11).1
  have K11 : Keep h0 h11 [a1] := K8.wr W11 (Or.inl (List.mem_of_getElem? (i := 0) rfl))
  obtain ⟨lo11, X11, N11⟩ : ∃ L, Stand p l e ({ frames := 1, cells := 2, slots := 2, locals := 12 } : Room) s m #[(.ref a1), (.ref a2), (.ref a3), (.ref a4), (.ref a5)] below meth c T11 L 0 0 ∧ Fr n0 L := ⟨_, X11, N11⟩
  refine OGo.st (fun t k => st11 t k) ?_
  show OGo p e below _ (T11.setTop (mkF m 25 #[.val (.ref a1), .val (.ref a2), .val (.ref a3), .val (.ref a4), .val (.ref a5), .unset] []))
  refine OGo.st (fun t k => XS.aloadN X11.here hx rfl (hb hby d1_25) rfl rfl k) ?_
  show OGo p e below _ (T11.setTop (mkF m 26 #[.val (.ref a1), .val (.ref a2), .val (.ref a3), .val (.ref a4), .val (.ref a5), .unset] [(.ref a1)]))
  refine OGo.st (fun t k => XS.aloadN X11.here hx rfl (hb hby d1_26) rfl rfl k) ?_
  show OGo p e below _ (T11.setTop (mkF m 27 #[.val (.ref a1), .val (.ref a2), .val (.ref a3), .val (.ref a4), .val (.ref a5), .unset] [(.ref a2), (.ref a1)]))
  have c12 := ((((O2.other W2 (Ne.symm ne12)).other W5 (Ne.symm ne12)).other W8 (Ne.symm ne12)).other W11 (Ne.symm ne12))
  refine OGo.st (fun t k => OA.len X11 hx hZ e11 c12 (z := (0 : Int32)) (by decide) (g := (mkF m 27 #[.val (.ref a1), .val (.ref a2), .val (.ref a3), .val (.ref a4), .val (.ref a5), .unset] [(.ref a2), (.ref a1)])) rfl rfl (hb hby d1_27) t k) ?_
  show OGo p e below _ (T11.setTop (mkF m 28 #[.val (.ref a1), .val (.ref a2), .val (.ref a3), .val (.ref a4), .val (.ref a5), .unset] [(.int (0 : Int32)), (.ref a1)]))
  refine OGo.st (fun t k => XS.iconst X11.here hx rfl (hb hby d1_28) k) ?_
  show OGo p e below _ (T11.setTop (mkF m 29 #[.val (.ref a1), .val (.ref a2), .val (.ref a3), .val (.ref a4), .val (.ref a5), .unset] [(.int (1 : Int32)), (.int (0 : Int32)), (.ref a1)]))
  refine OGo.st (fun t k => XS.iadd X11.here hx rfl (hb hby d1_29) rfl k) ?_
  show OGo p e below _ (T11.setTop (mkF m 30 #[.val (.ref a1), .val (.ref a2), .val (.ref a3), .val (.ref a4), .val (.ref a5), .unset] [(.int (1 : Int32)), (.ref a1)]))
  obtain ⟨T13, h13, k13, X13, e13, E13, A13, st13⟩ := newP X11 hx hZ (hw _ (List.mem_of_getElem? (i := 0) rfl)) e11 (g := (mkF m 30 #[.val (.ref a1), .val (.ref a2), .val (.ref a3), .val (.ref a4), .val (.ref a5), .unset] [(.int (1 : Int32)), (.ref a1)])) rfl (hb hby d1_30) rfl (by decide) (cap := 1) (by decide) (by decide) (by decide) (by decide)
  obtain ⟨b13, g13⟩ : ∃ z, z = h11.size := ⟨_, rfl⟩
  rw [← g13] at A13 st13
  have O13 : OA Z h13 b13 .int 1 (fun _ => 0) := OA.new A13 (by decide) rfl
  have gb13 : n0 ≤ b13 := Nat.le_trans Z11 (Nat.le_of_eq g13.symm)
  have Z13 : n0 ≤ h13.size := Nat.le_trans Z11 E13.1
  have c14 := (c10.wr W11)
  have ne_a1_b13 : a1 ≠ b13 := Nat.ne_of_lt (Nat.lt_of_lt_of_le c14.lt (Nat.le_of_eq g13.symm))
  have ne_a2_b13 : a2 ≠ b13 := Nat.ne_of_lt (Nat.lt_of_lt_of_le c12.lt (Nat.le_of_eq g13.symm))
  have sz13 : h0.size ≤ b13 := Nat.le_trans K11.1 (Nat.le_of_eq g13.symm)
  have K13 : Keep h0 h13 [a1] := K11.ext E13
  obtain ⟨lo13, X13, N13⟩ : ∃ L, Stand p l e ({ frames := 1, cells := 2, slots := 2, locals := 12 } : Room) s m #[(.ref a1), (.ref a2), (.ref a3), (.ref a4), (.ref a5)] below meth c T13 L 1 1 ∧ Fr n0 L := ⟨_, X13, N11⟩
  refine OGo.st (fun t k => st13 t k) ?_
  show OGo p e below _ (T13.setTop (mkF m 32 #[.val (.ref a1), .val (.ref a2), .val (.ref a3), .val (.ref a4), .val (.ref a5), .unset] [(.ref b13), (.ref a1)]))
  have c15 := (((((F1_prefixes.other W2 (Or.inr (slot_ne (Or.inr (hw _ (List.mem_of_getElem? (i := 20) rfl))) (Or.inr (hw _ (List.mem_of_getElem? (i := 12) rfl))) (by decide) (t := (.array .int)) (t' := (.array .char)) (by decide) (by decide)))).other W5 (Or.inr (slot_ne (Or.inr (hw _ (List.mem_of_getElem? (i := 20) rfl))) (Or.inr (hw _ (List.mem_of_getElem? (i := 14) rfl))) (by decide) (t := (.array .int)) (t' := (.array .int)) (by decide) (by decide)))).other W8 (Or.inr (slot_ne (Or.inr (hw _ (List.mem_of_getElem? (i := 20) rfl))) (Or.inr (hw _ (List.mem_of_getElem? (i := 16) rfl))) (by decide) (t := (.array .int)) (t' := (.array .int)) (by decide) (by decide)))).other W11 (Or.inr (slot_ne (Or.inr (hw _ (List.mem_of_getElem? (i := 20) rfl))) (Or.inr (hw _ (List.mem_of_getElem? (i := 18) rfl))) (by decide) (t := (.array .int)) (t' := (.array .int)) (by decide) (by decide)))).ext E13)
  have c16 := (c14.ext E13)
  obtain ⟨T17, h17, X17, e17, W17, st17⟩ := putF X13 hx hZ hown (host := "") (Or.inl (hw _ (List.mem_of_getElem? (i := 19) rfl))) Via.refl e13 c15 c16 (Or.inr ⟨(hw _ (List.mem_of_getElem? (i := 20) rfl)), rfl, hnm⟩) (hw _ (List.mem_of_getElem? (i := 2) rfl)) (ty := (.array .int)) (by decide) rfl rfl (g := (mkF m 32 #[.val (.ref a1), .val (.ref a2), .val (.ref a3), .val (.ref a4), .val (.ref a5), .unset] [(.ref b13), (.ref a1)])) rfl rfl (hb hby d1_32)
  have Fw17 := c15.same W17
  have N17 := Fr.snoc X17 N13 g1
  have Z17 : n0 ≤ h17.size := Nat.le_trans Z13 (Keep.of_wr W17).1
  have K17 : Keep h0 h17 [a1] := K13.wr W17 (Or.inl (List.mem_of_getElem? (i := 0) rfl))
  obtain ⟨lo17, X17, N17⟩ : ∃ L, Stand p l e ({ frames := 1, cells := 2, slots := 2, locals := 12 } : Room) s m #[(.ref a1), (.ref a2), (.ref a3), (.ref a4), (.ref a5)] below meth c T17 L 1 1 ∧ Fr n0 L := ⟨_, X17, N17⟩
  refine OGo.st (fun t k => st17 t k) ?_
  show OGo p e below _ (T17.setTop (mkF m 35 #[.val (.ref a1), .val (.ref a2), .val (.ref a3), .val (.ref a4), .val (.ref a5), .unset] []))
  refine OGo.st (fun t k => XS.aloadN X17.here hx rfl (hb hby d1_35) rfl rfl k) ?_
  show OGo p e below _ (T17.setTop (mkF m 36 #[.val (.ref a1), .val (.ref a2), .val (.ref a3), .val (.ref a4), .val (.ref a5), .unset] [(.ref a1)]))
  refine OGo.st (fun t k => XS.aloadN X17.here hx rfl (hb hby d1_36) rfl rfl k) ?_
  show OGo p e below _ (T17.setTop (mkF m 37 #[.val (.ref a1), .val (.ref a2), .val (.ref a3), .val (.ref a4), .val (.ref a5), .unset] [(.ref a2), (.ref a1)]))
  have c18 := ((c12.ext E13).other W17 (Ne.symm ne12))
  refine OGo.st (fun t k => OA.len X17 hx hZ e17 c18 (z := (0 : Int32)) (by decide) (g := (mkF m 37 #[.val (.ref a1), .val (.ref a2), .val (.ref a3), .val (.ref a4), .val (.ref a5), .unset] [(.ref a2), (.ref a1)])) rfl rfl (hb hby d1_37) t k) ?_
  show OGo p e below _ (T17.setTop (mkF m 38 #[.val (.ref a1), .val (.ref a2), .val (.ref a3), .val (.ref a4), .val (.ref a5), .unset] [(.int (0 : Int32)), (.ref a1)]))
  refine OGo.st (fun t k => XS.iconst X17.here hx rfl (hb hby d1_38) k) ?_
  show OGo p e below _ (T17.setTop (mkF m 39 #[.val (.ref a1), .val (.ref a2), .val (.ref a3), .val (.ref a4), .val (.ref a5), .unset] [(.int (1 : Int32)), (.int (0 : Int32)), (.ref a1)]))
  refine OGo.st (fun t k => XS.iadd X17.here hx rfl (hb hby d1_39) rfl k) ?_
  show OGo p e below _ (T17.setTop (mkF m 40 #[.val (.ref a1), .val (.ref a2), .val (.ref a3), .val (.ref a4), .val (.ref a5), .unset] [(.int (1 : Int32)), (.ref a1)]))
  obtain ⟨T19, h19, k19, X19, e19, E19, A19, st19⟩ := newP X17 hx hZ (hw _ (List.mem_of_getElem? (i := 0) rfl)) e17 (g := (mkF m 40 #[.val (.ref a1), .val (.ref a2), .val (.ref a3), .val (.ref a4), .val (.ref a5), .unset] [(.int (1 : Int32)), (.ref a1)])) rfl (hb hby d1_40) rfl (by decide) (cap := 1) (by decide) (by decide) (by decide) (by decide)
  obtain ⟨b19, g19⟩ : ∃ z, z = h17.size := ⟨_, rfl⟩
  rw [← g19] at A19 st19
  have O19 : OA Z h19 b19 .int 1 (fun _ => 0) := OA.new A19 (by decide) rfl
  have gb19 : n0 ≤ b19 := Nat.le_trans Z17 (Nat.le_of_eq g19.symm)
  have Z19 : n0 ≤ h19.size := Nat.le_trans Z17 E19.1
  have c20 := (c16.wr W17)
  have ne_a1_b19 : a1 ≠ b19 := Nat.ne_of_lt (Nat.lt_of_lt_of_le c20.lt (Nat.le_of_eq g19.symm))
  have ne_a2_b19 : a2 ≠ b19 := Nat.ne_of_lt (Nat.lt_of_lt_of_le c18.lt (Nat.le_of_eq g19.symm))
  have c21 := (O13.other W17 (Ne.symm ne_a1_b13))
  have ne_b13_b19 : b13 ≠ b19 := Nat.ne_of_lt (Nat.lt_of_lt_of_le c21.lt (Nat.le_of_eq g19.symm))
  have sz19 : h0.size ≤ b19 := Nat.le_trans K17.1 (Nat.le_of_eq g19.symm)
  have K19 : Keep h0 h19 [a1] := K17.ext E19
  obtain ⟨lo19, X19, N19⟩ : ∃ L, Stand p l e ({ frames := 1, cells := 2, slots := 2, locals := 12 } : Room) s m #[(.ref a1), (.ref a2), (.ref a3), (.ref a4), (.ref a5)] below meth c T19 L 2 2 ∧ Fr n0 L := ⟨_, X19, N17⟩
  refine OGo.st (fun t k => st19 t k) ?_
  show OGo p e below _ (T19.setTop (mkF m 42 #[.val (.ref a1), .val (.ref a2), .val (.ref a3), .val (.ref a4), .val (.ref a5), .unset] [(.ref b19), (.ref a1)]))
  have c22 := (((((((F1_powers.other W2 (Or.inr (slot_ne (Or.inr (hw _ (List.mem_of_getElem? (i := 22) rfl))) (Or.inr (hw _ (List.mem_of_getElem? (i := 12) rfl))) (by decide) (t := (.array .int)) (t' := (.array .char)) (by decide) (by decide)))).other W5 (Or.inr (slot_ne (Or.inr (hw _ (List.mem_of_getElem? (i := 22) rfl))) (Or.inr (hw _ (List.mem_of_getElem? (i := 14) rfl))) (by decide) (t := (.array .int)) (t' := (.array .int)) (by decide) (by decide)))).other W8 (Or.inr (slot_ne (Or.inr (hw _ (List.mem_of_getElem? (i := 22) rfl))) (Or.inr (hw _ (List.mem_of_getElem? (i := 16) rfl))) (by decide) (t := (.array .int)) (t' := (.array .int)) (by decide) (by decide)))).other W11 (Or.inr (slot_ne (Or.inr (hw _ (List.mem_of_getElem? (i := 22) rfl))) (Or.inr (hw _ (List.mem_of_getElem? (i := 18) rfl))) (by decide) (t := (.array .int)) (t' := (.array .int)) (by decide) (by decide)))).ext E13).other W17 (Or.inr (slot_ne (Or.inr (hw _ (List.mem_of_getElem? (i := 22) rfl))) (Or.inr (hw _ (List.mem_of_getElem? (i := 20) rfl))) (by decide) (t := (.array .int)) (t' := (.array .int)) (by decide) (by decide)))).ext E19)
  have c23 := (c20.ext E19)
  obtain ⟨T24, h24, X24, e24, W24, st24⟩ := putF X19 hx hZ hown (host := "") (Or.inl (hw _ (List.mem_of_getElem? (i := 21) rfl))) Via.refl e19 c22 c23 (Or.inr ⟨(hw _ (List.mem_of_getElem? (i := 22) rfl)), rfl, hnm⟩) (hw _ (List.mem_of_getElem? (i := 2) rfl)) (ty := (.array .int)) (by decide) rfl rfl (g := (mkF m 42 #[.val (.ref a1), .val (.ref a2), .val (.ref a3), .val (.ref a4), .val (.ref a5), .unset] [(.ref b19), (.ref a1)])) rfl rfl (hb hby d1_42)
  have Fw24 := c22.same W24
  have N24 := Fr.snoc X24 N19 g1
  have Z24 : n0 ≤ h24.size := Nat.le_trans Z19 (Keep.of_wr W24).1
  have K24 : Keep h0 h24 [a1] := K19.wr W24 (Or.inl (List.mem_of_getElem? (i := 0) rfl))
  obtain ⟨lo24, X24, N24⟩ : ∃ L, Stand p l e ({ frames := 1, cells := 2, slots := 2, locals := 12 } : Room) s m #[(.ref a1), (.ref a2), (.ref a3), (.ref a4), (.ref a5)] below meth c T24 L 2 2 ∧ Fr n0 L := ⟨_, X24, N24⟩
  refine OGo.st (fun t k => st24 t k) ?_
  show OGo p e below _ (T24.setTop (mkF m 45 #[.val (.ref a1), .val (.ref a2), .val (.ref a3), .val (.ref a4), .val (.ref a5), .unset] []))
  refine OGo.st (fun t k => XS.aloadN X24.here hx rfl (hb hby d1_45) rfl rfl k) ?_
  show OGo p e below _ (T24.setTop (mkF m 46 #[.val (.ref a1), .val (.ref a2), .val (.ref a3), .val (.ref a4), .val (.ref a5), .unset] [(.ref a1)]))
  obtain ⟨T25, X25, e25, st25⟩ := getF X24 hx hZ hown (host := "") (Or.inl (hw _ (List.mem_of_getElem? (i := 21) rfl))) Via.refl e24 Fw24 (g := (mkF m 46 #[.val (.ref a1), .val (.ref a2), .val (.ref a3), .val (.ref a4), .val (.ref a5), .unset] [(.ref a1)])) rfl rfl (hb hby d1_46)
  refine OGo.st (fun t k => st25 t k) ?_
  show OGo p e below _ (T25.setTop (mkF m 49 #[.val (.ref a1), .val (.ref a2), .val (.ref a3), .val (.ref a4), .val (.ref a5), .unset] [(.ref b19)]))
  refine OGo.st (fun t k => XS.iconst X25.here hx rfl (hb hby d1_49) k) ?_
  show OGo p e below _ (T25.setTop (mkF m 50 #[.val (.ref a1), .val (.ref a2), .val (.ref a3), .val (.ref a4), .val (.ref a5), .unset] [(.int (0 : Int32)), (.ref b19)]))
  refine OGo.st (fun t k => XS.iconst X25.here hx rfl (hb hby d1_50) k) ?_
  show OGo p e below _ (T25.setTop (mkF m 51 #[.val (.ref a1), .val (.ref a2), .val (.ref a3), .val (.ref a4), .val (.ref a5), .unset] [(.int (1 : Int32)), (.int (0 : Int32)), (.ref b19)]))
  have c27 := (O19.other W24 (Ne.symm ne_a1_b19))
  obtain ⟨T26, h26, X26, e26, W26, O26', st26⟩ := OA.stI X25 hx hZ e25 c27 (j := (0 : Int32)) (x := (1 : Int32)) (k := 0) (by decide) (by decide) (by decide) (g := (mkF m 51 #[.val (.ref a1), .val (.ref a2), .val (.ref a3), .val (.ref a4), .val (.ref a5), .unset] [(.int (1 : Int32)), (.int (0 : Int32)), (.ref b19)])) rfl rfl (hb hby d1_51)
  obtain ⟨fa26, hf26⟩ : ∃ z, z = oset (fun _ => 0) 0 (1 : Int32) := ⟨_, rfl⟩
  have O26 := O26'
  rw [← hf26] at O26
  have N26 := Fr.snoc X26 N24 gb19
  have Z26 : n0 ≤ h26.size := Nat.le_trans Z24 (Keep.of_wr W26).1
  have K26 : Keep h0 h26 [a1] := K24.wr W26 (Or.inr sz19)
  obtain ⟨lo26, X26, N26⟩ : ∃ L, Stand p l e ({ frames := 1, cells := 2, slots := 2, locals := 12 } : Room) s m #[(.ref a1), (.ref a2), (.ref a3), (.ref a4), (.ref a5)] below meth c T26 L 2 2 ∧ Fr n0 L := ⟨_, X26, N26⟩
  refine OGo.st (fun t k => st26 t k) ?_
  show OGo p e below _ (T26.setTop (mkF m 52 #[.val (.ref a1), .val (.ref a2), .val (.ref a3), .val (.ref a4), .val (.ref a5), .unset] []))
  refine OGo.st (fun t k => XS.iconst X26.here hx rfl (hb hby d1_52) k) ?_
  show OGo p e below _ (T26.setTop (mkF m 53 #[.val (.ref a1), .val (.ref a2), .val (.ref a3), .val (.ref a4), .val (.ref a5), .unset] [(.int (0 : Int32))]))
  refine OGo.st (fun t k => XS.istore X26.here hx rfl (hb hby d1_53) rfl (l' := #[.val (.ref a1), .val (.ref a2), .val (.ref a3), .val (.ref a4), .val (.ref a5), .val (.int (0 : Int32))]) rfl k) ?_
  show OGo p e below _ (T26.setTop (mkF m 55 #[.val (.ref a1), .val (.ref a2), .val (.ref a3), .val (.ref a4), .val (.ref a5), .val (.int (0 : Int32))] []))
  refine OGo.st (fun t k => XS.iload X26.here hx rfl (hb hby d1_55) rfl k) ?_
  show OGo p e below _ (T26.setTop (mkF m 57 #[.val (.ref a1), .val (.ref a2), .val (.ref a3), .val (.ref a4), .val (.ref a5), .val (.int (0 : Int32))] [(.int (0 : Int32))]))
  refine OGo.st (fun t k => XS.aloadN X26.here hx rfl (hb hby d1_57) rfl rfl k) ?_
  show OGo p e below _ (T26.setTop (mkF m 58 #[.val (.ref a1), .val (.ref a2), .val (.ref a3), .val (.ref a4), .val (.ref a5), .val (.int (0 : Int32))] [(.ref a2), (.int (0 : Int32))]))
  have c28 := (((c18.ext E19).other W24 (Ne.symm ne12)).other W26 ne_a2_b19)
  refine OGo.st (fun t k => OA.len X26 hx hZ e26 c28 (z := (0 : Int32)) (by decide) (g := (mkF m 58 #[.val (.ref a1), .val (.ref a2), .val (.ref a3), .val (.ref a4), .val (.ref a5), .val (.int (0 : Int32))] [(.ref a2), (.int (0 : Int32))])) rfl rfl (hb hby d1_58) t k) ?_
  show OGo p e below _ (T26.setTop (mkF m 59 #[.val (.ref a1), .val (.ref a2), .val (.ref a3), .val (.ref a4), .val (.ref a5), .val (.int (0 : Int32))] [(.int (0 : Int32)), (.int (0 : Int32))]))
  refine OGo.st (fun t k => XS.icmpYes X26.here hx rfl (pc0 := 59) (pc' := 111) rfl (hb hby d1_59) rfl (flt (by decide : ¬ ((0 : Int32) < (0 : Int32)))).2.1 (by decide) (by decide) k) ?_
  show OGo p e below _ (T26.setTop (mkF m 111 #[.val (.ref a1), .val (.ref a2), .val (.ref a3), .val (.ref a4), .val (.ref a5), .val (.int (0 : Int32))] []))
  have c29 := ((c23.wr W24).wr W26)
  have c30 := ((((((Fw8.other W11 (Or.inr (slot_ne (Or.inr (hw _ (List.mem_of_getElem? (i := 16) rfl))) (Or.inr (hw _ (List.mem_of_getElem? (i := 18) rfl))) (by decide) (t := (.array .int)) (t' := (.array .int)) (by decide) (by decide)))).ext E13).other W17 (Or.inr (slot_ne (Or.inr (hw _ (List.mem_of_getElem? (i := 16) rfl))) (Or.inr (hw _ (List.mem_of_getElem? (i := 20) rfl))) (by decide) (t := (.array .int)) (t' := (.array .int)) (by decide) (by decide)))).ext E19).other W24 (Or.inr (slot_ne (Or.inr (hw _ (List.mem_of_getElem? (i := 16) rfl))) (Or.inr (hw _ (List.mem_of_getElem? (i := 22) rfl))) (by decide) (t := (.array .int)) (t' := (.array .int)) (by decide) (by decide)))).other W26 (Or.inl ne_a1_b19))
  have c31 := (((((Fw11.ext E13).other W17 (Or.inr (slot_ne (Or.inr (hw _ (List.mem_of_getElem? (i := 18) rfl))) (Or.inr (hw _ (List.mem_of_getElem? (i := 20) rfl))) (by decide) (t := (.array .int)) (t' := (.array .int)) (by decide) (by decide)))).ext E19).other W24 (Or.inr (slot_ne (Or.inr (hw _ (List.mem_of_getElem? (i := 18) rfl))) (Or.inr (hw _ (List.mem_of_getElem? (i := 22) rfl))) (by decide) (t := (.array .int)) (t' := (.array .int)) (by decide) (by decide)))).other W26 (Or.inl ne_a1_b19))
  refine OGo.outV X26 hx Bd.returns Bd.notSynchronized (hb hby d1_111) ?_ (by decide) (by decide)
  rw [e26]
  exact ⟨rfl, N26, K26, c29, c30, c31⟩
theorem d3_0 : decode prog_17_method_3_code 0 = .ok (.iload 4, 2) := by decide +kernel
theorem d3_2 : decode prog_17_method_3_code 2 = .ok (.istore 5, 2) := by decide +kernel
theorem d3_4 : decode prog_17_method_3_code 4 = .ok (.aload_n 0, 1) := by decide +kernel
theorem d3_5 : decode prog_17_method_3_code 5 = .ok (.getfield 17, 3) := by decide +kernel
theorem d3_8 : decode prog_17_method_3_code 8 = .ok (.iload_n 1, 1) := by decide +kernel
theorem d3_9 : decode prog_17_method_3_code 9 = .ok (.iaload, 1) := by decide +kernel
theorem d3_10 : decode prog_17_method_3_code 10 = .ok (.istore 6, 2) := by decide +kernel
theorem d3_12 : decode prog_17_method_3_code 12 = .ok (.iload 6, 2) := by decide +kernel
theorem d3_14 : decode prog_17_method_3_code 14 = .ok (.ifCond .lt 31, 3) := by decide +kernel
theorem d3_17 : decode prog_17_method_3_code 17 = .ok (.iload 5, 2) := by decide +kernel
theorem d3_19 : decode prog_17_method_3_code 19 = .ok (.bipush 31, 2) := by decide +kernel
theorem d3_21 : decode prog_17_method_3_code 21 = .ok (.imul, 1) := by decide +kernel
theorem d3_22 : decode prog_17_method_3_code 22 = .ok (.aload_n 2, 1) := by decide +kernel
theorem d3_23 : decode prog_17_method_3_code 23 = .ok (.iload_n 3, 1) := by decide +kernel
theorem d3_24 : decode prog_17_method_3_code 24 = .ok (.iload 6, 2) := by decide +kernel
theorem d3_26 : decode prog_17_method_3_code 26 = .ok (.iadd, 1) := by decide +kernel
theorem d3_27 : decode prog_17_method_3_code 27 = .ok (.iaload, 1) := by decide +kernel
theorem d3_28 : decode prog_17_method_3_code 28 = .ok (.iadd, 1) := by decide +kernel
theorem d3_29 : decode prog_17_method_3_code 29 = .ok (.istore 5, 2) := by decide +kernel
theorem d3_31 : decode prog_17_method_3_code 31 = .ok (.aload_n 0, 1) := by decide +kernel
theorem d3_32 : decode prog_17_method_3_code 32 = .ok (.getfield 20, 3) := by decide +kernel
theorem d3_35 : decode prog_17_method_3_code 35 = .ok (.iload 6, 2) := by decide +kernel
theorem d3_37 : decode prog_17_method_3_code 37 = .ok (.iconst 2, 1) := by decide +kernel
theorem d3_38 : decode prog_17_method_3_code 38 = .ok (.idiv, 1) := by decide +kernel
theorem d3_39 : decode prog_17_method_3_code 39 = .ok (.iaload, 1) := by decide +kernel
theorem d3_40 : decode prog_17_method_3_code 40 = .ok (.istore 6, 2) := by decide +kernel
theorem d3_42 : decode prog_17_method_3_code 42 = .ok (.goto (-30), 3) := by decide +kernel
theorem d3_45 : decode prog_17_method_3_code 45 = .ok (.iload 5, 2) := by decide +kernel
theorem d3_47 : decode prog_17_method_3_code 47 = .ok (.ireturn, 1) := by decide +kernel
theorem pn3 : plainName "com/example/triadne/triadne/CaptureKeys" = true := by first | (simp [plainName, overriddenIn]; done) | decide +kernel
theorem ef3 (m : MethodId) (a1 : Addr) (i : Nat) (a2 : Addr) (fr : Nat) (tt : Int32) : entryFrame m #[(.ref a1), (.int (Int32.ofNat i)), (.ref a2), (.int (Int32.ofNat fr)), (.int tt)] 7 = mkF m 0 #[.val (.ref a1), .val (.int (Int32.ofNat i)), .val (.ref a2), .val (.int (Int32.ofNat fr)), .val (.int tt), .unset, .unset] [] := by first | (simp [entryFrame, mkF, argsToLocals, Value.category]; done) | rfl
set_option maxRecDepth 65536 in
set_option maxHeartbeats 40000000 in
theorem rm3 (l : Launch) (Z : State) (a0 : Array Value) (hw : ∀ d ∈ tables_1, d.before a0 Z = true) (ws : List Jvm.Cond) (a1 : Addr) (i : Nat) (a2 : Addr) (fr : Nat) (tt : Int32) (a4 : Addr) (a5 : Addr) (fi : Nat → Int32) (fg : Nat → Int32) (fs : Nat → Int32) (z : Int32) (cc : Int32) (g1 : Int32) (g2 : Int32) (s0 : Int32) (s2 : Int32) (s4 : Int32) (h0 : Heap) (n0 : Nat) (Z0 : n0 ≤ h0.size) (E1 : Exa Z h0 a1 "com/example/triadne/triadne/CaptureKeys") (Fi : Fld Z h0 a1 "com/example/triadne/triadne/CaptureKeys" "innermostOpen" "[I" (.ref a4)) (Fo : Fld Z h0 a1 "com/example/triadne/triadne/CaptureKeys" "openAround" "[I" (.ref a5)) (O4 : OA Z h0 a4 .int 4 fi) (O5 : OA Z h0 a5 .int 3 fg) (O2 : OA Z h0 a2 .int 10 fs) (hi : i < 4) (hfr : fr < 4) (hi0 : fi 0 = -1) (hi1 : fi 1 = 0) (hi2 : fi 2 = 2) (hi3 : fi 3 = 4) (hg0 : fg 0 = -1) (hg1 : fg 1 = g1) (hg2 : fg 2 = g2) (hz1 : (z = 0 ∧ g1 = -1) ∨ (¬ z = 0 ∧ g1 = 0)) (hz2 : (cc = 0 ∧ g2 = -1) ∨ (¬ cc = 0 ∧ cc = 1 ∧ g2 = 0) ∨ (¬ cc = 0 ∧ ¬ cc = 1 ∧ g2 = 2)) (hv0 : fs (fr + 0) = s0) (hv2 : fs (fr + 2) = s2) (hv4 : fs (fr + 4) = s4) :
    MetFree l (⟨"com/example/triadne/triadne/CaptureKeys", "hash", "(I[III)I"⟩ : MethodName) (head1 (Jvm.Cond.code (⟨"com/example/triadne/triadne/CaptureKeys", "hash", "(I[III)I"⟩ : MethodName) prog_17_method_3_code 7 (some .int) :: ws) ({ frames := 0, cells := 0, slots := 0, locals := 0 } : Room)) (fun a U => a = #[(.ref a1), (.int (Int32.ofNat i)), (.ref a2), (.int (Int32.ofNat fr)), (.int tt)] ∧ Z.Warmed39 U.vm ∧ U.heap = h0) (fun _ _ _ _ _ => True) (fun _ U o U' => ∃ v L, o = .returned v ∧ PI n0 h0 (HV i z cc s0 s2 s4 tt) v U'.heap L ∧ FrameEnd U o U' L ({ frames := 0, cells := 0, slots := 0, locals := 0 } : Room).cells ({ frames := 0, cells := 0, slots := 0, locals := 0 } : Room).slots) := by
  refine MetFree.of_bodySF (plainFor_of_name pn3) hisR ?_
  intro p e s m args below meth c s₁ Bd hml0 hP hK
  obtain ⟨rfl, hZ, hh⟩ := hP
  have hx := Bd.exec
  have hby := Bd.bytes
  have hml : c.maxLocals = 7 := hml0
  have hown : s.vm.findClass "com/example/triadne/triadne/CaptureKeys" = some m.cls := findClass_of_methodNamed Bd.named
  have hnm := (name_of_methodNamed Bd.named Bd.method).1
  have X0 : Stand p l e ({ frames := 0, cells := 0, slots := 0, locals := 0 } : Room) s m #[(.ref a1), (.int (Int32.ofNat i)), (.ref a2), (.int (Int32.ofNat fr)), (.int tt)] below meth c s₁ [] 0 0 := Stand.of_body Bd
  have e0 : s₁.heap = h0 := by rw [← hh, Bd.state]; rfl
  have N0 := Fr.nil n0
  show OGo p e below (Out s ({ frames := 0, cells := 0, slots := 0, locals := 0 } : Room).cells ({ frames := 0, cells := 0, slots := 0, locals := 0 } : Room).slots (PI n0 h0 (HV i z cc s0 s2 s4 tt))) (s₁.setTop (entryFrame m #[(.ref a1), (.int (Int32.ofNat i)), (.ref a2), (.int (Int32.ofNat fr)), (.int tt)] 7))
  have Jm : ∀ (T : State) (X : Stand p l e ({ frames := 0, cells := 0, slots := 0, locals := 0 } : Room) s m #[(.ref a1), (.int (Int32.ofNat i)), (.ref a2), (.int (Int32.ofNat fr)), (.int tt)] below meth c T [] 0 0) (eT : T.heap = h0) (hh : Int32), OGo p e below (Out s ({ frames := 0, cells := 0, slots := 0, locals := 0 } : Room).cells ({ frames := 0, cells := 0, slots := 0, locals := 0 } : Room).slots (PI n0 h0 hh)) (T.setTop (mkF m 12 #[.val (.ref a1), .val (.int (Int32.ofNat i)), .val (.ref a2), .val (.int (Int32.ofNat fr)), .val (.int tt), .val (.int hh), .val (.int (-1 : Int32))] [])) := by
    intro T X eT hh
    refine OGo.st (fun t k => XS.iload X.here hx rfl (hb hby d3_12) rfl k) ?_
    show OGo p e below _ (T.setTop (mkF m 14 #[.val (.ref a1), .val (.int (Int32.ofNat i)), .val (.ref a2), .val (.int (Int32.ofNat fr)), .val (.int tt), .val (.int hh), .val (.int (-1 : Int32))] [(.int (-1 : Int32))]))
    refine OGo.st (fun t k => XS.ifYes X.here hx rfl (pc0 := 14) (pc' := 45) rfl (hb hby d3_14) rfl ((if0 _ _).trans (tlt (by decide : ((-1 : Int32) < (0 : Int32)))).1) (by decide) (by decide) k) ?_
    show OGo p e below _ (T.setTop (mkF m 45 #[.val (.ref a1), .val (.int (Int32.ofNat i)), .val (.ref a2), .val (.int (Int32.ofNat fr)), .val (.int tt), .val (.int hh), .val (.int (-1 : Int32))] []))
    refine OGo.st (fun t k => XS.iload X.here hx rfl (hb hby d3_45) rfl k) ?_
    show OGo p e below _ (T.setTop (mkF m 47 #[.val (.ref a1), .val (.int (Int32.ofNat i)), .val (.ref a2), .val (.int (Int32.ofNat fr)), .val (.int tt), .val (.int hh), .val (.int (-1 : Int32))] [(.int hh)]))
    exact OGo.outI X hx Bd.returns Bd.notSynchronized (hb hby d3_47) ⟨rfl, N0, eT⟩ (by decide) (by decide)
  have J0 : ∀ (T : State) (X : Stand p l e ({ frames := 0, cells := 0, slots := 0, locals := 0 } : Room) s m #[(.ref a1), (.int (Int32.ofNat i)), (.ref a2), (.int (Int32.ofNat fr)), (.int tt)] below meth c T [] 0 0) (eT : T.heap = h0) (hh : Int32), OGo p e below (Out s ({ frames := 0, cells := 0, slots := 0, locals := 0 } : Room).cells ({ frames := 0, cells := 0, slots := 0, locals := 0 } : Room).slots (PI n0 h0 (H0 s0 hh))) (T.setTop (mkF m 12 #[.val (.ref a1), .val (.int (Int32.ofNat i)), .val (.ref a2), .val (.int (Int32.ofNat fr)), .val (.int tt), .val (.int hh), .val (.int (0 : Int32))] [])) := by
    intro T X eT hh
    show OGo p e below (Out s ({ frames := 0, cells := 0, slots := 0, locals := 0 } : Room).cells ({ frames := 0, cells := 0, slots := 0, locals := 0 } : Room).slots (PI n0 h0 (hh * (31 : Int32) + s0))) (T.setTop (mkF m 12 #[.val (.ref a1), .val (.int (Int32.ofNat i)), .val (.ref a2), .val (.int (Int32.ofNat fr)), .val (.int tt), .val (.int hh), .val (.int (0 : Int32))] []))
    refine OGo.st (fun t k => XS.iload X.here hx rfl (hb hby d3_12) rfl k) ?_
    show OGo p e below _ (T.setTop (mkF m 14 #[.val (.ref a1), .val (.int (Int32.ofNat i)), .val (.ref a2), .val (.int (Int32.ofNat fr)), .val (.int tt), .val (.int hh), .val (.int (0 : Int32))] [(.int (0 : Int32))]))
    refine OGo.st (fun t k => XS.ifNo X.here hx rfl (hb hby d3_14) rfl ((if0 _ _).trans (flt (by decide : ¬ ((0 : Int32) < (0 : Int32)))).1) k) ?_
    show OGo p e below _ (T.setTop (mkF m 17 #[.val (.ref a1), .val (.int (Int32.ofNat i)), .val (.ref a2), .val (.int (Int32.ofNat fr)), .val (.int tt), .val (.int hh), .val (.int (0 : Int32))] []))
    refine OGo.st (fun t k => XS.iload X.here hx rfl (hb hby d3_17) rfl k) ?_
    show OGo p e below _ (T.setTop (mkF m 19 #[.val (.ref a1), .val (.int (Int32.ofNat i)), .val (.ref a2), .val (.int (Int32.ofNat fr)), .val (.int tt), .val (.int hh), .val (.int (0 : Int32))] [(.int hh)]))
    refine OGo.st (fun t k => XS.bipush X.here hx rfl (hb hby d3_19) k) ?_
    show OGo p e below _ (T.setTop (mkF m 21 #[.val (.ref a1), .val (.int (Int32.ofNat i)), .val (.ref a2), .val (.int (Int32.ofNat fr)), .val (.int tt), .val (.int hh), .val (.int (0 : Int32))] [(.int (31 : Int32)), (.int hh)]))
    refine OGo.st (fun t k => XS.imul X.here hx rfl (hb hby d3_21) rfl k) ?_
    show OGo p e below _ (T.setTop (mkF m 22 #[.val (.ref a1), .val (.int (Int32.ofNat i)), .val (.ref a2), .val (.int (Int32.ofNat fr)), .val (.int tt), .val (.int hh), .val (.int (0 : Int32))] [(.int (hh * (31 : Int32)))]))
    refine OGo.st (fun t k => XS.aloadN X.here hx rfl (hb hby d3_22) rfl rfl k) ?_
    show OGo p e below _ (T.setTop (mkF m 23 #[.val (.ref a1), .val (.int (Int32.ofNat i)), .val (.ref a2), .val (.int (Int32.ofNat fr)), .val (.int tt), .val (.int hh), .val (.int (0 : Int32))] [(.ref a2), (.int (hh * (31 : Int32)))]))
    refine OGo.st (fun t k => XS.iloadN X.here hx rfl (hb hby d3_23) rfl k) ?_
    show OGo p e below _ (T.setTop (mkF m 24 #[.val (.ref a1), .val (.int (Int32.ofNat i)), .val (.ref a2), .val (.int (Int32.ofNat fr)), .val (.int tt), .val (.int hh), .val (.int (0 : Int32))] [(.int (Int32.ofNat fr)), (.ref a2), (.int (hh * (31 : Int32)))]))
    refine OGo.st (fun t k => XS.iload X.here hx rfl (hb hby d3_24) rfl k) ?_
    show OGo p e below _ (T.setTop (mkF m 26 #[.val (.ref a1), .val (.int (Int32.ofNat i)), .val (.ref a2), .val (.int (Int32.ofNat fr)), .val (.int tt), .val (.int hh), .val (.int (0 : Int32))] [(.int (0 : Int32)), (.int (Int32.ofNat fr)), (.ref a2), (.int (hh * (31 : Int32)))]))
    refine OGo.st (fun t k => XS.iadd X.here hx rfl (hb hby d3_26) rfl k) ?_
    show OGo p e below _ (T.setTop (mkF m 27 #[.val (.ref a1), .val (.int (Int32.ofNat i)), .val (.ref a2), .val (.int (Int32.ofNat fr)), .val (.int tt), .val (.int hh), .val (.int (0 : Int32))] [(.int ((Int32.ofNat fr) + (0 : Int32))), (.ref a2), (.int (hh * (31 : Int32)))]))
    refine OGo.st (fun t k => OA.ldI X hx hZ eT O2 (j := ((Int32.ofNat fr) + (0 : Int32))) (k := (fr + 0)) (own_ix (show fr + 0 < 100 by omega)).1 (own_ix (show fr + 0 < 100 by omega)).2 (by omega) (g := (mkF m 27 #[.val (.ref a1), .val (.int (Int32.ofNat i)), .val (.ref a2), .val (.int (Int32.ofNat fr)), .val (.int tt), .val (.int hh), .val (.int (0 : Int32))] [(.int ((Int32.ofNat fr) + (0 : Int32))), (.ref a2), (.int (hh * (31 : Int32)))])) rfl rfl (hb hby d3_27) t k) ?_
    show OGo p e below _ (T.setTop (mkF m 28 #[.val (.ref a1), .val (.int (Int32.ofNat i)), .val (.ref a2), .val (.int (Int32.ofNat fr)), .val (.int tt), .val (.int hh), .val (.int (0 : Int32))] [(.int (fs (fr + 0))), (.int (hh * (31 : Int32)))]))
    rw [hv0]
    show OGo p e below _ (T.setTop (mkF m 28 #[.val (.ref a1), .val (.int (Int32.ofNat i)), .val (.ref a2), .val (.int (Int32.ofNat fr)), .val (.int tt), .val (.int hh), .val (.int (0 : Int32))] [(.int s0), (.int (hh * (31 : Int32)))]))
    refine OGo.st (fun t k => XS.iadd X.here hx rfl (hb hby d3_28) rfl k) ?_
    show OGo p e below _ (T.setTop (mkF m 29 #[.val (.ref a1), .val (.int (Int32.ofNat i)), .val (.ref a2), .val (.int (Int32.ofNat fr)), .val (.int tt), .val (.int hh), .val (.int (0 : Int32))] [(.int ((hh * (31 : Int32)) + s0))]))
    refine OGo.st (fun t k => XS.istore X.here hx rfl (hb hby d3_29) rfl (l' := #[.val (.ref a1), .val (.int (Int32.ofNat i)), .val (.ref a2), .val (.int (Int32.ofNat fr)), .val (.int tt), .val (.int ((hh * (31 : Int32)) + s0)), .val (.int (0 : Int32))]) rfl k) ?_
    show OGo p e below _ (T.setTop (mkF m 31 #[.val (.ref a1), .val (.int (Int32.ofNat i)), .val (.ref a2), .val (.int (Int32.ofNat fr)), .val (.int tt), .val (.int ((hh * (31 : Int32)) + s0)), .val (.int (0 : Int32))] []))
    refine OGo.st (fun t k => XS.aloadN X.here hx rfl (hb hby d3_31) rfl rfl k) ?_
    show OGo p e below _ (T.setTop (mkF m 32 #[.val (.ref a1), .val (.int (Int32.ofNat i)), .val (.ref a2), .val (.int (Int32.ofNat fr)), .val (.int tt), .val (.int ((hh * (31 : Int32)) + s0)), .val (.int (0 : Int32))] [(.ref a1)]))
    obtain ⟨T1, X1, e1, st1⟩ := getF X hx hZ hown (host := "") (Or.inl (hw _ (List.mem_of_getElem? (i := 17) rfl))) Via.refl eT Fo (g := (mkF m 32 #[.val (.ref a1), .val (.int (Int32.ofNat i)), .val (.ref a2), .val (.int (Int32.ofNat fr)), .val (.int tt), .val (.int ((hh * (31 : Int32)) + s0)), .val (.int (0 : Int32))] [(.ref a1)])) rfl rfl (hb hby d3_32)
    refine OGo.st (fun t k => st1 t k) ?_
    show OGo p e below _ (T1.setTop (mkF m 35 #[.val (.ref a1), .val (.int (Int32.ofNat i)), .val (.ref a2), .val (.int (Int32.ofNat fr)), .val (.int tt), .val (.int ((hh * (31 : Int32)) + s0)), .val (.int (0 : Int32))] [(.ref a5)]))
    refine OGo.st (fun t k => XS.iload X1.here hx rfl (hb hby d3_35) rfl k) ?_
    show OGo p e below _ (T1.setTop (mkF m 37 #[.val (.ref a1), .val (.int (Int32.ofNat i)), .val (.ref a2), .val (.int (Int32.ofNat fr)), .val (.int tt), .val (.int ((hh * (31 : Int32)) + s0)), .val (.int (0 : Int32))] [(.int (0 : Int32)), (.ref a5)]))
    refine OGo.st (fun t k => XS.iconst X1.here hx rfl (hb hby d3_37) k) ?_
    show OGo p e below _ (T1.setTop (mkF m 38 #[.val (.ref a1), .val (.int (Int32.ofNat i)), .val (.ref a2), .val (.int (Int32.ofNat fr)), .val (.int tt), .val (.int ((hh * (31 : Int32)) + s0)), .val (.int (0 : Int32))] [(.int (2 : Int32)), (.int (0 : Int32)), (.ref a5)]))
    refine OGo.st (fun t k => XS.idiv X1.here hx rfl (hb hby d3_38) rfl (by decide) k) ?_
    show OGo p e below _ (T1.setTop (mkF m 39 #[.val (.ref a1), .val (.int (Int32.ofNat i)), .val (.ref a2), .val (.int (Int32.ofNat fr)), .val (.int tt), .val (.int ((hh * (31 : Int32)) + s0)), .val (.int (0 : Int32))] [(.int ((0 : Int32) / (2 : Int32))), (.ref a5)]))
    rw [show ((0 : Int32) / (2 : Int32)) = (0 : Int32) from by decide]
    show OGo p e below _ (T1.setTop (mkF m 39 #[.val (.ref a1), .val (.int (Int32.ofNat i)), .val (.ref a2), .val (.int (Int32.ofNat fr)), .val (.int tt), .val (.int ((hh * (31 : Int32)) + s0)), .val (.int (0 : Int32))] [(.int (0 : Int32)), (.ref a5)]))
    refine OGo.st (fun t k => OA.ldI X1 hx hZ e1 O5 (j := (0 : Int32)) (k := 0) (by decide) (by decide) (by decide) (g := (mkF m 39 #[.val (.ref a1), .val (.int (Int32.ofNat i)), .val (.ref a2), .val (.int (Int32.ofNat fr)), .val (.int tt), .val (.int ((hh * (31 : Int32)) + s0)), .val (.int (0 : Int32))] [(.int (0 : Int32)), (.ref a5)])) rfl rfl (hb hby d3_39) t k) ?_
    show OGo p e below _ (T1.setTop (mkF m 40 #[.val (.ref a1), .val (.int (Int32.ofNat i)), .val (.ref a2), .val (.int (Int32.ofNat fr)), .val (.int tt), .val (.int ((hh * (31 : Int32)) + s0)), .val (.int (0 : Int32))] [(.int (fg 0))]))
    rw [hg0]
    show OGo p e below _ (T1.setTop (mkF m 40 #[.val (.ref a1), .val (.int (Int32.ofNat i)), .val (.ref a2), .val (.int (Int32.ofNat fr)), .val (.int tt), .val (.int ((hh * (31 : Int32)) + s0)), .val (.int (0 : Int32))] [(.int (-1 : Int32))]))
    refine OGo.st (fun t k => XS.istore X1.here hx rfl (hb hby d3_40) rfl (l' := #[.val (.ref a1), .val (.int (Int32.ofNat i)), .val (.ref a2), .val (.int (Int32.ofNat fr)), .val (.int tt), .val (.int ((hh * (31 : Int32)) + s0)), .val (.int (-1 : Int32))]) rfl k) ?_
    show OGo p e below _ (T1.setTop (mkF m 42 #[.val (.ref a1), .val (.int (Int32.ofNat i)), .val (.ref a2), .val (.int (Int32.ofNat fr)), .val (.int tt), .val (.int ((hh * (31 : Int32)) + s0)), .val (.int (-1 : Int32))] []))
    refine OGo.st (fun t k => XS.goto X1.here hx rfl (pc0 := 42) (pc' := 12) rfl (hb hby d3_42) (by decide) (by decide) k) ?_
    show OGo p e below _ (T1.setTop (mkF m 12 #[.val (.ref a1), .val (.int (Int32.ofNat i)), .val (.ref a2), .val (.int (Int32.ofNat fr)), .val (.int tt), .val (.int ((hh * (31 : Int32)) + s0)), .val (.int (-1 : Int32))] []))
    exact Jm T1 X1 e1 ((hh * (31 : Int32)) + s0)
  have J2 : ∀ (T : State) (X : Stand p l e ({ frames := 0, cells := 0, slots := 0, locals := 0 } : Room) s m #[(.ref a1), (.int (Int32.ofNat i)), (.ref a2), (.int (Int32.ofNat fr)), (.int tt)] below meth c T [] 0 0) (eT : T.heap = h0) (hh : Int32), OGo p e below (Out s ({ frames := 0, cells := 0, slots := 0, locals := 0 } : Room).cells ({ frames := 0, cells := 0, slots := 0, locals := 0 } : Room).slots (PI n0 h0 (H2 z s0 s2 hh))) (T.setTop (mkF m 12 #[.val (.ref a1), .val (.int (Int32.ofNat i)), .val (.ref a2), .val (.int (Int32.ofNat fr)), .val (.int tt), .val (.int hh), .val (.int (2 : Int32))] [])) := by
    intro T X eT hh
    refine OGo.st (fun t k => XS.iload X.here hx rfl (hb hby d3_12) rfl k) ?_
    show OGo p e below _ (T.setTop (mkF m 14 #[.val (.ref a1), .val (.int (Int32.ofNat i)), .val (.ref a2), .val (.int (Int32.ofNat fr)), .val (.int tt), .val (.int hh), .val (.int (2 : Int32))] [(.int (2 : Int32))]))
    refine OGo.st (fun t k => XS.ifNo X.here hx rfl (hb hby d3_14) rfl ((if0 _ _).trans (flt (by decide : ¬ ((2 : Int32) < (0 : Int32)))).1) k) ?_
    show OGo p e below _ (T.setTop (mkF m 17 #[.val (.ref a1), .val (.int (Int32.ofNat i)), .val (.ref a2), .val (.int (Int32.ofNat fr)), .val (.int tt), .val (.int hh), .val (.int (2 : Int32))] []))
    refine OGo.st (fun t k => XS.iload X.here hx rfl (hb hby d3_17) rfl k) ?_
    show OGo p e below _ (T.setTop (mkF m 19 #[.val (.ref a1), .val (.int (Int32.ofNat i)), .val (.ref a2), .val (.int (Int32.ofNat fr)), .val (.int tt), .val (.int hh), .val (.int (2 : Int32))] [(.int hh)]))
    refine OGo.st (fun t k => XS.bipush X.here hx rfl (hb hby d3_19) k) ?_
    show OGo p e below _ (T.setTop (mkF m 21 #[.val (.ref a1), .val (.int (Int32.ofNat i)), .val (.ref a2), .val (.int (Int32.ofNat fr)), .val (.int tt), .val (.int hh), .val (.int (2 : Int32))] [(.int (31 : Int32)), (.int hh)]))
    refine OGo.st (fun t k => XS.imul X.here hx rfl (hb hby d3_21) rfl k) ?_
    show OGo p e below _ (T.setTop (mkF m 22 #[.val (.ref a1), .val (.int (Int32.ofNat i)), .val (.ref a2), .val (.int (Int32.ofNat fr)), .val (.int tt), .val (.int hh), .val (.int (2 : Int32))] [(.int (hh * (31 : Int32)))]))
    refine OGo.st (fun t k => XS.aloadN X.here hx rfl (hb hby d3_22) rfl rfl k) ?_
    show OGo p e below _ (T.setTop (mkF m 23 #[.val (.ref a1), .val (.int (Int32.ofNat i)), .val (.ref a2), .val (.int (Int32.ofNat fr)), .val (.int tt), .val (.int hh), .val (.int (2 : Int32))] [(.ref a2), (.int (hh * (31 : Int32)))]))
    refine OGo.st (fun t k => XS.iloadN X.here hx rfl (hb hby d3_23) rfl k) ?_
    show OGo p e below _ (T.setTop (mkF m 24 #[.val (.ref a1), .val (.int (Int32.ofNat i)), .val (.ref a2), .val (.int (Int32.ofNat fr)), .val (.int tt), .val (.int hh), .val (.int (2 : Int32))] [(.int (Int32.ofNat fr)), (.ref a2), (.int (hh * (31 : Int32)))]))
    refine OGo.st (fun t k => XS.iload X.here hx rfl (hb hby d3_24) rfl k) ?_
    show OGo p e below _ (T.setTop (mkF m 26 #[.val (.ref a1), .val (.int (Int32.ofNat i)), .val (.ref a2), .val (.int (Int32.ofNat fr)), .val (.int tt), .val (.int hh), .val (.int (2 : Int32))] [(.int (2 : Int32)), (.int (Int32.ofNat fr)), (.ref a2), (.int (hh * (31 : Int32)))]))
    refine OGo.st (fun t k => XS.iadd X.here hx rfl (hb hby d3_26) rfl k) ?_
    show OGo p e below _ (T.setTop (mkF m 27 #[.val (.ref a1), .val (.int (Int32.ofNat i)), .val (.ref a2), .val (.int (Int32.ofNat fr)), .val (.int tt), .val (.int hh), .val (.int (2 : Int32))] [(.int ((Int32.ofNat fr) + (2 : Int32))), (.ref a2), (.int (hh * (31 : Int32)))]))
    refine OGo.st (fun t k => OA.ldI X hx hZ eT O2 (j := ((Int32.ofNat fr) + (2 : Int32))) (k := (fr + 2)) (own_ix (show fr + 2 < 100 by omega)).1 (own_ix (show fr + 2 < 100 by omega)).2 (by omega) (g := (mkF m 27 #[.val (.ref a1), .val (.int (Int32.ofNat i)), .val (.ref a2), .val (.int (Int32.ofNat fr)), .val (.int tt), .val (.int hh), .val (.int (2 : Int32))] [(.int ((Int32.ofNat fr) + (2 : Int32))), (.ref a2), (.int (hh * (31 : Int32)))])) rfl rfl (hb hby d3_27) t k) ?_
    show OGo p e below _ (T.setTop (mkF m 28 #[.val (.ref a1), .val (.int (Int32.ofNat i)), .val (.ref a2), .val (.int (Int32.ofNat fr)), .val (.int tt), .val (.int hh), .val (.int (2 : Int32))] [(.int (fs (fr + 2))), (.int (hh * (31 : Int32)))]))
    rw [hv2]
    show OGo p e below _ (T.setTop (mkF m 28 #[.val (.ref a1), .val (.int (Int32.ofNat i)), .val (.ref a2), .val (.int (Int32.ofNat fr)), .val (.int tt), .val (.int hh), .val (.int (2 : Int32))] [(.int s2), (.int (hh * (31 : Int32)))]))
    refine OGo.st (fun t k => XS.iadd X.here hx rfl (hb hby d3_28) rfl k) ?_
    show OGo p e below _ (T.setTop (mkF m 29 #[.val (.ref a1), .val (.int (Int32.ofNat i)), .val (.ref a2), .val (.int (Int32.ofNat fr)), .val (.int tt), .val (.int hh), .val (.int (2 : Int32))] [(.int ((hh * (31 : Int32)) + s2))]))
    refine OGo.st (fun t k => XS.istore X.here hx rfl (hb hby d3_29) rfl (l' := #[.val (.ref a1), .val (.int (Int32.ofNat i)), .val (.ref a2), .val (.int (Int32.ofNat fr)), .val (.int tt), .val (.int ((hh * (31 : Int32)) + s2)), .val (.int (2 : Int32))]) rfl k) ?_
    show OGo p e below _ (T.setTop (mkF m 31 #[.val (.ref a1), .val (.int (Int32.ofNat i)), .val (.ref a2), .val (.int (Int32.ofNat fr)), .val (.int tt), .val (.int ((hh * (31 : Int32)) + s2)), .val (.int (2 : Int32))] []))
    refine OGo.st (fun t k => XS.aloadN X.here hx rfl (hb hby d3_31) rfl rfl k) ?_
    show OGo p e below _ (T.setTop (mkF m 32 #[.val (.ref a1), .val (.int (Int32.ofNat i)), .val (.ref a2), .val (.int (Int32.ofNat fr)), .val (.int tt), .val (.int ((hh * (31 : Int32)) + s2)), .val (.int (2 : Int32))] [(.ref a1)]))
    obtain ⟨T2, X2, e2, st2⟩ := getF X hx hZ hown (host := "") (Or.inl (hw _ (List.mem_of_getElem? (i := 17) rfl))) Via.refl eT Fo (g := (mkF m 32 #[.val (.ref a1), .val (.int (Int32.ofNat i)), .val (.ref a2), .val (.int (Int32.ofNat fr)), .val (.int tt), .val (.int ((hh * (31 : Int32)) + s2)), .val (.int (2 : Int32))] [(.ref a1)])) rfl rfl (hb hby d3_32)
    refine OGo.st (fun t k => st2 t k) ?_
    show OGo p e below _ (T2.setTop (mkF m 35 #[.val (.ref a1), .val (.int (Int32.ofNat i)), .val (.ref a2), .val (.int (Int32.ofNat fr)), .val (.int tt), .val (.int ((hh * (31 : Int32)) + s2)), .val (.int (2 : Int32))] [(.ref a5)]))
    refine OGo.st (fun t k => XS.iload X2.here hx rfl (hb hby d3_35) rfl k) ?_
    show OGo p e below _ (T2.setTop (mkF m 37 #[.val (.ref a1), .val (.int (Int32.ofNat i)), .val (.ref a2), .val (.int (Int32.ofNat fr)), .val (.int tt), .val (.int ((hh * (31 : Int32)) + s2)), .val (.int (2 : Int32))] [(.int (2 : Int32)), (.ref a5)]))
    refine OGo.st (fun t k => XS.iconst X2.here hx rfl (hb hby d3_37) k) ?_
    show OGo p e below _ (T2.setTop (mkF m 38 #[.val (.ref a1), .val (.int (Int32.ofNat i)), .val (.ref a2), .val (.int (Int32.ofNat fr)), .val (.int tt), .val (.int ((hh * (31 : Int32)) + s2)), .val (.int (2 : Int32))] [(.int (2 : Int32)), (.int (2 : Int32)), (.ref a5)]))
    refine OGo.st (fun t k => XS.idiv X2.here hx rfl (hb hby d3_38) rfl (by decide) k) ?_
    show OGo p e below _ (T2.setTop (mkF m 39 #[.val (.ref a1), .val (.int (Int32.ofNat i)), .val (.ref a2), .val (.int (Int32.ofNat fr)), .val (.int tt), .val (.int ((hh * (31 : Int32)) + s2)), .val (.int (2 : Int32))] [(.int ((2 : Int32) / (2 : Int32))), (.ref a5)]))
    rw [show ((2 : Int32) / (2 : Int32)) = (1 : Int32) from by decide]
    show OGo p e below _ (T2.setTop (mkF m 39 #[.val (.ref a1), .val (.int (Int32.ofNat i)), .val (.ref a2), .val (.int (Int32.ofNat fr)), .val (.int tt), .val (.int ((hh * (31 : Int32)) + s2)), .val (.int (2 : Int32))] [(.int (1 : Int32)), (.ref a5)]))
    refine OGo.st (fun t k => OA.ldI X2 hx hZ e2 O5 (j := (1 : Int32)) (k := 1) (by decide) (by decide) (by decide) (g := (mkF m 39 #[.val (.ref a1), .val (.int (Int32.ofNat i)), .val (.ref a2), .val (.int (Int32.ofNat fr)), .val (.int tt), .val (.int ((hh * (31 : Int32)) + s2)), .val (.int (2 : Int32))] [(.int (1 : Int32)), (.ref a5)])) rfl rfl (hb hby d3_39) t k) ?_
    show OGo p e below _ (T2.setTop (mkF m 40 #[.val (.ref a1), .val (.int (Int32.ofNat i)), .val (.ref a2), .val (.int (Int32.ofNat fr)), .val (.int tt), .val (.int ((hh * (31 : Int32)) + s2)), .val (.int (2 : Int32))] [(.int (fg 1))]))
    rw [hg1]
    show OGo p e below _ (T2.setTop (mkF m 40 #[.val (.ref a1), .val (.int (Int32.ofNat i)), .val (.ref a2), .val (.int (Int32.ofNat fr)), .val (.int tt), .val (.int ((hh * (31 : Int32)) + s2)), .val (.int (2 : Int32))] [(.int g1)]))
    refine OGo.st (fun t k => XS.istore X2.here hx rfl (hb hby d3_40) rfl (l' := #[.val (.ref a1), .val (.int (Int32.ofNat i)), .val (.ref a2), .val (.int (Int32.ofNat fr)), .val (.int tt), .val (.int ((hh * (31 : Int32)) + s2)), .val (.int g1)]) rfl k) ?_
    show OGo p e below _ (T2.setTop (mkF m 42 #[.val (.ref a1), .val (.int (Int32.ofNat i)), .val (.ref a2), .val (.int (Int32.ofNat fr)), .val (.int tt), .val (.int ((hh * (31 : Int32)) + s2)), .val (.int g1)] []))
    refine OGo.st (fun t k => XS.goto X2.here hx rfl (pc0 := 42) (pc' := 12) rfl (hb hby d3_42) (by decide) (by decide) k) ?_
    show OGo p e below _ (T2.setTop (mkF m 12 #[.val (.ref a1), .val (.int (Int32.ofNat i)), .val (.ref a2), .val (.int (Int32.ofNat fr)), .val (.int tt), .val (.int ((hh * (31 : Int32)) + s2)), .val (.int g1)] []))
    rcases hz1 with ⟨hz, rfl⟩ | ⟨hz, rfl⟩
    · refine OGo.eqvI (show H2 z s0 s2 hh = ((hh * (31 : Int32)) + s2) from if_pos hz) ?_
      exact Jm T2 X2 e2 ((hh * (31 : Int32)) + s2)
    · refine OGo.eqvI (show H2 z s0 s2 hh = H0 s0 ((hh * (31 : Int32)) + s2) from if_neg hz) ?_
      exact J0 T2 X2 e2 ((hh * (31 : Int32)) + s2)
  have J4 : ∀ (T : State) (X : Stand p l e ({ frames := 0, cells := 0, slots := 0, locals := 0 } : Room) s m #[(.ref a1), (.int (Int32.ofNat i)), (.ref a2), (.int (Int32.ofNat fr)), (.int tt)] below meth c T [] 0 0) (eT : T.heap = h0) (hh : Int32), OGo p e below (Out s ({ frames := 0, cells := 0, slots := 0, locals := 0 } : Room).cells ({ frames := 0, cells := 0, slots := 0, locals := 0 } : Room).slots (PI n0 h0 (H4 z cc s0 s2 s4 hh))) (T.setTop (mkF m 12 #[.val (.ref a1), .val (.int (Int32.ofNat i)), .val (.ref a2), .val (.int (Int32.ofNat fr)), .val (.int tt), .val (.int hh), .val (.int (4 : Int32))] [])) := by
    intro T X eT hh
    refine OGo.st (fun t k => XS.iload X.here hx rfl (hb hby d3_12) rfl k) ?_
    show OGo p e below _ (T.setTop (mkF m 14 #[.val (.ref a1), .val (.int (Int32.ofNat i)), .val (.ref a2), .val (.int (Int32.ofNat fr)), .val (.int tt), .val (.int hh), .val (.int (4 : Int32))] [(.int (4 : Int32))]))
    refine OGo.st (fun t k => XS.ifNo X.here hx rfl (hb hby d3_14) rfl ((if0 _ _).trans (flt (by decide : ¬ ((4 : Int32) < (0 : Int32)))).1) k) ?_
    show OGo p e below _ (T.setTop (mkF m 17 #[.val (.ref a1), .val (.int (Int32.ofNat i)), .val (.ref a2), .val (.int (Int32.ofNat fr)), .val (.int tt), .val (.int hh), .val (.int (4 : Int32))] []))
    refine OGo.st (fun t k => XS.iload X.here hx rfl (hb hby d3_17) rfl k) ?_
    show OGo p e below _ (T.setTop (mkF m 19 #[.val (.ref a1), .val (.int (Int32.ofNat i)), .val (.ref a2), .val (.int (Int32.ofNat fr)), .val (.int tt), .val (.int hh), .val (.int (4 : Int32))] [(.int hh)]))
    refine OGo.st (fun t k => XS.bipush X.here hx rfl (hb hby d3_19) k) ?_
    show OGo p e below _ (T.setTop (mkF m 21 #[.val (.ref a1), .val (.int (Int32.ofNat i)), .val (.ref a2), .val (.int (Int32.ofNat fr)), .val (.int tt), .val (.int hh), .val (.int (4 : Int32))] [(.int (31 : Int32)), (.int hh)]))
    refine OGo.st (fun t k => XS.imul X.here hx rfl (hb hby d3_21) rfl k) ?_
    show OGo p e below _ (T.setTop (mkF m 22 #[.val (.ref a1), .val (.int (Int32.ofNat i)), .val (.ref a2), .val (.int (Int32.ofNat fr)), .val (.int tt), .val (.int hh), .val (.int (4 : Int32))] [(.int (hh * (31 : Int32)))]))
    refine OGo.st (fun t k => XS.aloadN X.here hx rfl (hb hby d3_22) rfl rfl k) ?_
    show OGo p e below _ (T.setTop (mkF m 23 #[.val (.ref a1), .val (.int (Int32.ofNat i)), .val (.ref a2), .val (.int (Int32.ofNat fr)), .val (.int tt), .val (.int hh), .val (.int (4 : Int32))] [(.ref a2), (.int (hh * (31 : Int32)))]))
    refine OGo.st (fun t k => XS.iloadN X.here hx rfl (hb hby d3_23) rfl k) ?_
    show OGo p e below _ (T.setTop (mkF m 24 #[.val (.ref a1), .val (.int (Int32.ofNat i)), .val (.ref a2), .val (.int (Int32.ofNat fr)), .val (.int tt), .val (.int hh), .val (.int (4 : Int32))] [(.int (Int32.ofNat fr)), (.ref a2), (.int (hh * (31 : Int32)))]))
    refine OGo.st (fun t k => XS.iload X.here hx rfl (hb hby d3_24) rfl k) ?_
    show OGo p e below _ (T.setTop (mkF m 26 #[.val (.ref a1), .val (.int (Int32.ofNat i)), .val (.ref a2), .val (.int (Int32.ofNat fr)), .val (.int tt), .val (.int hh), .val (.int (4 : Int32))] [(.int (4 : Int32)), (.int (Int32.ofNat fr)), (.ref a2), (.int (hh * (31 : Int32)))]))
    refine OGo.st (fun t k => XS.iadd X.here hx rfl (hb hby d3_26) rfl k) ?_
    show OGo p e below _ (T.setTop (mkF m 27 #[.val (.ref a1), .val (.int (Int32.ofNat i)), .val (.ref a2), .val (.int (Int32.ofNat fr)), .val (.int tt), .val (.int hh), .val (.int (4 : Int32))] [(.int ((Int32.ofNat fr) + (4 : Int32))), (.ref a2), (.int (hh * (31 : Int32)))]))
    refine OGo.st (fun t k => OA.ldI X hx hZ eT O2 (j := ((Int32.ofNat fr) + (4 : Int32))) (k := (fr + 4)) (own_ix (show fr + 4 < 100 by omega)).1 (own_ix (show fr + 4 < 100 by omega)).2 (by omega) (g := (mkF m 27 #[.val (.ref a1), .val (.int (Int32.ofNat i)), .val (.ref a2), .val (.int (Int32.ofNat fr)), .val (.int tt), .val (.int hh), .val (.int (4 : Int32))] [(.int ((Int32.ofNat fr) + (4 : Int32))), (.ref a2), (.int (hh * (31 : Int32)))])) rfl rfl (hb hby d3_27) t k) ?_
    show OGo p e below _ (T.setTop (mkF m 28 #[.val (.ref a1), .val (.int (Int32.ofNat i)), .val (.ref a2), .val (.int (Int32.ofNat fr)), .val (.int tt), .val (.int hh), .val (.int (4 : Int32))] [(.int (fs (fr + 4))), (.int (hh * (31 : Int32)))]))
    rw [hv4]
    show OGo p e below _ (T.setTop (mkF m 28 #[.val (.ref a1), .val (.int (Int32.ofNat i)), .val (.ref a2), .val (.int (Int32.ofNat fr)), .val (.int tt), .val (.int hh), .val (.int (4 : Int32))] [(.int s4), (.int (hh * (31 : Int32)))]))
    refine OGo.st (fun t k => XS.iadd X.here hx rfl (hb hby d3_28) rfl k) ?_
    show OGo p e below _ (T.setTop (mkF m 29 #[.val (.ref a1), .val (.int (Int32.ofNat i)), .val (.ref a2), .val (.int (Int32.ofNat fr)), .val (.int tt), .val (.int hh), .val (.int (4 : Int32))] [(.int ((hh * (31 : Int32)) + s4))]))
    refine OGo.st (fun t k => XS.istore X.here hx rfl (hb hby d3_29) rfl (l' := #[.val (.ref a1), .val (.int (Int32.ofNat i)), .val (.ref a2), .val (.int (Int32.ofNat fr)), .val (.int tt), .val (.int ((hh * (31 : Int32)) + s4)), .val (.int (4 : Int32))]) rfl k) ?_
    show OGo p e below _ (T.setTop (mkF m 31 #[.val (.ref a1), .val (.int (Int32.ofNat i)), .val (.ref a2), .val (.int (Int32.ofNat fr)), .val (.int tt), .val (.int ((hh * (31 : Int32)) + s4)), .val (.int (4 : Int32))] []))
    refine OGo.st (fun t k => XS.aloadN X.here hx rfl (hb hby d3_31) rfl rfl k) ?_
    show OGo p e below _ (T.setTop (mkF m 32 #[.val (.ref a1), .val (.int (Int32.ofNat i)), .val (.ref a2), .val (.int (Int32.ofNat fr)), .val (.int tt), .val (.int ((hh * (31 : Int32)) + s4)), .val (.int (4 : Int32))] [(.ref a1)]))
    obtain ⟨T3, X3, e3, st3⟩ := getF X hx hZ hown (host := "") (Or.inl (hw _ (List.mem_of_getElem? (i := 17) rfl))) Via.refl eT Fo (g := (mkF m 32 #[.val (.ref a1), .val (.int (Int32.ofNat i)), .val (.ref a2), .val (.int (Int32.ofNat fr)), .val (.int tt), .val (.int ((hh * (31 : Int32)) + s4)), .val (.int (4 : Int32))] [(.ref a1)])) rfl rfl (hb hby d3_32)
    refine OGo.st (fun t k => st3 t k) ?_
    show OGo p e below _ (T3.setTop (mkF m 35 #[.val (.ref a1), .val (.int (Int32.ofNat i)), .val (.ref a2), .val (.int (Int32.ofNat fr)), .val (.int tt), .val (.int ((hh * (31 : Int32)) + s4)), .val (.int (4 : Int32))] [(.ref a5)]))
    refine OGo.st (fun t k => XS.iload X3.here hx rfl (hb hby d3_35) rfl k) ?_
    show OGo p e below _ (T3.setTop (mkF m 37 #[.val (.ref a1), .val (.int (Int32.ofNat i)), .val (.ref a2), .val (.int (Int32.ofNat fr)), .val (.int tt), .val (.int ((hh * (31 : Int32)) + s4)), .val (.int (4 : Int32))] [(.int (4 : Int32)), (.ref a5)]))
    refine OGo.st (fun t k => XS.iconst X3.here hx rfl (hb hby d3_37) k) ?_
    show OGo p e below _ (T3.setTop (mkF m 38 #[.val (.ref a1), .val (.int (Int32.ofNat i)), .val (.ref a2), .val (.int (Int32.ofNat fr)), .val (.int tt), .val (.int ((hh * (31 : Int32)) + s4)), .val (.int (4 : Int32))] [(.int (2 : Int32)), (.int (4 : Int32)), (.ref a5)]))
    refine OGo.st (fun t k => XS.idiv X3.here hx rfl (hb hby d3_38) rfl (by decide) k) ?_
    show OGo p e below _ (T3.setTop (mkF m 39 #[.val (.ref a1), .val (.int (Int32.ofNat i)), .val (.ref a2), .val (.int (Int32.ofNat fr)), .val (.int tt), .val (.int ((hh * (31 : Int32)) + s4)), .val (.int (4 : Int32))] [(.int ((4 : Int32) / (2 : Int32))), (.ref a5)]))
    rw [show ((4 : Int32) / (2 : Int32)) = (2 : Int32) from by decide]
    show OGo p e below _ (T3.setTop (mkF m 39 #[.val (.ref a1), .val (.int (Int32.ofNat i)), .val (.ref a2), .val (.int (Int32.ofNat fr)), .val (.int tt), .val (.int ((hh * (31 : Int32)) + s4)), .val (.int (4 : Int32))] [(.int (2 : Int32)), (.ref a5)]))
    refine OGo.st (fun t k => OA.ldI X3 hx hZ e3 O5 (j := (2 : Int32)) (k := 2) (by decide) (by decide) (by decide) (g := (mkF m 39 #[.val (.ref a1), .val (.int (Int32.ofNat i)), .val (.ref a2), .val (.int (Int32.ofNat fr)), .val (.int tt), .val (.int ((hh * (31 : Int32)) + s4)), .val (.int (4 : Int32))] [(.int (2 : Int32)), (.ref a5)])) rfl rfl (hb hby d3_39) t k) ?_
    show OGo p e below _ (T3.setTop (mkF m 40 #[.val (.ref a1), .val (.int (Int32.ofNat i)), .val (.ref a2), .val (.int (Int32.ofNat fr)), .val (.int tt), .val (.int ((hh * (31 : Int32)) + s4)), .val (.int (4 : Int32))] [(.int (fg 2))]))
    rw [hg2]
    show OGo p e below _ (T3.setTop (mkF m 40 #[.val (.ref a1), .val (.int (Int32.ofNat i)), .val (.ref a2), .val (.int (Int32.ofNat fr)), .val (.int tt), .val (.int ((hh * (31 : Int32)) + s4)), .val (.int (4 : Int32))] [(.int g2)]))
    refine OGo.st (fun t k => XS.istore X3.here hx rfl (hb hby d3_40) rfl (l' := #[.val (.ref a1), .val (.int (Int32.ofNat i)), .val (.ref a2), .val (.int (Int32.ofNat fr)), .val (.int tt), .val (.int ((hh * (31 : Int32)) + s4)), .val (.int g2)]) rfl k) ?_
    show OGo p e below _ (T3.setTop (mkF m 42 #[.val (.ref a1), .val (.int (Int32.ofNat i)), .val (.ref a2), .val (.int (Int32.ofNat fr)), .val (.int tt), .val (.int ((hh * (31 : Int32)) + s4)), .val (.int g2)] []))
    refine OGo.st (fun t k => XS.goto X3.here hx rfl (pc0 := 42) (pc' := 12) rfl (hb hby d3_42) (by decide) (by decide) k) ?_
    show OGo p e below _ (T3.setTop (mkF m 12 #[.val (.ref a1), .val (.int (Int32.ofNat i)), .val (.ref a2), .val (.int (Int32.ofNat fr)), .val (.int tt), .val (.int ((hh * (31 : Int32)) + s4)), .val (.int g2)] []))
    rcases hz2 with ⟨hz, rfl⟩ | ⟨hz, hz', rfl⟩ | ⟨hz, hz', rfl⟩
    · refine OGo.eqvI (show H4 z cc s0 s2 s4 hh = ((hh * (31 : Int32)) + s4) from if_pos hz) ?_
      exact Jm T3 X3 e3 ((hh * (31 : Int32)) + s4)
    · refine OGo.eqvI (show H4 z cc s0 s2 s4 hh = H0 s0 ((hh * (31 : Int32)) + s4) from (if_neg hz).trans (if_pos hz')) ?_
      exact J0 T3 X3 e3 ((hh * (31 : Int32)) + s4)
    · refine OGo.eqvI (show H4 z cc s0 s2 s4 hh = H2 z s0 s2 ((hh * (31 : Int32)) + s4) from (if_neg hz).trans (if_neg hz')) ?_
      exact J2 T3 X3 e3 ((hh * (31 : Int32)) + s4)
  refine OGo.st (fun t k => castTop (ef3 m a1 i a2 fr tt) k) ?_
  show OGo p e below (Out s ({ frames := 0, cells := 0, slots := 0, locals := 0 } : Room).cells ({ frames := 0, cells := 0, slots := 0, locals := 0 } : Room).slots (PI n0 h0 (HV i z cc s0 s2 s4 tt))) (s₁.setTop (mkF m 0 #[.val (.ref a1), .val (.int (Int32.ofNat i)), .val (.ref a2), .val (.int (Int32.ofNat fr)), .val (.int tt), .unset, .unset] []))
  refine OGo.st (fun t k => XS.iload X0.here hx rfl (hb hby d3_0) rfl k) ?_
  show OGo p e below _ (s₁.setTop (mkF m 2 #[.val (.ref a1), .val (.int (Int32.ofNat i)), .val (.ref a2), .val (.int (Int32.ofNat fr)), .val (.int tt), .unset, .unset] [(.int tt)]))
  refine OGo.st (fun t k => XS.istore X0.here hx rfl (hb hby d3_2) rfl (l' := #[.val (.ref a1), .val (.int (Int32.ofNat i)), .val (.ref a2), .val (.int (Int32.ofNat fr)), .val (.int tt), .val (.int tt), .unset]) rfl k) ?_
  show OGo p e below _ (s₁.setTop (mkF m 4 #[.val (.ref a1), .val (.int (Int32.ofNat i)), .val (.ref a2), .val (.int (Int32.ofNat fr)), .val (.int tt), .val (.int tt), .unset] []))
  refine OGo.st (fun t k => XS.aloadN X0.here hx rfl (hb hby d3_4) rfl rfl k) ?_
  show OGo p e below _ (s₁.setTop (mkF m 5 #[.val (.ref a1), .val (.int (Int32.ofNat i)), .val (.ref a2), .val (.int (Int32.ofNat fr)), .val (.int tt), .val (.int tt), .unset] [(.ref a1)]))
  obtain ⟨T4, X4, e4, st4⟩ := getF X0 hx hZ hown (host := "") (Or.inl (hw _ (List.mem_of_getElem? (i := 15) rfl))) Via.refl e0 Fi (g := (mkF m 5 #[.val (.ref a1), .val (.int (Int32.ofNat i)), .val (.ref a2), .val (.int (Int32.ofNat fr)), .val (.int tt), .val (.int tt), .unset] [(.ref a1)])) rfl rfl (hb hby d3_5)
  refine OGo.st (fun t k => st4 t k) ?_
  show OGo p e below _ (T4.setTop (mkF m 8 #[.val (.ref a1), .val (.int (Int32.ofNat i)), .val (.ref a2), .val (.int (Int32.ofNat fr)), .val (.int tt), .val (.int tt), .unset] [(.ref a4)]))
  refine OGo.st (fun t k => XS.iloadN X4.here hx rfl (hb hby d3_8) rfl k) ?_
  show OGo p e below _ (T4.setTop (mkF m 9 #[.val (.ref a1), .val (.int (Int32.ofNat i)), .val (.ref a2), .val (.int (Int32.ofNat fr)), .val (.int tt), .val (.int tt), .unset] [(.int (Int32.ofNat i)), (.ref a4)]))
  refine OGo.st (fun t k => OA.ldI X4 hx hZ e4 O4 (j := (Int32.ofNat i)) (k := i) (own_nat (show i < 100 by omega)).1 (own_nat (show i < 100 by omega)).2 (by omega) (g := (mkF m 9 #[.val (.ref a1), .val (.int (Int32.ofNat i)), .val (.ref a2), .val (.int (Int32.ofNat fr)), .val (.int tt), .val (.int tt), .unset] [(.int (Int32.ofNat i)), (.ref a4)])) rfl rfl (hb hby d3_9) t k) ?_
  show OGo p e below _ (T4.setTop (mkF m 10 #[.val (.ref a1), .val (.int (Int32.ofNat i)), .val (.ref a2), .val (.int (Int32.ofNat fr)), .val (.int tt), .val (.int tt), .unset] [(.int (fi i))]))
  rcases (show i = 0 ∨ i = 1 ∨ i = 2 ∨ i = 3 by omega) with rfl | rfl | rfl | rfl
  · rw [hi0]
    refine OGo.eqvI (show HV 0 z cc s0 s2 s4 tt = tt from rfl) ?_
    show OGo p e below _ (T4.setTop (mkF m 10 #[.val (.ref a1), .val (.int (Int32.ofNat 0)), .val (.ref a2), .val (.int (Int32.ofNat fr)), .val (.int tt), .val (.int tt), .unset] [(.int (-1 : Int32))]))
    refine OGo.st (fun t k => XS.istore X4.here hx rfl (hb hby d3_10) rfl (l' := #[.val (.ref a1), .val (.int (Int32.ofNat 0)), .val (.ref a2), .val (.int (Int32.ofNat fr)), .val (.int tt), .val (.int tt), .val (.int (-1 : Int32))]) rfl k) ?_
    show OGo p e below _ (T4.setTop (mkF m 12 #[.val (.ref a1), .val (.int (Int32.ofNat 0)), .val (.ref a2), .val (.int (Int32.ofNat fr)), .val (.int tt), .val (.int tt), .val (.int (-1 : Int32))] []))
    exact Jm T4 X4 e4 tt
  · rw [hi1]
    refine OGo.eqvI (show HV 1 z cc s0 s2 s4 tt = H0 s0 tt from rfl) ?_
    show OGo p e below _ (T4.setTop (mkF m 10 #[.val (.ref a1), .val (.int (Int32.ofNat 1)), .val (.ref a2), .val (.int (Int32.ofNat fr)), .val (.int tt), .val (.int tt), .unset] [(.int (0 : Int32))]))
    refine OGo.st (fun t k => XS.istore X4.here hx rfl (hb hby d3_10) rfl (l' := #[.val (.ref a1), .val (.int (Int32.ofNat 1)), .val (.ref a2), .val (.int (Int32.ofNat fr)), .val (.int tt), .val (.int tt), .val (.int (0 : Int32))]) rfl k) ?_
    show OGo p e below _ (T4.setTop (mkF m 12 #[.val (.ref a1), .val (.int (Int32.ofNat 1)), .val (.ref a2), .val (.int (Int32.ofNat fr)), .val (.int tt), .val (.int tt), .val (.int (0 : Int32))] []))
    exact J0 T4 X4 e4 tt
  · rw [hi2]
    refine OGo.eqvI (show HV 2 z cc s0 s2 s4 tt = H2 z s0 s2 tt from rfl) ?_
    show OGo p e below _ (T4.setTop (mkF m 10 #[.val (.ref a1), .val (.int (Int32.ofNat 2)), .val (.ref a2), .val (.int (Int32.ofNat fr)), .val (.int tt), .val (.int tt), .unset] [(.int (2 : Int32))]))
    refine OGo.st (fun t k => XS.istore X4.here hx rfl (hb hby d3_10) rfl (l' := #[.val (.ref a1), .val (.int (Int32.ofNat 2)), .val (.ref a2), .val (.int (Int32.ofNat fr)), .val (.int tt), .val (.int tt), .val (.int (2 : Int32))]) rfl k) ?_
    show OGo p e below _ (T4.setTop (mkF m 12 #[.val (.ref a1), .val (.int (Int32.ofNat 2)), .val (.ref a2), .val (.int (Int32.ofNat fr)), .val (.int tt), .val (.int tt), .val (.int (2 : Int32))] []))
    exact J2 T4 X4 e4 tt
  · rw [hi3]
    refine OGo.eqvI (show HV 3 z cc s0 s2 s4 tt = H4 z cc s0 s2 s4 tt from rfl) ?_
    show OGo p e below _ (T4.setTop (mkF m 10 #[.val (.ref a1), .val (.int (Int32.ofNat 3)), .val (.ref a2), .val (.int (Int32.ofNat fr)), .val (.int tt), .val (.int tt), .unset] [(.int (4 : Int32))]))
    refine OGo.st (fun t k => XS.istore X4.here hx rfl (hb hby d3_10) rfl (l' := #[.val (.ref a1), .val (.int (Int32.ofNat 3)), .val (.ref a2), .val (.int (Int32.ofNat fr)), .val (.int tt), .val (.int tt), .val (.int (4 : Int32))]) rfl k) ?_
    show OGo p e below _ (T4.setTop (mkF m 12 #[.val (.ref a1), .val (.int (Int32.ofNat 3)), .val (.ref a2), .val (.int (Int32.ofNat fr)), .val (.int tt), .val (.int tt), .val (.int (4 : Int32))] []))
    exact J4 T4 X4 e4 tt
theorem pn0 : plainName "com/example/triadne/triadne/CaptureKeysHashPinLaw" = true := by first | (simp [plainName, overriddenIn]; done) | decide +kernel
theorem pd0_0 : parseMethodDescriptor "([C[I[I[I)V" = some ⟨[(.array .char), (.array .int), (.array .int), (.array .int)], none⟩ := by decide +kernel
theorem pd0_1 : parseMethodDescriptor "(I[III)I" = some ⟨[.int, (.array .int), .int, .int], some .int⟩ := by decide +kernel
theorem ef0 (m : MethodId) (q1 : Int32) (q2 : Int32) (q3 : Int32) (q4 : Int32) (q5 : Int32) (q6 : Int32) : entryFrame m #[(.int q1), (.int q2), (.int q3), (.int q4), (.int q5), (.int q6)] maxLocals = mkF m 0 #[.val (.int q1), .val (.int q2), .val (.int q3), .val (.int q4), .val (.int q5), .val (.int q6), .unset, .unset, .unset, .unset, .unset, .unset, .unset, .unset, .unset, .unset] [] := by first | (simp [entryFrame, mkF, argsToLocals, Value.category, maxLocals]; done) | rfl
theorem own_r0 {q2 q3 q4 q5 nz cc : Int32} {i : Nat} (hi : i < 4) (hc269_59 : ((Int32.ofNat i) = (0 : Int32))) : (HV i nz cc q3 q4 q5 q2) = q2 := by
  have e := own_i hi (m := 0) (by omega) hc269_59
  subst e
  show q2 = _
  try (first | rfl | exact own_r31 _ _ _ | exact own_r31' _ _ _ _)
theorem own_r1 {q2 q3 q4 q5 nz cc : Int32} {i : Nat} (hi : i < 4) (hc269_59 : ¬ ((Int32.ofNat i) = (0 : Int32))) (hc281_60 : ((Int32.ofNat i) = (1 : Int32))) : (HV i nz cc q3 q4 q5 q2) = ((q2 * (31 : Int32)) + q3) := by
  have e := own_i hi (m := 1) (by omega) hc281_60
  subst e
  show H0 q3 q2 = _
  try (first | rfl | exact own_r31 _ _ _ | exact own_r31' _ _ _ _)
theorem own_r2 {q2 q3 q4 q5 nz cc : Int32} {i : Nat} (hi : i < 4) (hc269_59 : ¬ ((Int32.ofNat i) = (0 : Int32))) (hc281_60 : ¬ ((Int32.ofNat i) = (1 : Int32))) (hc298_61 : ((Int32.ofNat i) = (2 : Int32))) (hc303_62 : (nz = (0 : Int32))) : (HV i nz cc q3 q4 q5 q2) = ((q2 * (31 : Int32)) + q4) := by
  have e := own_i hi (m := 2) (by omega) hc298_61
  subst e
  show H2 nz q3 q4 q2 = _
  rw [show H2 nz q3 q4 q2 = _ from if_pos hc303_62]
  try (first | rfl | exact own_r31 _ _ _ | exact own_r31' _ _ _ _)
theorem own_r3 {q2 q3 q4 q5 nz cc : Int32} {i : Nat} (hi : i < 4) (hc269_59 : ¬ ((Int32.ofNat i) = (0 : Int32))) (hc281_60 : ¬ ((Int32.ofNat i) = (1 : Int32))) (hc298_61 : ((Int32.ofNat i) = (2 : Int32))) (hc303_62 : ¬ (nz = (0 : Int32))) : (HV i nz cc q3 q4 q5 q2) = (((q2 * (961 : Int32)) + (q4 * (31 : Int32))) + q3) := by
  have e := own_i hi (m := 2) (by omega) hc298_61
  subst e
  show H2 nz q3 q4 q2 = _
  rw [show H2 nz q3 q4 q2 = _ from if_neg hc303_62]
  try (first | rfl | exact own_r31 _ _ _ | exact own_r31' _ _ _ _)
theorem own_r4 {q2 q3 q4 q5 nz cc : Int32} {i : Nat} (hi : i < 4) (hc269_59 : ¬ ((Int32.ofNat i) = (0 : Int32))) (hc281_60 : ¬ ((Int32.ofNat i) = (1 : Int32))) (hc298_61 : ¬ ((Int32.ofNat i) = (2 : Int32))) (hc336_63 : (cc = (0 : Int32))) : (HV i nz cc q3 q4 q5 q2) = ((q2 * (31 : Int32)) + q5) := by
  have e := own_i3 hi hc269_59 hc281_60 hc298_61
  subst e
  show H4 nz cc q3 q4 q5 q2 = _
  rw [show H4 nz cc q3 q4 q5 q2 = _ from if_pos hc336_63]
  try (first | rfl | exact own_r31 _ _ _ | exact own_r31' _ _ _ _)
theorem own_r5 {q2 q3 q4 q5 nz cc : Int32} {i : Nat} (hi : i < 4) (hc269_59 : ¬ ((Int32.ofNat i) = (0 : Int32))) (hc281_60 : ¬ ((Int32.ofNat i) = (1 : Int32))) (hc298_61 : ¬ ((Int32.ofNat i) = (2 : Int32))) (hc336_63 : ¬ (cc = (0 : Int32))) (hc354_64 : (cc = (1 : Int32))) : (HV i nz cc q3 q4 q5 q2) = (((q2 * (961 : Int32)) + (q5 * (31 : Int32))) + q3) := by
  have e := own_i3 hi hc269_59 hc281_60 hc298_61
  subst e
  show H4 nz cc q3 q4 q5 q2 = _
  rw [show H4 nz cc q3 q4 q5 q2 = _ from (if_neg hc336_63).trans (if_pos hc354_64)]
  try (first | rfl | exact own_r31 _ _ _ | exact own_r31' _ _ _ _)
theorem own_r6 {q2 q3 q4 q5 nz cc : Int32} {i : Nat} (hi : i < 4) (hc269_59 : ¬ ((Int32.ofNat i) = (0 : Int32))) (hc281_60 : ¬ ((Int32.ofNat i) = (1 : Int32))) (hc298_61 : ¬ ((Int32.ofNat i) = (2 : Int32))) (hc336_63 : ¬ (cc = (0 : Int32))) (hc354_64 : ¬ (cc = (1 : Int32))) (hc377_65 : (nz = (0 : Int32))) : (HV i nz cc q3 q4 q5 q2) = (((q2 * (961 : Int32)) + (q5 * (31 : Int32))) + q4) := by
  have e := own_i3 hi hc269_59 hc281_60 hc298_61
  subst e
  show H4 nz cc q3 q4 q5 q2 = _
  rw [show H4 nz cc q3 q4 q5 q2 = _ from ((if_neg hc336_63).trans (if_neg hc354_64)).trans (if_pos hc377_65)]
  try (first | rfl | exact own_r31 _ _ _ | exact own_r31' _ _ _ _)
theorem own_r7 {q2 q3 q4 q5 nz cc : Int32} {i : Nat} (hi : i < 4) (hc269_59 : ¬ ((Int32.ofNat i) = (0 : Int32))) (hc281_60 : ¬ ((Int32.ofNat i) = (1 : Int32))) (hc298_61 : ¬ ((Int32.ofNat i) = (2 : Int32))) (hc336_63 : ¬ (cc = (0 : Int32))) (hc354_64 : ¬ (cc = (1 : Int32))) (hc377_65 : ¬ (nz = (0 : Int32))) : (HV i nz cc q3 q4 q5 q2) = ((((q2 * (29791 : Int32)) + (q5 * (961 : Int32))) + (q4 * (31 : Int32))) + q3) := by
  have e := own_i3 hi hc269_59 hc281_60 hc298_61
  subst e
  show H4 nz cc q3 q4 q5 q2 = _
  rw [show H4 nz cc q3 q4 q5 q2 = _ from ((if_neg hc336_63).trans (if_neg hc354_64)).trans (if_neg hc377_65)]
  try (first | rfl | exact own_r31 _ _ _ | exact own_r31' _ _ _ _)
set_option maxRecDepth 65536 in
set_option maxHeartbeats 40000000 in
theorem rm0 (l : Launch) (Z : State) (a0 : Array Value) (hw : ∀ d ∈ tables_1, d.before a0 Z = true) (ws : List Jvm.Cond) (q1 : Int32) (q2 : Int32) (q3 : Int32) (q4 : Int32) (q5 : Int32) (q6 : Int32) (h0 : Heap) (n0 : Nat) (Z0 : n0 ≤ h0.size) :
    MetFree l x (head1 (Jvm.Cond.code x code maxLocals ret :: ws) room_1) (fun a U => a = #[(.int q1), (.int q2), (.int q3), (.int q4), (.int q5), (.int q6)] ∧ Z.Warmed39 U.vm ∧ U.heap = h0) (fun _ _ _ _ _ => True) (fun _ U o U' => ∃ v L, o = .returned v ∧ PF n0 1 v U'.heap L ∧ FrameEnd U o U' L room_1.cells room_1.slots) := by
  refine MetFree.of_bodySF (plainFor_of_name pn0) hisR ?_
  intro p e s m args below meth c s₁ Bd hml0 hP hK
  obtain ⟨rfl, hZ, hh⟩ := hP
  have hx := Bd.exec
  have hby := Bd.bytes
  have hml : c.maxLocals = 16 := hml0
  have hown : s.vm.findClass "com/example/triadne/triadne/CaptureKeysHashPinLaw" = some m.cls := findClass_of_methodNamed Bd.named
  have hnm := (name_of_methodNamed Bd.named Bd.method).1
  have X0 : Stand p l e room_1 s m #[(.int q1), (.int q2), (.int q3), (.int q4), (.int q5), (.int q6)] below meth c s₁ [] 0 0 := Stand.of_body Bd
  have e0 : s₁.heap = h0 := by rw [← hh, Bd.state]; rfl
  have N0 := Fr.nil n0
  show OGo p e below (Out s room_1.cells room_1.slots (PF n0 1)) (s₁.setTop (entryFrame m #[(.int q1), (.int q2), (.int q3), (.int q4), (.int q5), (.int q6)] maxLocals))
  obtain ⟨i, hi_, hi⟩ := own_and3 q1
  obtain ⟨fr, hfr_, hfrb⟩ := own_and3 ((q1.toUInt32 >>> ((2 : Int32) &&& 31).toUInt32).toInt32)
  obtain ⟨nz, hnz⟩ : ∃ z, (if (((q1.toUInt32 >>> ((4 : Int32) &&& 31).toUInt32).toInt32) &&& (1 : Int32)) = (0 : Int32) then (0 : Int32) else (1 : Int32)) = z := ⟨_, rfl⟩
  obtain ⟨cc, hcc⟩ : ∃ z, ((((q1.toUInt32 >>> ((5 : Int32) &&& 31).toUInt32).toInt32) &&& (255 : Int32)) - ((((q1.toUInt32 >>> ((5 : Int32) &&& 31).toUInt32).toInt32) &&& (255 : Int32)) / (3 : Int32)) * (3 : Int32)) = z := ⟨_, rfl⟩
  refine OGo.st (fun t k => castTop (ef0 m q1 q2 q3 q4 q5 q6) k) ?_
  show OGo p e below (Out s room_1.cells room_1.slots (PF n0 1)) (s₁.setTop (mkF m 0 #[.val (.int q1), .val (.int q2), .val (.int q3), .val (.int q4), .val (.int q5), .val (.int q6), .unset, .unset, .unset, .unset, .unset, .unset, .unset, .unset, .unset, .unset] []))
  refine OGo.st (fun t k => XS.iloadN X0.here hx rfl (hb hby at_0) rfl k) ?_
  show OGo p e below _ (s₁.setTop (mkF m 1 #[.val (.int q1), .val (.int q2), .val (.int q3), .val (.int q4), .val (.int q5), .val (.int q6), .unset, .unset, .unset, .unset, .unset, .unset, .unset, .unset, .unset, .unset] [(.int q1)]))
  refine OGo.st (fun t k => XS.iconst X0.here hx rfl (hb hby at_1) k) ?_
  show OGo p e below _ (s₁.setTop (mkF m 2 #[.val (.int q1), .val (.int q2), .val (.int q3), .val (.int q4), .val (.int q5), .val (.int q6), .unset, .unset, .unset, .unset, .unset, .unset, .unset, .unset, .unset, .unset] [(.int (3 : Int32)), (.int q1)]))
  refine OGo.st (fun t k => XS.iand X0.here hx rfl (hb hby at_2) rfl k) ?_
  show OGo p e below _ (s₁.setTop (mkF m 3 #[.val (.int q1), .val (.int q2), .val (.int q3), .val (.int q4), .val (.int q5), .val (.int q6), .unset, .unset, .unset, .unset, .unset, .unset, .unset, .unset, .unset, .unset] [(.int (q1 &&& (3 : Int32)))]))
  rw [hi_]
  show OGo p e below _ (s₁.setTop (mkF m 3 #[.val (.int q1), .val (.int q2), .val (.int q3), .val (.int q4), .val (.int q5), .val (.int q6), .unset, .unset, .unset, .unset, .unset, .unset, .unset, .unset, .unset, .unset] [(.int (Int32.ofNat i))]))
  refine OGo.st (fun t k => XS.istore X0.here hx rfl (hb hby at_3) rfl (l' := #[.val (.int q1), .val (.int q2), .val (.int q3), .val (.int q4), .val (.int q5), .val (.int q6), .val (.int (Int32.ofNat i)), .unset, .unset, .unset, .unset, .unset, .unset, .unset, .unset, .unset]) rfl k) ?_
  show OGo p e below _ (s₁.setTop (mkF m 5 #[.val (.int q1), .val (.int q2), .val (.int q3), .val (.int q4), .val (.int q5), .val (.int q6), .val (.int (Int32.ofNat i)), .unset, .unset, .unset, .unset, .unset, .unset, .unset, .unset, .unset] []))
  refine OGo.st (fun t k => XS.iloadN X0.here hx rfl (hb hby at_5) rfl k) ?_
  show OGo p e below _ (s₁.setTop (mkF m 6 #[.val (.int q1), .val (.int q2), .val (.int q3), .val (.int q4), .val (.int q5), .val (.int q6), .val (.int (Int32.ofNat i)), .unset, .unset, .unset, .unset, .unset, .unset, .unset, .unset, .unset] [(.int q1)]))
  refine OGo.st (fun t k => XS.iconst X0.here hx rfl (hb hby at_6) k) ?_
  show OGo p e below _ (s₁.setTop (mkF m 7 #[.val (.int q1), .val (.int q2), .val (.int q3), .val (.int q4), .val (.int q5), .val (.int q6), .val (.int (Int32.ofNat i)), .unset, .unset, .unset, .unset, .unset, .unset, .unset, .unset, .unset] [(.int (2 : Int32)), (.int q1)]))
  refine OGo.st (fun t k => XS.iushr X0.here hx rfl (hb hby at_7) rfl k) ?_
  show OGo p e below _ (s₁.setTop (mkF m 8 #[.val (.int q1), .val (.int q2), .val (.int q3), .val (.int q4), .val (.int q5), .val (.int q6), .val (.int (Int32.ofNat i)), .unset, .unset, .unset, .unset, .unset, .unset, .unset, .unset, .unset] [(.int ((q1.toUInt32 >>> ((2 : Int32) &&& 31).toUInt32).toInt32))]))
  refine OGo.st (fun t k => XS.iconst X0.here hx rfl (hb hby at_8) k) ?_
  show OGo p e below _ (s₁.setTop (mkF m 9 #[.val (.int q1), .val (.int q2), .val (.int q3), .val (.int q4), .val (.int q5), .val (.int q6), .val (.int (Int32.ofNat i)), .unset, .unset, .unset, .unset, .unset, .unset, .unset, .unset, .unset] [(.int (3 : Int32)), (.int ((q1.toUInt32 >>> ((2 : Int32) &&& 31).toUInt32).toInt32))]))
  refine OGo.st (fun t k => XS.iand X0.here hx rfl (hb hby at_9) rfl k) ?_
  show OGo p e below _ (s₁.setTop (mkF m 10 #[.val (.int q1), .val (.int q2), .val (.int q3), .val (.int q4), .val (.int q5), .val (.int q6), .val (.int (Int32.ofNat i)), .unset, .unset, .unset, .unset, .unset, .unset, .unset, .unset, .unset] [(.int (((q1.toUInt32 >>> ((2 : Int32) &&& 31).toUInt32).toInt32) &&& (3 : Int32)))]))
  rw [hfr_]
  show OGo p e below _ (s₁.setTop (mkF m 10 #[.val (.int q1), .val (.int q2), .val (.int q3), .val (.int q4), .val (.int q5), .val (.int q6), .val (.int (Int32.ofNat i)), .unset, .unset, .unset, .unset, .unset, .unset, .unset, .unset, .unset] [(.int (Int32.ofNat fr))]))
  refine OGo.st (fun t k => XS.istore X0.here hx rfl (hb hby at_10) rfl (l' := #[.val (.int q1), .val (.int q2), .val (.int q3), .val (.int q4), .val (.int q5), .val (.int q6), .val (.int (Int32.ofNat i)), .val (.int (Int32.ofNat fr)), .unset, .unset, .unset, .unset, .unset, .unset, .unset, .unset]) rfl k) ?_
  show OGo p e below _ (s₁.setTop (mkF m 12 #[.val (.int q1), .val (.int q2), .val (.int q3), .val (.int q4), .val (.int q5), .val (.int q6), .val (.int (Int32.ofNat i)), .val (.int (Int32.ofNat fr)), .unset, .unset, .unset, .unset, .unset, .unset, .unset, .unset] []))
  refine OGo.st (fun t k => XS.iloadN X0.here hx rfl (hb hby at_12) rfl k) ?_
  show OGo p e below _ (s₁.setTop (mkF m 13 #[.val (.int q1), .val (.int q2), .val (.int q3), .val (.int q4), .val (.int q5), .val (.int q6), .val (.int (Int32.ofNat i)), .val (.int (Int32.ofNat fr)), .unset, .unset, .unset, .unset, .unset, .unset, .unset, .unset] [(.int q1)]))
  refine OGo.st (fun t k => XS.iconst X0.here hx rfl (hb hby at_13) k) ?_
  show OGo p e below _ (s₁.setTop (mkF m 14 #[.val (.int q1), .val (.int q2), .val (.int q3), .val (.int q4), .val (.int q5), .val (.int q6), .val (.int (Int32.ofNat i)), .val (.int (Int32.ofNat fr)), .unset, .unset, .unset, .unset, .unset, .unset, .unset, .unset] [(.int (4 : Int32)), (.int q1)]))
  refine OGo.st (fun t k => XS.iushr X0.here hx rfl (hb hby at_14) rfl k) ?_
  show OGo p e below _ (s₁.setTop (mkF m 15 #[.val (.int q1), .val (.int q2), .val (.int q3), .val (.int q4), .val (.int q5), .val (.int q6), .val (.int (Int32.ofNat i)), .val (.int (Int32.ofNat fr)), .unset, .unset, .unset, .unset, .unset, .unset, .unset, .unset] [(.int ((q1.toUInt32 >>> ((4 : Int32) &&& 31).toUInt32).toInt32))]))
  refine OGo.st (fun t k => XS.iconst X0.here hx rfl (hb hby at_15) k) ?_
  show OGo p e below _ (s₁.setTop (mkF m 16 #[.val (.int q1), .val (.int q2), .val (.int q3), .val (.int q4), .val (.int q5), .val (.int q6), .val (.int (Int32.ofNat i)), .val (.int (Int32.ofNat fr)), .unset, .unset, .unset, .unset, .unset, .unset, .unset, .unset] [(.int (1 : Int32)), (.int ((q1.toUInt32 >>> ((4 : Int32) &&& 31).toUInt32).toInt32))]))
  refine OGo.st (fun t k => XS.iand X0.here hx rfl (hb hby at_16) rfl k) ?_
  show OGo p e below _ (s₁.setTop (mkF m 17 #[.val (.int q1), .val (.int q2), .val (.int q3), .val (.int q4), .val (.int q5), .val (.int q6), .val (.int (Int32.ofNat i)), .val (.int (Int32.ofNat fr)), .unset, .unset, .unset, .unset, .unset, .unset, .unset, .unset] [(.int (((q1.toUInt32 >>> ((4 : Int32) &&& 31).toUInt32).toInt32) &&& (1 : Int32)))]))
  refine OGo.st (B := s₁.setTop (mkF m 25 #[.val (.int q1), .val (.int q2), .val (.int q3), .val (.int q4), .val (.int q5), .val (.int q6), .val (.int (Int32.ofNat i)), .val (.int (Int32.ofNat fr)), .unset, .unset, .unset, .unset, .unset, .unset, .unset, .unset] [(.int (if (((q1.toUInt32 >>> ((4 : Int32) &&& 31).toUInt32).toInt32) &&& (1 : Int32)) = (0 : Int32) then (0 : Int32) else (1 : Int32)))])) (fun t kt => ?_) ?_
  · show Steps p.tables e below (s₁.setTop (mkF m 17 #[.val (.int q1), .val (.int q2), .val (.int q3), .val (.int q4), .val (.int q5), .val (.int q6), .val (.int (Int32.ofNat i)), .val (.int (Int32.ofNat fr)), .unset, .unset, .unset, .unset, .unset, .unset, .unset, .unset] [(.int (((q1.toUInt32 >>> ((4 : Int32) &&& 31).toUInt32).toInt32) &&& (1 : Int32)))])) t
    by_cases hc17_1 : (((q1.toUInt32 >>> ((4 : Int32) &&& 31).toUInt32).toInt32) &&& (1 : Int32)) = (0 : Int32)
    · rw [if_pos hc17_1] at kt
      refine XS.ifYes X0.here hx rfl (pc0 := 17) (pc' := 24) rfl (hb hby at_17) rfl ((if0 _ _).trans (teq hc17_1).1) (by decide) (by decide) ?_
      show Steps p.tables e below (s₁.setTop (mkF m 24 #[.val (.int q1), .val (.int q2), .val (.int q3), .val (.int q4), .val (.int q5), .val (.int q6), .val (.int (Int32.ofNat i)), .val (.int (Int32.ofNat fr)), .unset, .unset, .unset, .unset, .unset, .unset, .unset, .unset] [])) t
      refine XS.iconst X0.here hx rfl (hb hby at_24) ?_
      show Steps p.tables e below (s₁.setTop (mkF m 25 #[.val (.int q1), .val (.int q2), .val (.int q3), .val (.int q4), .val (.int q5), .val (.int q6), .val (.int (Int32.ofNat i)), .val (.int (Int32.ofNat fr)), .unset, .unset, .unset, .unset, .unset, .unset, .unset, .unset] [(.int (0 : Int32))])) t
      exact kt
    · rw [if_neg hc17_1] at kt
      refine XS.ifNo X0.here hx rfl (hb hby at_17) rfl ((if0 _ _).trans (feq hc17_1).1) ?_
      show Steps p.tables e below (s₁.setTop (mkF m 20 #[.val (.int q1), .val (.int q2), .val (.int q3), .val (.int q4), .val (.int q5), .val (.int q6), .val (.int (Int32.ofNat i)), .val (.int (Int32.ofNat fr)), .unset, .unset, .unset, .unset, .unset, .unset, .unset, .unset] [])) t
      refine XS.iconst X0.here hx rfl (hb hby at_20) ?_
      show Steps p.tables e below (s₁.setTop (mkF m 21 #[.val (.int q1), .val (.int q2), .val (.int q3), .val (.int q4), .val (.int q5), .val (.int q6), .val (.int (Int32.ofNat i)), .val (.int (Int32.ofNat fr)), .unset, .unset, .unset, .unset, .unset, .unset, .unset, .unset] [(.int (1 : Int32))])) t
      refine XS.goto X0.here hx rfl (pc0 := 21) (pc' := 25) rfl (hb hby at_21) (by decide) (by decide) ?_
      show Steps p.tables e below (s₁.setTop (mkF m 25 #[.val (.int q1), .val (.int q2), .val (.int q3), .val (.int q4), .val (.int q5), .val (.int q6), .val (.int (Int32.ofNat i)), .val (.int (Int32.ofNat fr)), .unset, .unset, .unset, .unset, .unset, .unset, .unset, .unset] [(.int (1 : Int32))])) t
      exact kt
  rw [hnz]
  show OGo p e below _ (s₁.setTop (mkF m 25 #[.val (.int q1), .val (.int q2), .val (.int q3), .val (.int q4), .val (.int q5), .val (.int q6), .val (.int (Int32.ofNat i)), .val (.int (Int32.ofNat fr)), .unset, .unset, .unset, .unset, .unset, .unset, .unset, .unset] [(.int nz)]))
  refine OGo.st (fun t k => XS.istore X0.here hx rfl (hb hby at_25) rfl (l' := #[.val (.int q1), .val (.int q2), .val (.int q3), .val (.int q4), .val (.int q5), .val (.int q6), .val (.int (Int32.ofNat i)), .val (.int (Int32.ofNat fr)), .val (.int nz), .unset, .unset, .unset, .unset, .unset, .unset, .unset]) rfl k) ?_
  show OGo p e below _ (s₁.setTop (mkF m 27 #[.val (.int q1), .val (.int q2), .val (.int q3), .val (.int q4), .val (.int q5), .val (.int q6), .val (.int (Int32.ofNat i)), .val (.int (Int32.ofNat fr)), .val (.int nz), .unset, .unset, .unset, .unset, .unset, .unset, .unset] []))
  refine OGo.st (fun t k => XS.iloadN X0.here hx rfl (hb hby at_27) rfl k) ?_
  show OGo p e below _ (s₁.setTop (mkF m 28 #[.val (.int q1), .val (.int q2), .val (.int q3), .val (.int q4), .val (.int q5), .val (.int q6), .val (.int (Int32.ofNat i)), .val (.int (Int32.ofNat fr)), .val (.int nz), .unset, .unset, .unset, .unset, .unset, .unset, .unset] [(.int q1)]))
  refine OGo.st (fun t k => XS.iconst X0.here hx rfl (hb hby at_28) k) ?_
  show OGo p e below _ (s₁.setTop (mkF m 29 #[.val (.int q1), .val (.int q2), .val (.int q3), .val (.int q4), .val (.int q5), .val (.int q6), .val (.int (Int32.ofNat i)), .val (.int (Int32.ofNat fr)), .val (.int nz), .unset, .unset, .unset, .unset, .unset, .unset, .unset] [(.int (5 : Int32)), (.int q1)]))
  refine OGo.st (fun t k => XS.iushr X0.here hx rfl (hb hby at_29) rfl k) ?_
  show OGo p e below _ (s₁.setTop (mkF m 30 #[.val (.int q1), .val (.int q2), .val (.int q3), .val (.int q4), .val (.int q5), .val (.int q6), .val (.int (Int32.ofNat i)), .val (.int (Int32.ofNat fr)), .val (.int nz), .unset, .unset, .unset, .unset, .unset, .unset, .unset] [(.int ((q1.toUInt32 >>> ((5 : Int32) &&& 31).toUInt32).toInt32))]))
  refine OGo.st (fun t k => XS.sipush X0.here hx rfl (hb hby at_30) k) ?_
  show OGo p e below _ (s₁.setTop (mkF m 33 #[.val (.int q1), .val (.int q2), .val (.int q3), .val (.int q4), .val (.int q5), .val (.int q6), .val (.int (Int32.ofNat i)), .val (.int (Int32.ofNat fr)), .val (.int nz), .unset, .unset, .unset, .unset, .unset, .unset, .unset] [(.int (255 : Int32)), (.int ((q1.toUInt32 >>> ((5 : Int32) &&& 31).toUInt32).toInt32))]))
  refine OGo.st (fun t k => XS.iand X0.here hx rfl (hb hby at_33) rfl k) ?_
  show OGo p e below _ (s₁.setTop (mkF m 34 #[.val (.int q1), .val (.int q2), .val (.int q3), .val (.int q4), .val (.int q5), .val (.int q6), .val (.int (Int32.ofNat i)), .val (.int (Int32.ofNat fr)), .val (.int nz), .unset, .unset, .unset, .unset, .unset, .unset, .unset] [(.int (((q1.toUInt32 >>> ((5 : Int32) &&& 31).toUInt32).toInt32) &&& (255 : Int32)))]))
  refine OGo.st (fun t k => XS.iconst X0.here hx rfl (hb hby at_34) k) ?_
  show OGo p e below _ (s₁.setTop (mkF m 35 #[.val (.int q1), .val (.int q2), .val (.int q3), .val (.int q4), .val (.int q5), .val (.int q6), .val (.int (Int32.ofNat i)), .val (.int (Int32.ofNat fr)), .val (.int nz), .unset, .unset, .unset, .unset, .unset, .unset, .unset] [(.int (3 : Int32)), (.int (((q1.toUInt32 >>> ((5 : Int32) &&& 31).toUInt32).toInt32) &&& (255 : Int32)))]))
  refine OGo.st (fun t k => XS.irem X0.here hx rfl (hb hby at_35) rfl (by decide) k) ?_
  show OGo p e below _ (s₁.setTop (mkF m 36 #[.val (.int q1), .val (.int q2), .val (.int q3), .val (.int q4), .val (.int q5), .val (.int q6), .val (.int (Int32.ofNat i)), .val (.int (Int32.ofNat fr)), .val (.int nz), .unset, .unset, .unset, .unset, .unset, .unset, .unset] [(.int ((((q1.toUInt32 >>> ((5 : Int32) &&& 31).toUInt32).toInt32) &&& (255 : Int32)) - ((((q1.toUInt32 >>> ((5 : Int32) &&& 31).toUInt32).toInt32) &&& (255 : Int32)) / (3 : Int32)) * (3 : Int32)))]))
  rw [hcc]
  show OGo p e below _ (s₁.setTop (mkF m 36 #[.val (.int q1), .val (.int q2), .val (.int q3), .val (.int q4), .val (.int q5), .val (.int q6), .val (.int (Int32.ofNat i)), .val (.int (Int32.ofNat fr)), .val (.int nz), .unset, .unset, .unset, .unset, .unset, .unset, .unset] [(.int cc)]))
  refine OGo.st (fun t k => XS.istore X0.here hx rfl (hb hby at_36) rfl (l' := #[.val (.int q1), .val (.int q2), .val (.int q3), .val (.int q4), .val (.int q5), .val (.int q6), .val (.int (Int32.ofNat i)), .val (.int (Int32.ofNat fr)), .val (.int nz), .val (.int cc), .unset, .unset, .unset, .unset, .unset, .unset]) rfl k) ?_
  show OGo p e below _ (s₁.setTop (mkF m 38 #[.val (.int q1), .val (.int q2), .val (.int q3), .val (.int q4), .val (.int q5), .val (.int q6), .val (.int (Int32.ofNat i)), .val (.int (Int32.ofNat fr)), .val (.int nz), .val (.int cc), .unset, .unset, .unset, .unset, .unset, .unset] []))
  refine OGo.st (fun t k => XS.iconst X0.here hx rfl (hb hby at_38) k) ?_
  show OGo p e below _ (s₁.setTop (mkF m 39 #[.val (.int q1), .val (.int q2), .val (.int q3), .val (.int q4), .val (.int q5), .val (.int q6), .val (.int (Int32.ofNat i)), .val (.int (Int32.ofNat fr)), .val (.int nz), .val (.int cc), .unset, .unset, .unset, .unset, .unset, .unset] [(.int (4 : Int32))]))
  obtain ⟨T2, h2, k2, X2, e2, E2, A2, st2⟩ := newP X0 hx hZ (hw _ (List.mem_of_getElem? (i := 0) rfl)) e0 (g := (mkF m 39 #[.val (.int q1), .val (.int q2), .val (.int q3), .val (.int q4), .val (.int q5), .val (.int q6), .val (.int (Int32.ofNat i)), .val (.int (Int32.ofNat fr)), .val (.int nz), .val (.int cc), .unset, .unset, .unset, .unset, .unset, .unset] [(.int (4 : Int32))])) rfl (hb hby at_39) rfl (by decide) (cap := 4) (by decide) (by decide) (by decide) (by decide)
  obtain ⟨b2, g2⟩ : ∃ z, z = h0.size := ⟨_, rfl⟩
  rw [← g2] at A2 st2
  have O2 : OA Z h2 b2 .int 4 (fun _ => 0) := OA.new A2 (by decide) rfl
  have gb2 : n0 ≤ b2 := Nat.le_trans Z0 (Nat.le_of_eq g2.symm)
  have Z2 : n0 ≤ h2.size := Nat.le_trans Z0 E2.1
  obtain ⟨lo2, X2, N2⟩ : ∃ L, Stand p l e room_1 s m #[(.int q1), (.int q2), (.int q3), (.int q4), (.int q5), (.int q6)] below meth c T2 L 1 4 ∧ Fr n0 L := ⟨_, X2, N0⟩
  refine OGo.st (fun t k => st2 t k) ?_
  show OGo p e below _ (T2.setTop (mkF m 41 #[.val (.int q1), .val (.int q2), .val (.int q3), .val (.int q4), .val (.int q5), .val (.int q6), .val (.int (Int32.ofNat i)), .val (.int (Int32.ofNat fr)), .val (.int nz), .val (.int cc), .unset, .unset, .unset, .unset, .unset, .unset] [(.ref b2)]))
  refine OGo.st (fun t k => XS.dup X2.here hx rfl (hb hby at_41) rfl rfl k) ?_
  show OGo p e below _ (T2.setTop (mkF m 42 #[.val (.int q1), .val (.int q2), .val (.int q3), .val (.int q4), .val (.int q5), .val (.int q6), .val (.int (Int32.ofNat i)), .val (.int (Int32.ofNat fr)), .val (.int nz), .val (.int cc), .unset, .unset, .unset, .unset, .unset, .unset] [(.ref b2), (.ref b2)]))
  refine OGo.st (fun t k => XS.iconst X2.here hx rfl (hb hby at_42) k) ?_
  show OGo p e below _ (T2.setTop (mkF m 43 #[.val (.int q1), .val (.int q2), .val (.int q3), .val (.int q4), .val (.int q5), .val (.int q6), .val (.int (Int32.ofNat i)), .val (.int (Int32.ofNat fr)), .val (.int nz), .val (.int cc), .unset, .unset, .unset, .unset, .unset, .unset] [(.int (0 : Int32)), (.ref b2), (.ref b2)]))
  refine OGo.st (fun t k => XS.iconst X2.here hx rfl (hb hby at_43) k) ?_
  show OGo p e below _ (T2.setTop (mkF m 44 #[.val (.int q1), .val (.int q2), .val (.int q3), .val (.int q4), .val (.int q5), .val (.int q6), .val (.int (Int32.ofNat i)), .val (.int (Int32.ofNat fr)), .val (.int nz), .val (.int cc), .unset, .unset, .unset, .unset, .unset, .unset] [(.int (-1 : Int32)), (.int (0 : Int32)), (.ref b2), (.ref b2)]))
  obtain ⟨T3, h3, X3, e3, W3, O3', st3⟩ := OA.stI X2 hx hZ e2 O2 (j := (0 : Int32)) (x := (-1 : Int32)) (k := 0) (by decide) (by decide) (by decide) (g := (mkF m 44 #[.val (.int q1), .val (.int q2), .val (.int q3), .val (.int q4), .val (.int q5), .val (.int q6), .val (.int (Int32.ofNat i)), .val (.int (Int32.ofNat fr)), .val (.int nz), .val (.int cc), .unset, .unset, .unset, .unset, .unset, .unset] [(.int (-1 : Int32)), (.int (0 : Int32)), (.ref b2), (.ref b2)])) rfl rfl (hb hby at_44)
  obtain ⟨fa3, hf3⟩ : ∃ z, z = oset (fun _ => 0) 0 (-1 : Int32) := ⟨_, rfl⟩
  have O3 := O3'
  rw [← hf3] at O3
  have N3 := Fr.snoc X3 N2 gb2
  have Z3 : n0 ≤ h3.size := Nat.le_trans Z2 (Keep.of_wr W3).1
  obtain ⟨lo3, X3, N3⟩ : ∃ L, Stand p l e room_1 s m #[(.int q1), (.int q2), (.int q3), (.int q4), (.int q5), (.int q6)] below meth c T3 L 1 4 ∧ Fr n0 L := ⟨_, X3, N3⟩
  refine OGo.st (fun t k => st3 t k) ?_
  show OGo p e below _ (T3.setTop (mkF m 45 #[.val (.int q1), .val (.int q2), .val (.int q3), .val (.int q4), .val (.int q5), .val (.int q6), .val (.int (Int32.ofNat i)), .val (.int (Int32.ofNat fr)), .val (.int nz), .val (.int cc), .unset, .unset, .unset, .unset, .unset, .unset] [(.ref b2)]))
  refine OGo.st (fun t k => XS.dup X3.here hx rfl (hb hby at_45) rfl rfl k) ?_
  show OGo p e below _ (T3.setTop (mkF m 46 #[.val (.int q1), .val (.int q2), .val (.int q3), .val (.int q4), .val (.int q5), .val (.int q6), .val (.int (Int32.ofNat i)), .val (.int (Int32.ofNat fr)), .val (.int nz), .val (.int cc), .unset, .unset, .unset, .unset, .unset, .unset] [(.ref b2), (.ref b2)]))
  refine OGo.st (fun t k => XS.iconst X3.here hx rfl (hb hby at_46) k) ?_
  show OGo p e below _ (T3.setTop (mkF m 47 #[.val (.int q1), .val (.int q2), .val (.int q3), .val (.int q4), .val (.int q5), .val (.int q6), .val (.int (Int32.ofNat i)), .val (.int (Int32.ofNat fr)), .val (.int nz), .val (.int cc), .unset, .unset, .unset, .unset, .unset, .unset] [(.int (1 : Int32)), (.ref b2), (.ref b2)]))
  refine OGo.st (fun t k => XS.iconst X3.here hx rfl (hb hby at_47) k) ?_
  show OGo p e below _ (T3.setTop (mkF m 48 #[.val (.int q1), .val (.int q2), .val (.int q3), .val (.int q4), .val (.int q5), .val (.int q6), .val (.int (Int32.ofNat i)), .val (.int (Int32.ofNat fr)), .val (.int nz), .val (.int cc), .unset, .unset, .unset, .unset, .unset, .unset] [(.int (0 : Int32)), (.int (1 : Int32)), (.ref b2), (.ref b2)]))
  obtain ⟨T4, h4, X4, e4, W4, O4', st4⟩ := OA.stI X3 hx hZ e3 O3 (j := (1 : Int32)) (x := (0 : Int32)) (k := 1) (by decide) (by decide) (by decide) (g := (mkF m 48 #[.val (.int q1), .val (.int q2), .val (.int q3), .val (.int q4), .val (.int q5), .val (.int q6), .val (.int (Int32.ofNat i)), .val (.int (Int32.ofNat fr)), .val (.int nz), .val (.int cc), .unset, .unset, .unset, .unset, .unset, .unset] [(.int (0 : Int32)), (.int (1 : Int32)), (.ref b2), (.ref b2)])) rfl rfl (hb hby at_48)
  obtain ⟨fa4, hf4⟩ : ∃ z, z = oset fa3 1 (0 : Int32) := ⟨_, rfl⟩
  have O4 := O4'
  rw [← hf4] at O4
  have N4 := Fr.snoc X4 N3 gb2
  have Z4 : n0 ≤ h4.size := Nat.le_trans Z3 (Keep.of_wr W4).1
  obtain ⟨lo4, X4, N4⟩ : ∃ L, Stand p l e room_1 s m #[(.int q1), (.int q2), (.int q3), (.int q4), (.int q5), (.int q6)] below meth c T4 L 1 4 ∧ Fr n0 L := ⟨_, X4, N4⟩
  refine OGo.st (fun t k => st4 t k) ?_
  show OGo p e below _ (T4.setTop (mkF m 49 #[.val (.int q1), .val (.int q2), .val (.int q3), .val (.int q4), .val (.int q5), .val (.int q6), .val (.int (Int32.ofNat i)), .val (.int (Int32.ofNat fr)), .val (.int nz), .val (.int cc), .unset, .unset, .unset, .unset, .unset, .unset] [(.ref b2)]))
  refine OGo.st (fun t k => XS.dup X4.here hx rfl (hb hby at_49) rfl rfl k) ?_
  show OGo p e below _ (T4.setTop (mkF m 50 #[.val (.int q1), .val (.int q2), .val (.int q3), .val (.int q4), .val (.int q5), .val (.int q6), .val (.int (Int32.ofNat i)), .val (.int (Int32.ofNat fr)), .val (.int nz), .val (.int cc), .unset, .unset, .unset, .unset, .unset, .unset] [(.ref b2), (.ref b2)]))
  refine OGo.st (fun t k => XS.iconst X4.here hx rfl (hb hby at_50) k) ?_
  show OGo p e below _ (T4.setTop (mkF m 51 #[.val (.int q1), .val (.int q2), .val (.int q3), .val (.int q4), .val (.int q5), .val (.int q6), .val (.int (Int32.ofNat i)), .val (.int (Int32.ofNat fr)), .val (.int nz), .val (.int cc), .unset, .unset, .unset, .unset, .unset, .unset] [(.int (2 : Int32)), (.ref b2), (.ref b2)]))
  refine OGo.st (fun t k => XS.iconst X4.here hx rfl (hb hby at_51) k) ?_
  show OGo p e below _ (T4.setTop (mkF m 52 #[.val (.int q1), .val (.int q2), .val (.int q3), .val (.int q4), .val (.int q5), .val (.int q6), .val (.int (Int32.ofNat i)), .val (.int (Int32.ofNat fr)), .val (.int nz), .val (.int cc), .unset, .unset, .unset, .unset, .unset, .unset] [(.int (2 : Int32)), (.int (2 : Int32)), (.ref b2), (.ref b2)]))
  obtain ⟨T5, h5, X5, e5, W5, O5', st5⟩ := OA.stI X4 hx hZ e4 O4 (j := (2 : Int32)) (x := (2 : Int32)) (k := 2) (by decide) (by decide) (by decide) (g := (mkF m 52 #[.val (.int q1), .val (.int q2), .val (.int q3), .val (.int q4), .val (.int q5), .val (.int q6), .val (.int (Int32.ofNat i)), .val (.int (Int32.ofNat fr)), .val (.int nz), .val (.int cc), .unset, .unset, .unset, .unset, .unset, .unset] [(.int (2 : Int32)), (.int (2 : Int32)), (.ref b2), (.ref b2)])) rfl rfl (hb hby at_52)
  obtain ⟨fa5, hf5⟩ : ∃ z, z = oset fa4 2 (2 : Int32) := ⟨_, rfl⟩
  have O5 := O5'
  rw [← hf5] at O5
  have N5 := Fr.snoc X5 N4 gb2
  have Z5 : n0 ≤ h5.size := Nat.le_trans Z4 (Keep.of_wr W5).1
  obtain ⟨lo5, X5, N5⟩ : ∃ L, Stand p l e room_1 s m #[(.int q1), (.int q2), (.int q3), (.int q4), (.int q5), (.int q6)] below meth c T5 L 1 4 ∧ Fr n0 L := ⟨_, X5, N5⟩
  refine OGo.st (fun t k => st5 t k) ?_
  show OGo p e below _ (T5.setTop (mkF m 53 #[.val (.int q1), .val (.int q2), .val (.int q3), .val (.int q4), .val (.int q5), .val (.int q6), .val (.int (Int32.ofNat i)), .val (.int (Int32.ofNat fr)), .val (.int nz), .val (.int cc), .unset, .unset, .unset, .unset, .unset, .unset] [(.ref b2)]))
  refine OGo.st (fun t k => XS.dup X5.here hx rfl (hb hby at_53) rfl rfl k) ?_
  show OGo p e below _ (T5.setTop (mkF m 54 #[.val (.int q1), .val (.int q2), .val (.int q3), .val (.int q4), .val (.int q5), .val (.int q6), .val (.int (Int32.ofNat i)), .val (.int (Int32.ofNat fr)), .val (.int nz), .val (.int cc), .unset, .unset, .unset, .unset, .unset, .unset] [(.ref b2), (.ref b2)]))
  refine OGo.st (fun t k => XS.iconst X5.here hx rfl (hb hby at_54) k) ?_
  show OGo p e below _ (T5.setTop (mkF m 55 #[.val (.int q1), .val (.int q2), .val (.int q3), .val (.int q4), .val (.int q5), .val (.int q6), .val (.int (Int32.ofNat i)), .val (.int (Int32.ofNat fr)), .val (.int nz), .val (.int cc), .unset, .unset, .unset, .unset, .unset, .unset] [(.int (3 : Int32)), (.ref b2), (.ref b2)]))
  refine OGo.st (fun t k => XS.iconst X5.here hx rfl (hb hby at_55) k) ?_
  show OGo p e below _ (T5.setTop (mkF m 56 #[.val (.int q1), .val (.int q2), .val (.int q3), .val (.int q4), .val (.int q5), .val (.int q6), .val (.int (Int32.ofNat i)), .val (.int (Int32.ofNat fr)), .val (.int nz), .val (.int cc), .unset, .unset, .unset, .unset, .unset, .unset] [(.int (4 : Int32)), (.int (3 : Int32)), (.ref b2), (.ref b2)]))
  obtain ⟨T6, h6, X6, e6, W6, O6', st6⟩ := OA.stI X5 hx hZ e5 O5 (j := (3 : Int32)) (x := (4 : Int32)) (k := 3) (by decide) (by decide) (by decide) (g := (mkF m 56 #[.val (.int q1), .val (.int q2), .val (.int q3), .val (.int q4), .val (.int q5), .val (.int q6), .val (.int (Int32.ofNat i)), .val (.int (Int32.ofNat fr)), .val (.int nz), .val (.int cc), .unset, .unset, .unset, .unset, .unset, .unset] [(.int (4 : Int32)), (.int (3 : Int32)), (.ref b2), (.ref b2)])) rfl rfl (hb hby at_56)
  obtain ⟨fa6, hf6⟩ : ∃ z, z = oset fa5 3 (4 : Int32) := ⟨_, rfl⟩
  have O6 := O6'
  rw [← hf6] at O6
  have N6 := Fr.snoc X6 N5 gb2
  have Z6 : n0 ≤ h6.size := Nat.le_trans Z5 (Keep.of_wr W6).1
  obtain ⟨lo6, X6, N6⟩ : ∃ L, Stand p l e room_1 s m #[(.int q1), (.int q2), (.int q3), (.int q4), (.int q5), (.int q6)] below meth c T6 L 1 4 ∧ Fr n0 L := ⟨_, X6, N6⟩
  refine OGo.st (fun t k => st6 t k) ?_
  show OGo p e below _ (T6.setTop (mkF m 57 #[.val (.int q1), .val (.int q2), .val (.int q3), .val (.int q4), .val (.int q5), .val (.int q6), .val (.int (Int32.ofNat i)), .val (.int (Int32.ofNat fr)), .val (.int nz), .val (.int cc), .unset, .unset, .unset, .unset, .unset, .unset] [(.ref b2)]))
  refine OGo.st (fun t k => XS.astore X6.here hx rfl (hb hby at_57) rfl rfl (l' := #[.val (.int q1), .val (.int q2), .val (.int q3), .val (.int q4), .val (.int q5), .val (.int q6), .val (.int (Int32.ofNat i)), .val (.int (Int32.ofNat fr)), .val (.int nz), .val (.int cc), .val (.ref b2), .unset, .unset, .unset, .unset, .unset]) rfl k) ?_
  show OGo p e below _ (T6.setTop (mkF m 59 #[.val (.int q1), .val (.int q2), .val (.int q3), .val (.int q4), .val (.int q5), .val (.int q6), .val (.int (Int32.ofNat i)), .val (.int (Int32.ofNat fr)), .val (.int nz), .val (.int cc), .val (.ref b2), .unset, .unset, .unset, .unset, .unset] []))
  refine OGo.st (fun t k => XS.iconst X6.here hx rfl (hb hby at_59) k) ?_
  show OGo p e below _ (T6.setTop (mkF m 60 #[.val (.int q1), .val (.int q2), .val (.int q3), .val (.int q4), .val (.int q5), .val (.int q6), .val (.int (Int32.ofNat i)), .val (.int (Int32.ofNat fr)), .val (.int nz), .val (.int cc), .val (.ref b2), .unset, .unset, .unset, .unset, .unset] [(.int (3 : Int32))]))
  obtain ⟨T7, h7, k7, X7, e7, E7, A7, st7⟩ := newP X6 hx hZ (hw _ (List.mem_of_getElem? (i := 0) rfl)) e6 (g := (mkF m 60 #[.val (.int q1), .val (.int q2), .val (.int q3), .val (.int q4), .val (.int q5), .val (.int q6), .val (.int (Int32.ofNat i)), .val (.int (Int32.ofNat fr)), .val (.int nz), .val (.int cc), .val (.ref b2), .unset, .unset, .unset, .unset, .unset] [(.int (3 : Int32))])) rfl (hb hby at_60) rfl (by decide) (cap := 3) (by decide) (by decide) (by decide) (by decide)
  obtain ⟨b7, g7⟩ : ∃ z, z = h6.size := ⟨_, rfl⟩
  rw [← g7] at A7 st7
  have O7 : OA Z h7 b7 .int 3 (fun _ => 0) := OA.new A7 (by decide) rfl
  have gb7 : n0 ≤ b7 := Nat.le_trans Z6 (Nat.le_of_eq g7.symm)
  have Z7 : n0 ≤ h7.size := Nat.le_trans Z6 E7.1
  have ne_b2_b7 : b2 ≠ b7 := Nat.ne_of_lt (Nat.lt_of_lt_of_le O6.lt (Nat.le_of_eq g7.symm))
  obtain ⟨lo7, X7, N7⟩ : ∃ L, Stand p l e room_1 s m #[(.int q1), (.int q2), (.int q3), (.int q4), (.int q5), (.int q6)] below meth c T7 L 2 7 ∧ Fr n0 L := ⟨_, X7, N6⟩
  refine OGo.st (fun t k => st7 t k) ?_
  show OGo p e below _ (T7.setTop (mkF m 62 #[.val (.int q1), .val (.int q2), .val (.int q3), .val (.int q4), .val (.int q5), .val (.int q6), .val (.int (Int32.ofNat i)), .val (.int (Int32.ofNat fr)), .val (.int nz), .val (.int cc), .val (.ref b2), .unset, .unset, .unset, .unset, .unset] [(.ref b7)]))
  refine OGo.st (fun t k => XS.astore X7.here hx rfl (hb hby at_62) rfl rfl (l' := #[.val (.int q1), .val (.int q2), .val (.int q3), .val (.int q4), .val (.int q5), .val (.int q6), .val (.int (Int32.ofNat i)), .val (.int (Int32.ofNat fr)), .val (.int nz), .val (.int cc), .val (.ref b2), .val (.ref b7), .unset, .unset, .unset, .unset]) rfl k) ?_
  show OGo p e below _ (T7.setTop (mkF m 64 #[.val (.int q1), .val (.int q2), .val (.int q3), .val (.int q4), .val (.int q5), .val (.int q6), .val (.int (Int32.ofNat i)), .val (.int (Int32.ofNat fr)), .val (.int nz), .val (.int cc), .val (.ref b2), .val (.ref b7), .unset, .unset, .unset, .unset] []))
  refine OGo.st (fun t k => XS.aload X7.here hx rfl (hb hby at_64) rfl rfl k) ?_
  show OGo p e below _ (T7.setTop (mkF m 66 #[.val (.int q1), .val (.int q2), .val (.int q3), .val (.int q4), .val (.int q5), .val (.int q6), .val (.int (Int32.ofNat i)), .val (.int (Int32.ofNat fr)), .val (.int nz), .val (.int cc), .val (.ref b2), .val (.ref b7), .unset, .unset, .unset, .unset] [(.ref b7)]))
  refine OGo.st (fun t k => XS.iconst X7.here hx rfl (hb hby at_66) k) ?_
  show OGo p e below _ (T7.setTop (mkF m 67 #[.val (.int q1), .val (.int q2), .val (.int q3), .val (.int q4), .val (.int q5), .val (.int q6), .val (.int (Int32.ofNat i)), .val (.int (Int32.ofNat fr)), .val (.int nz), .val (.int cc), .val (.ref b2), .val (.ref b7), .unset, .unset, .unset, .unset] [(.int (0 : Int32)), (.ref b7)]))
  refine OGo.st (fun t k => XS.iconst X7.here hx rfl (hb hby at_67) k) ?_
  show OGo p e below _ (T7.setTop (mkF m 68 #[.val (.int q1), .val (.int q2), .val (.int q3), .val (.int q4), .val (.int q5), .val (.int q6), .val (.int (Int32.ofNat i)), .val (.int (Int32.ofNat fr)), .val (.int nz), .val (.int cc), .val (.ref b2), .val (.ref b7), .unset, .unset, .unset, .unset] [(.int (-1 : Int32)), (.int (0 : Int32)), (.ref b7)]))
  obtain ⟨T8, h8, X8, e8, W8, O8', st8⟩ := OA.stI X7 hx hZ e7 O7 (j := (0 : Int32)) (x := (-1 : Int32)) (k := 0) (by decide) (by decide) (by decide) (g := (mkF m 68 #[.val (.int q1), .val (.int q2), .val (.int q3), .val (.int q4), .val (.int q5), .val (.int q6), .val (.int (Int32.ofNat i)), .val (.int (Int32.ofNat fr)), .val (.int nz), .val (.int cc), .val (.ref b2), .val (.ref b7), .unset, .unset, .unset, .unset] [(.int (-1 : Int32)), (.int (0 : Int32)), (.ref b7)])) rfl rfl (hb hby at_68)
  obtain ⟨fa8, hf8⟩ : ∃ z, z = oset (fun _ => 0) 0 (-1 : Int32) := ⟨_, rfl⟩
  have O8 := O8'
  rw [← hf8] at O8
  have N8 := Fr.snoc X8 N7 gb7
  have Z8 : n0 ≤ h8.size := Nat.le_trans Z7 (Keep.of_wr W8).1
  obtain ⟨lo8, X8, N8⟩ : ∃ L, Stand p l e room_1 s m #[(.int q1), (.int q2), (.int q3), (.int q4), (.int q5), (.int q6)] below meth c T8 L 2 7 ∧ Fr n0 L := ⟨_, X8, N8⟩
  refine OGo.st (fun t k => st8 t k) ?_
  show OGo p e below _ (T8.setTop (mkF m 69 #[.val (.int q1), .val (.int q2), .val (.int q3), .val (.int q4), .val (.int q5), .val (.int q6), .val (.int (Int32.ofNat i)), .val (.int (Int32.ofNat fr)), .val (.int nz), .val (.int cc), .val (.ref b2), .val (.ref b7), .unset, .unset, .unset, .unset] []))
  refine OGo.st (fun t k => XS.aload X8.here hx rfl (hb hby at_69) rfl rfl k) ?_
  show OGo p e below _ (T8.setTop (mkF m 71 #[.val (.int q1), .val (.int q2), .val (.int q3), .val (.int q4), .val (.int q5), .val (.int q6), .val (.int (Int32.ofNat i)), .val (.int (Int32.ofNat fr)), .val (.int nz), .val (.int cc), .val (.ref b2), .val (.ref b7), .unset, .unset, .unset, .unset] [(.ref b7)]))
  refine OGo.st (fun t k => XS.iconst X8.here hx rfl (hb hby at_71) k) ?_
  show OGo p e below _ (T8.setTop (mkF m 72 #[.val (.int q1), .val (.int q2), .val (.int q3), .val (.int q4), .val (.int q5), .val (.int q6), .val (.int (Int32.ofNat i)), .val (.int (Int32.ofNat fr)), .val (.int nz), .val (.int cc), .val (.ref b2), .val (.ref b7), .unset, .unset, .unset, .unset] [(.int (1 : Int32)), (.ref b7)]))
  refine OGo.st (fun t k => XS.iload X8.here hx rfl (hb hby at_72) rfl k) ?_
  show OGo p e below _ (T8.setTop (mkF m 74 #[.val (.int q1), .val (.int q2), .val (.int q3), .val (.int q4), .val (.int q5), .val (.int q6), .val (.int (Int32.ofNat i)), .val (.int (Int32.ofNat fr)), .val (.int nz), .val (.int cc), .val (.ref b2), .val (.ref b7), .unset, .unset, .unset, .unset] [(.int nz), (.int (1 : Int32)), (.ref b7)]))
  refine OGo.st (B := T8.setTop (mkF m 82 #[.val (.int q1), .val (.int q2), .val (.int q3), .val (.int q4), .val (.int q5), .val (.int q6), .val (.int (Int32.ofNat i)), .val (.int (Int32.ofNat fr)), .val (.int nz), .val (.int cc), .val (.ref b2), .val (.ref b7), .unset, .unset, .unset, .unset] [(.int (if nz = (0 : Int32) then (-1 : Int32) else (0 : Int32))), (.int (1 : Int32)), (.ref b7)])) (fun t kt => ?_) ?_
  · show Steps p.tables e below (T8.setTop (mkF m 74 #[.val (.int q1), .val (.int q2), .val (.int q3), .val (.int q4), .val (.int q5), .val (.int q6), .val (.int (Int32.ofNat i)), .val (.int (Int32.ofNat fr)), .val (.int nz), .val (.int cc), .val (.ref b2), .val (.ref b7), .unset, .unset, .unset, .unset] [(.int nz), (.int (1 : Int32)), (.ref b7)])) t
    by_cases hc74_9 : nz = (0 : Int32)
    · rw [if_pos hc74_9] at kt
      refine XS.ifYes X8.here hx rfl (pc0 := 74) (pc' := 81) rfl (hb hby at_74) rfl ((if0 _ _).trans (teq hc74_9).1) (by decide) (by decide) ?_
      show Steps p.tables e below (T8.setTop (mkF m 81 #[.val (.int q1), .val (.int q2), .val (.int q3), .val (.int q4), .val (.int q5), .val (.int q6), .val (.int (Int32.ofNat i)), .val (.int (Int32.ofNat fr)), .val (.int nz), .val (.int cc), .val (.ref b2), .val (.ref b7), .unset, .unset, .unset, .unset] [(.int (1 : Int32)), (.ref b7)])) t
      refine XS.iconst X8.here hx rfl (hb hby at_81) ?_
      show Steps p.tables e below (T8.setTop (mkF m 82 #[.val (.int q1), .val (.int q2), .val (.int q3), .val (.int q4), .val (.int q5), .val (.int q6), .val (.int (Int32.ofNat i)), .val (.int (Int32.ofNat fr)), .val (.int nz), .val (.int cc), .val (.ref b2), .val (.ref b7), .unset, .unset, .unset, .unset] [(.int (-1 : Int32)), (.int (1 : Int32)), (.ref b7)])) t
      exact kt
    · rw [if_neg hc74_9] at kt
      refine XS.ifNo X8.here hx rfl (hb hby at_74) rfl ((if0 _ _).trans (feq hc74_9).1) ?_
      show Steps p.tables e below (T8.setTop (mkF m 77 #[.val (.int q1), .val (.int q2), .val (.int q3), .val (.int q4), .val (.int q5), .val (.int q6), .val (.int (Int32.ofNat i)), .val (.int (Int32.ofNat fr)), .val (.int nz), .val (.int cc), .val (.ref b2), .val (.ref b7), .unset, .unset, .unset, .unset] [(.int (1 : Int32)), (.ref b7)])) t
      refine XS.iconst X8.here hx rfl (hb hby at_77) ?_
      show Steps p.tables e below (T8.setTop (mkF m 78 #[.val (.int q1), .val (.int q2), .val (.int q3), .val (.int q4), .val (.int q5), .val (.int q6), .val (.int (Int32.ofNat i)), .val (.int (Int32.ofNat fr)), .val (.int nz), .val (.int cc), .val (.ref b2), .val (.ref b7), .unset, .unset, .unset, .unset] [(.int (0 : Int32)), (.int (1 : Int32)), (.ref b7)])) t
      refine XS.goto X8.here hx rfl (pc0 := 78) (pc' := 82) rfl (hb hby at_78) (by decide) (by decide) ?_
      show Steps p.tables e below (T8.setTop (mkF m 82 #[.val (.int q1), .val (.int q2), .val (.int q3), .val (.int q4), .val (.int q5), .val (.int q6), .val (.int (Int32.ofNat i)), .val (.int (Int32.ofNat fr)), .val (.int nz), .val (.int cc), .val (.ref b2), .val (.ref b7), .unset, .unset, .unset, .unset] [(.int (0 : Int32)), (.int (1 : Int32)), (.ref b7)])) t
      exact kt
  obtain ⟨T10, h10, X10, e10, W10, O10', st10⟩ := OA.stI X8 hx hZ e8 O8 (j := (1 : Int32)) (x := (if nz = (0 : Int32) then (-1 : Int32) else (0 : Int32))) (k := 1) (by decide) (by decide) (by decide) (g := (mkF m 82 #[.val (.int q1), .val (.int q2), .val (.int q3), .val (.int q4), .val (.int q5), .val (.int q6), .val (.int (Int32.ofNat i)), .val (.int (Int32.ofNat fr)), .val (.int nz), .val (.int cc), .val (.ref b2), .val (.ref b7), .unset, .unset, .unset, .unset] [(.int (if nz = (0 : Int32) then (-1 : Int32) else (0 : Int32))), (.int (1 : Int32)), (.ref b7)])) rfl rfl (hb hby at_82)
  obtain ⟨fa10, hf10⟩ : ∃ z, z = oset fa8 1 (if nz = (0 : Int32) then (-1 : Int32) else (0 : Int32)) := ⟨_, rfl⟩
  have O10 := O10'
  rw [← hf10] at O10
  have N10 := Fr.snoc X10 N8 gb7
  have Z10 : n0 ≤ h10.size := Nat.le_trans Z8 (Keep.of_wr W10).1
  obtain ⟨lo10, X10, N10⟩ : ∃ L, Stand p l e room_1 s m #[(.int q1), (.int q2), (.int q3), (.int q4), (.int q5), (.int q6)] below meth c T10 L 2 7 ∧ Fr n0 L := ⟨_, X10, N10⟩
  refine OGo.st (fun t k => st10 t k) ?_
  show OGo p e below _ (T10.setTop (mkF m 83 #[.val (.int q1), .val (.int q2), .val (.int q3), .val (.int q4), .val (.int q5), .val (.int q6), .val (.int (Int32.ofNat i)), .val (.int (Int32.ofNat fr)), .val (.int nz), .val (.int cc), .val (.ref b2), .val (.ref b7), .unset, .unset, .unset, .unset] []))
  refine OGo.st (fun t k => XS.aload X10.here hx rfl (hb hby at_83) rfl rfl k) ?_
  show OGo p e below _ (T10.setTop (mkF m 85 #[.val (.int q1), .val (.int q2), .val (.int q3), .val (.int q4), .val (.int q5), .val (.int q6), .val (.int (Int32.ofNat i)), .val (.int (Int32.ofNat fr)), .val (.int nz), .val (.int cc), .val (.ref b2), .val (.ref b7), .unset, .unset, .unset, .unset] [(.ref b7)]))
  refine OGo.st (fun t k => XS.iconst X10.here hx rfl (hb hby at_85) k) ?_
  show OGo p e below _ (T10.setTop (mkF m 86 #[.val (.int q1), .val (.int q2), .val (.int q3), .val (.int q4), .val (.int q5), .val (.int q6), .val (.int (Int32.ofNat i)), .val (.int (Int32.ofNat fr)), .val (.int nz), .val (.int cc), .val (.ref b2), .val (.ref b7), .unset, .unset, .unset, .unset] [(.int (2 : Int32)), (.ref b7)]))
  refine OGo.st (fun t k => XS.iload X10.here hx rfl (hb hby at_86) rfl k) ?_
  show OGo p e below _ (T10.setTop (mkF m 88 #[.val (.int q1), .val (.int q2), .val (.int q3), .val (.int q4), .val (.int q5), .val (.int q6), .val (.int (Int32.ofNat i)), .val (.int (Int32.ofNat fr)), .val (.int nz), .val (.int cc), .val (.ref b2), .val (.ref b7), .unset, .unset, .unset, .unset] [(.int cc), (.int (2 : Int32)), (.ref b7)]))
  refine OGo.st (B := T10.setTop (mkF m 106 #[.val (.int q1), .val (.int q2), .val (.int q3), .val (.int q4), .val (.int q5), .val (.int q6), .val (.int (Int32.ofNat i)), .val (.int (Int32.ofNat fr)), .val (.int nz), .val (.int cc), .val (.ref b2), .val (.ref b7), .unset, .unset, .unset, .unset] [(.int (if cc = (0 : Int32) then (-1 : Int32) else (if cc = (1 : Int32) then (0 : Int32) else (2 : Int32)))), (.int (2 : Int32)), (.ref b7)])) (fun t kt => ?_) ?_
  · show Steps p.tables e below (T10.setTop (mkF m 88 #[.val (.int q1), .val (.int q2), .val (.int q3), .val (.int q4), .val (.int q5), .val (.int q6), .val (.int (Int32.ofNat i)), .val (.int (Int32.ofNat fr)), .val (.int nz), .val (.int cc), .val (.ref b2), .val (.ref b7), .unset, .unset, .unset, .unset] [(.int cc), (.int (2 : Int32)), (.ref b7)])) t
    by_cases hc88_11 : cc = (0 : Int32)
    · rw [if_pos hc88_11] at kt
      refine XS.ifNo X10.here hx rfl (hb hby at_88) rfl ((if0 _ _).trans (teq hc88_11).2) ?_
      show Steps p.tables e below (T10.setTop (mkF m 91 #[.val (.int q1), .val (.int q2), .val (.int q3), .val (.int q4), .val (.int q5), .val (.int q6), .val (.int (Int32.ofNat i)), .val (.int (Int32.ofNat fr)), .val (.int nz), .val (.int cc), .val (.ref b2), .val (.ref b7), .unset, .unset, .unset, .unset] [(.int (2 : Int32)), (.ref b7)])) t
      refine XS.iconst X10.here hx rfl (hb hby at_91) ?_
      show Steps p.tables e below (T10.setTop (mkF m 92 #[.val (.int q1), .val (.int q2), .val (.int q3), .val (.int q4), .val (.int q5), .val (.int q6), .val (.int (Int32.ofNat i)), .val (.int (Int32.ofNat fr)), .val (.int nz), .val (.int cc), .val (.ref b2), .val (.ref b7), .unset, .unset, .unset, .unset] [(.int (-1 : Int32)), (.int (2 : Int32)), (.ref b7)])) t
      refine XS.goto X10.here hx rfl (pc0 := 92) (pc' := 106) rfl (hb hby at_92) (by decide) (by decide) ?_
      show Steps p.tables e below (T10.setTop (mkF m 106 #[.val (.int q1), .val (.int q2), .val (.int q3), .val (.int q4), .val (.int q5), .val (.int q6), .val (.int (Int32.ofNat i)), .val (.int (Int32.ofNat fr)), .val (.int nz), .val (.int cc), .val (.ref b2), .val (.ref b7), .unset, .unset, .unset, .unset] [(.int (-1 : Int32)), (.int (2 : Int32)), (.ref b7)])) t
      exact kt
    · rw [if_neg hc88_11] at kt
      refine XS.ifYes X10.here hx rfl (pc0 := 88) (pc' := 95) rfl (hb hby at_88) rfl ((if0 _ _).trans (feq hc88_11).2) (by decide) (by decide) ?_
      show Steps p.tables e below (T10.setTop (mkF m 95 #[.val (.int q1), .val (.int q2), .val (.int q3), .val (.int q4), .val (.int q5), .val (.int q6), .val (.int (Int32.ofNat i)), .val (.int (Int32.ofNat fr)), .val (.int nz), .val (.int cc), .val (.ref b2), .val (.ref b7), .unset, .unset, .unset, .unset] [(.int (2 : Int32)), (.ref b7)])) t
      refine XS.iload X10.here hx rfl (hb hby at_95) rfl ?_
      show Steps p.tables e below (T10.setTop (mkF m 97 #[.val (.int q1), .val (.int q2), .val (.int q3), .val (.int q4), .val (.int q5), .val (.int q6), .val (.int (Int32.ofNat i)), .val (.int (Int32.ofNat fr)), .val (.int nz), .val (.int cc), .val (.ref b2), .val (.ref b7), .unset, .unset, .unset, .unset] [(.int cc), (.int (2 : Int32)), (.ref b7)])) t
      refine XS.iconst X10.here hx rfl (hb hby at_97) ?_
      show Steps p.tables e below (T10.setTop (mkF m 98 #[.val (.int q1), .val (.int q2), .val (.int q3), .val (.int q4), .val (.int q5), .val (.int q6), .val (.int (Int32.ofNat i)), .val (.int (Int32.ofNat fr)), .val (.int nz), .val (.int cc), .val (.ref b2), .val (.ref b7), .unset, .unset, .unset, .unset] [(.int (1 : Int32)), (.int cc), (.int (2 : Int32)), (.ref b7)])) t
      by_cases hc98_12 : cc = (1 : Int32)
      · rw [if_pos hc98_12] at kt
        refine XS.icmpNo X10.here hx rfl (hb hby at_98) rfl (teq hc98_12).2 ?_
        show Steps p.tables e below (T10.setTop (mkF m 101 #[.val (.int q1), .val (.int q2), .val (.int q3), .val (.int q4), .val (.int q5), .val (.int q6), .val (.int (Int32.ofNat i)), .val (.int (Int32.ofNat fr)), .val (.int nz), .val (.int cc), .val (.ref b2), .val (.ref b7), .unset, .unset, .unset, .unset] [(.int (2 : Int32)), (.ref b7)])) t
        refine XS.iconst X10.here hx rfl (hb hby at_101) ?_
        show Steps p.tables e below (T10.setTop (mkF m 102 #[.val (.int q1), .val (.int q2), .val (.int q3), .val (.int q4), .val (.int q5), .val (.int q6), .val (.int (Int32.ofNat i)), .val (.int (Int32.ofNat fr)), .val (.int nz), .val (.int cc), .val (.ref b2), .val (.ref b7), .unset, .unset, .unset, .unset] [(.int (0 : Int32)), (.int (2 : Int32)), (.ref b7)])) t
        refine XS.goto X10.here hx rfl (pc0 := 102) (pc' := 106) rfl (hb hby at_102) (by decide) (by decide) ?_
        show Steps p.tables e below (T10.setTop (mkF m 106 #[.val (.int q1), .val (.int q2), .val (.int q3), .val (.int q4), .val (.int q5), .val (.int q6), .val (.int (Int32.ofNat i)), .val (.int (Int32.ofNat fr)), .val (.int nz), .val (.int cc), .val (.ref b2), .val (.ref b7), .unset, .unset, .unset, .unset] [(.int (0 : Int32)), (.int (2 : Int32)), (.ref b7)])) t
        exact kt
      · rw [if_neg hc98_12] at kt
        refine XS.icmpYes X10.here hx rfl (pc0 := 98) (pc' := 105) rfl (hb hby at_98) rfl (feq hc98_12).2 (by decide) (by decide) ?_
        show Steps p.tables e below (T10.setTop (mkF m 105 #[.val (.int q1), .val (.int q2), .val (.int q3), .val (.int q4), .val (.int q5), .val (.int q6), .val (.int (Int32.ofNat i)), .val (.int (Int32.ofNat fr)), .val (.int nz), .val (.int cc), .val (.ref b2), .val (.ref b7), .unset, .unset, .unset, .unset] [(.int (2 : Int32)), (.ref b7)])) t
        refine XS.iconst X10.here hx rfl (hb hby at_105) ?_
        show Steps p.tables e below (T10.setTop (mkF m 106 #[.val (.int q1), .val (.int q2), .val (.int q3), .val (.int q4), .val (.int q5), .val (.int q6), .val (.int (Int32.ofNat i)), .val (.int (Int32.ofNat fr)), .val (.int nz), .val (.int cc), .val (.ref b2), .val (.ref b7), .unset, .unset, .unset, .unset] [(.int (2 : Int32)), (.int (2 : Int32)), (.ref b7)])) t
        exact kt
  obtain ⟨T13, h13, X13, e13, W13, O13', st13⟩ := OA.stI X10 hx hZ e10 O10 (j := (2 : Int32)) (x := (if cc = (0 : Int32) then (-1 : Int32) else (if cc = (1 : Int32) then (0 : Int32) else (2 : Int32)))) (k := 2) (by decide) (by decide) (by decide) (g := (mkF m 106 #[.val (.int q1), .val (.int q2), .val (.int q3), .val (.int q4), .val (.int q5), .val (.int q6), .val (.int (Int32.ofNat i)), .val (.int (Int32.ofNat fr)), .val (.int nz), .val (.int cc), .val (.ref b2), .val (.ref b7), .unset, .unset, .unset, .unset] [(.int (if cc = (0 : Int32) then (-1 : Int32) else (if cc = (1 : Int32) then (0 : Int32) else (2 : Int32)))), (.int (2 : Int32)), (.ref b7)])) rfl rfl (hb hby at_106)
  obtain ⟨fa13, hf13⟩ : ∃ z, z = oset fa10 2 (if cc = (0 : Int32) then (-1 : Int32) else (if cc = (1 : Int32) then (0 : Int32) else (2 : Int32))) := ⟨_, rfl⟩
  have O13 := O13'
  rw [← hf13] at O13
  have N13 := Fr.snoc X13 N10 gb7
  have Z13 : n0 ≤ h13.size := Nat.le_trans Z10 (Keep.of_wr W13).1
  obtain ⟨lo13, X13, N13⟩ : ∃ L, Stand p l e room_1 s m #[(.int q1), (.int q2), (.int q3), (.int q4), (.int q5), (.int q6)] below meth c T13 L 2 7 ∧ Fr n0 L := ⟨_, X13, N13⟩
  refine OGo.st (fun t k => st13 t k) ?_
  show OGo p e below _ (T13.setTop (mkF m 107 #[.val (.int q1), .val (.int q2), .val (.int q3), .val (.int q4), .val (.int q5), .val (.int q6), .val (.int (Int32.ofNat i)), .val (.int (Int32.ofNat fr)), .val (.int nz), .val (.int cc), .val (.ref b2), .val (.ref b7), .unset, .unset, .unset, .unset] []))
  obtain ⟨T14, h14, X14, e14, E14, A14, D14, -, st14⟩ := newO X13 hx hZ hown (hw _ (List.mem_of_getElem? (i := 1) rfl)) (hw _ (List.mem_of_getElem? (i := 2) rfl)) (hw _ (List.mem_of_getElem? (i := 3) rfl)) e13 (g := (mkF m 107 #[.val (.int q1), .val (.int q2), .val (.int q3), .val (.int q4), .val (.int q5), .val (.int q6), .val (.int (Int32.ofNat i)), .val (.int (Int32.ofNat fr)), .val (.int nz), .val (.int cc), .val (.ref b2), .val (.ref b7), .unset, .unset, .unset, .unset] [])) rfl (hb hby at_107) (by decide) (by decide)
  obtain ⟨b14, g14⟩ : ∃ z, z = h13.size := ⟨_, rfl⟩
  rw [← g14] at A14 D14 st14
  have gb14 : n0 ≤ b14 := Nat.le_trans Z13 (Nat.le_of_eq g14.symm)
  have Z14 : n0 ≤ h14.size := Nat.le_trans Z13 E14.1
  have c15 := ((((O6.ext E7).other W8 ne_b2_b7).other W10 ne_b2_b7).other W13 ne_b2_b7)
  have ne_b2_b14 : b2 ≠ b14 := Nat.ne_of_lt (Nat.lt_of_lt_of_le c15.lt (Nat.le_of_eq g14.symm))
  have ne_b7_b14 : b7 ≠ b14 := Nat.ne_of_lt (Nat.lt_of_lt_of_le O13.lt (Nat.le_of_eq g14.symm))
  have F14_text : Fld Z h14 b14 "com/example/triadne/triadne/CaptureKeys" "text" "[C" .null := D14 (Or.inr (hw _ (List.mem_of_getElem? (i := 12) rfl))) (ty := (.array .char)) (by decide)
  have F14_groups : Fld Z h14 b14 "com/example/triadne/triadne/CaptureKeys" "groups" "[I" .null := D14 (Or.inr (hw _ (List.mem_of_getElem? (i := 14) rfl))) (ty := (.array .int)) (by decide)
  have F14_innermostOpen : Fld Z h14 b14 "com/example/triadne/triadne/CaptureKeys" "innermostOpen" "[I" .null := D14 (Or.inr (hw _ (List.mem_of_getElem? (i := 16) rfl))) (ty := (.array .int)) (by decide)
  have F14_openAround : Fld Z h14 b14 "com/example/triadne/triadne/CaptureKeys" "openAround" "[I" .null := D14 (Or.inr (hw _ (List.mem_of_getElem? (i := 18) rfl))) (ty := (.array .int)) (by decide)
  have F14_prefixes : Fld Z h14 b14 "com/example/triadne/triadne/CaptureKeys" "prefixes" "[I" .null := D14 (Or.inr (hw _ (List.mem_of_getElem? (i := 20) rfl))) (ty := (.array .int)) (by decide)
  have F14_powers : Fld Z h14 b14 "com/example/triadne/triadne/CaptureKeys" "powers" "[I" .null := D14 (Or.inr (hw _ (List.mem_of_getElem? (i := 22) rfl))) (ty := (.array .int)) (by decide)
  obtain ⟨lo14, X14, N14⟩ : ∃ L, Stand p l e room_1 s m #[(.int q1), (.int q2), (.int q3), (.int q4), (.int q5), (.int q6)] below meth c T14 L 3 13 ∧ Fr n0 L := ⟨_, X14, N13⟩
  refine OGo.st (fun t k => st14 t k) ?_
  show OGo p e below _ (T14.setTop (mkF m 110 #[.val (.int q1), .val (.int q2), .val (.int q3), .val (.int q4), .val (.int q5), .val (.int q6), .val (.int (Int32.ofNat i)), .val (.int (Int32.ofNat fr)), .val (.int nz), .val (.int cc), .val (.ref b2), .val (.ref b7), .unset, .unset, .unset, .unset] [(.ref b14)]))
  refine OGo.st (fun t k => XS.dup X14.here hx rfl (hb hby at_110) rfl rfl k) ?_
  show OGo p e below _ (T14.setTop (mkF m 111 #[.val (.int q1), .val (.int q2), .val (.int q3), .val (.int q4), .val (.int q5), .val (.int q6), .val (.int (Int32.ofNat i)), .val (.int (Int32.ofNat fr)), .val (.int nz), .val (.int cc), .val (.ref b2), .val (.ref b7), .unset, .unset, .unset, .unset] [(.ref b14), (.ref b14)]))
  refine OGo.st (fun t k => XS.iconst X14.here hx rfl (hb hby at_111) k) ?_
  show OGo p e below _ (T14.setTop (mkF m 112 #[.val (.int q1), .val (.int q2), .val (.int q3), .val (.int q4), .val (.int q5), .val (.int q6), .val (.int (Int32.ofNat i)), .val (.int (Int32.ofNat fr)), .val (.int nz), .val (.int cc), .val (.ref b2), .val (.ref b7), .unset, .unset, .unset, .unset] [(.int (0 : Int32)), (.ref b14), (.ref b14)]))
  obtain ⟨T16, h16, k16, X16, e16, E16, A16, st16⟩ := newP X14 hx hZ (hw _ (List.mem_of_getElem? (i := 4) rfl)) e14 (g := (mkF m 112 #[.val (.int q1), .val (.int q2), .val (.int q3), .val (.int q4), .val (.int q5), .val (.int q6), .val (.int (Int32.ofNat i)), .val (.int (Int32.ofNat fr)), .val (.int nz), .val (.int cc), .val (.ref b2), .val (.ref b7), .unset, .unset, .unset, .unset] [(.int (0 : Int32)), (.ref b14), (.ref b14)])) rfl (hb hby at_112) rfl (by decide) (cap := 0) (by decide) (by decide) (by decide) (by decide)
  obtain ⟨b16, g16⟩ : ∃ z, z = h14.size := ⟨_, rfl⟩
  rw [← g16] at A16 st16
  have O16 : OA Z h16 b16 .char 0 (fun _ => 0) := OA.new A16 (by decide) rfl
  have gb16 : n0 ≤ b16 := Nat.le_trans Z14 (Nat.le_of_eq g16.symm)
  have Z16 : n0 ≤ h16.size := Nat.le_trans Z14 E16.1
  have c17 := (c15.ext E14)
  have ne_b2_b16 : b2 ≠ b16 := Nat.ne_of_lt (Nat.lt_of_lt_of_le c17.lt (Nat.le_of_eq g16.symm))
  have c18 := (O13.ext E14)
  have ne_b7_b16 : b7 ≠ b16 := Nat.ne_of_lt (Nat.lt_of_lt_of_le c18.lt (Nat.le_of_eq g16.symm))
  have ne_b14_b16 : b14 ≠ b16 := Nat.ne_of_lt (Nat.lt_of_lt_of_le A14.lt (Nat.le_of_eq g16.symm))
  obtain ⟨lo16, X16, N16⟩ : ∃ L, Stand p l e room_1 s m #[(.int q1), (.int q2), (.int q3), (.int q4), (.int q5), (.int q6)] below meth c T16 L 4 13 ∧ Fr n0 L := ⟨_, X16, N14⟩
  refine OGo.st (fun t k => st16 t k) ?_
  show OGo p e below _ (T16.setTop (mkF m 114 #[.val (.int q1), .val (.int q2), .val (.int q3), .val (.int q4), .val (.int q5), .val (.int q6), .val (.int (Int32.ofNat i)), .val (.int (Int32.ofNat fr)), .val (.int nz), .val (.int cc), .val (.ref b2), .val (.ref b7), .unset, .unset, .unset, .unset] [(.ref b16), (.ref b14), (.ref b14)]))
  refine OGo.st (fun t k => XS.iconst X16.here hx rfl (hb hby at_114) k) ?_
  show OGo p e below _ (T16.setTop (mkF m 115 #[.val (.int q1), .val (.int q2), .val (.int q3), .val (.int q4), .val (.int q5), .val (.int q6), .val (.int (Int32.ofNat i)), .val (.int (Int32.ofNat fr)), .val (.int nz), .val (.int cc), .val (.ref b2), .val (.ref b7), .unset, .unset, .unset, .unset] [(.int (3 : Int32)), (.ref b16), (.ref b14), (.ref b14)]))
  obtain ⟨T19, h19, k19, X19, e19, E19, A19, st19⟩ := newP X16 hx hZ (hw _ (List.mem_of_getElem? (i := 0) rfl)) e16 (g := (mkF m 115 #[.val (.int q1), .val (.int q2), .val (.int q3), .val (.int q4), .val (.int q5), .val (.int q6), .val (.int (Int32.ofNat i)), .val (.int (Int32.ofNat fr)), .val (.int nz), .val (.int cc), .val (.ref b2), .val (.ref b7), .unset, .unset, .unset, .unset] [(.int (3 : Int32)), (.ref b16), (.ref b14), (.ref b14)])) rfl (hb hby at_115) rfl (by decide) (cap := 3) (by decide) (by decide) (by decide) (by decide)
  obtain ⟨b19, g19⟩ : ∃ z, z = h16.size := ⟨_, rfl⟩
  rw [← g19] at A19 st19
  have O19 : OA Z h19 b19 .int 3 (fun _ => 0) := OA.new A19 (by decide) rfl
  have gb19 : n0 ≤ b19 := Nat.le_trans Z16 (Nat.le_of_eq g19.symm)
  have Z19 : n0 ≤ h19.size := Nat.le_trans Z16 E19.1
  have c20 := (c17.ext E16)
  have ne_b2_b19 : b2 ≠ b19 := Nat.ne_of_lt (Nat.lt_of_lt_of_le c20.lt (Nat.le_of_eq g19.symm))
  have c21 := (c18.ext E16)
  have ne_b7_b19 : b7 ≠ b19 := Nat.ne_of_lt (Nat.lt_of_lt_of_le c21.lt (Nat.le_of_eq g19.symm))
  have c22 := (A14.ext E16)
  have ne_b14_b19 : b14 ≠ b19 := Nat.ne_of_lt (Nat.lt_of_lt_of_le c22.lt (Nat.le_of_eq g19.symm))
  have ne_b16_b19 : b16 ≠ b19 := Nat.ne_of_lt (Nat.lt_of_lt_of_le O16.lt (Nat.le_of_eq g19.symm))
  obtain ⟨lo19, X19, N19⟩ : ∃ L, Stand p l e room_1 s m #[(.int q1), (.int q2), (.int q3), (.int q4), (.int q5), (.int q6)] below meth c T19 L 5 16 ∧ Fr n0 L := ⟨_, X19, N16⟩
  refine OGo.st (fun t k => st19 t k) ?_
  show OGo p e below _ (T19.setTop (mkF m 117 #[.val (.int q1), .val (.int q2), .val (.int q3), .val (.int q4), .val (.int q5), .val (.int q6), .val (.int (Int32.ofNat i)), .val (.int (Int32.ofNat fr)), .val (.int nz), .val (.int cc), .val (.ref b2), .val (.ref b7), .unset, .unset, .unset, .unset] [(.ref b19), (.ref b16), (.ref b14), (.ref b14)]))
  refine OGo.st (fun t k => XS.dup X19.here hx rfl (hb hby at_117) rfl rfl k) ?_
  show OGo p e below _ (T19.setTop (mkF m 118 #[.val (.int q1), .val (.int q2), .val (.int q3), .val (.int q4), .val (.int q5), .val (.int q6), .val (.int (Int32.ofNat i)), .val (.int (Int32.ofNat fr)), .val (.int nz), .val (.int cc), .val (.ref b2), .val (.ref b7), .unset, .unset, .unset, .unset] [(.ref b19), (.ref b19), (.ref b16), (.ref b14), (.ref b14)]))
  refine OGo.st (fun t k => XS.iconst X19.here hx rfl (hb hby at_118) k) ?_
  show OGo p e below _ (T19.setTop (mkF m 119 #[.val (.int q1), .val (.int q2), .val (.int q3), .val (.int q4), .val (.int q5), .val (.int q6), .val (.int (Int32.ofNat i)), .val (.int (Int32.ofNat fr)), .val (.int nz), .val (.int cc), .val (.ref b2), .val (.ref b7), .unset, .unset, .unset, .unset] [(.int (0 : Int32)), (.ref b19), (.ref b19), (.ref b16), (.ref b14), (.ref b14)]))
  refine OGo.st (fun t k => XS.iconst X19.here hx rfl (hb hby at_119) k) ?_
  show OGo p e below _ (T19.setTop (mkF m 120 #[.val (.int q1), .val (.int q2), .val (.int q3), .val (.int q4), .val (.int q5), .val (.int q6), .val (.int (Int32.ofNat i)), .val (.int (Int32.ofNat fr)), .val (.int nz), .val (.int cc), .val (.ref b2), .val (.ref b7), .unset, .unset, .unset, .unset] [(.int (0 : Int32)), (.int (0 : Int32)), (.ref b19), (.ref b19), (.ref b16), (.ref b14), (.ref b14)]))
  obtain ⟨T23, h23, X23, e23, W23, O23', st23⟩ := OA.stI X19 hx hZ e19 O19 (j := (0 : Int32)) (x := (0 : Int32)) (k := 0) (by decide) (by decide) (by decide) (g := (mkF m 120 #[.val (.int q1), .val (.int q2), .val (.int q3), .val (.int q4), .val (.int q5), .val (.int q6), .val (.int (Int32.ofNat i)), .val (.int (Int32.ofNat fr)), .val (.int nz), .val (.int cc), .val (.ref b2), .val (.ref b7), .unset, .unset, .unset, .unset] [(.int (0 : Int32)), (.int (0 : Int32)), (.ref b19), (.ref b19), (.ref b16), (.ref b14), (.ref b14)])) rfl rfl (hb hby at_120)
  obtain ⟨fa23, hf23⟩ : ∃ z, z = oset (fun _ => 0) 0 (0 : Int32) := ⟨_, rfl⟩
  have O23 := O23'
  rw [← hf23] at O23
  have N23 := Fr.snoc X23 N19 gb19
  have Z23 : n0 ≤ h23.size := Nat.le_trans Z19 (Keep.of_wr W23).1
  obtain ⟨lo23, X23, N23⟩ : ∃ L, Stand p l e room_1 s m #[(.int q1), (.int q2), (.int q3), (.int q4), (.int q5), (.int q6)] below meth c T23 L 5 16 ∧ Fr n0 L := ⟨_, X23, N23⟩
  refine OGo.st (fun t k => st23 t k) ?_
  show OGo p e below _ (T23.setTop (mkF m 121 #[.val (.int q1), .val (.int q2), .val (.int q3), .val (.int q4), .val (.int q5), .val (.int q6), .val (.int (Int32.ofNat i)), .val (.int (Int32.ofNat fr)), .val (.int nz), .val (.int cc), .val (.ref b2), .val (.ref b7), .unset, .unset, .unset, .unset] [(.ref b19), (.ref b16), (.ref b14), (.ref b14)]))
  refine OGo.st (fun t k => XS.dup X23.here hx rfl (hb hby at_121) rfl rfl k) ?_
  show OGo p e below _ (T23.setTop (mkF m 122 #[.val (.int q1), .val (.int q2), .val (.int q3), .val (.int q4), .val (.int q5), .val (.int q6), .val (.int (Int32.ofNat i)), .val (.int (Int32.ofNat fr)), .val (.int nz), .val (.int cc), .val (.ref b2), .val (.ref b7), .unset, .unset, .unset, .unset] [(.ref b19), (.ref b19), (.ref b16), (.ref b14), (.ref b14)]))
  refine OGo.st (fun t k => XS.iconst X23.here hx rfl (hb hby at_122) k) ?_
  show OGo p e below _ (T23.setTop (mkF m 123 #[.val (.int q1), .val (.int q2), .val (.int q3), .val (.int q4), .val (.int q5), .val (.int q6), .val (.int (Int32.ofNat i)), .val (.int (Int32.ofNat fr)), .val (.int nz), .val (.int cc), .val (.ref b2), .val (.ref b7), .unset, .unset, .unset, .unset] [(.int (1 : Int32)), (.ref b19), (.ref b19), (.ref b16), (.ref b14), (.ref b14)]))
  refine OGo.st (fun t k => XS.iconst X23.here hx rfl (hb hby at_123) k) ?_
  show OGo p e below _ (T23.setTop (mkF m 124 #[.val (.int q1), .val (.int q2), .val (.int q3), .val (.int q4), .val (.int q5), .val (.int q6), .val (.int (Int32.ofNat i)), .val (.int (Int32.ofNat fr)), .val (.int nz), .val (.int cc), .val (.ref b2), .val (.ref b7), .unset, .unset, .unset, .unset] [(.int (2 : Int32)), (.int (1 : Int32)), (.ref b19), (.ref b19), (.ref b16), (.ref b14), (.ref b14)]))
  obtain ⟨T24, h24, X24, e24, W24, O24', st24⟩ := OA.stI X23 hx hZ e23 O23 (j := (1 : Int32)) (x := (2 : Int32)) (k := 1) (by decide) (by decide) (by decide) (g := (mkF m 124 #[.val (.int q1), .val (.int q2), .val (.int q3), .val (.int q4), .val (.int q5), .val (.int q6), .val (.int (Int32.ofNat i)), .val (.int (Int32.ofNat fr)), .val (.int nz), .val (.int cc), .val (.ref b2), .val (.ref b7), .unset, .unset, .unset, .unset] [(.int (2 : Int32)), (.int (1 : Int32)), (.ref b19), (.ref b19), (.ref b16), (.ref b14), (.ref b14)])) rfl rfl (hb hby at_124)
  obtain ⟨fa24, hf24⟩ : ∃ z, z = oset fa23 1 (2 : Int32) := ⟨_, rfl⟩
  have O24 := O24'
  rw [← hf24] at O24
  have N24 := Fr.snoc X24 N23 gb19
  have Z24 : n0 ≤ h24.size := Nat.le_trans Z23 (Keep.of_wr W24).1
  obtain ⟨lo24, X24, N24⟩ : ∃ L, Stand p l e room_1 s m #[(.int q1), (.int q2), (.int q3), (.int q4), (.int q5), (.int q6)] below meth c T24 L 5 16 ∧ Fr n0 L := ⟨_, X24, N24⟩
  refine OGo.st (fun t k => st24 t k) ?_
  show OGo p e below _ (T24.setTop (mkF m 125 #[.val (.int q1), .val (.int q2), .val (.int q3), .val (.int q4), .val (.int q5), .val (.int q6), .val (.int (Int32.ofNat i)), .val (.int (Int32.ofNat fr)), .val (.int nz), .val (.int cc), .val (.ref b2), .val (.ref b7), .unset, .unset, .unset, .unset] [(.ref b19), (.ref b16), (.ref b14), (.ref b14)]))
  refine OGo.st (fun t k => XS.dup X24.here hx rfl (hb hby at_125) rfl rfl k) ?_
  show OGo p e below _ (T24.setTop (mkF m 126 #[.val (.int q1), .val (.int q2), .val (.int q3), .val (.int q4), .val (.int q5), .val (.int q6), .val (.int (Int32.ofNat i)), .val (.int (Int32.ofNat fr)), .val (.int nz), .val (.int cc), .val (.ref b2), .val (.ref b7), .unset, .unset, .unset, .unset] [(.ref b19), (.ref b19), (.ref b16), (.ref b14), (.ref b14)]))
  refine OGo.st (fun t k => XS.iconst X24.here hx rfl (hb hby at_126) k) ?_
  show OGo p e below _ (T24.setTop (mkF m 127 #[.val (.int q1), .val (.int q2), .val (.int q3), .val (.int q4), .val (.int q5), .val (.int q6), .val (.int (Int32.ofNat i)), .val (.int (Int32.ofNat fr)), .val (.int nz), .val (.int cc), .val (.ref b2), .val (.ref b7), .unset, .unset, .unset, .unset] [(.int (2 : Int32)), (.ref b19), (.ref b19), (.ref b16), (.ref b14), (.ref b14)]))
  refine OGo.st (fun t k => XS.iconst X24.here hx rfl (hb hby at_127) k) ?_
  show OGo p e below _ (T24.setTop (mkF m 128 #[.val (.int q1), .val (.int q2), .val (.int q3), .val (.int q4), .val (.int q5), .val (.int q6), .val (.int (Int32.ofNat i)), .val (.int (Int32.ofNat fr)), .val (.int nz), .val (.int cc), .val (.ref b2), .val (.ref b7), .unset, .unset, .unset, .unset] [(.int (4 : Int32)), (.int (2 : Int32)), (.ref b19), (.ref b19), (.ref b16), (.ref b14), (.ref b14)]))
  obtain ⟨T25, h25, X25, e25, W25, O25', st25⟩ := OA.stI X24 hx hZ e24 O24 (j := (2 : Int32)) (x := (4 : Int32)) (k := 2) (by decide) (by decide) (by decide) (g := (mkF m 128 #[.val (.int q1), .val (.int q2), .val (.int q3), .val (.int q4), .val (.int q5), .val (.int q6), .val (.int (Int32.ofNat i)), .val (.int (Int32.ofNat fr)), .val (.int nz), .val (.int cc), .val (.ref b2), .val (.ref b7), .unset, .unset, .unset, .unset] [(.int (4 : Int32)), (.int (2 : Int32)), (.ref b19), (.ref b19), (.ref b16), (.ref b14), (.ref b14)])) rfl rfl (hb hby at_128)
  obtain ⟨fa25, hf25⟩ : ∃ z, z = oset fa24 2 (4 : Int32) := ⟨_, rfl⟩
  have O25 := O25'
  rw [← hf25] at O25
  have N25 := Fr.snoc X25 N24 gb19
  have Z25 : n0 ≤ h25.size := Nat.le_trans Z24 (Keep.of_wr W25).1
  obtain ⟨lo25, X25, N25⟩ : ∃ L, Stand p l e room_1 s m #[(.int q1), (.int q2), (.int q3), (.int q4), (.int q5), (.int q6)] below meth c T25 L 5 16 ∧ Fr n0 L := ⟨_, X25, N25⟩
  refine OGo.st (fun t k => st25 t k) ?_
  show OGo p e below _ (T25.setTop (mkF m 129 #[.val (.int q1), .val (.int q2), .val (.int q3), .val (.int q4), .val (.int q5), .val (.int q6), .val (.int (Int32.ofNat i)), .val (.int (Int32.ofNat fr)), .val (.int nz), .val (.int cc), .val (.ref b2), .val (.ref b7), .unset, .unset, .unset, .unset] [(.ref b19), (.ref b16), (.ref b14), (.ref b14)]))
  refine OGo.st (fun t k => XS.aload X25.here hx rfl (hb hby at_129) rfl rfl k) ?_
  show OGo p e below _ (T25.setTop (mkF m 131 #[.val (.int q1), .val (.int q2), .val (.int q3), .val (.int q4), .val (.int q5), .val (.int q6), .val (.int (Int32.ofNat i)), .val (.int (Int32.ofNat fr)), .val (.int nz), .val (.int cc), .val (.ref b2), .val (.ref b7), .unset, .unset, .unset, .unset] [(.ref b2), (.ref b19), (.ref b16), (.ref b14), (.ref b14)]))
  refine OGo.st (fun t k => XS.aload X25.here hx rfl (hb hby at_131) rfl rfl k) ?_
  show OGo p e below _ (T25.setTop (mkF m 133 #[.val (.int q1), .val (.int q2), .val (.int q3), .val (.int q4), .val (.int q5), .val (.int q6), .val (.int (Int32.ofNat i)), .val (.int (Int32.ofNat fr)), .val (.int nz), .val (.int cc), .val (.ref b2), .val (.ref b7), .unset, .unset, .unset, .unset] [(.ref b7), (.ref b2), (.ref b19), (.ref b16), (.ref b14), (.ref b14)]))
  have c27 := ((((c22.ext E19).wr W23).wr W24).wr W25)
  have c28 := (((((F14_text.ext E16).ext E19).other W23 (Or.inl ne_b14_b19)).other W24 (Or.inl ne_b14_b19)).other W25 (Or.inl ne_b14_b19))
  have c29 := (((((F14_groups.ext E16).ext E19).other W23 (Or.inl ne_b14_b19)).other W24 (Or.inl ne_b14_b19)).other W25 (Or.inl ne_b14_b19))
  have c30 := (((((F14_innermostOpen.ext E16).ext E19).other W23 (Or.inl ne_b14_b19)).other W24 (Or.inl ne_b14_b19)).other W25 (Or.inl ne_b14_b19))
  have c31 := (((((F14_openAround.ext E16).ext E19).other W23 (Or.inl ne_b14_b19)).other W24 (Or.inl ne_b14_b19)).other W25 (Or.inl ne_b14_b19))
  have c32 := (((((F14_prefixes.ext E16).ext E19).other W23 (Or.inl ne_b14_b19)).other W24 (Or.inl ne_b14_b19)).other W25 (Or.inl ne_b14_b19))
  have c33 := (((((F14_powers.ext E16).ext E19).other W23 (Or.inl ne_b14_b19)).other W24 (Or.inl ne_b14_b19)).other W25 (Or.inl ne_b14_b19))
  have c34 := ((((O16.ext E19).other W23 ne_b16_b19).other W24 ne_b16_b19).other W25 ne_b16_b19)
  obtain ⟨_, _, ⟨T26, L26, k26, n26⟩, -, X26, ⟨Lc26, hQ26, l26, y26, z26⟩, st26⟩ := X25.specialBack hx (y := (⟨"com/example/triadne/triadne/CaptureKeys", "<init>", "([C[I[I[I)V"⟩ : MethodName)) rfl hown (mvT hZ (hw _ (List.mem_of_getElem? (i := 5) rfl))) (mvT hZ (hw _ (List.mem_of_getElem? (i := 6) rfl))) (mvT hZ (hw _ (List.mem_of_getElem? (i := 7) rfl))) (by decide) (backOf (W := 1) (rm1 l Z a0 hw [] b14 b16 b19 b2 b7 (fun _ => 0) h25 n0 Z25 c27 c28 c29 c30 c31 c32 c33 c34 ne_b14_b16 gb14) hZ (hw _ (List.mem_of_getElem? (i := 7) rfl)) (hw _ (List.mem_of_getElem? (i := 3) rfl)) (by decide) (by decide)) (g := (mkF m 133 #[.val (.int q1), .val (.int q2), .val (.int q3), .val (.int q4), .val (.int q5), .val (.int q6), .val (.int (Int32.ofNat i)), .val (.int (Int32.ofNat fr)), .val (.int nz), .val (.int cc), .val (.ref b2), .val (.ref b7), .unset, .unset, .unset, .unset] [(.ref b7), (.ref b2), (.ref b19), (.ref b16), (.ref b14), (.ref b14)])) rfl (by rw [hml]; rfl) (Steps.refl _) (a := b14) (argsL := [(.ref b16), (.ref b19), (.ref b2), (.ref b7)]) (rest := [(.ref b14)]) (lenOf pd0_0 rfl) rfl (by show 2 * 0 + _ ≤ _; exact Nat.le_of_eq rfl) (hb hby at_133) (fun _ _ => ⟨rfl, e25, (by decide : 5 + 2 ≤ _), (by decide : 16 + 2 ≤ _)⟩)
  dsimp only [Pt.U, Pt.locs, Pt.cells, Pt.slots] at X26 l26 y26 z26 st26 hQ26
  subst l26 y26 z26
  obtain ⟨rfl, Nq26, Kq26, Eq26, Fa26, Fb26⟩ := hQ26
  have N26 := Fr.app N25 Nq26
  have Z26 : n0 ≤ T26.heap.size := Nat.le_trans Z25 Kq26.1
  obtain ⟨lo26, X26, N26⟩ : ∃ L, Stand p l e room_1 s m #[(.int q1), (.int q2), (.int q3), (.int q4), (.int q5), (.int q6)] below meth c T26 L 7 18 ∧ Fr n0 L := ⟨_, X26, N26⟩
  refine OGo.st (fun t k => st26.trans k) ?_
  show OGo p e below _ (T26.setTop (mkF m 136 #[.val (.int q1), .val (.int q2), .val (.int q3), .val (.int q4), .val (.int q5), .val (.int q6), .val (.int (Int32.ofNat i)), .val (.int (Int32.ofNat fr)), .val (.int nz), .val (.int cc), .val (.ref b2), .val (.ref b7), .unset, .unset, .unset, .unset] [(.ref b14)]))
  refine OGo.st (fun t k => XS.astore X26.here hx rfl (hb hby at_136) rfl rfl (l' := #[.val (.int q1), .val (.int q2), .val (.int q3), .val (.int q4), .val (.int q5), .val (.int q6), .val (.int (Int32.ofNat i)), .val (.int (Int32.ofNat fr)), .val (.int nz), .val (.int cc), .val (.ref b2), .val (.ref b7), .val (.ref b14), .unset, .unset, .unset]) rfl k) ?_
  show OGo p e below _ (T26.setTop (mkF m 138 #[.val (.int q1), .val (.int q2), .val (.int q3), .val (.int q4), .val (.int q5), .val (.int q6), .val (.int (Int32.ofNat i)), .val (.int (Int32.ofNat fr)), .val (.int nz), .val (.int cc), .val (.ref b2), .val (.ref b7), .val (.ref b14), .unset, .unset, .unset] []))
  refine OGo.st (fun t k => XS.bipush X26.here hx rfl (hb hby at_138) k) ?_
  show OGo p e below _ (T26.setTop (mkF m 140 #[.val (.int q1), .val (.int q2), .val (.int q3), .val (.int q4), .val (.int q5), .val (.int q6), .val (.int (Int32.ofNat i)), .val (.int (Int32.ofNat fr)), .val (.int nz), .val (.int cc), .val (.ref b2), .val (.ref b7), .val (.ref b14), .unset, .unset, .unset] [(.int (10 : Int32))]))
  obtain ⟨T35, h35, k35, X35, e35, E35, A35, st35⟩ := newP X26 hx hZ (hw _ (List.mem_of_getElem? (i := 0) rfl)) rfl (g := (mkF m 140 #[.val (.int q1), .val (.int q2), .val (.int q3), .val (.int q4), .val (.int q5), .val (.int q6), .val (.int (Int32.ofNat i)), .val (.int (Int32.ofNat fr)), .val (.int nz), .val (.int cc), .val (.ref b2), .val (.ref b7), .val (.ref b14), .unset, .unset, .unset] [(.int (10 : Int32))])) rfl (hb hby at_140) rfl (by decide) (cap := 10) (by decide) (by decide) (by decide) (by decide)
  obtain ⟨b35, g35⟩ : ∃ z, z = T26.heap.size := ⟨_, rfl⟩
  rw [← g35] at A35 st35
  have O35 : OA Z h35 b35 .int 10 (fun _ => 0) := OA.new A35 (by decide) rfl
  have gb35 : n0 ≤ b35 := Nat.le_trans Z26 (Nat.le_of_eq g35.symm)
  have Z35 : n0 ≤ h35.size := Nat.le_trans Z26 E35.1
  have c36 := (((((c20.ext E19).other W23 ne_b2_b19).other W24 ne_b2_b19).other W25 ne_b2_b19).keep Kq26 (ninS ne_b2_b14 nin0))
  have ne_b2_b35 : b2 ≠ b35 := Nat.ne_of_lt (Nat.lt_of_lt_of_le c36.lt (Nat.le_of_eq g35.symm))
  have c37 := (((((c21.ext E19).other W23 ne_b7_b19).other W24 ne_b7_b19).other W25 ne_b7_b19).keep Kq26 (ninS ne_b7_b14 nin0))
  have ne_b7_b35 : b7 ≠ b35 := Nat.ne_of_lt (Nat.lt_of_lt_of_le c37.lt (Nat.le_of_eq g35.symm))
  have ne_b14_b35 : b14 ≠ b35 := Nat.ne_of_lt (Nat.lt_of_lt_of_le Eq26.lt (Nat.le_of_eq g35.symm))
  have c38 := (c34.keep Kq26 (ninS (Ne.symm ne_b14_b16) nin0))
  have ne_b16_b35 : b16 ≠ b35 := Nat.ne_of_lt (Nat.lt_of_lt_of_le c38.lt (Nat.le_of_eq g35.symm))
  have c39 := (O25.keep Kq26 (ninS (Ne.symm ne_b14_b19) nin0))
  have ne_b19_b35 : b19 ≠ b35 := Nat.ne_of_lt (Nat.lt_of_lt_of_le c39.lt (Nat.le_of_eq g35.symm))
  obtain ⟨lo35, X35, N35⟩ : ∃ L, Stand p l e room_1 s m #[(.int q1), (.int q2), (.int q3), (.int q4), (.int q5), (.int q6)] below meth c T35 L 8 28 ∧ Fr n0 L := ⟨_, X35, N26⟩
  refine OGo.st (fun t k => st35 t k) ?_
  show OGo p e below _ (T35.setTop (mkF m 142 #[.val (.int q1), .val (.int q2), .val (.int q3), .val (.int q4), .val (.int q5), .val (.int q6), .val (.int (Int32.ofNat i)), .val (.int (Int32.ofNat fr)), .val (.int nz), .val (.int cc), .val (.ref b2), .val (.ref b7), .val (.ref b14), .unset, .unset, .unset] [(.ref b35)]))
  refine OGo.st (fun t k => XS.astore X35.here hx rfl (hb hby at_142) rfl rfl (l' := #[.val (.int q1), .val (.int q2), .val (.int q3), .val (.int q4), .val (.int q5), .val (.int q6), .val (.int (Int32.ofNat i)), .val (.int (Int32.ofNat fr)), .val (.int nz), .val (.int cc), .val (.ref b2), .val (.ref b7), .val (.ref b14), .val (.ref b35), .unset, .unset]) rfl k) ?_
  show OGo p e below _ (T35.setTop (mkF m 144 #[.val (.int q1), .val (.int q2), .val (.int q3), .val (.int q4), .val (.int q5), .val (.int q6), .val (.int (Int32.ofNat i)), .val (.int (Int32.ofNat fr)), .val (.int nz), .val (.int cc), .val (.ref b2), .val (.ref b7), .val (.ref b14), .val (.ref b35), .unset, .unset] []))
  refine OGo.st (fun t k => XS.aload X35.here hx rfl (hb hby at_144) rfl rfl k) ?_
  show OGo p e below _ (T35.setTop (mkF m 146 #[.val (.int q1), .val (.int q2), .val (.int q3), .val (.int q4), .val (.int q5), .val (.int q6), .val (.int (Int32.ofNat i)), .val (.int (Int32.ofNat fr)), .val (.int nz), .val (.int cc), .val (.ref b2), .val (.ref b7), .val (.ref b14), .val (.ref b35), .unset, .unset] [(.ref b35)]))
  refine OGo.st (fun t k => XS.iconst X35.here hx rfl (hb hby at_146) k) ?_
  show OGo p e below _ (T35.setTop (mkF m 147 #[.val (.int q1), .val (.int q2), .val (.int q3), .val (.int q4), .val (.int q5), .val (.int q6), .val (.int (Int32.ofNat i)), .val (.int (Int32.ofNat fr)), .val (.int nz), .val (.int cc), .val (.ref b2), .val (.ref b7), .val (.ref b14), .val (.ref b35), .unset, .unset] [(.int (0 : Int32)), (.ref b35)]))
  refine OGo.st (fun t k => XS.iload X35.here hx rfl (hb hby at_147) rfl k) ?_
  show OGo p e below _ (T35.setTop (mkF m 149 #[.val (.int q1), .val (.int q2), .val (.int q3), .val (.int q4), .val (.int q5), .val (.int q6), .val (.int (Int32.ofNat i)), .val (.int (Int32.ofNat fr)), .val (.int nz), .val (.int cc), .val (.ref b2), .val (.ref b7), .val (.ref b14), .val (.ref b35), .unset, .unset] [(.int q6), (.int (0 : Int32)), (.ref b35)]))
  obtain ⟨T40, h40, X40, e40, W40, O40', st40⟩ := OA.stI X35 hx hZ e35 O35 (j := (0 : Int32)) (x := q6) (k := 0) (by decide) (by decide) (by decide) (g := (mkF m 149 #[.val (.int q1), .val (.int q2), .val (.int q3), .val (.int q4), .val (.int q5), .val (.int q6), .val (.int (Int32.ofNat i)), .val (.int (Int32.ofNat fr)), .val (.int nz), .val (.int cc), .val (.ref b2), .val (.ref b7), .val (.ref b14), .val (.ref b35), .unset, .unset] [(.int q6), (.int (0 : Int32)), (.ref b35)])) rfl rfl (hb hby at_149)
  obtain ⟨fa40, hf40⟩ : ∃ z, z = oset (fun _ => 0) 0 q6 := ⟨_, rfl⟩
  have O40 := O40'
  rw [← hf40] at O40
  have N40 := Fr.snoc X40 N35 gb35
  have Z40 : n0 ≤ h40.size := Nat.le_trans Z35 (Keep.of_wr W40).1
  obtain ⟨lo40, X40, N40⟩ : ∃ L, Stand p l e room_1 s m #[(.int q1), (.int q2), (.int q3), (.int q4), (.int q5), (.int q6)] below meth c T40 L 8 28 ∧ Fr n0 L := ⟨_, X40, N40⟩
  refine OGo.st (fun t k => st40 t k) ?_
  show OGo p e below _ (T40.setTop (mkF m 150 #[.val (.int q1), .val (.int q2), .val (.int q3), .val (.int q4), .val (.int q5), .val (.int q6), .val (.int (Int32.ofNat i)), .val (.int (Int32.ofNat fr)), .val (.int nz), .val (.int cc), .val (.ref b2), .val (.ref b7), .val (.ref b14), .val (.ref b35), .unset, .unset] []))
  refine OGo.st (fun t k => XS.aload X40.here hx rfl (hb hby at_150) rfl rfl k) ?_
  show OGo p e below _ (T40.setTop (mkF m 152 #[.val (.int q1), .val (.int q2), .val (.int q3), .val (.int q4), .val (.int q5), .val (.int q6), .val (.int (Int32.ofNat i)), .val (.int (Int32.ofNat fr)), .val (.int nz), .val (.int cc), .val (.ref b2), .val (.ref b7), .val (.ref b14), .val (.ref b35), .unset, .unset] [(.ref b35)]))
  refine OGo.st (fun t k => XS.iconst X40.here hx rfl (hb hby at_152) k) ?_
  show OGo p e below _ (T40.setTop (mkF m 153 #[.val (.int q1), .val (.int q2), .val (.int q3), .val (.int q4), .val (.int q5), .val (.int q6), .val (.int (Int32.ofNat i)), .val (.int (Int32.ofNat fr)), .val (.int nz), .val (.int cc), .val (.ref b2), .val (.ref b7), .val (.ref b14), .val (.ref b35), .unset, .unset] [(.int (1 : Int32)), (.ref b35)]))
  refine OGo.st (fun t k => XS.iload X40.here hx rfl (hb hby at_153) rfl k) ?_
  show OGo p e below _ (T40.setTop (mkF m 155 #[.val (.int q1), .val (.int q2), .val (.int q3), .val (.int q4), .val (.int q5), .val (.int q6), .val (.int (Int32.ofNat i)), .val (.int (Int32.ofNat fr)), .val (.int nz), .val (.int cc), .val (.ref b2), .val (.ref b7), .val (.ref b14), .val (.ref b35), .unset, .unset] [(.int q6), (.int (1 : Int32)), (.ref b35)]))
  refine OGo.st (fun t k => XS.iconst X40.here hx rfl (hb hby at_155) k) ?_
  show OGo p e below _ (T40.setTop (mkF m 156 #[.val (.int q1), .val (.int q2), .val (.int q3), .val (.int q4), .val (.int q5), .val (.int q6), .val (.int (Int32.ofNat i)), .val (.int (Int32.ofNat fr)), .val (.int nz), .val (.int cc), .val (.ref b2), .val (.ref b7), .val (.ref b14), .val (.ref b35), .unset, .unset] [(.int (1 : Int32)), (.int q6), (.int (1 : Int32)), (.ref b35)]))
  refine OGo.st (fun t k => XS.iadd X40.here hx rfl (hb hby at_156) rfl k) ?_
  show OGo p e below _ (T40.setTop (mkF m 157 #[.val (.int q1), .val (.int q2), .val (.int q3), .val (.int q4), .val (.int q5), .val (.int q6), .val (.int (Int32.ofNat i)), .val (.int (Int32.ofNat fr)), .val (.int nz), .val (.int cc), .val (.ref b2), .val (.ref b7), .val (.ref b14), .val (.ref b35), .unset, .unset] [(.int (q6 + (1 : Int32))), (.int (1 : Int32)), (.ref b35)]))
  obtain ⟨T41, h41, X41, e41, W41, O41', st41⟩ := OA.stI X40 hx hZ e40 O40 (j := (1 : Int32)) (x := (q6 + (1 : Int32))) (k := 1) (by decide) (by decide) (by decide) (g := (mkF m 157 #[.val (.int q1), .val (.int q2), .val (.int q3), .val (.int q4), .val (.int q5), .val (.int q6), .val (.int (Int32.ofNat i)), .val (.int (Int32.ofNat fr)), .val (.int nz), .val (.int cc), .val (.ref b2), .val (.ref b7), .val (.ref b14), .val (.ref b35), .unset, .unset] [(.int (q6 + (1 : Int32))), (.int (1 : Int32)), (.ref b35)])) rfl rfl (hb hby at_157)
  obtain ⟨fa41, hf41⟩ : ∃ z, z = oset fa40 1 (q6 + (1 : Int32)) := ⟨_, rfl⟩
  have O41 := O41'
  rw [← hf41] at O41
  have N41 := Fr.snoc X41 N40 gb35
  have Z41 : n0 ≤ h41.size := Nat.le_trans Z40 (Keep.of_wr W41).1
  obtain ⟨lo41, X41, N41⟩ : ∃ L, Stand p l e room_1 s m #[(.int q1), (.int q2), (.int q3), (.int q4), (.int q5), (.int q6)] below meth c T41 L 8 28 ∧ Fr n0 L := ⟨_, X41, N41⟩
  refine OGo.st (fun t k => st41 t k) ?_
  show OGo p e below _ (T41.setTop (mkF m 158 #[.val (.int q1), .val (.int q2), .val (.int q3), .val (.int q4), .val (.int q5), .val (.int q6), .val (.int (Int32.ofNat i)), .val (.int (Int32.ofNat fr)), .val (.int nz), .val (.int cc), .val (.ref b2), .val (.ref b7), .val (.ref b14), .val (.ref b35), .unset, .unset] []))
  refine OGo.st (fun t k => XS.aload X41.here hx rfl (hb hby at_158) rfl rfl k) ?_
  show OGo p e below _ (T41.setTop (mkF m 160 #[.val (.int q1), .val (.int q2), .val (.int q3), .val (.int q4), .val (.int q5), .val (.int q6), .val (.int (Int32.ofNat i)), .val (.int (Int32.ofNat fr)), .val (.int nz), .val (.int cc), .val (.ref b2), .val (.ref b7), .val (.ref b14), .val (.ref b35), .unset, .unset] [(.ref b35)]))
  refine OGo.st (fun t k => XS.iconst X41.here hx rfl (hb hby at_160) k) ?_
  show OGo p e below _ (T41.setTop (mkF m 161 #[.val (.int q1), .val (.int q2), .val (.int q3), .val (.int q4), .val (.int q5), .val (.int q6), .val (.int (Int32.ofNat i)), .val (.int (Int32.ofNat fr)), .val (.int nz), .val (.int cc), .val (.ref b2), .val (.ref b7), .val (.ref b14), .val (.ref b35), .unset, .unset] [(.int (2 : Int32)), (.ref b35)]))
  refine OGo.st (fun t k => XS.iload X41.here hx rfl (hb hby at_161) rfl k) ?_
  show OGo p e below _ (T41.setTop (mkF m 163 #[.val (.int q1), .val (.int q2), .val (.int q3), .val (.int q4), .val (.int q5), .val (.int q6), .val (.int (Int32.ofNat i)), .val (.int (Int32.ofNat fr)), .val (.int nz), .val (.int cc), .val (.ref b2), .val (.ref b7), .val (.ref b14), .val (.ref b35), .unset, .unset] [(.int q6), (.int (2 : Int32)), (.ref b35)]))
  refine OGo.st (fun t k => XS.iconst X41.here hx rfl (hb hby at_163) k) ?_
  show OGo p e below _ (T41.setTop (mkF m 164 #[.val (.int q1), .val (.int q2), .val (.int q3), .val (.int q4), .val (.int q5), .val (.int q6), .val (.int (Int32.ofNat i)), .val (.int (Int32.ofNat fr)), .val (.int nz), .val (.int cc), .val (.ref b2), .val (.ref b7), .val (.ref b14), .val (.ref b35), .unset, .unset] [(.int (2 : Int32)), (.int q6), (.int (2 : Int32)), (.ref b35)]))
  refine OGo.st (fun t k => XS.iadd X41.here hx rfl (hb hby at_164) rfl k) ?_
  show OGo p e below _ (T41.setTop (mkF m 165 #[.val (.int q1), .val (.int q2), .val (.int q3), .val (.int q4), .val (.int q5), .val (.int q6), .val (.int (Int32.ofNat i)), .val (.int (Int32.ofNat fr)), .val (.int nz), .val (.int cc), .val (.ref b2), .val (.ref b7), .val (.ref b14), .val (.ref b35), .unset, .unset] [(.int (q6 + (2 : Int32))), (.int (2 : Int32)), (.ref b35)]))
  obtain ⟨T42, h42, X42, e42, W42, O42', st42⟩ := OA.stI X41 hx hZ e41 O41 (j := (2 : Int32)) (x := (q6 + (2 : Int32))) (k := 2) (by decide) (by decide) (by decide) (g := (mkF m 165 #[.val (.int q1), .val (.int q2), .val (.int q3), .val (.int q4), .val (.int q5), .val (.int q6), .val (.int (Int32.ofNat i)), .val (.int (Int32.ofNat fr)), .val (.int nz), .val (.int cc), .val (.ref b2), .val (.ref b7), .val (.ref b14), .val (.ref b35), .unset, .unset] [(.int (q6 + (2 : Int32))), (.int (2 : Int32)), (.ref b35)])) rfl rfl (hb hby at_165)
  obtain ⟨fa42, hf42⟩ : ∃ z, z = oset fa41 2 (q6 + (2 : Int32)) := ⟨_, rfl⟩
  have O42 := O42'
  rw [← hf42] at O42
  have N42 := Fr.snoc X42 N41 gb35
  have Z42 : n0 ≤ h42.size := Nat.le_trans Z41 (Keep.of_wr W42).1
  obtain ⟨lo42, X42, N42⟩ : ∃ L, Stand p l e room_1 s m #[(.int q1), (.int q2), (.int q3), (.int q4), (.int q5), (.int q6)] below meth c T42 L 8 28 ∧ Fr n0 L := ⟨_, X42, N42⟩
  refine OGo.st (fun t k => st42 t k) ?_
  show OGo p e below _ (T42.setTop (mkF m 166 #[.val (.int q1), .val (.int q2), .val (.int q3), .val (.int q4), .val (.int q5), .val (.int q6), .val (.int (Int32.ofNat i)), .val (.int (Int32.ofNat fr)), .val (.int nz), .val (.int cc), .val (.ref b2), .val (.ref b7), .val (.ref b14), .val (.ref b35), .unset, .unset] []))
  refine OGo.st (fun t k => XS.aload X42.here hx rfl (hb hby at_166) rfl rfl k) ?_
  show OGo p e below _ (T42.setTop (mkF m 168 #[.val (.int q1), .val (.int q2), .val (.int q3), .val (.int q4), .val (.int q5), .val (.int q6), .val (.int (Int32.ofNat i)), .val (.int (Int32.ofNat fr)), .val (.int nz), .val (.int cc), .val (.ref b2), .val (.ref b7), .val (.ref b14), .val (.ref b35), .unset, .unset] [(.ref b35)]))
  refine OGo.st (fun t k => XS.iconst X42.here hx rfl (hb hby at_168) k) ?_
  show OGo p e below _ (T42.setTop (mkF m 169 #[.val (.int q1), .val (.int q2), .val (.int q3), .val (.int q4), .val (.int q5), .val (.int q6), .val (.int (Int32.ofNat i)), .val (.int (Int32.ofNat fr)), .val (.int nz), .val (.int cc), .val (.ref b2), .val (.ref b7), .val (.ref b14), .val (.ref b35), .unset, .unset] [(.int (3 : Int32)), (.ref b35)]))
  refine OGo.st (fun t k => XS.iload X42.here hx rfl (hb hby at_169) rfl k) ?_
  show OGo p e below _ (T42.setTop (mkF m 171 #[.val (.int q1), .val (.int q2), .val (.int q3), .val (.int q4), .val (.int q5), .val (.int q6), .val (.int (Int32.ofNat i)), .val (.int (Int32.ofNat fr)), .val (.int nz), .val (.int cc), .val (.ref b2), .val (.ref b7), .val (.ref b14), .val (.ref b35), .unset, .unset] [(.int q6), (.int (3 : Int32)), (.ref b35)]))
  refine OGo.st (fun t k => XS.iconst X42.here hx rfl (hb hby at_171) k) ?_
  show OGo p e below _ (T42.setTop (mkF m 172 #[.val (.int q1), .val (.int q2), .val (.int q3), .val (.int q4), .val (.int q5), .val (.int q6), .val (.int (Int32.ofNat i)), .val (.int (Int32.ofNat fr)), .val (.int nz), .val (.int cc), .val (.ref b2), .val (.ref b7), .val (.ref b14), .val (.ref b35), .unset, .unset] [(.int (3 : Int32)), (.int q6), (.int (3 : Int32)), (.ref b35)]))
  refine OGo.st (fun t k => XS.iadd X42.here hx rfl (hb hby at_172) rfl k) ?_
  show OGo p e below _ (T42.setTop (mkF m 173 #[.val (.int q1), .val (.int q2), .val (.int q3), .val (.int q4), .val (.int q5), .val (.int q6), .val (.int (Int32.ofNat i)), .val (.int (Int32.ofNat fr)), .val (.int nz), .val (.int cc), .val (.ref b2), .val (.ref b7), .val (.ref b14), .val (.ref b35), .unset, .unset] [(.int (q6 + (3 : Int32))), (.int (3 : Int32)), (.ref b35)]))
  obtain ⟨T43, h43, X43, e43, W43, O43', st43⟩ := OA.stI X42 hx hZ e42 O42 (j := (3 : Int32)) (x := (q6 + (3 : Int32))) (k := 3) (by decide) (by decide) (by decide) (g := (mkF m 173 #[.val (.int q1), .val (.int q2), .val (.int q3), .val (.int q4), .val (.int q5), .val (.int q6), .val (.int (Int32.ofNat i)), .val (.int (Int32.ofNat fr)), .val (.int nz), .val (.int cc), .val (.ref b2), .val (.ref b7), .val (.ref b14), .val (.ref b35), .unset, .unset] [(.int (q6 + (3 : Int32))), (.int (3 : Int32)), (.ref b35)])) rfl rfl (hb hby at_173)
  obtain ⟨fa43, hf43⟩ : ∃ z, z = oset fa42 3 (q6 + (3 : Int32)) := ⟨_, rfl⟩
  have O43 := O43'
  rw [← hf43] at O43
  have N43 := Fr.snoc X43 N42 gb35
  have Z43 : n0 ≤ h43.size := Nat.le_trans Z42 (Keep.of_wr W43).1
  obtain ⟨lo43, X43, N43⟩ : ∃ L, Stand p l e room_1 s m #[(.int q1), (.int q2), (.int q3), (.int q4), (.int q5), (.int q6)] below meth c T43 L 8 28 ∧ Fr n0 L := ⟨_, X43, N43⟩
  refine OGo.st (fun t k => st43 t k) ?_
  show OGo p e below _ (T43.setTop (mkF m 174 #[.val (.int q1), .val (.int q2), .val (.int q3), .val (.int q4), .val (.int q5), .val (.int q6), .val (.int (Int32.ofNat i)), .val (.int (Int32.ofNat fr)), .val (.int nz), .val (.int cc), .val (.ref b2), .val (.ref b7), .val (.ref b14), .val (.ref b35), .unset, .unset] []))
  refine OGo.st (fun t k => XS.aload X43.here hx rfl (hb hby at_174) rfl rfl k) ?_
  show OGo p e below _ (T43.setTop (mkF m 176 #[.val (.int q1), .val (.int q2), .val (.int q3), .val (.int q4), .val (.int q5), .val (.int q6), .val (.int (Int32.ofNat i)), .val (.int (Int32.ofNat fr)), .val (.int nz), .val (.int cc), .val (.ref b2), .val (.ref b7), .val (.ref b14), .val (.ref b35), .unset, .unset] [(.ref b35)]))
  refine OGo.st (fun t k => XS.iconst X43.here hx rfl (hb hby at_176) k) ?_
  show OGo p e below _ (T43.setTop (mkF m 177 #[.val (.int q1), .val (.int q2), .val (.int q3), .val (.int q4), .val (.int q5), .val (.int q6), .val (.int (Int32.ofNat i)), .val (.int (Int32.ofNat fr)), .val (.int nz), .val (.int cc), .val (.ref b2), .val (.ref b7), .val (.ref b14), .val (.ref b35), .unset, .unset] [(.int (4 : Int32)), (.ref b35)]))
  refine OGo.st (fun t k => XS.iload X43.here hx rfl (hb hby at_177) rfl k) ?_
  show OGo p e below _ (T43.setTop (mkF m 179 #[.val (.int q1), .val (.int q2), .val (.int q3), .val (.int q4), .val (.int q5), .val (.int q6), .val (.int (Int32.ofNat i)), .val (.int (Int32.ofNat fr)), .val (.int nz), .val (.int cc), .val (.ref b2), .val (.ref b7), .val (.ref b14), .val (.ref b35), .unset, .unset] [(.int q6), (.int (4 : Int32)), (.ref b35)]))
  refine OGo.st (fun t k => XS.iconst X43.here hx rfl (hb hby at_179) k) ?_
  show OGo p e below _ (T43.setTop (mkF m 180 #[.val (.int q1), .val (.int q2), .val (.int q3), .val (.int q4), .val (.int q5), .val (.int q6), .val (.int (Int32.ofNat i)), .val (.int (Int32.ofNat fr)), .val (.int nz), .val (.int cc), .val (.ref b2), .val (.ref b7), .val (.ref b14), .val (.ref b35), .unset, .unset] [(.int (4 : Int32)), (.int q6), (.int (4 : Int32)), (.ref b35)]))
  refine OGo.st (fun t k => XS.iadd X43.here hx rfl (hb hby at_180) rfl k) ?_
  show OGo p e below _ (T43.setTop (mkF m 181 #[.val (.int q1), .val (.int q2), .val (.int q3), .val (.int q4), .val (.int q5), .val (.int q6), .val (.int (Int32.ofNat i)), .val (.int (Int32.ofNat fr)), .val (.int nz), .val (.int cc), .val (.ref b2), .val (.ref b7), .val (.ref b14), .val (.ref b35), .unset, .unset] [(.int (q6 + (4 : Int32))), (.int (4 : Int32)), (.ref b35)]))
  obtain ⟨T44, h44, X44, e44, W44, O44', st44⟩ := OA.stI X43 hx hZ e43 O43 (j := (4 : Int32)) (x := (q6 + (4 : Int32))) (k := 4) (by decide) (by decide) (by decide) (g := (mkF m 181 #[.val (.int q1), .val (.int q2), .val (.int q3), .val (.int q4), .val (.int q5), .val (.int q6), .val (.int (Int32.ofNat i)), .val (.int (Int32.ofNat fr)), .val (.int nz), .val (.int cc), .val (.ref b2), .val (.ref b7), .val (.ref b14), .val (.ref b35), .unset, .unset] [(.int (q6 + (4 : Int32))), (.int (4 : Int32)), (.ref b35)])) rfl rfl (hb hby at_181)
  obtain ⟨fa44, hf44⟩ : ∃ z, z = oset fa43 4 (q6 + (4 : Int32)) := ⟨_, rfl⟩
  have O44 := O44'
  rw [← hf44] at O44
  have N44 := Fr.snoc X44 N43 gb35
  have Z44 : n0 ≤ h44.size := Nat.le_trans Z43 (Keep.of_wr W44).1
  obtain ⟨lo44, X44, N44⟩ : ∃ L, Stand p l e room_1 s m #[(.int q1), (.int q2), (.int q3), (.int q4), (.int q5), (.int q6)] below meth c T44 L 8 28 ∧ Fr n0 L := ⟨_, X44, N44⟩
  refine OGo.st (fun t k => st44 t k) ?_
  show OGo p e below _ (T44.setTop (mkF m 182 #[.val (.int q1), .val (.int q2), .val (.int q3), .val (.int q4), .val (.int q5), .val (.int q6), .val (.int (Int32.ofNat i)), .val (.int (Int32.ofNat fr)), .val (.int nz), .val (.int cc), .val (.ref b2), .val (.ref b7), .val (.ref b14), .val (.ref b35), .unset, .unset] []))
  refine OGo.st (fun t k => XS.aload X44.here hx rfl (hb hby at_182) rfl rfl k) ?_
  show OGo p e below _ (T44.setTop (mkF m 184 #[.val (.int q1), .val (.int q2), .val (.int q3), .val (.int q4), .val (.int q5), .val (.int q6), .val (.int (Int32.ofNat i)), .val (.int (Int32.ofNat fr)), .val (.int nz), .val (.int cc), .val (.ref b2), .val (.ref b7), .val (.ref b14), .val (.ref b35), .unset, .unset] [(.ref b35)]))
  refine OGo.st (fun t k => XS.iconst X44.here hx rfl (hb hby at_184) k) ?_
  show OGo p e below _ (T44.setTop (mkF m 185 #[.val (.int q1), .val (.int q2), .val (.int q3), .val (.int q4), .val (.int q5), .val (.int q6), .val (.int (Int32.ofNat i)), .val (.int (Int32.ofNat fr)), .val (.int nz), .val (.int cc), .val (.ref b2), .val (.ref b7), .val (.ref b14), .val (.ref b35), .unset, .unset] [(.int (5 : Int32)), (.ref b35)]))
  refine OGo.st (fun t k => XS.iload X44.here hx rfl (hb hby at_185) rfl k) ?_
  show OGo p e below _ (T44.setTop (mkF m 187 #[.val (.int q1), .val (.int q2), .val (.int q3), .val (.int q4), .val (.int q5), .val (.int q6), .val (.int (Int32.ofNat i)), .val (.int (Int32.ofNat fr)), .val (.int nz), .val (.int cc), .val (.ref b2), .val (.ref b7), .val (.ref b14), .val (.ref b35), .unset, .unset] [(.int q6), (.int (5 : Int32)), (.ref b35)]))
  refine OGo.st (fun t k => XS.iconst X44.here hx rfl (hb hby at_187) k) ?_
  show OGo p e below _ (T44.setTop (mkF m 188 #[.val (.int q1), .val (.int q2), .val (.int q3), .val (.int q4), .val (.int q5), .val (.int q6), .val (.int (Int32.ofNat i)), .val (.int (Int32.ofNat fr)), .val (.int nz), .val (.int cc), .val (.ref b2), .val (.ref b7), .val (.ref b14), .val (.ref b35), .unset, .unset] [(.int (5 : Int32)), (.int q6), (.int (5 : Int32)), (.ref b35)]))
  refine OGo.st (fun t k => XS.iadd X44.here hx rfl (hb hby at_188) rfl k) ?_
  show OGo p e below _ (T44.setTop (mkF m 189 #[.val (.int q1), .val (.int q2), .val (.int q3), .val (.int q4), .val (.int q5), .val (.int q6), .val (.int (Int32.ofNat i)), .val (.int (Int32.ofNat fr)), .val (.int nz), .val (.int cc), .val (.ref b2), .val (.ref b7), .val (.ref b14), .val (.ref b35), .unset, .unset] [(.int (q6 + (5 : Int32))), (.int (5 : Int32)), (.ref b35)]))
  obtain ⟨T45, h45, X45, e45, W45, O45', st45⟩ := OA.stI X44 hx hZ e44 O44 (j := (5 : Int32)) (x := (q6 + (5 : Int32))) (k := 5) (by decide) (by decide) (by decide) (g := (mkF m 189 #[.val (.int q1), .val (.int q2), .val (.int q3), .val (.int q4), .val (.int q5), .val (.int q6), .val (.int (Int32.ofNat i)), .val (.int (Int32.ofNat fr)), .val (.int nz), .val (.int cc), .val (.ref b2), .val (.ref b7), .val (.ref b14), .val (.ref b35), .unset, .unset] [(.int (q6 + (5 : Int32))), (.int (5 : Int32)), (.ref b35)])) rfl rfl (hb hby at_189)
  obtain ⟨fa45, hf45⟩ : ∃ z, z = oset fa44 5 (q6 + (5 : Int32)) := ⟨_, rfl⟩
  have O45 := O45'
  rw [← hf45] at O45
  have N45 := Fr.snoc X45 N44 gb35
  have Z45 : n0 ≤ h45.size := Nat.le_trans Z44 (Keep.of_wr W45).1
  obtain ⟨lo45, X45, N45⟩ : ∃ L, Stand p l e room_1 s m #[(.int q1), (.int q2), (.int q3), (.int q4), (.int q5), (.int q6)] below meth c T45 L 8 28 ∧ Fr n0 L := ⟨_, X45, N45⟩
  refine OGo.st (fun t k => st45 t k) ?_
  show OGo p e below _ (T45.setTop (mkF m 190 #[.val (.int q1), .val (.int q2), .val (.int q3), .val (.int q4), .val (.int q5), .val (.int q6), .val (.int (Int32.ofNat i)), .val (.int (Int32.ofNat fr)), .val (.int nz), .val (.int cc), .val (.ref b2), .val (.ref b7), .val (.ref b14), .val (.ref b35), .unset, .unset] []))
  refine OGo.st (fun t k => XS.aload X45.here hx rfl (hb hby at_190) rfl rfl k) ?_
  show OGo p e below _ (T45.setTop (mkF m 192 #[.val (.int q1), .val (.int q2), .val (.int q3), .val (.int q4), .val (.int q5), .val (.int q6), .val (.int (Int32.ofNat i)), .val (.int (Int32.ofNat fr)), .val (.int nz), .val (.int cc), .val (.ref b2), .val (.ref b7), .val (.ref b14), .val (.ref b35), .unset, .unset] [(.ref b35)]))
  refine OGo.st (fun t k => XS.bipush X45.here hx rfl (hb hby at_192) k) ?_
  show OGo p e below _ (T45.setTop (mkF m 194 #[.val (.int q1), .val (.int q2), .val (.int q3), .val (.int q4), .val (.int q5), .val (.int q6), .val (.int (Int32.ofNat i)), .val (.int (Int32.ofNat fr)), .val (.int nz), .val (.int cc), .val (.ref b2), .val (.ref b7), .val (.ref b14), .val (.ref b35), .unset, .unset] [(.int (6 : Int32)), (.ref b35)]))
  refine OGo.st (fun t k => XS.iload X45.here hx rfl (hb hby at_194) rfl k) ?_
  show OGo p e below _ (T45.setTop (mkF m 196 #[.val (.int q1), .val (.int q2), .val (.int q3), .val (.int q4), .val (.int q5), .val (.int q6), .val (.int (Int32.ofNat i)), .val (.int (Int32.ofNat fr)), .val (.int nz), .val (.int cc), .val (.ref b2), .val (.ref b7), .val (.ref b14), .val (.ref b35), .unset, .unset] [(.int q6), (.int (6 : Int32)), (.ref b35)]))
  refine OGo.st (fun t k => XS.bipush X45.here hx rfl (hb hby at_196) k) ?_
  show OGo p e below _ (T45.setTop (mkF m 198 #[.val (.int q1), .val (.int q2), .val (.int q3), .val (.int q4), .val (.int q5), .val (.int q6), .val (.int (Int32.ofNat i)), .val (.int (Int32.ofNat fr)), .val (.int nz), .val (.int cc), .val (.ref b2), .val (.ref b7), .val (.ref b14), .val (.ref b35), .unset, .unset] [(.int (6 : Int32)), (.int q6), (.int (6 : Int32)), (.ref b35)]))
  refine OGo.st (fun t k => XS.iadd X45.here hx rfl (hb hby at_198) rfl k) ?_
  show OGo p e below _ (T45.setTop (mkF m 199 #[.val (.int q1), .val (.int q2), .val (.int q3), .val (.int q4), .val (.int q5), .val (.int q6), .val (.int (Int32.ofNat i)), .val (.int (Int32.ofNat fr)), .val (.int nz), .val (.int cc), .val (.ref b2), .val (.ref b7), .val (.ref b14), .val (.ref b35), .unset, .unset] [(.int (q6 + (6 : Int32))), (.int (6 : Int32)), (.ref b35)]))
  obtain ⟨T46, h46, X46, e46, W46, O46', st46⟩ := OA.stI X45 hx hZ e45 O45 (j := (6 : Int32)) (x := (q6 + (6 : Int32))) (k := 6) (by decide) (by decide) (by decide) (g := (mkF m 199 #[.val (.int q1), .val (.int q2), .val (.int q3), .val (.int q4), .val (.int q5), .val (.int q6), .val (.int (Int32.ofNat i)), .val (.int (Int32.ofNat fr)), .val (.int nz), .val (.int cc), .val (.ref b2), .val (.ref b7), .val (.ref b14), .val (.ref b35), .unset, .unset] [(.int (q6 + (6 : Int32))), (.int (6 : Int32)), (.ref b35)])) rfl rfl (hb hby at_199)
  obtain ⟨fa46, hf46⟩ : ∃ z, z = oset fa45 6 (q6 + (6 : Int32)) := ⟨_, rfl⟩
  have O46 := O46'
  rw [← hf46] at O46
  have N46 := Fr.snoc X46 N45 gb35
  have Z46 : n0 ≤ h46.size := Nat.le_trans Z45 (Keep.of_wr W46).1
  obtain ⟨lo46, X46, N46⟩ : ∃ L, Stand p l e room_1 s m #[(.int q1), (.int q2), (.int q3), (.int q4), (.int q5), (.int q6)] below meth c T46 L 8 28 ∧ Fr n0 L := ⟨_, X46, N46⟩
  refine OGo.st (fun t k => st46 t k) ?_
  show OGo p e below _ (T46.setTop (mkF m 200 #[.val (.int q1), .val (.int q2), .val (.int q3), .val (.int q4), .val (.int q5), .val (.int q6), .val (.int (Int32.ofNat i)), .val (.int (Int32.ofNat fr)), .val (.int nz), .val (.int cc), .val (.ref b2), .val (.ref b7), .val (.ref b14), .val (.ref b35), .unset, .unset] []))
  refine OGo.st (fun t k => XS.aload X46.here hx rfl (hb hby at_200) rfl rfl k) ?_
  show OGo p e below _ (T46.setTop (mkF m 202 #[.val (.int q1), .val (.int q2), .val (.int q3), .val (.int q4), .val (.int q5), .val (.int q6), .val (.int (Int32.ofNat i)), .val (.int (Int32.ofNat fr)), .val (.int nz), .val (.int cc), .val (.ref b2), .val (.ref b7), .val (.ref b14), .val (.ref b35), .unset, .unset] [(.ref b35)]))
  refine OGo.st (fun t k => XS.bipush X46.here hx rfl (hb hby at_202) k) ?_
  show OGo p e below _ (T46.setTop (mkF m 204 #[.val (.int q1), .val (.int q2), .val (.int q3), .val (.int q4), .val (.int q5), .val (.int q6), .val (.int (Int32.ofNat i)), .val (.int (Int32.ofNat fr)), .val (.int nz), .val (.int cc), .val (.ref b2), .val (.ref b7), .val (.ref b14), .val (.ref b35), .unset, .unset] [(.int (7 : Int32)), (.ref b35)]))
  refine OGo.st (fun t k => XS.iload X46.here hx rfl (hb hby at_204) rfl k) ?_
  show OGo p e below _ (T46.setTop (mkF m 206 #[.val (.int q1), .val (.int q2), .val (.int q3), .val (.int q4), .val (.int q5), .val (.int q6), .val (.int (Int32.ofNat i)), .val (.int (Int32.ofNat fr)), .val (.int nz), .val (.int cc), .val (.ref b2), .val (.ref b7), .val (.ref b14), .val (.ref b35), .unset, .unset] [(.int q6), (.int (7 : Int32)), (.ref b35)]))
  refine OGo.st (fun t k => XS.bipush X46.here hx rfl (hb hby at_206) k) ?_
  show OGo p e below _ (T46.setTop (mkF m 208 #[.val (.int q1), .val (.int q2), .val (.int q3), .val (.int q4), .val (.int q5), .val (.int q6), .val (.int (Int32.ofNat i)), .val (.int (Int32.ofNat fr)), .val (.int nz), .val (.int cc), .val (.ref b2), .val (.ref b7), .val (.ref b14), .val (.ref b35), .unset, .unset] [(.int (7 : Int32)), (.int q6), (.int (7 : Int32)), (.ref b35)]))
  refine OGo.st (fun t k => XS.iadd X46.here hx rfl (hb hby at_208) rfl k) ?_
  show OGo p e below _ (T46.setTop (mkF m 209 #[.val (.int q1), .val (.int q2), .val (.int q3), .val (.int q4), .val (.int q5), .val (.int q6), .val (.int (Int32.ofNat i)), .val (.int (Int32.ofNat fr)), .val (.int nz), .val (.int cc), .val (.ref b2), .val (.ref b7), .val (.ref b14), .val (.ref b35), .unset, .unset] [(.int (q6 + (7 : Int32))), (.int (7 : Int32)), (.ref b35)]))
  obtain ⟨T47, h47, X47, e47, W47, O47', st47⟩ := OA.stI X46 hx hZ e46 O46 (j := (7 : Int32)) (x := (q6 + (7 : Int32))) (k := 7) (by decide) (by decide) (by decide) (g := (mkF m 209 #[.val (.int q1), .val (.int q2), .val (.int q3), .val (.int q4), .val (.int q5), .val (.int q6), .val (.int (Int32.ofNat i)), .val (.int (Int32.ofNat fr)), .val (.int nz), .val (.int cc), .val (.ref b2), .val (.ref b7), .val (.ref b14), .val (.ref b35), .unset, .unset] [(.int (q6 + (7 : Int32))), (.int (7 : Int32)), (.ref b35)])) rfl rfl (hb hby at_209)
  obtain ⟨fa47, hf47⟩ : ∃ z, z = oset fa46 7 (q6 + (7 : Int32)) := ⟨_, rfl⟩
  have O47 := O47'
  rw [← hf47] at O47
  have N47 := Fr.snoc X47 N46 gb35
  have Z47 : n0 ≤ h47.size := Nat.le_trans Z46 (Keep.of_wr W47).1
  obtain ⟨lo47, X47, N47⟩ : ∃ L, Stand p l e room_1 s m #[(.int q1), (.int q2), (.int q3), (.int q4), (.int q5), (.int q6)] below meth c T47 L 8 28 ∧ Fr n0 L := ⟨_, X47, N47⟩
  refine OGo.st (fun t k => st47 t k) ?_
  show OGo p e below _ (T47.setTop (mkF m 210 #[.val (.int q1), .val (.int q2), .val (.int q3), .val (.int q4), .val (.int q5), .val (.int q6), .val (.int (Int32.ofNat i)), .val (.int (Int32.ofNat fr)), .val (.int nz), .val (.int cc), .val (.ref b2), .val (.ref b7), .val (.ref b14), .val (.ref b35), .unset, .unset] []))
  refine OGo.st (fun t k => XS.aload X47.here hx rfl (hb hby at_210) rfl rfl k) ?_
  show OGo p e below _ (T47.setTop (mkF m 212 #[.val (.int q1), .val (.int q2), .val (.int q3), .val (.int q4), .val (.int q5), .val (.int q6), .val (.int (Int32.ofNat i)), .val (.int (Int32.ofNat fr)), .val (.int nz), .val (.int cc), .val (.ref b2), .val (.ref b7), .val (.ref b14), .val (.ref b35), .unset, .unset] [(.ref b35)]))
  refine OGo.st (fun t k => XS.bipush X47.here hx rfl (hb hby at_212) k) ?_
  show OGo p e below _ (T47.setTop (mkF m 214 #[.val (.int q1), .val (.int q2), .val (.int q3), .val (.int q4), .val (.int q5), .val (.int q6), .val (.int (Int32.ofNat i)), .val (.int (Int32.ofNat fr)), .val (.int nz), .val (.int cc), .val (.ref b2), .val (.ref b7), .val (.ref b14), .val (.ref b35), .unset, .unset] [(.int (8 : Int32)), (.ref b35)]))
  refine OGo.st (fun t k => XS.iload X47.here hx rfl (hb hby at_214) rfl k) ?_
  show OGo p e below _ (T47.setTop (mkF m 216 #[.val (.int q1), .val (.int q2), .val (.int q3), .val (.int q4), .val (.int q5), .val (.int q6), .val (.int (Int32.ofNat i)), .val (.int (Int32.ofNat fr)), .val (.int nz), .val (.int cc), .val (.ref b2), .val (.ref b7), .val (.ref b14), .val (.ref b35), .unset, .unset] [(.int q6), (.int (8 : Int32)), (.ref b35)]))
  refine OGo.st (fun t k => XS.bipush X47.here hx rfl (hb hby at_216) k) ?_
  show OGo p e below _ (T47.setTop (mkF m 218 #[.val (.int q1), .val (.int q2), .val (.int q3), .val (.int q4), .val (.int q5), .val (.int q6), .val (.int (Int32.ofNat i)), .val (.int (Int32.ofNat fr)), .val (.int nz), .val (.int cc), .val (.ref b2), .val (.ref b7), .val (.ref b14), .val (.ref b35), .unset, .unset] [(.int (8 : Int32)), (.int q6), (.int (8 : Int32)), (.ref b35)]))
  refine OGo.st (fun t k => XS.iadd X47.here hx rfl (hb hby at_218) rfl k) ?_
  show OGo p e below _ (T47.setTop (mkF m 219 #[.val (.int q1), .val (.int q2), .val (.int q3), .val (.int q4), .val (.int q5), .val (.int q6), .val (.int (Int32.ofNat i)), .val (.int (Int32.ofNat fr)), .val (.int nz), .val (.int cc), .val (.ref b2), .val (.ref b7), .val (.ref b14), .val (.ref b35), .unset, .unset] [(.int (q6 + (8 : Int32))), (.int (8 : Int32)), (.ref b35)]))
  obtain ⟨T48, h48, X48, e48, W48, O48', st48⟩ := OA.stI X47 hx hZ e47 O47 (j := (8 : Int32)) (x := (q6 + (8 : Int32))) (k := 8) (by decide) (by decide) (by decide) (g := (mkF m 219 #[.val (.int q1), .val (.int q2), .val (.int q3), .val (.int q4), .val (.int q5), .val (.int q6), .val (.int (Int32.ofNat i)), .val (.int (Int32.ofNat fr)), .val (.int nz), .val (.int cc), .val (.ref b2), .val (.ref b7), .val (.ref b14), .val (.ref b35), .unset, .unset] [(.int (q6 + (8 : Int32))), (.int (8 : Int32)), (.ref b35)])) rfl rfl (hb hby at_219)
  obtain ⟨fa48, hf48⟩ : ∃ z, z = oset fa47 8 (q6 + (8 : Int32)) := ⟨_, rfl⟩
  have O48 := O48'
  rw [← hf48] at O48
  have N48 := Fr.snoc X48 N47 gb35
  have Z48 : n0 ≤ h48.size := Nat.le_trans Z47 (Keep.of_wr W48).1
  obtain ⟨lo48, X48, N48⟩ : ∃ L, Stand p l e room_1 s m #[(.int q1), (.int q2), (.int q3), (.int q4), (.int q5), (.int q6)] below meth c T48 L 8 28 ∧ Fr n0 L := ⟨_, X48, N48⟩
  refine OGo.st (fun t k => st48 t k) ?_
  show OGo p e below _ (T48.setTop (mkF m 220 #[.val (.int q1), .val (.int q2), .val (.int q3), .val (.int q4), .val (.int q5), .val (.int q6), .val (.int (Int32.ofNat i)), .val (.int (Int32.ofNat fr)), .val (.int nz), .val (.int cc), .val (.ref b2), .val (.ref b7), .val (.ref b14), .val (.ref b35), .unset, .unset] []))
  refine OGo.st (fun t k => XS.aload X48.here hx rfl (hb hby at_220) rfl rfl k) ?_
  show OGo p e below _ (T48.setTop (mkF m 222 #[.val (.int q1), .val (.int q2), .val (.int q3), .val (.int q4), .val (.int q5), .val (.int q6), .val (.int (Int32.ofNat i)), .val (.int (Int32.ofNat fr)), .val (.int nz), .val (.int cc), .val (.ref b2), .val (.ref b7), .val (.ref b14), .val (.ref b35), .unset, .unset] [(.ref b35)]))
  refine OGo.st (fun t k => XS.bipush X48.here hx rfl (hb hby at_222) k) ?_
  show OGo p e below _ (T48.setTop (mkF m 224 #[.val (.int q1), .val (.int q2), .val (.int q3), .val (.int q4), .val (.int q5), .val (.int q6), .val (.int (Int32.ofNat i)), .val (.int (Int32.ofNat fr)), .val (.int nz), .val (.int cc), .val (.ref b2), .val (.ref b7), .val (.ref b14), .val (.ref b35), .unset, .unset] [(.int (9 : Int32)), (.ref b35)]))
  refine OGo.st (fun t k => XS.iload X48.here hx rfl (hb hby at_224) rfl k) ?_
  show OGo p e below _ (T48.setTop (mkF m 226 #[.val (.int q1), .val (.int q2), .val (.int q3), .val (.int q4), .val (.int q5), .val (.int q6), .val (.int (Int32.ofNat i)), .val (.int (Int32.ofNat fr)), .val (.int nz), .val (.int cc), .val (.ref b2), .val (.ref b7), .val (.ref b14), .val (.ref b35), .unset, .unset] [(.int q6), (.int (9 : Int32)), (.ref b35)]))
  refine OGo.st (fun t k => XS.bipush X48.here hx rfl (hb hby at_226) k) ?_
  show OGo p e below _ (T48.setTop (mkF m 228 #[.val (.int q1), .val (.int q2), .val (.int q3), .val (.int q4), .val (.int q5), .val (.int q6), .val (.int (Int32.ofNat i)), .val (.int (Int32.ofNat fr)), .val (.int nz), .val (.int cc), .val (.ref b2), .val (.ref b7), .val (.ref b14), .val (.ref b35), .unset, .unset] [(.int (9 : Int32)), (.int q6), (.int (9 : Int32)), (.ref b35)]))
  refine OGo.st (fun t k => XS.iadd X48.here hx rfl (hb hby at_228) rfl k) ?_
  show OGo p e below _ (T48.setTop (mkF m 229 #[.val (.int q1), .val (.int q2), .val (.int q3), .val (.int q4), .val (.int q5), .val (.int q6), .val (.int (Int32.ofNat i)), .val (.int (Int32.ofNat fr)), .val (.int nz), .val (.int cc), .val (.ref b2), .val (.ref b7), .val (.ref b14), .val (.ref b35), .unset, .unset] [(.int (q6 + (9 : Int32))), (.int (9 : Int32)), (.ref b35)]))
  obtain ⟨T49, h49, X49, e49, W49, O49', st49⟩ := OA.stI X48 hx hZ e48 O48 (j := (9 : Int32)) (x := (q6 + (9 : Int32))) (k := 9) (by decide) (by decide) (by decide) (g := (mkF m 229 #[.val (.int q1), .val (.int q2), .val (.int q3), .val (.int q4), .val (.int q5), .val (.int q6), .val (.int (Int32.ofNat i)), .val (.int (Int32.ofNat fr)), .val (.int nz), .val (.int cc), .val (.ref b2), .val (.ref b7), .val (.ref b14), .val (.ref b35), .unset, .unset] [(.int (q6 + (9 : Int32))), (.int (9 : Int32)), (.ref b35)])) rfl rfl (hb hby at_229)
  obtain ⟨fa49, hf49⟩ : ∃ z, z = oset fa48 9 (q6 + (9 : Int32)) := ⟨_, rfl⟩
  have O49 := O49'
  rw [← hf49] at O49
  have N49 := Fr.snoc X49 N48 gb35
  have Z49 : n0 ≤ h49.size := Nat.le_trans Z48 (Keep.of_wr W49).1
  obtain ⟨lo49, X49, N49⟩ : ∃ L, Stand p l e room_1 s m #[(.int q1), (.int q2), (.int q3), (.int q4), (.int q5), (.int q6)] below meth c T49 L 8 28 ∧ Fr n0 L := ⟨_, X49, N49⟩
  refine OGo.st (fun t k => st49 t k) ?_
  show OGo p e below _ (T49.setTop (mkF m 230 #[.val (.int q1), .val (.int q2), .val (.int q3), .val (.int q4), .val (.int q5), .val (.int q6), .val (.int (Int32.ofNat i)), .val (.int (Int32.ofNat fr)), .val (.int nz), .val (.int cc), .val (.ref b2), .val (.ref b7), .val (.ref b14), .val (.ref b35), .unset, .unset] []))
  refine OGo.st (fun t k => XS.aload X49.here hx rfl (hb hby at_230) rfl rfl k) ?_
  show OGo p e below _ (T49.setTop (mkF m 232 #[.val (.int q1), .val (.int q2), .val (.int q3), .val (.int q4), .val (.int q5), .val (.int q6), .val (.int (Int32.ofNat i)), .val (.int (Int32.ofNat fr)), .val (.int nz), .val (.int cc), .val (.ref b2), .val (.ref b7), .val (.ref b14), .val (.ref b35), .unset, .unset] [(.ref b35)]))
  refine OGo.st (fun t k => XS.iload X49.here hx rfl (hb hby at_232) rfl k) ?_
  show OGo p e below _ (T49.setTop (mkF m 234 #[.val (.int q1), .val (.int q2), .val (.int q3), .val (.int q4), .val (.int q5), .val (.int q6), .val (.int (Int32.ofNat i)), .val (.int (Int32.ofNat fr)), .val (.int nz), .val (.int cc), .val (.ref b2), .val (.ref b7), .val (.ref b14), .val (.ref b35), .unset, .unset] [(.int (Int32.ofNat fr)), (.ref b35)]))
  refine OGo.st (fun t k => XS.iloadN X49.here hx rfl (hb hby at_234) rfl k) ?_
  show OGo p e below _ (T49.setTop (mkF m 235 #[.val (.int q1), .val (.int q2), .val (.int q3), .val (.int q4), .val (.int q5), .val (.int q6), .val (.int (Int32.ofNat i)), .val (.int (Int32.ofNat fr)), .val (.int nz), .val (.int cc), .val (.ref b2), .val (.ref b7), .val (.ref b14), .val (.ref b35), .unset, .unset] [(.int q3), (.int (Int32.ofNat fr)), (.ref b35)]))
  obtain ⟨T50, h50, X50, e50, W50, O50', st50⟩ := OA.stI X49 hx hZ e49 O49 (j := (Int32.ofNat fr)) (x := q3) (k := fr) (own_nat (show fr < 100 by omega)).1 (own_nat (show fr < 100 by omega)).2 (by omega) (g := (mkF m 235 #[.val (.int q1), .val (.int q2), .val (.int q3), .val (.int q4), .val (.int q5), .val (.int q6), .val (.int (Int32.ofNat i)), .val (.int (Int32.ofNat fr)), .val (.int nz), .val (.int cc), .val (.ref b2), .val (.ref b7), .val (.ref b14), .val (.ref b35), .unset, .unset] [(.int q3), (.int (Int32.ofNat fr)), (.ref b35)])) rfl rfl (hb hby at_235)
  obtain ⟨fa50, hf50⟩ : ∃ z, z = oset fa49 fr q3 := ⟨_, rfl⟩
  have O50 := O50'
  rw [← hf50] at O50
  have N50 := Fr.snoc X50 N49 gb35
  have Z50 : n0 ≤ h50.size := Nat.le_trans Z49 (Keep.of_wr W50).1
  obtain ⟨lo50, X50, N50⟩ : ∃ L, Stand p l e room_1 s m #[(.int q1), (.int q2), (.int q3), (.int q4), (.int q5), (.int q6)] below meth c T50 L 8 28 ∧ Fr n0 L := ⟨_, X50, N50⟩
  refine OGo.st (fun t k => st50 t k) ?_
  show OGo p e below _ (T50.setTop (mkF m 236 #[.val (.int q1), .val (.int q2), .val (.int q3), .val (.int q4), .val (.int q5), .val (.int q6), .val (.int (Int32.ofNat i)), .val (.int (Int32.ofNat fr)), .val (.int nz), .val (.int cc), .val (.ref b2), .val (.ref b7), .val (.ref b14), .val (.ref b35), .unset, .unset] []))
  refine OGo.st (fun t k => XS.aload X50.here hx rfl (hb hby at_236) rfl rfl k) ?_
  show OGo p e below _ (T50.setTop (mkF m 238 #[.val (.int q1), .val (.int q2), .val (.int q3), .val (.int q4), .val (.int q5), .val (.int q6), .val (.int (Int32.ofNat i)), .val (.int (Int32.ofNat fr)), .val (.int nz), .val (.int cc), .val (.ref b2), .val (.ref b7), .val (.ref b14), .val (.ref b35), .unset, .unset] [(.ref b35)]))
  refine OGo.st (fun t k => XS.iload X50.here hx rfl (hb hby at_238) rfl k) ?_
  show OGo p e below _ (T50.setTop (mkF m 240 #[.val (.int q1), .val (.int q2), .val (.int q3), .val (.int q4), .val (.int q5), .val (.int q6), .val (.int (Int32.ofNat i)), .val (.int (Int32.ofNat fr)), .val (.int nz), .val (.int cc), .val (.ref b2), .val (.ref b7), .val (.ref b14), .val (.ref b35), .unset, .unset] [(.int (Int32.ofNat fr)), (.ref b35)]))
  refine OGo.st (fun t k => XS.iconst X50.here hx rfl (hb hby at_240) k) ?_
  show OGo p e below _ (T50.setTop (mkF m 241 #[.val (.int q1), .val (.int q2), .val (.int q3), .val (.int q4), .val (.int q5), .val (.int q6), .val (.int (Int32.ofNat i)), .val (.int (Int32.ofNat fr)), .val (.int nz), .val (.int cc), .val (.ref b2), .val (.ref b7), .val (.ref b14), .val (.ref b35), .unset, .unset] [(.int (2 : Int32)), (.int (Int32.ofNat fr)), (.ref b35)]))
  refine OGo.st (fun t k => XS.iadd X50.here hx rfl (hb hby at_241) rfl k) ?_
  show OGo p e below _ (T50.setTop (mkF m 242 #[.val (.int q1), .val (.int q2), .val (.int q3), .val (.int q4), .val (.int q5), .val (.int q6), .val (.int (Int32.ofNat i)), .val (.int (Int32.ofNat fr)), .val (.int nz), .val (.int cc), .val (.ref b2), .val (.ref b7), .val (.ref b14), .val (.ref b35), .unset, .unset] [(.int ((Int32.ofNat fr) + (2 : Int32))), (.ref b35)]))
  refine OGo.st (fun t k => XS.iloadN X50.here hx rfl (hb hby at_242) rfl k) ?_
  show OGo p e below _ (T50.setTop (mkF m 243 #[.val (.int q1), .val (.int q2), .val (.int q3), .val (.int q4), .val (.int q5), .val (.int q6), .val (.int (Int32.ofNat i)), .val (.int (Int32.ofNat fr)), .val (.int nz), .val (.int cc), .val (.ref b2), .val (.ref b7), .val (.ref b14), .val (.ref b35), .unset, .unset] [(.int q4), (.int ((Int32.ofNat fr) + (2 : Int32))), (.ref b35)]))
  obtain ⟨T51, h51, X51, e51, W51, O51', st51⟩ := OA.stI X50 hx hZ e50 O50 (j := ((Int32.ofNat fr) + (2 : Int32))) (x := q4) (k := (fr + 2)) (own_ix (show fr + 2 < 100 by omega)).1 (own_ix (show fr + 2 < 100 by omega)).2 (by omega) (g := (mkF m 243 #[.val (.int q1), .val (.int q2), .val (.int q3), .val (.int q4), .val (.int q5), .val (.int q6), .val (.int (Int32.ofNat i)), .val (.int (Int32.ofNat fr)), .val (.int nz), .val (.int cc), .val (.ref b2), .val (.ref b7), .val (.ref b14), .val (.ref b35), .unset, .unset] [(.int q4), (.int ((Int32.ofNat fr) + (2 : Int32))), (.ref b35)])) rfl rfl (hb hby at_243)
  obtain ⟨fa51, hf51⟩ : ∃ z, z = oset fa50 (fr + 2) q4 := ⟨_, rfl⟩
  have O51 := O51'
  rw [← hf51] at O51
  have N51 := Fr.snoc X51 N50 gb35
  have Z51 : n0 ≤ h51.size := Nat.le_trans Z50 (Keep.of_wr W51).1
  obtain ⟨lo51, X51, N51⟩ : ∃ L, Stand p l e room_1 s m #[(.int q1), (.int q2), (.int q3), (.int q4), (.int q5), (.int q6)] below meth c T51 L 8 28 ∧ Fr n0 L := ⟨_, X51, N51⟩
  refine OGo.st (fun t k => st51 t k) ?_
  show OGo p e below _ (T51.setTop (mkF m 244 #[.val (.int q1), .val (.int q2), .val (.int q3), .val (.int q4), .val (.int q5), .val (.int q6), .val (.int (Int32.ofNat i)), .val (.int (Int32.ofNat fr)), .val (.int nz), .val (.int cc), .val (.ref b2), .val (.ref b7), .val (.ref b14), .val (.ref b35), .unset, .unset] []))
  refine OGo.st (fun t k => XS.aload X51.here hx rfl (hb hby at_244) rfl rfl k) ?_
  show OGo p e below _ (T51.setTop (mkF m 246 #[.val (.int q1), .val (.int q2), .val (.int q3), .val (.int q4), .val (.int q5), .val (.int q6), .val (.int (Int32.ofNat i)), .val (.int (Int32.ofNat fr)), .val (.int nz), .val (.int cc), .val (.ref b2), .val (.ref b7), .val (.ref b14), .val (.ref b35), .unset, .unset] [(.ref b35)]))
  refine OGo.st (fun t k => XS.iload X51.here hx rfl (hb hby at_246) rfl k) ?_
  show OGo p e below _ (T51.setTop (mkF m 248 #[.val (.int q1), .val (.int q2), .val (.int q3), .val (.int q4), .val (.int q5), .val (.int q6), .val (.int (Int32.ofNat i)), .val (.int (Int32.ofNat fr)), .val (.int nz), .val (.int cc), .val (.ref b2), .val (.ref b7), .val (.ref b14), .val (.ref b35), .unset, .unset] [(.int (Int32.ofNat fr)), (.ref b35)]))
  refine OGo.st (fun t k => XS.iconst X51.here hx rfl (hb hby at_248) k) ?_
  show OGo p e below _ (T51.setTop (mkF m 249 #[.val (.int q1), .val (.int q2), .val (.int q3), .val (.int q4), .val (.int q5), .val (.int q6), .val (.int (Int32.ofNat i)), .val (.int (Int32.ofNat fr)), .val (.int nz), .val (.int cc), .val (.ref b2), .val (.ref b7), .val (.ref b14), .val (.ref b35), .unset, .unset] [(.int (4 : Int32)), (.int (Int32.ofNat fr)), (.ref b35)]))
  refine OGo.st (fun t k => XS.iadd X51.here hx rfl (hb hby at_249) rfl k) ?_
  show OGo p e below _ (T51.setTop (mkF m 250 #[.val (.int q1), .val (.int q2), .val (.int q3), .val (.int q4), .val (.int q5), .val (.int q6), .val (.int (Int32.ofNat i)), .val (.int (Int32.ofNat fr)), .val (.int nz), .val (.int cc), .val (.ref b2), .val (.ref b7), .val (.ref b14), .val (.ref b35), .unset, .unset] [(.int ((Int32.ofNat fr) + (4 : Int32))), (.ref b35)]))
  refine OGo.st (fun t k => XS.iload X51.here hx rfl (hb hby at_250) rfl k) ?_
  show OGo p e below _ (T51.setTop (mkF m 252 #[.val (.int q1), .val (.int q2), .val (.int q3), .val (.int q4), .val (.int q5), .val (.int q6), .val (.int (Int32.ofNat i)), .val (.int (Int32.ofNat fr)), .val (.int nz), .val (.int cc), .val (.ref b2), .val (.ref b7), .val (.ref b14), .val (.ref b35), .unset, .unset] [(.int q5), (.int ((Int32.ofNat fr) + (4 : Int32))), (.ref b35)]))
  obtain ⟨T52, h52, X52, e52, W52, O52', st52⟩ := OA.stI X51 hx hZ e51 O51 (j := ((Int32.ofNat fr) + (4 : Int32))) (x := q5) (k := (fr + 4)) (own_ix (show fr + 4 < 100 by omega)).1 (own_ix (show fr + 4 < 100 by omega)).2 (by omega) (g := (mkF m 252 #[.val (.int q1), .val (.int q2), .val (.int q3), .val (.int q4), .val (.int q5), .val (.int q6), .val (.int (Int32.ofNat i)), .val (.int (Int32.ofNat fr)), .val (.int nz), .val (.int cc), .val (.ref b2), .val (.ref b7), .val (.ref b14), .val (.ref b35), .unset, .unset] [(.int q5), (.int ((Int32.ofNat fr) + (4 : Int32))), (.ref b35)])) rfl rfl (hb hby at_252)
  obtain ⟨fa52, hf52⟩ : ∃ z, z = oset fa51 (fr + 4) q5 := ⟨_, rfl⟩
  have O52 := O52'
  rw [← hf52] at O52
  have N52 := Fr.snoc X52 N51 gb35
  have Z52 : n0 ≤ h52.size := Nat.le_trans Z51 (Keep.of_wr W52).1
  obtain ⟨lo52, X52, N52⟩ : ∃ L, Stand p l e room_1 s m #[(.int q1), (.int q2), (.int q3), (.int q4), (.int q5), (.int q6)] below meth c T52 L 8 28 ∧ Fr n0 L := ⟨_, X52, N52⟩
  refine OGo.st (fun t k => st52 t k) ?_
  show OGo p e below _ (T52.setTop (mkF m 253 #[.val (.int q1), .val (.int q2), .val (.int q3), .val (.int q4), .val (.int q5), .val (.int q6), .val (.int (Int32.ofNat i)), .val (.int (Int32.ofNat fr)), .val (.int nz), .val (.int cc), .val (.ref b2), .val (.ref b7), .val (.ref b14), .val (.ref b35), .unset, .unset] []))
  refine OGo.st (fun t k => XS.aload X52.here hx rfl (hb hby at_253) rfl rfl k) ?_
  show OGo p e below _ (T52.setTop (mkF m 255 #[.val (.int q1), .val (.int q2), .val (.int q3), .val (.int q4), .val (.int q5), .val (.int q6), .val (.int (Int32.ofNat i)), .val (.int (Int32.ofNat fr)), .val (.int nz), .val (.int cc), .val (.ref b2), .val (.ref b7), .val (.ref b14), .val (.ref b35), .unset, .unset] [(.ref b14)]))
  refine OGo.st (fun t k => XS.iload X52.here hx rfl (hb hby at_255) rfl k) ?_
  show OGo p e below _ (T52.setTop (mkF m 257 #[.val (.int q1), .val (.int q2), .val (.int q3), .val (.int q4), .val (.int q5), .val (.int q6), .val (.int (Int32.ofNat i)), .val (.int (Int32.ofNat fr)), .val (.int nz), .val (.int cc), .val (.ref b2), .val (.ref b7), .val (.ref b14), .val (.ref b35), .unset, .unset] [(.int (Int32.ofNat i)), (.ref b14)]))
  refine OGo.st (fun t k => XS.aload X52.here hx rfl (hb hby at_257) rfl rfl k) ?_
  show OGo p e below _ (T52.setTop (mkF m 259 #[.val (.int q1), .val (.int q2), .val (.int q3), .val (.int q4), .val (.int q5), .val (.int q6), .val (.int (Int32.ofNat i)), .val (.int (Int32.ofNat fr)), .val (.int nz), .val (.int cc), .val (.ref b2), .val (.ref b7), .val (.ref b14), .val (.ref b35), .unset, .unset] [(.ref b35), (.int (Int32.ofNat i)), (.ref b14)]))
  refine OGo.st (fun t k => XS.iload X52.here hx rfl (hb hby at_259) rfl k) ?_
  show OGo p e below _ (T52.setTop (mkF m 261 #[.val (.int q1), .val (.int q2), .val (.int q3), .val (.int q4), .val (.int q5), .val (.int q6), .val (.int (Int32.ofNat i)), .val (.int (Int32.ofNat fr)), .val (.int nz), .val (.int cc), .val (.ref b2), .val (.ref b7), .val (.ref b14), .val (.ref b35), .unset, .unset] [(.int (Int32.ofNat fr)), (.ref b35), (.int (Int32.ofNat i)), (.ref b14)]))
  refine OGo.st (fun t k => XS.iloadN X52.here hx rfl (hb hby at_261) rfl k) ?_
  show OGo p e below _ (T52.setTop (mkF m 262 #[.val (.int q1), .val (.int q2), .val (.int q3), .val (.int q4), .val (.int q5), .val (.int q6), .val (.int (Int32.ofNat i)), .val (.int (Int32.ofNat fr)), .val (.int nz), .val (.int cc), .val (.ref b2), .val (.ref b7), .val (.ref b14), .val (.ref b35), .unset, .unset] [(.int q2), (.int (Int32.ofNat fr)), (.ref b35), (.int (Int32.ofNat i)), (.ref b14)]))
  have c54 := ((((((((((((((Eq26.ext E35).wr W40).wr W41).wr W42).wr W43).wr W44).wr W45).wr W46).wr W47).wr W48).wr W49).wr W50).wr W51).wr W52)
  have c55 := ((((((((((((((Fa26.ext E35).other W40 (Or.inl ne_b14_b35)).other W41 (Or.inl ne_b14_b35)).other W42 (Or.inl ne_b14_b35)).other W43 (Or.inl ne_b14_b35)).other W44 (Or.inl ne_b14_b35)).other W45 (Or.inl ne_b14_b35)).other W46 (Or.inl ne_b14_b35)).other W47 (Or.inl ne_b14_b35)).other W48 (Or.inl ne_b14_b35)).other W49 (Or.inl ne_b14_b35)).other W50 (Or.inl ne_b14_b35)).other W51 (Or.inl ne_b14_b35)).other W52 (Or.inl ne_b14_b35))
  have c56 := ((((((((((((((Fb26.ext E35).other W40 (Or.inl ne_b14_b35)).other W41 (Or.inl ne_b14_b35)).other W42 (Or.inl ne_b14_b35)).other W43 (Or.inl ne_b14_b35)).other W44 (Or.inl ne_b14_b35)).other W45 (Or.inl ne_b14_b35)).other W46 (Or.inl ne_b14_b35)).other W47 (Or.inl ne_b14_b35)).other W48 (Or.inl ne_b14_b35)).other W49 (Or.inl ne_b14_b35)).other W50 (Or.inl ne_b14_b35)).other W51 (Or.inl ne_b14_b35)).other W52 (Or.inl ne_b14_b35))
  have c57 := ((((((((((((((c36.ext E35).other W40 ne_b2_b35).other W41 ne_b2_b35).other W42 ne_b2_b35).other W43 ne_b2_b35).other W44 ne_b2_b35).other W45 ne_b2_b35).other W46 ne_b2_b35).other W47 ne_b2_b35).other W48 ne_b2_b35).other W49 ne_b2_b35).other W50 ne_b2_b35).other W51 ne_b2_b35).other W52 ne_b2_b35)
  have c58 := ((((((((((((((c37.ext E35).other W40 ne_b7_b35).other W41 ne_b7_b35).other W42 ne_b7_b35).other W43 ne_b7_b35).other W44 ne_b7_b35).other W45 ne_b7_b35).other W46 ne_b7_b35).other W47 ne_b7_b35).other W48 ne_b7_b35).other W49 ne_b7_b35).other W50 ne_b7_b35).other W51 ne_b7_b35).other W52 ne_b7_b35)
  obtain ⟨cq53, kq53, q53a, q53b, q53c⟩ := isOf hZ e52 c54
  obtain ⟨_, _, ⟨T53, L53, k53, n53⟩, -, X53, ⟨Lc53, hQ53, l53, y53, z53⟩, st53⟩ := X52.virtualBack hx (y := (⟨"com/example/triadne/triadne/CaptureKeys", "hash", "(I[III)I"⟩ : MethodName)) (z := (⟨"com/example/triadne/triadne/CaptureKeys", "hash", "(I[III)I"⟩ : MethodName)) hown (mvT hZ (hw _ (List.mem_of_getElem? (i := 23) rfl))) (mvT hZ (hw _ (List.mem_of_getElem? (i := 24) rfl))) (notFace_of_selects (args := #[]) (mvT hZ (hw _ (List.mem_of_getElem? (i := 26) rfl)))) (mvT hZ (hw _ (List.mem_of_getElem? (i := 26) rfl))) (mvT hZ (hw _ (List.mem_of_getElem? (i := 25) rfl))) (by decide) (backOf (W := 0) (rm3 l Z a0 hw [] b14 i b35 fr q2 b2 b7 fa6 fa13 fa52 nz cc _ _ q3 q4 q5 h52 n0 Z52 c54 c55 c56 c57 c58 O52 hi hfrb (own_inn0 hf3 hf4 hf5 hf6) (own_inn1 hf3 hf4 hf5 hf6) (own_inn2 hf3 hf4 hf5 hf6) (own_inn3 hf3 hf4 hf5 hf6) (own_aro0 hf8 hf10 hf13) (own_aro1 hf8 hf10 hf13) (own_aro2 hf8 hf10 hf13) (own_z1 nz) (own_z2 cc) (own_slo0 hf50 hf51 hf52) (own_slo2 hf50 hf51 hf52) (own_slo4 hf50 hf51 hf52)) hZ (hw _ (List.mem_of_getElem? (i := 27) rfl)) (hw _ (List.mem_of_getElem? (i := 3) rfl)) (by decide) (by decide)) q53a q53c (g := (mkF m 262 #[.val (.int q1), .val (.int q2), .val (.int q3), .val (.int q4), .val (.int q5), .val (.int q6), .val (.int (Int32.ofNat i)), .val (.int (Int32.ofNat fr)), .val (.int nz), .val (.int cc), .val (.ref b2), .val (.ref b7), .val (.ref b14), .val (.ref b35), .unset, .unset] [(.int q2), (.int (Int32.ofNat fr)), (.ref b35), (.int (Int32.ofNat i)), (.ref b14)])) rfl (by rw [hml]; rfl) (Steps.refl _) (argsL := [(.int (Int32.ofNat i)), (.ref b35), (.int (Int32.ofNat fr)), (.int q2)]) (rest := []) (lenOf pd0_1 rfl) rfl (by show 2 * 0 + _ ≤ _; exact Nat.le_of_eq rfl) (hb hby at_262) (fun _ _ => ⟨rfl, e52, (by decide : 8 + 0 ≤ _), (by decide : 28 + 0 ≤ _)⟩)
  dsimp only [Pt.U, Pt.locs, Pt.cells, Pt.slots] at X53 l53 y53 z53 st53 hQ53
  subst l53 y53 z53
  obtain ⟨rfl, Nq53, e53⟩ := hQ53
  have N53 := Fr.app N52 Nq53
  obtain ⟨lo53, X53, N53⟩ : ∃ L, Stand p l e room_1 s m #[(.int q1), (.int q2), (.int q3), (.int q4), (.int q5), (.int q6)] below meth c T53 L 8 28 ∧ Fr n0 L := ⟨_, X53, N53⟩
  refine OGo.st (fun t k => st53.trans k) ?_
  show OGo p e below _ (T53.setTop (mkF m 265 #[.val (.int q1), .val (.int q2), .val (.int q3), .val (.int q4), .val (.int q5), .val (.int q6), .val (.int (Int32.ofNat i)), .val (.int (Int32.ofNat fr)), .val (.int nz), .val (.int cc), .val (.ref b2), .val (.ref b7), .val (.ref b14), .val (.ref b35), .unset, .unset] [(.int (HV i nz cc q3 q4 q5 q2))]))
  refine OGo.st (fun t k => XS.istore X53.here hx rfl (hb hby at_265) rfl (l' := #[.val (.int q1), .val (.int q2), .val (.int q3), .val (.int q4), .val (.int q5), .val (.int q6), .val (.int (Int32.ofNat i)), .val (.int (Int32.ofNat fr)), .val (.int nz), .val (.int cc), .val (.ref b2), .val (.ref b7), .val (.ref b14), .val (.ref b35), .val (.int (HV i nz cc q3 q4 q5 q2)), .unset]) rfl k) ?_
  show OGo p e below _ (T53.setTop (mkF m 267 #[.val (.int q1), .val (.int q2), .val (.int q3), .val (.int q4), .val (.int q5), .val (.int q6), .val (.int (Int32.ofNat i)), .val (.int (Int32.ofNat fr)), .val (.int nz), .val (.int cc), .val (.ref b2), .val (.ref b7), .val (.ref b14), .val (.ref b35), .val (.int (HV i nz cc q3 q4 q5 q2)), .unset] []))
  refine OGo.st (fun t k => XS.iload X53.here hx rfl (hb hby at_267) rfl k) ?_
  show OGo p e below _ (T53.setTop (mkF m 269 #[.val (.int q1), .val (.int q2), .val (.int q3), .val (.int q4), .val (.int q5), .val (.int q6), .val (.int (Int32.ofNat i)), .val (.int (Int32.ofNat fr)), .val (.int nz), .val (.int cc), .val (.ref b2), .val (.ref b7), .val (.ref b14), .val (.ref b35), .val (.int (HV i nz cc q3 q4 q5 q2)), .unset] [(.int (Int32.ofNat i))]))
  by_cases hc269_59 : (Int32.ofNat i) = (0 : Int32)
  · refine OGo.st (fun t k => XS.ifNo X53.here hx rfl (hb hby at_269) rfl ((if0 _ _).trans (teq hc269_59).2) k) ?_
    show OGo p e below _ (T53.setTop (mkF m 272 #[.val (.int q1), .val (.int q2), .val (.int q3), .val (.int q4), .val (.int q5), .val (.int q6), .val (.int (Int32.ofNat i)), .val (.int (Int32.ofNat fr)), .val (.int nz), .val (.int cc), .val (.ref b2), .val (.ref b7), .val (.ref b14), .val (.ref b35), .val (.int (HV i nz cc q3 q4 q5 q2)), .unset] []))
    refine OGo.st (fun t k => XS.iloadN X53.here hx rfl (hb hby at_272) rfl k) ?_
    show OGo p e below _ (T53.setTop (mkF m 273 #[.val (.int q1), .val (.int q2), .val (.int q3), .val (.int q4), .val (.int q5), .val (.int q6), .val (.int (Int32.ofNat i)), .val (.int (Int32.ofNat fr)), .val (.int nz), .val (.int cc), .val (.ref b2), .val (.ref b7), .val (.ref b14), .val (.ref b35), .val (.int (HV i nz cc q3 q4 q5 q2)), .unset] [(.int q2)]))
    refine OGo.st (fun t k => XS.istore X53.here hx rfl (hb hby at_273) rfl (l' := #[.val (.int q1), .val (.int q2), .val (.int q3), .val (.int q4), .val (.int q5), .val (.int q6), .val (.int (Int32.ofNat i)), .val (.int (Int32.ofNat fr)), .val (.int nz), .val (.int cc), .val (.ref b2), .val (.ref b7), .val (.ref b14), .val (.ref b35), .val (.int (HV i nz cc q3 q4 q5 q2)), .val (.int q2)]) rfl k) ?_
    show OGo p e below _ (T53.setTop (mkF m 275 #[.val (.int q1), .val (.int q2), .val (.int q3), .val (.int q4), .val (.int q5), .val (.int q6), .val (.int (Int32.ofNat i)), .val (.int (Int32.ofNat fr)), .val (.int nz), .val (.int cc), .val (.ref b2), .val (.ref b7), .val (.ref b14), .val (.ref b35), .val (.int (HV i nz cc q3 q4 q5 q2)), .val (.int q2)] []))
    refine OGo.st (fun t k => XS.goto X53.here hx rfl (pc0 := 275) (pc' := 419) rfl (hb hby at_275) (by decide) (by decide) k) ?_
    show OGo p e below _ (T53.setTop (mkF m 419 #[.val (.int q1), .val (.int q2), .val (.int q3), .val (.int q4), .val (.int q5), .val (.int q6), .val (.int (Int32.ofNat i)), .val (.int (Int32.ofNat fr)), .val (.int nz), .val (.int cc), .val (.ref b2), .val (.ref b7), .val (.ref b14), .val (.ref b35), .val (.int (HV i nz cc q3 q4 q5 q2)), .val (.int q2)] []))
    refine OGo.st (fun t k => XS.iload X53.here hx rfl (hb hby at_419) rfl k) ?_
    show OGo p e below _ (T53.setTop (mkF m 421 #[.val (.int q1), .val (.int q2), .val (.int q3), .val (.int q4), .val (.int q5), .val (.int q6), .val (.int (Int32.ofNat i)), .val (.int (Int32.ofNat fr)), .val (.int nz), .val (.int cc), .val (.ref b2), .val (.ref b7), .val (.ref b14), .val (.ref b35), .val (.int (HV i nz cc q3 q4 q5 q2)), .val (.int q2)] [(.int (HV i nz cc q3 q4 q5 q2))]))
    refine OGo.st (fun t k => XS.iload X53.here hx rfl (hb hby at_421) rfl k) ?_
    show OGo p e below _ (T53.setTop (mkF m 423 #[.val (.int q1), .val (.int q2), .val (.int q3), .val (.int q4), .val (.int q5), .val (.int q6), .val (.int (Int32.ofNat i)), .val (.int (Int32.ofNat fr)), .val (.int nz), .val (.int cc), .val (.ref b2), .val (.ref b7), .val (.ref b14), .val (.ref b35), .val (.int (HV i nz cc q3 q4 q5 q2)), .val (.int q2)] [(.int q2), (.int (HV i nz cc q3 q4 q5 q2))]))
    refine OGo.st (fun t k => XS.icmpNo X53.here hx rfl (hb hby at_423) rfl (teq (own_r0 hi hc269_59)).2 k) ?_
    show OGo p e below _ (T53.setTop (mkF m 426 #[.val (.int q1), .val (.int q2), .val (.int q3), .val (.int q4), .val (.int q5), .val (.int q6), .val (.int (Int32.ofNat i)), .val (.int (Int32.ofNat fr)), .val (.int nz), .val (.int cc), .val (.ref b2), .val (.ref b7), .val (.ref b14), .val (.ref b35), .val (.int (HV i nz cc q3 q4 q5 q2)), .val (.int q2)] []))
    refine OGo.st (fun t k => XS.iconst X53.here hx rfl (hb hby at_426) k) ?_
    show OGo p e below _ (T53.setTop (mkF m 427 #[.val (.int q1), .val (.int q2), .val (.int q3), .val (.int q4), .val (.int q5), .val (.int q6), .val (.int (Int32.ofNat i)), .val (.int (Int32.ofNat fr)), .val (.int nz), .val (.int cc), .val (.ref b2), .val (.ref b7), .val (.ref b14), .val (.ref b35), .val (.int (HV i nz cc q3 q4 q5 q2)), .val (.int q2)] [(.int (1 : Int32))]))
    refine OGo.st (fun t k => XS.goto X53.here hx rfl (pc0 := 427) (pc' := 431) rfl (hb hby at_427) (by decide) (by decide) k) ?_
    show OGo p e below _ (T53.setTop (mkF m 431 #[.val (.int q1), .val (.int q2), .val (.int q3), .val (.int q4), .val (.int q5), .val (.int q6), .val (.int (Int32.ofNat i)), .val (.int (Int32.ofNat fr)), .val (.int nz), .val (.int cc), .val (.ref b2), .val (.ref b7), .val (.ref b14), .val (.ref b35), .val (.int (HV i nz cc q3 q4 q5 q2)), .val (.int q2)] [(.int (1 : Int32))]))
    exact OGo.outN X53 hx (t := .boolean) Bd.returns (by simp) Bd.notSynchronized (hb hby at_431) ⟨rfl, N53⟩ (by decide) (by decide)
  · refine OGo.st (fun t k => XS.ifYes X53.here hx rfl (pc0 := 269) (pc' := 278) rfl (hb hby at_269) rfl ((if0 _ _).trans (feq hc269_59).2) (by decide) (by decide) k) ?_
    show OGo p e below _ (T53.setTop (mkF m 278 #[.val (.int q1), .val (.int q2), .val (.int q3), .val (.int q4), .val (.int q5), .val (.int q6), .val (.int (Int32.ofNat i)), .val (.int (Int32.ofNat fr)), .val (.int nz), .val (.int cc), .val (.ref b2), .val (.ref b7), .val (.ref b14), .val (.ref b35), .val (.int (HV i nz cc q3 q4 q5 q2)), .unset] []))
    refine OGo.st (fun t k => XS.iload X53.here hx rfl (hb hby at_278) rfl k) ?_
    show OGo p e below _ (T53.setTop (mkF m 280 #[.val (.int q1), .val (.int q2), .val (.int q3), .val (.int q4), .val (.int q5), .val (.int q6), .val (.int (Int32.ofNat i)), .val (.int (Int32.ofNat fr)), .val (.int nz), .val (.int cc), .val (.ref b2), .val (.ref b7), .val (.ref b14), .val (.ref b35), .val (.int (HV i nz cc q3 q4 q5 q2)), .unset] [(.int (Int32.ofNat i))]))
    refine OGo.st (fun t k => XS.iconst X53.here hx rfl (hb hby at_280) k) ?_
    show OGo p e below _ (T53.setTop (mkF m 281 #[.val (.int q1), .val (.int q2), .val (.int q3), .val (.int q4), .val (.int q5), .val (.int q6), .val (.int (Int32.ofNat i)), .val (.int (Int32.ofNat fr)), .val (.int nz), .val (.int cc), .val (.ref b2), .val (.ref b7), .val (.ref b14), .val (.ref b35), .val (.int (HV i nz cc q3 q4 q5 q2)), .unset] [(.int (1 : Int32)), (.int (Int32.ofNat i))]))
    by_cases hc281_60 : (Int32.ofNat i) = (1 : Int32)
    · refine OGo.st (fun t k => XS.icmpNo X53.here hx rfl (hb hby at_281) rfl (teq hc281_60).2 k) ?_
      show OGo p e below _ (T53.setTop (mkF m 284 #[.val (.int q1), .val (.int q2), .val (.int q3), .val (.int q4), .val (.int q5), .val (.int q6), .val (.int (Int32.ofNat i)), .val (.int (Int32.ofNat fr)), .val (.int nz), .val (.int cc), .val (.ref b2), .val (.ref b7), .val (.ref b14), .val (.ref b35), .val (.int (HV i nz cc q3 q4 q5 q2)), .unset] []))
      refine OGo.st (fun t k => XS.iloadN X53.here hx rfl (hb hby at_284) rfl k) ?_
      show OGo p e below _ (T53.setTop (mkF m 285 #[.val (.int q1), .val (.int q2), .val (.int q3), .val (.int q4), .val (.int q5), .val (.int q6), .val (.int (Int32.ofNat i)), .val (.int (Int32.ofNat fr)), .val (.int nz), .val (.int cc), .val (.ref b2), .val (.ref b7), .val (.ref b14), .val (.ref b35), .val (.int (HV i nz cc q3 q4 q5 q2)), .unset] [(.int q2)]))
      refine OGo.st (fun t k => XS.bipush X53.here hx rfl (hb hby at_285) k) ?_
      show OGo p e below _ (T53.setTop (mkF m 287 #[.val (.int q1), .val (.int q2), .val (.int q3), .val (.int q4), .val (.int q5), .val (.int q6), .val (.int (Int32.ofNat i)), .val (.int (Int32.ofNat fr)), .val (.int nz), .val (.int cc), .val (.ref b2), .val (.ref b7), .val (.ref b14), .val (.ref b35), .val (.int (HV i nz cc q3 q4 q5 q2)), .unset] [(.int (31 : Int32)), (.int q2)]))
      refine OGo.st (fun t k => XS.imul X53.here hx rfl (hb hby at_287) rfl k) ?_
      show OGo p e below _ (T53.setTop (mkF m 288 #[.val (.int q1), .val (.int q2), .val (.int q3), .val (.int q4), .val (.int q5), .val (.int q6), .val (.int (Int32.ofNat i)), .val (.int (Int32.ofNat fr)), .val (.int nz), .val (.int cc), .val (.ref b2), .val (.ref b7), .val (.ref b14), .val (.ref b35), .val (.int (HV i nz cc q3 q4 q5 q2)), .unset] [(.int (q2 * (31 : Int32)))]))
      refine OGo.st (fun t k => XS.iloadN X53.here hx rfl (hb hby at_288) rfl k) ?_
      show OGo p e below _ (T53.setTop (mkF m 289 #[.val (.int q1), .val (.int q2), .val (.int q3), .val (.int q4), .val (.int q5), .val (.int q6), .val (.int (Int32.ofNat i)), .val (.int (Int32.ofNat fr)), .val (.int nz), .val (.int cc), .val (.ref b2), .val (.ref b7), .val (.ref b14), .val (.ref b35), .val (.int (HV i nz cc q3 q4 q5 q2)), .unset] [(.int q3), (.int (q2 * (31 : Int32)))]))
      refine OGo.st (fun t k => XS.iadd X53.here hx rfl (hb hby at_289) rfl k) ?_
      show OGo p e below _ (T53.setTop (mkF m 290 #[.val (.int q1), .val (.int q2), .val (.int q3), .val (.int q4), .val (.int q5), .val (.int q6), .val (.int (Int32.ofNat i)), .val (.int (Int32.ofNat fr)), .val (.int nz), .val (.int cc), .val (.ref b2), .val (.ref b7), .val (.ref b14), .val (.ref b35), .val (.int (HV i nz cc q3 q4 q5 q2)), .unset] [(.int ((q2 * (31 : Int32)) + q3))]))
      refine OGo.st (fun t k => XS.istore X53.here hx rfl (hb hby at_290) rfl (l' := #[.val (.int q1), .val (.int q2), .val (.int q3), .val (.int q4), .val (.int q5), .val (.int q6), .val (.int (Int32.ofNat i)), .val (.int (Int32.ofNat fr)), .val (.int nz), .val (.int cc), .val (.ref b2), .val (.ref b7), .val (.ref b14), .val (.ref b35), .val (.int (HV i nz cc q3 q4 q5 q2)), .val (.int ((q2 * (31 : Int32)) + q3))]) rfl k) ?_
      show OGo p e below _ (T53.setTop (mkF m 292 #[.val (.int q1), .val (.int q2), .val (.int q3), .val (.int q4), .val (.int q5), .val (.int q6), .val (.int (Int32.ofNat i)), .val (.int (Int32.ofNat fr)), .val (.int nz), .val (.int cc), .val (.ref b2), .val (.ref b7), .val (.ref b14), .val (.ref b35), .val (.int (HV i nz cc q3 q4 q5 q2)), .val (.int ((q2 * (31 : Int32)) + q3))] []))
      refine OGo.st (fun t k => XS.goto X53.here hx rfl (pc0 := 292) (pc' := 419) rfl (hb hby at_292) (by decide) (by decide) k) ?_
      show OGo p e below _ (T53.setTop (mkF m 419 #[.val (.int q1), .val (.int q2), .val (.int q3), .val (.int q4), .val (.int q5), .val (.int q6), .val (.int (Int32.ofNat i)), .val (.int (Int32.ofNat fr)), .val (.int nz), .val (.int cc), .val (.ref b2), .val (.ref b7), .val (.ref b14), .val (.ref b35), .val (.int (HV i nz cc q3 q4 q5 q2)), .val (.int ((q2 * (31 : Int32)) + q3))] []))
      refine OGo.st (fun t k => XS.iload X53.here hx rfl (hb hby at_419) rfl k) ?_
      show OGo p e below _ (T53.setTop (mkF m 421 #[.val (.int q1), .val (.int q2), .val (.int q3), .val (.int q4), .val (.int q5), .val (.int q6), .val (.int (Int32.ofNat i)), .val (.int (Int32.ofNat fr)), .val (.int nz), .val (.int cc), .val (.ref b2), .val (.ref b7), .val (.ref b14), .val (.ref b35), .val (.int (HV i nz cc q3 q4 q5 q2)), .val (.int ((q2 * (31 : Int32)) + q3))] [(.int (HV i nz cc q3 q4 q5 q2))]))
      refine OGo.st (fun t k => XS.iload X53.here hx rfl (hb hby at_421) rfl k) ?_
      show OGo p e below _ (T53.setTop (mkF m 423 #[.val (.int q1), .val (.int q2), .val (.int q3), .val (.int q4), .val (.int q5), .val (.int q6), .val (.int (Int32.ofNat i)), .val (.int (Int32.ofNat fr)), .val (.int nz), .val (.int cc), .val (.ref b2), .val (.ref b7), .val (.ref b14), .val (.ref b35), .val (.int (HV i nz cc q3 q4 q5 q2)), .val (.int ((q2 * (31 : Int32)) + q3))] [(.int ((q2 * (31 : Int32)) + q3)), (.int (HV i nz cc q3 q4 q5 q2))]))
      refine OGo.st (fun t k => XS.icmpNo X53.here hx rfl (hb hby at_423) rfl (teq (own_r1 hi hc269_59 hc281_60)).2 k) ?_
      show OGo p e below _ (T53.setTop (mkF m 426 #[.val (.int q1), .val (.int q2), .val (.int q3), .val (.int q4), .val (.int q5), .val (.int q6), .val (.int (Int32.ofNat i)), .val (.int (Int32.ofNat fr)), .val (.int nz), .val (.int cc), .val (.ref b2), .val (.ref b7), .val (.ref b14), .val (.ref b35), .val (.int (HV i nz cc q3 q4 q5 q2)), .val (.int ((q2 * (31 : Int32)) + q3))] []))
      refine OGo.st (fun t k => XS.iconst X53.here hx rfl (hb hby at_426) k) ?_
      show OGo p e below _ (T53.setTop (mkF m 427 #[.val (.int q1), .val (.int q2), .val (.int q3), .val (.int q4), .val (.int q5), .val (.int q6), .val (.int (Int32.ofNat i)), .val (.int (Int32.ofNat fr)), .val (.int nz), .val (.int cc), .val (.ref b2), .val (.ref b7), .val (.ref b14), .val (.ref b35), .val (.int (HV i nz cc q3 q4 q5 q2)), .val (.int ((q2 * (31 : Int32)) + q3))] [(.int (1 : Int32))]))
      refine OGo.st (fun t k => XS.goto X53.here hx rfl (pc0 := 427) (pc' := 431) rfl (hb hby at_427) (by decide) (by decide) k) ?_
      show OGo p e below _ (T53.setTop (mkF m 431 #[.val (.int q1), .val (.int q2), .val (.int q3), .val (.int q4), .val (.int q5), .val (.int q6), .val (.int (Int32.ofNat i)), .val (.int (Int32.ofNat fr)), .val (.int nz), .val (.int cc), .val (.ref b2), .val (.ref b7), .val (.ref b14), .val (.ref b35), .val (.int (HV i nz cc q3 q4 q5 q2)), .val (.int ((q2 * (31 : Int32)) + q3))] [(.int (1 : Int32))]))
      exact OGo.outN X53 hx (t := .boolean) Bd.returns (by simp) Bd.notSynchronized (hb hby at_431) ⟨rfl, N53⟩ (by decide) (by decide)
    · refine OGo.st (fun t k => XS.icmpYes X53.here hx rfl (pc0 := 281) (pc' := 295) rfl (hb hby at_281) rfl (feq hc281_60).2 (by decide) (by decide) k) ?_
      show OGo p e below _ (T53.setTop (mkF m 295 #[.val (.int q1), .val (.int q2), .val (.int q3), .val (.int q4), .val (.int q5), .val (.int q6), .val (.int (Int32.ofNat i)), .val (.int (Int32.ofNat fr)), .val (.int nz), .val (.int cc), .val (.ref b2), .val (.ref b7), .val (.ref b14), .val (.ref b35), .val (.int (HV i nz cc q3 q4 q5 q2)), .unset] []))
      refine OGo.st (fun t k => XS.iload X53.here hx rfl (hb hby at_295) rfl k) ?_
      show OGo p e below _ (T53.setTop (mkF m 297 #[.val (.int q1), .val (.int q2), .val (.int q3), .val (.int q4), .val (.int q5), .val (.int q6), .val (.int (Int32.ofNat i)), .val (.int (Int32.ofNat fr)), .val (.int nz), .val (.int cc), .val (.ref b2), .val (.ref b7), .val (.ref b14), .val (.ref b35), .val (.int (HV i nz cc q3 q4 q5 q2)), .unset] [(.int (Int32.ofNat i))]))
      refine OGo.st (fun t k => XS.iconst X53.here hx rfl (hb hby at_297) k) ?_
      show OGo p e below _ (T53.setTop (mkF m 298 #[.val (.int q1), .val (.int q2), .val (.int q3), .val (.int q4), .val (.int q5), .val (.int q6), .val (.int (Int32.ofNat i)), .val (.int (Int32.ofNat fr)), .val (.int nz), .val (.int cc), .val (.ref b2), .val (.ref b7), .val (.ref b14), .val (.ref b35), .val (.int (HV i nz cc q3 q4 q5 q2)), .unset] [(.int (2 : Int32)), (.int (Int32.ofNat i))]))
      by_cases hc298_61 : (Int32.ofNat i) = (2 : Int32)
      · refine OGo.st (fun t k => XS.icmpNo X53.here hx rfl (hb hby at_298) rfl (teq hc298_61).2 k) ?_
        show OGo p e below _ (T53.setTop (mkF m 301 #[.val (.int q1), .val (.int q2), .val (.int q3), .val (.int q4), .val (.int q5), .val (.int q6), .val (.int (Int32.ofNat i)), .val (.int (Int32.ofNat fr)), .val (.int nz), .val (.int cc), .val (.ref b2), .val (.ref b7), .val (.ref b14), .val (.ref b35), .val (.int (HV i nz cc q3 q4 q5 q2)), .unset] []))
        refine OGo.st (fun t k => XS.iload X53.here hx rfl (hb hby at_301) rfl k) ?_
        show OGo p e below _ (T53.setTop (mkF m 303 #[.val (.int q1), .val (.int q2), .val (.int q3), .val (.int q4), .val (.int q5), .val (.int q6), .val (.int (Int32.ofNat i)), .val (.int (Int32.ofNat fr)), .val (.int nz), .val (.int cc), .val (.ref b2), .val (.ref b7), .val (.ref b14), .val (.ref b35), .val (.int (HV i nz cc q3 q4 q5 q2)), .unset] [(.int nz)]))
        by_cases hc303_62 : nz = (0 : Int32)
        · refine OGo.st (fun t k => XS.ifYes X53.here hx rfl (pc0 := 303) (pc' := 323) rfl (hb hby at_303) rfl ((if0 _ _).trans (teq hc303_62).1) (by decide) (by decide) k) ?_
          show OGo p e below _ (T53.setTop (mkF m 323 #[.val (.int q1), .val (.int q2), .val (.int q3), .val (.int q4), .val (.int q5), .val (.int q6), .val (.int (Int32.ofNat i)), .val (.int (Int32.ofNat fr)), .val (.int nz), .val (.int cc), .val (.ref b2), .val (.ref b7), .val (.ref b14), .val (.ref b35), .val (.int (HV i nz cc q3 q4 q5 q2)), .unset] []))
          refine OGo.st (fun t k => XS.iloadN X53.here hx rfl (hb hby at_323) rfl k) ?_
          show OGo p e below _ (T53.setTop (mkF m 324 #[.val (.int q1), .val (.int q2), .val (.int q3), .val (.int q4), .val (.int q5), .val (.int q6), .val (.int (Int32.ofNat i)), .val (.int (Int32.ofNat fr)), .val (.int nz), .val (.int cc), .val (.ref b2), .val (.ref b7), .val (.ref b14), .val (.ref b35), .val (.int (HV i nz cc q3 q4 q5 q2)), .unset] [(.int q2)]))
          refine OGo.st (fun t k => XS.bipush X53.here hx rfl (hb hby at_324) k) ?_
          show OGo p e below _ (T53.setTop (mkF m 326 #[.val (.int q1), .val (.int q2), .val (.int q3), .val (.int q4), .val (.int q5), .val (.int q6), .val (.int (Int32.ofNat i)), .val (.int (Int32.ofNat fr)), .val (.int nz), .val (.int cc), .val (.ref b2), .val (.ref b7), .val (.ref b14), .val (.ref b35), .val (.int (HV i nz cc q3 q4 q5 q2)), .unset] [(.int (31 : Int32)), (.int q2)]))
          refine OGo.st (fun t k => XS.imul X53.here hx rfl (hb hby at_326) rfl k) ?_
          show OGo p e below _ (T53.setTop (mkF m 327 #[.val (.int q1), .val (.int q2), .val (.int q3), .val (.int q4), .val (.int q5), .val (.int q6), .val (.int (Int32.ofNat i)), .val (.int (Int32.ofNat fr)), .val (.int nz), .val (.int cc), .val (.ref b2), .val (.ref b7), .val (.ref b14), .val (.ref b35), .val (.int (HV i nz cc q3 q4 q5 q2)), .unset] [(.int (q2 * (31 : Int32)))]))
          refine OGo.st (fun t k => XS.iloadN X53.here hx rfl (hb hby at_327) rfl k) ?_
          show OGo p e below _ (T53.setTop (mkF m 328 #[.val (.int q1), .val (.int q2), .val (.int q3), .val (.int q4), .val (.int q5), .val (.int q6), .val (.int (Int32.ofNat i)), .val (.int (Int32.ofNat fr)), .val (.int nz), .val (.int cc), .val (.ref b2), .val (.ref b7), .val (.ref b14), .val (.ref b35), .val (.int (HV i nz cc q3 q4 q5 q2)), .unset] [(.int q4), (.int (q2 * (31 : Int32)))]))
          refine OGo.st (fun t k => XS.iadd X53.here hx rfl (hb hby at_328) rfl k) ?_
          show OGo p e below _ (T53.setTop (mkF m 329 #[.val (.int q1), .val (.int q2), .val (.int q3), .val (.int q4), .val (.int q5), .val (.int q6), .val (.int (Int32.ofNat i)), .val (.int (Int32.ofNat fr)), .val (.int nz), .val (.int cc), .val (.ref b2), .val (.ref b7), .val (.ref b14), .val (.ref b35), .val (.int (HV i nz cc q3 q4 q5 q2)), .unset] [(.int ((q2 * (31 : Int32)) + q4))]))
          refine OGo.st (fun t k => XS.istore X53.here hx rfl (hb hby at_329) rfl (l' := #[.val (.int q1), .val (.int q2), .val (.int q3), .val (.int q4), .val (.int q5), .val (.int q6), .val (.int (Int32.ofNat i)), .val (.int (Int32.ofNat fr)), .val (.int nz), .val (.int cc), .val (.ref b2), .val (.ref b7), .val (.ref b14), .val (.ref b35), .val (.int (HV i nz cc q3 q4 q5 q2)), .val (.int ((q2 * (31 : Int32)) + q4))]) rfl k) ?_
          show OGo p e below _ (T53.setTop (mkF m 331 #[.val (.int q1), .val (.int q2), .val (.int q3), .val (.int q4), .val (.int q5), .val (.int q6), .val (.int (Int32.ofNat i)), .val (.int (Int32.ofNat fr)), .val (.int nz), .val (.int cc), .val (.ref b2), .val (.ref b7), .val (.ref b14), .val (.ref b35), .val (.int (HV i nz cc q3 q4 q5 q2)), .val (.int ((q2 * (31 : Int32)) + q4))] []))
          refine OGo.st (fun t k => XS.goto X53.here hx rfl (pc0 := 331) (pc' := 419) rfl (hb hby at_331) (by decide) (by decide) k) ?_
          show OGo p e below _ (T53.setTop (mkF m 419 #[.val (.int q1), .val (.int q2), .val (.int q3), .val (.int q4), .val (.int q5), .val (.int q6), .val (.int (Int32.ofNat i)), .val (.int (Int32.ofNat fr)), .val (.int nz), .val (.int cc), .val (.ref b2), .val (.ref b7), .val (.ref b14), .val (.ref b35), .val (.int (HV i nz cc q3 q4 q5 q2)), .val (.int ((q2 * (31 : Int32)) + q4))] []))
          refine OGo.st (fun t k => XS.iload X53.here hx rfl (hb hby at_419) rfl k) ?_
          show OGo p e below _ (T53.setTop (mkF m 421 #[.val (.int q1), .val (.int q2), .val (.int q3), .val (.int q4), .val (.int q5), .val (.int q6), .val (.int (Int32.ofNat i)), .val (.int (Int32.ofNat fr)), .val (.int nz), .val (.int cc), .val (.ref b2), .val (.ref b7), .val (.ref b14), .val (.ref b35), .val (.int (HV i nz cc q3 q4 q5 q2)), .val (.int ((q2 * (31 : Int32)) + q4))] [(.int (HV i nz cc q3 q4 q5 q2))]))
          refine OGo.st (fun t k => XS.iload X53.here hx rfl (hb hby at_421) rfl k) ?_
          show OGo p e below _ (T53.setTop (mkF m 423 #[.val (.int q1), .val (.int q2), .val (.int q3), .val (.int q4), .val (.int q5), .val (.int q6), .val (.int (Int32.ofNat i)), .val (.int (Int32.ofNat fr)), .val (.int nz), .val (.int cc), .val (.ref b2), .val (.ref b7), .val (.ref b14), .val (.ref b35), .val (.int (HV i nz cc q3 q4 q5 q2)), .val (.int ((q2 * (31 : Int32)) + q4))] [(.int ((q2 * (31 : Int32)) + q4)), (.int (HV i nz cc q3 q4 q5 q2))]))
          refine OGo.st (fun t k => XS.icmpNo X53.here hx rfl (hb hby at_423) rfl (teq (own_r2 hi hc269_59 hc281_60 hc298_61 hc303_62)).2 k) ?_
          show OGo p e below _ (T53.setTop (mkF m 426 #[.val (.int q1), .val (.int q2), .val (.int q3), .val (.int q4), .val (.int q5), .val (.int q6), .val (.int (Int32.ofNat i)), .val (.int (Int32.ofNat fr)), .val (.int nz), .val (.int cc), .val (.ref b2), .val (.ref b7), .val (.ref b14), .val (.ref b35), .val (.int (HV i nz cc q3 q4 q5 q2)), .val (.int ((q2 * (31 : Int32)) + q4))] []))
          refine OGo.st (fun t k => XS.iconst X53.here hx rfl (hb hby at_426) k) ?_
          show OGo p e below _ (T53.setTop (mkF m 427 #[.val (.int q1), .val (.int q2), .val (.int q3), .val (.int q4), .val (.int q5), .val (.int q6), .val (.int (Int32.ofNat i)), .val (.int (Int32.ofNat fr)), .val (.int nz), .val (.int cc), .val (.ref b2), .val (.ref b7), .val (.ref b14), .val (.ref b35), .val (.int (HV i nz cc q3 q4 q5 q2)), .val (.int ((q2 * (31 : Int32)) + q4))] [(.int (1 : Int32))]))
          refine OGo.st (fun t k => XS.goto X53.here hx rfl (pc0 := 427) (pc' := 431) rfl (hb hby at_427) (by decide) (by decide) k) ?_
          show OGo p e below _ (T53.setTop (mkF m 431 #[.val (.int q1), .val (.int q2), .val (.int q3), .val (.int q4), .val (.int q5), .val (.int q6), .val (.int (Int32.ofNat i)), .val (.int (Int32.ofNat fr)), .val (.int nz), .val (.int cc), .val (.ref b2), .val (.ref b7), .val (.ref b14), .val (.ref b35), .val (.int (HV i nz cc q3 q4 q5 q2)), .val (.int ((q2 * (31 : Int32)) + q4))] [(.int (1 : Int32))]))
          exact OGo.outN X53 hx (t := .boolean) Bd.returns (by simp) Bd.notSynchronized (hb hby at_431) ⟨rfl, N53⟩ (by decide) (by decide)
        · refine OGo.st (fun t k => XS.ifNo X53.here hx rfl (hb hby at_303) rfl ((if0 _ _).trans (feq hc303_62).1) k) ?_
          show OGo p e below _ (T53.setTop (mkF m 306 #[.val (.int q1), .val (.int q2), .val (.int q3), .val (.int q4), .val (.int q5), .val (.int q6), .val (.int (Int32.ofNat i)), .val (.int (Int32.ofNat fr)), .val (.int nz), .val (.int cc), .val (.ref b2), .val (.ref b7), .val (.ref b14), .val (.ref b35), .val (.int (HV i nz cc q3 q4 q5 q2)), .unset] []))
          refine OGo.st (fun t k => XS.iloadN X53.here hx rfl (hb hby at_306) rfl k) ?_
          show OGo p e below _ (T53.setTop (mkF m 307 #[.val (.int q1), .val (.int q2), .val (.int q3), .val (.int q4), .val (.int q5), .val (.int q6), .val (.int (Int32.ofNat i)), .val (.int (Int32.ofNat fr)), .val (.int nz), .val (.int cc), .val (.ref b2), .val (.ref b7), .val (.ref b14), .val (.ref b35), .val (.int (HV i nz cc q3 q4 q5 q2)), .unset] [(.int q2)]))
          refine OGo.st (fun t k => XS.sipush X53.here hx rfl (hb hby at_307) k) ?_
          show OGo p e below _ (T53.setTop (mkF m 310 #[.val (.int q1), .val (.int q2), .val (.int q3), .val (.int q4), .val (.int q5), .val (.int q6), .val (.int (Int32.ofNat i)), .val (.int (Int32.ofNat fr)), .val (.int nz), .val (.int cc), .val (.ref b2), .val (.ref b7), .val (.ref b14), .val (.ref b35), .val (.int (HV i nz cc q3 q4 q5 q2)), .unset] [(.int (961 : Int32)), (.int q2)]))
          refine OGo.st (fun t k => XS.imul X53.here hx rfl (hb hby at_310) rfl k) ?_
          show OGo p e below _ (T53.setTop (mkF m 311 #[.val (.int q1), .val (.int q2), .val (.int q3), .val (.int q4), .val (.int q5), .val (.int q6), .val (.int (Int32.ofNat i)), .val (.int (Int32.ofNat fr)), .val (.int nz), .val (.int cc), .val (.ref b2), .val (.ref b7), .val (.ref b14), .val (.ref b35), .val (.int (HV i nz cc q3 q4 q5 q2)), .unset] [(.int (q2 * (961 : Int32)))]))
          refine OGo.st (fun t k => XS.iloadN X53.here hx rfl (hb hby at_311) rfl k) ?_
          show OGo p e below _ (T53.setTop (mkF m 312 #[.val (.int q1), .val (.int q2), .val (.int q3), .val (.int q4), .val (.int q5), .val (.int q6), .val (.int (Int32.ofNat i)), .val (.int (Int32.ofNat fr)), .val (.int nz), .val (.int cc), .val (.ref b2), .val (.ref b7), .val (.ref b14), .val (.ref b35), .val (.int (HV i nz cc q3 q4 q5 q2)), .unset] [(.int q4), (.int (q2 * (961 : Int32)))]))
          refine OGo.st (fun t k => XS.bipush X53.here hx rfl (hb hby at_312) k) ?_
          show OGo p e below _ (T53.setTop (mkF m 314 #[.val (.int q1), .val (.int q2), .val (.int q3), .val (.int q4), .val (.int q5), .val (.int q6), .val (.int (Int32.ofNat i)), .val (.int (Int32.ofNat fr)), .val (.int nz), .val (.int cc), .val (.ref b2), .val (.ref b7), .val (.ref b14), .val (.ref b35), .val (.int (HV i nz cc q3 q4 q5 q2)), .unset] [(.int (31 : Int32)), (.int q4), (.int (q2 * (961 : Int32)))]))
          refine OGo.st (fun t k => XS.imul X53.here hx rfl (hb hby at_314) rfl k) ?_
          show OGo p e below _ (T53.setTop (mkF m 315 #[.val (.int q1), .val (.int q2), .val (.int q3), .val (.int q4), .val (.int q5), .val (.int q6), .val (.int (Int32.ofNat i)), .val (.int (Int32.ofNat fr)), .val (.int nz), .val (.int cc), .val (.ref b2), .val (.ref b7), .val (.ref b14), .val (.ref b35), .val (.int (HV i nz cc q3 q4 q5 q2)), .unset] [(.int (q4 * (31 : Int32))), (.int (q2 * (961 : Int32)))]))
          refine OGo.st (fun t k => XS.iadd X53.here hx rfl (hb hby at_315) rfl k) ?_
          show OGo p e below _ (T53.setTop (mkF m 316 #[.val (.int q1), .val (.int q2), .val (.int q3), .val (.int q4), .val (.int q5), .val (.int q6), .val (.int (Int32.ofNat i)), .val (.int (Int32.ofNat fr)), .val (.int nz), .val (.int cc), .val (.ref b2), .val (.ref b7), .val (.ref b14), .val (.ref b35), .val (.int (HV i nz cc q3 q4 q5 q2)), .unset] [(.int ((q2 * (961 : Int32)) + (q4 * (31 : Int32))))]))
          refine OGo.st (fun t k => XS.iloadN X53.here hx rfl (hb hby at_316) rfl k) ?_
          show OGo p e below _ (T53.setTop (mkF m 317 #[.val (.int q1), .val (.int q2), .val (.int q3), .val (.int q4), .val (.int q5), .val (.int q6), .val (.int (Int32.ofNat i)), .val (.int (Int32.ofNat fr)), .val (.int nz), .val (.int cc), .val (.ref b2), .val (.ref b7), .val (.ref b14), .val (.ref b35), .val (.int (HV i nz cc q3 q4 q5 q2)), .unset] [(.int q3), (.int ((q2 * (961 : Int32)) + (q4 * (31 : Int32))))]))
          refine OGo.st (fun t k => XS.iadd X53.here hx rfl (hb hby at_317) rfl k) ?_
          show OGo p e below _ (T53.setTop (mkF m 318 #[.val (.int q1), .val (.int q2), .val (.int q3), .val (.int q4), .val (.int q5), .val (.int q6), .val (.int (Int32.ofNat i)), .val (.int (Int32.ofNat fr)), .val (.int nz), .val (.int cc), .val (.ref b2), .val (.ref b7), .val (.ref b14), .val (.ref b35), .val (.int (HV i nz cc q3 q4 q5 q2)), .unset] [(.int (((q2 * (961 : Int32)) + (q4 * (31 : Int32))) + q3))]))
          refine OGo.st (fun t k => XS.istore X53.here hx rfl (hb hby at_318) rfl (l' := #[.val (.int q1), .val (.int q2), .val (.int q3), .val (.int q4), .val (.int q5), .val (.int q6), .val (.int (Int32.ofNat i)), .val (.int (Int32.ofNat fr)), .val (.int nz), .val (.int cc), .val (.ref b2), .val (.ref b7), .val (.ref b14), .val (.ref b35), .val (.int (HV i nz cc q3 q4 q5 q2)), .val (.int (((q2 * (961 : Int32)) + (q4 * (31 : Int32))) + q3))]) rfl k) ?_
          show OGo p e below _ (T53.setTop (mkF m 320 #[.val (.int q1), .val (.int q2), .val (.int q3), .val (.int q4), .val (.int q5), .val (.int q6), .val (.int (Int32.ofNat i)), .val (.int (Int32.ofNat fr)), .val (.int nz), .val (.int cc), .val (.ref b2), .val (.ref b7), .val (.ref b14), .val (.ref b35), .val (.int (HV i nz cc q3 q4 q5 q2)), .val (.int (((q2 * (961 : Int32)) + (q4 * (31 : Int32))) + q3))] []))
          refine OGo.st (fun t k => XS.goto X53.here hx rfl (pc0 := 320) (pc' := 419) rfl (hb hby at_320) (by decide) (by decide) k) ?_
          show OGo p e below _ (T53.setTop (mkF m 419 #[.val (.int q1), .val (.int q2), .val (.int q3), .val (.int q4), .val (.int q5), .val (.int q6), .val (.int (Int32.ofNat i)), .val (.int (Int32.ofNat fr)), .val (.int nz), .val (.int cc), .val (.ref b2), .val (.ref b7), .val (.ref b14), .val (.ref b35), .val (.int (HV i nz cc q3 q4 q5 q2)), .val (.int (((q2 * (961 : Int32)) + (q4 * (31 : Int32))) + q3))] []))
          refine OGo.st (fun t k => XS.iload X53.here hx rfl (hb hby at_419) rfl k) ?_
          show OGo p e below _ (T53.setTop (mkF m 421 #[.val (.int q1), .val (.int q2), .val (.int q3), .val (.int q4), .val (.int q5), .val (.int q6), .val (.int (Int32.ofNat i)), .val (.int (Int32.ofNat fr)), .val (.int nz), .val (.int cc), .val (.ref b2), .val (.ref b7), .val (.ref b14), .val (.ref b35), .val (.int (HV i nz cc q3 q4 q5 q2)), .val (.int (((q2 * (961 : Int32)) + (q4 * (31 : Int32))) + q3))] [(.int (HV i nz cc q3 q4 q5 q2))]))
          refine OGo.st (fun t k => XS.iload X53.here hx rfl (hb hby at_421) rfl k) ?_
          show OGo p e below _ (T53.setTop (mkF m 423 #[.val (.int q1), .val (.int q2), .val (.int q3), .val (.int q4), .val (.int q5), .val (.int q6), .val (.int (Int32.ofNat i)), .val (.int (Int32.ofNat fr)), .val (.int nz), .val (.int cc), .val (.ref b2), .val (.ref b7), .val (.ref b14), .val (.ref b35), .val (.int (HV i nz cc q3 q4 q5 q2)), .val (.int (((q2 * (961 : Int32)) + (q4 * (31 : Int32))) + q3))] [(.int (((q2 * (961 : Int32)) + (q4 * (31 : Int32))) + q3)), (.int (HV i nz cc q3 q4 q5 q2))]))
          refine OGo.st (fun t k => XS.icmpNo X53.here hx rfl (hb hby at_423) rfl (teq (own_r3 hi hc269_59 hc281_60 hc298_61 hc303_62)).2 k) ?_
          show OGo p e below _ (T53.setTop (mkF m 426 #[.val (.int q1), .val (.int q2), .val (.int q3), .val (.int q4), .val (.int q5), .val (.int q6), .val (.int (Int32.ofNat i)), .val (.int (Int32.ofNat fr)), .val (.int nz), .val (.int cc), .val (.ref b2), .val (.ref b7), .val (.ref b14), .val (.ref b35), .val (.int (HV i nz cc q3 q4 q5 q2)), .val (.int (((q2 * (961 : Int32)) + (q4 * (31 : Int32))) + q3))] []))
          refine OGo.st (fun t k => XS.iconst X53.here hx rfl (hb hby at_426) k) ?_
          show OGo p e below _ (T53.setTop (mkF m 427 #[.val (.int q1), .val (.int q2), .val (.int q3), .val (.int q4), .val (.int q5), .val (.int q6), .val (.int (Int32.ofNat i)), .val (.int (Int32.ofNat fr)), .val (.int nz), .val (.int cc), .val (.ref b2), .val (.ref b7), .val (.ref b14), .val (.ref b35), .val (.int (HV i nz cc q3 q4 q5 q2)), .val (.int (((q2 * (961 : Int32)) + (q4 * (31 : Int32))) + q3))] [(.int (1 : Int32))]))
          refine OGo.st (fun t k => XS.goto X53.here hx rfl (pc0 := 427) (pc' := 431) rfl (hb hby at_427) (by decide) (by decide) k) ?_
          show OGo p e below _ (T53.setTop (mkF m 431 #[.val (.int q1), .val (.int q2), .val (.int q3), .val (.int q4), .val (.int q5), .val (.int q6), .val (.int (Int32.ofNat i)), .val (.int (Int32.ofNat fr)), .val (.int nz), .val (.int cc), .val (.ref b2), .val (.ref b7), .val (.ref b14), .val (.ref b35), .val (.int (HV i nz cc q3 q4 q5 q2)), .val (.int (((q2 * (961 : Int32)) + (q4 * (31 : Int32))) + q3))] [(.int (1 : Int32))]))
          exact OGo.outN X53 hx (t := .boolean) Bd.returns (by simp) Bd.notSynchronized (hb hby at_431) ⟨rfl, N53⟩ (by decide) (by decide)
      · refine OGo.st (fun t k => XS.icmpYes X53.here hx rfl (pc0 := 298) (pc' := 334) rfl (hb hby at_298) rfl (feq hc298_61).2 (by decide) (by decide) k) ?_
        show OGo p e below _ (T53.setTop (mkF m 334 #[.val (.int q1), .val (.int q2), .val (.int q3), .val (.int q4), .val (.int q5), .val (.int q6), .val (.int (Int32.ofNat i)), .val (.int (Int32.ofNat fr)), .val (.int nz), .val (.int cc), .val (.ref b2), .val (.ref b7), .val (.ref b14), .val (.ref b35), .val (.int (HV i nz cc q3 q4 q5 q2)), .unset] []))
        refine OGo.st (fun t k => XS.iload X53.here hx rfl (hb hby at_334) rfl k) ?_
        show OGo p e below _ (T53.setTop (mkF m 336 #[.val (.int q1), .val (.int q2), .val (.int q3), .val (.int q4), .val (.int q5), .val (.int q6), .val (.int (Int32.ofNat i)), .val (.int (Int32.ofNat fr)), .val (.int nz), .val (.int cc), .val (.ref b2), .val (.ref b7), .val (.ref b14), .val (.ref b35), .val (.int (HV i nz cc q3 q4 q5 q2)), .unset] [(.int cc)]))
        by_cases hc336_63 : cc = (0 : Int32)
        · refine OGo.st (fun t k => XS.ifNo X53.here hx rfl (hb hby at_336) rfl ((if0 _ _).trans (teq hc336_63).2) k) ?_
          show OGo p e below _ (T53.setTop (mkF m 339 #[.val (.int q1), .val (.int q2), .val (.int q3), .val (.int q4), .val (.int q5), .val (.int q6), .val (.int (Int32.ofNat i)), .val (.int (Int32.ofNat fr)), .val (.int nz), .val (.int cc), .val (.ref b2), .val (.ref b7), .val (.ref b14), .val (.ref b35), .val (.int (HV i nz cc q3 q4 q5 q2)), .unset] []))
          refine OGo.st (fun t k => XS.iloadN X53.here hx rfl (hb hby at_339) rfl k) ?_
          show OGo p e below _ (T53.setTop (mkF m 340 #[.val (.int q1), .val (.int q2), .val (.int q3), .val (.int q4), .val (.int q5), .val (.int q6), .val (.int (Int32.ofNat i)), .val (.int (Int32.ofNat fr)), .val (.int nz), .val (.int cc), .val (.ref b2), .val (.ref b7), .val (.ref b14), .val (.ref b35), .val (.int (HV i nz cc q3 q4 q5 q2)), .unset] [(.int q2)]))
          refine OGo.st (fun t k => XS.bipush X53.here hx rfl (hb hby at_340) k) ?_
          show OGo p e below _ (T53.setTop (mkF m 342 #[.val (.int q1), .val (.int q2), .val (.int q3), .val (.int q4), .val (.int q5), .val (.int q6), .val (.int (Int32.ofNat i)), .val (.int (Int32.ofNat fr)), .val (.int nz), .val (.int cc), .val (.ref b2), .val (.ref b7), .val (.ref b14), .val (.ref b35), .val (.int (HV i nz cc q3 q4 q5 q2)), .unset] [(.int (31 : Int32)), (.int q2)]))
          refine OGo.st (fun t k => XS.imul X53.here hx rfl (hb hby at_342) rfl k) ?_
          show OGo p e below _ (T53.setTop (mkF m 343 #[.val (.int q1), .val (.int q2), .val (.int q3), .val (.int q4), .val (.int q5), .val (.int q6), .val (.int (Int32.ofNat i)), .val (.int (Int32.ofNat fr)), .val (.int nz), .val (.int cc), .val (.ref b2), .val (.ref b7), .val (.ref b14), .val (.ref b35), .val (.int (HV i nz cc q3 q4 q5 q2)), .unset] [(.int (q2 * (31 : Int32)))]))
          refine OGo.st (fun t k => XS.iload X53.here hx rfl (hb hby at_343) rfl k) ?_
          show OGo p e below _ (T53.setTop (mkF m 345 #[.val (.int q1), .val (.int q2), .val (.int q3), .val (.int q4), .val (.int q5), .val (.int q6), .val (.int (Int32.ofNat i)), .val (.int (Int32.ofNat fr)), .val (.int nz), .val (.int cc), .val (.ref b2), .val (.ref b7), .val (.ref b14), .val (.ref b35), .val (.int (HV i nz cc q3 q4 q5 q2)), .unset] [(.int q5), (.int (q2 * (31 : Int32)))]))
          refine OGo.st (fun t k => XS.iadd X53.here hx rfl (hb hby at_345) rfl k) ?_
          show OGo p e below _ (T53.setTop (mkF m 346 #[.val (.int q1), .val (.int q2), .val (.int q3), .val (.int q4), .val (.int q5), .val (.int q6), .val (.int (Int32.ofNat i)), .val (.int (Int32.ofNat fr)), .val (.int nz), .val (.int cc), .val (.ref b2), .val (.ref b7), .val (.ref b14), .val (.ref b35), .val (.int (HV i nz cc q3 q4 q5 q2)), .unset] [(.int ((q2 * (31 : Int32)) + q5))]))
          refine OGo.st (fun t k => XS.istore X53.here hx rfl (hb hby at_346) rfl (l' := #[.val (.int q1), .val (.int q2), .val (.int q3), .val (.int q4), .val (.int q5), .val (.int q6), .val (.int (Int32.ofNat i)), .val (.int (Int32.ofNat fr)), .val (.int nz), .val (.int cc), .val (.ref b2), .val (.ref b7), .val (.ref b14), .val (.ref b35), .val (.int (HV i nz cc q3 q4 q5 q2)), .val (.int ((q2 * (31 : Int32)) + q5))]) rfl k) ?_
          show OGo p e below _ (T53.setTop (mkF m 348 #[.val (.int q1), .val (.int q2), .val (.int q3), .val (.int q4), .val (.int q5), .val (.int q6), .val (.int (Int32.ofNat i)), .val (.int (Int32.ofNat fr)), .val (.int nz), .val (.int cc), .val (.ref b2), .val (.ref b7), .val (.ref b14), .val (.ref b35), .val (.int (HV i nz cc q3 q4 q5 q2)), .val (.int ((q2 * (31 : Int32)) + q5))] []))
          refine OGo.st (fun t k => XS.goto X53.here hx rfl (pc0 := 348) (pc' := 419) rfl (hb hby at_348) (by decide) (by decide) k) ?_
          show OGo p e below _ (T53.setTop (mkF m 419 #[.val (.int q1), .val (.int q2), .val (.int q3), .val (.int q4), .val (.int q5), .val (.int q6), .val (.int (Int32.ofNat i)), .val (.int (Int32.ofNat fr)), .val (.int nz), .val (.int cc), .val (.ref b2), .val (.ref b7), .val (.ref b14), .val (.ref b35), .val (.int (HV i nz cc q3 q4 q5 q2)), .val (.int ((q2 * (31 : Int32)) + q5))] []))
          refine OGo.st (fun t k => XS.iload X53.here hx rfl (hb hby at_419) rfl k) ?_
          show OGo p e below _ (T53.setTop (mkF m 421 #[.val (.int q1), .val (.int q2), .val (.int q3), .val (.int q4), .val (.int q5), .val (.int q6), .val (.int (Int32.ofNat i)), .val (.int (Int32.ofNat fr)), .val (.int nz), .val (.int cc), .val (.ref b2), .val (.ref b7), .val (.ref b14), .val (.ref b35), .val (.int (HV i nz cc q3 q4 q5 q2)), .val (.int ((q2 * (31 : Int32)) + q5))] [(.int (HV i nz cc q3 q4 q5 q2))]))
          refine OGo.st (fun t k => XS.iload X53.here hx rfl (hb hby at_421) rfl k) ?_
          show OGo p e below _ (T53.setTop (mkF m 423 #[.val (.int q1), .val (.int q2), .val (.int q3), .val (.int q4), .val (.int q5), .val (.int q6), .val (.int (Int32.ofNat i)), .val (.int (Int32.ofNat fr)), .val (.int nz), .val (.int cc), .val (.ref b2), .val (.ref b7), .val (.ref b14), .val (.ref b35), .val (.int (HV i nz cc q3 q4 q5 q2)), .val (.int ((q2 * (31 : Int32)) + q5))] [(.int ((q2 * (31 : Int32)) + q5)), (.int (HV i nz cc q3 q4 q5 q2))]))
          refine OGo.st (fun t k => XS.icmpNo X53.here hx rfl (hb hby at_423) rfl (teq (own_r4 hi hc269_59 hc281_60 hc298_61 hc336_63)).2 k) ?_
          show OGo p e below _ (T53.setTop (mkF m 426 #[.val (.int q1), .val (.int q2), .val (.int q3), .val (.int q4), .val (.int q5), .val (.int q6), .val (.int (Int32.ofNat i)), .val (.int (Int32.ofNat fr)), .val (.int nz), .val (.int cc), .val (.ref b2), .val (.ref b7), .val (.ref b14), .val (.ref b35), .val (.int (HV i nz cc q3 q4 q5 q2)), .val (.int ((q2 * (31 : Int32)) + q5))] []))
          refine OGo.st (fun t k => XS.iconst X53.here hx rfl (hb hby at_426) k) ?_
          show OGo p e below _ (T53.setTop (mkF m 427 #[.val (.int q1), .val (.int q2), .val (.int q3), .val (.int q4), .val (.int q5), .val (.int q6), .val (.int (Int32.ofNat i)), .val (.int (Int32.ofNat fr)), .val (.int nz), .val (.int cc), .val (.ref b2), .val (.ref b7), .val (.ref b14), .val (.ref b35), .val (.int (HV i nz cc q3 q4 q5 q2)), .val (.int ((q2 * (31 : Int32)) + q5))] [(.int (1 : Int32))]))
          refine OGo.st (fun t k => XS.goto X53.here hx rfl (pc0 := 427) (pc' := 431) rfl (hb hby at_427) (by decide) (by decide) k) ?_
          show OGo p e below _ (T53.setTop (mkF m 431 #[.val (.int q1), .val (.int q2), .val (.int q3), .val (.int q4), .val (.int q5), .val (.int q6), .val (.int (Int32.ofNat i)), .val (.int (Int32.ofNat fr)), .val (.int nz), .val (.int cc), .val (.ref b2), .val (.ref b7), .val (.ref b14), .val (.ref b35), .val (.int (HV i nz cc q3 q4 q5 q2)), .val (.int ((q2 * (31 : Int32)) + q5))] [(.int (1 : Int32))]))
          exact OGo.outN X53 hx (t := .boolean) Bd.returns (by simp) Bd.notSynchronized (hb hby at_431) ⟨rfl, N53⟩ (by decide) (by decide)
        · refine OGo.st (fun t k => XS.ifYes X53.here hx rfl (pc0 := 336) (pc' := 351) rfl (hb hby at_336) rfl ((if0 _ _).trans (feq hc336_63).2) (by decide) (by decide) k) ?_
          show OGo p e below _ (T53.setTop (mkF m 351 #[.val (.int q1), .val (.int q2), .val (.int q3), .val (.int q4), .val (.int q5), .val (.int q6), .val (.int (Int32.ofNat i)), .val (.int (Int32.ofNat fr)), .val (.int nz), .val (.int cc), .val (.ref b2), .val (.ref b7), .val (.ref b14), .val (.ref b35), .val (.int (HV i nz cc q3 q4 q5 q2)), .unset] []))
          refine OGo.st (fun t k => XS.iload X53.here hx rfl (hb hby at_351) rfl k) ?_
          show OGo p e below _ (T53.setTop (mkF m 353 #[.val (.int q1), .val (.int q2), .val (.int q3), .val (.int q4), .val (.int q5), .val (.int q6), .val (.int (Int32.ofNat i)), .val (.int (Int32.ofNat fr)), .val (.int nz), .val (.int cc), .val (.ref b2), .val (.ref b7), .val (.ref b14), .val (.ref b35), .val (.int (HV i nz cc q3 q4 q5 q2)), .unset] [(.int cc)]))
          refine OGo.st (fun t k => XS.iconst X53.here hx rfl (hb hby at_353) k) ?_
          show OGo p e below _ (T53.setTop (mkF m 354 #[.val (.int q1), .val (.int q2), .val (.int q3), .val (.int q4), .val (.int q5), .val (.int q6), .val (.int (Int32.ofNat i)), .val (.int (Int32.ofNat fr)), .val (.int nz), .val (.int cc), .val (.ref b2), .val (.ref b7), .val (.ref b14), .val (.ref b35), .val (.int (HV i nz cc q3 q4 q5 q2)), .unset] [(.int (1 : Int32)), (.int cc)]))
          by_cases hc354_64 : cc = (1 : Int32)
          · refine OGo.st (fun t k => XS.icmpNo X53.here hx rfl (hb hby at_354) rfl (teq hc354_64).2 k) ?_
            show OGo p e below _ (T53.setTop (mkF m 357 #[.val (.int q1), .val (.int q2), .val (.int q3), .val (.int q4), .val (.int q5), .val (.int q6), .val (.int (Int32.ofNat i)), .val (.int (Int32.ofNat fr)), .val (.int nz), .val (.int cc), .val (.ref b2), .val (.ref b7), .val (.ref b14), .val (.ref b35), .val (.int (HV i nz cc q3 q4 q5 q2)), .unset] []))
            refine OGo.st (fun t k => XS.iloadN X53.here hx rfl (hb hby at_357) rfl k) ?_
            show OGo p e below _ (T53.setTop (mkF m 358 #[.val (.int q1), .val (.int q2), .val (.int q3), .val (.int q4), .val (.int q5), .val (.int q6), .val (.int (Int32.ofNat i)), .val (.int (Int32.ofNat fr)), .val (.int nz), .val (.int cc), .val (.ref b2), .val (.ref b7), .val (.ref b14), .val (.ref b35), .val (.int (HV i nz cc q3 q4 q5 q2)), .unset] [(.int q2)]))
            refine OGo.st (fun t k => XS.sipush X53.here hx rfl (hb hby at_358) k) ?_
            show OGo p e below _ (T53.setTop (mkF m 361 #[.val (.int q1), .val (.int q2), .val (.int q3), .val (.int q4), .val (.int q5), .val (.int q6), .val (.int (Int32.ofNat i)), .val (.int (Int32.ofNat fr)), .val (.int nz), .val (.int cc), .val (.ref b2), .val (.ref b7), .val (.ref b14), .val (.ref b35), .val (.int (HV i nz cc q3 q4 q5 q2)), .unset] [(.int (961 : Int32)), (.int q2)]))
            refine OGo.st (fun t k => XS.imul X53.here hx rfl (hb hby at_361) rfl k) ?_
            show OGo p e below _ (T53.setTop (mkF m 362 #[.val (.int q1), .val (.int q2), .val (.int q3), .val (.int q4), .val (.int q5), .val (.int q6), .val (.int (Int32.ofNat i)), .val (.int (Int32.ofNat fr)), .val (.int nz), .val (.int cc), .val (.ref b2), .val (.ref b7), .val (.ref b14), .val (.ref b35), .val (.int (HV i nz cc q3 q4 q5 q2)), .unset] [(.int (q2 * (961 : Int32)))]))
            refine OGo.st (fun t k => XS.iload X53.here hx rfl (hb hby at_362) rfl k) ?_
            show OGo p e below _ (T53.setTop (mkF m 364 #[.val (.int q1), .val (.int q2), .val (.int q3), .val (.int q4), .val (.int q5), .val (.int q6), .val (.int (Int32.ofNat i)), .val (.int (Int32.ofNat fr)), .val (.int nz), .val (.int cc), .val (.ref b2), .val (.ref b7), .val (.ref b14), .val (.ref b35), .val (.int (HV i nz cc q3 q4 q5 q2)), .unset] [(.int q5), (.int (q2 * (961 : Int32)))]))
            refine OGo.st (fun t k => XS.bipush X53.here hx rfl (hb hby at_364) k) ?_
            show OGo p e below _ (T53.setTop (mkF m 366 #[.val (.int q1), .val (.int q2), .val (.int q3), .val (.int q4), .val (.int q5), .val (.int q6), .val (.int (Int32.ofNat i)), .val (.int (Int32.ofNat fr)), .val (.int nz), .val (.int cc), .val (.ref b2), .val (.ref b7), .val (.ref b14), .val (.ref b35), .val (.int (HV i nz cc q3 q4 q5 q2)), .unset] [(.int (31 : Int32)), (.int q5), (.int (q2 * (961 : Int32)))]))
            refine OGo.st (fun t k => XS.imul X53.here hx rfl (hb hby at_366) rfl k) ?_
            show OGo p e below _ (T53.setTop (mkF m 367 #[.val (.int q1), .val (.int q2), .val (.int q3), .val (.int q4), .val (.int q5), .val (.int q6), .val (.int (Int32.ofNat i)), .val (.int (Int32.ofNat fr)), .val (.int nz), .val (.int cc), .val (.ref b2), .val (.ref b7), .val (.ref b14), .val (.ref b35), .val (.int (HV i nz cc q3 q4 q5 q2)), .unset] [(.int (q5 * (31 : Int32))), (.int (q2 * (961 : Int32)))]))
            refine OGo.st (fun t k => XS.iadd X53.here hx rfl (hb hby at_367) rfl k) ?_
            show OGo p e below _ (T53.setTop (mkF m 368 #[.val (.int q1), .val (.int q2), .val (.int q3), .val (.int q4), .val (.int q5), .val (.int q6), .val (.int (Int32.ofNat i)), .val (.int (Int32.ofNat fr)), .val (.int nz), .val (.int cc), .val (.ref b2), .val (.ref b7), .val (.ref b14), .val (.ref b35), .val (.int (HV i nz cc q3 q4 q5 q2)), .unset] [(.int ((q2 * (961 : Int32)) + (q5 * (31 : Int32))))]))
            refine OGo.st (fun t k => XS.iloadN X53.here hx rfl (hb hby at_368) rfl k) ?_
            show OGo p e below _ (T53.setTop (mkF m 369 #[.val (.int q1), .val (.int q2), .val (.int q3), .val (.int q4), .val (.int q5), .val (.int q6), .val (.int (Int32.ofNat i)), .val (.int (Int32.ofNat fr)), .val (.int nz), .val (.int cc), .val (.ref b2), .val (.ref b7), .val (.ref b14), .val (.ref b35), .val (.int (HV i nz cc q3 q4 q5 q2)), .unset] [(.int q3), (.int ((q2 * (961 : Int32)) + (q5 * (31 : Int32))))]))
            refine OGo.st (fun t k => XS.iadd X53.here hx rfl (hb hby at_369) rfl k) ?_
            show OGo p e below _ (T53.setTop (mkF m 370 #[.val (.int q1), .val (.int q2), .val (.int q3), .val (.int q4), .val (.int q5), .val (.int q6), .val (.int (Int32.ofNat i)), .val (.int (Int32.ofNat fr)), .val (.int nz), .val (.int cc), .val (.ref b2), .val (.ref b7), .val (.ref b14), .val (.ref b35), .val (.int (HV i nz cc q3 q4 q5 q2)), .unset] [(.int (((q2 * (961 : Int32)) + (q5 * (31 : Int32))) + q3))]))
            refine OGo.st (fun t k => XS.istore X53.here hx rfl (hb hby at_370) rfl (l' := #[.val (.int q1), .val (.int q2), .val (.int q3), .val (.int q4), .val (.int q5), .val (.int q6), .val (.int (Int32.ofNat i)), .val (.int (Int32.ofNat fr)), .val (.int nz), .val (.int cc), .val (.ref b2), .val (.ref b7), .val (.ref b14), .val (.ref b35), .val (.int (HV i nz cc q3 q4 q5 q2)), .val (.int (((q2 * (961 : Int32)) + (q5 * (31 : Int32))) + q3))]) rfl k) ?_
            show OGo p e below _ (T53.setTop (mkF m 372 #[.val (.int q1), .val (.int q2), .val (.int q3), .val (.int q4), .val (.int q5), .val (.int q6), .val (.int (Int32.ofNat i)), .val (.int (Int32.ofNat fr)), .val (.int nz), .val (.int cc), .val (.ref b2), .val (.ref b7), .val (.ref b14), .val (.ref b35), .val (.int (HV i nz cc q3 q4 q5 q2)), .val (.int (((q2 * (961 : Int32)) + (q5 * (31 : Int32))) + q3))] []))
            refine OGo.st (fun t k => XS.goto X53.here hx rfl (pc0 := 372) (pc' := 419) rfl (hb hby at_372) (by decide) (by decide) k) ?_
            show OGo p e below _ (T53.setTop (mkF m 419 #[.val (.int q1), .val (.int q2), .val (.int q3), .val (.int q4), .val (.int q5), .val (.int q6), .val (.int (Int32.ofNat i)), .val (.int (Int32.ofNat fr)), .val (.int nz), .val (.int cc), .val (.ref b2), .val (.ref b7), .val (.ref b14), .val (.ref b35), .val (.int (HV i nz cc q3 q4 q5 q2)), .val (.int (((q2 * (961 : Int32)) + (q5 * (31 : Int32))) + q3))] []))
            refine OGo.st (fun t k => XS.iload X53.here hx rfl (hb hby at_419) rfl k) ?_
            show OGo p e below _ (T53.setTop (mkF m 421 #[.val (.int q1), .val (.int q2), .val (.int q3), .val (.int q4), .val (.int q5), .val (.int q6), .val (.int (Int32.ofNat i)), .val (.int (Int32.ofNat fr)), .val (.int nz), .val (.int cc), .val (.ref b2), .val (.ref b7), .val (.ref b14), .val (.ref b35), .val (.int (HV i nz cc q3 q4 q5 q2)), .val (.int (((q2 * (961 : Int32)) + (q5 * (31 : Int32))) + q3))] [(.int (HV i nz cc q3 q4 q5 q2))]))
            refine OGo.st (fun t k => XS.iload X53.here hx rfl (hb hby at_421) rfl k) ?_
            show OGo p e below _ (T53.setTop (mkF m 423 #[.val (.int q1), .val (.int q2), .val (.int q3), .val (.int q4), .val (.int q5), .val (.int q6), .val (.int (Int32.ofNat i)), .val (.int (Int32.ofNat fr)), .val (.int nz), .val (.int cc), .val (.ref b2), .val (.ref b7), .val (.ref b14), .val (.ref b35), .val (.int (HV i nz cc q3 q4 q5 q2)), .val (.int (((q2 * (961 : Int32)) + (q5 * (31 : Int32))) + q3))] [(.int (((q2 * (961 : Int32)) + (q5 * (31 : Int32))) + q3)), (.int (HV i nz cc q3 q4 q5 q2))]))
            refine OGo.st (fun t k => XS.icmpNo X53.here hx rfl (hb hby at_423) rfl (teq (own_r5 hi hc269_59 hc281_60 hc298_61 hc336_63 hc354_64)).2 k) ?_
            show OGo p e below _ (T53.setTop (mkF m 426 #[.val (.int q1), .val (.int q2), .val (.int q3), .val (.int q4), .val (.int q5), .val (.int q6), .val (.int (Int32.ofNat i)), .val (.int (Int32.ofNat fr)), .val (.int nz), .val (.int cc), .val (.ref b2), .val (.ref b7), .val (.ref b14), .val (.ref b35), .val (.int (HV i nz cc q3 q4 q5 q2)), .val (.int (((q2 * (961 : Int32)) + (q5 * (31 : Int32))) + q3))] []))
            refine OGo.st (fun t k => XS.iconst X53.here hx rfl (hb hby at_426) k) ?_
            show OGo p e below _ (T53.setTop (mkF m 427 #[.val (.int q1), .val (.int q2), .val (.int q3), .val (.int q4), .val (.int q5), .val (.int q6), .val (.int (Int32.ofNat i)), .val (.int (Int32.ofNat fr)), .val (.int nz), .val (.int cc), .val (.ref b2), .val (.ref b7), .val (.ref b14), .val (.ref b35), .val (.int (HV i nz cc q3 q4 q5 q2)), .val (.int (((q2 * (961 : Int32)) + (q5 * (31 : Int32))) + q3))] [(.int (1 : Int32))]))
            refine OGo.st (fun t k => XS.goto X53.here hx rfl (pc0 := 427) (pc' := 431) rfl (hb hby at_427) (by decide) (by decide) k) ?_
            show OGo p e below _ (T53.setTop (mkF m 431 #[.val (.int q1), .val (.int q2), .val (.int q3), .val (.int q4), .val (.int q5), .val (.int q6), .val (.int (Int32.ofNat i)), .val (.int (Int32.ofNat fr)), .val (.int nz), .val (.int cc), .val (.ref b2), .val (.ref b7), .val (.ref b14), .val (.ref b35), .val (.int (HV i nz cc q3 q4 q5 q2)), .val (.int (((q2 * (961 : Int32)) + (q5 * (31 : Int32))) + q3))] [(.int (1 : Int32))]))
            exact OGo.outN X53 hx (t := .boolean) Bd.returns (by simp) Bd.notSynchronized (hb hby at_431) ⟨rfl, N53⟩ (by decide) (by decide)
          · refine OGo.st (fun t k => XS.icmpYes X53.here hx rfl (pc0 := 354) (pc' := 375) rfl (hb hby at_354) rfl (feq hc354_64).2 (by decide) (by decide) k) ?_
            show OGo p e below _ (T53.setTop (mkF m 375 #[.val (.int q1), .val (.int q2), .val (.int q3), .val (.int q4), .val (.int q5), .val (.int q6), .val (.int (Int32.ofNat i)), .val (.int (Int32.ofNat fr)), .val (.int nz), .val (.int cc), .val (.ref b2), .val (.ref b7), .val (.ref b14), .val (.ref b35), .val (.int (HV i nz cc q3 q4 q5 q2)), .unset] []))
            refine OGo.st (fun t k => XS.iload X53.here hx rfl (hb hby at_375) rfl k) ?_
            show OGo p e below _ (T53.setTop (mkF m 377 #[.val (.int q1), .val (.int q2), .val (.int q3), .val (.int q4), .val (.int q5), .val (.int q6), .val (.int (Int32.ofNat i)), .val (.int (Int32.ofNat fr)), .val (.int nz), .val (.int cc), .val (.ref b2), .val (.ref b7), .val (.ref b14), .val (.ref b35), .val (.int (HV i nz cc q3 q4 q5 q2)), .unset] [(.int nz)]))
            by_cases hc377_65 : nz = (0 : Int32)
            · refine OGo.st (fun t k => XS.ifYes X53.here hx rfl (pc0 := 377) (pc' := 404) rfl (hb hby at_377) rfl ((if0 _ _).trans (teq hc377_65).1) (by decide) (by decide) k) ?_
              show OGo p e below _ (T53.setTop (mkF m 404 #[.val (.int q1), .val (.int q2), .val (.int q3), .val (.int q4), .val (.int q5), .val (.int q6), .val (.int (Int32.ofNat i)), .val (.int (Int32.ofNat fr)), .val (.int nz), .val (.int cc), .val (.ref b2), .val (.ref b7), .val (.ref b14), .val (.ref b35), .val (.int (HV i nz cc q3 q4 q5 q2)), .unset] []))
              refine OGo.st (fun t k => XS.iloadN X53.here hx rfl (hb hby at_404) rfl k) ?_
              show OGo p e below _ (T53.setTop (mkF m 405 #[.val (.int q1), .val (.int q2), .val (.int q3), .val (.int q4), .val (.int q5), .val (.int q6), .val (.int (Int32.ofNat i)), .val (.int (Int32.ofNat fr)), .val (.int nz), .val (.int cc), .val (.ref b2), .val (.ref b7), .val (.ref b14), .val (.ref b35), .val (.int (HV i nz cc q3 q4 q5 q2)), .unset] [(.int q2)]))
              refine OGo.st (fun t k => XS.sipush X53.here hx rfl (hb hby at_405) k) ?_
              show OGo p e below _ (T53.setTop (mkF m 408 #[.val (.int q1), .val (.int q2), .val (.int q3), .val (.int q4), .val (.int q5), .val (.int q6), .val (.int (Int32.ofNat i)), .val (.int (Int32.ofNat fr)), .val (.int nz), .val (.int cc), .val (.ref b2), .val (.ref b7), .val (.ref b14), .val (.ref b35), .val (.int (HV i nz cc q3 q4 q5 q2)), .unset] [(.int (961 : Int32)), (.int q2)]))
              refine OGo.st (fun t k => XS.imul X53.here hx rfl (hb hby at_408) rfl k) ?_
              show OGo p e below _ (T53.setTop (mkF m 409 #[.val (.int q1), .val (.int q2), .val (.int q3), .val (.int q4), .val (.int q5), .val (.int q6), .val (.int (Int32.ofNat i)), .val (.int (Int32.ofNat fr)), .val (.int nz), .val (.int cc), .val (.ref b2), .val (.ref b7), .val (.ref b14), .val (.ref b35), .val (.int (HV i nz cc q3 q4 q5 q2)), .unset] [(.int (q2 * (961 : Int32)))]))
              refine OGo.st (fun t k => XS.iload X53.here hx rfl (hb hby at_409) rfl k) ?_
              show OGo p e below _ (T53.setTop (mkF m 411 #[.val (.int q1), .val (.int q2), .val (.int q3), .val (.int q4), .val (.int q5), .val (.int q6), .val (.int (Int32.ofNat i)), .val (.int (Int32.ofNat fr)), .val (.int nz), .val (.int cc), .val (.ref b2), .val (.ref b7), .val (.ref b14), .val (.ref b35), .val (.int (HV i nz cc q3 q4 q5 q2)), .unset] [(.int q5), (.int (q2 * (961 : Int32)))]))
              refine OGo.st (fun t k => XS.bipush X53.here hx rfl (hb hby at_411) k) ?_
              show OGo p e below _ (T53.setTop (mkF m 413 #[.val (.int q1), .val (.int q2), .val (.int q3), .val (.int q4), .val (.int q5), .val (.int q6), .val (.int (Int32.ofNat i)), .val (.int (Int32.ofNat fr)), .val (.int nz), .val (.int cc), .val (.ref b2), .val (.ref b7), .val (.ref b14), .val (.ref b35), .val (.int (HV i nz cc q3 q4 q5 q2)), .unset] [(.int (31 : Int32)), (.int q5), (.int (q2 * (961 : Int32)))]))
              refine OGo.st (fun t k => XS.imul X53.here hx rfl (hb hby at_413) rfl k) ?_
              show OGo p e below _ (T53.setTop (mkF m 414 #[.val (.int q1), .val (.int q2), .val (.int q3), .val (.int q4), .val (.int q5), .val (.int q6), .val (.int (Int32.ofNat i)), .val (.int (Int32.ofNat fr)), .val (.int nz), .val (.int cc), .val (.ref b2), .val (.ref b7), .val (.ref b14), .val (.ref b35), .val (.int (HV i nz cc q3 q4 q5 q2)), .unset] [(.int (q5 * (31 : Int32))), (.int (q2 * (961 : Int32)))]))
              refine OGo.st (fun t k => XS.iadd X53.here hx rfl (hb hby at_414) rfl k) ?_
              show OGo p e below _ (T53.setTop (mkF m 415 #[.val (.int q1), .val (.int q2), .val (.int q3), .val (.int q4), .val (.int q5), .val (.int q6), .val (.int (Int32.ofNat i)), .val (.int (Int32.ofNat fr)), .val (.int nz), .val (.int cc), .val (.ref b2), .val (.ref b7), .val (.ref b14), .val (.ref b35), .val (.int (HV i nz cc q3 q4 q5 q2)), .unset] [(.int ((q2 * (961 : Int32)) + (q5 * (31 : Int32))))]))
              refine OGo.st (fun t k => XS.iloadN X53.here hx rfl (hb hby at_415) rfl k) ?_
              show OGo p e below _ (T53.setTop (mkF m 416 #[.val (.int q1), .val (.int q2), .val (.int q3), .val (.int q4), .val (.int q5), .val (.int q6), .val (.int (Int32.ofNat i)), .val (.int (Int32.ofNat fr)), .val (.int nz), .val (.int cc), .val (.ref b2), .val (.ref b7), .val (.ref b14), .val (.ref b35), .val (.int (HV i nz cc q3 q4 q5 q2)), .unset] [(.int q4), (.int ((q2 * (961 : Int32)) + (q5 * (31 : Int32))))]))
              refine OGo.st (fun t k => XS.iadd X53.here hx rfl (hb hby at_416) rfl k) ?_
              show OGo p e below _ (T53.setTop (mkF m 417 #[.val (.int q1), .val (.int q2), .val (.int q3), .val (.int q4), .val (.int q5), .val (.int q6), .val (.int (Int32.ofNat i)), .val (.int (Int32.ofNat fr)), .val (.int nz), .val (.int cc), .val (.ref b2), .val (.ref b7), .val (.ref b14), .val (.ref b35), .val (.int (HV i nz cc q3 q4 q5 q2)), .unset] [(.int (((q2 * (961 : Int32)) + (q5 * (31 : Int32))) + q4))]))
              refine OGo.st (fun t k => XS.istore X53.here hx rfl (hb hby at_417) rfl (l' := #[.val (.int q1), .val (.int q2), .val (.int q3), .val (.int q4), .val (.int q5), .val (.int q6), .val (.int (Int32.ofNat i)), .val (.int (Int32.ofNat fr)), .val (.int nz), .val (.int cc), .val (.ref b2), .val (.ref b7), .val (.ref b14), .val (.ref b35), .val (.int (HV i nz cc q3 q4 q5 q2)), .val (.int (((q2 * (961 : Int32)) + (q5 * (31 : Int32))) + q4))]) rfl k) ?_
              show OGo p e below _ (T53.setTop (mkF m 419 #[.val (.int q1), .val (.int q2), .val (.int q3), .val (.int q4), .val (.int q5), .val (.int q6), .val (.int (Int32.ofNat i)), .val (.int (Int32.ofNat fr)), .val (.int nz), .val (.int cc), .val (.ref b2), .val (.ref b7), .val (.ref b14), .val (.ref b35), .val (.int (HV i nz cc q3 q4 q5 q2)), .val (.int (((q2 * (961 : Int32)) + (q5 * (31 : Int32))) + q4))] []))
              refine OGo.st (fun t k => XS.iload X53.here hx rfl (hb hby at_419) rfl k) ?_
              show OGo p e below _ (T53.setTop (mkF m 421 #[.val (.int q1), .val (.int q2), .val (.int q3), .val (.int q4), .val (.int q5), .val (.int q6), .val (.int (Int32.ofNat i)), .val (.int (Int32.ofNat fr)), .val (.int nz), .val (.int cc), .val (.ref b2), .val (.ref b7), .val (.ref b14), .val (.ref b35), .val (.int (HV i nz cc q3 q4 q5 q2)), .val (.int (((q2 * (961 : Int32)) + (q5 * (31 : Int32))) + q4))] [(.int (HV i nz cc q3 q4 q5 q2))]))
              refine OGo.st (fun t k => XS.iload X53.here hx rfl (hb hby at_421) rfl k) ?_
              show OGo p e below _ (T53.setTop (mkF m 423 #[.val (.int q1), .val (.int q2), .val (.int q3), .val (.int q4), .val (.int q5), .val (.int q6), .val (.int (Int32.ofNat i)), .val (.int (Int32.ofNat fr)), .val (.int nz), .val (.int cc), .val (.ref b2), .val (.ref b7), .val (.ref b14), .val (.ref b35), .val (.int (HV i nz cc q3 q4 q5 q2)), .val (.int (((q2 * (961 : Int32)) + (q5 * (31 : Int32))) + q4))] [(.int (((q2 * (961 : Int32)) + (q5 * (31 : Int32))) + q4)), (.int (HV i nz cc q3 q4 q5 q2))]))
              refine OGo.st (fun t k => XS.icmpNo X53.here hx rfl (hb hby at_423) rfl (teq (own_r6 hi hc269_59 hc281_60 hc298_61 hc336_63 hc354_64 hc377_65)).2 k) ?_
              show OGo p e below _ (T53.setTop (mkF m 426 #[.val (.int q1), .val (.int q2), .val (.int q3), .val (.int q4), .val (.int q5), .val (.int q6), .val (.int (Int32.ofNat i)), .val (.int (Int32.ofNat fr)), .val (.int nz), .val (.int cc), .val (.ref b2), .val (.ref b7), .val (.ref b14), .val (.ref b35), .val (.int (HV i nz cc q3 q4 q5 q2)), .val (.int (((q2 * (961 : Int32)) + (q5 * (31 : Int32))) + q4))] []))
              refine OGo.st (fun t k => XS.iconst X53.here hx rfl (hb hby at_426) k) ?_
              show OGo p e below _ (T53.setTop (mkF m 427 #[.val (.int q1), .val (.int q2), .val (.int q3), .val (.int q4), .val (.int q5), .val (.int q6), .val (.int (Int32.ofNat i)), .val (.int (Int32.ofNat fr)), .val (.int nz), .val (.int cc), .val (.ref b2), .val (.ref b7), .val (.ref b14), .val (.ref b35), .val (.int (HV i nz cc q3 q4 q5 q2)), .val (.int (((q2 * (961 : Int32)) + (q5 * (31 : Int32))) + q4))] [(.int (1 : Int32))]))
              refine OGo.st (fun t k => XS.goto X53.here hx rfl (pc0 := 427) (pc' := 431) rfl (hb hby at_427) (by decide) (by decide) k) ?_
              show OGo p e below _ (T53.setTop (mkF m 431 #[.val (.int q1), .val (.int q2), .val (.int q3), .val (.int q4), .val (.int q5), .val (.int q6), .val (.int (Int32.ofNat i)), .val (.int (Int32.ofNat fr)), .val (.int nz), .val (.int cc), .val (.ref b2), .val (.ref b7), .val (.ref b14), .val (.ref b35), .val (.int (HV i nz cc q3 q4 q5 q2)), .val (.int (((q2 * (961 : Int32)) + (q5 * (31 : Int32))) + q4))] [(.int (1 : Int32))]))
              exact OGo.outN X53 hx (t := .boolean) Bd.returns (by simp) Bd.notSynchronized (hb hby at_431) ⟨rfl, N53⟩ (by decide) (by decide)
            · refine OGo.st (fun t k => XS.ifNo X53.here hx rfl (hb hby at_377) rfl ((if0 _ _).trans (feq hc377_65).1) k) ?_
              show OGo p e below _ (T53.setTop (mkF m 380 #[.val (.int q1), .val (.int q2), .val (.int q3), .val (.int q4), .val (.int q5), .val (.int q6), .val (.int (Int32.ofNat i)), .val (.int (Int32.ofNat fr)), .val (.int nz), .val (.int cc), .val (.ref b2), .val (.ref b7), .val (.ref b14), .val (.ref b35), .val (.int (HV i nz cc q3 q4 q5 q2)), .unset] []))
              refine OGo.st (fun t k => XS.iloadN X53.here hx rfl (hb hby at_380) rfl k) ?_
              show OGo p e below _ (T53.setTop (mkF m 381 #[.val (.int q1), .val (.int q2), .val (.int q3), .val (.int q4), .val (.int q5), .val (.int q6), .val (.int (Int32.ofNat i)), .val (.int (Int32.ofNat fr)), .val (.int nz), .val (.int cc), .val (.ref b2), .val (.ref b7), .val (.ref b14), .val (.ref b35), .val (.int (HV i nz cc q3 q4 q5 q2)), .unset] [(.int q2)]))
              refine OGo.st (fun t k => XS.sipush X53.here hx rfl (hb hby at_381) k) ?_
              show OGo p e below _ (T53.setTop (mkF m 384 #[.val (.int q1), .val (.int q2), .val (.int q3), .val (.int q4), .val (.int q5), .val (.int q6), .val (.int (Int32.ofNat i)), .val (.int (Int32.ofNat fr)), .val (.int nz), .val (.int cc), .val (.ref b2), .val (.ref b7), .val (.ref b14), .val (.ref b35), .val (.int (HV i nz cc q3 q4 q5 q2)), .unset] [(.int (29791 : Int32)), (.int q2)]))
              refine OGo.st (fun t k => XS.imul X53.here hx rfl (hb hby at_384) rfl k) ?_
              show OGo p e below _ (T53.setTop (mkF m 385 #[.val (.int q1), .val (.int q2), .val (.int q3), .val (.int q4), .val (.int q5), .val (.int q6), .val (.int (Int32.ofNat i)), .val (.int (Int32.ofNat fr)), .val (.int nz), .val (.int cc), .val (.ref b2), .val (.ref b7), .val (.ref b14), .val (.ref b35), .val (.int (HV i nz cc q3 q4 q5 q2)), .unset] [(.int (q2 * (29791 : Int32)))]))
              refine OGo.st (fun t k => XS.iload X53.here hx rfl (hb hby at_385) rfl k) ?_
              show OGo p e below _ (T53.setTop (mkF m 387 #[.val (.int q1), .val (.int q2), .val (.int q3), .val (.int q4), .val (.int q5), .val (.int q6), .val (.int (Int32.ofNat i)), .val (.int (Int32.ofNat fr)), .val (.int nz), .val (.int cc), .val (.ref b2), .val (.ref b7), .val (.ref b14), .val (.ref b35), .val (.int (HV i nz cc q3 q4 q5 q2)), .unset] [(.int q5), (.int (q2 * (29791 : Int32)))]))
              refine OGo.st (fun t k => XS.sipush X53.here hx rfl (hb hby at_387) k) ?_
              show OGo p e below _ (T53.setTop (mkF m 390 #[.val (.int q1), .val (.int q2), .val (.int q3), .val (.int q4), .val (.int q5), .val (.int q6), .val (.int (Int32.ofNat i)), .val (.int (Int32.ofNat fr)), .val (.int nz), .val (.int cc), .val (.ref b2), .val (.ref b7), .val (.ref b14), .val (.ref b35), .val (.int (HV i nz cc q3 q4 q5 q2)), .unset] [(.int (961 : Int32)), (.int q5), (.int (q2 * (29791 : Int32)))]))
              refine OGo.st (fun t k => XS.imul X53.here hx rfl (hb hby at_390) rfl k) ?_
              show OGo p e below _ (T53.setTop (mkF m 391 #[.val (.int q1), .val (.int q2), .val (.int q3), .val (.int q4), .val (.int q5), .val (.int q6), .val (.int (Int32.ofNat i)), .val (.int (Int32.ofNat fr)), .val (.int nz), .val (.int cc), .val (.ref b2), .val (.ref b7), .val (.ref b14), .val (.ref b35), .val (.int (HV i nz cc q3 q4 q5 q2)), .unset] [(.int (q5 * (961 : Int32))), (.int (q2 * (29791 : Int32)))]))
              refine OGo.st (fun t k => XS.iadd X53.here hx rfl (hb hby at_391) rfl k) ?_
              show OGo p e below _ (T53.setTop (mkF m 392 #[.val (.int q1), .val (.int q2), .val (.int q3), .val (.int q4), .val (.int q5), .val (.int q6), .val (.int (Int32.ofNat i)), .val (.int (Int32.ofNat fr)), .val (.int nz), .val (.int cc), .val (.ref b2), .val (.ref b7), .val (.ref b14), .val (.ref b35), .val (.int (HV i nz cc q3 q4 q5 q2)), .unset] [(.int ((q2 * (29791 : Int32)) + (q5 * (961 : Int32))))]))
              refine OGo.st (fun t k => XS.iloadN X53.here hx rfl (hb hby at_392) rfl k) ?_
              show OGo p e below _ (T53.setTop (mkF m 393 #[.val (.int q1), .val (.int q2), .val (.int q3), .val (.int q4), .val (.int q5), .val (.int q6), .val (.int (Int32.ofNat i)), .val (.int (Int32.ofNat fr)), .val (.int nz), .val (.int cc), .val (.ref b2), .val (.ref b7), .val (.ref b14), .val (.ref b35), .val (.int (HV i nz cc q3 q4 q5 q2)), .unset] [(.int q4), (.int ((q2 * (29791 : Int32)) + (q5 * (961 : Int32))))]))
              refine OGo.st (fun t k => XS.bipush X53.here hx rfl (hb hby at_393) k) ?_
              show OGo p e below _ (T53.setTop (mkF m 395 #[.val (.int q1), .val (.int q2), .val (.int q3), .val (.int q4), .val (.int q5), .val (.int q6), .val (.int (Int32.ofNat i)), .val (.int (Int32.ofNat fr)), .val (.int nz), .val (.int cc), .val (.ref b2), .val (.ref b7), .val (.ref b14), .val (.ref b35), .val (.int (HV i nz cc q3 q4 q5 q2)), .unset] [(.int (31 : Int32)), (.int q4), (.int ((q2 * (29791 : Int32)) + (q5 * (961 : Int32))))]))
              refine OGo.st (fun t k => XS.imul X53.here hx rfl (hb hby at_395) rfl k) ?_
              show OGo p e below _ (T53.setTop (mkF m 396 #[.val (.int q1), .val (.int q2), .val (.int q3), .val (.int q4), .val (.int q5), .val (.int q6), .val (.int (Int32.ofNat i)), .val (.int (Int32.ofNat fr)), .val (.int nz), .val (.int cc), .val (.ref b2), .val (.ref b7), .val (.ref b14), .val (.ref b35), .val (.int (HV i nz cc q3 q4 q5 q2)), .unset] [(.int (q4 * (31 : Int32))), (.int ((q2 * (29791 : Int32)) + (q5 * (961 : Int32))))]))
              refine OGo.st (fun t k => XS.iadd X53.here hx rfl (hb hby at_396) rfl k) ?_
              show OGo p e below _ (T53.setTop (mkF m 397 #[.val (.int q1), .val (.int q2), .val (.int q3), .val (.int q4), .val (.int q5), .val (.int q6), .val (.int (Int32.ofNat i)), .val (.int (Int32.ofNat fr)), .val (.int nz), .val (.int cc), .val (.ref b2), .val (.ref b7), .val (.ref b14), .val (.ref b35), .val (.int (HV i nz cc q3 q4 q5 q2)), .unset] [(.int (((q2 * (29791 : Int32)) + (q5 * (961 : Int32))) + (q4 * (31 : Int32))))]))
              refine OGo.st (fun t k => XS.iloadN X53.here hx rfl (hb hby at_397) rfl k) ?_
              show OGo p e below _ (T53.setTop (mkF m 398 #[.val (.int q1), .val (.int q2), .val (.int q3), .val (.int q4), .val (.int q5), .val (.int q6), .val (.int (Int32.ofNat i)), .val (.int (Int32.ofNat fr)), .val (.int nz), .val (.int cc), .val (.ref b2), .val (.ref b7), .val (.ref b14), .val (.ref b35), .val (.int (HV i nz cc q3 q4 q5 q2)), .unset] [(.int q3), (.int (((q2 * (29791 : Int32)) + (q5 * (961 : Int32))) + (q4 * (31 : Int32))))]))
              refine OGo.st (fun t k => XS.iadd X53.here hx rfl (hb hby at_398) rfl k) ?_
              show OGo p e below _ (T53.setTop (mkF m 399 #[.val (.int q1), .val (.int q2), .val (.int q3), .val (.int q4), .val (.int q5), .val (.int q6), .val (.int (Int32.ofNat i)), .val (.int (Int32.ofNat fr)), .val (.int nz), .val (.int cc), .val (.ref b2), .val (.ref b7), .val (.ref b14), .val (.ref b35), .val (.int (HV i nz cc q3 q4 q5 q2)), .unset] [(.int ((((q2 * (29791 : Int32)) + (q5 * (961 : Int32))) + (q4 * (31 : Int32))) + q3))]))
              refine OGo.st (fun t k => XS.istore X53.here hx rfl (hb hby at_399) rfl (l' := #[.val (.int q1), .val (.int q2), .val (.int q3), .val (.int q4), .val (.int q5), .val (.int q6), .val (.int (Int32.ofNat i)), .val (.int (Int32.ofNat fr)), .val (.int nz), .val (.int cc), .val (.ref b2), .val (.ref b7), .val (.ref b14), .val (.ref b35), .val (.int (HV i nz cc q3 q4 q5 q2)), .val (.int ((((q2 * (29791 : Int32)) + (q5 * (961 : Int32))) + (q4 * (31 : Int32))) + q3))]) rfl k) ?_
              show OGo p e below _ (T53.setTop (mkF m 401 #[.val (.int q1), .val (.int q2), .val (.int q3), .val (.int q4), .val (.int q5), .val (.int q6), .val (.int (Int32.ofNat i)), .val (.int (Int32.ofNat fr)), .val (.int nz), .val (.int cc), .val (.ref b2), .val (.ref b7), .val (.ref b14), .val (.ref b35), .val (.int (HV i nz cc q3 q4 q5 q2)), .val (.int ((((q2 * (29791 : Int32)) + (q5 * (961 : Int32))) + (q4 * (31 : Int32))) + q3))] []))
              refine OGo.st (fun t k => XS.goto X53.here hx rfl (pc0 := 401) (pc' := 419) rfl (hb hby at_401) (by decide) (by decide) k) ?_
              show OGo p e below _ (T53.setTop (mkF m 419 #[.val (.int q1), .val (.int q2), .val (.int q3), .val (.int q4), .val (.int q5), .val (.int q6), .val (.int (Int32.ofNat i)), .val (.int (Int32.ofNat fr)), .val (.int nz), .val (.int cc), .val (.ref b2), .val (.ref b7), .val (.ref b14), .val (.ref b35), .val (.int (HV i nz cc q3 q4 q5 q2)), .val (.int ((((q2 * (29791 : Int32)) + (q5 * (961 : Int32))) + (q4 * (31 : Int32))) + q3))] []))
              refine OGo.st (fun t k => XS.iload X53.here hx rfl (hb hby at_419) rfl k) ?_
              show OGo p e below _ (T53.setTop (mkF m 421 #[.val (.int q1), .val (.int q2), .val (.int q3), .val (.int q4), .val (.int q5), .val (.int q6), .val (.int (Int32.ofNat i)), .val (.int (Int32.ofNat fr)), .val (.int nz), .val (.int cc), .val (.ref b2), .val (.ref b7), .val (.ref b14), .val (.ref b35), .val (.int (HV i nz cc q3 q4 q5 q2)), .val (.int ((((q2 * (29791 : Int32)) + (q5 * (961 : Int32))) + (q4 * (31 : Int32))) + q3))] [(.int (HV i nz cc q3 q4 q5 q2))]))
              refine OGo.st (fun t k => XS.iload X53.here hx rfl (hb hby at_421) rfl k) ?_
              show OGo p e below _ (T53.setTop (mkF m 423 #[.val (.int q1), .val (.int q2), .val (.int q3), .val (.int q4), .val (.int q5), .val (.int q6), .val (.int (Int32.ofNat i)), .val (.int (Int32.ofNat fr)), .val (.int nz), .val (.int cc), .val (.ref b2), .val (.ref b7), .val (.ref b14), .val (.ref b35), .val (.int (HV i nz cc q3 q4 q5 q2)), .val (.int ((((q2 * (29791 : Int32)) + (q5 * (961 : Int32))) + (q4 * (31 : Int32))) + q3))] [(.int ((((q2 * (29791 : Int32)) + (q5 * (961 : Int32))) + (q4 * (31 : Int32))) + q3)), (.int (HV i nz cc q3 q4 q5 q2))]))
              refine OGo.st (fun t k => XS.icmpNo X53.here hx rfl (hb hby at_423) rfl (teq (own_r7 hi hc269_59 hc281_60 hc298_61 hc336_63 hc354_64 hc377_65)).2 k) ?_
              show OGo p e below _ (T53.setTop (mkF m 426 #[.val (.int q1), .val (.int q2), .val (.int q3), .val (.int q4), .val (.int q5), .val (.int q6), .val (.int (Int32.ofNat i)), .val (.int (Int32.ofNat fr)), .val (.int nz), .val (.int cc), .val (.ref b2), .val (.ref b7), .val (.ref b14), .val (.ref b35), .val (.int (HV i nz cc q3 q4 q5 q2)), .val (.int ((((q2 * (29791 : Int32)) + (q5 * (961 : Int32))) + (q4 * (31 : Int32))) + q3))] []))
              refine OGo.st (fun t k => XS.iconst X53.here hx rfl (hb hby at_426) k) ?_
              show OGo p e below _ (T53.setTop (mkF m 427 #[.val (.int q1), .val (.int q2), .val (.int q3), .val (.int q4), .val (.int q5), .val (.int q6), .val (.int (Int32.ofNat i)), .val (.int (Int32.ofNat fr)), .val (.int nz), .val (.int cc), .val (.ref b2), .val (.ref b7), .val (.ref b14), .val (.ref b35), .val (.int (HV i nz cc q3 q4 q5 q2)), .val (.int ((((q2 * (29791 : Int32)) + (q5 * (961 : Int32))) + (q4 * (31 : Int32))) + q3))] [(.int (1 : Int32))]))
              refine OGo.st (fun t k => XS.goto X53.here hx rfl (pc0 := 427) (pc' := 431) rfl (hb hby at_427) (by decide) (by decide) k) ?_
              show OGo p e below _ (T53.setTop (mkF m 431 #[.val (.int q1), .val (.int q2), .val (.int q3), .val (.int q4), .val (.int q5), .val (.int q6), .val (.int (Int32.ofNat i)), .val (.int (Int32.ofNat fr)), .val (.int nz), .val (.int cc), .val (.ref b2), .val (.ref b7), .val (.ref b14), .val (.ref b35), .val (.int (HV i nz cc q3 q4 q5 q2)), .val (.int ((((q2 * (29791 : Int32)) + (q5 * (961 : Int32))) + (q4 * (31 : Int32))) + q3))] [(.int (1 : Int32))]))
              exact OGo.outN X53 hx (t := .boolean) Bd.returns (by simp) Bd.notSynchronized (hb hby at_431) ⟨rfl, N53⟩ (by decide) (by decide)
set_option maxRecDepth 65536 in
set_option maxHeartbeats 40000000 in
theorem comes_1 {Post : Tables → Env → Array Value → State → Outcome → State → Prop} (hpost : ∀ tb e args s v u, (limb_1_1.after args s (.returned v) u = true ∧ limb_1_2.after args s (.returned v) u = true ∧ True) → FrameEnd s (.returned v) u (Jvm.fieldLocs frame_1_writes args s ++ Jvm.arrayLocs frame_1_arrays args s ++ Jvm.staticLocs frame_1_statics s) 24 128 → Post tb e args s (.returned v) u) :
    ArmFor flags0 classFile x code maxLocals ret World_1 tables_1 room_1 Calls_1 rest_1 Pre_1 Post := by
  intro l hfl _ _ p e ha hc hk s m args below hf hA hF happ hP
  obtain ⟨hcalls, hrest, hpre⟩ := hP
  obtain ⟨-, -, -, hnamed, -, -, -, hat⟩ := (Spec.applies_iff hf).mp happ
  obtain ⟨hg, hn⟩ := and_e (Cond.before_iff.mp (show (Jvm.Cond.and given_1 narrow_1).before args s = true from hpre))
  obtain ⟨gg1, gg2⟩ := and_e hg
  obtain ⟨gg3, gg4⟩ := and_e gg2
  obtain ⟨gg5, gg6⟩ := and_e gg4
  obtain ⟨gg7, gg8⟩ := and_e gg6
  obtain ⟨gg9, gg10⟩ := and_e gg8
  obtain ⟨gg11, gg12⟩ := and_e gg10
  obtain ⟨w0, w1, w2, w3, w4, w5, rfl⟩ : ∃ w0 w1 w2 w3 w4 w5 : Value, args = #[w0, w1, w2, w3, w4, w5] := by
    have hs : args.size = 6 := by simpa [Cond.value, given_1] using gg1
    obtain ⟨L⟩ := args
    match L, hs with
    | [w0, w1, w2, w3, w4, w5], _ => exact ⟨w0, w1, w2, w3, w4, w5, rfl⟩
  have hw := fun d (hd : d ∈ tables_1) => atoms_spec (ws := Jvm.Cond.code x code maxLocals ret :: tables_1) hat d (List.mem_cons_of_mem _ hd)
  obtain ⟨i0, ei0⟩ := is_v gg3
  obtain rfl : w0 = (.int i0) := Option.some.inj ei0
  obtain ⟨i1, ei1⟩ := is_v gg5
  obtain rfl : w1 = (.int i1) := Option.some.inj ei1
  obtain ⟨i2, ei2⟩ := is_v gg7
  obtain rfl : w2 = (.int i2) := Option.some.inj ei2
  obtain ⟨i3, ei3⟩ := is_v gg9
  obtain rfl : w3 = (.int i3) := Option.some.inj ei3
  obtain ⟨i4, ei4⟩ := is_v gg11
  obtain rfl : w4 = (.int i4) := Option.some.inj ei4
  obtain ⟨i5, ei5⟩ := is_v gg12
  obtain rfl : w5 = (.int i5) := Option.some.inj ei5
  obtain ⟨n, o, h1, h2, h3, _, L, rfl, ⟨rfl, N⟩, hq⟩ := rm0 l s _ hw tables_1 i0 i1 i2 i3 i4 i5 s.heap s.heap.size (Nat.le_refl _) p e ha hc hk s m _ below hf ((Spec.applies_iff_loose hf).mp happ).1 ⟨rfl, State.Warmed39.refl s, rfl⟩ trivial
  refine ⟨n, _, h1, h2, h3, hpost _ _ _ _ _ _ ⟨Cond.after_iff.mpr rfl, Cond.after_iff.mpr (eq_i res_at (Term.int_eval (1)) rfl), trivial⟩ ⟨hq.1, hq.2.1, (hq.2.2.sift fun y hy => Or.inr (N y hy)).mono (by decide) (by decide)⟩⟩
theorem main_1_1 : Claimed_1_1 := comes_1 fun _ _ _ _ _ _ h hF => ⟨h.1, hF⟩
theorem main_1_2 : Claimed_1_2 := comes_1 fun _ _ _ _ _ _ h hF => ⟨h.2.1, hF⟩
end Jvm.Pilot.@@N@@
namespace Jvm.Pilot.@@N@@
open Jvm Jvm.ClassFile Sem Op Lib Jvm.Free Jvm.Stand Jvm.Pilot.@@N@@.Jvm.D
/-! MADE BY PROGRAM (witnessworld.py) out of the Statement's table words and the real class files: 11 classes; the members and pool entries that the words name. The judged class is class 1, her method 1. -/
namespace start1
open Jvm.ClassFile
def u (s : String) : CpInfo := .utf8 (stringToUtf16 s)
/-- a pool by its gaps: so many unusable entries, then the entry; so many at the end -/
def gap : Nat → List CpInfo → List CpInfo
  | 0, r => r
  | n + 1, r => .unusable :: gap n r
def poolList (es : List (Nat × CpInfo)) (last : Nat) : List CpInfo := es.foldr (fun e r => gap e.1 (e.2 :: r)) (gap last [])
def pool (es : List (Nat × CpInfo)) (last : Nat) : Array CpInfo := ⟨poolList es last⟩
def fileOf (pool : Array CpInfo) (this : Nat) (attrs : Array Attribute := #[]) (ms : Array MethodInfo := #[]) (fl : Nat := 33) (sup : Nat := 0) (ifs : Array Nat := #[]) (fds : Array FieldInfo := #[]) : ClassFile where
  minorVersion := 0
  majorVersion := 65
  constantPool := pool
  accessFlags := fl
  thisClass := this
  superClass := sup
  interfaces := ifs
  fields := fds
  methods := ms
  attributes := attrs
def plain (name : String) (sup : Option ClassId) : Class where
  name := name
  kind := .ordinary
  loader := none
  accessFlags := 33
  super := sup
  interfaces := #[]
  cf := none
  fields := #[]
  methods := #[]
  instanceTypes := #[]
  staticTypes := #[]
  resolved := #[]
  callSites := []
  init := .initialized
  statics := none
  mirror := none

def pool0 : Array CpInfo := pool [(5, u "<init>"), (0, u "()V"), (1, .class_ 10), (1, u "java/lang/Object")] 113

def k0c0 : Code := { maxStack := 0, maxLocals := 1, code := object_method_1_code, exceptionTable := #[], attributes := #[] }
def k0m0 : Method := { name := "<init>", desc := "()V", sig := { parameters := [], returnType := none }, accessFlags := 1, code := some k0c0 }
/-- java/lang/Object -/
def k0 : Class := { plain "java/lang/Object" none with
  accessFlags := 33
  interfaces := #[]
  cf := some (fileOf pool0 8 #[] #[{ accessFlags := 1, nameIndex := 5, descriptorIndex := 6, attributes := #[] }] 33 0 #[] #[])
  fields := #[]
  methods := #[k0m0]
  instanceTypes := #[]
  staticTypes := #[]
  resolved := Array.replicate 124 none
  statics := none }

def pool1 : Array CpInfo := pool [(2, .class_ 4), (1, u "java/lang/Object"), (0, u "<init>"), (0, u "()V"), (0, .class_ 8), (0, u "com/example/triadne/triadne/CaptureKeys"), (0, .methodref 7 10), (0, .nameAndType 5 11), (0, u "([C[I[I[I)V"), (0, .methodref 7 13), (0, .nameAndType 14 15), (0, u "hash"), (0, u "(I[III)I"), (0, .class_ 17), (0, u "com/example/triadne/triadne/CaptureKeysHashPinLaw"), (2, u "law"), (0, u "(IIIIII)Z")] 5

def k1m0 : Method := { name := "<init>", desc := "()V", sig := { parameters := [], returnType := none }, accessFlags := 1, code := none }
def k1c1 : Code := { maxStack := 7, maxLocals := 16, code := code, exceptionTable := #[], attributes := #[] }
def k1m1 : Method := { name := "law", desc := "(IIIIII)Z", sig := { parameters := [.int, .int, .int, .int, .int, .int], returnType := some .boolean }, accessFlags := 9, code := some k1c1 }
/-- com/example/triadne/triadne/CaptureKeysHashPinLaw -/
def k1 : Class := { plain "com/example/triadne/triadne/CaptureKeysHashPinLaw" (some 0) with
  accessFlags := 49
  interfaces := #[]
  cf := some (fileOf pool1 16 #[] #[{ accessFlags := 1, nameIndex := 5, descriptorIndex := 6, attributes := #[] }, { accessFlags := 9, nameIndex := 20, descriptorIndex := 21, attributes := #[] }] 49 2 #[] #[])
  fields := #[]
  methods := #[k1m0, k1m1]
  instanceTypes := #[]
  staticTypes := #[]
  resolved := Array.replicate 27 none
  statics := none }

def pool2 : Array CpInfo := pool [(1, .methodref 2 3), (0, .class_ 4), (0, .nameAndType 5 6), (0, u "java/lang/Object"), (0, u "<init>"), (0, u "()V"), (0, .fieldref 8 9), (0, .class_ 10), (0, .nameAndType 11 12), (0, u "com/example/triadne/triadne/CaptureKeys"), (0, u "text"), (0, u "[C"), (0, .fieldref 8 14), (0, .nameAndType 15 16), (0, u "groups"), (0, u "[I"), (0, .fieldref 8 18), (0, .nameAndType 19 16), (0, u "innermostOpen"), (0, .fieldref 8 21), (0, .nameAndType 22 16), (0, u "openAround"), (0, .fieldref 8 24), (0, .nameAndType 25 16), (0, u "prefixes"), (0, .fieldref 8 27), (0, .nameAndType 28 16), (0, u "powers"), (0, .integer 2654435761), (6, u "hash"), (0, u "(I[III)I"), (20, u "MULTIPLIER"), (0, u "I"), (1, u "WEIGHT"), (0, u "([C[I[I[I)V")] 10

def k2c0 : Code := { maxStack := 5, maxLocals := 6, code := prog_17_method_1_code, exceptionTable := #[], attributes := #[] }
def k2m0 : Method := { name := "<init>", desc := "([C[I[I[I)V", sig := { parameters := [(.array .char), (.array .int), (.array .int), (.array .int)], returnType := none }, accessFlags := 0, code := some k2c0 }
def k2c1 : Code := { maxStack := 4, maxLocals := 7, code := prog_17_method_3_code, exceptionTable := #[], attributes := #[] }
def k2m1 : Method := { name := "hash", desc := "(I[III)I", sig := { parameters := [.int, (.array .int), .int, .int], returnType := some .int }, accessFlags := 0, code := some k2c1 }
/-- com/example/triadne/triadne/CaptureKeys -/
def k2 : Class := { plain "com/example/triadne/triadne/CaptureKeys" (some 0) with
  accessFlags := 48
  interfaces := #[]
  cf := some (fileOf pool2 8 #[] #[{ accessFlags := 0, nameIndex := 5, descriptorIndex := 62, attributes := #[] }, { accessFlags := 0, nameIndex := 36, descriptorIndex := 37, attributes := #[] }] 48 2 #[] #[{ accessFlags := 26, nameIndex := 58, descriptorIndex := 59, attributes := #[] }, { accessFlags := 26, nameIndex := 61, descriptorIndex := 59, attributes := #[] }, { accessFlags := 18, nameIndex := 11, descriptorIndex := 12, attributes := #[] }, { accessFlags := 18, nameIndex := 25, descriptorIndex := 16, attributes := #[] }, { accessFlags := 18, nameIndex := 28, descriptorIndex := 16, attributes := #[] }, { accessFlags := 18, nameIndex := 15, descriptorIndex := 16, attributes := #[] }, { accessFlags := 18, nameIndex := 19, descriptorIndex := 16, attributes := #[] }, { accessFlags := 18, nameIndex := 22, descriptorIndex := 16, attributes := #[] }])
  fields := #[{ name := "MULTIPLIER", type := .int, accessFlags := 26, slot := 0, constantValue := 0 }, { name := "WEIGHT", type := .int, accessFlags := 26, slot := 1, constantValue := 0 }, { name := "text", type := (.array .char), accessFlags := 18, slot := 0, constantValue := 0 }, { name := "prefixes", type := (.array .int), accessFlags := 18, slot := 1, constantValue := 0 }, { name := "powers", type := (.array .int), accessFlags := 18, slot := 2, constantValue := 0 }, { name := "groups", type := (.array .int), accessFlags := 18, slot := 3, constantValue := 0 }, { name := "innermostOpen", type := (.array .int), accessFlags := 18, slot := 4, constantValue := 0 }, { name := "openAround", type := (.array .int), accessFlags := 18, slot := 5, constantValue := 0 }]
  methods := #[k2m0, k2m1]
  instanceTypes := #[(.array .char), (.array .int), (.array .int), (.array .int), (.array .int), (.array .int)]
  staticTypes := #[.int, .int]
  resolved := Array.replicate 73 none
  statics := none }

def pool3 : Array CpInfo := pool [(1, u "java/lang/Cloneable"), (0, .class_ 1), (0, u "java/lang/Object"), (0, .class_ 3)] 3

/-- java/lang/Cloneable -/
def k3 : Class := { plain "java/lang/Cloneable" (some 0) with
  accessFlags := 1537
  interfaces := #[]
  cf := some (fileOf pool3 2 #[] #[] 1537 4 #[] #[])
  fields := #[]
  methods := #[]
  instanceTypes := #[]
  staticTypes := #[]
  resolved := Array.replicate 8 none
  statics := none }

def pool4 : Array CpInfo := pool [(1, u "java/io/Serializable"), (0, .class_ 1), (0, u "java/lang/Object"), (0, .class_ 3)] 3

/-- java/io/Serializable -/
def k4 : Class := { plain "java/io/Serializable" (some 0) with
  accessFlags := 1537
  interfaces := #[]
  cf := some (fileOf pool4 2 #[] #[] 1537 4 #[] #[])
  fields := #[]
  methods := #[]
  instanceTypes := #[]
  staticTypes := #[]
  resolved := Array.replicate 8 none
  statics := none }

/-- the primitive byte -/
def k5 : Class := { plain "byte" none with kind := .primitive 'B', accessFlags := 0x411 }
/-- [B -/
def k6 : Class := { plain "[B" (some 0) with kind := .array 5 .byte, interfaces := #[3, 4], accessFlags := 1041 }

/-- the primitive char -/
def k7 : Class := { plain "char" none with kind := .primitive 'C', accessFlags := 0x411 }
/-- [C -/
def k8 : Class := { plain "[C" (some 0) with kind := .array 7 .char, interfaces := #[3, 4], accessFlags := 1041 }

/-- the primitive int -/
def k9 : Class := { plain "int" none with kind := .primitive 'I', accessFlags := 0x411 }
/-- [I -/
def k10 : Class := { plain "[I" (some 0) with kind := .array 9 .int, interfaces := #[3, 4], accessFlags := 1041 }

def heap : Heap := #[]
def classes : Array Class := #[k0, k1, k2, k3, k4, k5, k6, k7, k8, k9, k10]
def interned : List (Array UInt16 × Addr) := []
def slotsUsed : Nat := 0
def theMethod : MethodId := ⟨1, 1⟩
def args0 : Array Value := #[.int 5, .int 300, .int 7, .int 8, .int 9, .int 10]
def aboutOver (below : List Frame) : State where
  vm := { classes := classes, interned := interned.toArray }
  heap := heap
  slotsUsed := slotsUsed
  threads := #[{ frames := .invoking theMethod args0 :: below }]
def below0 : List Frame := [.native { method := ⟨0, 0⟩, args := #[] }]
def about1 : State := aboutOver below0
def p0 : Program := .bare "" "" ""
def e0 : Env := launch0.env 0 0 0
theorem w_frames : about1.frames = Frame.invoking theMethod args0 :: below0 := rfl
set_option maxRecDepth 65536 in
theorem w_args : argsFit about1.vm theMethod args0 = true := by decide +kernel
set_option maxRecDepth 65536 in
theorem w_heap : heapFits about1 = true := by decide +kernel
set_option maxRecDepth 65536 in
theorem w_runnable : about1.curStatus? = some .runnable := by decide +kernel
set_option maxRecDepth 65536 in
theorem w_alone : about1.alone = true := by decide +kernel
set_option maxRecDepth 65536 in
theorem w_named : about1.methodNamed? x = some theMethod := by decide +kernel
set_option maxRecDepth 65536 in
theorem w_hears : about1.hears theMethod below0 = true := by decide +kernel
set_option maxRecDepth 65536 in
theorem w_ripe : about1.ripe theMethod args0 below0 = true := by decide +kernel
theorem w_running : about1.status = .running := rfl
set_option maxRecDepth 65536 in
theorem w_room : about1.hasRoom e0.platform room_1 = true :=
  launch0.hasRoom_least _ room_1 (by decide +kernel) (by decide +kernel) (by decide +kernel) (by decide +kernel) (by decide +kernel) (by decide +kernel)
theorem allAtoms_all (ts : List Jvm.Cond) (a : Array Jvm.Value) (st : Jvm.State) : (allAtoms ts).before a st = ts.all (fun c => c.before a st) := by
  induction ts with
  | nil => rfl
  | cons c t ih =>
    show (Jvm.Cond.and c (allAtoms t)).before a st = _
    rw [Jvm.Cond.before_and, ih, List.all_cons]
def words1 : List Jvm.Cond := Jvm.Cond.code x code maxLocals ret :: tables_1
/-- a 'code' word, met by the world's own term for the bytes: nothing is compared byte by byte -/
theorem code_word {y : MethodName} {bytes : ByteArray} {mx : Nat} {rt : Option FieldType} {a : Array Value} {s : State} {m : MethodId} {meth : Method} {c : Code} (h1 : s.methodNamed? y = some m) (h2 : s.vm.method? m = some meth) (h3 : meth.code = some c) (h4 : c.code = bytes)
    (h5 : (c.maxLocals == mx && c.exceptionTable.isEmpty && decide (c.maxStack ≤ mostOperands) && decide (meth.sig.returnType = rt) && !meth.locks && decide (parseMethodDescriptor y.desc = some meth.sig)) = true) : (Jvm.Cond.code y bytes mx rt).before a s = true := by
  simp only [Bool.and_eq_true, beq_iff_eq, Bool.not_eq_true', decide_eq_true_eq] at h5
  obtain ⟨⟨⟨⟨⟨g1, g2⟩, g3⟩, g4⟩, g5⟩, g6⟩ := h5
  simp [Cond.before, Cond.holds, Cond.value, h1, h2, h3, h4, g1, g2, g3, g4, g5, g6]
def isCode : Jvm.Cond → Bool
  | .code _ _ _ _ => true
  | _ => false
theorem all_split {L : List Jvm.Cond} {P : Jvm.Cond → Bool} (h1 : L.all (fun c => isCode c || P c) = true) (h2 : ∀ c ∈ L.filter isCode, P c = true) : L.all P = true := by
  refine List.all_eq_true.mpr fun c hc => ?_
  have h := List.all_eq_true.mp h1 c hc
  rcases Bool.eq_false_or_eq_true (isCode c) with hi | hi
  · exact h2 c (List.mem_filter.mpr ⟨hc, hi⟩)
  · simpa [hi] using h
set_option maxRecDepth 65536 in
theorem w_c0 : (Jvm.Cond.code x code maxLocals ret).before args0 about1 = true := code_word (m := ⟨1, 1⟩) (meth := k1m1) (c := k1c1) (by decide +kernel) rfl rfl rfl (by decide +kernel)
set_option maxRecDepth 65536 in
theorem w_c1 : (Jvm.Cond.code ({ cls := "com/example/triadne/triadne/CaptureKeys", name := "<init>", desc := "([C[I[I[I)V" } : Jvm.MethodName) prog_17_method_1_code (6 : Nat) (Option.none : Option Jvm.ClassFile.FieldType)).before args0 about1 = true := code_word (m := ⟨2, 0⟩) (meth := k2m0) (c := k2c0) (by decide +kernel) rfl rfl rfl (by decide +kernel)
set_option maxRecDepth 65536 in
theorem w_c2 : (Jvm.Cond.code ({ cls := "java/lang/Object", name := "<init>", desc := "()V" } : Jvm.MethodName) object_method_1_code (1 : Nat) (Option.none : Option Jvm.ClassFile.FieldType)).before args0 about1 = true := code_word (m := ⟨0, 0⟩) (meth := k0m0) (c := k0c0) (by decide +kernel) rfl rfl rfl (by decide +kernel)
set_option maxRecDepth 65536 in
theorem w_c3 : (Jvm.Cond.code ({ cls := "com/example/triadne/triadne/CaptureKeys", name := "hash", desc := "(I[III)I" } : Jvm.MethodName) prog_17_method_3_code (7 : Nat) (Option.some Jvm.ClassFile.FieldType.int)).before args0 about1 = true := code_word (m := ⟨2, 1⟩) (meth := k2m1) (c := k2c1) (by decide +kernel) rfl rfl rfl (by decide +kernel)
def codes1 : List Jvm.Cond := [Jvm.Cond.code x code maxLocals ret, Jvm.Cond.code ({ cls := "com/example/triadne/triadne/CaptureKeys", name := "<init>", desc := "([C[I[I[I)V" } : Jvm.MethodName) prog_17_method_1_code (6 : Nat) (Option.none : Option Jvm.ClassFile.FieldType), Jvm.Cond.code ({ cls := "java/lang/Object", name := "<init>", desc := "()V" } : Jvm.MethodName) object_method_1_code (1 : Nat) (Option.none : Option Jvm.ClassFile.FieldType), Jvm.Cond.code ({ cls := "com/example/triadne/triadne/CaptureKeys", name := "hash", desc := "(I[III)I" } : Jvm.MethodName) prog_17_method_3_code (7 : Nat) (Option.some Jvm.ClassFile.FieldType.int)]
set_option maxRecDepth 65536 in
theorem codes_eq : words1.filter isCode = codes1 := rfl
theorem w_codes : ∀ c ∈ words1.filter isCode, c.before args0 about1 = true := by
  rw [codes_eq]
  intro c hc
  simp only [codes1, List.mem_cons, List.not_mem_nil, or_false] at hc
  rcases hc with rfl | rfl | rfl | rfl
  · exact w_c0
  · exact w_c1
  · exact w_c2
  · exact w_c3
set_option maxRecDepth 65536 in
theorem w_t1 : (words1.take 24).all (fun c => isCode c || c.before args0 about1) = true := by decide +kernel
set_option maxRecDepth 65536 in
theorem w_t2 : (words1.drop 24).all (fun c => isCode c || c.before args0 about1) = true := by decide +kernel
theorem w_tables : (allAtoms (Jvm.Cond.code x code maxLocals ret :: tables_1)).before args0 about1 = true := by
  rw [allAtoms_all]
  show words1.all (fun c => c.before args0 about1) = true
  refine all_split ?_ w_codes
  rw [← List.take_append_drop 24 words1, List.all_append, w_t1, w_t2]
  rfl
set_option maxRecDepth 65536 in
theorem w_case : (Jvm.Cond.and given_1 narrow_1).before args0 about1 = true := by decide +kernel
theorem w_applies : (headSpec (Jvm.Cond.code x code maxLocals ret :: tables_1) room_1).applies x e0.platform about1 = true :=
  (Spec.applies_iff w_frames).mpr ⟨w_running, w_runnable, w_alone, w_named, w_hears, w_ripe, w_room, w_tables⟩
theorem atStart : AtStart classFile x code maxLocals ret World_1 tables_1 room_1 Calls_1 rest_1 Pre_1 launch0 p0 e0 about1 theMethod args0 below0 :=
  ⟨lists_1, trivial, launch0.admits_env _ _ _, launch0.least_env, fairChoices_fair.cas, fairChoices_fair.clock, w_frames, w_args, w_heap, w_applies, trivial, trivial, w_case⟩
end start1
theorem witness_1 : WitnessClaimed_1 := ⟨start1.p0, start1.e0, start1.about1, start1.theMethod, start1.args0, start1.below0, start1.atStart⟩
end Jvm.Pilot.@@N@@
