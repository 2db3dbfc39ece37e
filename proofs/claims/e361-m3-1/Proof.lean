import JvmDerived
import JvmDerived.Pilot.@@N@@Statement
import JvmDerived.Pilot.@@N@@Code
set_option linter.unusedVariables false
set_option linter.unusedSimpArgs false
namespace Jvm.RoadKit
open Sem ClassFile Op Lib Jvm.Stand Jvm.Free Jvm.LawKit
section New
variable {p : Program} {l : Launch} {e : Env} {R : Room} {s : State} {m : MethodId} {args : Array Value} {below : List Frame} {meth : Method} {c : Code} {T : State} {locs : List Loc} {cells slots : Nat}
theorem retI (X : Stand p l e R s m args below meth c T locs cells slots) (hx : p.tables.exec = Jvm.exec) {pc : Nat} {Ls : Array Slot} {z : Int32} {rest : List Value} (hret : meth.sig.returnType = some .int) (hd : decode c.code pc = .ok (.ireturn, 1)) {fs : List Frame}
    (hl : ∀ (f : JFrame) (acts : List Action), f.method = m → f.locked = none → f.entered = [] → (doReturn e (T.setTop f) acts (some (.int z))).1 = T.setFrames fs) : Steps p.tables e below (T.setTop (mkF m pc Ls (.int z :: rest))) (T.setFrames fs) := by
  have hm' : T.vm.method? m = some meth := X.method'
  have hn : narrow .int (.int z) = .int z := rfl
  show Steps p.tables e below (T.setTop { method := m, pc := pc, locals := Ls, stack := _ :: rest, locked := none }) _
  jvm_step X.here [X.here.top, hx, hd, hm', hret, hn]
  first | (intro acts; rw [hl _ acts rfl rfl rfl]) | rw [hl _ _ rfl rfl rfl]
  exact Steps.refl _
end New
end Jvm.RoadKit
namespace Jvm.Pilot.@@N@@
open Jvm Jvm.ClassFile Sem Op Lib Jvm.Free Jvm.Stand Jvm.LawKit Jvm.RoadKit Bundle Jvm.Pilot.@@N@@.Jvm.D
section Own
variable {p : Program} {l : Launch} {e : Env} {R : Room} {s : State} {m : MethodId} {args : Array Value} {below : List Frame} {meth : Method} {c : Code} {T : State} {locs : List Loc} {cells slots : Nat}
/-- from the state A the run comes to an end of the invocation of which Q holds -/
def OGo (p : Program) (e : Env) (below : List Frame) (Q : Outcome → State → Prop) (A : State) : Prop :=
  ∃ s₂ o, Steps p.tables e below A s₂ ∧ s₂.status = .running ∧ Ended s₂ below o ∧ Q o s₂
theorem OGo.st {Q : Outcome → State → Prop} {A B : State} (h : ∀ t, Steps p.tables e below B t → Steps p.tables e below A t) (g : OGo p e below Q B) : OGo p e below Q A := by
  obtain ⟨s₂, o, k, r⟩ := g
  exact ⟨s₂, o, h _ k, r⟩
/-- what a contract says of the end -/
def Out (s : State) (cells slots : Nat) (Q : Option Value → Heap → List Loc → Prop) (o : Outcome) (U : State) : Prop :=
  ∃ v L, o = .returned v ∧ Q v U.heap L ∧ FrameEnd s o U L cells slots
/-- it returns the int z (the long z), and the heap is as it was -/
def PI (n0 : Nat) (h0 : Heap) (z : Int32) (v : Option Value) (h : Heap) (L : List Loc) : Prop := v = some (.int z) ∧ Fr n0 L ∧ h = h0
def PJ (n0 : Nat) (h0 : Heap) (z : Int64) (v : Option Value) (h : Heap) (L : List Loc) : Prop := v = some (.long z) ∧ Fr n0 L ∧ h = h0
def PF (n0 : Nat) (z : Int32) (v : Option Value) (h : Heap) (L : List Loc) : Prop := v = some (.int z) ∧ Fr n0 L
theorem OGo.eqvF {C S n0 : Nat} {z z' : Int32} {A : State} (q : z = z') (g : OGo p e below (Out s C S (PF n0 z')) A) : OGo p e below (Out s C S (PF n0 z)) A := q ▸ g
theorem OGo.eqvI {C S n0 : Nat} {h0 : Heap} {z z' : Int32} {A : State} (q : z = z') (g : OGo p e below (Out s C S (PI n0 h0 z')) A) : OGo p e below (Out s C S (PI n0 h0 z)) A := q ▸ g
theorem OGo.eqvJ {C S n0 : Nat} {h0 : Heap} {z z' : Int64} {A : State} (q : z = z') (g : OGo p e below (Out s C S (PJ n0 h0 z')) A) : OGo p e below (Out s C S (PJ n0 h0 z)) A := q ▸ g
theorem OGo.outI (X : Stand p l e R s m args below meth c T locs cells slots) (hx : p.tables.exec = Jvm.exec) (hret : meth.sig.returnType = some .int) (hlk : meth.locks = false) {pc : Nat} {Ls : Array Slot} {z : Int32} {rest : List Value} (hd : decode c.code pc = .ok (.ireturn, 1))
    {Q : Option Value → Heap → List Loc → Prop} {C S : Nat} (hq : Q (some (.int z)) T.heap locs) (hC : cells ≤ C) (hS : slots ≤ S) : OGo p e below (Out s C S Q) (T.setTop (mkF m pc Ls (.int z :: rest))) := by
  obtain ⟨fs, hr, hrun, hended, hW, hsame⟩ := X.leave (v := some (.int z)) (fun h => by rw [hret] at h; cases h) hlk
  exact ⟨_, _, retI X hx hret hd hr, hrun, hended, _, _, rfl, hq, ⟨_, rfl⟩, hW, hsame.mono hC hS⟩
theorem OGo.outN (X : Stand p l e R s m args below meth c T locs cells slots) (hx : p.tables.exec = Jvm.exec) {t : FieldType} (hret : meth.sig.returnType = some t) (ht : t = .boolean ∨ t = .byte ∨ t = .char ∨ t = .short) (hlk : meth.locks = false) {pc : Nat} {Ls : Array Slot} {z : Int32} {rest : List Value} (hd : decode c.code pc = .ok (.ireturn, 1))
    {Q : Option Value → Heap → List Loc → Prop} {C S : Nat} (hq : Q (some (.int (nar t z))) T.heap locs) (hC : cells ≤ C) (hS : slots ≤ S) : OGo p e below (Out s C S Q) (T.setTop (mkF m pc Ls (.int z :: rest))) := by
  obtain ⟨fs, hr, hrun, hended, hW, hsame⟩ := X.leave (v := some (.int (nar t z))) (fun h => by rw [hret] at h; cases h) hlk
  exact ⟨_, _, retN X hx hret ht hd hr, hrun, hended, _, _, rfl, hq, ⟨_, rfl⟩, hW, hsame.mono hC hS⟩
theorem OGo.outJ (X : Stand p l e R s m args below meth c T locs cells slots) (hx : p.tables.exec = Jvm.exec) (hret : meth.sig.returnType = some .long) (hlk : meth.locks = false) {pc : Nat} {Ls : Array Slot} {z : Int64} (hd : decode c.code pc = .ok (.lreturn, 1))
    {Q : Option Value → Heap → List Loc → Prop} {C S : Nat} (hq : Q (some (.long z)) T.heap locs) (hC : cells ≤ C) (hS : slots ≤ S) : OGo p e below (Out s C S Q) (T.setTop (mkF m pc Ls [.long z])) := by
  obtain ⟨fs, hr, hrun, hended, hW, hsame⟩ := X.leave (v := some (.long z)) (fun h => by rw [hret] at h; cases h) hlk
  exact ⟨_, _, X.lreturnOut hx hret hd hr, hrun, hended, _, _, rfl, hq, ⟨_, rfl⟩, hW, hsame.mono hC hS⟩
theorem OGo.outV (X : Stand p l e R s m args below meth c T locs cells slots) (hx : p.tables.exec = Jvm.exec) (hret : meth.sig.returnType = none) (hlk : meth.locks = false) {pc : Nat} {Ls : Array Slot} (hd : decode c.code pc = .ok (.return_, 1))
    {Q : Option Value → Heap → List Loc → Prop} {C S : Nat} (hq : Q none T.heap locs) (hC : cells ≤ C) (hS : slots ≤ S) : OGo p e below (Out s C S Q) (T.setTop (mkF m pc Ls [])) := by
  obtain ⟨fs, hr, hrun, hended, hW, hsame⟩ := X.leave (v := none) (fun _ => rfl) hlk
  exact ⟨_, _, X.returnOut hx hret hd hr, hrun, hended, _, _, rfl, hq, ⟨_, rfl⟩, hW, hsame.mono hC hS⟩
end Own
section OwnH
variable {p : Program} {l : Launch} {e : Env} {R : Room} {s : State} {m : MethodId} {args : Array Value} {below : List Frame} {meth : Method} {c : Code} {T : State} {locs : List Loc} {cells slots : Nat} {Z : State} {a0 : Array Value} {h h' : Heap} {a b : Addr} {ty : FieldType} {n : Nat} {f : Nat → Int32}
def oset (f : Nat → Int32) (k : Nat) (x : Int32) : Nat → Int32 := fun j => if j = k then x else f j
/-- at a lies an array of kind ty, of n places, whose place i holds the int f i -/
def OA (Z : State) (h : Heap) (a : Addr) (ty : FieldType) (n : Nat) (f : Nat → Int32) : Prop := ∃ c : Cell, Arr Z h a c ty ∧ c.slots.size = n ∧ ∀ i, i < n → c.slots[i]? = some (.int (f i))
theorem OA.lt (A : OA Z h a ty n f) : a < h.size := by obtain ⟨c, A, -⟩ := A; exact A.lt
theorem OA.ext (A : OA Z h a ty n f) (E : Ext h h') : OA Z h' a ty n f := by obtain ⟨c, A, r⟩ := A; exact ⟨c, A.ext E, r⟩
theorem OA.other {sl : Nat} {v : Value} (A : OA Z h b ty n f) (W : Wr h h' a sl v) (q : b ≠ a) : OA Z h' b ty n f := by obtain ⟨c, A, r⟩ := A; exact ⟨c, A.other W q, r⟩
theorem OA.keep {ws : List Addr} (A : OA Z h a ty n f) (K : Keep h h' ws) (q : a ∉ ws) : OA Z h' a ty n f := by obtain ⟨c, A, r⟩ := A; exact ⟨c, ⟨K.2.1 a c A.1 q, A.2⟩, r⟩
theorem OA.new {k : ClassId} {z : Int32} (A : Arr Z h a (newA k ty z) ty) (hz : z.toNatClampNeg = n) (hd : defaultValue ty = .int 0) : OA Z h a ty n (fun _ => 0) :=
  ⟨_, A, (sz_new _ _ _).trans hz, fun i hi => by
    have e : (newA k ty z).slots = Array.replicate z.toNatClampNeg (defaultValue ty) := rfl
    rw [e, hz, hd, Array.getElem?_replicate, if_pos hi]⟩
theorem OA.set {k : Nat} {x : Int32} (A : OA Z h a ty n f) (W : Wr h h' a k (.int x)) : OA Z h' a ty n (oset f k x) := by
  obtain ⟨c, A, S, H⟩ := A
  have hs : (c.setSlot k (.int x)).slots = c.slots.setIfInBounds k (.int x) := rfl
  refine ⟨_, A.same W, ?_, fun i hi => ?_⟩
  · rw [hs, Array.size_setIfInBounds, S]
  · rw [hs]
    by_cases q : i = k
    · subst q
      rw [Array.getElem?_setIfInBounds_self_of_lt (by omega)]
      simp [oset]
    · rw [Array.getElem?_setIfInBounds_ne (Ne.symm q), H i hi]
      simp [oset, q]
theorem OA.eqf {g : Nat → Int32} (A : OA Z h a ty n f) (q : ∀ i, i < n → f i = g i) : OA Z h a ty n g := by
  obtain ⟨c, A, S, H⟩ := A
  exact ⟨c, A, S, fun i hi => by rw [H i hi, q i hi]⟩
theorem oin {cl : Cell} {j : Int32} {k : Nat} (S : cl.slots.size = n) (hj : ¬ j < 0) (hk : j.toNatClampNeg = k) (hkn : k < n) : ¬ (j < 0 ∨ cl.slots.size ≤ j.toNatClampNeg) := by
  rintro (q | q)
  · exact hj q
  · rw [S, hk] at q; omega
theorem OA.stI (X : Stand p l e R s m args below meth c T locs cells slots) (hx : p.tables.exec = Jvm.exec) (hZ : Z.Warmed39 s.vm) (eT : T.heap = h) (A : OA Z h a .int n f) {j x : Int32} {k : Nat} (hj : ¬ j < 0) (hk : j.toNatClampNeg = k) (hkn : k < n) {g : JFrame} (hg : g.method = m) {rest : List Value} (hs : g.stack = .int x :: .int j :: .ref a :: rest) (hd : decode c.code g.pc = .ok (.iastore, 1)) :
    ∃ T' h', Stand p l e R s m args below meth c T' (locs ++ [⟨a, k⟩]) cells slots ∧ T'.heap = h' ∧ Wr h h' a k (.int x) ∧ OA Z h' a .int n (oset f k x) ∧ ∀ target, Steps p.tables e below (T'.setTop { g with pc := g.pc + 1, stack := rest }) target → Steps p.tables e below (T.setTop g) target := by
  obtain ⟨cl, Ar, S, H⟩ := A
  obtain ⟨T', h', X', e', W, st⟩ := Jvm.RoadKit.stI X hx hZ eT Ar (j := j) (x := x) (oin S hj hk hkn) hg hs hd
  subst hk
  exact ⟨T', h', X', e', W, OA.set ⟨cl, Ar, S, H⟩ W, st⟩
theorem OA.stB (X : Stand p l e R s m args below meth c T locs cells slots) (hx : p.tables.exec = Jvm.exec) (hZ : Z.Warmed39 s.vm) (eT : T.heap = h) (A : OA Z h a .byte n f) {j x : Int32} {k : Nat} (hj : ¬ j < 0) (hk : j.toNatClampNeg = k) (hkn : k < n) {g : JFrame} (hg : g.method = m) {rest : List Value} (hs : g.stack = .int x :: .int j :: .ref a :: rest) (hd : decode c.code g.pc = .ok (.bastore, 1)) :
    ∃ T' h', Stand p l e R s m args below meth c T' (locs ++ [⟨a, k⟩]) cells slots ∧ T'.heap = h' ∧ Wr h h' a k (.int x.toInt8.toInt32) ∧ OA Z h' a .byte n (oset f k x.toInt8.toInt32) ∧ ∀ target, Steps p.tables e below (T'.setTop { g with pc := g.pc + 1, stack := rest }) target → Steps p.tables e below (T.setTop g) target := by
  obtain ⟨cl, Ar, S, H⟩ := A
  obtain ⟨T', h', X', e', W, st⟩ := Jvm.RoadKit.stB X hx hZ eT Ar (j := j) (x := x) (oin S hj hk hkn) hg hs hd
  subst hk
  exact ⟨T', h', X', e', W, OA.set ⟨cl, Ar, S, H⟩ W, st⟩
theorem OA.ldI (X : Stand p l e R s m args below meth c T locs cells slots) (hx : p.tables.exec = Jvm.exec) (hZ : Z.Warmed39 s.vm) (eT : T.heap = h) (A : OA Z h a .int n f) {j : Int32} {k : Nat} (hj : ¬ j < 0) (hk : j.toNatClampNeg = k) (hkn : k < n) {g : JFrame} (hg : g.method = m) {rest : List Value} (hs : g.stack = .int j :: .ref a :: rest) (hd : decode c.code g.pc = .ok (.iaload, 1)) (target : State)
    (kt : Steps p.tables e below (T.setTop { g with pc := g.pc + 1, stack := .int (f k) :: rest }) target) : Steps p.tables e below (T.setTop g) target := by
  obtain ⟨cl, Ar, S, H⟩ := A
  exact X.iaload hx (j := j) (v := .int (f k)) (by rw [eT]; exact Ar.1) (State.isArrayOf_alike hZ.alike Ar.2.1) Ar.2.2 (oin S hj hk hkn) (by rw [hk]; exact H k hkn) (g := g) hg hs hd target kt
theorem OA.ldB (X : Stand p l e R s m args below meth c T locs cells slots) (hx : p.tables.exec = Jvm.exec) (hZ : Z.Warmed39 s.vm) (eT : T.heap = h) (A : OA Z h a .byte n f) {j : Int32} {k : Nat} (hj : ¬ j < 0) (hk : j.toNatClampNeg = k) (hkn : k < n) {g : JFrame} (hg : g.method = m) {rest : List Value} (hs : g.stack = .int j :: .ref a :: rest) (hd : decode c.code g.pc = .ok (.baload, 1)) (target : State)
    (kt : Steps p.tables e below (T.setTop { g with pc := g.pc + 1, stack := .int (f k) :: rest }) target) : Steps p.tables e below (T.setTop g) target := by
  obtain ⟨cl, Ar, S, H⟩ := A
  exact X.baloadBytes hx (j := j) (v := .int (f k)) (by rw [eT]; exact Ar.1) (State.isArrayOf_alike hZ.alike Ar.2.1) Ar.2.2 (oin S hj hk hkn) (by rw [hk]; exact H k hkn) (g := g) hg hs hd target kt
theorem OA.len (X : Stand p l e R s m args below meth c T locs cells slots) (hx : p.tables.exec = Jvm.exec) (hZ : Z.Warmed39 s.vm) (eT : T.heap = h) (A : OA Z h a ty n f) {z : Int32} (hz : n.toInt32 = z) {g : JFrame} (hg : g.method = m) {rest : List Value} (hs : g.stack = .ref a :: rest) (hd : decode c.code g.pc = .ok (.arraylength, 1)) (target : State)
    (kt : Steps p.tables e below (T.setTop { g with pc := g.pc + 1, stack := .int z :: rest }) target) : Steps p.tables e below (T.setTop g) target := by
  obtain ⟨cl, Ar, S, H⟩ := A
  refine X.arraylength hx (by rw [eT]; exact Ar.1) (State.isArrayOf_alike hZ.alike Ar.2.1) (g := g) hg hs hd target ?_
  rw [S, hz]; exact kt
/-- a private method is the one that is chosen -/
theorem osel {y : MethodName} {k : Nat} (hZ : Z.Warmed39 s.vm) (wi : (Cond.instantiable y.cls k).before a0 Z = true) (wp : (Cond.privateMethod y).before a0 Z = true) (wm : (Cond.instanceMethod y).before a0 Z = true) (hy : y.cls ≠ "java/lang/invoke/MethodHandle" ∧ y.cls ≠ "java/lang/invoke/VarHandle") : (Cond.selects y.cls y y).before args s = true := by
  have w : (Cond.instantiable y.cls k).before args s = true := mv hZ wi
  obtain ⟨cc, kk, h1, h2, h3, h4, -⟩ := Cond.instantiable_spec w
  have h5 : kk.isInterface = false := by
    cases q : kk.isInterface
    · rfl
    · rw [q] at h4; simp at h4
  exact Jvm.Stand.selects_self_of_private h1 h2 h5 (Cond.privateMethod_at (mvP hZ wp (args := args))) (mv hZ wm) hy
end OwnH
/-- what toLong's loop computes: k turns from the place i on -/
def TL (f : Nat → Int32) : Nat → Nat → Int64 → Int64
  | 0, _, acc => acc
  | k + 1, i, acc => TL f k (i + 1) ((acc <<< ((7 : Int32) &&& 0x3f).toInt64) ||| (((f i) &&& (127 : Int32)).toInt64))
theorem own_toInt {n : Nat} (h : n < 1000) : (Int32.ofNat n).toInt = n := toInt_of rfl (by omega)
theorem own_nat {i : Nat} (h : i < 100) : (¬ Int32.ofNat i < 0) ∧ (Int32.ofNat i).toNatClampNeg = i := by
  refine ⟨?_, clamp_of rfl (by omega)⟩
  rw [Int32.lt_iff_toInt_lt, own_toInt (by omega)]
  show ¬ (i : Int) < 0
  omega
theorem own_add {i j : Nat} (h : i + j < 100) : (Int32.ofNat i + Int32.ofNat j).toInt = i + j := by
  rw [Int32.toInt_add, own_toInt (by omega), own_toInt (by omega)]
  exact Int.bmod_eq_of_le (by omega) (by omega)
theorem own_lt {i k fr ct : Nat} (h : i + (k + 1) = fr + ct) (hb : fr + ct ≤ 12) : Int32.ofNat i < (Int32.ofNat fr + Int32.ofNat ct) := by
  rw [Int32.lt_iff_toInt_lt, own_toInt (by omega), own_add (by omega)]
  omega
theorem own_nlt {i fr ct : Nat} (h : i + 0 = fr + ct) (hb : fr + ct ≤ 12) : ¬ Int32.ofNat i < (Int32.ofNat fr + Int32.ofNat ct) := by
  rw [Int32.lt_iff_toInt_lt, own_toInt (by omega), own_add (by omega)]
  omega
theorem own_mask (x : Int32) : 0 ≤ (x &&& (2147483647 : Int32)).toInt := by
  have h : ∀ b : BitVec 32, 0 ≤ (b &&& 2147483647#32).toInt := fun b => by
    have k : (b &&& 2147483647#32).msb = false := by
      rw [BitVec.msb_and, show (2147483647#32).msb = false from by decide, Bool.and_false]
    rw [BitVec.toInt_eq_toNat_of_msb k]
    omega
  exact h x.toBitVec
theorem own_rem (y : Int32) (hy : 0 ≤ y.toInt) (d : Int32) (n : Nat) (hd : d.toInt = n) (hn : 0 < n) (hn2 : n < 100) : ∃ c : Nat, (y - (y / d) * d) = Int32.ofNat c ∧ c < n := by
  have hr := rem_toInt y d
  rw [hd, Int.tmod_eq_emod_of_nonneg hy] at hr
  have h1 := Int.emod_nonneg y.toInt (b := (n : Int)) (by omega)
  have h2 := Int.emod_lt_of_pos y.toInt (b := (n : Int)) (by omega)
  refine ⟨(y.toInt % (n : Int)).toNat, ?_, by omega⟩
  rw [← Int32.toInt_inj, hr, own_toInt (by omega)]
  omega
theorem own_ct (q : Int32) : ∃ ct : Nat, ((q &&& (2147483647 : Int32)) - ((q &&& (2147483647 : Int32)) / (10 : Int32)) * (10 : Int32)) = Int32.ofNat ct ∧ ct < 10 :=
  own_rem _ (own_mask q) 10 10 (by decide) (by omega) (by omega)
theorem own_13 {ct : Nat} (h : ct < 10) : ((13 : Int32) - Int32.ofNat ct).toInt = ((13 - ct : Nat) : Int) := by
  rw [Int32.toInt_sub, own_toInt (by omega)]
  have e : (13 : Int32).toInt = 13 := by decide
  rw [e, Int.bmod_eq_of_le (by omega) (by omega)]
  omega
theorem own_fr (q : Int32) (ct : Nat) (h : ct < 10) : ∃ fr : Nat, ((q &&& (2147483647 : Int32)) - ((q &&& (2147483647 : Int32)) / ((13 : Int32) - (Int32.ofNat ct))) * ((13 : Int32) - (Int32.ofNat ct))) = Int32.ofNat fr ∧ fr < 13 - ct :=
  own_rem _ (own_mask q) _ (13 - ct) (own_13 h) (by omega) (by omega)
theorem own_nz13 {ct : Nat} (h : ct < 10) : ((13 : Int32) - (Int32.ofNat ct)) ≠ 0 := fun q => by
  have k := own_13 h
  rw [q] at k
  have e : (0 : Int32).toInt = 0 := by decide
  omega
theorem d1_0 : decode method_2_code 0 = .ok (.iload 4, 2) := by decide +kernel
theorem d1_2 : decode method_2_code 2 = .ok (.iload_n 2, 1) := by decide +kernel
theorem d1_3 : decode method_2_code 3 = .ok (.isub, 1) := by decide +kernel
theorem d1_4 : decode method_2_code 4 = .ok (.istore 8, 2) := by decide +kernel
theorem d1_6 : decode method_2_code 6 = .ok (.iload 8, 2) := by decide +kernel
theorem d1_8 : decode method_2_code 8 = .ok (.ifCond .lt 42, 3) := by decide +kernel
theorem d1_11 : decode method_2_code 11 = .ok (.iload 8, 2) := by decide +kernel
theorem d1_13 : decode method_2_code 13 = .ok (.iload_n 3, 1) := by decide +kernel
theorem d1_14 : decode method_2_code 14 = .ok (.if_icmp .ge 36, 3) := by decide +kernel
theorem d1_17 : decode method_2_code 17 = .ok (.lload_n 0, 1) := by decide +kernel
theorem d1_18 : decode method_2_code 18 = .ok (.bipush 7, 2) := by decide +kernel
theorem d1_20 : decode method_2_code 20 = .ok (.iload_n 3, 1) := by decide +kernel
theorem d1_21 : decode method_2_code 21 = .ok (.iconst 1, 1) := by decide +kernel
theorem d1_22 : decode method_2_code 22 = .ok (.isub, 1) := by decide +kernel
theorem d1_23 : decode method_2_code 23 = .ok (.iload 8, 2) := by decide +kernel
theorem d1_25 : decode method_2_code 25 = .ok (.isub, 1) := by decide +kernel
theorem d1_26 : decode method_2_code 26 = .ok (.imul, 1) := by decide +kernel
theorem d1_27 : decode method_2_code 27 = .ok (.lushr, 1) := by decide +kernel
theorem d1_28 : decode method_2_code 28 = .ok (.ldc2_w 7, 3) := by decide +kernel
theorem d1_31 : decode method_2_code 31 = .ok (.land, 1) := by decide +kernel
theorem d1_32 : decode method_2_code 32 = .ok (.l2i, 1) := by decide +kernel
theorem d1_33 : decode method_2_code 33 = .ok (.istore 9, 2) := by decide +kernel
theorem d1_35 : decode method_2_code 35 = .ok (.iload 9, 2) := by decide +kernel
theorem d1_37 : decode method_2_code 37 = .ok (.iload 5, 2) := by decide +kernel
theorem d1_39 : decode method_2_code 39 = .ok (.iload 4, 2) := by decide +kernel
theorem d1_41 : decode method_2_code 41 = .ok (.iushr, 1) := by decide +kernel
theorem d1_42 : decode method_2_code 42 = .ok (.iconst 1, 1) := by decide +kernel
theorem d1_43 : decode method_2_code 43 = .ok (.iand, 1) := by decide +kernel
theorem d1_44 : decode method_2_code 44 = .ok (.bipush 7, 2) := by decide +kernel
theorem d1_46 : decode method_2_code 46 = .ok (.ishl, 1) := by decide +kernel
theorem d1_47 : decode method_2_code 47 = .ok (.ior, 1) := by decide +kernel
theorem d1_48 : decode method_2_code 48 = .ok (.i2b, 1) := by decide +kernel
theorem d1_49 : decode method_2_code 49 = .ok (.ireturn, 1) := by decide +kernel
theorem d1_50 : decode method_2_code 50 = .ok (.lload 6, 2) := by decide +kernel
theorem d1_52 : decode method_2_code 52 = .ok (.bipush 8, 2) := by decide +kernel
theorem d1_54 : decode method_2_code 54 = .ok (.iload 4, 2) := by decide +kernel
theorem d1_56 : decode method_2_code 56 = .ok (.bipush 7, 2) := by decide +kernel
theorem d1_58 : decode method_2_code 58 = .ok (.iand, 1) := by decide +kernel
theorem d1_59 : decode method_2_code 59 = .ok (.imul, 1) := by decide +kernel
theorem d1_60 : decode method_2_code 60 = .ok (.lushr, 1) := by decide +kernel
theorem d1_61 : decode method_2_code 61 = .ok (.l2i, 1) := by decide +kernel
theorem d1_62 : decode method_2_code 62 = .ok (.i2b, 1) := by decide +kernel
theorem d1_63 : decode method_2_code 63 = .ok (.ireturn, 1) := by decide +kernel
theorem pn1 : plainName "com/example/distinguo/distinguo/codec/SevenBitGroupsToLongPinLaw" = true := by first | (simp [plainName, overriddenIn]; done) | decide +kernel
theorem ef1 (m : MethodId) (q1 : Int64) (q2 : Int32) (q3 : Int32) (q4 : Int32) (q5 : Int32) (q6 : Int64) : entryFrame m #[(.long q1), (.int q2), (.int q3), (.int q4), (.int q5), (.long q6)] 10 = mkF m 0 #[.val (.long q1), .second, .val (.int q2), .val (.int q3), .val (.int q4), .val (.int q5), .val (.long q6), .second, .unset, .unset] [] := by first | (simp [entryFrame, mkF, argsToLocals, Value.category]; done) | rfl
def g1_j50 (q1 : Int64) (q2 : Int32) (q3 : Int32) (q4 : Int32) (q5 : Int32) (q6 : Int64) : Int32 := (nar .byte ((((q6.toUInt64 >>> (((8 : Int32) * (q4 &&& (7 : Int32))) &&& 0x3f).toInt64.toUInt64).toInt64).toInt32).toInt8.toInt32))
def g1_14_1 (q1 : Int64) (q2 : Int32) (q3 : Int32) (q4 : Int32) (q5 : Int32) (q6 : Int64) : Int32 := if (q4 - q2) < q3 then (nar .byte ((((((q1.toUInt64 >>> (((7 : Int32) * ((q3 - (1 : Int32)) - (q4 - q2))) &&& 0x3f).toInt64.toUInt64).toInt64) &&& (127 : Int64)).toInt32) ||| ((((q5.toUInt32 >>> (q4 &&& 31).toUInt32).toInt32) &&& (1 : Int32)) <<< ((7 : Int32) &&& 31))).toInt8.toInt32)) else (g1_j50 q1 q2 q3 q4 q5 q6)
def g1_8_2 (q1 : Int64) (q2 : Int32) (q3 : Int32) (q4 : Int32) (q5 : Int32) (q6 : Int64) : Int32 := if (q4 - q2) < (0 : Int32) then (g1_j50 q1 q2 q3 q4 q5 q6) else (g1_14_1 q1 q2 q3 q4 q5 q6)
def f1 (q1 : Int64) (q2 : Int32) (q3 : Int32) (q4 : Int32) (q5 : Int32) (q6 : Int64) : Int32 := (g1_8_2 q1 q2 q3 q4 q5 q6)
set_option maxRecDepth 65536 in
set_option maxHeartbeats 40000000 in
theorem rm1 (l : Launch) (Z : State) (a0 : Array Value) (hw : ∀ d ∈ tables_1, d.before a0 Z = true) (ws : List Jvm.Cond) (q1 : Int64) (q2 : Int32) (q3 : Int32) (q4 : Int32) (q5 : Int32) (q6 : Int64) (h0 : Heap) (n0 : Nat) (Z0 : n0 ≤ h0.size) :
    MetFree l (⟨"com/example/distinguo/distinguo/codec/SevenBitGroupsToLongPinLaw", "cell", "(JIIIIJ)B"⟩ : MethodName) (head1 (Jvm.Cond.code (⟨"com/example/distinguo/distinguo/codec/SevenBitGroupsToLongPinLaw", "cell", "(JIIIIJ)B"⟩ : MethodName) method_2_code 10 (some .byte) :: ws) ({ frames := 0, cells := 0, slots := 0, locals := 0 } : Room)) (fun a U => a = #[(.long q1), (.int q2), (.int q3), (.int q4), (.int q5), (.long q6)] ∧ Z.Warmed39 U.vm ∧ U.heap = h0) (fun _ _ _ _ _ => True) (fun _ U o U' => ∃ v L, o = .returned v ∧ PI n0 h0 (f1 q1 q2 q3 q4 q5 q6) v U'.heap L ∧ FrameEnd U o U' L ({ frames := 0, cells := 0, slots := 0, locals := 0 } : Room).cells ({ frames := 0, cells := 0, slots := 0, locals := 0 } : Room).slots) := by
  refine MetFree.of_bodySF (plainFor_of_name pn1) hisR ?_
  intro p e s m args below meth c s₁ Bd hml0 hP hK
  obtain ⟨rfl, hZ, hh⟩ := hP
  have hx := Bd.exec
  have hby := Bd.bytes
  have hml : c.maxLocals = 10 := hml0
  have hown : s.vm.findClass "com/example/distinguo/distinguo/codec/SevenBitGroupsToLongPinLaw" = some m.cls := findClass_of_methodNamed Bd.named
  have X0 : Stand p l e ({ frames := 0, cells := 0, slots := 0, locals := 0 } : Room) s m #[(.long q1), (.int q2), (.int q3), (.int q4), (.int q5), (.long q6)] below meth c s₁ [] 0 0 := Stand.of_body Bd
  have e0 : s₁.heap = h0 := by rw [← hh, Bd.state]; rfl
  have N0 := Fr.nil n0
  show OGo p e below (Out s ({ frames := 0, cells := 0, slots := 0, locals := 0 } : Room).cells ({ frames := 0, cells := 0, slots := 0, locals := 0 } : Room).slots (PI n0 h0 (f1 q1 q2 q3 q4 q5 q6))) (s₁.setTop (entryFrame m #[(.long q1), (.int q2), (.int q3), (.int q4), (.int q5), (.long q6)] 10))
  have J50 : ∀ (T : State) (locs : List Loc) (X : Stand p l e ({ frames := 0, cells := 0, slots := 0, locals := 0 } : Room) s m #[(.long q1), (.int q2), (.int q3), (.int q4), (.int q5), (.long q6)] below meth c T locs 0 0) (eT : T.heap = h0) (N : Fr n0 locs), OGo p e below (Out s ({ frames := 0, cells := 0, slots := 0, locals := 0 } : Room).cells ({ frames := 0, cells := 0, slots := 0, locals := 0 } : Room).slots (PI n0 h0 (g1_j50 q1 q2 q3 q4 q5 q6))) (T.setTop (mkF m 50 #[.val (.long q1), .second, .val (.int q2), .val (.int q3), .val (.int q4), .val (.int q5), .val (.long q6), .second, .val (.int (q4 - q2)), .unset] [])) := by
    intro T locs X eT N
    show OGo p e below (Out s ({ frames := 0, cells := 0, slots := 0, locals := 0 } : Room).cells ({ frames := 0, cells := 0, slots := 0, locals := 0 } : Room).slots (PI n0 h0 (nar .byte ((((q6.toUInt64 >>> (((8 : Int32) * (q4 &&& (7 : Int32))) &&& 0x3f).toInt64.toUInt64).toInt64).toInt32).toInt8.toInt32)))) (T.setTop (mkF m 50 #[.val (.long q1), .second, .val (.int q2), .val (.int q3), .val (.int q4), .val (.int q5), .val (.long q6), .second, .val (.int (q4 - q2)), .unset] []))
    refine OGo.st (fun t k => XS.lload X.here hx rfl (hb hby d1_50) rfl k) ?_
    show OGo p e below _ (T.setTop (mkF m 52 #[.val (.long q1), .second, .val (.int q2), .val (.int q3), .val (.int q4), .val (.int q5), .val (.long q6), .second, .val (.int (q4 - q2)), .unset] [(.long q6)]))
    refine OGo.st (fun t k => XS.bipush X.here hx rfl (hb hby d1_52) k) ?_
    show OGo p e below _ (T.setTop (mkF m 54 #[.val (.long q1), .second, .val (.int q2), .val (.int q3), .val (.int q4), .val (.int q5), .val (.long q6), .second, .val (.int (q4 - q2)), .unset] [(.int (8 : Int32)), (.long q6)]))
    refine OGo.st (fun t k => XS.iload X.here hx rfl (hb hby d1_54) rfl k) ?_
    show OGo p e below _ (T.setTop (mkF m 56 #[.val (.long q1), .second, .val (.int q2), .val (.int q3), .val (.int q4), .val (.int q5), .val (.long q6), .second, .val (.int (q4 - q2)), .unset] [(.int q4), (.int (8 : Int32)), (.long q6)]))
    refine OGo.st (fun t k => XS.bipush X.here hx rfl (hb hby d1_56) k) ?_
    show OGo p e below _ (T.setTop (mkF m 58 #[.val (.long q1), .second, .val (.int q2), .val (.int q3), .val (.int q4), .val (.int q5), .val (.long q6), .second, .val (.int (q4 - q2)), .unset] [(.int (7 : Int32)), (.int q4), (.int (8 : Int32)), (.long q6)]))
    refine OGo.st (fun t k => XS.iand X.here hx rfl (hb hby d1_58) rfl k) ?_
    show OGo p e below _ (T.setTop (mkF m 59 #[.val (.long q1), .second, .val (.int q2), .val (.int q3), .val (.int q4), .val (.int q5), .val (.long q6), .second, .val (.int (q4 - q2)), .unset] [(.int (q4 &&& (7 : Int32))), (.int (8 : Int32)), (.long q6)]))
    refine OGo.st (fun t k => XS.imul X.here hx rfl (hb hby d1_59) rfl k) ?_
    show OGo p e below _ (T.setTop (mkF m 60 #[.val (.long q1), .second, .val (.int q2), .val (.int q3), .val (.int q4), .val (.int q5), .val (.long q6), .second, .val (.int (q4 - q2)), .unset] [(.int ((8 : Int32) * (q4 &&& (7 : Int32)))), (.long q6)]))
    refine OGo.st (fun t k => XS.lushr X.here hx rfl (hb hby d1_60) rfl k) ?_
    show OGo p e below _ (T.setTop (mkF m 61 #[.val (.long q1), .second, .val (.int q2), .val (.int q3), .val (.int q4), .val (.int q5), .val (.long q6), .second, .val (.int (q4 - q2)), .unset] [(.long ((q6.toUInt64 >>> (((8 : Int32) * (q4 &&& (7 : Int32))) &&& 0x3f).toInt64.toUInt64).toInt64))]))
    refine OGo.st (fun t k => XS.l2i X.here hx rfl (hb hby d1_61) rfl k) ?_
    show OGo p e below _ (T.setTop (mkF m 62 #[.val (.long q1), .second, .val (.int q2), .val (.int q3), .val (.int q4), .val (.int q5), .val (.long q6), .second, .val (.int (q4 - q2)), .unset] [(.int (((q6.toUInt64 >>> (((8 : Int32) * (q4 &&& (7 : Int32))) &&& 0x3f).toInt64.toUInt64).toInt64).toInt32))]))
    refine OGo.st (fun t k => XS.i2b X.here hx rfl (hb hby d1_62) rfl k) ?_
    show OGo p e below _ (T.setTop (mkF m 63 #[.val (.long q1), .second, .val (.int q2), .val (.int q3), .val (.int q4), .val (.int q5), .val (.long q6), .second, .val (.int (q4 - q2)), .unset] [(.int ((((q6.toUInt64 >>> (((8 : Int32) * (q4 &&& (7 : Int32))) &&& 0x3f).toInt64.toUInt64).toInt64).toInt32).toInt8.toInt32))]))
    exact OGo.outN X hx (t := .byte) Bd.returns (by simp) Bd.notSynchronized (hb hby d1_63) ⟨rfl, N, eT⟩ (by decide) (by decide)
  refine OGo.st (fun t k => castTop (ef1 m q1 q2 q3 q4 q5 q6) k) ?_
  show OGo p e below (Out s ({ frames := 0, cells := 0, slots := 0, locals := 0 } : Room).cells ({ frames := 0, cells := 0, slots := 0, locals := 0 } : Room).slots (PI n0 h0 (g1_8_2 q1 q2 q3 q4 q5 q6))) (s₁.setTop (mkF m 0 #[.val (.long q1), .second, .val (.int q2), .val (.int q3), .val (.int q4), .val (.int q5), .val (.long q6), .second, .unset, .unset] []))
  refine OGo.st (fun t k => XS.iload X0.here hx rfl (hb hby d1_0) rfl k) ?_
  show OGo p e below _ (s₁.setTop (mkF m 2 #[.val (.long q1), .second, .val (.int q2), .val (.int q3), .val (.int q4), .val (.int q5), .val (.long q6), .second, .unset, .unset] [(.int q4)]))
  refine OGo.st (fun t k => XS.iloadN X0.here hx rfl (hb hby d1_2) rfl k) ?_
  show OGo p e below _ (s₁.setTop (mkF m 3 #[.val (.long q1), .second, .val (.int q2), .val (.int q3), .val (.int q4), .val (.int q5), .val (.long q6), .second, .unset, .unset] [(.int q2), (.int q4)]))
  refine OGo.st (fun t k => XS.isub X0.here hx rfl (hb hby d1_3) rfl k) ?_
  show OGo p e below _ (s₁.setTop (mkF m 4 #[.val (.long q1), .second, .val (.int q2), .val (.int q3), .val (.int q4), .val (.int q5), .val (.long q6), .second, .unset, .unset] [(.int (q4 - q2))]))
  refine OGo.st (fun t k => XS.istore X0.here hx rfl (hb hby d1_4) rfl (l' := #[.val (.long q1), .second, .val (.int q2), .val (.int q3), .val (.int q4), .val (.int q5), .val (.long q6), .second, .val (.int (q4 - q2)), .unset]) rfl k) ?_
  show OGo p e below _ (s₁.setTop (mkF m 6 #[.val (.long q1), .second, .val (.int q2), .val (.int q3), .val (.int q4), .val (.int q5), .val (.long q6), .second, .val (.int (q4 - q2)), .unset] []))
  refine OGo.st (fun t k => XS.iload X0.here hx rfl (hb hby d1_6) rfl k) ?_
  show OGo p e below _ (s₁.setTop (mkF m 8 #[.val (.long q1), .second, .val (.int q2), .val (.int q3), .val (.int q4), .val (.int q5), .val (.long q6), .second, .val (.int (q4 - q2)), .unset] [(.int (q4 - q2))]))
  by_cases hc8_1 : (q4 - q2) < (0 : Int32)
  · refine OGo.eqvI (show (g1_8_2 q1 q2 q3 q4 q5 q6) = (g1_j50 q1 q2 q3 q4 q5 q6) from if_pos hc8_1) ?_
    refine OGo.st (fun t k => XS.ifYes X0.here hx rfl (pc0 := 8) (pc' := 50) rfl (hb hby d1_8) rfl ((if0 _ _).trans (tlt hc8_1).1) (by decide) (by decide) k) ?_
    show OGo p e below _ (s₁.setTop (mkF m 50 #[.val (.long q1), .second, .val (.int q2), .val (.int q3), .val (.int q4), .val (.int q5), .val (.long q6), .second, .val (.int (q4 - q2)), .unset] []))
    exact J50 s₁ _ X0 e0 N0 
  · refine OGo.eqvI (show (g1_8_2 q1 q2 q3 q4 q5 q6) = (g1_14_1 q1 q2 q3 q4 q5 q6) from if_neg hc8_1) ?_
    refine OGo.st (fun t k => XS.ifNo X0.here hx rfl (hb hby d1_8) rfl ((if0 _ _).trans (flt hc8_1).1) k) ?_
    show OGo p e below _ (s₁.setTop (mkF m 11 #[.val (.long q1), .second, .val (.int q2), .val (.int q3), .val (.int q4), .val (.int q5), .val (.long q6), .second, .val (.int (q4 - q2)), .unset] []))
    refine OGo.st (fun t k => XS.iload X0.here hx rfl (hb hby d1_11) rfl k) ?_
    show OGo p e below _ (s₁.setTop (mkF m 13 #[.val (.long q1), .second, .val (.int q2), .val (.int q3), .val (.int q4), .val (.int q5), .val (.long q6), .second, .val (.int (q4 - q2)), .unset] [(.int (q4 - q2))]))
    refine OGo.st (fun t k => XS.iloadN X0.here hx rfl (hb hby d1_13) rfl k) ?_
    show OGo p e below _ (s₁.setTop (mkF m 14 #[.val (.long q1), .second, .val (.int q2), .val (.int q3), .val (.int q4), .val (.int q5), .val (.long q6), .second, .val (.int (q4 - q2)), .unset] [(.int q3), (.int (q4 - q2))]))
    by_cases hc14_2 : (q4 - q2) < q3
    · refine OGo.eqvI (show (g1_14_1 q1 q2 q3 q4 q5 q6) = (nar .byte ((((((q1.toUInt64 >>> (((7 : Int32) * ((q3 - (1 : Int32)) - (q4 - q2))) &&& 0x3f).toInt64.toUInt64).toInt64) &&& (127 : Int64)).toInt32) ||| ((((q5.toUInt32 >>> (q4 &&& 31).toUInt32).toInt32) &&& (1 : Int32)) <<< ((7 : Int32) &&& 31))).toInt8.toInt32)) from if_pos hc14_2) ?_
      refine OGo.st (fun t k => XS.icmpNo X0.here hx rfl (hb hby d1_14) rfl (tlt hc14_2).2.1 k) ?_
      show OGo p e below _ (s₁.setTop (mkF m 17 #[.val (.long q1), .second, .val (.int q2), .val (.int q3), .val (.int q4), .val (.int q5), .val (.long q6), .second, .val (.int (q4 - q2)), .unset] []))
      refine OGo.st (fun t k => XS.lloadN X0.here hx rfl (hb hby d1_17) rfl k) ?_
      show OGo p e below _ (s₁.setTop (mkF m 18 #[.val (.long q1), .second, .val (.int q2), .val (.int q3), .val (.int q4), .val (.int q5), .val (.long q6), .second, .val (.int (q4 - q2)), .unset] [(.long q1)]))
      refine OGo.st (fun t k => XS.bipush X0.here hx rfl (hb hby d1_18) k) ?_
      show OGo p e below _ (s₁.setTop (mkF m 20 #[.val (.long q1), .second, .val (.int q2), .val (.int q3), .val (.int q4), .val (.int q5), .val (.long q6), .second, .val (.int (q4 - q2)), .unset] [(.int (7 : Int32)), (.long q1)]))
      refine OGo.st (fun t k => XS.iloadN X0.here hx rfl (hb hby d1_20) rfl k) ?_
      show OGo p e below _ (s₁.setTop (mkF m 21 #[.val (.long q1), .second, .val (.int q2), .val (.int q3), .val (.int q4), .val (.int q5), .val (.long q6), .second, .val (.int (q4 - q2)), .unset] [(.int q3), (.int (7 : Int32)), (.long q1)]))
      refine OGo.st (fun t k => XS.iconst X0.here hx rfl (hb hby d1_21) k) ?_
      show OGo p e below _ (s₁.setTop (mkF m 22 #[.val (.long q1), .second, .val (.int q2), .val (.int q3), .val (.int q4), .val (.int q5), .val (.long q6), .second, .val (.int (q4 - q2)), .unset] [(.int (1 : Int32)), (.int q3), (.int (7 : Int32)), (.long q1)]))
      refine OGo.st (fun t k => XS.isub X0.here hx rfl (hb hby d1_22) rfl k) ?_
      show OGo p e below _ (s₁.setTop (mkF m 23 #[.val (.long q1), .second, .val (.int q2), .val (.int q3), .val (.int q4), .val (.int q5), .val (.long q6), .second, .val (.int (q4 - q2)), .unset] [(.int (q3 - (1 : Int32))), (.int (7 : Int32)), (.long q1)]))
      refine OGo.st (fun t k => XS.iload X0.here hx rfl (hb hby d1_23) rfl k) ?_
      show OGo p e below _ (s₁.setTop (mkF m 25 #[.val (.long q1), .second, .val (.int q2), .val (.int q3), .val (.int q4), .val (.int q5), .val (.long q6), .second, .val (.int (q4 - q2)), .unset] [(.int (q4 - q2)), (.int (q3 - (1 : Int32))), (.int (7 : Int32)), (.long q1)]))
      refine OGo.st (fun t k => XS.isub X0.here hx rfl (hb hby d1_25) rfl k) ?_
      show OGo p e below _ (s₁.setTop (mkF m 26 #[.val (.long q1), .second, .val (.int q2), .val (.int q3), .val (.int q4), .val (.int q5), .val (.long q6), .second, .val (.int (q4 - q2)), .unset] [(.int ((q3 - (1 : Int32)) - (q4 - q2))), (.int (7 : Int32)), (.long q1)]))
      refine OGo.st (fun t k => XS.imul X0.here hx rfl (hb hby d1_26) rfl k) ?_
      show OGo p e below _ (s₁.setTop (mkF m 27 #[.val (.long q1), .second, .val (.int q2), .val (.int q3), .val (.int q4), .val (.int q5), .val (.long q6), .second, .val (.int (q4 - q2)), .unset] [(.int ((7 : Int32) * ((q3 - (1 : Int32)) - (q4 - q2)))), (.long q1)]))
      refine OGo.st (fun t k => XS.lushr X0.here hx rfl (hb hby d1_27) rfl k) ?_
      show OGo p e below _ (s₁.setTop (mkF m 28 #[.val (.long q1), .second, .val (.int q2), .val (.int q3), .val (.int q4), .val (.int q5), .val (.long q6), .second, .val (.int (q4 - q2)), .unset] [(.long ((q1.toUInt64 >>> (((7 : Int32) * ((q3 - (1 : Int32)) - (q4 - q2))) &&& 0x3f).toInt64.toUInt64).toInt64))]))
      refine OGo.st (fun t k => X0.ldc2Long hx hown (mvT hZ (hw _ (List.mem_of_getElem? (i := 6) rfl))) (g := (mkF m 28 #[.val (.long q1), .second, .val (.int q2), .val (.int q3), .val (.int q4), .val (.int q5), .val (.long q6), .second, .val (.int (q4 - q2)), .unset] [(.long ((q1.toUInt64 >>> (((7 : Int32) * ((q3 - (1 : Int32)) - (q4 - q2))) &&& 0x3f).toInt64.toUInt64).toInt64))])) rfl (hb hby d1_28) t k) ?_
      show OGo p e below _ (s₁.setTop (mkF m 31 #[.val (.long q1), .second, .val (.int q2), .val (.int q3), .val (.int q4), .val (.int q5), .val (.long q6), .second, .val (.int (q4 - q2)), .unset] [(.long (127 : Int64)), (.long ((q1.toUInt64 >>> (((7 : Int32) * ((q3 - (1 : Int32)) - (q4 - q2))) &&& 0x3f).toInt64.toUInt64).toInt64))]))
      refine OGo.st (fun t k => XS.land X0.here hx rfl (hb hby d1_31) rfl k) ?_
      show OGo p e below _ (s₁.setTop (mkF m 32 #[.val (.long q1), .second, .val (.int q2), .val (.int q3), .val (.int q4), .val (.int q5), .val (.long q6), .second, .val (.int (q4 - q2)), .unset] [(.long (((q1.toUInt64 >>> (((7 : Int32) * ((q3 - (1 : Int32)) - (q4 - q2))) &&& 0x3f).toInt64.toUInt64).toInt64) &&& (127 : Int64)))]))
      refine OGo.st (fun t k => XS.l2i X0.here hx rfl (hb hby d1_32) rfl k) ?_
      show OGo p e below _ (s₁.setTop (mkF m 33 #[.val (.long q1), .second, .val (.int q2), .val (.int q3), .val (.int q4), .val (.int q5), .val (.long q6), .second, .val (.int (q4 - q2)), .unset] [(.int ((((q1.toUInt64 >>> (((7 : Int32) * ((q3 - (1 : Int32)) - (q4 - q2))) &&& 0x3f).toInt64.toUInt64).toInt64) &&& (127 : Int64)).toInt32))]))
      refine OGo.st (fun t k => XS.istore X0.here hx rfl (hb hby d1_33) rfl (l' := #[.val (.long q1), .second, .val (.int q2), .val (.int q3), .val (.int q4), .val (.int q5), .val (.long q6), .second, .val (.int (q4 - q2)), .val (.int ((((q1.toUInt64 >>> (((7 : Int32) * ((q3 - (1 : Int32)) - (q4 - q2))) &&& 0x3f).toInt64.toUInt64).toInt64) &&& (127 : Int64)).toInt32))]) rfl k) ?_
      show OGo p e below _ (s₁.setTop (mkF m 35 #[.val (.long q1), .second, .val (.int q2), .val (.int q3), .val (.int q4), .val (.int q5), .val (.long q6), .second, .val (.int (q4 - q2)), .val (.int ((((q1.toUInt64 >>> (((7 : Int32) * ((q3 - (1 : Int32)) - (q4 - q2))) &&& 0x3f).toInt64.toUInt64).toInt64) &&& (127 : Int64)).toInt32))] []))
      refine OGo.st (fun t k => XS.iload X0.here hx rfl (hb hby d1_35) rfl k) ?_
      show OGo p e below _ (s₁.setTop (mkF m 37 #[.val (.long q1), .second, .val (.int q2), .val (.int q3), .val (.int q4), .val (.int q5), .val (.long q6), .second, .val (.int (q4 - q2)), .val (.int ((((q1.toUInt64 >>> (((7 : Int32) * ((q3 - (1 : Int32)) - (q4 - q2))) &&& 0x3f).toInt64.toUInt64).toInt64) &&& (127 : Int64)).toInt32))] [(.int ((((q1.toUInt64 >>> (((7 : Int32) * ((q3 - (1 : Int32)) - (q4 - q2))) &&& 0x3f).toInt64.toUInt64).toInt64) &&& (127 : Int64)).toInt32))]))
      refine OGo.st (fun t k => XS.iload X0.here hx rfl (hb hby d1_37) rfl k) ?_
      show OGo p e below _ (s₁.setTop (mkF m 39 #[.val (.long q1), .second, .val (.int q2), .val (.int q3), .val (.int q4), .val (.int q5), .val (.long q6), .second, .val (.int (q4 - q2)), .val (.int ((((q1.toUInt64 >>> (((7 : Int32) * ((q3 - (1 : Int32)) - (q4 - q2))) &&& 0x3f).toInt64.toUInt64).toInt64) &&& (127 : Int64)).toInt32))] [(.int q5), (.int ((((q1.toUInt64 >>> (((7 : Int32) * ((q3 - (1 : Int32)) - (q4 - q2))) &&& 0x3f).toInt64.toUInt64).toInt64) &&& (127 : Int64)).toInt32))]))
      refine OGo.st (fun t k => XS.iload X0.here hx rfl (hb hby d1_39) rfl k) ?_
      show OGo p e below _ (s₁.setTop (mkF m 41 #[.val (.long q1), .second, .val (.int q2), .val (.int q3), .val (.int q4), .val (.int q5), .val (.long q6), .second, .val (.int (q4 - q2)), .val (.int ((((q1.toUInt64 >>> (((7 : Int32) * ((q3 - (1 : Int32)) - (q4 - q2))) &&& 0x3f).toInt64.toUInt64).toInt64) &&& (127 : Int64)).toInt32))] [(.int q4), (.int q5), (.int ((((q1.toUInt64 >>> (((7 : Int32) * ((q3 - (1 : Int32)) - (q4 - q2))) &&& 0x3f).toInt64.toUInt64).toInt64) &&& (127 : Int64)).toInt32))]))
      refine OGo.st (fun t k => XS.iushr X0.here hx rfl (hb hby d1_41) rfl k) ?_
      show OGo p e below _ (s₁.setTop (mkF m 42 #[.val (.long q1), .second, .val (.int q2), .val (.int q3), .val (.int q4), .val (.int q5), .val (.long q6), .second, .val (.int (q4 - q2)), .val (.int ((((q1.toUInt64 >>> (((7 : Int32) * ((q3 - (1 : Int32)) - (q4 - q2))) &&& 0x3f).toInt64.toUInt64).toInt64) &&& (127 : Int64)).toInt32))] [(.int ((q5.toUInt32 >>> (q4 &&& 31).toUInt32).toInt32)), (.int ((((q1.toUInt64 >>> (((7 : Int32) * ((q3 - (1 : Int32)) - (q4 - q2))) &&& 0x3f).toInt64.toUInt64).toInt64) &&& (127 : Int64)).toInt32))]))
      refine OGo.st (fun t k => XS.iconst X0.here hx rfl (hb hby d1_42) k) ?_
      show OGo p e below _ (s₁.setTop (mkF m 43 #[.val (.long q1), .second, .val (.int q2), .val (.int q3), .val (.int q4), .val (.int q5), .val (.long q6), .second, .val (.int (q4 - q2)), .val (.int ((((q1.toUInt64 >>> (((7 : Int32) * ((q3 - (1 : Int32)) - (q4 - q2))) &&& 0x3f).toInt64.toUInt64).toInt64) &&& (127 : Int64)).toInt32))] [(.int (1 : Int32)), (.int ((q5.toUInt32 >>> (q4 &&& 31).toUInt32).toInt32)), (.int ((((q1.toUInt64 >>> (((7 : Int32) * ((q3 - (1 : Int32)) - (q4 - q2))) &&& 0x3f).toInt64.toUInt64).toInt64) &&& (127 : Int64)).toInt32))]))
      refine OGo.st (fun t k => XS.iand X0.here hx rfl (hb hby d1_43) rfl k) ?_
      show OGo p e below _ (s₁.setTop (mkF m 44 #[.val (.long q1), .second, .val (.int q2), .val (.int q3), .val (.int q4), .val (.int q5), .val (.long q6), .second, .val (.int (q4 - q2)), .val (.int ((((q1.toUInt64 >>> (((7 : Int32) * ((q3 - (1 : Int32)) - (q4 - q2))) &&& 0x3f).toInt64.toUInt64).toInt64) &&& (127 : Int64)).toInt32))] [(.int (((q5.toUInt32 >>> (q4 &&& 31).toUInt32).toInt32) &&& (1 : Int32))), (.int ((((q1.toUInt64 >>> (((7 : Int32) * ((q3 - (1 : Int32)) - (q4 - q2))) &&& 0x3f).toInt64.toUInt64).toInt64) &&& (127 : Int64)).toInt32))]))
      refine OGo.st (fun t k => XS.bipush X0.here hx rfl (hb hby d1_44) k) ?_
      show OGo p e below _ (s₁.setTop (mkF m 46 #[.val (.long q1), .second, .val (.int q2), .val (.int q3), .val (.int q4), .val (.int q5), .val (.long q6), .second, .val (.int (q4 - q2)), .val (.int ((((q1.toUInt64 >>> (((7 : Int32) * ((q3 - (1 : Int32)) - (q4 - q2))) &&& 0x3f).toInt64.toUInt64).toInt64) &&& (127 : Int64)).toInt32))] [(.int (7 : Int32)), (.int (((q5.toUInt32 >>> (q4 &&& 31).toUInt32).toInt32) &&& (1 : Int32))), (.int ((((q1.toUInt64 >>> (((7 : Int32) * ((q3 - (1 : Int32)) - (q4 - q2))) &&& 0x3f).toInt64.toUInt64).toInt64) &&& (127 : Int64)).toInt32))]))
      refine OGo.st (fun t k => XS.ishl X0.here hx rfl (hb hby d1_46) rfl k) ?_
      show OGo p e below _ (s₁.setTop (mkF m 47 #[.val (.long q1), .second, .val (.int q2), .val (.int q3), .val (.int q4), .val (.int q5), .val (.long q6), .second, .val (.int (q4 - q2)), .val (.int ((((q1.toUInt64 >>> (((7 : Int32) * ((q3 - (1 : Int32)) - (q4 - q2))) &&& 0x3f).toInt64.toUInt64).toInt64) &&& (127 : Int64)).toInt32))] [(.int ((((q5.toUInt32 >>> (q4 &&& 31).toUInt32).toInt32) &&& (1 : Int32)) <<< ((7 : Int32) &&& 31))), (.int ((((q1.toUInt64 >>> (((7 : Int32) * ((q3 - (1 : Int32)) - (q4 - q2))) &&& 0x3f).toInt64.toUInt64).toInt64) &&& (127 : Int64)).toInt32))]))
      refine OGo.st (fun t k => XS.ior X0.here hx rfl (hb hby d1_47) rfl k) ?_
      show OGo p e below _ (s₁.setTop (mkF m 48 #[.val (.long q1), .second, .val (.int q2), .val (.int q3), .val (.int q4), .val (.int q5), .val (.long q6), .second, .val (.int (q4 - q2)), .val (.int ((((q1.toUInt64 >>> (((7 : Int32) * ((q3 - (1 : Int32)) - (q4 - q2))) &&& 0x3f).toInt64.toUInt64).toInt64) &&& (127 : Int64)).toInt32))] [(.int (((((q1.toUInt64 >>> (((7 : Int32) * ((q3 - (1 : Int32)) - (q4 - q2))) &&& 0x3f).toInt64.toUInt64).toInt64) &&& (127 : Int64)).toInt32) ||| ((((q5.toUInt32 >>> (q4 &&& 31).toUInt32).toInt32) &&& (1 : Int32)) <<< ((7 : Int32) &&& 31))))]))
      refine OGo.st (fun t k => XS.i2b X0.here hx rfl (hb hby d1_48) rfl k) ?_
      show OGo p e below _ (s₁.setTop (mkF m 49 #[.val (.long q1), .second, .val (.int q2), .val (.int q3), .val (.int q4), .val (.int q5), .val (.long q6), .second, .val (.int (q4 - q2)), .val (.int ((((q1.toUInt64 >>> (((7 : Int32) * ((q3 - (1 : Int32)) - (q4 - q2))) &&& 0x3f).toInt64.toUInt64).toInt64) &&& (127 : Int64)).toInt32))] [(.int ((((((q1.toUInt64 >>> (((7 : Int32) * ((q3 - (1 : Int32)) - (q4 - q2))) &&& 0x3f).toInt64.toUInt64).toInt64) &&& (127 : Int64)).toInt32) ||| ((((q5.toUInt32 >>> (q4 &&& 31).toUInt32).toInt32) &&& (1 : Int32)) <<< ((7 : Int32) &&& 31))).toInt8.toInt32))]))
      exact OGo.outN X0 hx (t := .byte) Bd.returns (by simp) Bd.notSynchronized (hb hby d1_49) ⟨rfl, N0, e0⟩ (by decide) (by decide)
    · refine OGo.eqvI (show (g1_14_1 q1 q2 q3 q4 q5 q6) = (g1_j50 q1 q2 q3 q4 q5 q6) from if_neg hc14_2) ?_
      refine OGo.st (fun t k => XS.icmpYes X0.here hx rfl (pc0 := 14) (pc' := 50) rfl (hb hby d1_14) rfl (flt hc14_2).2.1 (by decide) (by decide) k) ?_
      show OGo p e below _ (s₁.setTop (mkF m 50 #[.val (.long q1), .second, .val (.int q2), .val (.int q3), .val (.int q4), .val (.int q5), .val (.long q6), .second, .val (.int (q4 - q2)), .unset] []))
      exact J50 s₁ _ X0 e0 N0 
theorem d2_0 : decode prog_26_method_3_code 0 = .ok (.lconst 0, 1) := by decide +kernel
theorem d2_1 : decode prog_26_method_3_code 1 = .ok (.lstore_n 3, 1) := by decide +kernel
theorem d2_2 : decode prog_26_method_3_code 2 = .ok (.iload_n 1, 1) := by decide +kernel
theorem d2_3 : decode prog_26_method_3_code 3 = .ok (.istore 5, 2) := by decide +kernel
theorem d2_5 : decode prog_26_method_3_code 5 = .ok (.iload 5, 2) := by decide +kernel
theorem d2_7 : decode prog_26_method_3_code 7 = .ok (.iload_n 1, 1) := by decide +kernel
theorem d2_8 : decode prog_26_method_3_code 8 = .ok (.iload_n 2, 1) := by decide +kernel
theorem d2_9 : decode prog_26_method_3_code 9 = .ok (.iadd, 1) := by decide +kernel
theorem d2_10 : decode prog_26_method_3_code 10 = .ok (.if_icmp .ge 23, 3) := by decide +kernel
theorem d2_13 : decode prog_26_method_3_code 13 = .ok (.lload_n 3, 1) := by decide +kernel
theorem d2_14 : decode prog_26_method_3_code 14 = .ok (.bipush 7, 2) := by decide +kernel
theorem d2_16 : decode prog_26_method_3_code 16 = .ok (.lshl, 1) := by decide +kernel
theorem d2_17 : decode prog_26_method_3_code 17 = .ok (.aload_n 0, 1) := by decide +kernel
theorem d2_18 : decode prog_26_method_3_code 18 = .ok (.iload 5, 2) := by decide +kernel
theorem d2_20 : decode prog_26_method_3_code 20 = .ok (.baload, 1) := by decide +kernel
theorem d2_21 : decode prog_26_method_3_code 21 = .ok (.bipush 127, 2) := by decide +kernel
theorem d2_23 : decode prog_26_method_3_code 23 = .ok (.iand, 1) := by decide +kernel
theorem d2_24 : decode prog_26_method_3_code 24 = .ok (.i2l, 1) := by decide +kernel
theorem d2_25 : decode prog_26_method_3_code 25 = .ok (.lor, 1) := by decide +kernel
theorem d2_26 : decode prog_26_method_3_code 26 = .ok (.lstore_n 3, 1) := by decide +kernel
theorem d2_27 : decode prog_26_method_3_code 27 = .ok (.iinc 5 1, 3) := by decide +kernel
theorem d2_30 : decode prog_26_method_3_code 30 = .ok (.goto (-25), 3) := by decide +kernel
theorem d2_33 : decode prog_26_method_3_code 33 = .ok (.lload_n 3, 1) := by decide +kernel
theorem d2_34 : decode prog_26_method_3_code 34 = .ok (.lreturn, 1) := by decide +kernel
theorem pn2 : plainName "com/example/distinguo/distinguo/codec/SevenBitGroups" = true := by first | (simp [plainName, overriddenIn]; done) | decide +kernel
theorem ef2 (m : MethodId) (a1 : Addr) (fr : Nat) (ct : Nat) : entryFrame m #[(.ref a1), (.int (Int32.ofNat fr)), (.int (Int32.ofNat ct))] 6 = mkF m 0 #[.val (.ref a1), .val (.int (Int32.ofNat fr)), .val (.int (Int32.ofNat ct)), .unset, .unset, .unset] [] := by first | (simp [entryFrame, mkF, argsToLocals, Value.category]; done) | rfl
set_option maxRecDepth 65536 in
set_option maxHeartbeats 40000000 in
theorem rm2 (l : Launch) (Z : State) (a0 : Array Value) (hw : ∀ d ∈ tables_1, d.before a0 Z = true) (ws : List Jvm.Cond) (a1 : Addr) (fr : Nat) (ct : Nat) (f : Nat → Int32) (h0 : Heap) (n0 : Nat) (Z0 : n0 ≤ h0.size) (O1 : OA Z h0 a1 .byte 12 f) (hbq : fr + ct ≤ 12) :
    MetFree l (⟨"com/example/distinguo/distinguo/codec/SevenBitGroups", "toLong", "([BII)J"⟩ : MethodName) (head1 (Jvm.Cond.code (⟨"com/example/distinguo/distinguo/codec/SevenBitGroups", "toLong", "([BII)J"⟩ : MethodName) prog_26_method_3_code 6 (some .long) :: ws) ({ frames := 0, cells := 0, slots := 0, locals := 0 } : Room)) (fun a U => a = #[(.ref a1), (.int (Int32.ofNat fr)), (.int (Int32.ofNat ct))] ∧ Z.Warmed39 U.vm ∧ U.heap = h0) (fun _ _ _ _ _ => True) (fun _ U o U' => ∃ v L, o = .returned v ∧ PJ n0 h0 (TL f ct fr 0) v U'.heap L ∧ FrameEnd U o U' L ({ frames := 0, cells := 0, slots := 0, locals := 0 } : Room).cells ({ frames := 0, cells := 0, slots := 0, locals := 0 } : Room).slots) := by
  refine MetFree.of_bodySF (plainFor_of_name pn2) hisR ?_
  intro p e s m args below meth c s₁ Bd hml0 hP hK
  obtain ⟨rfl, hZ, hh⟩ := hP
  have hx := Bd.exec
  have hby := Bd.bytes
  have hml : c.maxLocals = 6 := hml0
  have hown : s.vm.findClass "com/example/distinguo/distinguo/codec/SevenBitGroups" = some m.cls := findClass_of_methodNamed Bd.named
  have hnm := (name_of_methodNamed Bd.named Bd.method).1
  have X0 : Stand p l e ({ frames := 0, cells := 0, slots := 0, locals := 0 } : Room) s m #[(.ref a1), (.int (Int32.ofNat fr)), (.int (Int32.ofNat ct))] below meth c s₁ [] 0 0 := Stand.of_body Bd
  have e0 : s₁.heap = h0 := by rw [← hh, Bd.state]; rfl
  have N0 := Fr.nil n0
  show OGo p e below (Out s ({ frames := 0, cells := 0, slots := 0, locals := 0 } : Room).cells ({ frames := 0, cells := 0, slots := 0, locals := 0 } : Room).slots (PJ n0 h0 (TL f ct fr 0))) (s₁.setTop (entryFrame m #[(.ref a1), (.int (Int32.ofNat fr)), (.int (Int32.ofNat ct))] 6))
  have J5 : ∀ (k i : Nat) (acc : Int64) (hik : i + k = fr + ct), OGo p e below (Out s ({ frames := 0, cells := 0, slots := 0, locals := 0 } : Room).cells ({ frames := 0, cells := 0, slots := 0, locals := 0 } : Room).slots (PJ n0 h0 (TL f k i acc))) (s₁.setTop (mkF m 5 #[.val (.ref a1), .val (.int (Int32.ofNat fr)), .val (.int (Int32.ofNat ct)), .val (.long acc), .second, .val (.int (Int32.ofNat i))] [])) := by
    intro k
    induction k with
    | zero =>
      intro i acc hik
      show OGo p e below (Out s ({ frames := 0, cells := 0, slots := 0, locals := 0 } : Room).cells ({ frames := 0, cells := 0, slots := 0, locals := 0 } : Room).slots (PJ n0 h0 acc)) (s₁.setTop (mkF m 5 #[.val (.ref a1), .val (.int (Int32.ofNat fr)), .val (.int (Int32.ofNat ct)), .val (.long acc), .second, .val (.int (Int32.ofNat i))] []))
      refine OGo.st (fun t k => XS.iload X0.here hx rfl (hb hby d2_5) rfl k) ?_
      show OGo p e below _ (s₁.setTop (mkF m 7 #[.val (.ref a1), .val (.int (Int32.ofNat fr)), .val (.int (Int32.ofNat ct)), .val (.long acc), .second, .val (.int (Int32.ofNat i))] [(.int (Int32.ofNat i))]))
      refine OGo.st (fun t k => XS.iloadN X0.here hx rfl (hb hby d2_7) rfl k) ?_
      show OGo p e below _ (s₁.setTop (mkF m 8 #[.val (.ref a1), .val (.int (Int32.ofNat fr)), .val (.int (Int32.ofNat ct)), .val (.long acc), .second, .val (.int (Int32.ofNat i))] [(.int (Int32.ofNat fr)), (.int (Int32.ofNat i))]))
      refine OGo.st (fun t k => XS.iloadN X0.here hx rfl (hb hby d2_8) rfl k) ?_
      show OGo p e below _ (s₁.setTop (mkF m 9 #[.val (.ref a1), .val (.int (Int32.ofNat fr)), .val (.int (Int32.ofNat ct)), .val (.long acc), .second, .val (.int (Int32.ofNat i))] [(.int (Int32.ofNat ct)), (.int (Int32.ofNat fr)), (.int (Int32.ofNat i))]))
      refine OGo.st (fun t k => XS.iadd X0.here hx rfl (hb hby d2_9) rfl k) ?_
      show OGo p e below _ (s₁.setTop (mkF m 10 #[.val (.ref a1), .val (.int (Int32.ofNat fr)), .val (.int (Int32.ofNat ct)), .val (.long acc), .second, .val (.int (Int32.ofNat i))] [(.int ((Int32.ofNat fr) + (Int32.ofNat ct))), (.int (Int32.ofNat i))]))
      refine OGo.st (fun t k => XS.icmpYes X0.here hx rfl (pc0 := 10) (pc' := 33) rfl (hb hby d2_10) rfl (flt (own_nlt hik hbq)).2.1 (by decide) (by decide) k) ?_
      show OGo p e below _ (s₁.setTop (mkF m 33 #[.val (.ref a1), .val (.int (Int32.ofNat fr)), .val (.int (Int32.ofNat ct)), .val (.long acc), .second, .val (.int (Int32.ofNat i))] []))
      refine OGo.st (fun t k => XS.lloadN X0.here hx rfl (hb hby d2_33) rfl k) ?_
      show OGo p e below _ (s₁.setTop (mkF m 34 #[.val (.ref a1), .val (.int (Int32.ofNat fr)), .val (.int (Int32.ofNat ct)), .val (.long acc), .second, .val (.int (Int32.ofNat i))] [(.long acc)]))
      exact OGo.outJ X0 hx Bd.returns Bd.notSynchronized (hb hby d2_34) ⟨rfl, N0, e0⟩ (by decide) (by decide)
    | succ k ih =>
      intro i acc hik
      refine OGo.st (fun t k => XS.iload X0.here hx rfl (hb hby d2_5) rfl k) ?_
      show OGo p e below _ (s₁.setTop (mkF m 7 #[.val (.ref a1), .val (.int (Int32.ofNat fr)), .val (.int (Int32.ofNat ct)), .val (.long acc), .second, .val (.int (Int32.ofNat i))] [(.int (Int32.ofNat i))]))
      refine OGo.st (fun t k => XS.iloadN X0.here hx rfl (hb hby d2_7) rfl k) ?_
      show OGo p e below _ (s₁.setTop (mkF m 8 #[.val (.ref a1), .val (.int (Int32.ofNat fr)), .val (.int (Int32.ofNat ct)), .val (.long acc), .second, .val (.int (Int32.ofNat i))] [(.int (Int32.ofNat fr)), (.int (Int32.ofNat i))]))
      refine OGo.st (fun t k => XS.iloadN X0.here hx rfl (hb hby d2_8) rfl k) ?_
      show OGo p e below _ (s₁.setTop (mkF m 9 #[.val (.ref a1), .val (.int (Int32.ofNat fr)), .val (.int (Int32.ofNat ct)), .val (.long acc), .second, .val (.int (Int32.ofNat i))] [(.int (Int32.ofNat ct)), (.int (Int32.ofNat fr)), (.int (Int32.ofNat i))]))
      refine OGo.st (fun t k => XS.iadd X0.here hx rfl (hb hby d2_9) rfl k) ?_
      show OGo p e below _ (s₁.setTop (mkF m 10 #[.val (.ref a1), .val (.int (Int32.ofNat fr)), .val (.int (Int32.ofNat ct)), .val (.long acc), .second, .val (.int (Int32.ofNat i))] [(.int ((Int32.ofNat fr) + (Int32.ofNat ct))), (.int (Int32.ofNat i))]))
      refine OGo.st (fun t k => XS.icmpNo X0.here hx rfl (hb hby d2_10) rfl (tlt (own_lt hik hbq)).2.1 k) ?_
      show OGo p e below _ (s₁.setTop (mkF m 13 #[.val (.ref a1), .val (.int (Int32.ofNat fr)), .val (.int (Int32.ofNat ct)), .val (.long acc), .second, .val (.int (Int32.ofNat i))] []))
      refine OGo.st (fun t k => XS.lloadN X0.here hx rfl (hb hby d2_13) rfl k) ?_
      show OGo p e below _ (s₁.setTop (mkF m 14 #[.val (.ref a1), .val (.int (Int32.ofNat fr)), .val (.int (Int32.ofNat ct)), .val (.long acc), .second, .val (.int (Int32.ofNat i))] [(.long acc)]))
      refine OGo.st (fun t k => XS.bipush X0.here hx rfl (hb hby d2_14) k) ?_
      show OGo p e below _ (s₁.setTop (mkF m 16 #[.val (.ref a1), .val (.int (Int32.ofNat fr)), .val (.int (Int32.ofNat ct)), .val (.long acc), .second, .val (.int (Int32.ofNat i))] [(.int (7 : Int32)), (.long acc)]))
      refine OGo.st (fun t k => XS.lshl X0.here hx rfl (hb hby d2_16) rfl k) ?_
      show OGo p e below _ (s₁.setTop (mkF m 17 #[.val (.ref a1), .val (.int (Int32.ofNat fr)), .val (.int (Int32.ofNat ct)), .val (.long acc), .second, .val (.int (Int32.ofNat i))] [(.long (acc <<< ((7 : Int32) &&& 0x3f).toInt64))]))
      refine OGo.st (fun t k => XS.aloadN X0.here hx rfl (hb hby d2_17) rfl rfl k) ?_
      show OGo p e below _ (s₁.setTop (mkF m 18 #[.val (.ref a1), .val (.int (Int32.ofNat fr)), .val (.int (Int32.ofNat ct)), .val (.long acc), .second, .val (.int (Int32.ofNat i))] [(.ref a1), (.long (acc <<< ((7 : Int32) &&& 0x3f).toInt64))]))
      refine OGo.st (fun t k => XS.iload X0.here hx rfl (hb hby d2_18) rfl k) ?_
      show OGo p e below _ (s₁.setTop (mkF m 20 #[.val (.ref a1), .val (.int (Int32.ofNat fr)), .val (.int (Int32.ofNat ct)), .val (.long acc), .second, .val (.int (Int32.ofNat i))] [(.int (Int32.ofNat i)), (.ref a1), (.long (acc <<< ((7 : Int32) &&& 0x3f).toInt64))]))
      refine OGo.st (fun t k => OA.ldB X0 hx hZ e0 O1 (j := (Int32.ofNat i)) (k := i) (own_nat (show i < 100 by omega)).1 (own_nat (show i < 100 by omega)).2 (by omega) (g := (mkF m 20 #[.val (.ref a1), .val (.int (Int32.ofNat fr)), .val (.int (Int32.ofNat ct)), .val (.long acc), .second, .val (.int (Int32.ofNat i))] [(.int (Int32.ofNat i)), (.ref a1), (.long (acc <<< ((7 : Int32) &&& 0x3f).toInt64))])) rfl rfl (hb hby d2_20) t k) ?_
      show OGo p e below _ (s₁.setTop (mkF m 21 #[.val (.ref a1), .val (.int (Int32.ofNat fr)), .val (.int (Int32.ofNat ct)), .val (.long acc), .second, .val (.int (Int32.ofNat i))] [(.int (f i)), (.long (acc <<< ((7 : Int32) &&& 0x3f).toInt64))]))
      refine OGo.st (fun t k => XS.bipush X0.here hx rfl (hb hby d2_21) k) ?_
      show OGo p e below _ (s₁.setTop (mkF m 23 #[.val (.ref a1), .val (.int (Int32.ofNat fr)), .val (.int (Int32.ofNat ct)), .val (.long acc), .second, .val (.int (Int32.ofNat i))] [(.int (127 : Int32)), (.int (f i)), (.long (acc <<< ((7 : Int32) &&& 0x3f).toInt64))]))
      refine OGo.st (fun t k => XS.iand X0.here hx rfl (hb hby d2_23) rfl k) ?_
      show OGo p e below _ (s₁.setTop (mkF m 24 #[.val (.ref a1), .val (.int (Int32.ofNat fr)), .val (.int (Int32.ofNat ct)), .val (.long acc), .second, .val (.int (Int32.ofNat i))] [(.int ((f i) &&& (127 : Int32))), (.long (acc <<< ((7 : Int32) &&& 0x3f).toInt64))]))
      refine OGo.st (fun t k => XS.i2l X0.here hx rfl (hb hby d2_24) rfl k) ?_
      show OGo p e below _ (s₁.setTop (mkF m 25 #[.val (.ref a1), .val (.int (Int32.ofNat fr)), .val (.int (Int32.ofNat ct)), .val (.long acc), .second, .val (.int (Int32.ofNat i))] [(.long (((f i) &&& (127 : Int32)).toInt64)), (.long (acc <<< ((7 : Int32) &&& 0x3f).toInt64))]))
      refine OGo.st (fun t k => XS.lor X0.here hx rfl (hb hby d2_25) rfl k) ?_
      show OGo p e below _ (s₁.setTop (mkF m 26 #[.val (.ref a1), .val (.int (Int32.ofNat fr)), .val (.int (Int32.ofNat ct)), .val (.long acc), .second, .val (.int (Int32.ofNat i))] [(.long ((acc <<< ((7 : Int32) &&& 0x3f).toInt64) ||| (((f i) &&& (127 : Int32)).toInt64)))]))
      refine OGo.st (fun t k => XS.lstoreN X0.here hx rfl (hb hby d2_26) rfl (l' := #[.val (.ref a1), .val (.int (Int32.ofNat fr)), .val (.int (Int32.ofNat ct)), .val (.long ((acc <<< ((7 : Int32) &&& 0x3f).toInt64) ||| (((f i) &&& (127 : Int32)).toInt64))), .second, .val (.int (Int32.ofNat i))]) rfl k) ?_
      show OGo p e below _ (s₁.setTop (mkF m 27 #[.val (.ref a1), .val (.int (Int32.ofNat fr)), .val (.int (Int32.ofNat ct)), .val (.long ((acc <<< ((7 : Int32) &&& 0x3f).toInt64) ||| (((f i) &&& (127 : Int32)).toInt64))), .second, .val (.int (Int32.ofNat i))] []))
      refine OGo.st (fun t k => XS.iinc X0.here hx rfl (hb hby d2_27) rfl (l' := #[.val (.ref a1), .val (.int (Int32.ofNat fr)), .val (.int (Int32.ofNat ct)), .val (.long ((acc <<< ((7 : Int32) &&& 0x3f).toInt64) ||| (((f i) &&& (127 : Int32)).toInt64))), .second, .val (.int ((Int32.ofNat i) + (1 : Int32)))]) rfl k) ?_
      show OGo p e below _ (s₁.setTop (mkF m 30 #[.val (.ref a1), .val (.int (Int32.ofNat fr)), .val (.int (Int32.ofNat ct)), .val (.long ((acc <<< ((7 : Int32) &&& 0x3f).toInt64) ||| (((f i) &&& (127 : Int32)).toInt64))), .second, .val (.int ((Int32.ofNat i) + (1 : Int32)))] []))
      refine OGo.st (fun t k => XS.goto X0.here hx rfl (pc0 := 30) (pc' := 5) rfl (hb hby d2_30) (by decide) (by decide) k) ?_
      show OGo p e below _ (s₁.setTop (mkF m 5 #[.val (.ref a1), .val (.int (Int32.ofNat fr)), .val (.int (Int32.ofNat ct)), .val (.long ((acc <<< ((7 : Int32) &&& 0x3f).toInt64) ||| (((f i) &&& (127 : Int32)).toInt64))), .second, .val (.int ((Int32.ofNat i) + (1 : Int32)))] []))
      rw [show (Int32.ofNat i + (1 : Int32)) = Int32.ofNat (i + 1) from (inc_ofNat i).symm]
      refine OGo.eqvJ (show TL f (k + 1) i acc = TL f k (i + 1) ((acc <<< ((7 : Int32) &&& 0x3f).toInt64) ||| (((f i) &&& (127 : Int32)).toInt64)) from rfl) ?_
      exact ih (i + 1) _ (by omega)
  refine OGo.st (fun t k => castTop (ef2 m a1 fr ct) k) ?_
  show OGo p e below (Out s ({ frames := 0, cells := 0, slots := 0, locals := 0 } : Room).cells ({ frames := 0, cells := 0, slots := 0, locals := 0 } : Room).slots (PJ n0 h0 (TL f ct fr 0))) (s₁.setTop (mkF m 0 #[.val (.ref a1), .val (.int (Int32.ofNat fr)), .val (.int (Int32.ofNat ct)), .unset, .unset, .unset] []))
  refine OGo.st (fun t k => XS.lconst X0.here hx rfl (hb hby d2_0) k) ?_
  show OGo p e below _ (s₁.setTop (mkF m 1 #[.val (.ref a1), .val (.int (Int32.ofNat fr)), .val (.int (Int32.ofNat ct)), .unset, .unset, .unset] [(.long (0 : Int64))]))
  refine OGo.st (fun t k => XS.lstoreN X0.here hx rfl (hb hby d2_1) rfl (l' := #[.val (.ref a1), .val (.int (Int32.ofNat fr)), .val (.int (Int32.ofNat ct)), .val (.long (0 : Int64)), .second, .unset]) rfl k) ?_
  show OGo p e below _ (s₁.setTop (mkF m 2 #[.val (.ref a1), .val (.int (Int32.ofNat fr)), .val (.int (Int32.ofNat ct)), .val (.long (0 : Int64)), .second, .unset] []))
  refine OGo.st (fun t k => XS.iloadN X0.here hx rfl (hb hby d2_2) rfl k) ?_
  show OGo p e below _ (s₁.setTop (mkF m 3 #[.val (.ref a1), .val (.int (Int32.ofNat fr)), .val (.int (Int32.ofNat ct)), .val (.long (0 : Int64)), .second, .unset] [(.int (Int32.ofNat fr))]))
  refine OGo.st (fun t k => XS.istore X0.here hx rfl (hb hby d2_3) rfl (l' := #[.val (.ref a1), .val (.int (Int32.ofNat fr)), .val (.int (Int32.ofNat ct)), .val (.long (0 : Int64)), .second, .val (.int (Int32.ofNat fr))]) rfl k) ?_
  show OGo p e below _ (s₁.setTop (mkF m 5 #[.val (.ref a1), .val (.int (Int32.ofNat fr)), .val (.int (Int32.ofNat ct)), .val (.long (0 : Int64)), .second, .val (.int (Int32.ofNat fr))] []))
  exact J5 ct fr 0 rfl
theorem own_lcmpW (x y : Int64) : lcmpW x y = if x > y then 1 else if x = y then 0 else -1 := rfl
theorem own_cmp {x y : Int64} (h : x = y) : lcmpW x y = 0 := by
  subst h
  rw [own_lcmpW]
  rw [if_neg (show ¬ x > x from Int64.lt_irrefl), if_pos rfl]
theorem own_fill {c : Nat → Int32} {g1 g2 g3 g4 g5 g6 g7 g8 g9 g10 g11 g12 : Nat → Int32} (h1 : g1 = oset (fun _ => 0) 0 (c 0)) (h2 : g2 = oset g1 1 (c 1)) (h3 : g3 = oset g2 2 (c 2)) (h4 : g4 = oset g3 3 (c 3)) (h5 : g5 = oset g4 4 (c 4)) (h6 : g6 = oset g5 5 (c 5)) (h7 : g7 = oset g6 6 (c 6)) (h8 : g8 = oset g7 7 (c 7)) (h9 : g9 = oset g8 8 (c 8)) (h10 : g10 = oset g9 9 (c 9)) (h11 : g11 = oset g10 10 (c 10)) (h12 : g12 = oset g11 11 (c 11)) :
    ∀ i, i < 12 → g12 i = c i := by
  intro i hi
  subst h1 h2 h3 h4 h5 h6 h7 h8 h9 h10 h11 h12
  rcases (show i = 0 ∨ i = 1 ∨ i = 2 ∨ i = 3 ∨ i = 4 ∨ i = 5 ∨ i = 6 ∨ i = 7 ∨ i = 8 ∨ i = 9 ∨ i = 10 ∨ i = 11 by omega) with rfl | rfl | rfl | rfl | rfl | rfl | rfl | rfl | rfl | rfl | rfl | rfl <;> simp [oset]
def own_M (n : Nat) : BitVec 64 := BitVec.ofNat 64 (2 ^ n - 1)
theorem own_Mbit (n i : Nat) : (own_M n).getLsbD i = (decide (i < 64) && decide (i < n)) := by
  simp [own_M, BitVec.getLsbD_ofNat, Nat.testBit_two_pow_sub_one]
theorem own_step (V acc : BitVec 64) (k : Nat) : (((acc <<< 7) ||| ((V >>> (7 * k)) &&& own_M 7)) <<< (7 * k)) ||| (V &&& own_M (7 * k)) = (acc <<< (7 * (k + 1))) ||| (V &&& own_M (7 * (k + 1))) := by
  apply BitVec.eq_of_getLsbD_eq
  intro i hi
  simp only [BitVec.getLsbD_or, BitVec.getLsbD_and, BitVec.getLsbD_shiftLeft, BitVec.getLsbD_ushiftRight, own_Mbit, hi, decide_true, Bool.true_and]
  by_cases h1 : i < 7 * k
  · have h2 : i < 7 * (k + 1) := by omega
    simp [h1, h2]
  · by_cases h2 : i < 7 * (k + 1)
    · have h3 : i - 7 * k < 7 := by omega
      have h4 : 7 * k + (i - 7 * k) = i := by omega
      have h5 : i - 7 * k < 64 := by omega
      simp [h1, h2, h3, h4, h5]
    · have h3 : ¬ i - 7 * k < 7 := by omega
      have h4 : i - 7 * k - 7 = i - 7 * (k + 1) := by omega
      have h5 : i - 7 * k < 64 := by omega
      simp [h1, h2, h3, h4, h5]
theorem own_127 : ∀ i, (127#32).getLsbD i = decide (i < 7) := fun i => by
  rw [show (127#32) = BitVec.ofNat 32 (2 ^ 7 - 1) from rfl, BitVec.getLsbD_ofNat, Nat.testBit_two_pow_sub_one]
  by_cases q : i < 7
  · have : i < 32 := by omega
    simp [q, this]
  · simp [q]
/-- the low seven bits -/
theorem own_low (x : Int32) : (((x.toInt8.toInt32) &&& (127 : Int32)).toInt64).toBitVec = (x.toBitVec &&& 127#32).setWidth 64 := by
  have h : ∀ b : BitVec 32, ((((b.signExtend 8).signExtend 32) &&& 127#32).signExtend 64) = (b &&& 127#32).setWidth 64 := fun b => by
    have e127 := own_127
    apply BitVec.eq_of_getLsbD_eq
    intro i hi
    by_cases q : i < 7
    · have q1 : i < 32 := by omega
      have q2 : i < 8 := by omega
      simp only [BitVec.getLsbD_signExtend, BitVec.getLsbD_setWidth, BitVec.getLsbD_and, e127, q, q1, q2, hi, decide_true, Bool.true_and, Bool.and_true, if_true, reduceIte]
    · have hm : ((((b.signExtend 8).signExtend 32) &&& 127#32)).msb = false := by
        rw [BitVec.msb_and, show (127#32).msb = false from by decide, Bool.and_false]
      simp only [BitVec.getLsbD_signExtend, BitVec.getLsbD_setWidth, BitVec.getLsbD_and, e127, q, hm, hi, decide_true, decide_false, Bool.true_and, Bool.and_false, ite_self]
  exact h x.toBitVec
theorem own_sub {i j fr : Nat} (h : i = fr + j) (hb : i < 100) : (Int32.ofNat i - Int32.ofNat fr) = Int32.ofNat j := by
  rw [← Int32.toInt_inj, Int32.toInt_sub, own_toInt (by omega), own_toInt (by omega), own_toInt (by omega), Int.bmod_eq_of_le (by omega) (by omega)]
  omega
theorem own_amt {ct j : Nat} (h : j < ct) (hc : ct < 10) : ((7 : Int32) * ((Int32.ofNat ct - (1 : Int32)) - Int32.ofNat j)) = Int32.ofNat (7 * (ct - 1 - j)) := by
  have e1 : (Int32.ofNat ct - (1 : Int32)) = Int32.ofNat (ct - 1) := own_sub (i := ct) (j := ct - 1) (fr := 1) (by omega) (by omega)
  rw [e1, own_sub (i := ct - 1) (j := ct - 1 - j) (fr := j) (by omega) (by omega)]
  rw [← Int32.toInt_inj, Int32.toInt_mul, own_toInt (by omega), own_toInt (by omega)]
  have e7 : (7 : Int32).toInt = 7 := by decide
  rw [e7, Int.bmod_eq_of_le (by omega) (by omega)]
  omega
theorem own_shr (v : Int64) (n : Nat) (hn : n ≤ 8) : ((v.toUInt64 >>> ((Int32.ofNat (7 * n)) &&& 0x3f).toInt64.toUInt64).toInt64).toBitVec = v.toBitVec >>> (7 * n) := by
  have e : ((Int32.ofNat (7 * n)) &&& 0x3f).toInt64.toUInt64 = UInt64.ofNat (7 * n) := by
    rcases (show n = 0 ∨ n = 1 ∨ n = 2 ∨ n = 3 ∨ n = 4 ∨ n = 5 ∨ n = 6 ∨ n = 7 ∨ n = 8 by omega) with rfl | rfl | rfl | rfl | rfl | rfl | rfl | rfl | rfl <;> decide
  rw [e]
  have k : (v.toUInt64 >>> UInt64.ofNat (7 * n)).toBitVec = v.toBitVec >>> (7 * n) := by
    rw [UInt64.toBitVec_shiftRight]
    have q : ((UInt64.ofNat (7 * n)).toBitVec % 64).toNat = 7 * n := by
      rcases (show n = 0 ∨ n = 1 ∨ n = 2 ∨ n = 3 ∨ n = 4 ∨ n = 5 ∨ n = 6 ∨ n = 7 ∨ n = 8 by omega) with rfl | rfl | rfl | rfl | rfl | rfl | rfl | rfl | rfl <;> decide
    rw [BitVec.ushiftRight_eq', q]
    rfl
  exact k
theorem own_elem (v out : Int64) (hi : Int32) (ct fr j : Nat) (hj : j < ct) (hc : ct < 10) (hb : fr + ct ≤ 12) :
    (((f1 v (Int32.ofNat fr) (Int32.ofNat ct) (Int32.ofNat (fr + j)) hi out).toInt8.toInt32 &&& (127 : Int32)).toInt64).toBitVec = (v.toBitVec >>> (7 * (ct - 1 - j))) &&& own_M 7 := by
  have e1 := own_sub (i := fr + j) (j := j) (fr := fr) rfl (by omega)
  have k1 : ¬ (Int32.ofNat (fr + j) - Int32.ofNat fr) < (0 : Int32) := by rw [e1]; exact (own_nat (by omega)).1
  have k2 : (Int32.ofNat (fr + j) - Int32.ofNat fr) < Int32.ofNat ct := by
    rw [e1, Int32.lt_iff_toInt_lt, own_toInt (by omega), own_toInt (by omega)]
    omega
  have ef : f1 v (Int32.ofNat fr) (Int32.ofNat ct) (Int32.ofNat (fr + j)) hi out = nar .byte ((((((v.toUInt64 >>> (((7 : Int32) * ((Int32.ofNat ct - (1 : Int32)) - (Int32.ofNat (fr + j) - Int32.ofNat fr))) &&& 0x3f).toInt64.toUInt64).toInt64) &&& (127 : Int64)).toInt32) ||| ((((hi.toUInt32 >>> (Int32.ofNat (fr + j) &&& 31).toUInt32).toInt32) &&& (1 : Int32)) <<< ((7 : Int32) &&& 31))).toInt8.toInt32) :=
    (if_neg k1).trans (if_pos k2)
  rw [ef, e1, own_amt hj hc]
  generalize hB : (((hi.toUInt32 >>> (Int32.ofNat (fr + j) &&& 31).toUInt32).toInt32) &&& (1 : Int32)) = B
  have hW := own_shr v (ct - 1 - j) (by omega)
  generalize hU : ((v.toUInt64 >>> ((Int32.ofNat (7 * (ct - 1 - j))) &&& 0x3f).toInt64.toUInt64).toInt64) = U at hW ⊢
  rw [← hW]
  have en : ∀ x : Int32, (nar .byte x.toInt8.toInt32).toInt8.toInt32 = x.toInt8.toInt32 := fun x => by
    show (x.toInt8.toInt32.toInt8.toInt32).toInt8.toInt32 = _
    simp
  rw [en, own_low]
  have h7 : ((7 : Int32) &&& 31) = 7 := by decide
  rw [h7]
  have h : ∀ (u : BitVec 64) (b : BitVec 32), ((((u &&& 127#64).signExtend 32) ||| (b <<< 7)) &&& 127#32).setWidth 64 = u &&& own_M 7 := fun u b => by
    have e127 := own_127
    have e64 : ∀ i, (127#64).getLsbD i = (decide (i < 64) && decide (i < 7)) := fun i => own_Mbit 7 i
    apply BitVec.eq_of_getLsbD_eq
    intro i hi
    by_cases q : i < 7
    · have q1 : i < 32 := by omega
      simp only [BitVec.getLsbD_setWidth, BitVec.getLsbD_signExtend, BitVec.getLsbD_and, BitVec.getLsbD_or, BitVec.getLsbD_shiftLeft, e127, e64, own_Mbit, hi, q, q1, decide_true, Bool.true_and, Bool.and_true, Bool.not_true, Bool.false_and, Bool.or_false, if_true, reduceIte]
    · simp only [BitVec.getLsbD_setWidth, BitVec.getLsbD_and, e127, own_Mbit, hi, q, decide_true, decide_false, Bool.true_and, Bool.and_false]
  have h8 : (((U &&& (127 : Int64)).toInt32) ||| (B <<< (7 : Int32))).toBitVec = ((U.toBitVec &&& 127#64).signExtend 32) ||| (B.toBitVec <<< 7) := by
    rw [Int32.toBitVec_or, Int32.toBitVec_shiftLeft, BitVec.shiftLeft_eq', show ((7 : Int32).toBitVec.smod 32).toNat = 7 from by decide]
    rfl
  rw [h8]
  exact h _ _
theorem own_TL (v out : Int64) (hi : Int32) (ct fr : Nat) (hc : ct < 10) (hb : fr + ct ≤ 12) (f : Nat → Int32) (hf : ∀ i, i < 12 → f i = (f1 v (Int32.ofNat fr) (Int32.ofNat ct) (Int32.ofNat i) hi out).toInt8.toInt32) :
    ∀ (k i : Nat) (acc : Int64), i + k = fr + ct → k ≤ ct → (TL f k i acc).toBitVec = (acc.toBitVec <<< (7 * k)) ||| (v.toBitVec &&& own_M (7 * k)) := by
  intro k
  induction k with
  | zero =>
    intro i acc h1 h2
    have e : own_M (7 * 0) = 0#64 := by decide
    rw [e]
    show acc.toBitVec = _
    simp
  | succ k ih =>
    intro i acc h1 h2
    have e : TL f (k + 1) i acc = TL f k (i + 1) ((acc <<< ((7 : Int32) &&& 0x3f).toInt64) ||| (((f i) &&& (127 : Int32)).toInt64)) := rfl
    rw [e, ih (i + 1) _ (by omega) (by omega), hf i (by omega)]
    have h := own_elem v out hi ct fr (i - fr) (by omega) hc hb
    rw [show fr + (i - fr) = i by omega, show ct - 1 - (i - fr) = k by omega] at h
    rw [Int64.toBitVec_or, h, ← own_step]
    have h7 : (acc <<< ((7 : Int32) &&& 0x3f).toInt64).toBitVec = acc.toBitVec <<< 7 := by
      have e7 : ((7 : Int32) &&& 0x3f).toInt64 = 7 := by decide
      rw [e7, Int64.toBitVec_shiftLeft, BitVec.shiftLeft_eq', show ((7 : Int64).toBitVec.smod 64).toNat = 7 from by decide]
    rw [h7]
theorem own_law (v : Int64) (hi : Int32) (out : Int64) (ct fr : Nat) (hc : ct < 10) (hb : fr + ct ≤ 12) (f : Nat → Int32) (hf : ∀ i, i < 12 → f i = (f1 v (Int32.ofNat fr) (Int32.ofNat ct) (Int32.ofNat i) hi out).toInt8.toInt32) :
    TL f ct fr 0 = (v &&& (((1 : Int64) <<< (((7 : Int32) * (Int32.ofNat ct)) &&& 0x3f).toInt64) - (1 : Int64))) := by
  rw [← Int64.toBitVec_inj, own_TL v out hi ct fr hc hb f hf ct fr 0 rfl (Nat.le_refl _), Int64.toBitVec_and]
  have e : (((1 : Int64) <<< (((7 : Int32) * (Int32.ofNat ct)) &&& 0x3f).toInt64) - (1 : Int64)).toBitVec = own_M (7 * ct) := by
    rcases (show ct = 0 ∨ ct = 1 ∨ ct = 2 ∨ ct = 3 ∨ ct = 4 ∨ ct = 5 ∨ ct = 6 ∨ ct = 7 ∨ ct = 8 ∨ ct = 9 by omega) with rfl | rfl | rfl | rfl | rfl | rfl | rfl | rfl | rfl | rfl <;> decide
  rw [e]
  have e0 : (0 : Int64).toBitVec = 0#64 := rfl
  rw [e0]
  simp
theorem pn0 : plainName "com/example/distinguo/distinguo/codec/SevenBitGroupsToLongPinLaw" = true := by first | (simp [plainName, overriddenIn]; done) | decide +kernel
theorem pd0_0 : parseMethodDescriptor "(JIIIIJ)B" = some ⟨[.long, .int, .int, .int, .int, .long], some .byte⟩ := by decide +kernel
theorem pd0_1 : parseMethodDescriptor "([BII)J" = some ⟨[(.array .byte), .int, .int], some .long⟩ := by decide +kernel
theorem ef0 (m : MethodId) (q1 : Int64) (q2 : Int32) (q3 : Int32) (q4 : Int32) (q5 : Int64) : entryFrame m #[(.long q1), (.int q2), (.int q3), (.int q4), (.long q5)] maxLocals = mkF m 0 #[.val (.long q1), .second, .val (.int q2), .val (.int q3), .val (.int q4), .val (.long q5), .second, .unset, .unset, .unset, .unset, .unset, .unset, .unset] [] := by first | (simp [entryFrame, mkF, argsToLocals, Value.category, maxLocals]; done) | rfl
set_option maxRecDepth 65536 in
set_option maxHeartbeats 40000000 in
theorem rm0 (l : Launch) (Z : State) (a0 : Array Value) (hw : ∀ d ∈ tables_1, d.before a0 Z = true) (ws : List Jvm.Cond) (q1 : Int64) (q2 : Int32) (q3 : Int32) (q4 : Int32) (q5 : Int64) (h0 : Heap) (n0 : Nat) (Z0 : n0 ≤ h0.size) :
    MetFree l x (head1 (Jvm.Cond.code x code maxLocals ret :: ws) room_1) (fun a U => a = #[(.long q1), (.int q2), (.int q3), (.int q4), (.long q5)] ∧ Z.Warmed39 U.vm ∧ U.heap = h0) (fun _ _ _ _ _ => True) (fun _ U o U' => ∃ v L, o = .returned v ∧ PF n0 1 v U'.heap L ∧ FrameEnd U o U' L room_1.cells room_1.slots) := by
  refine MetFree.of_bodySF (plainFor_of_name pn0) hisR ?_
  intro p e s m args below meth c s₁ Bd hml0 hP hK
  obtain ⟨rfl, hZ, hh⟩ := hP
  have hx := Bd.exec
  have hby := Bd.bytes
  have hml : c.maxLocals = 14 := hml0
  have hown : s.vm.findClass "com/example/distinguo/distinguo/codec/SevenBitGroupsToLongPinLaw" = some m.cls := findClass_of_methodNamed Bd.named
  have hnm := (name_of_methodNamed Bd.named Bd.method).1
  have X0 : Stand p l e room_1 s m #[(.long q1), (.int q2), (.int q3), (.int q4), (.long q5)] below meth c s₁ [] 0 0 := Stand.of_body Bd
  have e0 : s₁.heap = h0 := by rw [← hh, Bd.state]; rfl
  have N0 := Fr.nil n0
  show OGo p e below (Out s room_1.cells room_1.slots (PF n0 1)) (s₁.setTop (entryFrame m #[(.long q1), (.int q2), (.int q3), (.int q4), (.long q5)] maxLocals))
  obtain ⟨ct, hct, hctb⟩ := own_ct q2
  obtain ⟨fr, hfr, hfrb⟩ := own_fr q3 ct hctb
  have hbd : fr + ct ≤ 12 := by omega
  refine OGo.st (fun t k => castTop (ef0 m q1 q2 q3 q4 q5) k) ?_
  show OGo p e below (Out s room_1.cells room_1.slots (PF n0 1)) (s₁.setTop (mkF m 0 #[.val (.long q1), .second, .val (.int q2), .val (.int q3), .val (.int q4), .val (.long q5), .second, .unset, .unset, .unset, .unset, .unset, .unset, .unset] []))
  refine OGo.st (fun t k => XS.iloadN X0.here hx rfl (hb hby at_0) rfl k) ?_
  show OGo p e below _ (s₁.setTop (mkF m 1 #[.val (.long q1), .second, .val (.int q2), .val (.int q3), .val (.int q4), .val (.long q5), .second, .unset, .unset, .unset, .unset, .unset, .unset, .unset] [(.int q2)]))
  refine OGo.st (fun t k => X0.ldcInt hx hown (mvT hZ (hw _ (List.mem_of_getElem? (i := 0) rfl))) (g := (mkF m 1 #[.val (.long q1), .second, .val (.int q2), .val (.int q3), .val (.int q4), .val (.long q5), .second, .unset, .unset, .unset, .unset, .unset, .unset, .unset] [(.int q2)])) rfl (hb hby at_1) t k) ?_
  show OGo p e below _ (s₁.setTop (mkF m 3 #[.val (.long q1), .second, .val (.int q2), .val (.int q3), .val (.int q4), .val (.long q5), .second, .unset, .unset, .unset, .unset, .unset, .unset, .unset] [(.int (2147483647 : Int32)), (.int q2)]))
  refine OGo.st (fun t k => XS.iand X0.here hx rfl (hb hby at_3) rfl k) ?_
  show OGo p e below _ (s₁.setTop (mkF m 4 #[.val (.long q1), .second, .val (.int q2), .val (.int q3), .val (.int q4), .val (.long q5), .second, .unset, .unset, .unset, .unset, .unset, .unset, .unset] [(.int (q2 &&& (2147483647 : Int32)))]))
  refine OGo.st (fun t k => XS.bipush X0.here hx rfl (hb hby at_4) k) ?_
  show OGo p e below _ (s₁.setTop (mkF m 6 #[.val (.long q1), .second, .val (.int q2), .val (.int q3), .val (.int q4), .val (.long q5), .second, .unset, .unset, .unset, .unset, .unset, .unset, .unset] [(.int (10 : Int32)), (.int (q2 &&& (2147483647 : Int32)))]))
  refine OGo.st (fun t k => XS.irem X0.here hx rfl (hb hby at_6) rfl (by decide) k) ?_
  show OGo p e below _ (s₁.setTop (mkF m 7 #[.val (.long q1), .second, .val (.int q2), .val (.int q3), .val (.int q4), .val (.long q5), .second, .unset, .unset, .unset, .unset, .unset, .unset, .unset] [(.int ((q2 &&& (2147483647 : Int32)) - ((q2 &&& (2147483647 : Int32)) / (10 : Int32)) * (10 : Int32)))]))
  rw [hct]
  show OGo p e below _ (s₁.setTop (mkF m 7 #[.val (.long q1), .second, .val (.int q2), .val (.int q3), .val (.int q4), .val (.long q5), .second, .unset, .unset, .unset, .unset, .unset, .unset, .unset] [(.int (Int32.ofNat ct))]))
  refine OGo.st (fun t k => XS.istore X0.here hx rfl (hb hby at_7) rfl (l' := #[.val (.long q1), .second, .val (.int q2), .val (.int q3), .val (.int q4), .val (.long q5), .second, .val (.int (Int32.ofNat ct)), .unset, .unset, .unset, .unset, .unset, .unset]) rfl k) ?_
  show OGo p e below _ (s₁.setTop (mkF m 9 #[.val (.long q1), .second, .val (.int q2), .val (.int q3), .val (.int q4), .val (.long q5), .second, .val (.int (Int32.ofNat ct)), .unset, .unset, .unset, .unset, .unset, .unset] []))
  refine OGo.st (fun t k => XS.iloadN X0.here hx rfl (hb hby at_9) rfl k) ?_
  show OGo p e below _ (s₁.setTop (mkF m 10 #[.val (.long q1), .second, .val (.int q2), .val (.int q3), .val (.int q4), .val (.long q5), .second, .val (.int (Int32.ofNat ct)), .unset, .unset, .unset, .unset, .unset, .unset] [(.int q3)]))
  refine OGo.st (fun t k => X0.ldcInt hx hown (mvT hZ (hw _ (List.mem_of_getElem? (i := 0) rfl))) (g := (mkF m 10 #[.val (.long q1), .second, .val (.int q2), .val (.int q3), .val (.int q4), .val (.long q5), .second, .val (.int (Int32.ofNat ct)), .unset, .unset, .unset, .unset, .unset, .unset] [(.int q3)])) rfl (hb hby at_10) t k) ?_
  show OGo p e below _ (s₁.setTop (mkF m 12 #[.val (.long q1), .second, .val (.int q2), .val (.int q3), .val (.int q4), .val (.long q5), .second, .val (.int (Int32.ofNat ct)), .unset, .unset, .unset, .unset, .unset, .unset] [(.int (2147483647 : Int32)), (.int q3)]))
  refine OGo.st (fun t k => XS.iand X0.here hx rfl (hb hby at_12) rfl k) ?_
  show OGo p e below _ (s₁.setTop (mkF m 13 #[.val (.long q1), .second, .val (.int q2), .val (.int q3), .val (.int q4), .val (.long q5), .second, .val (.int (Int32.ofNat ct)), .unset, .unset, .unset, .unset, .unset, .unset] [(.int (q3 &&& (2147483647 : Int32)))]))
  refine OGo.st (fun t k => XS.bipush X0.here hx rfl (hb hby at_13) k) ?_
  show OGo p e below _ (s₁.setTop (mkF m 15 #[.val (.long q1), .second, .val (.int q2), .val (.int q3), .val (.int q4), .val (.long q5), .second, .val (.int (Int32.ofNat ct)), .unset, .unset, .unset, .unset, .unset, .unset] [(.int (13 : Int32)), (.int (q3 &&& (2147483647 : Int32)))]))
  refine OGo.st (fun t k => XS.iload X0.here hx rfl (hb hby at_15) rfl k) ?_
  show OGo p e below _ (s₁.setTop (mkF m 17 #[.val (.long q1), .second, .val (.int q2), .val (.int q3), .val (.int q4), .val (.long q5), .second, .val (.int (Int32.ofNat ct)), .unset, .unset, .unset, .unset, .unset, .unset] [(.int (Int32.ofNat ct)), (.int (13 : Int32)), (.int (q3 &&& (2147483647 : Int32)))]))
  refine OGo.st (fun t k => XS.isub X0.here hx rfl (hb hby at_17) rfl k) ?_
  show OGo p e below _ (s₁.setTop (mkF m 18 #[.val (.long q1), .second, .val (.int q2), .val (.int q3), .val (.int q4), .val (.long q5), .second, .val (.int (Int32.ofNat ct)), .unset, .unset, .unset, .unset, .unset, .unset] [(.int ((13 : Int32) - (Int32.ofNat ct))), (.int (q3 &&& (2147483647 : Int32)))]))
  refine OGo.st (fun t k => XS.irem X0.here hx rfl (hb hby at_18) rfl (own_nz13 hctb) k) ?_
  show OGo p e below _ (s₁.setTop (mkF m 19 #[.val (.long q1), .second, .val (.int q2), .val (.int q3), .val (.int q4), .val (.long q5), .second, .val (.int (Int32.ofNat ct)), .unset, .unset, .unset, .unset, .unset, .unset] [(.int ((q3 &&& (2147483647 : Int32)) - ((q3 &&& (2147483647 : Int32)) / ((13 : Int32) - (Int32.ofNat ct))) * ((13 : Int32) - (Int32.ofNat ct))))]))
  rw [hfr]
  show OGo p e below _ (s₁.setTop (mkF m 19 #[.val (.long q1), .second, .val (.int q2), .val (.int q3), .val (.int q4), .val (.long q5), .second, .val (.int (Int32.ofNat ct)), .unset, .unset, .unset, .unset, .unset, .unset] [(.int (Int32.ofNat fr))]))
  refine OGo.st (fun t k => XS.istore X0.here hx rfl (hb hby at_19) rfl (l' := #[.val (.long q1), .second, .val (.int q2), .val (.int q3), .val (.int q4), .val (.long q5), .second, .val (.int (Int32.ofNat ct)), .val (.int (Int32.ofNat fr)), .unset, .unset, .unset, .unset, .unset]) rfl k) ?_
  show OGo p e below _ (s₁.setTop (mkF m 21 #[.val (.long q1), .second, .val (.int q2), .val (.int q3), .val (.int q4), .val (.long q5), .second, .val (.int (Int32.ofNat ct)), .val (.int (Int32.ofNat fr)), .unset, .unset, .unset, .unset, .unset] []))
  refine OGo.st (fun t k => XS.bipush X0.here hx rfl (hb hby at_21) k) ?_
  show OGo p e below _ (s₁.setTop (mkF m 23 #[.val (.long q1), .second, .val (.int q2), .val (.int q3), .val (.int q4), .val (.long q5), .second, .val (.int (Int32.ofNat ct)), .val (.int (Int32.ofNat fr)), .unset, .unset, .unset, .unset, .unset] [(.int (12 : Int32))]))
  obtain ⟨T1, h1, k1, X1, e1, E1, A1, st1⟩ := newP X0 hx hZ (hw _ (List.mem_of_getElem? (i := 1) rfl)) e0 (g := (mkF m 23 #[.val (.long q1), .second, .val (.int q2), .val (.int q3), .val (.int q4), .val (.long q5), .second, .val (.int (Int32.ofNat ct)), .val (.int (Int32.ofNat fr)), .unset, .unset, .unset, .unset, .unset] [(.int (12 : Int32))])) rfl (hb hby at_23) rfl (by decide) (cap := 12) (by decide) (by decide) (by decide) (by decide)
  obtain ⟨b1, g1⟩ : ∃ z, z = h0.size := ⟨_, rfl⟩
  rw [← g1] at A1 st1
  have O1 : OA Z h1 b1 .byte 12 (fun _ => 0) := OA.new A1 (by decide) rfl
  have gb1 : n0 ≤ b1 := Nat.le_trans Z0 (Nat.le_of_eq g1.symm)
  have Z1 : n0 ≤ h1.size := Nat.le_trans Z0 E1.1
  obtain ⟨lo1, X1, N1⟩ : ∃ L, Stand p l e room_1 s m #[(.long q1), (.int q2), (.int q3), (.int q4), (.long q5)] below meth c T1 L 1 12 ∧ Fr n0 L := ⟨_, X1, N0⟩
  refine OGo.st (fun t k => st1 t k) ?_
  show OGo p e below _ (T1.setTop (mkF m 25 #[.val (.long q1), .second, .val (.int q2), .val (.int q3), .val (.int q4), .val (.long q5), .second, .val (.int (Int32.ofNat ct)), .val (.int (Int32.ofNat fr)), .unset, .unset, .unset, .unset, .unset] [(.ref b1)]))
  refine OGo.st (fun t k => XS.astore X1.here hx rfl (hb hby at_25) rfl rfl (l' := #[.val (.long q1), .second, .val (.int q2), .val (.int q3), .val (.int q4), .val (.long q5), .second, .val (.int (Int32.ofNat ct)), .val (.int (Int32.ofNat fr)), .val (.ref b1), .unset, .unset, .unset, .unset]) rfl k) ?_
  show OGo p e below _ (T1.setTop (mkF m 27 #[.val (.long q1), .second, .val (.int q2), .val (.int q3), .val (.int q4), .val (.long q5), .second, .val (.int (Int32.ofNat ct)), .val (.int (Int32.ofNat fr)), .val (.ref b1), .unset, .unset, .unset, .unset] []))
  refine OGo.st (fun t k => XS.aload X1.here hx rfl (hb hby at_27) rfl rfl k) ?_
  show OGo p e below _ (T1.setTop (mkF m 29 #[.val (.long q1), .second, .val (.int q2), .val (.int q3), .val (.int q4), .val (.long q5), .second, .val (.int (Int32.ofNat ct)), .val (.int (Int32.ofNat fr)), .val (.ref b1), .unset, .unset, .unset, .unset] [(.ref b1)]))
  refine OGo.st (fun t k => XS.iconst X1.here hx rfl (hb hby at_29) k) ?_
  show OGo p e below _ (T1.setTop (mkF m 30 #[.val (.long q1), .second, .val (.int q2), .val (.int q3), .val (.int q4), .val (.long q5), .second, .val (.int (Int32.ofNat ct)), .val (.int (Int32.ofNat fr)), .val (.ref b1), .unset, .unset, .unset, .unset] [(.int (0 : Int32)), (.ref b1)]))
  refine OGo.st (fun t k => XS.lloadN X1.here hx rfl (hb hby at_30) rfl k) ?_
  show OGo p e below _ (T1.setTop (mkF m 31 #[.val (.long q1), .second, .val (.int q2), .val (.int q3), .val (.int q4), .val (.long q5), .second, .val (.int (Int32.ofNat ct)), .val (.int (Int32.ofNat fr)), .val (.ref b1), .unset, .unset, .unset, .unset] [(.long q1), (.int (0 : Int32)), (.ref b1)]))
  refine OGo.st (fun t k => XS.iload X1.here hx rfl (hb hby at_31) rfl k) ?_
  show OGo p e below _ (T1.setTop (mkF m 33 #[.val (.long q1), .second, .val (.int q2), .val (.int q3), .val (.int q4), .val (.long q5), .second, .val (.int (Int32.ofNat ct)), .val (.int (Int32.ofNat fr)), .val (.ref b1), .unset, .unset, .unset, .unset] [(.int (Int32.ofNat fr)), (.long q1), (.int (0 : Int32)), (.ref b1)]))
  refine OGo.st (fun t k => XS.iload X1.here hx rfl (hb hby at_33) rfl k) ?_
  show OGo p e below _ (T1.setTop (mkF m 35 #[.val (.long q1), .second, .val (.int q2), .val (.int q3), .val (.int q4), .val (.long q5), .second, .val (.int (Int32.ofNat ct)), .val (.int (Int32.ofNat fr)), .val (.ref b1), .unset, .unset, .unset, .unset] [(.int (Int32.ofNat ct)), (.int (Int32.ofNat fr)), (.long q1), (.int (0 : Int32)), (.ref b1)]))
  refine OGo.st (fun t k => XS.iconst X1.here hx rfl (hb hby at_35) k) ?_
  show OGo p e below _ (T1.setTop (mkF m 36 #[.val (.long q1), .second, .val (.int q2), .val (.int q3), .val (.int q4), .val (.long q5), .second, .val (.int (Int32.ofNat ct)), .val (.int (Int32.ofNat fr)), .val (.ref b1), .unset, .unset, .unset, .unset] [(.int (0 : Int32)), (.int (Int32.ofNat ct)), (.int (Int32.ofNat fr)), (.long q1), (.int (0 : Int32)), (.ref b1)]))
  refine OGo.st (fun t k => XS.iload X1.here hx rfl (hb hby at_36) rfl k) ?_
  show OGo p e below _ (T1.setTop (mkF m 38 #[.val (.long q1), .second, .val (.int q2), .val (.int q3), .val (.int q4), .val (.long q5), .second, .val (.int (Int32.ofNat ct)), .val (.int (Int32.ofNat fr)), .val (.ref b1), .unset, .unset, .unset, .unset] [(.int q4), (.int (0 : Int32)), (.int (Int32.ofNat ct)), (.int (Int32.ofNat fr)), (.long q1), (.int (0 : Int32)), (.ref b1)]))
  refine OGo.st (fun t k => XS.lload X1.here hx rfl (hb hby at_38) rfl k) ?_
  show OGo p e below _ (T1.setTop (mkF m 40 #[.val (.long q1), .second, .val (.int q2), .val (.int q3), .val (.int q4), .val (.long q5), .second, .val (.int (Int32.ofNat ct)), .val (.int (Int32.ofNat fr)), .val (.ref b1), .unset, .unset, .unset, .unset] [(.long q5), (.int q4), (.int (0 : Int32)), (.int (Int32.ofNat ct)), (.int (Int32.ofNat fr)), (.long q1), (.int (0 : Int32)), (.ref b1)]))
  obtain ⟨_, _, ⟨T2, L2, k2, n2⟩, -, X2, ⟨Lc2, hQ2, l2, y2, z2⟩, st2⟩ := Jvm.LawKit.callS X1 hx (y := (⟨"com/example/distinguo/distinguo/codec/SevenBitGroupsToLongPinLaw", "cell", "(JIIIIJ)B"⟩ : MethodName)) hown (mvT hZ (hw _ (List.mem_of_getElem? (i := 2) rfl))) (mvT hZ (hw _ (List.mem_of_getElem? (i := 3) rfl))) (mvT hZ (hw _ (List.mem_of_getElem? (i := 4) rfl))) (mvT hZ (hw _ (List.mem_of_getElem? (i := 5) rfl))) (by decide) (backOf (W := 2) (rm1 l Z a0 hw [] q1 (Int32.ofNat fr) (Int32.ofNat ct) (0 : Int32) q4 q5 h1 n0 Z1) hZ (hw _ (List.mem_of_getElem? (i := 5) rfl)) (hw _ (List.mem_of_getElem? (i := 4) rfl)) (by decide) (by decide)) (g := (mkF m 40 #[.val (.long q1), .second, .val (.int q2), .val (.int q3), .val (.int q4), .val (.long q5), .second, .val (.int (Int32.ofNat ct)), .val (.int (Int32.ofNat fr)), .val (.ref b1), .unset, .unset, .unset, .unset] [(.long q5), (.int q4), (.int (0 : Int32)), (.int (Int32.ofNat ct)), (.int (Int32.ofNat fr)), (.long q1), (.int (0 : Int32)), (.ref b1)])) rfl (by rw [hml]; rfl) (argsL := [(.long q1), (.int (Int32.ofNat fr)), (.int (Int32.ofNat ct)), (.int (0 : Int32)), (.int q4), (.long q5)]) (rest := [(.int (0 : Int32)), (.ref b1)]) (lenOf pd0_0 rfl) rfl (by show 2 * 0 + _ ≤ _; exact Nat.le_of_eq rfl) (hb hby at_40) (fun _ _ => ⟨rfl, e1, (by decide : 1 + 0 ≤ _), (by decide : 12 + 0 ≤ _)⟩)
  dsimp only [Pt.U, Pt.locs, Pt.cells, Pt.slots] at X2 l2 y2 z2 st2 hQ2
  subst l2 y2 z2
  obtain ⟨rfl, Nq2, e2⟩ := hQ2
  have N2 := Fr.app N1 Nq2
  obtain ⟨lo2, X2, N2⟩ : ∃ L, Stand p l e room_1 s m #[(.long q1), (.int q2), (.int q3), (.int q4), (.long q5)] below meth c T2 L 1 12 ∧ Fr n0 L := ⟨_, X2, N2⟩
  refine OGo.st (fun t k => st2 t k) ?_
  show OGo p e below _ (T2.setTop (mkF m 43 #[.val (.long q1), .second, .val (.int q2), .val (.int q3), .val (.int q4), .val (.long q5), .second, .val (.int (Int32.ofNat ct)), .val (.int (Int32.ofNat fr)), .val (.ref b1), .unset, .unset, .unset, .unset] [(.int (f1 q1 (Int32.ofNat fr) (Int32.ofNat ct) (0 : Int32) q4 q5)), (.int (0 : Int32)), (.ref b1)]))
  obtain ⟨T3, h3, X3, e3, W3, O3', st3⟩ := OA.stB X2 hx hZ e2 O1 (j := (0 : Int32)) (x := (f1 q1 (Int32.ofNat fr) (Int32.ofNat ct) (0 : Int32) q4 q5)) (k := 0) (by decide) (by decide) (by decide) (g := (mkF m 43 #[.val (.long q1), .second, .val (.int q2), .val (.int q3), .val (.int q4), .val (.long q5), .second, .val (.int (Int32.ofNat ct)), .val (.int (Int32.ofNat fr)), .val (.ref b1), .unset, .unset, .unset, .unset] [(.int (f1 q1 (Int32.ofNat fr) (Int32.ofNat ct) (0 : Int32) q4 q5)), (.int (0 : Int32)), (.ref b1)])) rfl rfl (hb hby at_43)
  obtain ⟨fa3, hf3⟩ : ∃ z, z = oset (fun _ => 0) 0 ((f1 q1 (Int32.ofNat fr) (Int32.ofNat ct) (0 : Int32) q4 q5).toInt8.toInt32) := ⟨_, rfl⟩
  have O3 := O3'
  rw [← hf3] at O3
  have N3 := Fr.snoc X3 N2 gb1
  have Z3 : n0 ≤ h3.size := Nat.le_trans Z1 (Keep.of_wr W3).1
  obtain ⟨lo3, X3, N3⟩ : ∃ L, Stand p l e room_1 s m #[(.long q1), (.int q2), (.int q3), (.int q4), (.long q5)] below meth c T3 L 1 12 ∧ Fr n0 L := ⟨_, X3, N3⟩
  refine OGo.st (fun t k => st3 t k) ?_
  show OGo p e below _ (T3.setTop (mkF m 44 #[.val (.long q1), .second, .val (.int q2), .val (.int q3), .val (.int q4), .val (.long q5), .second, .val (.int (Int32.ofNat ct)), .val (.int (Int32.ofNat fr)), .val (.ref b1), .unset, .unset, .unset, .unset] []))
  refine OGo.st (fun t k => XS.aload X3.here hx rfl (hb hby at_44) rfl rfl k) ?_
  show OGo p e below _ (T3.setTop (mkF m 46 #[.val (.long q1), .second, .val (.int q2), .val (.int q3), .val (.int q4), .val (.long q5), .second, .val (.int (Int32.ofNat ct)), .val (.int (Int32.ofNat fr)), .val (.ref b1), .unset, .unset, .unset, .unset] [(.ref b1)]))
  refine OGo.st (fun t k => XS.iconst X3.here hx rfl (hb hby at_46) k) ?_
  show OGo p e below _ (T3.setTop (mkF m 47 #[.val (.long q1), .second, .val (.int q2), .val (.int q3), .val (.int q4), .val (.long q5), .second, .val (.int (Int32.ofNat ct)), .val (.int (Int32.ofNat fr)), .val (.ref b1), .unset, .unset, .unset, .unset] [(.int (1 : Int32)), (.ref b1)]))
  refine OGo.st (fun t k => XS.lloadN X3.here hx rfl (hb hby at_47) rfl k) ?_
  show OGo p e below _ (T3.setTop (mkF m 48 #[.val (.long q1), .second, .val (.int q2), .val (.int q3), .val (.int q4), .val (.long q5), .second, .val (.int (Int32.ofNat ct)), .val (.int (Int32.ofNat fr)), .val (.ref b1), .unset, .unset, .unset, .unset] [(.long q1), (.int (1 : Int32)), (.ref b1)]))
  refine OGo.st (fun t k => XS.iload X3.here hx rfl (hb hby at_48) rfl k) ?_
  show OGo p e below _ (T3.setTop (mkF m 50 #[.val (.long q1), .second, .val (.int q2), .val (.int q3), .val (.int q4), .val (.long q5), .second, .val (.int (Int32.ofNat ct)), .val (.int (Int32.ofNat fr)), .val (.ref b1), .unset, .unset, .unset, .unset] [(.int (Int32.ofNat fr)), (.long q1), (.int (1 : Int32)), (.ref b1)]))
  refine OGo.st (fun t k => XS.iload X3.here hx rfl (hb hby at_50) rfl k) ?_
  show OGo p e below _ (T3.setTop (mkF m 52 #[.val (.long q1), .second, .val (.int q2), .val (.int q3), .val (.int q4), .val (.long q5), .second, .val (.int (Int32.ofNat ct)), .val (.int (Int32.ofNat fr)), .val (.ref b1), .unset, .unset, .unset, .unset] [(.int (Int32.ofNat ct)), (.int (Int32.ofNat fr)), (.long q1), (.int (1 : Int32)), (.ref b1)]))
  refine OGo.st (fun t k => XS.iconst X3.here hx rfl (hb hby at_52) k) ?_
  show OGo p e below _ (T3.setTop (mkF m 53 #[.val (.long q1), .second, .val (.int q2), .val (.int q3), .val (.int q4), .val (.long q5), .second, .val (.int (Int32.ofNat ct)), .val (.int (Int32.ofNat fr)), .val (.ref b1), .unset, .unset, .unset, .unset] [(.int (1 : Int32)), (.int (Int32.ofNat ct)), (.int (Int32.ofNat fr)), (.long q1), (.int (1 : Int32)), (.ref b1)]))
  refine OGo.st (fun t k => XS.iload X3.here hx rfl (hb hby at_53) rfl k) ?_
  show OGo p e below _ (T3.setTop (mkF m 55 #[.val (.long q1), .second, .val (.int q2), .val (.int q3), .val (.int q4), .val (.long q5), .second, .val (.int (Int32.ofNat ct)), .val (.int (Int32.ofNat fr)), .val (.ref b1), .unset, .unset, .unset, .unset] [(.int q4), (.int (1 : Int32)), (.int (Int32.ofNat ct)), (.int (Int32.ofNat fr)), (.long q1), (.int (1 : Int32)), (.ref b1)]))
  refine OGo.st (fun t k => XS.lload X3.here hx rfl (hb hby at_55) rfl k) ?_
  show OGo p e below _ (T3.setTop (mkF m 57 #[.val (.long q1), .second, .val (.int q2), .val (.int q3), .val (.int q4), .val (.long q5), .second, .val (.int (Int32.ofNat ct)), .val (.int (Int32.ofNat fr)), .val (.ref b1), .unset, .unset, .unset, .unset] [(.long q5), (.int q4), (.int (1 : Int32)), (.int (Int32.ofNat ct)), (.int (Int32.ofNat fr)), (.long q1), (.int (1 : Int32)), (.ref b1)]))
  obtain ⟨_, _, ⟨T4, L4, k4, n4⟩, -, X4, ⟨Lc4, hQ4, l4, y4, z4⟩, st4⟩ := Jvm.LawKit.callS X3 hx (y := (⟨"com/example/distinguo/distinguo/codec/SevenBitGroupsToLongPinLaw", "cell", "(JIIIIJ)B"⟩ : MethodName)) hown (mvT hZ (hw _ (List.mem_of_getElem? (i := 2) rfl))) (mvT hZ (hw _ (List.mem_of_getElem? (i := 3) rfl))) (mvT hZ (hw _ (List.mem_of_getElem? (i := 4) rfl))) (mvT hZ (hw _ (List.mem_of_getElem? (i := 5) rfl))) (by decide) (backOf (W := 2) (rm1 l Z a0 hw [] q1 (Int32.ofNat fr) (Int32.ofNat ct) (1 : Int32) q4 q5 h3 n0 Z3) hZ (hw _ (List.mem_of_getElem? (i := 5) rfl)) (hw _ (List.mem_of_getElem? (i := 4) rfl)) (by decide) (by decide)) (g := (mkF m 57 #[.val (.long q1), .second, .val (.int q2), .val (.int q3), .val (.int q4), .val (.long q5), .second, .val (.int (Int32.ofNat ct)), .val (.int (Int32.ofNat fr)), .val (.ref b1), .unset, .unset, .unset, .unset] [(.long q5), (.int q4), (.int (1 : Int32)), (.int (Int32.ofNat ct)), (.int (Int32.ofNat fr)), (.long q1), (.int (1 : Int32)), (.ref b1)])) rfl (by rw [hml]; rfl) (argsL := [(.long q1), (.int (Int32.ofNat fr)), (.int (Int32.ofNat ct)), (.int (1 : Int32)), (.int q4), (.long q5)]) (rest := [(.int (1 : Int32)), (.ref b1)]) (lenOf pd0_0 rfl) rfl (by show 2 * 0 + _ ≤ _; exact Nat.le_of_eq rfl) (hb hby at_57) (fun _ _ => ⟨rfl, e3, (by decide : 1 + 0 ≤ _), (by decide : 12 + 0 ≤ _)⟩)
  dsimp only [Pt.U, Pt.locs, Pt.cells, Pt.slots] at X4 l4 y4 z4 st4 hQ4
  subst l4 y4 z4
  obtain ⟨rfl, Nq4, e4⟩ := hQ4
  have N4 := Fr.app N3 Nq4
  obtain ⟨lo4, X4, N4⟩ : ∃ L, Stand p l e room_1 s m #[(.long q1), (.int q2), (.int q3), (.int q4), (.long q5)] below meth c T4 L 1 12 ∧ Fr n0 L := ⟨_, X4, N4⟩
  refine OGo.st (fun t k => st4 t k) ?_
  show OGo p e below _ (T4.setTop (mkF m 60 #[.val (.long q1), .second, .val (.int q2), .val (.int q3), .val (.int q4), .val (.long q5), .second, .val (.int (Int32.ofNat ct)), .val (.int (Int32.ofNat fr)), .val (.ref b1), .unset, .unset, .unset, .unset] [(.int (f1 q1 (Int32.ofNat fr) (Int32.ofNat ct) (1 : Int32) q4 q5)), (.int (1 : Int32)), (.ref b1)]))
  obtain ⟨T5, h5, X5, e5, W5, O5', st5⟩ := OA.stB X4 hx hZ e4 O3 (j := (1 : Int32)) (x := (f1 q1 (Int32.ofNat fr) (Int32.ofNat ct) (1 : Int32) q4 q5)) (k := 1) (by decide) (by decide) (by decide) (g := (mkF m 60 #[.val (.long q1), .second, .val (.int q2), .val (.int q3), .val (.int q4), .val (.long q5), .second, .val (.int (Int32.ofNat ct)), .val (.int (Int32.ofNat fr)), .val (.ref b1), .unset, .unset, .unset, .unset] [(.int (f1 q1 (Int32.ofNat fr) (Int32.ofNat ct) (1 : Int32) q4 q5)), (.int (1 : Int32)), (.ref b1)])) rfl rfl (hb hby at_60)
  obtain ⟨fa5, hf5⟩ : ∃ z, z = oset fa3 1 ((f1 q1 (Int32.ofNat fr) (Int32.ofNat ct) (1 : Int32) q4 q5).toInt8.toInt32) := ⟨_, rfl⟩
  have O5 := O5'
  rw [← hf5] at O5
  have N5 := Fr.snoc X5 N4 gb1
  have Z5 : n0 ≤ h5.size := Nat.le_trans Z3 (Keep.of_wr W5).1
  obtain ⟨lo5, X5, N5⟩ : ∃ L, Stand p l e room_1 s m #[(.long q1), (.int q2), (.int q3), (.int q4), (.long q5)] below meth c T5 L 1 12 ∧ Fr n0 L := ⟨_, X5, N5⟩
  refine OGo.st (fun t k => st5 t k) ?_
  show OGo p e below _ (T5.setTop (mkF m 61 #[.val (.long q1), .second, .val (.int q2), .val (.int q3), .val (.int q4), .val (.long q5), .second, .val (.int (Int32.ofNat ct)), .val (.int (Int32.ofNat fr)), .val (.ref b1), .unset, .unset, .unset, .unset] []))
  refine OGo.st (fun t k => XS.aload X5.here hx rfl (hb hby at_61) rfl rfl k) ?_
  show OGo p e below _ (T5.setTop (mkF m 63 #[.val (.long q1), .second, .val (.int q2), .val (.int q3), .val (.int q4), .val (.long q5), .second, .val (.int (Int32.ofNat ct)), .val (.int (Int32.ofNat fr)), .val (.ref b1), .unset, .unset, .unset, .unset] [(.ref b1)]))
  refine OGo.st (fun t k => XS.iconst X5.here hx rfl (hb hby at_63) k) ?_
  show OGo p e below _ (T5.setTop (mkF m 64 #[.val (.long q1), .second, .val (.int q2), .val (.int q3), .val (.int q4), .val (.long q5), .second, .val (.int (Int32.ofNat ct)), .val (.int (Int32.ofNat fr)), .val (.ref b1), .unset, .unset, .unset, .unset] [(.int (2 : Int32)), (.ref b1)]))
  refine OGo.st (fun t k => XS.lloadN X5.here hx rfl (hb hby at_64) rfl k) ?_
  show OGo p e below _ (T5.setTop (mkF m 65 #[.val (.long q1), .second, .val (.int q2), .val (.int q3), .val (.int q4), .val (.long q5), .second, .val (.int (Int32.ofNat ct)), .val (.int (Int32.ofNat fr)), .val (.ref b1), .unset, .unset, .unset, .unset] [(.long q1), (.int (2 : Int32)), (.ref b1)]))
  refine OGo.st (fun t k => XS.iload X5.here hx rfl (hb hby at_65) rfl k) ?_
  show OGo p e below _ (T5.setTop (mkF m 67 #[.val (.long q1), .second, .val (.int q2), .val (.int q3), .val (.int q4), .val (.long q5), .second, .val (.int (Int32.ofNat ct)), .val (.int (Int32.ofNat fr)), .val (.ref b1), .unset, .unset, .unset, .unset] [(.int (Int32.ofNat fr)), (.long q1), (.int (2 : Int32)), (.ref b1)]))
  refine OGo.st (fun t k => XS.iload X5.here hx rfl (hb hby at_67) rfl k) ?_
  show OGo p e below _ (T5.setTop (mkF m 69 #[.val (.long q1), .second, .val (.int q2), .val (.int q3), .val (.int q4), .val (.long q5), .second, .val (.int (Int32.ofNat ct)), .val (.int (Int32.ofNat fr)), .val (.ref b1), .unset, .unset, .unset, .unset] [(.int (Int32.ofNat ct)), (.int (Int32.ofNat fr)), (.long q1), (.int (2 : Int32)), (.ref b1)]))
  refine OGo.st (fun t k => XS.iconst X5.here hx rfl (hb hby at_69) k) ?_
  show OGo p e below _ (T5.setTop (mkF m 70 #[.val (.long q1), .second, .val (.int q2), .val (.int q3), .val (.int q4), .val (.long q5), .second, .val (.int (Int32.ofNat ct)), .val (.int (Int32.ofNat fr)), .val (.ref b1), .unset, .unset, .unset, .unset] [(.int (2 : Int32)), (.int (Int32.ofNat ct)), (.int (Int32.ofNat fr)), (.long q1), (.int (2 : Int32)), (.ref b1)]))
  refine OGo.st (fun t k => XS.iload X5.here hx rfl (hb hby at_70) rfl k) ?_
  show OGo p e below _ (T5.setTop (mkF m 72 #[.val (.long q1), .second, .val (.int q2), .val (.int q3), .val (.int q4), .val (.long q5), .second, .val (.int (Int32.ofNat ct)), .val (.int (Int32.ofNat fr)), .val (.ref b1), .unset, .unset, .unset, .unset] [(.int q4), (.int (2 : Int32)), (.int (Int32.ofNat ct)), (.int (Int32.ofNat fr)), (.long q1), (.int (2 : Int32)), (.ref b1)]))
  refine OGo.st (fun t k => XS.lload X5.here hx rfl (hb hby at_72) rfl k) ?_
  show OGo p e below _ (T5.setTop (mkF m 74 #[.val (.long q1), .second, .val (.int q2), .val (.int q3), .val (.int q4), .val (.long q5), .second, .val (.int (Int32.ofNat ct)), .val (.int (Int32.ofNat fr)), .val (.ref b1), .unset, .unset, .unset, .unset] [(.long q5), (.int q4), (.int (2 : Int32)), (.int (Int32.ofNat ct)), (.int (Int32.ofNat fr)), (.long q1), (.int (2 : Int32)), (.ref b1)]))
  obtain ⟨_, _, ⟨T6, L6, k6, n6⟩, -, X6, ⟨Lc6, hQ6, l6, y6, z6⟩, st6⟩ := Jvm.LawKit.callS X5 hx (y := (⟨"com/example/distinguo/distinguo/codec/SevenBitGroupsToLongPinLaw", "cell", "(JIIIIJ)B"⟩ : MethodName)) hown (mvT hZ (hw _ (List.mem_of_getElem? (i := 2) rfl))) (mvT hZ (hw _ (List.mem_of_getElem? (i := 3) rfl))) (mvT hZ (hw _ (List.mem_of_getElem? (i := 4) rfl))) (mvT hZ (hw _ (List.mem_of_getElem? (i := 5) rfl))) (by decide) (backOf (W := 2) (rm1 l Z a0 hw [] q1 (Int32.ofNat fr) (Int32.ofNat ct) (2 : Int32) q4 q5 h5 n0 Z5) hZ (hw _ (List.mem_of_getElem? (i := 5) rfl)) (hw _ (List.mem_of_getElem? (i := 4) rfl)) (by decide) (by decide)) (g := (mkF m 74 #[.val (.long q1), .second, .val (.int q2), .val (.int q3), .val (.int q4), .val (.long q5), .second, .val (.int (Int32.ofNat ct)), .val (.int (Int32.ofNat fr)), .val (.ref b1), .unset, .unset, .unset, .unset] [(.long q5), (.int q4), (.int (2 : Int32)), (.int (Int32.ofNat ct)), (.int (Int32.ofNat fr)), (.long q1), (.int (2 : Int32)), (.ref b1)])) rfl (by rw [hml]; rfl) (argsL := [(.long q1), (.int (Int32.ofNat fr)), (.int (Int32.ofNat ct)), (.int (2 : Int32)), (.int q4), (.long q5)]) (rest := [(.int (2 : Int32)), (.ref b1)]) (lenOf pd0_0 rfl) rfl (by show 2 * 0 + _ ≤ _; exact Nat.le_of_eq rfl) (hb hby at_74) (fun _ _ => ⟨rfl, e5, (by decide : 1 + 0 ≤ _), (by decide : 12 + 0 ≤ _)⟩)
  dsimp only [Pt.U, Pt.locs, Pt.cells, Pt.slots] at X6 l6 y6 z6 st6 hQ6
  subst l6 y6 z6
  obtain ⟨rfl, Nq6, e6⟩ := hQ6
  have N6 := Fr.app N5 Nq6
  obtain ⟨lo6, X6, N6⟩ : ∃ L, Stand p l e room_1 s m #[(.long q1), (.int q2), (.int q3), (.int q4), (.long q5)] below meth c T6 L 1 12 ∧ Fr n0 L := ⟨_, X6, N6⟩
  refine OGo.st (fun t k => st6 t k) ?_
  show OGo p e below _ (T6.setTop (mkF m 77 #[.val (.long q1), .second, .val (.int q2), .val (.int q3), .val (.int q4), .val (.long q5), .second, .val (.int (Int32.ofNat ct)), .val (.int (Int32.ofNat fr)), .val (.ref b1), .unset, .unset, .unset, .unset] [(.int (f1 q1 (Int32.ofNat fr) (Int32.ofNat ct) (2 : Int32) q4 q5)), (.int (2 : Int32)), (.ref b1)]))
  obtain ⟨T7, h7, X7, e7, W7, O7', st7⟩ := OA.stB X6 hx hZ e6 O5 (j := (2 : Int32)) (x := (f1 q1 (Int32.ofNat fr) (Int32.ofNat ct) (2 : Int32) q4 q5)) (k := 2) (by decide) (by decide) (by decide) (g := (mkF m 77 #[.val (.long q1), .second, .val (.int q2), .val (.int q3), .val (.int q4), .val (.long q5), .second, .val (.int (Int32.ofNat ct)), .val (.int (Int32.ofNat fr)), .val (.ref b1), .unset, .unset, .unset, .unset] [(.int (f1 q1 (Int32.ofNat fr) (Int32.ofNat ct) (2 : Int32) q4 q5)), (.int (2 : Int32)), (.ref b1)])) rfl rfl (hb hby at_77)
  obtain ⟨fa7, hf7⟩ : ∃ z, z = oset fa5 2 ((f1 q1 (Int32.ofNat fr) (Int32.ofNat ct) (2 : Int32) q4 q5).toInt8.toInt32) := ⟨_, rfl⟩
  have O7 := O7'
  rw [← hf7] at O7
  have N7 := Fr.snoc X7 N6 gb1
  have Z7 : n0 ≤ h7.size := Nat.le_trans Z5 (Keep.of_wr W7).1
  obtain ⟨lo7, X7, N7⟩ : ∃ L, Stand p l e room_1 s m #[(.long q1), (.int q2), (.int q3), (.int q4), (.long q5)] below meth c T7 L 1 12 ∧ Fr n0 L := ⟨_, X7, N7⟩
  refine OGo.st (fun t k => st7 t k) ?_
  show OGo p e below _ (T7.setTop (mkF m 78 #[.val (.long q1), .second, .val (.int q2), .val (.int q3), .val (.int q4), .val (.long q5), .second, .val (.int (Int32.ofNat ct)), .val (.int (Int32.ofNat fr)), .val (.ref b1), .unset, .unset, .unset, .unset] []))
  refine OGo.st (fun t k => XS.aload X7.here hx rfl (hb hby at_78) rfl rfl k) ?_
  show OGo p e below _ (T7.setTop (mkF m 80 #[.val (.long q1), .second, .val (.int q2), .val (.int q3), .val (.int q4), .val (.long q5), .second, .val (.int (Int32.ofNat ct)), .val (.int (Int32.ofNat fr)), .val (.ref b1), .unset, .unset, .unset, .unset] [(.ref b1)]))
  refine OGo.st (fun t k => XS.iconst X7.here hx rfl (hb hby at_80) k) ?_
  show OGo p e below _ (T7.setTop (mkF m 81 #[.val (.long q1), .second, .val (.int q2), .val (.int q3), .val (.int q4), .val (.long q5), .second, .val (.int (Int32.ofNat ct)), .val (.int (Int32.ofNat fr)), .val (.ref b1), .unset, .unset, .unset, .unset] [(.int (3 : Int32)), (.ref b1)]))
  refine OGo.st (fun t k => XS.lloadN X7.here hx rfl (hb hby at_81) rfl k) ?_
  show OGo p e below _ (T7.setTop (mkF m 82 #[.val (.long q1), .second, .val (.int q2), .val (.int q3), .val (.int q4), .val (.long q5), .second, .val (.int (Int32.ofNat ct)), .val (.int (Int32.ofNat fr)), .val (.ref b1), .unset, .unset, .unset, .unset] [(.long q1), (.int (3 : Int32)), (.ref b1)]))
  refine OGo.st (fun t k => XS.iload X7.here hx rfl (hb hby at_82) rfl k) ?_
  show OGo p e below _ (T7.setTop (mkF m 84 #[.val (.long q1), .second, .val (.int q2), .val (.int q3), .val (.int q4), .val (.long q5), .second, .val (.int (Int32.ofNat ct)), .val (.int (Int32.ofNat fr)), .val (.ref b1), .unset, .unset, .unset, .unset] [(.int (Int32.ofNat fr)), (.long q1), (.int (3 : Int32)), (.ref b1)]))
  refine OGo.st (fun t k => XS.iload X7.here hx rfl (hb hby at_84) rfl k) ?_
  show OGo p e below _ (T7.setTop (mkF m 86 #[.val (.long q1), .second, .val (.int q2), .val (.int q3), .val (.int q4), .val (.long q5), .second, .val (.int (Int32.ofNat ct)), .val (.int (Int32.ofNat fr)), .val (.ref b1), .unset, .unset, .unset, .unset] [(.int (Int32.ofNat ct)), (.int (Int32.ofNat fr)), (.long q1), (.int (3 : Int32)), (.ref b1)]))
  refine OGo.st (fun t k => XS.iconst X7.here hx rfl (hb hby at_86) k) ?_
  show OGo p e below _ (T7.setTop (mkF m 87 #[.val (.long q1), .second, .val (.int q2), .val (.int q3), .val (.int q4), .val (.long q5), .second, .val (.int (Int32.ofNat ct)), .val (.int (Int32.ofNat fr)), .val (.ref b1), .unset, .unset, .unset, .unset] [(.int (3 : Int32)), (.int (Int32.ofNat ct)), (.int (Int32.ofNat fr)), (.long q1), (.int (3 : Int32)), (.ref b1)]))
  refine OGo.st (fun t k => XS.iload X7.here hx rfl (hb hby at_87) rfl k) ?_
  show OGo p e below _ (T7.setTop (mkF m 89 #[.val (.long q1), .second, .val (.int q2), .val (.int q3), .val (.int q4), .val (.long q5), .second, .val (.int (Int32.ofNat ct)), .val (.int (Int32.ofNat fr)), .val (.ref b1), .unset, .unset, .unset, .unset] [(.int q4), (.int (3 : Int32)), (.int (Int32.ofNat ct)), (.int (Int32.ofNat fr)), (.long q1), (.int (3 : Int32)), (.ref b1)]))
  refine OGo.st (fun t k => XS.lload X7.here hx rfl (hb hby at_89) rfl k) ?_
  show OGo p e below _ (T7.setTop (mkF m 91 #[.val (.long q1), .second, .val (.int q2), .val (.int q3), .val (.int q4), .val (.long q5), .second, .val (.int (Int32.ofNat ct)), .val (.int (Int32.ofNat fr)), .val (.ref b1), .unset, .unset, .unset, .unset] [(.long q5), (.int q4), (.int (3 : Int32)), (.int (Int32.ofNat ct)), (.int (Int32.ofNat fr)), (.long q1), (.int (3 : Int32)), (.ref b1)]))
  obtain ⟨_, _, ⟨T8, L8, k8, n8⟩, -, X8, ⟨Lc8, hQ8, l8, y8, z8⟩, st8⟩ := Jvm.LawKit.callS X7 hx (y := (⟨"com/example/distinguo/distinguo/codec/SevenBitGroupsToLongPinLaw", "cell", "(JIIIIJ)B"⟩ : MethodName)) hown (mvT hZ (hw _ (List.mem_of_getElem? (i := 2) rfl))) (mvT hZ (hw _ (List.mem_of_getElem? (i := 3) rfl))) (mvT hZ (hw _ (List.mem_of_getElem? (i := 4) rfl))) (mvT hZ (hw _ (List.mem_of_getElem? (i := 5) rfl))) (by decide) (backOf (W := 2) (rm1 l Z a0 hw [] q1 (Int32.ofNat fr) (Int32.ofNat ct) (3 : Int32) q4 q5 h7 n0 Z7) hZ (hw _ (List.mem_of_getElem? (i := 5) rfl)) (hw _ (List.mem_of_getElem? (i := 4) rfl)) (by decide) (by decide)) (g := (mkF m 91 #[.val (.long q1), .second, .val (.int q2), .val (.int q3), .val (.int q4), .val (.long q5), .second, .val (.int (Int32.ofNat ct)), .val (.int (Int32.ofNat fr)), .val (.ref b1), .unset, .unset, .unset, .unset] [(.long q5), (.int q4), (.int (3 : Int32)), (.int (Int32.ofNat ct)), (.int (Int32.ofNat fr)), (.long q1), (.int (3 : Int32)), (.ref b1)])) rfl (by rw [hml]; rfl) (argsL := [(.long q1), (.int (Int32.ofNat fr)), (.int (Int32.ofNat ct)), (.int (3 : Int32)), (.int q4), (.long q5)]) (rest := [(.int (3 : Int32)), (.ref b1)]) (lenOf pd0_0 rfl) rfl (by show 2 * 0 + _ ≤ _; exact Nat.le_of_eq rfl) (hb hby at_91) (fun _ _ => ⟨rfl, e7, (by decide : 1 + 0 ≤ _), (by decide : 12 + 0 ≤ _)⟩)
  dsimp only [Pt.U, Pt.locs, Pt.cells, Pt.slots] at X8 l8 y8 z8 st8 hQ8
  subst l8 y8 z8
  obtain ⟨rfl, Nq8, e8⟩ := hQ8
  have N8 := Fr.app N7 Nq8
  obtain ⟨lo8, X8, N8⟩ : ∃ L, Stand p l e room_1 s m #[(.long q1), (.int q2), (.int q3), (.int q4), (.long q5)] below meth c T8 L 1 12 ∧ Fr n0 L := ⟨_, X8, N8⟩
  refine OGo.st (fun t k => st8 t k) ?_
  show OGo p e below _ (T8.setTop (mkF m 94 #[.val (.long q1), .second, .val (.int q2), .val (.int q3), .val (.int q4), .val (.long q5), .second, .val (.int (Int32.ofNat ct)), .val (.int (Int32.ofNat fr)), .val (.ref b1), .unset, .unset, .unset, .unset] [(.int (f1 q1 (Int32.ofNat fr) (Int32.ofNat ct) (3 : Int32) q4 q5)), (.int (3 : Int32)), (.ref b1)]))
  obtain ⟨T9, h9, X9, e9, W9, O9', st9⟩ := OA.stB X8 hx hZ e8 O7 (j := (3 : Int32)) (x := (f1 q1 (Int32.ofNat fr) (Int32.ofNat ct) (3 : Int32) q4 q5)) (k := 3) (by decide) (by decide) (by decide) (g := (mkF m 94 #[.val (.long q1), .second, .val (.int q2), .val (.int q3), .val (.int q4), .val (.long q5), .second, .val (.int (Int32.ofNat ct)), .val (.int (Int32.ofNat fr)), .val (.ref b1), .unset, .unset, .unset, .unset] [(.int (f1 q1 (Int32.ofNat fr) (Int32.ofNat ct) (3 : Int32) q4 q5)), (.int (3 : Int32)), (.ref b1)])) rfl rfl (hb hby at_94)
  obtain ⟨fa9, hf9⟩ : ∃ z, z = oset fa7 3 ((f1 q1 (Int32.ofNat fr) (Int32.ofNat ct) (3 : Int32) q4 q5).toInt8.toInt32) := ⟨_, rfl⟩
  have O9 := O9'
  rw [← hf9] at O9
  have N9 := Fr.snoc X9 N8 gb1
  have Z9 : n0 ≤ h9.size := Nat.le_trans Z7 (Keep.of_wr W9).1
  obtain ⟨lo9, X9, N9⟩ : ∃ L, Stand p l e room_1 s m #[(.long q1), (.int q2), (.int q3), (.int q4), (.long q5)] below meth c T9 L 1 12 ∧ Fr n0 L := ⟨_, X9, N9⟩
  refine OGo.st (fun t k => st9 t k) ?_
  show OGo p e below _ (T9.setTop (mkF m 95 #[.val (.long q1), .second, .val (.int q2), .val (.int q3), .val (.int q4), .val (.long q5), .second, .val (.int (Int32.ofNat ct)), .val (.int (Int32.ofNat fr)), .val (.ref b1), .unset, .unset, .unset, .unset] []))
  refine OGo.st (fun t k => XS.aload X9.here hx rfl (hb hby at_95) rfl rfl k) ?_
  show OGo p e below _ (T9.setTop (mkF m 97 #[.val (.long q1), .second, .val (.int q2), .val (.int q3), .val (.int q4), .val (.long q5), .second, .val (.int (Int32.ofNat ct)), .val (.int (Int32.ofNat fr)), .val (.ref b1), .unset, .unset, .unset, .unset] [(.ref b1)]))
  refine OGo.st (fun t k => XS.iconst X9.here hx rfl (hb hby at_97) k) ?_
  show OGo p e below _ (T9.setTop (mkF m 98 #[.val (.long q1), .second, .val (.int q2), .val (.int q3), .val (.int q4), .val (.long q5), .second, .val (.int (Int32.ofNat ct)), .val (.int (Int32.ofNat fr)), .val (.ref b1), .unset, .unset, .unset, .unset] [(.int (4 : Int32)), (.ref b1)]))
  refine OGo.st (fun t k => XS.lloadN X9.here hx rfl (hb hby at_98) rfl k) ?_
  show OGo p e below _ (T9.setTop (mkF m 99 #[.val (.long q1), .second, .val (.int q2), .val (.int q3), .val (.int q4), .val (.long q5), .second, .val (.int (Int32.ofNat ct)), .val (.int (Int32.ofNat fr)), .val (.ref b1), .unset, .unset, .unset, .unset] [(.long q1), (.int (4 : Int32)), (.ref b1)]))
  refine OGo.st (fun t k => XS.iload X9.here hx rfl (hb hby at_99) rfl k) ?_
  show OGo p e below _ (T9.setTop (mkF m 101 #[.val (.long q1), .second, .val (.int q2), .val (.int q3), .val (.int q4), .val (.long q5), .second, .val (.int (Int32.ofNat ct)), .val (.int (Int32.ofNat fr)), .val (.ref b1), .unset, .unset, .unset, .unset] [(.int (Int32.ofNat fr)), (.long q1), (.int (4 : Int32)), (.ref b1)]))
  refine OGo.st (fun t k => XS.iload X9.here hx rfl (hb hby at_101) rfl k) ?_
  show OGo p e below _ (T9.setTop (mkF m 103 #[.val (.long q1), .second, .val (.int q2), .val (.int q3), .val (.int q4), .val (.long q5), .second, .val (.int (Int32.ofNat ct)), .val (.int (Int32.ofNat fr)), .val (.ref b1), .unset, .unset, .unset, .unset] [(.int (Int32.ofNat ct)), (.int (Int32.ofNat fr)), (.long q1), (.int (4 : Int32)), (.ref b1)]))
  refine OGo.st (fun t k => XS.iconst X9.here hx rfl (hb hby at_103) k) ?_
  show OGo p e below _ (T9.setTop (mkF m 104 #[.val (.long q1), .second, .val (.int q2), .val (.int q3), .val (.int q4), .val (.long q5), .second, .val (.int (Int32.ofNat ct)), .val (.int (Int32.ofNat fr)), .val (.ref b1), .unset, .unset, .unset, .unset] [(.int (4 : Int32)), (.int (Int32.ofNat ct)), (.int (Int32.ofNat fr)), (.long q1), (.int (4 : Int32)), (.ref b1)]))
  refine OGo.st (fun t k => XS.iload X9.here hx rfl (hb hby at_104) rfl k) ?_
  show OGo p e below _ (T9.setTop (mkF m 106 #[.val (.long q1), .second, .val (.int q2), .val (.int q3), .val (.int q4), .val (.long q5), .second, .val (.int (Int32.ofNat ct)), .val (.int (Int32.ofNat fr)), .val (.ref b1), .unset, .unset, .unset, .unset] [(.int q4), (.int (4 : Int32)), (.int (Int32.ofNat ct)), (.int (Int32.ofNat fr)), (.long q1), (.int (4 : Int32)), (.ref b1)]))
  refine OGo.st (fun t k => XS.lload X9.here hx rfl (hb hby at_106) rfl k) ?_
  show OGo p e below _ (T9.setTop (mkF m 108 #[.val (.long q1), .second, .val (.int q2), .val (.int q3), .val (.int q4), .val (.long q5), .second, .val (.int (Int32.ofNat ct)), .val (.int (Int32.ofNat fr)), .val (.ref b1), .unset, .unset, .unset, .unset] [(.long q5), (.int q4), (.int (4 : Int32)), (.int (Int32.ofNat ct)), (.int (Int32.ofNat fr)), (.long q1), (.int (4 : Int32)), (.ref b1)]))
  obtain ⟨_, _, ⟨T10, L10, k10, n10⟩, -, X10, ⟨Lc10, hQ10, l10, y10, z10⟩, st10⟩ := Jvm.LawKit.callS X9 hx (y := (⟨"com/example/distinguo/distinguo/codec/SevenBitGroupsToLongPinLaw", "cell", "(JIIIIJ)B"⟩ : MethodName)) hown (mvT hZ (hw _ (List.mem_of_getElem? (i := 2) rfl))) (mvT hZ (hw _ (List.mem_of_getElem? (i := 3) rfl))) (mvT hZ (hw _ (List.mem_of_getElem? (i := 4) rfl))) (mvT hZ (hw _ (List.mem_of_getElem? (i := 5) rfl))) (by decide) (backOf (W := 2) (rm1 l Z a0 hw [] q1 (Int32.ofNat fr) (Int32.ofNat ct) (4 : Int32) q4 q5 h9 n0 Z9) hZ (hw _ (List.mem_of_getElem? (i := 5) rfl)) (hw _ (List.mem_of_getElem? (i := 4) rfl)) (by decide) (by decide)) (g := (mkF m 108 #[.val (.long q1), .second, .val (.int q2), .val (.int q3), .val (.int q4), .val (.long q5), .second, .val (.int (Int32.ofNat ct)), .val (.int (Int32.ofNat fr)), .val (.ref b1), .unset, .unset, .unset, .unset] [(.long q5), (.int q4), (.int (4 : Int32)), (.int (Int32.ofNat ct)), (.int (Int32.ofNat fr)), (.long q1), (.int (4 : Int32)), (.ref b1)])) rfl (by rw [hml]; rfl) (argsL := [(.long q1), (.int (Int32.ofNat fr)), (.int (Int32.ofNat ct)), (.int (4 : Int32)), (.int q4), (.long q5)]) (rest := [(.int (4 : Int32)), (.ref b1)]) (lenOf pd0_0 rfl) rfl (by show 2 * 0 + _ ≤ _; exact Nat.le_of_eq rfl) (hb hby at_108) (fun _ _ => ⟨rfl, e9, (by decide : 1 + 0 ≤ _), (by decide : 12 + 0 ≤ _)⟩)
  dsimp only [Pt.U, Pt.locs, Pt.cells, Pt.slots] at X10 l10 y10 z10 st10 hQ10
  subst l10 y10 z10
  obtain ⟨rfl, Nq10, e10⟩ := hQ10
  have N10 := Fr.app N9 Nq10
  obtain ⟨lo10, X10, N10⟩ : ∃ L, Stand p l e room_1 s m #[(.long q1), (.int q2), (.int q3), (.int q4), (.long q5)] below meth c T10 L 1 12 ∧ Fr n0 L := ⟨_, X10, N10⟩
  refine OGo.st (fun t k => st10 t k) ?_
  show OGo p e below _ (T10.setTop (mkF m 111 #[.val (.long q1), .second, .val (.int q2), .val (.int q3), .val (.int q4), .val (.long q5), .second, .val (.int (Int32.ofNat ct)), .val (.int (Int32.ofNat fr)), .val (.ref b1), .unset, .unset, .unset, .unset] [(.int (f1 q1 (Int32.ofNat fr) (Int32.ofNat ct) (4 : Int32) q4 q5)), (.int (4 : Int32)), (.ref b1)]))
  obtain ⟨T11, h11, X11, e11, W11, O11', st11⟩ := OA.stB X10 hx hZ e10 O9 (j := (4 : Int32)) (x := (f1 q1 (Int32.ofNat fr) (Int32.ofNat ct) (4 : Int32) q4 q5)) (k := 4) (by decide) (by decide) (by decide) (g := (mkF m 111 #[.val (.long q1), .second, .val (.int q2), .val (.int q3), .val (.int q4), .val (.long q5), .second, .val (.int (Int32.ofNat ct)), .val (.int (Int32.ofNat fr)), .val (.ref b1), .unset, .unset, .unset, .unset] [(.int (f1 q1 (Int32.ofNat fr) (Int32.ofNat ct) (4 : Int32) q4 q5)), (.int (4 : Int32)), (.ref b1)])) rfl rfl (hb hby at_111)
  obtain ⟨fa11, hf11⟩ : ∃ z, z = oset fa9 4 ((f1 q1 (Int32.ofNat fr) (Int32.ofNat ct) (4 : Int32) q4 q5).toInt8.toInt32) := ⟨_, rfl⟩
  have O11 := O11'
  rw [← hf11] at O11
  have N11 := Fr.snoc X11 N10 gb1
  have Z11 : n0 ≤ h11.size := Nat.le_trans Z9 (Keep.of_wr W11).1
  obtain ⟨lo11, X11, N11⟩ : ∃ L, Stand p l e room_1 s m #[(.long q1), (.int q2), (.int q3), (.int q4), (.long q5)] below meth c T11 L 1 12 ∧ Fr n0 L := ⟨_, X11, N11⟩
  refine OGo.st (fun t k => st11 t k) ?_
  show OGo p e below _ (T11.setTop (mkF m 112 #[.val (.long q1), .second, .val (.int q2), .val (.int q3), .val (.int q4), .val (.long q5), .second, .val (.int (Int32.ofNat ct)), .val (.int (Int32.ofNat fr)), .val (.ref b1), .unset, .unset, .unset, .unset] []))
  refine OGo.st (fun t k => XS.aload X11.here hx rfl (hb hby at_112) rfl rfl k) ?_
  show OGo p e below _ (T11.setTop (mkF m 114 #[.val (.long q1), .second, .val (.int q2), .val (.int q3), .val (.int q4), .val (.long q5), .second, .val (.int (Int32.ofNat ct)), .val (.int (Int32.ofNat fr)), .val (.ref b1), .unset, .unset, .unset, .unset] [(.ref b1)]))
  refine OGo.st (fun t k => XS.iconst X11.here hx rfl (hb hby at_114) k) ?_
  show OGo p e below _ (T11.setTop (mkF m 115 #[.val (.long q1), .second, .val (.int q2), .val (.int q3), .val (.int q4), .val (.long q5), .second, .val (.int (Int32.ofNat ct)), .val (.int (Int32.ofNat fr)), .val (.ref b1), .unset, .unset, .unset, .unset] [(.int (5 : Int32)), (.ref b1)]))
  refine OGo.st (fun t k => XS.lloadN X11.here hx rfl (hb hby at_115) rfl k) ?_
  show OGo p e below _ (T11.setTop (mkF m 116 #[.val (.long q1), .second, .val (.int q2), .val (.int q3), .val (.int q4), .val (.long q5), .second, .val (.int (Int32.ofNat ct)), .val (.int (Int32.ofNat fr)), .val (.ref b1), .unset, .unset, .unset, .unset] [(.long q1), (.int (5 : Int32)), (.ref b1)]))
  refine OGo.st (fun t k => XS.iload X11.here hx rfl (hb hby at_116) rfl k) ?_
  show OGo p e below _ (T11.setTop (mkF m 118 #[.val (.long q1), .second, .val (.int q2), .val (.int q3), .val (.int q4), .val (.long q5), .second, .val (.int (Int32.ofNat ct)), .val (.int (Int32.ofNat fr)), .val (.ref b1), .unset, .unset, .unset, .unset] [(.int (Int32.ofNat fr)), (.long q1), (.int (5 : Int32)), (.ref b1)]))
  refine OGo.st (fun t k => XS.iload X11.here hx rfl (hb hby at_118) rfl k) ?_
  show OGo p e below _ (T11.setTop (mkF m 120 #[.val (.long q1), .second, .val (.int q2), .val (.int q3), .val (.int q4), .val (.long q5), .second, .val (.int (Int32.ofNat ct)), .val (.int (Int32.ofNat fr)), .val (.ref b1), .unset, .unset, .unset, .unset] [(.int (Int32.ofNat ct)), (.int (Int32.ofNat fr)), (.long q1), (.int (5 : Int32)), (.ref b1)]))
  refine OGo.st (fun t k => XS.iconst X11.here hx rfl (hb hby at_120) k) ?_
  show OGo p e below _ (T11.setTop (mkF m 121 #[.val (.long q1), .second, .val (.int q2), .val (.int q3), .val (.int q4), .val (.long q5), .second, .val (.int (Int32.ofNat ct)), .val (.int (Int32.ofNat fr)), .val (.ref b1), .unset, .unset, .unset, .unset] [(.int (5 : Int32)), (.int (Int32.ofNat ct)), (.int (Int32.ofNat fr)), (.long q1), (.int (5 : Int32)), (.ref b1)]))
  refine OGo.st (fun t k => XS.iload X11.here hx rfl (hb hby at_121) rfl k) ?_
  show OGo p e below _ (T11.setTop (mkF m 123 #[.val (.long q1), .second, .val (.int q2), .val (.int q3), .val (.int q4), .val (.long q5), .second, .val (.int (Int32.ofNat ct)), .val (.int (Int32.ofNat fr)), .val (.ref b1), .unset, .unset, .unset, .unset] [(.int q4), (.int (5 : Int32)), (.int (Int32.ofNat ct)), (.int (Int32.ofNat fr)), (.long q1), (.int (5 : Int32)), (.ref b1)]))
  refine OGo.st (fun t k => XS.lload X11.here hx rfl (hb hby at_123) rfl k) ?_
  show OGo p e below _ (T11.setTop (mkF m 125 #[.val (.long q1), .second, .val (.int q2), .val (.int q3), .val (.int q4), .val (.long q5), .second, .val (.int (Int32.ofNat ct)), .val (.int (Int32.ofNat fr)), .val (.ref b1), .unset, .unset, .unset, .unset] [(.long q5), (.int q4), (.int (5 : Int32)), (.int (Int32.ofNat ct)), (.int (Int32.ofNat fr)), (.long q1), (.int (5 : Int32)), (.ref b1)]))
  obtain ⟨_, _, ⟨T12, L12, k12, n12⟩, -, X12, ⟨Lc12, hQ12, l12, y12, z12⟩, st12⟩ := Jvm.LawKit.callS X11 hx (y := (⟨"com/example/distinguo/distinguo/codec/SevenBitGroupsToLongPinLaw", "cell", "(JIIIIJ)B"⟩ : MethodName)) hown (mvT hZ (hw _ (List.mem_of_getElem? (i := 2) rfl))) (mvT hZ (hw _ (List.mem_of_getElem? (i := 3) rfl))) (mvT hZ (hw _ (List.mem_of_getElem? (i := 4) rfl))) (mvT hZ (hw _ (List.mem_of_getElem? (i := 5) rfl))) (by decide) (backOf (W := 2) (rm1 l Z a0 hw [] q1 (Int32.ofNat fr) (Int32.ofNat ct) (5 : Int32) q4 q5 h11 n0 Z11) hZ (hw _ (List.mem_of_getElem? (i := 5) rfl)) (hw _ (List.mem_of_getElem? (i := 4) rfl)) (by decide) (by decide)) (g := (mkF m 125 #[.val (.long q1), .second, .val (.int q2), .val (.int q3), .val (.int q4), .val (.long q5), .second, .val (.int (Int32.ofNat ct)), .val (.int (Int32.ofNat fr)), .val (.ref b1), .unset, .unset, .unset, .unset] [(.long q5), (.int q4), (.int (5 : Int32)), (.int (Int32.ofNat ct)), (.int (Int32.ofNat fr)), (.long q1), (.int (5 : Int32)), (.ref b1)])) rfl (by rw [hml]; rfl) (argsL := [(.long q1), (.int (Int32.ofNat fr)), (.int (Int32.ofNat ct)), (.int (5 : Int32)), (.int q4), (.long q5)]) (rest := [(.int (5 : Int32)), (.ref b1)]) (lenOf pd0_0 rfl) rfl (by show 2 * 0 + _ ≤ _; exact Nat.le_of_eq rfl) (hb hby at_125) (fun _ _ => ⟨rfl, e11, (by decide : 1 + 0 ≤ _), (by decide : 12 + 0 ≤ _)⟩)
  dsimp only [Pt.U, Pt.locs, Pt.cells, Pt.slots] at X12 l12 y12 z12 st12 hQ12
  subst l12 y12 z12
  obtain ⟨rfl, Nq12, e12⟩ := hQ12
  have N12 := Fr.app N11 Nq12
  obtain ⟨lo12, X12, N12⟩ : ∃ L, Stand p l e room_1 s m #[(.long q1), (.int q2), (.int q3), (.int q4), (.long q5)] below meth c T12 L 1 12 ∧ Fr n0 L := ⟨_, X12, N12⟩
  refine OGo.st (fun t k => st12 t k) ?_
  show OGo p e below _ (T12.setTop (mkF m 128 #[.val (.long q1), .second, .val (.int q2), .val (.int q3), .val (.int q4), .val (.long q5), .second, .val (.int (Int32.ofNat ct)), .val (.int (Int32.ofNat fr)), .val (.ref b1), .unset, .unset, .unset, .unset] [(.int (f1 q1 (Int32.ofNat fr) (Int32.ofNat ct) (5 : Int32) q4 q5)), (.int (5 : Int32)), (.ref b1)]))
  obtain ⟨T13, h13, X13, e13, W13, O13', st13⟩ := OA.stB X12 hx hZ e12 O11 (j := (5 : Int32)) (x := (f1 q1 (Int32.ofNat fr) (Int32.ofNat ct) (5 : Int32) q4 q5)) (k := 5) (by decide) (by decide) (by decide) (g := (mkF m 128 #[.val (.long q1), .second, .val (.int q2), .val (.int q3), .val (.int q4), .val (.long q5), .second, .val (.int (Int32.ofNat ct)), .val (.int (Int32.ofNat fr)), .val (.ref b1), .unset, .unset, .unset, .unset] [(.int (f1 q1 (Int32.ofNat fr) (Int32.ofNat ct) (5 : Int32) q4 q5)), (.int (5 : Int32)), (.ref b1)])) rfl rfl (hb hby at_128)
  obtain ⟨fa13, hf13⟩ : ∃ z, z = oset fa11 5 ((f1 q1 (Int32.ofNat fr) (Int32.ofNat ct) (5 : Int32) q4 q5).toInt8.toInt32) := ⟨_, rfl⟩
  have O13 := O13'
  rw [← hf13] at O13
  have N13 := Fr.snoc X13 N12 gb1
  have Z13 : n0 ≤ h13.size := Nat.le_trans Z11 (Keep.of_wr W13).1
  obtain ⟨lo13, X13, N13⟩ : ∃ L, Stand p l e room_1 s m #[(.long q1), (.int q2), (.int q3), (.int q4), (.long q5)] below meth c T13 L 1 12 ∧ Fr n0 L := ⟨_, X13, N13⟩
  refine OGo.st (fun t k => st13 t k) ?_
  show OGo p e below _ (T13.setTop (mkF m 129 #[.val (.long q1), .second, .val (.int q2), .val (.int q3), .val (.int q4), .val (.long q5), .second, .val (.int (Int32.ofNat ct)), .val (.int (Int32.ofNat fr)), .val (.ref b1), .unset, .unset, .unset, .unset] []))
  refine OGo.st (fun t k => XS.aload X13.here hx rfl (hb hby at_129) rfl rfl k) ?_
  show OGo p e below _ (T13.setTop (mkF m 131 #[.val (.long q1), .second, .val (.int q2), .val (.int q3), .val (.int q4), .val (.long q5), .second, .val (.int (Int32.ofNat ct)), .val (.int (Int32.ofNat fr)), .val (.ref b1), .unset, .unset, .unset, .unset] [(.ref b1)]))
  refine OGo.st (fun t k => XS.bipush X13.here hx rfl (hb hby at_131) k) ?_
  show OGo p e below _ (T13.setTop (mkF m 133 #[.val (.long q1), .second, .val (.int q2), .val (.int q3), .val (.int q4), .val (.long q5), .second, .val (.int (Int32.ofNat ct)), .val (.int (Int32.ofNat fr)), .val (.ref b1), .unset, .unset, .unset, .unset] [(.int (6 : Int32)), (.ref b1)]))
  refine OGo.st (fun t k => XS.lloadN X13.here hx rfl (hb hby at_133) rfl k) ?_
  show OGo p e below _ (T13.setTop (mkF m 134 #[.val (.long q1), .second, .val (.int q2), .val (.int q3), .val (.int q4), .val (.long q5), .second, .val (.int (Int32.ofNat ct)), .val (.int (Int32.ofNat fr)), .val (.ref b1), .unset, .unset, .unset, .unset] [(.long q1), (.int (6 : Int32)), (.ref b1)]))
  refine OGo.st (fun t k => XS.iload X13.here hx rfl (hb hby at_134) rfl k) ?_
  show OGo p e below _ (T13.setTop (mkF m 136 #[.val (.long q1), .second, .val (.int q2), .val (.int q3), .val (.int q4), .val (.long q5), .second, .val (.int (Int32.ofNat ct)), .val (.int (Int32.ofNat fr)), .val (.ref b1), .unset, .unset, .unset, .unset] [(.int (Int32.ofNat fr)), (.long q1), (.int (6 : Int32)), (.ref b1)]))
  refine OGo.st (fun t k => XS.iload X13.here hx rfl (hb hby at_136) rfl k) ?_
  show OGo p e below _ (T13.setTop (mkF m 138 #[.val (.long q1), .second, .val (.int q2), .val (.int q3), .val (.int q4), .val (.long q5), .second, .val (.int (Int32.ofNat ct)), .val (.int (Int32.ofNat fr)), .val (.ref b1), .unset, .unset, .unset, .unset] [(.int (Int32.ofNat ct)), (.int (Int32.ofNat fr)), (.long q1), (.int (6 : Int32)), (.ref b1)]))
  refine OGo.st (fun t k => XS.bipush X13.here hx rfl (hb hby at_138) k) ?_
  show OGo p e below _ (T13.setTop (mkF m 140 #[.val (.long q1), .second, .val (.int q2), .val (.int q3), .val (.int q4), .val (.long q5), .second, .val (.int (Int32.ofNat ct)), .val (.int (Int32.ofNat fr)), .val (.ref b1), .unset, .unset, .unset, .unset] [(.int (6 : Int32)), (.int (Int32.ofNat ct)), (.int (Int32.ofNat fr)), (.long q1), (.int (6 : Int32)), (.ref b1)]))
  refine OGo.st (fun t k => XS.iload X13.here hx rfl (hb hby at_140) rfl k) ?_
  show OGo p e below _ (T13.setTop (mkF m 142 #[.val (.long q1), .second, .val (.int q2), .val (.int q3), .val (.int q4), .val (.long q5), .second, .val (.int (Int32.ofNat ct)), .val (.int (Int32.ofNat fr)), .val (.ref b1), .unset, .unset, .unset, .unset] [(.int q4), (.int (6 : Int32)), (.int (Int32.ofNat ct)), (.int (Int32.ofNat fr)), (.long q1), (.int (6 : Int32)), (.ref b1)]))
  refine OGo.st (fun t k => XS.lload X13.here hx rfl (hb hby at_142) rfl k) ?_
  show OGo p e below _ (T13.setTop (mkF m 144 #[.val (.long q1), .second, .val (.int q2), .val (.int q3), .val (.int q4), .val (.long q5), .second, .val (.int (Int32.ofNat ct)), .val (.int (Int32.ofNat fr)), .val (.ref b1), .unset, .unset, .unset, .unset] [(.long q5), (.int q4), (.int (6 : Int32)), (.int (Int32.ofNat ct)), (.int (Int32.ofNat fr)), (.long q1), (.int (6 : Int32)), (.ref b1)]))
  obtain ⟨_, _, ⟨T14, L14, k14, n14⟩, -, X14, ⟨Lc14, hQ14, l14, y14, z14⟩, st14⟩ := Jvm.LawKit.callS X13 hx (y := (⟨"com/example/distinguo/distinguo/codec/SevenBitGroupsToLongPinLaw", "cell", "(JIIIIJ)B"⟩ : MethodName)) hown (mvT hZ (hw _ (List.mem_of_getElem? (i := 2) rfl))) (mvT hZ (hw _ (List.mem_of_getElem? (i := 3) rfl))) (mvT hZ (hw _ (List.mem_of_getElem? (i := 4) rfl))) (mvT hZ (hw _ (List.mem_of_getElem? (i := 5) rfl))) (by decide) (backOf (W := 2) (rm1 l Z a0 hw [] q1 (Int32.ofNat fr) (Int32.ofNat ct) (6 : Int32) q4 q5 h13 n0 Z13) hZ (hw _ (List.mem_of_getElem? (i := 5) rfl)) (hw _ (List.mem_of_getElem? (i := 4) rfl)) (by decide) (by decide)) (g := (mkF m 144 #[.val (.long q1), .second, .val (.int q2), .val (.int q3), .val (.int q4), .val (.long q5), .second, .val (.int (Int32.ofNat ct)), .val (.int (Int32.ofNat fr)), .val (.ref b1), .unset, .unset, .unset, .unset] [(.long q5), (.int q4), (.int (6 : Int32)), (.int (Int32.ofNat ct)), (.int (Int32.ofNat fr)), (.long q1), (.int (6 : Int32)), (.ref b1)])) rfl (by rw [hml]; rfl) (argsL := [(.long q1), (.int (Int32.ofNat fr)), (.int (Int32.ofNat ct)), (.int (6 : Int32)), (.int q4), (.long q5)]) (rest := [(.int (6 : Int32)), (.ref b1)]) (lenOf pd0_0 rfl) rfl (by show 2 * 0 + _ ≤ _; exact Nat.le_of_eq rfl) (hb hby at_144) (fun _ _ => ⟨rfl, e13, (by decide : 1 + 0 ≤ _), (by decide : 12 + 0 ≤ _)⟩)
  dsimp only [Pt.U, Pt.locs, Pt.cells, Pt.slots] at X14 l14 y14 z14 st14 hQ14
  subst l14 y14 z14
  obtain ⟨rfl, Nq14, e14⟩ := hQ14
  have N14 := Fr.app N13 Nq14
  obtain ⟨lo14, X14, N14⟩ : ∃ L, Stand p l e room_1 s m #[(.long q1), (.int q2), (.int q3), (.int q4), (.long q5)] below meth c T14 L 1 12 ∧ Fr n0 L := ⟨_, X14, N14⟩
  refine OGo.st (fun t k => st14 t k) ?_
  show OGo p e below _ (T14.setTop (mkF m 147 #[.val (.long q1), .second, .val (.int q2), .val (.int q3), .val (.int q4), .val (.long q5), .second, .val (.int (Int32.ofNat ct)), .val (.int (Int32.ofNat fr)), .val (.ref b1), .unset, .unset, .unset, .unset] [(.int (f1 q1 (Int32.ofNat fr) (Int32.ofNat ct) (6 : Int32) q4 q5)), (.int (6 : Int32)), (.ref b1)]))
  obtain ⟨T15, h15, X15, e15, W15, O15', st15⟩ := OA.stB X14 hx hZ e14 O13 (j := (6 : Int32)) (x := (f1 q1 (Int32.ofNat fr) (Int32.ofNat ct) (6 : Int32) q4 q5)) (k := 6) (by decide) (by decide) (by decide) (g := (mkF m 147 #[.val (.long q1), .second, .val (.int q2), .val (.int q3), .val (.int q4), .val (.long q5), .second, .val (.int (Int32.ofNat ct)), .val (.int (Int32.ofNat fr)), .val (.ref b1), .unset, .unset, .unset, .unset] [(.int (f1 q1 (Int32.ofNat fr) (Int32.ofNat ct) (6 : Int32) q4 q5)), (.int (6 : Int32)), (.ref b1)])) rfl rfl (hb hby at_147)
  obtain ⟨fa15, hf15⟩ : ∃ z, z = oset fa13 6 ((f1 q1 (Int32.ofNat fr) (Int32.ofNat ct) (6 : Int32) q4 q5).toInt8.toInt32) := ⟨_, rfl⟩
  have O15 := O15'
  rw [← hf15] at O15
  have N15 := Fr.snoc X15 N14 gb1
  have Z15 : n0 ≤ h15.size := Nat.le_trans Z13 (Keep.of_wr W15).1
  obtain ⟨lo15, X15, N15⟩ : ∃ L, Stand p l e room_1 s m #[(.long q1), (.int q2), (.int q3), (.int q4), (.long q5)] below meth c T15 L 1 12 ∧ Fr n0 L := ⟨_, X15, N15⟩
  refine OGo.st (fun t k => st15 t k) ?_
  show OGo p e below _ (T15.setTop (mkF m 148 #[.val (.long q1), .second, .val (.int q2), .val (.int q3), .val (.int q4), .val (.long q5), .second, .val (.int (Int32.ofNat ct)), .val (.int (Int32.ofNat fr)), .val (.ref b1), .unset, .unset, .unset, .unset] []))
  refine OGo.st (fun t k => XS.aload X15.here hx rfl (hb hby at_148) rfl rfl k) ?_
  show OGo p e below _ (T15.setTop (mkF m 150 #[.val (.long q1), .second, .val (.int q2), .val (.int q3), .val (.int q4), .val (.long q5), .second, .val (.int (Int32.ofNat ct)), .val (.int (Int32.ofNat fr)), .val (.ref b1), .unset, .unset, .unset, .unset] [(.ref b1)]))
  refine OGo.st (fun t k => XS.bipush X15.here hx rfl (hb hby at_150) k) ?_
  show OGo p e below _ (T15.setTop (mkF m 152 #[.val (.long q1), .second, .val (.int q2), .val (.int q3), .val (.int q4), .val (.long q5), .second, .val (.int (Int32.ofNat ct)), .val (.int (Int32.ofNat fr)), .val (.ref b1), .unset, .unset, .unset, .unset] [(.int (7 : Int32)), (.ref b1)]))
  refine OGo.st (fun t k => XS.lloadN X15.here hx rfl (hb hby at_152) rfl k) ?_
  show OGo p e below _ (T15.setTop (mkF m 153 #[.val (.long q1), .second, .val (.int q2), .val (.int q3), .val (.int q4), .val (.long q5), .second, .val (.int (Int32.ofNat ct)), .val (.int (Int32.ofNat fr)), .val (.ref b1), .unset, .unset, .unset, .unset] [(.long q1), (.int (7 : Int32)), (.ref b1)]))
  refine OGo.st (fun t k => XS.iload X15.here hx rfl (hb hby at_153) rfl k) ?_
  show OGo p e below _ (T15.setTop (mkF m 155 #[.val (.long q1), .second, .val (.int q2), .val (.int q3), .val (.int q4), .val (.long q5), .second, .val (.int (Int32.ofNat ct)), .val (.int (Int32.ofNat fr)), .val (.ref b1), .unset, .unset, .unset, .unset] [(.int (Int32.ofNat fr)), (.long q1), (.int (7 : Int32)), (.ref b1)]))
  refine OGo.st (fun t k => XS.iload X15.here hx rfl (hb hby at_155) rfl k) ?_
  show OGo p e below _ (T15.setTop (mkF m 157 #[.val (.long q1), .second, .val (.int q2), .val (.int q3), .val (.int q4), .val (.long q5), .second, .val (.int (Int32.ofNat ct)), .val (.int (Int32.ofNat fr)), .val (.ref b1), .unset, .unset, .unset, .unset] [(.int (Int32.ofNat ct)), (.int (Int32.ofNat fr)), (.long q1), (.int (7 : Int32)), (.ref b1)]))
  refine OGo.st (fun t k => XS.bipush X15.here hx rfl (hb hby at_157) k) ?_
  show OGo p e below _ (T15.setTop (mkF m 159 #[.val (.long q1), .second, .val (.int q2), .val (.int q3), .val (.int q4), .val (.long q5), .second, .val (.int (Int32.ofNat ct)), .val (.int (Int32.ofNat fr)), .val (.ref b1), .unset, .unset, .unset, .unset] [(.int (7 : Int32)), (.int (Int32.ofNat ct)), (.int (Int32.ofNat fr)), (.long q1), (.int (7 : Int32)), (.ref b1)]))
  refine OGo.st (fun t k => XS.iload X15.here hx rfl (hb hby at_159) rfl k) ?_
  show OGo p e below _ (T15.setTop (mkF m 161 #[.val (.long q1), .second, .val (.int q2), .val (.int q3), .val (.int q4), .val (.long q5), .second, .val (.int (Int32.ofNat ct)), .val (.int (Int32.ofNat fr)), .val (.ref b1), .unset, .unset, .unset, .unset] [(.int q4), (.int (7 : Int32)), (.int (Int32.ofNat ct)), (.int (Int32.ofNat fr)), (.long q1), (.int (7 : Int32)), (.ref b1)]))
  refine OGo.st (fun t k => XS.lload X15.here hx rfl (hb hby at_161) rfl k) ?_
  show OGo p e below _ (T15.setTop (mkF m 163 #[.val (.long q1), .second, .val (.int q2), .val (.int q3), .val (.int q4), .val (.long q5), .second, .val (.int (Int32.ofNat ct)), .val (.int (Int32.ofNat fr)), .val (.ref b1), .unset, .unset, .unset, .unset] [(.long q5), (.int q4), (.int (7 : Int32)), (.int (Int32.ofNat ct)), (.int (Int32.ofNat fr)), (.long q1), (.int (7 : Int32)), (.ref b1)]))
  obtain ⟨_, _, ⟨T16, L16, k16, n16⟩, -, X16, ⟨Lc16, hQ16, l16, y16, z16⟩, st16⟩ := Jvm.LawKit.callS X15 hx (y := (⟨"com/example/distinguo/distinguo/codec/SevenBitGroupsToLongPinLaw", "cell", "(JIIIIJ)B"⟩ : MethodName)) hown (mvT hZ (hw _ (List.mem_of_getElem? (i := 2) rfl))) (mvT hZ (hw _ (List.mem_of_getElem? (i := 3) rfl))) (mvT hZ (hw _ (List.mem_of_getElem? (i := 4) rfl))) (mvT hZ (hw _ (List.mem_of_getElem? (i := 5) rfl))) (by decide) (backOf (W := 2) (rm1 l Z a0 hw [] q1 (Int32.ofNat fr) (Int32.ofNat ct) (7 : Int32) q4 q5 h15 n0 Z15) hZ (hw _ (List.mem_of_getElem? (i := 5) rfl)) (hw _ (List.mem_of_getElem? (i := 4) rfl)) (by decide) (by decide)) (g := (mkF m 163 #[.val (.long q1), .second, .val (.int q2), .val (.int q3), .val (.int q4), .val (.long q5), .second, .val (.int (Int32.ofNat ct)), .val (.int (Int32.ofNat fr)), .val (.ref b1), .unset, .unset, .unset, .unset] [(.long q5), (.int q4), (.int (7 : Int32)), (.int (Int32.ofNat ct)), (.int (Int32.ofNat fr)), (.long q1), (.int (7 : Int32)), (.ref b1)])) rfl (by rw [hml]; rfl) (argsL := [(.long q1), (.int (Int32.ofNat fr)), (.int (Int32.ofNat ct)), (.int (7 : Int32)), (.int q4), (.long q5)]) (rest := [(.int (7 : Int32)), (.ref b1)]) (lenOf pd0_0 rfl) rfl (by show 2 * 0 + _ ≤ _; exact Nat.le_of_eq rfl) (hb hby at_163) (fun _ _ => ⟨rfl, e15, (by decide : 1 + 0 ≤ _), (by decide : 12 + 0 ≤ _)⟩)
  dsimp only [Pt.U, Pt.locs, Pt.cells, Pt.slots] at X16 l16 y16 z16 st16 hQ16
  subst l16 y16 z16
  obtain ⟨rfl, Nq16, e16⟩ := hQ16
  have N16 := Fr.app N15 Nq16
  obtain ⟨lo16, X16, N16⟩ : ∃ L, Stand p l e room_1 s m #[(.long q1), (.int q2), (.int q3), (.int q4), (.long q5)] below meth c T16 L 1 12 ∧ Fr n0 L := ⟨_, X16, N16⟩
  refine OGo.st (fun t k => st16 t k) ?_
  show OGo p e below _ (T16.setTop (mkF m 166 #[.val (.long q1), .second, .val (.int q2), .val (.int q3), .val (.int q4), .val (.long q5), .second, .val (.int (Int32.ofNat ct)), .val (.int (Int32.ofNat fr)), .val (.ref b1), .unset, .unset, .unset, .unset] [(.int (f1 q1 (Int32.ofNat fr) (Int32.ofNat ct) (7 : Int32) q4 q5)), (.int (7 : Int32)), (.ref b1)]))
  obtain ⟨T17, h17, X17, e17, W17, O17', st17⟩ := OA.stB X16 hx hZ e16 O15 (j := (7 : Int32)) (x := (f1 q1 (Int32.ofNat fr) (Int32.ofNat ct) (7 : Int32) q4 q5)) (k := 7) (by decide) (by decide) (by decide) (g := (mkF m 166 #[.val (.long q1), .second, .val (.int q2), .val (.int q3), .val (.int q4), .val (.long q5), .second, .val (.int (Int32.ofNat ct)), .val (.int (Int32.ofNat fr)), .val (.ref b1), .unset, .unset, .unset, .unset] [(.int (f1 q1 (Int32.ofNat fr) (Int32.ofNat ct) (7 : Int32) q4 q5)), (.int (7 : Int32)), (.ref b1)])) rfl rfl (hb hby at_166)
  obtain ⟨fa17, hf17⟩ : ∃ z, z = oset fa15 7 ((f1 q1 (Int32.ofNat fr) (Int32.ofNat ct) (7 : Int32) q4 q5).toInt8.toInt32) := ⟨_, rfl⟩
  have O17 := O17'
  rw [← hf17] at O17
  have N17 := Fr.snoc X17 N16 gb1
  have Z17 : n0 ≤ h17.size := Nat.le_trans Z15 (Keep.of_wr W17).1
  obtain ⟨lo17, X17, N17⟩ : ∃ L, Stand p l e room_1 s m #[(.long q1), (.int q2), (.int q3), (.int q4), (.long q5)] below meth c T17 L 1 12 ∧ Fr n0 L := ⟨_, X17, N17⟩
  refine OGo.st (fun t k => st17 t k) ?_
  show OGo p e below _ (T17.setTop (mkF m 167 #[.val (.long q1), .second, .val (.int q2), .val (.int q3), .val (.int q4), .val (.long q5), .second, .val (.int (Int32.ofNat ct)), .val (.int (Int32.ofNat fr)), .val (.ref b1), .unset, .unset, .unset, .unset] []))
  refine OGo.st (fun t k => XS.aload X17.here hx rfl (hb hby at_167) rfl rfl k) ?_
  show OGo p e below _ (T17.setTop (mkF m 169 #[.val (.long q1), .second, .val (.int q2), .val (.int q3), .val (.int q4), .val (.long q5), .second, .val (.int (Int32.ofNat ct)), .val (.int (Int32.ofNat fr)), .val (.ref b1), .unset, .unset, .unset, .unset] [(.ref b1)]))
  refine OGo.st (fun t k => XS.bipush X17.here hx rfl (hb hby at_169) k) ?_
  show OGo p e below _ (T17.setTop (mkF m 171 #[.val (.long q1), .second, .val (.int q2), .val (.int q3), .val (.int q4), .val (.long q5), .second, .val (.int (Int32.ofNat ct)), .val (.int (Int32.ofNat fr)), .val (.ref b1), .unset, .unset, .unset, .unset] [(.int (8 : Int32)), (.ref b1)]))
  refine OGo.st (fun t k => XS.lloadN X17.here hx rfl (hb hby at_171) rfl k) ?_
  show OGo p e below _ (T17.setTop (mkF m 172 #[.val (.long q1), .second, .val (.int q2), .val (.int q3), .val (.int q4), .val (.long q5), .second, .val (.int (Int32.ofNat ct)), .val (.int (Int32.ofNat fr)), .val (.ref b1), .unset, .unset, .unset, .unset] [(.long q1), (.int (8 : Int32)), (.ref b1)]))
  refine OGo.st (fun t k => XS.iload X17.here hx rfl (hb hby at_172) rfl k) ?_
  show OGo p e below _ (T17.setTop (mkF m 174 #[.val (.long q1), .second, .val (.int q2), .val (.int q3), .val (.int q4), .val (.long q5), .second, .val (.int (Int32.ofNat ct)), .val (.int (Int32.ofNat fr)), .val (.ref b1), .unset, .unset, .unset, .unset] [(.int (Int32.ofNat fr)), (.long q1), (.int (8 : Int32)), (.ref b1)]))
  refine OGo.st (fun t k => XS.iload X17.here hx rfl (hb hby at_174) rfl k) ?_
  show OGo p e below _ (T17.setTop (mkF m 176 #[.val (.long q1), .second, .val (.int q2), .val (.int q3), .val (.int q4), .val (.long q5), .second, .val (.int (Int32.ofNat ct)), .val (.int (Int32.ofNat fr)), .val (.ref b1), .unset, .unset, .unset, .unset] [(.int (Int32.ofNat ct)), (.int (Int32.ofNat fr)), (.long q1), (.int (8 : Int32)), (.ref b1)]))
  refine OGo.st (fun t k => XS.bipush X17.here hx rfl (hb hby at_176) k) ?_
  show OGo p e below _ (T17.setTop (mkF m 178 #[.val (.long q1), .second, .val (.int q2), .val (.int q3), .val (.int q4), .val (.long q5), .second, .val (.int (Int32.ofNat ct)), .val (.int (Int32.ofNat fr)), .val (.ref b1), .unset, .unset, .unset, .unset] [(.int (8 : Int32)), (.int (Int32.ofNat ct)), (.int (Int32.ofNat fr)), (.long q1), (.int (8 : Int32)), (.ref b1)]))
  refine OGo.st (fun t k => XS.iload X17.here hx rfl (hb hby at_178) rfl k) ?_
  show OGo p e below _ (T17.setTop (mkF m 180 #[.val (.long q1), .second, .val (.int q2), .val (.int q3), .val (.int q4), .val (.long q5), .second, .val (.int (Int32.ofNat ct)), .val (.int (Int32.ofNat fr)), .val (.ref b1), .unset, .unset, .unset, .unset] [(.int q4), (.int (8 : Int32)), (.int (Int32.ofNat ct)), (.int (Int32.ofNat fr)), (.long q1), (.int (8 : Int32)), (.ref b1)]))
  refine OGo.st (fun t k => XS.lload X17.here hx rfl (hb hby at_180) rfl k) ?_
  show OGo p e below _ (T17.setTop (mkF m 182 #[.val (.long q1), .second, .val (.int q2), .val (.int q3), .val (.int q4), .val (.long q5), .second, .val (.int (Int32.ofNat ct)), .val (.int (Int32.ofNat fr)), .val (.ref b1), .unset, .unset, .unset, .unset] [(.long q5), (.int q4), (.int (8 : Int32)), (.int (Int32.ofNat ct)), (.int (Int32.ofNat fr)), (.long q1), (.int (8 : Int32)), (.ref b1)]))
  obtain ⟨_, _, ⟨T18, L18, k18, n18⟩, -, X18, ⟨Lc18, hQ18, l18, y18, z18⟩, st18⟩ := Jvm.LawKit.callS X17 hx (y := (⟨"com/example/distinguo/distinguo/codec/SevenBitGroupsToLongPinLaw", "cell", "(JIIIIJ)B"⟩ : MethodName)) hown (mvT hZ (hw _ (List.mem_of_getElem? (i := 2) rfl))) (mvT hZ (hw _ (List.mem_of_getElem? (i := 3) rfl))) (mvT hZ (hw _ (List.mem_of_getElem? (i := 4) rfl))) (mvT hZ (hw _ (List.mem_of_getElem? (i := 5) rfl))) (by decide) (backOf (W := 2) (rm1 l Z a0 hw [] q1 (Int32.ofNat fr) (Int32.ofNat ct) (8 : Int32) q4 q5 h17 n0 Z17) hZ (hw _ (List.mem_of_getElem? (i := 5) rfl)) (hw _ (List.mem_of_getElem? (i := 4) rfl)) (by decide) (by decide)) (g := (mkF m 182 #[.val (.long q1), .second, .val (.int q2), .val (.int q3), .val (.int q4), .val (.long q5), .second, .val (.int (Int32.ofNat ct)), .val (.int (Int32.ofNat fr)), .val (.ref b1), .unset, .unset, .unset, .unset] [(.long q5), (.int q4), (.int (8 : Int32)), (.int (Int32.ofNat ct)), (.int (Int32.ofNat fr)), (.long q1), (.int (8 : Int32)), (.ref b1)])) rfl (by rw [hml]; rfl) (argsL := [(.long q1), (.int (Int32.ofNat fr)), (.int (Int32.ofNat ct)), (.int (8 : Int32)), (.int q4), (.long q5)]) (rest := [(.int (8 : Int32)), (.ref b1)]) (lenOf pd0_0 rfl) rfl (by show 2 * 0 + _ ≤ _; exact Nat.le_of_eq rfl) (hb hby at_182) (fun _ _ => ⟨rfl, e17, (by decide : 1 + 0 ≤ _), (by decide : 12 + 0 ≤ _)⟩)
  dsimp only [Pt.U, Pt.locs, Pt.cells, Pt.slots] at X18 l18 y18 z18 st18 hQ18
  subst l18 y18 z18
  obtain ⟨rfl, Nq18, e18⟩ := hQ18
  have N18 := Fr.app N17 Nq18
  obtain ⟨lo18, X18, N18⟩ : ∃ L, Stand p l e room_1 s m #[(.long q1), (.int q2), (.int q3), (.int q4), (.long q5)] below meth c T18 L 1 12 ∧ Fr n0 L := ⟨_, X18, N18⟩
  refine OGo.st (fun t k => st18 t k) ?_
  show OGo p e below _ (T18.setTop (mkF m 185 #[.val (.long q1), .second, .val (.int q2), .val (.int q3), .val (.int q4), .val (.long q5), .second, .val (.int (Int32.ofNat ct)), .val (.int (Int32.ofNat fr)), .val (.ref b1), .unset, .unset, .unset, .unset] [(.int (f1 q1 (Int32.ofNat fr) (Int32.ofNat ct) (8 : Int32) q4 q5)), (.int (8 : Int32)), (.ref b1)]))
  obtain ⟨T19, h19, X19, e19, W19, O19', st19⟩ := OA.stB X18 hx hZ e18 O17 (j := (8 : Int32)) (x := (f1 q1 (Int32.ofNat fr) (Int32.ofNat ct) (8 : Int32) q4 q5)) (k := 8) (by decide) (by decide) (by decide) (g := (mkF m 185 #[.val (.long q1), .second, .val (.int q2), .val (.int q3), .val (.int q4), .val (.long q5), .second, .val (.int (Int32.ofNat ct)), .val (.int (Int32.ofNat fr)), .val (.ref b1), .unset, .unset, .unset, .unset] [(.int (f1 q1 (Int32.ofNat fr) (Int32.ofNat ct) (8 : Int32) q4 q5)), (.int (8 : Int32)), (.ref b1)])) rfl rfl (hb hby at_185)
  obtain ⟨fa19, hf19⟩ : ∃ z, z = oset fa17 8 ((f1 q1 (Int32.ofNat fr) (Int32.ofNat ct) (8 : Int32) q4 q5).toInt8.toInt32) := ⟨_, rfl⟩
  have O19 := O19'
  rw [← hf19] at O19
  have N19 := Fr.snoc X19 N18 gb1
  have Z19 : n0 ≤ h19.size := Nat.le_trans Z17 (Keep.of_wr W19).1
  obtain ⟨lo19, X19, N19⟩ : ∃ L, Stand p l e room_1 s m #[(.long q1), (.int q2), (.int q3), (.int q4), (.long q5)] below meth c T19 L 1 12 ∧ Fr n0 L := ⟨_, X19, N19⟩
  refine OGo.st (fun t k => st19 t k) ?_
  show OGo p e below _ (T19.setTop (mkF m 186 #[.val (.long q1), .second, .val (.int q2), .val (.int q3), .val (.int q4), .val (.long q5), .second, .val (.int (Int32.ofNat ct)), .val (.int (Int32.ofNat fr)), .val (.ref b1), .unset, .unset, .unset, .unset] []))
  refine OGo.st (fun t k => XS.aload X19.here hx rfl (hb hby at_186) rfl rfl k) ?_
  show OGo p e below _ (T19.setTop (mkF m 188 #[.val (.long q1), .second, .val (.int q2), .val (.int q3), .val (.int q4), .val (.long q5), .second, .val (.int (Int32.ofNat ct)), .val (.int (Int32.ofNat fr)), .val (.ref b1), .unset, .unset, .unset, .unset] [(.ref b1)]))
  refine OGo.st (fun t k => XS.bipush X19.here hx rfl (hb hby at_188) k) ?_
  show OGo p e below _ (T19.setTop (mkF m 190 #[.val (.long q1), .second, .val (.int q2), .val (.int q3), .val (.int q4), .val (.long q5), .second, .val (.int (Int32.ofNat ct)), .val (.int (Int32.ofNat fr)), .val (.ref b1), .unset, .unset, .unset, .unset] [(.int (9 : Int32)), (.ref b1)]))
  refine OGo.st (fun t k => XS.lloadN X19.here hx rfl (hb hby at_190) rfl k) ?_
  show OGo p e below _ (T19.setTop (mkF m 191 #[.val (.long q1), .second, .val (.int q2), .val (.int q3), .val (.int q4), .val (.long q5), .second, .val (.int (Int32.ofNat ct)), .val (.int (Int32.ofNat fr)), .val (.ref b1), .unset, .unset, .unset, .unset] [(.long q1), (.int (9 : Int32)), (.ref b1)]))
  refine OGo.st (fun t k => XS.iload X19.here hx rfl (hb hby at_191) rfl k) ?_
  show OGo p e below _ (T19.setTop (mkF m 193 #[.val (.long q1), .second, .val (.int q2), .val (.int q3), .val (.int q4), .val (.long q5), .second, .val (.int (Int32.ofNat ct)), .val (.int (Int32.ofNat fr)), .val (.ref b1), .unset, .unset, .unset, .unset] [(.int (Int32.ofNat fr)), (.long q1), (.int (9 : Int32)), (.ref b1)]))
  refine OGo.st (fun t k => XS.iload X19.here hx rfl (hb hby at_193) rfl k) ?_
  show OGo p e below _ (T19.setTop (mkF m 195 #[.val (.long q1), .second, .val (.int q2), .val (.int q3), .val (.int q4), .val (.long q5), .second, .val (.int (Int32.ofNat ct)), .val (.int (Int32.ofNat fr)), .val (.ref b1), .unset, .unset, .unset, .unset] [(.int (Int32.ofNat ct)), (.int (Int32.ofNat fr)), (.long q1), (.int (9 : Int32)), (.ref b1)]))
  refine OGo.st (fun t k => XS.bipush X19.here hx rfl (hb hby at_195) k) ?_
  show OGo p e below _ (T19.setTop (mkF m 197 #[.val (.long q1), .second, .val (.int q2), .val (.int q3), .val (.int q4), .val (.long q5), .second, .val (.int (Int32.ofNat ct)), .val (.int (Int32.ofNat fr)), .val (.ref b1), .unset, .unset, .unset, .unset] [(.int (9 : Int32)), (.int (Int32.ofNat ct)), (.int (Int32.ofNat fr)), (.long q1), (.int (9 : Int32)), (.ref b1)]))
  refine OGo.st (fun t k => XS.iload X19.here hx rfl (hb hby at_197) rfl k) ?_
  show OGo p e below _ (T19.setTop (mkF m 199 #[.val (.long q1), .second, .val (.int q2), .val (.int q3), .val (.int q4), .val (.long q5), .second, .val (.int (Int32.ofNat ct)), .val (.int (Int32.ofNat fr)), .val (.ref b1), .unset, .unset, .unset, .unset] [(.int q4), (.int (9 : Int32)), (.int (Int32.ofNat ct)), (.int (Int32.ofNat fr)), (.long q1), (.int (9 : Int32)), (.ref b1)]))
  refine OGo.st (fun t k => XS.lload X19.here hx rfl (hb hby at_199) rfl k) ?_
  show OGo p e below _ (T19.setTop (mkF m 201 #[.val (.long q1), .second, .val (.int q2), .val (.int q3), .val (.int q4), .val (.long q5), .second, .val (.int (Int32.ofNat ct)), .val (.int (Int32.ofNat fr)), .val (.ref b1), .unset, .unset, .unset, .unset] [(.long q5), (.int q4), (.int (9 : Int32)), (.int (Int32.ofNat ct)), (.int (Int32.ofNat fr)), (.long q1), (.int (9 : Int32)), (.ref b1)]))
  obtain ⟨_, _, ⟨T20, L20, k20, n20⟩, -, X20, ⟨Lc20, hQ20, l20, y20, z20⟩, st20⟩ := Jvm.LawKit.callS X19 hx (y := (⟨"com/example/distinguo/distinguo/codec/SevenBitGroupsToLongPinLaw", "cell", "(JIIIIJ)B"⟩ : MethodName)) hown (mvT hZ (hw _ (List.mem_of_getElem? (i := 2) rfl))) (mvT hZ (hw _ (List.mem_of_getElem? (i := 3) rfl))) (mvT hZ (hw _ (List.mem_of_getElem? (i := 4) rfl))) (mvT hZ (hw _ (List.mem_of_getElem? (i := 5) rfl))) (by decide) (backOf (W := 2) (rm1 l Z a0 hw [] q1 (Int32.ofNat fr) (Int32.ofNat ct) (9 : Int32) q4 q5 h19 n0 Z19) hZ (hw _ (List.mem_of_getElem? (i := 5) rfl)) (hw _ (List.mem_of_getElem? (i := 4) rfl)) (by decide) (by decide)) (g := (mkF m 201 #[.val (.long q1), .second, .val (.int q2), .val (.int q3), .val (.int q4), .val (.long q5), .second, .val (.int (Int32.ofNat ct)), .val (.int (Int32.ofNat fr)), .val (.ref b1), .unset, .unset, .unset, .unset] [(.long q5), (.int q4), (.int (9 : Int32)), (.int (Int32.ofNat ct)), (.int (Int32.ofNat fr)), (.long q1), (.int (9 : Int32)), (.ref b1)])) rfl (by rw [hml]; rfl) (argsL := [(.long q1), (.int (Int32.ofNat fr)), (.int (Int32.ofNat ct)), (.int (9 : Int32)), (.int q4), (.long q5)]) (rest := [(.int (9 : Int32)), (.ref b1)]) (lenOf pd0_0 rfl) rfl (by show 2 * 0 + _ ≤ _; exact Nat.le_of_eq rfl) (hb hby at_201) (fun _ _ => ⟨rfl, e19, (by decide : 1 + 0 ≤ _), (by decide : 12 + 0 ≤ _)⟩)
  dsimp only [Pt.U, Pt.locs, Pt.cells, Pt.slots] at X20 l20 y20 z20 st20 hQ20
  subst l20 y20 z20
  obtain ⟨rfl, Nq20, e20⟩ := hQ20
  have N20 := Fr.app N19 Nq20
  obtain ⟨lo20, X20, N20⟩ : ∃ L, Stand p l e room_1 s m #[(.long q1), (.int q2), (.int q3), (.int q4), (.long q5)] below meth c T20 L 1 12 ∧ Fr n0 L := ⟨_, X20, N20⟩
  refine OGo.st (fun t k => st20 t k) ?_
  show OGo p e below _ (T20.setTop (mkF m 204 #[.val (.long q1), .second, .val (.int q2), .val (.int q3), .val (.int q4), .val (.long q5), .second, .val (.int (Int32.ofNat ct)), .val (.int (Int32.ofNat fr)), .val (.ref b1), .unset, .unset, .unset, .unset] [(.int (f1 q1 (Int32.ofNat fr) (Int32.ofNat ct) (9 : Int32) q4 q5)), (.int (9 : Int32)), (.ref b1)]))
  obtain ⟨T21, h21, X21, e21, W21, O21', st21⟩ := OA.stB X20 hx hZ e20 O19 (j := (9 : Int32)) (x := (f1 q1 (Int32.ofNat fr) (Int32.ofNat ct) (9 : Int32) q4 q5)) (k := 9) (by decide) (by decide) (by decide) (g := (mkF m 204 #[.val (.long q1), .second, .val (.int q2), .val (.int q3), .val (.int q4), .val (.long q5), .second, .val (.int (Int32.ofNat ct)), .val (.int (Int32.ofNat fr)), .val (.ref b1), .unset, .unset, .unset, .unset] [(.int (f1 q1 (Int32.ofNat fr) (Int32.ofNat ct) (9 : Int32) q4 q5)), (.int (9 : Int32)), (.ref b1)])) rfl rfl (hb hby at_204)
  obtain ⟨fa21, hf21⟩ : ∃ z, z = oset fa19 9 ((f1 q1 (Int32.ofNat fr) (Int32.ofNat ct) (9 : Int32) q4 q5).toInt8.toInt32) := ⟨_, rfl⟩
  have O21 := O21'
  rw [← hf21] at O21
  have N21 := Fr.snoc X21 N20 gb1
  have Z21 : n0 ≤ h21.size := Nat.le_trans Z19 (Keep.of_wr W21).1
  obtain ⟨lo21, X21, N21⟩ : ∃ L, Stand p l e room_1 s m #[(.long q1), (.int q2), (.int q3), (.int q4), (.long q5)] below meth c T21 L 1 12 ∧ Fr n0 L := ⟨_, X21, N21⟩
  refine OGo.st (fun t k => st21 t k) ?_
  show OGo p e below _ (T21.setTop (mkF m 205 #[.val (.long q1), .second, .val (.int q2), .val (.int q3), .val (.int q4), .val (.long q5), .second, .val (.int (Int32.ofNat ct)), .val (.int (Int32.ofNat fr)), .val (.ref b1), .unset, .unset, .unset, .unset] []))
  refine OGo.st (fun t k => XS.aload X21.here hx rfl (hb hby at_205) rfl rfl k) ?_
  show OGo p e below _ (T21.setTop (mkF m 207 #[.val (.long q1), .second, .val (.int q2), .val (.int q3), .val (.int q4), .val (.long q5), .second, .val (.int (Int32.ofNat ct)), .val (.int (Int32.ofNat fr)), .val (.ref b1), .unset, .unset, .unset, .unset] [(.ref b1)]))
  refine OGo.st (fun t k => XS.bipush X21.here hx rfl (hb hby at_207) k) ?_
  show OGo p e below _ (T21.setTop (mkF m 209 #[.val (.long q1), .second, .val (.int q2), .val (.int q3), .val (.int q4), .val (.long q5), .second, .val (.int (Int32.ofNat ct)), .val (.int (Int32.ofNat fr)), .val (.ref b1), .unset, .unset, .unset, .unset] [(.int (10 : Int32)), (.ref b1)]))
  refine OGo.st (fun t k => XS.lloadN X21.here hx rfl (hb hby at_209) rfl k) ?_
  show OGo p e below _ (T21.setTop (mkF m 210 #[.val (.long q1), .second, .val (.int q2), .val (.int q3), .val (.int q4), .val (.long q5), .second, .val (.int (Int32.ofNat ct)), .val (.int (Int32.ofNat fr)), .val (.ref b1), .unset, .unset, .unset, .unset] [(.long q1), (.int (10 : Int32)), (.ref b1)]))
  refine OGo.st (fun t k => XS.iload X21.here hx rfl (hb hby at_210) rfl k) ?_
  show OGo p e below _ (T21.setTop (mkF m 212 #[.val (.long q1), .second, .val (.int q2), .val (.int q3), .val (.int q4), .val (.long q5), .second, .val (.int (Int32.ofNat ct)), .val (.int (Int32.ofNat fr)), .val (.ref b1), .unset, .unset, .unset, .unset] [(.int (Int32.ofNat fr)), (.long q1), (.int (10 : Int32)), (.ref b1)]))
  refine OGo.st (fun t k => XS.iload X21.here hx rfl (hb hby at_212) rfl k) ?_
  show OGo p e below _ (T21.setTop (mkF m 214 #[.val (.long q1), .second, .val (.int q2), .val (.int q3), .val (.int q4), .val (.long q5), .second, .val (.int (Int32.ofNat ct)), .val (.int (Int32.ofNat fr)), .val (.ref b1), .unset, .unset, .unset, .unset] [(.int (Int32.ofNat ct)), (.int (Int32.ofNat fr)), (.long q1), (.int (10 : Int32)), (.ref b1)]))
  refine OGo.st (fun t k => XS.bipush X21.here hx rfl (hb hby at_214) k) ?_
  show OGo p e below _ (T21.setTop (mkF m 216 #[.val (.long q1), .second, .val (.int q2), .val (.int q3), .val (.int q4), .val (.long q5), .second, .val (.int (Int32.ofNat ct)), .val (.int (Int32.ofNat fr)), .val (.ref b1), .unset, .unset, .unset, .unset] [(.int (10 : Int32)), (.int (Int32.ofNat ct)), (.int (Int32.ofNat fr)), (.long q1), (.int (10 : Int32)), (.ref b1)]))
  refine OGo.st (fun t k => XS.iload X21.here hx rfl (hb hby at_216) rfl k) ?_
  show OGo p e below _ (T21.setTop (mkF m 218 #[.val (.long q1), .second, .val (.int q2), .val (.int q3), .val (.int q4), .val (.long q5), .second, .val (.int (Int32.ofNat ct)), .val (.int (Int32.ofNat fr)), .val (.ref b1), .unset, .unset, .unset, .unset] [(.int q4), (.int (10 : Int32)), (.int (Int32.ofNat ct)), (.int (Int32.ofNat fr)), (.long q1), (.int (10 : Int32)), (.ref b1)]))
  refine OGo.st (fun t k => XS.lload X21.here hx rfl (hb hby at_218) rfl k) ?_
  show OGo p e below _ (T21.setTop (mkF m 220 #[.val (.long q1), .second, .val (.int q2), .val (.int q3), .val (.int q4), .val (.long q5), .second, .val (.int (Int32.ofNat ct)), .val (.int (Int32.ofNat fr)), .val (.ref b1), .unset, .unset, .unset, .unset] [(.long q5), (.int q4), (.int (10 : Int32)), (.int (Int32.ofNat ct)), (.int (Int32.ofNat fr)), (.long q1), (.int (10 : Int32)), (.ref b1)]))
  obtain ⟨_, _, ⟨T22, L22, k22, n22⟩, -, X22, ⟨Lc22, hQ22, l22, y22, z22⟩, st22⟩ := Jvm.LawKit.callS X21 hx (y := (⟨"com/example/distinguo/distinguo/codec/SevenBitGroupsToLongPinLaw", "cell", "(JIIIIJ)B"⟩ : MethodName)) hown (mvT hZ (hw _ (List.mem_of_getElem? (i := 2) rfl))) (mvT hZ (hw _ (List.mem_of_getElem? (i := 3) rfl))) (mvT hZ (hw _ (List.mem_of_getElem? (i := 4) rfl))) (mvT hZ (hw _ (List.mem_of_getElem? (i := 5) rfl))) (by decide) (backOf (W := 2) (rm1 l Z a0 hw [] q1 (Int32.ofNat fr) (Int32.ofNat ct) (10 : Int32) q4 q5 h21 n0 Z21) hZ (hw _ (List.mem_of_getElem? (i := 5) rfl)) (hw _ (List.mem_of_getElem? (i := 4) rfl)) (by decide) (by decide)) (g := (mkF m 220 #[.val (.long q1), .second, .val (.int q2), .val (.int q3), .val (.int q4), .val (.long q5), .second, .val (.int (Int32.ofNat ct)), .val (.int (Int32.ofNat fr)), .val (.ref b1), .unset, .unset, .unset, .unset] [(.long q5), (.int q4), (.int (10 : Int32)), (.int (Int32.ofNat ct)), (.int (Int32.ofNat fr)), (.long q1), (.int (10 : Int32)), (.ref b1)])) rfl (by rw [hml]; rfl) (argsL := [(.long q1), (.int (Int32.ofNat fr)), (.int (Int32.ofNat ct)), (.int (10 : Int32)), (.int q4), (.long q5)]) (rest := [(.int (10 : Int32)), (.ref b1)]) (lenOf pd0_0 rfl) rfl (by show 2 * 0 + _ ≤ _; exact Nat.le_of_eq rfl) (hb hby at_220) (fun _ _ => ⟨rfl, e21, (by decide : 1 + 0 ≤ _), (by decide : 12 + 0 ≤ _)⟩)
  dsimp only [Pt.U, Pt.locs, Pt.cells, Pt.slots] at X22 l22 y22 z22 st22 hQ22
  subst l22 y22 z22
  obtain ⟨rfl, Nq22, e22⟩ := hQ22
  have N22 := Fr.app N21 Nq22
  obtain ⟨lo22, X22, N22⟩ : ∃ L, Stand p l e room_1 s m #[(.long q1), (.int q2), (.int q3), (.int q4), (.long q5)] below meth c T22 L 1 12 ∧ Fr n0 L := ⟨_, X22, N22⟩
  refine OGo.st (fun t k => st22 t k) ?_
  show OGo p e below _ (T22.setTop (mkF m 223 #[.val (.long q1), .second, .val (.int q2), .val (.int q3), .val (.int q4), .val (.long q5), .second, .val (.int (Int32.ofNat ct)), .val (.int (Int32.ofNat fr)), .val (.ref b1), .unset, .unset, .unset, .unset] [(.int (f1 q1 (Int32.ofNat fr) (Int32.ofNat ct) (10 : Int32) q4 q5)), (.int (10 : Int32)), (.ref b1)]))
  obtain ⟨T23, h23, X23, e23, W23, O23', st23⟩ := OA.stB X22 hx hZ e22 O21 (j := (10 : Int32)) (x := (f1 q1 (Int32.ofNat fr) (Int32.ofNat ct) (10 : Int32) q4 q5)) (k := 10) (by decide) (by decide) (by decide) (g := (mkF m 223 #[.val (.long q1), .second, .val (.int q2), .val (.int q3), .val (.int q4), .val (.long q5), .second, .val (.int (Int32.ofNat ct)), .val (.int (Int32.ofNat fr)), .val (.ref b1), .unset, .unset, .unset, .unset] [(.int (f1 q1 (Int32.ofNat fr) (Int32.ofNat ct) (10 : Int32) q4 q5)), (.int (10 : Int32)), (.ref b1)])) rfl rfl (hb hby at_223)
  obtain ⟨fa23, hf23⟩ : ∃ z, z = oset fa21 10 ((f1 q1 (Int32.ofNat fr) (Int32.ofNat ct) (10 : Int32) q4 q5).toInt8.toInt32) := ⟨_, rfl⟩
  have O23 := O23'
  rw [← hf23] at O23
  have N23 := Fr.snoc X23 N22 gb1
  have Z23 : n0 ≤ h23.size := Nat.le_trans Z21 (Keep.of_wr W23).1
  obtain ⟨lo23, X23, N23⟩ : ∃ L, Stand p l e room_1 s m #[(.long q1), (.int q2), (.int q3), (.int q4), (.long q5)] below meth c T23 L 1 12 ∧ Fr n0 L := ⟨_, X23, N23⟩
  refine OGo.st (fun t k => st23 t k) ?_
  show OGo p e below _ (T23.setTop (mkF m 224 #[.val (.long q1), .second, .val (.int q2), .val (.int q3), .val (.int q4), .val (.long q5), .second, .val (.int (Int32.ofNat ct)), .val (.int (Int32.ofNat fr)), .val (.ref b1), .unset, .unset, .unset, .unset] []))
  refine OGo.st (fun t k => XS.aload X23.here hx rfl (hb hby at_224) rfl rfl k) ?_
  show OGo p e below _ (T23.setTop (mkF m 226 #[.val (.long q1), .second, .val (.int q2), .val (.int q3), .val (.int q4), .val (.long q5), .second, .val (.int (Int32.ofNat ct)), .val (.int (Int32.ofNat fr)), .val (.ref b1), .unset, .unset, .unset, .unset] [(.ref b1)]))
  refine OGo.st (fun t k => XS.bipush X23.here hx rfl (hb hby at_226) k) ?_
  show OGo p e below _ (T23.setTop (mkF m 228 #[.val (.long q1), .second, .val (.int q2), .val (.int q3), .val (.int q4), .val (.long q5), .second, .val (.int (Int32.ofNat ct)), .val (.int (Int32.ofNat fr)), .val (.ref b1), .unset, .unset, .unset, .unset] [(.int (11 : Int32)), (.ref b1)]))
  refine OGo.st (fun t k => XS.lloadN X23.here hx rfl (hb hby at_228) rfl k) ?_
  show OGo p e below _ (T23.setTop (mkF m 229 #[.val (.long q1), .second, .val (.int q2), .val (.int q3), .val (.int q4), .val (.long q5), .second, .val (.int (Int32.ofNat ct)), .val (.int (Int32.ofNat fr)), .val (.ref b1), .unset, .unset, .unset, .unset] [(.long q1), (.int (11 : Int32)), (.ref b1)]))
  refine OGo.st (fun t k => XS.iload X23.here hx rfl (hb hby at_229) rfl k) ?_
  show OGo p e below _ (T23.setTop (mkF m 231 #[.val (.long q1), .second, .val (.int q2), .val (.int q3), .val (.int q4), .val (.long q5), .second, .val (.int (Int32.ofNat ct)), .val (.int (Int32.ofNat fr)), .val (.ref b1), .unset, .unset, .unset, .unset] [(.int (Int32.ofNat fr)), (.long q1), (.int (11 : Int32)), (.ref b1)]))
  refine OGo.st (fun t k => XS.iload X23.here hx rfl (hb hby at_231) rfl k) ?_
  show OGo p e below _ (T23.setTop (mkF m 233 #[.val (.long q1), .second, .val (.int q2), .val (.int q3), .val (.int q4), .val (.long q5), .second, .val (.int (Int32.ofNat ct)), .val (.int (Int32.ofNat fr)), .val (.ref b1), .unset, .unset, .unset, .unset] [(.int (Int32.ofNat ct)), (.int (Int32.ofNat fr)), (.long q1), (.int (11 : Int32)), (.ref b1)]))
  refine OGo.st (fun t k => XS.bipush X23.here hx rfl (hb hby at_233) k) ?_
  show OGo p e below _ (T23.setTop (mkF m 235 #[.val (.long q1), .second, .val (.int q2), .val (.int q3), .val (.int q4), .val (.long q5), .second, .val (.int (Int32.ofNat ct)), .val (.int (Int32.ofNat fr)), .val (.ref b1), .unset, .unset, .unset, .unset] [(.int (11 : Int32)), (.int (Int32.ofNat ct)), (.int (Int32.ofNat fr)), (.long q1), (.int (11 : Int32)), (.ref b1)]))
  refine OGo.st (fun t k => XS.iload X23.here hx rfl (hb hby at_235) rfl k) ?_
  show OGo p e below _ (T23.setTop (mkF m 237 #[.val (.long q1), .second, .val (.int q2), .val (.int q3), .val (.int q4), .val (.long q5), .second, .val (.int (Int32.ofNat ct)), .val (.int (Int32.ofNat fr)), .val (.ref b1), .unset, .unset, .unset, .unset] [(.int q4), (.int (11 : Int32)), (.int (Int32.ofNat ct)), (.int (Int32.ofNat fr)), (.long q1), (.int (11 : Int32)), (.ref b1)]))
  refine OGo.st (fun t k => XS.lload X23.here hx rfl (hb hby at_237) rfl k) ?_
  show OGo p e below _ (T23.setTop (mkF m 239 #[.val (.long q1), .second, .val (.int q2), .val (.int q3), .val (.int q4), .val (.long q5), .second, .val (.int (Int32.ofNat ct)), .val (.int (Int32.ofNat fr)), .val (.ref b1), .unset, .unset, .unset, .unset] [(.long q5), (.int q4), (.int (11 : Int32)), (.int (Int32.ofNat ct)), (.int (Int32.ofNat fr)), (.long q1), (.int (11 : Int32)), (.ref b1)]))
  obtain ⟨_, _, ⟨T24, L24, k24, n24⟩, -, X24, ⟨Lc24, hQ24, l24, y24, z24⟩, st24⟩ := Jvm.LawKit.callS X23 hx (y := (⟨"com/example/distinguo/distinguo/codec/SevenBitGroupsToLongPinLaw", "cell", "(JIIIIJ)B"⟩ : MethodName)) hown (mvT hZ (hw _ (List.mem_of_getElem? (i := 2) rfl))) (mvT hZ (hw _ (List.mem_of_getElem? (i := 3) rfl))) (mvT hZ (hw _ (List.mem_of_getElem? (i := 4) rfl))) (mvT hZ (hw _ (List.mem_of_getElem? (i := 5) rfl))) (by decide) (backOf (W := 2) (rm1 l Z a0 hw [] q1 (Int32.ofNat fr) (Int32.ofNat ct) (11 : Int32) q4 q5 h23 n0 Z23) hZ (hw _ (List.mem_of_getElem? (i := 5) rfl)) (hw _ (List.mem_of_getElem? (i := 4) rfl)) (by decide) (by decide)) (g := (mkF m 239 #[.val (.long q1), .second, .val (.int q2), .val (.int q3), .val (.int q4), .val (.long q5), .second, .val (.int (Int32.ofNat ct)), .val (.int (Int32.ofNat fr)), .val (.ref b1), .unset, .unset, .unset, .unset] [(.long q5), (.int q4), (.int (11 : Int32)), (.int (Int32.ofNat ct)), (.int (Int32.ofNat fr)), (.long q1), (.int (11 : Int32)), (.ref b1)])) rfl (by rw [hml]; rfl) (argsL := [(.long q1), (.int (Int32.ofNat fr)), (.int (Int32.ofNat ct)), (.int (11 : Int32)), (.int q4), (.long q5)]) (rest := [(.int (11 : Int32)), (.ref b1)]) (lenOf pd0_0 rfl) rfl (by show 2 * 0 + _ ≤ _; exact Nat.le_of_eq rfl) (hb hby at_239) (fun _ _ => ⟨rfl, e23, (by decide : 1 + 0 ≤ _), (by decide : 12 + 0 ≤ _)⟩)
  dsimp only [Pt.U, Pt.locs, Pt.cells, Pt.slots] at X24 l24 y24 z24 st24 hQ24
  subst l24 y24 z24
  obtain ⟨rfl, Nq24, e24⟩ := hQ24
  have N24 := Fr.app N23 Nq24
  obtain ⟨lo24, X24, N24⟩ : ∃ L, Stand p l e room_1 s m #[(.long q1), (.int q2), (.int q3), (.int q4), (.long q5)] below meth c T24 L 1 12 ∧ Fr n0 L := ⟨_, X24, N24⟩
  refine OGo.st (fun t k => st24 t k) ?_
  show OGo p e below _ (T24.setTop (mkF m 242 #[.val (.long q1), .second, .val (.int q2), .val (.int q3), .val (.int q4), .val (.long q5), .second, .val (.int (Int32.ofNat ct)), .val (.int (Int32.ofNat fr)), .val (.ref b1), .unset, .unset, .unset, .unset] [(.int (f1 q1 (Int32.ofNat fr) (Int32.ofNat ct) (11 : Int32) q4 q5)), (.int (11 : Int32)), (.ref b1)]))
  obtain ⟨T25, h25, X25, e25, W25, O25', st25⟩ := OA.stB X24 hx hZ e24 O23 (j := (11 : Int32)) (x := (f1 q1 (Int32.ofNat fr) (Int32.ofNat ct) (11 : Int32) q4 q5)) (k := 11) (by decide) (by decide) (by decide) (g := (mkF m 242 #[.val (.long q1), .second, .val (.int q2), .val (.int q3), .val (.int q4), .val (.long q5), .second, .val (.int (Int32.ofNat ct)), .val (.int (Int32.ofNat fr)), .val (.ref b1), .unset, .unset, .unset, .unset] [(.int (f1 q1 (Int32.ofNat fr) (Int32.ofNat ct) (11 : Int32) q4 q5)), (.int (11 : Int32)), (.ref b1)])) rfl rfl (hb hby at_242)
  obtain ⟨fa25, hf25⟩ : ∃ z, z = oset fa23 11 ((f1 q1 (Int32.ofNat fr) (Int32.ofNat ct) (11 : Int32) q4 q5).toInt8.toInt32) := ⟨_, rfl⟩
  have O25 := O25'
  rw [← hf25] at O25
  have N25 := Fr.snoc X25 N24 gb1
  have Z25 : n0 ≤ h25.size := Nat.le_trans Z23 (Keep.of_wr W25).1
  obtain ⟨lo25, X25, N25⟩ : ∃ L, Stand p l e room_1 s m #[(.long q1), (.int q2), (.int q3), (.int q4), (.long q5)] below meth c T25 L 1 12 ∧ Fr n0 L := ⟨_, X25, N25⟩
  refine OGo.st (fun t k => st25 t k) ?_
  show OGo p e below _ (T25.setTop (mkF m 243 #[.val (.long q1), .second, .val (.int q2), .val (.int q3), .val (.int q4), .val (.long q5), .second, .val (.int (Int32.ofNat ct)), .val (.int (Int32.ofNat fr)), .val (.ref b1), .unset, .unset, .unset, .unset] []))
  refine OGo.st (fun t k => XS.lloadN X25.here hx rfl (hb hby at_243) rfl k) ?_
  show OGo p e below _ (T25.setTop (mkF m 244 #[.val (.long q1), .second, .val (.int q2), .val (.int q3), .val (.int q4), .val (.long q5), .second, .val (.int (Int32.ofNat ct)), .val (.int (Int32.ofNat fr)), .val (.ref b1), .unset, .unset, .unset, .unset] [(.long q1)]))
  refine OGo.st (fun t k => XS.lconst X25.here hx rfl (hb hby at_244) k) ?_
  show OGo p e below _ (T25.setTop (mkF m 245 #[.val (.long q1), .second, .val (.int q2), .val (.int q3), .val (.int q4), .val (.long q5), .second, .val (.int (Int32.ofNat ct)), .val (.int (Int32.ofNat fr)), .val (.ref b1), .unset, .unset, .unset, .unset] [(.long (1 : Int64)), (.long q1)]))
  refine OGo.st (fun t k => XS.bipush X25.here hx rfl (hb hby at_245) k) ?_
  show OGo p e below _ (T25.setTop (mkF m 247 #[.val (.long q1), .second, .val (.int q2), .val (.int q3), .val (.int q4), .val (.long q5), .second, .val (.int (Int32.ofNat ct)), .val (.int (Int32.ofNat fr)), .val (.ref b1), .unset, .unset, .unset, .unset] [(.int (7 : Int32)), (.long (1 : Int64)), (.long q1)]))
  refine OGo.st (fun t k => XS.iload X25.here hx rfl (hb hby at_247) rfl k) ?_
  show OGo p e below _ (T25.setTop (mkF m 249 #[.val (.long q1), .second, .val (.int q2), .val (.int q3), .val (.int q4), .val (.long q5), .second, .val (.int (Int32.ofNat ct)), .val (.int (Int32.ofNat fr)), .val (.ref b1), .unset, .unset, .unset, .unset] [(.int (Int32.ofNat ct)), (.int (7 : Int32)), (.long (1 : Int64)), (.long q1)]))
  refine OGo.st (fun t k => XS.imul X25.here hx rfl (hb hby at_249) rfl k) ?_
  show OGo p e below _ (T25.setTop (mkF m 250 #[.val (.long q1), .second, .val (.int q2), .val (.int q3), .val (.int q4), .val (.long q5), .second, .val (.int (Int32.ofNat ct)), .val (.int (Int32.ofNat fr)), .val (.ref b1), .unset, .unset, .unset, .unset] [(.int ((7 : Int32) * (Int32.ofNat ct))), (.long (1 : Int64)), (.long q1)]))
  refine OGo.st (fun t k => XS.lshl X25.here hx rfl (hb hby at_250) rfl k) ?_
  show OGo p e below _ (T25.setTop (mkF m 251 #[.val (.long q1), .second, .val (.int q2), .val (.int q3), .val (.int q4), .val (.long q5), .second, .val (.int (Int32.ofNat ct)), .val (.int (Int32.ofNat fr)), .val (.ref b1), .unset, .unset, .unset, .unset] [(.long ((1 : Int64) <<< (((7 : Int32) * (Int32.ofNat ct)) &&& 0x3f).toInt64)), (.long q1)]))
  refine OGo.st (fun t k => XS.lconst X25.here hx rfl (hb hby at_251) k) ?_
  show OGo p e below _ (T25.setTop (mkF m 252 #[.val (.long q1), .second, .val (.int q2), .val (.int q3), .val (.int q4), .val (.long q5), .second, .val (.int (Int32.ofNat ct)), .val (.int (Int32.ofNat fr)), .val (.ref b1), .unset, .unset, .unset, .unset] [(.long (1 : Int64)), (.long ((1 : Int64) <<< (((7 : Int32) * (Int32.ofNat ct)) &&& 0x3f).toInt64)), (.long q1)]))
  refine OGo.st (fun t k => XS.lsub X25.here hx rfl (hb hby at_252) rfl k) ?_
  show OGo p e below _ (T25.setTop (mkF m 253 #[.val (.long q1), .second, .val (.int q2), .val (.int q3), .val (.int q4), .val (.long q5), .second, .val (.int (Int32.ofNat ct)), .val (.int (Int32.ofNat fr)), .val (.ref b1), .unset, .unset, .unset, .unset] [(.long (((1 : Int64) <<< (((7 : Int32) * (Int32.ofNat ct)) &&& 0x3f).toInt64) - (1 : Int64))), (.long q1)]))
  refine OGo.st (fun t k => XS.land X25.here hx rfl (hb hby at_253) rfl k) ?_
  show OGo p e below _ (T25.setTop (mkF m 254 #[.val (.long q1), .second, .val (.int q2), .val (.int q3), .val (.int q4), .val (.long q5), .second, .val (.int (Int32.ofNat ct)), .val (.int (Int32.ofNat fr)), .val (.ref b1), .unset, .unset, .unset, .unset] [(.long (q1 &&& (((1 : Int64) <<< (((7 : Int32) * (Int32.ofNat ct)) &&& 0x3f).toInt64) - (1 : Int64))))]))
  refine OGo.st (fun t k => XS.lstore X25.here hx rfl (hb hby at_254) rfl (l' := #[.val (.long q1), .second, .val (.int q2), .val (.int q3), .val (.int q4), .val (.long q5), .second, .val (.int (Int32.ofNat ct)), .val (.int (Int32.ofNat fr)), .val (.ref b1), .val (.long (q1 &&& (((1 : Int64) <<< (((7 : Int32) * (Int32.ofNat ct)) &&& 0x3f).toInt64) - (1 : Int64)))), .second, .unset, .unset]) rfl k) ?_
  show OGo p e below _ (T25.setTop (mkF m 256 #[.val (.long q1), .second, .val (.int q2), .val (.int q3), .val (.int q4), .val (.long q5), .second, .val (.int (Int32.ofNat ct)), .val (.int (Int32.ofNat fr)), .val (.ref b1), .val (.long (q1 &&& (((1 : Int64) <<< (((7 : Int32) * (Int32.ofNat ct)) &&& 0x3f).toInt64) - (1 : Int64)))), .second, .unset, .unset] []))
  refine OGo.st (fun t k => XS.aload X25.here hx rfl (hb hby at_256) rfl rfl k) ?_
  show OGo p e below _ (T25.setTop (mkF m 258 #[.val (.long q1), .second, .val (.int q2), .val (.int q3), .val (.int q4), .val (.long q5), .second, .val (.int (Int32.ofNat ct)), .val (.int (Int32.ofNat fr)), .val (.ref b1), .val (.long (q1 &&& (((1 : Int64) <<< (((7 : Int32) * (Int32.ofNat ct)) &&& 0x3f).toInt64) - (1 : Int64)))), .second, .unset, .unset] [(.ref b1)]))
  refine OGo.st (fun t k => XS.iload X25.here hx rfl (hb hby at_258) rfl k) ?_
  show OGo p e below _ (T25.setTop (mkF m 260 #[.val (.long q1), .second, .val (.int q2), .val (.int q3), .val (.int q4), .val (.long q5), .second, .val (.int (Int32.ofNat ct)), .val (.int (Int32.ofNat fr)), .val (.ref b1), .val (.long (q1 &&& (((1 : Int64) <<< (((7 : Int32) * (Int32.ofNat ct)) &&& 0x3f).toInt64) - (1 : Int64)))), .second, .unset, .unset] [(.int (Int32.ofNat fr)), (.ref b1)]))
  refine OGo.st (fun t k => XS.iload X25.here hx rfl (hb hby at_260) rfl k) ?_
  show OGo p e below _ (T25.setTop (mkF m 262 #[.val (.long q1), .second, .val (.int q2), .val (.int q3), .val (.int q4), .val (.long q5), .second, .val (.int (Int32.ofNat ct)), .val (.int (Int32.ofNat fr)), .val (.ref b1), .val (.long (q1 &&& (((1 : Int64) <<< (((7 : Int32) * (Int32.ofNat ct)) &&& 0x3f).toInt64) - (1 : Int64)))), .second, .unset, .unset] [(.int (Int32.ofNat ct)), (.int (Int32.ofNat fr)), (.ref b1)]))
  obtain ⟨_, _, ⟨T26, L26, k26, n26⟩, -, X26, ⟨Lc26, hQ26, l26, y26, z26⟩, st26⟩ := Jvm.LawKit.callS X25 hx (y := (⟨"com/example/distinguo/distinguo/codec/SevenBitGroups", "toLong", "([BII)J"⟩ : MethodName)) hown (mvT hZ (hw _ (List.mem_of_getElem? (i := 7) rfl))) (mvT hZ (hw _ (List.mem_of_getElem? (i := 8) rfl))) (mvT hZ (hw _ (List.mem_of_getElem? (i := 9) rfl))) (mvT hZ (hw _ (List.mem_of_getElem? (i := 10) rfl))) (by decide) (backOf (W := 0) (rm2 l Z a0 hw [] b1 fr ct fa25 h25 n0 Z25 O25 hbd) hZ (hw _ (List.mem_of_getElem? (i := 10) rfl)) (hw _ (List.mem_of_getElem? (i := 9) rfl)) (by decide) (by decide)) (g := (mkF m 262 #[.val (.long q1), .second, .val (.int q2), .val (.int q3), .val (.int q4), .val (.long q5), .second, .val (.int (Int32.ofNat ct)), .val (.int (Int32.ofNat fr)), .val (.ref b1), .val (.long (q1 &&& (((1 : Int64) <<< (((7 : Int32) * (Int32.ofNat ct)) &&& 0x3f).toInt64) - (1 : Int64)))), .second, .unset, .unset] [(.int (Int32.ofNat ct)), (.int (Int32.ofNat fr)), (.ref b1)])) rfl (by rw [hml]; rfl) (argsL := [(.ref b1), (.int (Int32.ofNat fr)), (.int (Int32.ofNat ct))]) (rest := []) (lenOf pd0_1 rfl) rfl (by show 2 * 0 + _ ≤ _; exact Nat.le_of_eq rfl) (hb hby at_262) (fun _ _ => ⟨rfl, e25, (by decide : 1 + 0 ≤ _), (by decide : 12 + 0 ≤ _)⟩)
  dsimp only [Pt.U, Pt.locs, Pt.cells, Pt.slots] at X26 l26 y26 z26 st26 hQ26
  subst l26 y26 z26
  obtain ⟨rfl, Nq26, e26⟩ := hQ26
  have N26 := Fr.app N25 Nq26
  obtain ⟨lo26, X26, N26⟩ : ∃ L, Stand p l e room_1 s m #[(.long q1), (.int q2), (.int q3), (.int q4), (.long q5)] below meth c T26 L 1 12 ∧ Fr n0 L := ⟨_, X26, N26⟩
  refine OGo.st (fun t k => st26 t k) ?_
  show OGo p e below _ (T26.setTop (mkF m 265 #[.val (.long q1), .second, .val (.int q2), .val (.int q3), .val (.int q4), .val (.long q5), .second, .val (.int (Int32.ofNat ct)), .val (.int (Int32.ofNat fr)), .val (.ref b1), .val (.long (q1 &&& (((1 : Int64) <<< (((7 : Int32) * (Int32.ofNat ct)) &&& 0x3f).toInt64) - (1 : Int64)))), .second, .unset, .unset] [(.long (TL fa25 ct fr 0))]))
  refine OGo.st (fun t k => XS.lstore X26.here hx rfl (hb hby at_265) rfl (l' := #[.val (.long q1), .second, .val (.int q2), .val (.int q3), .val (.int q4), .val (.long q5), .second, .val (.int (Int32.ofNat ct)), .val (.int (Int32.ofNat fr)), .val (.ref b1), .val (.long (q1 &&& (((1 : Int64) <<< (((7 : Int32) * (Int32.ofNat ct)) &&& 0x3f).toInt64) - (1 : Int64)))), .second, .val (.long (TL fa25 ct fr 0)), .second]) rfl k) ?_
  show OGo p e below _ (T26.setTop (mkF m 267 #[.val (.long q1), .second, .val (.int q2), .val (.int q3), .val (.int q4), .val (.long q5), .second, .val (.int (Int32.ofNat ct)), .val (.int (Int32.ofNat fr)), .val (.ref b1), .val (.long (q1 &&& (((1 : Int64) <<< (((7 : Int32) * (Int32.ofNat ct)) &&& 0x3f).toInt64) - (1 : Int64)))), .second, .val (.long (TL fa25 ct fr 0)), .second] []))
  refine OGo.st (fun t k => XS.lload X26.here hx rfl (hb hby at_267) rfl k) ?_
  show OGo p e below _ (T26.setTop (mkF m 269 #[.val (.long q1), .second, .val (.int q2), .val (.int q3), .val (.int q4), .val (.long q5), .second, .val (.int (Int32.ofNat ct)), .val (.int (Int32.ofNat fr)), .val (.ref b1), .val (.long (q1 &&& (((1 : Int64) <<< (((7 : Int32) * (Int32.ofNat ct)) &&& 0x3f).toInt64) - (1 : Int64)))), .second, .val (.long (TL fa25 ct fr 0)), .second] [(.long (TL fa25 ct fr 0))]))
  refine OGo.st (fun t k => XS.lload X26.here hx rfl (hb hby at_269) rfl k) ?_
  show OGo p e below _ (T26.setTop (mkF m 271 #[.val (.long q1), .second, .val (.int q2), .val (.int q3), .val (.int q4), .val (.long q5), .second, .val (.int (Int32.ofNat ct)), .val (.int (Int32.ofNat fr)), .val (.ref b1), .val (.long (q1 &&& (((1 : Int64) <<< (((7 : Int32) * (Int32.ofNat ct)) &&& 0x3f).toInt64) - (1 : Int64)))), .second, .val (.long (TL fa25 ct fr 0)), .second] [(.long (q1 &&& (((1 : Int64) <<< (((7 : Int32) * (Int32.ofNat ct)) &&& 0x3f).toInt64) - (1 : Int64)))), (.long (TL fa25 ct fr 0))]))
  refine OGo.st (fun t k => XS.lcmp X26.here hx rfl (hb hby at_271) rfl k) ?_
  show OGo p e below _ (T26.setTop (mkF m 272 #[.val (.long q1), .second, .val (.int q2), .val (.int q3), .val (.int q4), .val (.long q5), .second, .val (.int (Int32.ofNat ct)), .val (.int (Int32.ofNat fr)), .val (.ref b1), .val (.long (q1 &&& (((1 : Int64) <<< (((7 : Int32) * (Int32.ofNat ct)) &&& 0x3f).toInt64) - (1 : Int64)))), .second, .val (.long (TL fa25 ct fr 0)), .second] [(.int (lcmpW (TL fa25 ct fr 0) (q1 &&& (((1 : Int64) <<< (((7 : Int32) * (Int32.ofNat ct)) &&& 0x3f).toInt64) - (1 : Int64)))))]))
  refine OGo.st (fun t k => XS.ifNo X26.here hx rfl (hb hby at_272) rfl ((if0 _ _).trans (teq (own_cmp (own_law q1 q4 q5 ct fr hctb hbd fa25 (own_fill hf3 hf5 hf7 hf9 hf11 hf13 hf15 hf17 hf19 hf21 hf23 hf25)))).2) k) ?_
  show OGo p e below _ (T26.setTop (mkF m 275 #[.val (.long q1), .second, .val (.int q2), .val (.int q3), .val (.int q4), .val (.long q5), .second, .val (.int (Int32.ofNat ct)), .val (.int (Int32.ofNat fr)), .val (.ref b1), .val (.long (q1 &&& (((1 : Int64) <<< (((7 : Int32) * (Int32.ofNat ct)) &&& 0x3f).toInt64) - (1 : Int64)))), .second, .val (.long (TL fa25 ct fr 0)), .second] []))
  refine OGo.st (fun t k => XS.iconst X26.here hx rfl (hb hby at_275) k) ?_
  show OGo p e below _ (T26.setTop (mkF m 276 #[.val (.long q1), .second, .val (.int q2), .val (.int q3), .val (.int q4), .val (.long q5), .second, .val (.int (Int32.ofNat ct)), .val (.int (Int32.ofNat fr)), .val (.ref b1), .val (.long (q1 &&& (((1 : Int64) <<< (((7 : Int32) * (Int32.ofNat ct)) &&& 0x3f).toInt64) - (1 : Int64)))), .second, .val (.long (TL fa25 ct fr 0)), .second] [(.int (1 : Int32))]))
  refine OGo.st (fun t k => XS.goto X26.here hx rfl (pc0 := 276) (pc' := 280) rfl (hb hby at_276) (by decide) (by decide) k) ?_
  show OGo p e below _ (T26.setTop (mkF m 280 #[.val (.long q1), .second, .val (.int q2), .val (.int q3), .val (.int q4), .val (.long q5), .second, .val (.int (Int32.ofNat ct)), .val (.int (Int32.ofNat fr)), .val (.ref b1), .val (.long (q1 &&& (((1 : Int64) <<< (((7 : Int32) * (Int32.ofNat ct)) &&& 0x3f).toInt64) - (1 : Int64)))), .second, .val (.long (TL fa25 ct fr 0)), .second] [(.int (1 : Int32))]))
  exact OGo.outN X26 hx (t := .boolean) Bd.returns (by simp) Bd.notSynchronized (hb hby at_280) ⟨rfl, N26⟩ (by decide) (by decide)
set_option maxRecDepth 65536 in
set_option maxHeartbeats 40000000 in
theorem comes_1 {Post : Tables → Env → Array Value → State → Outcome → State → Prop} (hpost : ∀ tb e args s v u, (limb_1_1.after args s (.returned v) u = true ∧ limb_1_2.after args s (.returned v) u = true ∧ True) → FrameEnd s (.returned v) u (Jvm.fieldLocs frame_1_writes args s ++ Jvm.arrayLocs frame_1_arrays args s ++ Jvm.staticLocs frame_1_statics s) 16 128 → Post tb e args s (.returned v) u) :
    ArmFor flags0 classFile x code maxLocals ret World_1 tables_1 room_1 Calls_1 rest_1 Pre_1 Post := by
  intro l hfl _ _ p e ha hc hk s m args below hf hA hF happ hP
  obtain ⟨hcalls, hrest, hpre⟩ := hP
  obtain ⟨-, -, -, hnamed, -, -, -, hat⟩ := (Spec.applies_iff hf).mp happ
  obtain ⟨hg, hn⟩ := and_e (Cond.before_iff.mp (show (Jvm.Cond.and given_1 narrow_1).before args s = true from hpre))
  obtain ⟨gg1, gg2⟩ := and_e hg
  obtain ⟨gg3, gg4⟩ := and_e gg2
  obtain ⟨gg5, gg6⟩ := and_e gg4
  obtain ⟨gg7, gg8⟩ := and_e gg6
  obtain ⟨gg9, gg10⟩ := and_e gg8
  obtain ⟨w0, w1, w2, w3, w4, rfl⟩ : ∃ w0 w1 w2 w3 w4 : Value, args = #[w0, w1, w2, w3, w4] := by
    have hs : args.size = 5 := by simpa [Cond.value, given_1] using gg1
    obtain ⟨L⟩ := args
    match L, hs with
    | [w0, w1, w2, w3, w4], _ => exact ⟨w0, w1, w2, w3, w4, rfl⟩
  have hw := fun d (hd : d ∈ tables_1) => atoms_spec (ws := Jvm.Cond.code x code maxLocals ret :: tables_1) hat d (List.mem_cons_of_mem _ hd)
  obtain ⟨i0, ei0⟩ := isL_v gg3
  obtain rfl : w0 = (.long i0) := Option.some.inj ei0
  obtain ⟨i1, ei1⟩ := is_v gg5
  obtain rfl : w1 = (.int i1) := Option.some.inj ei1
  obtain ⟨i2, ei2⟩ := is_v gg7
  obtain rfl : w2 = (.int i2) := Option.some.inj ei2
  obtain ⟨i3, ei3⟩ := is_v gg9
  obtain rfl : w3 = (.int i3) := Option.some.inj ei3
  obtain ⟨i4, ei4⟩ := isL_v gg10
  obtain rfl : w4 = (.long i4) := Option.some.inj ei4
  obtain ⟨n, o, h1, h2, h3, _, L, rfl, ⟨rfl, N⟩, hq⟩ := rm0 l s _ hw tables_1 i0 i1 i2 i3 i4 s.heap s.heap.size (Nat.le_refl _) p e ha hc hk s m _ below hf ((Spec.applies_iff_loose hf).mp happ).1 ⟨rfl, State.Warmed39.refl s, rfl⟩ trivial
  refine ⟨n, _, h1, h2, h3, hpost _ _ _ _ _ _ ⟨Cond.after_iff.mpr rfl, Cond.after_iff.mpr (eq_i res_at (Term.int_eval (1)) rfl), trivial⟩ ⟨hq.1, hq.2.1, (hq.2.2.sift fun y hy => Or.inr (N y hy)).mono (by decide) (by decide)⟩⟩
theorem main_1_1 : Claimed_1_1 := comes_1 fun _ _ _ _ _ _ h hF => ⟨h.1, hF⟩
theorem main_1_2 : Claimed_1_2 := comes_1 fun _ _ _ _ _ _ h hF => ⟨h.2.1, hF⟩
end Jvm.Pilot.@@N@@
namespace Jvm.Pilot.@@N@@
open Jvm Jvm.ClassFile Sem Op Lib Jvm.Free Jvm.Stand Jvm.Pilot.@@N@@.Jvm.D
/-! MADE BY PROGRAM (witnessworld.py) out of the Statement's table words and the real class files: 9 classes; the members and pool entries that the words name. The judged class is class 1, her method 2. -/
namespace start1
open Jvm.ClassFile
def u (s : String) : CpInfo := .utf8 (stringToUtf16 s)
/-- a pool by its gaps: so many unusable entries, then the entry; so many at the end -/
def gap : Nat → List CpInfo → List CpInfo
  | 0, r => r
  | n + 1, r => .unusable :: gap n r
def poolList (es : List (Nat × CpInfo)) (last : Nat) : List CpInfo := es.foldr (fun e r => gap e.1 (e.2 :: r)) (gap last [])
def pool (es : List (Nat × CpInfo)) (last : Nat) : Array CpInfo := ⟨poolList es last⟩
def fileOf (pool : Array CpInfo) (this : Nat) (attrs : Array Attribute := #[]) (ms : Array MethodInfo := #[]) (fl : Nat := 33) (sup : Nat := 0) (ifs : Array Nat := #[]) (fds : Array FieldInfo := #[]) : ClassFile where
  minorVersion := 0
  majorVersion := 65
  constantPool := pool
  accessFlags := fl
  thisClass := this
  superClass := sup
  interfaces := ifs
  fields := fds
  methods := ms
  attributes := attrs
def plain (name : String) (sup : Option ClassId) : Class where
  name := name
  kind := .ordinary
  loader := none
  accessFlags := 33
  super := sup
  interfaces := #[]
  cf := none
  fields := #[]
  methods := #[]
  instanceTypes := #[]
  staticTypes := #[]
  resolved := #[]
  callSites := []
  init := .initialized
  statics := none
  mirror := none

def pool0 : Array CpInfo := pool [(5, u "<init>"), (0, u "()V"), (1, .class_ 10), (1, u "java/lang/Object")] 113

def k0m0 : Method := { name := "<init>", desc := "()V", sig := { parameters := [], returnType := none }, accessFlags := 1, code := none }
/-- java/lang/Object -/
def k0 : Class := { plain "java/lang/Object" none with
  accessFlags := 33
  interfaces := #[]
  cf := some (fileOf pool0 8 #[] #[{ accessFlags := 1, nameIndex := 5, descriptorIndex := 6, attributes := #[] }] 33 0 #[] #[])
  fields := #[]
  methods := #[k0m0]
  instanceTypes := #[]
  staticTypes := #[]
  resolved := Array.replicate 124 none
  statics := none }

def pool1 : Array CpInfo := pool [(2, .class_ 4), (1, u "java/lang/Object"), (0, u "<init>"), (0, u "()V"), (0, .long 127), (1, .integer 2147483647), (0, .methodref 11 12), (0, .class_ 13), (0, .nameAndType 14 15), (0, u "com/example/distinguo/distinguo/codec/SevenBitGroupsToLongPinLaw"), (0, u "cell"), (0, u "(JIIIIJ)B"), (0, .methodref 17 18), (0, .class_ 19), (0, .nameAndType 20 21), (0, u "com/example/distinguo/distinguo/codec/SevenBitGroups"), (0, u "toLong"), (0, u "([BII)J"), (3, u "law"), (0, u "(JIIIJ)Z")] 4

def k1m0 : Method := { name := "<init>", desc := "()V", sig := { parameters := [], returnType := none }, accessFlags := 1, code := none }
def k1c1 : Code := { maxStack := 5, maxLocals := 10, code := method_2_code, exceptionTable := #[], attributes := #[] }
def k1m1 : Method := { name := "cell", desc := "(JIIIIJ)B", sig := { parameters := [.long, .int, .int, .int, .int, .long], returnType := some .byte }, accessFlags := 10, code := some k1c1 }
def k1c2 : Code := { maxStack := 10, maxLocals := 14, code := code, exceptionTable := #[], attributes := #[] }
def k1m2 : Method := { name := "law", desc := "(JIIIJ)Z", sig := { parameters := [.long, .int, .int, .int, .long], returnType := some .boolean }, accessFlags := 9, code := some k1c2 }
/-- com/example/distinguo/distinguo/codec/SevenBitGroupsToLongPinLaw -/
def k1 : Class := { plain "com/example/distinguo/distinguo/codec/SevenBitGroupsToLongPinLaw" (some 0) with
  accessFlags := 49
  interfaces := #[]
  cf := some (fileOf pool1 11 #[] #[{ accessFlags := 1, nameIndex := 5, descriptorIndex := 6, attributes := #[] }, { accessFlags := 10, nameIndex := 14, descriptorIndex := 15, attributes := #[] }, { accessFlags := 9, nameIndex := 25, descriptorIndex := 26, attributes := #[] }] 49 2 #[] #[])
  fields := #[]
  methods := #[k1m0, k1m1, k1m2]
  instanceTypes := #[]
  staticTypes := #[]
  resolved := Array.replicate 31 none
  statics := none }

def pool2 : Array CpInfo := pool [(2, .class_ 4), (1, u "java/lang/Object"), (0, u "<init>"), (0, u "()V"), (0, .class_ 8), (0, u "com/example/distinguo/distinguo/codec/SevenBitGroups"), (2, u "toLong"), (0, u "([BII)J"), (48, u "LONG_GROUPS"), (0, u "I")] 13

def k2m0 : Method := { name := "<init>", desc := "()V", sig := { parameters := [], returnType := none }, accessFlags := 2, code := none }
def k2c1 : Code := { maxStack := 4, maxLocals := 6, code := prog_26_method_3_code, exceptionTable := #[], attributes := #[] }
def k2m1 : Method := { name := "toLong", desc := "([BII)J", sig := { parameters := [(.array .byte), .int, .int], returnType := some .long }, accessFlags := 8, code := some k2c1 }
/-- com/example/distinguo/distinguo/codec/SevenBitGroups -/
def k2 : Class := { plain "com/example/distinguo/distinguo/codec/SevenBitGroups" (some 0) with
  accessFlags := 48
  interfaces := #[]
  cf := some (fileOf pool2 7 #[] #[{ accessFlags := 2, nameIndex := 5, descriptorIndex := 6, attributes := #[] }, { accessFlags := 8, nameIndex := 11, descriptorIndex := 12, attributes := #[] }] 48 2 #[] #[{ accessFlags := 24, nameIndex := 61, descriptorIndex := 62, attributes := #[] }])
  fields := #[{ name := "LONG_GROUPS", type := .int, accessFlags := 24, slot := 0, constantValue := 0 }]
  methods := #[k2m0, k2m1]
  instanceTypes := #[]
  staticTypes := #[.int]
  resolved := Array.replicate 76 none
  statics := none }

def pool3 : Array CpInfo := pool [(1, u "java/lang/Cloneable"), (0, .class_ 1), (0, u "java/lang/Object"), (0, .class_ 3)] 3

/-- java/lang/Cloneable -/
def k3 : Class := { plain "java/lang/Cloneable" (some 0) with
  accessFlags := 1537
  interfaces := #[]
  cf := some (fileOf pool3 2 #[] #[] 1537 4 #[] #[])
  fields := #[]
  methods := #[]
  instanceTypes := #[]
  staticTypes := #[]
  resolved := Array.replicate 8 none
  statics := none }

def pool4 : Array CpInfo := pool [(1, u "java/io/Serializable"), (0, .class_ 1), (0, u "java/lang/Object"), (0, .class_ 3)] 3

/-- java/io/Serializable -/
def k4 : Class := { plain "java/io/Serializable" (some 0) with
  accessFlags := 1537
  interfaces := #[]
  cf := some (fileOf pool4 2 #[] #[] 1537 4 #[] #[])
  fields := #[]
  methods := #[]
  instanceTypes := #[]
  staticTypes := #[]
  resolved := Array.replicate 8 none
  statics := none }

/-- the primitive byte -/
def k5 : Class := { plain "byte" none with kind := .primitive 'B', accessFlags := 0x411 }
/-- [B -/
def k6 : Class := { plain "[B" (some 0) with kind := .array 5 .byte, interfaces := #[3, 4], accessFlags := 1041 }

/-- the primitive int -/
def k7 : Class := { plain "int" none with kind := .primitive 'I', accessFlags := 0x411 }
/-- [I -/
def k8 : Class := { plain "[I" (some 0) with kind := .array 7 .int, interfaces := #[3, 4], accessFlags := 1041 }

def heap : Heap := #[]
def classes : Array Class := #[k0, k1, k2, k3, k4, k5, k6, k7, k8]
def interned : List (Array UInt16 × Addr) := []
def slotsUsed : Nat := 0
def theMethod : MethodId := ⟨1, 2⟩
def args0 : Array Value := #[.long 5, .int 3, .int 7, .int 1, .long 9]
def aboutOver (below : List Frame) : State where
  vm := { classes := classes, interned := interned.toArray }
  heap := heap
  slotsUsed := slotsUsed
  threads := #[{ frames := .invoking theMethod args0 :: below }]
def below0 : List Frame := [.native { method := ⟨0, 0⟩, args := #[] }]
def about1 : State := aboutOver below0
def p0 : Program := .bare "" "" ""
def e0 : Env := launch0.env 0 0 0
theorem w_frames : about1.frames = Frame.invoking theMethod args0 :: below0 := rfl
set_option maxRecDepth 65536 in
theorem w_args : argsFit about1.vm theMethod args0 = true := by decide +kernel
set_option maxRecDepth 65536 in
theorem w_heap : heapFits about1 = true := by decide +kernel
set_option maxRecDepth 65536 in
theorem w_runnable : about1.curStatus? = some .runnable := by decide +kernel
set_option maxRecDepth 65536 in
theorem w_alone : about1.alone = true := by decide +kernel
set_option maxRecDepth 65536 in
theorem w_named : about1.methodNamed? x = some theMethod := by decide +kernel
set_option maxRecDepth 65536 in
theorem w_hears : about1.hears theMethod below0 = true := by decide +kernel
set_option maxRecDepth 65536 in
theorem w_ripe : about1.ripe theMethod args0 below0 = true := by decide +kernel
theorem w_running : about1.status = .running := rfl
set_option maxRecDepth 65536 in
theorem w_room : about1.hasRoom e0.platform room_1 = true :=
  launch0.hasRoom_least _ room_1 (by decide +kernel) (by decide +kernel) (by decide +kernel) (by decide +kernel) (by decide +kernel) (by decide +kernel)
theorem allAtoms_all (ts : List Jvm.Cond) (a : Array Jvm.Value) (st : Jvm.State) : (allAtoms ts).before a st = ts.all (fun c => c.before a st) := by
  induction ts with
  | nil => rfl
  | cons c t ih =>
    show (Jvm.Cond.and c (allAtoms t)).before a st = _
    rw [Jvm.Cond.before_and, ih, List.all_cons]
def words1 : List Jvm.Cond := Jvm.Cond.code x code maxLocals ret :: tables_1
/-- a 'code' word, met by the world's own term for the bytes: nothing is compared byte by byte -/
theorem code_word {y : MethodName} {bytes : ByteArray} {mx : Nat} {rt : Option FieldType} {a : Array Value} {s : State} {m : MethodId} {meth : Method} {c : Code} (h1 : s.methodNamed? y = some m) (h2 : s.vm.method? m = some meth) (h3 : meth.code = some c) (h4 : c.code = bytes)
    (h5 : (c.maxLocals == mx && c.exceptionTable.isEmpty && decide (c.maxStack ≤ mostOperands) && decide (meth.sig.returnType = rt) && !meth.locks && decide (parseMethodDescriptor y.desc = some meth.sig)) = true) : (Jvm.Cond.code y bytes mx rt).before a s = true := by
  simp only [Bool.and_eq_true, beq_iff_eq, Bool.not_eq_true', decide_eq_true_eq] at h5
  obtain ⟨⟨⟨⟨⟨g1, g2⟩, g3⟩, g4⟩, g5⟩, g6⟩ := h5
  simp [Cond.before, Cond.holds, Cond.value, h1, h2, h3, h4, g1, g2, g3, g4, g5, g6]
def isCode : Jvm.Cond → Bool
  | .code _ _ _ _ => true
  | _ => false
theorem all_split {L : List Jvm.Cond} {P : Jvm.Cond → Bool} (h1 : L.all (fun c => isCode c || P c) = true) (h2 : ∀ c ∈ L.filter isCode, P c = true) : L.all P = true := by
  refine List.all_eq_true.mpr fun c hc => ?_
  have h := List.all_eq_true.mp h1 c hc
  rcases Bool.eq_false_or_eq_true (isCode c) with hi | hi
  · exact h2 c (List.mem_filter.mpr ⟨hc, hi⟩)
  · simpa [hi] using h
set_option maxRecDepth 65536 in
theorem w_c0 : (Jvm.Cond.code x code maxLocals ret).before args0 about1 = true := code_word (m := ⟨1, 2⟩) (meth := k1m2) (c := k1c2) (by decide +kernel) rfl rfl rfl (by decide +kernel)
set_option maxRecDepth 65536 in
theorem w_c1 : (Jvm.Cond.code ({ cls := "com/example/distinguo/distinguo/codec/SevenBitGroupsToLongPinLaw", name := "cell", desc := "(JIIIIJ)B" } : Jvm.MethodName) method_2_code (10 : Nat) (Option.some Jvm.ClassFile.FieldType.byte)).before args0 about1 = true := code_word (m := ⟨1, 1⟩) (meth := k1m1) (c := k1c1) (by decide +kernel) rfl rfl rfl (by decide +kernel)
set_option maxRecDepth 65536 in
theorem w_c2 : (Jvm.Cond.code ({ cls := "com/example/distinguo/distinguo/codec/SevenBitGroups", name := "toLong", desc := "([BII)J" } : Jvm.MethodName) prog_26_method_3_code (6 : Nat) (Option.some Jvm.ClassFile.FieldType.long)).before args0 about1 = true := code_word (m := ⟨2, 1⟩) (meth := k2m1) (c := k2c1) (by decide +kernel) rfl rfl rfl (by decide +kernel)
def codes1 : List Jvm.Cond := [Jvm.Cond.code x code maxLocals ret, Jvm.Cond.code ({ cls := "com/example/distinguo/distinguo/codec/SevenBitGroupsToLongPinLaw", name := "cell", desc := "(JIIIIJ)B" } : Jvm.MethodName) method_2_code (10 : Nat) (Option.some Jvm.ClassFile.FieldType.byte), Jvm.Cond.code ({ cls := "com/example/distinguo/distinguo/codec/SevenBitGroups", name := "toLong", desc := "([BII)J" } : Jvm.MethodName) prog_26_method_3_code (6 : Nat) (Option.some Jvm.ClassFile.FieldType.long)]
set_option maxRecDepth 65536 in
theorem codes_eq : words1.filter isCode = codes1 := rfl
theorem w_codes : ∀ c ∈ words1.filter isCode, c.before args0 about1 = true := by
  rw [codes_eq]
  intro c hc
  simp only [codes1, List.mem_cons, List.not_mem_nil, or_false] at hc
  rcases hc with rfl | rfl | rfl
  · exact w_c0
  · exact w_c1
  · exact w_c2
set_option maxRecDepth 65536 in
theorem w_t1 : words1.all (fun c => isCode c || c.before args0 about1) = true := by decide +kernel
theorem w_tables : (allAtoms (Jvm.Cond.code x code maxLocals ret :: tables_1)).before args0 about1 = true := by
  rw [allAtoms_all]
  show words1.all (fun c => c.before args0 about1) = true
  refine all_split ?_ w_codes
  rw [w_t1]
set_option maxRecDepth 65536 in
theorem w_case : (Jvm.Cond.and given_1 narrow_1).before args0 about1 = true := by decide +kernel
theorem w_applies : (headSpec (Jvm.Cond.code x code maxLocals ret :: tables_1) room_1).applies x e0.platform about1 = true :=
  (Spec.applies_iff w_frames).mpr ⟨w_running, w_runnable, w_alone, w_named, w_hears, w_ripe, w_room, w_tables⟩
theorem atStart : AtStart classFile x code maxLocals ret World_1 tables_1 room_1 Calls_1 rest_1 Pre_1 launch0 p0 e0 about1 theMethod args0 below0 :=
  ⟨lists_1, trivial, launch0.admits_env _ _ _, launch0.least_env, fairChoices_fair.cas, fairChoices_fair.clock, w_frames, w_args, w_heap, w_applies, trivial, trivial, w_case⟩
end start1
theorem witness_1 : WitnessClaimed_1 := ⟨start1.p0, start1.e0, start1.about1, start1.theMethod, start1.args0, start1.below0, start1.atStart⟩
end Jvm.Pilot.@@N@@
