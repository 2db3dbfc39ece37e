import JvmDerived
import JvmDerived.Pilot.@@N@@Statement
import JvmDerived.Pilot.@@N@@Code
set_option linter.unusedVariables false
set_option linter.unusedSimpArgs false
namespace Jvm.RoadKit
open Sem ClassFile Op Lib Jvm.Stand Jvm.Free Jvm.LawKit
section New
variable {p : Program} {l : Launch} {e : Env} {R : Room} {s : State} {m : MethodId} {args : Array Value} {below : List Frame} {meth : Method} {c : Code} {T : State} {locs : List Loc} {cells slots : Nat}
theorem retI (X : Stand p l e R s m args below meth c T locs cells slots) (hx : p.tables.exec = Jvm.exec) {pc : Nat} {Ls : Array Slot} {z : Int32} {rest : List Value} (hret : meth.sig.returnType = some .int) (hd : decode c.code pc = .ok (.ireturn, 1)) {fs : List Frame}
    (hl : ∀ (f : JFrame) (acts : List Action), f.method = m → f.locked = none → f.entered = [] → (doReturn e (T.setTop f) acts (some (.int z))).1 = T.setFrames fs) : Steps p.tables e below (T.setTop (mkF m pc Ls (.int z :: rest))) (T.setFrames fs) := by
  have hm' : T.vm.method? m = some meth := X.method'
  have hn : narrow .int (.int z) = .int z := rfl
  show Steps p.tables e below (T.setTop { method := m, pc := pc, locals := Ls, stack := _ :: rest, locked := none }) _
  jvm_step X.here [X.here.top, hx, hd, hm', hret, hn]
  first | (intro acts; rw [hl _ acts rfl rfl rfl]) | rw [hl _ _ rfl rfl rfl]
  exact Steps.refl _
end New
end Jvm.RoadKit
namespace Jvm.Pilot.@@N@@
open Jvm Jvm.ClassFile Sem Op Lib Jvm.Free Jvm.Stand Jvm.LawKit Jvm.RoadKit Bundle Jvm.Pilot.@@N@@.Jvm.D
section Own
variable {p : Program} {l : Launch} {e : Env} {R : Room} {s : State} {m : MethodId} {args : Array Value} {below : List Frame} {meth : Method} {c : Code} {T : State} {locs : List Loc} {cells slots : Nat}
/-- from the state A the run comes to an end of the invocation of which Q holds -/
def OGo (p : Program) (e : Env) (below : List Frame) (Q : Outcome → State → Prop) (A : State) : Prop :=
  ∃ s₂ o, Steps p.tables e below A s₂ ∧ s₂.status = .running ∧ Ended s₂ below o ∧ Q o s₂
theorem OGo.st {Q : Outcome → State → Prop} {A B : State} (h : ∀ t, Steps p.tables e below B t → Steps p.tables e below A t) (g : OGo p e below Q B) : OGo p e below Q A := by
  obtain ⟨s₂, o, k, r⟩ := g
  exact ⟨s₂, o, h _ k, r⟩
/-- what a contract says of the end -/
def Out (s : State) (cells slots : Nat) (Q : Option Value → Heap → List Loc → Prop) (o : Outcome) (U : State) : Prop :=
  ∃ v L, o = .returned v ∧ Q v U.heap L ∧ FrameEnd s o U L cells slots
/-- it returns the int z (the long z), and the heap is as it was -/
def PI (n0 : Nat) (h0 : Heap) (z : Int32) (v : Option Value) (h : Heap) (L : List Loc) : Prop := v = some (.int z) ∧ Fr n0 L ∧ h = h0
def PJ (n0 : Nat) (h0 : Heap) (z : Int64) (v : Option Value) (h : Heap) (L : List Loc) : Prop := v = some (.long z) ∧ Fr n0 L ∧ h = h0
def PF (n0 : Nat) (z : Int32) (v : Option Value) (h : Heap) (L : List Loc) : Prop := v = some (.int z) ∧ Fr n0 L
theorem OGo.eqvF {C S n0 : Nat} {z z' : Int32} {A : State} (q : z = z') (g : OGo p e below (Out s C S (PF n0 z')) A) : OGo p e below (Out s C S (PF n0 z)) A := q ▸ g
theorem OGo.eqvI {C S n0 : Nat} {h0 : Heap} {z z' : Int32} {A : State} (q : z = z') (g : OGo p e below (Out s C S (PI n0 h0 z')) A) : OGo p e below (Out s C S (PI n0 h0 z)) A := q ▸ g
theorem OGo.eqvJ {C S n0 : Nat} {h0 : Heap} {z z' : Int64} {A : State} (q : z = z') (g : OGo p e below (Out s C S (PJ n0 h0 z')) A) : OGo p e below (Out s C S (PJ n0 h0 z)) A := q ▸ g
theorem OGo.outI (X : Stand p l e R s m args below meth c T locs cells slots) (hx : p.tables.exec = Jvm.exec) (hret : meth.sig.returnType = some .int) (hlk : meth.locks = false) {pc : Nat} {Ls : Array Slot} {z : Int32} {rest : List Value} (hd : decode c.code pc = .ok (.ireturn, 1))
    {Q : Option Value → Heap → List Loc → Prop} {C S : Nat} (hq : Q (some (.int z)) T.heap locs) (hC : cells ≤ C) (hS : slots ≤ S) : OGo p e below (Out s C S Q) (T.setTop (mkF m pc Ls (.int z :: rest))) := by
  obtain ⟨fs, hr, hrun, hended, hW, hsame⟩ := X.leave (v := some (.int z)) (fun h => by rw [hret] at h; cases h) hlk
  exact ⟨_, _, retI X hx hret hd hr, hrun, hended, _, _, rfl, hq, ⟨_, rfl⟩, hW, hsame.mono hC hS⟩
theorem OGo.outN (X : Stand p l e R s m args below meth c T locs cells slots) (hx : p.tables.exec = Jvm.exec) {t : FieldType} (hret : meth.sig.returnType = some t) (ht : t = .boolean ∨ t = .byte ∨ t = .char ∨ t = .short) (hlk : meth.locks = false) {pc : Nat} {Ls : Array Slot} {z : Int32} {rest : List Value} (hd : decode c.code pc = .ok (.ireturn, 1))
    {Q : Option Value → Heap → List Loc → Prop} {C S : Nat} (hq : Q (some (.int (nar t z))) T.heap locs) (hC : cells ≤ C) (hS : slots ≤ S) : OGo p e below (Out s C S Q) (T.setTop (mkF m pc Ls (.int z :: rest))) := by
  obtain ⟨fs, hr, hrun, hended, hW, hsame⟩ := X.leave (v := some (.int (nar t z))) (fun h => by rw [hret] at h; cases h) hlk
  exact ⟨_, _, retN X hx hret ht hd hr, hrun, hended, _, _, rfl, hq, ⟨_, rfl⟩, hW, hsame.mono hC hS⟩
theorem OGo.outJ (X : Stand p l e R s m args below meth c T locs cells slots) (hx : p.tables.exec = Jvm.exec) (hret : meth.sig.returnType = some .long) (hlk : meth.locks = false) {pc : Nat} {Ls : Array Slot} {z : Int64} (hd : decode c.code pc = .ok (.lreturn, 1))
    {Q : Option Value → Heap → List Loc → Prop} {C S : Nat} (hq : Q (some (.long z)) T.heap locs) (hC : cells ≤ C) (hS : slots ≤ S) : OGo p e below (Out s C S Q) (T.setTop (mkF m pc Ls [.long z])) := by
  obtain ⟨fs, hr, hrun, hended, hW, hsame⟩ := X.leave (v := some (.long z)) (fun h => by rw [hret] at h; cases h) hlk
  exact ⟨_, _, X.lreturnOut hx hret hd hr, hrun, hended, _, _, rfl, hq, ⟨_, rfl⟩, hW, hsame.mono hC hS⟩
theorem OGo.outV (X : Stand p l e R s m args below meth c T locs cells slots) (hx : p.tables.exec = Jvm.exec) (hret : meth.sig.returnType = none) (hlk : meth.locks = false) {pc : Nat} {Ls : Array Slot} (hd : decode c.code pc = .ok (.return_, 1))
    {Q : Option Value → Heap → List Loc → Prop} {C S : Nat} (hq : Q none T.heap locs) (hC : cells ≤ C) (hS : slots ≤ S) : OGo p e below (Out s C S Q) (T.setTop (mkF m pc Ls [])) := by
  obtain ⟨fs, hr, hrun, hended, hW, hsame⟩ := X.leave (v := none) (fun _ => rfl) hlk
  exact ⟨_, _, X.returnOut hx hret hd hr, hrun, hended, _, _, rfl, hq, ⟨_, rfl⟩, hW, hsame.mono hC hS⟩
end Own
section OwnH
variable {p : Program} {l : Launch} {e : Env} {R : Room} {s : State} {m : MethodId} {args : Array Value} {below : List Frame} {meth : Method} {c : Code} {T : State} {locs : List Loc} {cells slots : Nat} {Z : State} {a0 : Array Value} {h h' : Heap} {a b : Addr} {ty : FieldType} {n : Nat} {f : Nat → Int32}
def oset (f : Nat → Int32) (k : Nat) (x : Int32) : Nat → Int32 := fun j => if j = k then x else f j
/-- at a lies an array of kind ty, of n places, whose place i holds the int f i -/
def OA (Z : State) (h : Heap) (a : Addr) (ty : FieldType) (n : Nat) (f : Nat → Int32) : Prop := ∃ c : Cell, Arr Z h a c ty ∧ c.slots.size = n ∧ ∀ i, i < n → c.slots[i]? = some (.int (f i))
theorem OA.lt (A : OA Z h a ty n f) : a < h.size := by obtain ⟨c, A, -⟩ := A; exact A.lt
theorem OA.ext (A : OA Z h a ty n f) (E : Ext h h') : OA Z h' a ty n f := by obtain ⟨c, A, r⟩ := A; exact ⟨c, A.ext E, r⟩
theorem OA.other {sl : Nat} {v : Value} (A : OA Z h b ty n f) (W : Wr h h' a sl v) (q : b ≠ a) : OA Z h' b ty n f := by obtain ⟨c, A, r⟩ := A; exact ⟨c, A.other W q, r⟩
theorem OA.keep {ws : List Addr} (A : OA Z h a ty n f) (K : Keep h h' ws) (q : a ∉ ws) : OA Z h' a ty n f := by obtain ⟨c, A, r⟩ := A; exact ⟨c, ⟨K.2.1 a c A.1 q, A.2⟩, r⟩
theorem OA.new {k : ClassId} {z : Int32} (A : Arr Z h a (newA k ty z) ty) (hz : z.toNatClampNeg = n) (hd : defaultValue ty = .int 0) : OA Z h a ty n (fun _ => 0) :=
  ⟨_, A, (sz_new _ _ _).trans hz, fun i hi => by
    have e : (newA k ty z).slots = Array.replicate z.toNatClampNeg (defaultValue ty) := rfl
    rw [e, hz, hd, Array.getElem?_replicate, if_pos hi]⟩
theorem OA.set {k : Nat} {x : Int32} (A : OA Z h a ty n f) (W : Wr h h' a k (.int x)) : OA Z h' a ty n (oset f k x) := by
  obtain ⟨c, A, S, H⟩ := A
  have hs : (c.setSlot k (.int x)).slots = c.slots.setIfInBounds k (.int x) := rfl
  refine ⟨_, A.same W, ?_, fun i hi => ?_⟩
  · rw [hs, Array.size_setIfInBounds, S]
  · rw [hs]
    by_cases q : i = k
    · subst q
      rw [Array.getElem?_setIfInBounds_self_of_lt (by omega)]
      simp [oset]
    · rw [Array.getElem?_setIfInBounds_ne (Ne.symm q), H i hi]
      simp [oset, q]
theorem OA.eqf {g : Nat → Int32} (A : OA Z h a ty n f) (q : ∀ i, i < n → f i = g i) : OA Z h a ty n g := by
  obtain ⟨c, A, S, H⟩ := A
  exact ⟨c, A, S, fun i hi => by rw [H i hi, q i hi]⟩
theorem oin {cl : Cell} {j : Int32} {k : Nat} (S : cl.slots.size = n) (hj : ¬ j < 0) (hk : j.toNatClampNeg = k) (hkn : k < n) : ¬ (j < 0 ∨ cl.slots.size ≤ j.toNatClampNeg) := by
  rintro (q | q)
  · exact hj q
  · rw [S, hk] at q; omega
theorem OA.stI (X : Stand p l e R s m args below meth c T locs cells slots) (hx : p.tables.exec = Jvm.exec) (hZ : Z.Warmed39 s.vm) (eT : T.heap = h) (A : OA Z h a .int n f) {j x : Int32} {k : Nat} (hj : ¬ j < 0) (hk : j.toNatClampNeg = k) (hkn : k < n) {g : JFrame} (hg : g.method = m) {rest : List Value} (hs : g.stack = .int x :: .int j :: .ref a :: rest) (hd : decode c.code g.pc = .ok (.iastore, 1)) :
    ∃ T' h', Stand p l e R s m args below meth c T' (locs ++ [⟨a, k⟩]) cells slots ∧ T'.heap = h' ∧ Wr h h' a k (.int x) ∧ OA Z h' a .int n (oset f k x) ∧ ∀ target, Steps p.tables e below (T'.setTop { g with pc := g.pc + 1, stack := rest }) target → Steps p.tables e below (T.setTop g) target := by
  obtain ⟨cl, Ar, S, H⟩ := A
  obtain ⟨T', h', X', e', W, st⟩ := Jvm.RoadKit.stI X hx hZ eT Ar (j := j) (x := x) (oin S hj hk hkn) hg hs hd
  subst hk
  exact ⟨T', h', X', e', W, OA.set ⟨cl, Ar, S, H⟩ W, st⟩
theorem OA.stB (X : Stand p l e R s m args below meth c T locs cells slots) (hx : p.tables.exec = Jvm.exec) (hZ : Z.Warmed39 s.vm) (eT : T.heap = h) (A : OA Z h a .byte n f) {j x : Int32} {k : Nat} (hj : ¬ j < 0) (hk : j.toNatClampNeg = k) (hkn : k < n) {g : JFrame} (hg : g.method = m) {rest : List Value} (hs : g.stack = .int x :: .int j :: .ref a :: rest) (hd : decode c.code g.pc = .ok (.bastore, 1)) :
    ∃ T' h', Stand p l e R s m args below meth c T' (locs ++ [⟨a, k⟩]) cells slots ∧ T'.heap = h' ∧ Wr h h' a k (.int x.toInt8.toInt32) ∧ OA Z h' a .byte n (oset f k x.toInt8.toInt32) ∧ ∀ target, Steps p.tables e below (T'.setTop { g with pc := g.pc + 1, stack := rest }) target → Steps p.tables e below (T.setTop g) target := by
  obtain ⟨cl, Ar, S, H⟩ := A
  obtain ⟨T', h', X', e', W, st⟩ := Jvm.RoadKit.stB X hx hZ eT Ar (j := j) (x := x) (oin S hj hk hkn) hg hs hd
  subst hk
  exact ⟨T', h', X', e', W, OA.set ⟨cl, Ar, S, H⟩ W, st⟩
theorem OA.ldI (X : Stand p l e R s m args below meth c T locs cells slots) (hx : p.tables.exec = Jvm.exec) (hZ : Z.Warmed39 s.vm) (eT : T.heap = h) (A : OA Z h a .int n f) {j : Int32} {k : Nat} (hj : ¬ j < 0) (hk : j.toNatClampNeg = k) (hkn : k < n) {g : JFrame} (hg : g.method = m) {rest : List Value} (hs : g.stack = .int j :: .ref a :: rest) (hd : decode c.code g.pc = .ok (.iaload, 1)) (target : State)
    (kt : Steps p.tables e below (T.setTop { g with pc := g.pc + 1, stack := .int (f k) :: rest }) target) : Steps p.tables e below (T.setTop g) target := by
  obtain ⟨cl, Ar, S, H⟩ := A
  exact X.iaload hx (j := j) (v := .int (f k)) (by rw [eT]; exact Ar.1) (State.isArrayOf_alike hZ.alike Ar.2.1) Ar.2.2 (oin S hj hk hkn) (by rw [hk]; exact H k hkn) (g := g) hg hs hd target kt
theorem OA.ldB (X : Stand p l e R s m args below meth c T locs cells slots) (hx : p.tables.exec = Jvm.exec) (hZ : Z.Warmed39 s.vm) (eT : T.heap = h) (A : OA Z h a .byte n f) {j : Int32} {k : Nat} (hj : ¬ j < 0) (hk : j.toNatClampNeg = k) (hkn : k < n) {g : JFrame} (hg : g.method = m) {rest : List Value} (hs : g.stack = .int j :: .ref a :: rest) (hd : decode c.code g.pc = .ok (.baload, 1)) (target : State)
    (kt : Steps p.tables e below (T.setTop { g with pc := g.pc + 1, stack := .int (f k) :: rest }) target) : Steps p.tables e below (T.setTop g) target := by
  obtain ⟨cl, Ar, S, H⟩ := A
  exact X.baloadBytes hx (j := j) (v := .int (f k)) (by rw [eT]; exact Ar.1) (State.isArrayOf_alike hZ.alike Ar.2.1) Ar.2.2 (oin S hj hk hkn) (by rw [hk]; exact H k hkn) (g := g) hg hs hd target kt
theorem OA.len (X : Stand p l e R s m args below meth c T locs cells slots) (hx : p.tables.exec = Jvm.exec) (hZ : Z.Warmed39 s.vm) (eT : T.heap = h) (A : OA Z h a ty n f) {z : Int32} (hz : n.toInt32 = z) {g : JFrame} (hg : g.method = m) {rest : List Value} (hs : g.stack = .ref a :: rest) (hd : decode c.code g.pc = .ok (.arraylength, 1)) (target : State)
    (kt : Steps p.tables e below (T.setTop { g with pc := g.pc + 1, stack := .int z :: rest }) target) : Steps p.tables e below (T.setTop g) target := by
  obtain ⟨cl, Ar, S, H⟩ := A
  refine X.arraylength hx (by rw [eT]; exact Ar.1) (State.isArrayOf_alike hZ.alike Ar.2.1) (g := g) hg hs hd target ?_
  rw [S, hz]; exact kt
/-- a private method is the one that is chosen -/
theorem osel {y : MethodName} {k : Nat} (hZ : Z.Warmed39 s.vm) (wi : (Cond.instantiable y.cls k).before a0 Z = true) (wp : (Cond.privateMethod y).before a0 Z = true) (wm : (Cond.instanceMethod y).before a0 Z = true) (hy : y.cls ≠ "java/lang/invoke/MethodHandle" ∧ y.cls ≠ "java/lang/invoke/VarHandle") : (Cond.selects y.cls y y).before args s = true := by
  have w : (Cond.instantiable y.cls k).before args s = true := mv hZ wi
  obtain ⟨cc, kk, h1, h2, h3, h4, -⟩ := Cond.instantiable_spec w
  have h5 : kk.isInterface = false := by
    cases q : kk.isInterface
    · rfl
    · rw [q] at h4; simp at h4
  exact Jvm.Stand.selects_self_of_private h1 h2 h5 (Cond.privateMethod_at (mvP hZ wp (args := args))) (mv hZ wm) hy
end OwnH
def RN (f : Nat → Int32) (n : Nat) : Int32 :=
  if f n < 0 then (if f (n + 1) < 0 then (if f (n + 2) < 0 then (if f (n + 3) < 0 then (if f (n + 4) < 0 then (if f (n + 5) < 0 then (if f (n + 6) < 0 then (if f (n + 7) < 0 then (if f (n + 8) < 0 then 1 else 0) else 0) else 0) else 0) else 0) else 0) else 0) else 0) else 0
def FT (f : Nat → Int32) : Nat → Nat → Int32 → Int32
  | 0, _, _ => 1
  | k + 1, i, r => if f i < 0 then (if r + 1 = 9 then 0 else FT f k (i + 1) (r + 1)) else FT f k (i + 1) 0
theorem own_toInt {n : Nat} (h : n < 1000) : (Int32.ofNat n).toInt = n := toInt_of rfl (by omega)
theorem own_nat {i : Nat} (h : i < 100) : (¬ Int32.ofNat i < 0) ∧ (Int32.ofNat i).toNatClampNeg = i := by
  refine ⟨?_, clamp_of rfl (by omega)⟩
  rw [Int32.lt_iff_toInt_lt, own_toInt (by omega)]
  show ¬ (i : Int) < 0
  omega
theorem own_ix {i j : Nat} (h : i + j < 100) : (¬ (Int32.ofNat i + Int32.ofNat j) < 0) ∧ (Int32.ofNat i + Int32.ofNat j).toNatClampNeg = i + j := by
  have e : Int32.ofNat i + Int32.ofNat j = Int32.ofNat (i + j) := by
    rw [← Int32.toInt_inj, Int32.toInt_add, own_toInt (by omega), own_toInt (by omega), own_toInt (by omega)]
    rw [Int.bmod_eq_of_le (by omega) (by omega)]
    omega
  rw [e]
  exact own_nat h
theorem own_lt {i k : Nat} (h : i + (k + 1) = 13) : Int32.ofNat i < (13 : Int32) := by
  rw [Int32.lt_iff_toInt_lt, own_toInt (by omega)]
  show (i : Int) < 13
  omega
theorem own_nlt {i : Nat} (h : i + 0 = 13) : ¬ Int32.ofNat i < (13 : Int32) := by
  rw [Int32.lt_iff_toInt_lt, own_toInt (by omega)]
  show ¬ (i : Int) < 13
  omega
theorem d1_0 : decode method_3_code 0 = .ok (.lload_n 0, 1) := by decide +kernel
theorem d1_1 : decode method_3_code 1 = .ok (.iload_n 2, 1) := by decide +kernel
theorem d1_2 : decode method_3_code 2 = .ok (.lushr, 1) := by decide +kernel
theorem d1_3 : decode method_3_code 3 = .ok (.ldc2_w 25, 3) := by decide +kernel
theorem d1_6 : decode method_3_code 6 = .ok (.land, 1) := by decide +kernel
theorem d1_7 : decode method_3_code 7 = .ok (.l2i, 1) := by decide +kernel
theorem d1_8 : decode method_3_code 8 = .ok (.istore 5, 2) := by decide +kernel
theorem d1_10 : decode method_3_code 10 = .ok (.iload_n 3, 1) := by decide +kernel
theorem d1_11 : decode method_3_code 11 = .ok (.iload 4, 2) := by decide +kernel
theorem d1_13 : decode method_3_code 13 = .ok (.iushr, 1) := by decide +kernel
theorem d1_14 : decode method_3_code 14 = .ok (.iconst 1, 1) := by decide +kernel
theorem d1_15 : decode method_3_code 15 = .ok (.iand, 1) := by decide +kernel
theorem d1_16 : decode method_3_code 16 = .ok (.ifCond .eq 11, 3) := by decide +kernel
theorem d1_19 : decode method_3_code 19 = .ok (.iload 5, 2) := by decide +kernel
theorem d1_21 : decode method_3_code 21 = .ok (.sipush 128, 3) := by decide +kernel
theorem d1_24 : decode method_3_code 24 = .ok (.ior, 1) := by decide +kernel
theorem d1_25 : decode method_3_code 25 = .ok (.istore 5, 2) := by decide +kernel
theorem d1_27 : decode method_3_code 27 = .ok (.iload 5, 2) := by decide +kernel
theorem d1_29 : decode method_3_code 29 = .ok (.i2b, 1) := by decide +kernel
theorem d1_30 : decode method_3_code 30 = .ok (.ireturn, 1) := by decide +kernel
theorem pn1 : plainName "com/example/distinguo/distinguo/codec/ArcsFitLongsPinLaw" = true := by first | (simp [plainName, overriddenIn]; done) | decide +kernel
theorem ef1 (m : MethodId) (q1 : Int64) (q2 : Int32) (q3 : Int32) (q4 : Int32) : entryFrame m #[(.long q1), (.int q2), (.int q3), (.int q4)] 6 = mkF m 0 #[.val (.long q1), .second, .val (.int q2), .val (.int q3), .val (.int q4), .unset] [] := by first | (simp [entryFrame, mkF, argsToLocals, Value.category]; done) | rfl
def g1_16_1 (q1 : Int64) (q2 : Int32) (q3 : Int32) (q4 : Int32) : Int32 := if (((q3.toUInt32 >>> (q4 &&& 31).toUInt32).toInt32) &&& (1 : Int32)) = (0 : Int32) then (nar .byte (((((q1.toUInt64 >>> (q2 &&& 0x3f).toInt64.toUInt64).toInt64) &&& (255 : Int64)).toInt32).toInt8.toInt32)) else (nar .byte ((((((q1.toUInt64 >>> (q2 &&& 0x3f).toInt64.toUInt64).toInt64) &&& (255 : Int64)).toInt32) ||| (128 : Int32)).toInt8.toInt32))
def f1 (q1 : Int64) (q2 : Int32) (q3 : Int32) (q4 : Int32) : Int32 := (g1_16_1 q1 q2 q3 q4)
set_option maxRecDepth 65536 in
set_option maxHeartbeats 40000000 in
theorem rm1 (l : Launch) (Z : State) (a0 : Array Value) (hw : ∀ d ∈ tables_1, d.before a0 Z = true) (ws : List Jvm.Cond) (q1 : Int64) (q2 : Int32) (q3 : Int32) (q4 : Int32) (h0 : Heap) (n0 : Nat) (Z0 : n0 ≤ h0.size) :
    MetFree l (⟨"com/example/distinguo/distinguo/codec/ArcsFitLongsPinLaw", "octet", "(JIII)B"⟩ : MethodName) (head1 (Jvm.Cond.code (⟨"com/example/distinguo/distinguo/codec/ArcsFitLongsPinLaw", "octet", "(JIII)B"⟩ : MethodName) method_3_code 6 (some .byte) :: ws) ({ frames := 0, cells := 0, slots := 0, locals := 0 } : Room)) (fun a U => a = #[(.long q1), (.int q2), (.int q3), (.int q4)] ∧ Z.Warmed39 U.vm ∧ U.heap = h0) (fun _ _ _ _ _ => True) (fun _ U o U' => ∃ v L, o = .returned v ∧ PI n0 h0 (f1 q1 q2 q3 q4) v U'.heap L ∧ FrameEnd U o U' L ({ frames := 0, cells := 0, slots := 0, locals := 0 } : Room).cells ({ frames := 0, cells := 0, slots := 0, locals := 0 } : Room).slots) := by
  refine MetFree.of_bodySF (plainFor_of_name pn1) hisR ?_
  intro p e s m args below meth c s₁ Bd hml0 hP hK
  obtain ⟨rfl, hZ, hh⟩ := hP
  have hx := Bd.exec
  have hby := Bd.bytes
  have hml : c.maxLocals = 6 := hml0
  have hown : s.vm.findClass "com/example/distinguo/distinguo/codec/ArcsFitLongsPinLaw" = some m.cls := findClass_of_methodNamed Bd.named
  have X0 : Stand p l e ({ frames := 0, cells := 0, slots := 0, locals := 0 } : Room) s m #[(.long q1), (.int q2), (.int q3), (.int q4)] below meth c s₁ [] 0 0 := Stand.of_body Bd
  have e0 : s₁.heap = h0 := by rw [← hh, Bd.state]; rfl
  have N0 := Fr.nil n0
  show OGo p e below (Out s ({ frames := 0, cells := 0, slots := 0, locals := 0 } : Room).cells ({ frames := 0, cells := 0, slots := 0, locals := 0 } : Room).slots (PI n0 h0 (f1 q1 q2 q3 q4))) (s₁.setTop (entryFrame m #[(.long q1), (.int q2), (.int q3), (.int q4)] 6))
  refine OGo.st (fun t k => castTop (ef1 m q1 q2 q3 q4) k) ?_
  show OGo p e below (Out s ({ frames := 0, cells := 0, slots := 0, locals := 0 } : Room).cells ({ frames := 0, cells := 0, slots := 0, locals := 0 } : Room).slots (PI n0 h0 (g1_16_1 q1 q2 q3 q4))) (s₁.setTop (mkF m 0 #[.val (.long q1), .second, .val (.int q2), .val (.int q3), .val (.int q4), .unset] []))
  refine OGo.st (fun t k => XS.lloadN X0.here hx rfl (hb hby d1_0) rfl k) ?_
  show OGo p e below _ (s₁.setTop (mkF m 1 #[.val (.long q1), .second, .val (.int q2), .val (.int q3), .val (.int q4), .unset] [(.long q1)]))
  refine OGo.st (fun t k => XS.iloadN X0.here hx rfl (hb hby d1_1) rfl k) ?_
  show OGo p e below _ (s₁.setTop (mkF m 2 #[.val (.long q1), .second, .val (.int q2), .val (.int q3), .val (.int q4), .unset] [(.int q2), (.long q1)]))
  refine OGo.st (fun t k => XS.lushr X0.here hx rfl (hb hby d1_2) rfl k) ?_
  show OGo p e below _ (s₁.setTop (mkF m 3 #[.val (.long q1), .second, .val (.int q2), .val (.int q3), .val (.int q4), .unset] [(.long ((q1.toUInt64 >>> (q2 &&& 0x3f).toInt64.toUInt64).toInt64))]))
  refine OGo.st (fun t k => X0.ldc2Long hx hown (mvT hZ (hw _ (List.mem_of_getElem? (i := 5) rfl))) (g := (mkF m 3 #[.val (.long q1), .second, .val (.int q2), .val (.int q3), .val (.int q4), .unset] [(.long ((q1.toUInt64 >>> (q2 &&& 0x3f).toInt64.toUInt64).toInt64))])) rfl (hb hby d1_3) t k) ?_
  show OGo p e below _ (s₁.setTop (mkF m 6 #[.val (.long q1), .second, .val (.int q2), .val (.int q3), .val (.int q4), .unset] [(.long (255 : Int64)), (.long ((q1.toUInt64 >>> (q2 &&& 0x3f).toInt64.toUInt64).toInt64))]))
  refine OGo.st (fun t k => XS.land X0.here hx rfl (hb hby d1_6) rfl k) ?_
  show OGo p e below _ (s₁.setTop (mkF m 7 #[.val (.long q1), .second, .val (.int q2), .val (.int q3), .val (.int q4), .unset] [(.long (((q1.toUInt64 >>> (q2 &&& 0x3f).toInt64.toUInt64).toInt64) &&& (255 : Int64)))]))
  refine OGo.st (fun t k => XS.l2i X0.here hx rfl (hb hby d1_7) rfl k) ?_
  show OGo p e below _ (s₁.setTop (mkF m 8 #[.val (.long q1), .second, .val (.int q2), .val (.int q3), .val (.int q4), .unset] [(.int ((((q1.toUInt64 >>> (q2 &&& 0x3f).toInt64.toUInt64).toInt64) &&& (255 : Int64)).toInt32))]))
  refine OGo.st (fun t k => XS.istore X0.here hx rfl (hb hby d1_8) rfl (l' := #[.val (.long q1), .second, .val (.int q2), .val (.int q3), .val (.int q4), .val (.int ((((q1.toUInt64 >>> (q2 &&& 0x3f).toInt64.toUInt64).toInt64) &&& (255 : Int64)).toInt32))]) rfl k) ?_
  show OGo p e below _ (s₁.setTop (mkF m 10 #[.val (.long q1), .second, .val (.int q2), .val (.int q3), .val (.int q4), .val (.int ((((q1.toUInt64 >>> (q2 &&& 0x3f).toInt64.toUInt64).toInt64) &&& (255 : Int64)).toInt32))] []))
  refine OGo.st (fun t k => XS.iloadN X0.here hx rfl (hb hby d1_10) rfl k) ?_
  show OGo p e below _ (s₁.setTop (mkF m 11 #[.val (.long q1), .second, .val (.int q2), .val (.int q3), .val (.int q4), .val (.int ((((q1.toUInt64 >>> (q2 &&& 0x3f).toInt64.toUInt64).toInt64) &&& (255 : Int64)).toInt32))] [(.int q3)]))
  refine OGo.st (fun t k => XS.iload X0.here hx rfl (hb hby d1_11) rfl k) ?_
  show OGo p e below _ (s₁.setTop (mkF m 13 #[.val (.long q1), .second, .val (.int q2), .val (.int q3), .val (.int q4), .val (.int ((((q1.toUInt64 >>> (q2 &&& 0x3f).toInt64.toUInt64).toInt64) &&& (255 : Int64)).toInt32))] [(.int q4), (.int q3)]))
  refine OGo.st (fun t k => XS.iushr X0.here hx rfl (hb hby d1_13) rfl k) ?_
  show OGo p e below _ (s₁.setTop (mkF m 14 #[.val (.long q1), .second, .val (.int q2), .val (.int q3), .val (.int q4), .val (.int ((((q1.toUInt64 >>> (q2 &&& 0x3f).toInt64.toUInt64).toInt64) &&& (255 : Int64)).toInt32))] [(.int ((q3.toUInt32 >>> (q4 &&& 31).toUInt32).toInt32))]))
  refine OGo.st (fun t k => XS.iconst X0.here hx rfl (hb hby d1_14) k) ?_
  show OGo p e below _ (s₁.setTop (mkF m 15 #[.val (.long q1), .second, .val (.int q2), .val (.int q3), .val (.int q4), .val (.int ((((q1.toUInt64 >>> (q2 &&& 0x3f).toInt64.toUInt64).toInt64) &&& (255 : Int64)).toInt32))] [(.int (1 : Int32)), (.int ((q3.toUInt32 >>> (q4 &&& 31).toUInt32).toInt32))]))
  refine OGo.st (fun t k => XS.iand X0.here hx rfl (hb hby d1_15) rfl k) ?_
  show OGo p e below _ (s₁.setTop (mkF m 16 #[.val (.long q1), .second, .val (.int q2), .val (.int q3), .val (.int q4), .val (.int ((((q1.toUInt64 >>> (q2 &&& 0x3f).toInt64.toUInt64).toInt64) &&& (255 : Int64)).toInt32))] [(.int (((q3.toUInt32 >>> (q4 &&& 31).toUInt32).toInt32) &&& (1 : Int32)))]))
  by_cases hc16_1 : (((q3.toUInt32 >>> (q4 &&& 31).toUInt32).toInt32) &&& (1 : Int32)) = (0 : Int32)
  · refine OGo.eqvI (show (g1_16_1 q1 q2 q3 q4) = (nar .byte (((((q1.toUInt64 >>> (q2 &&& 0x3f).toInt64.toUInt64).toInt64) &&& (255 : Int64)).toInt32).toInt8.toInt32)) from if_pos hc16_1) ?_
    refine OGo.st (fun t k => XS.ifYes X0.here hx rfl (pc0 := 16) (pc' := 27) rfl (hb hby d1_16) rfl ((if0 _ _).trans (teq hc16_1).1) (by decide) (by decide) k) ?_
    show OGo p e below _ (s₁.setTop (mkF m 27 #[.val (.long q1), .second, .val (.int q2), .val (.int q3), .val (.int q4), .val (.int ((((q1.toUInt64 >>> (q2 &&& 0x3f).toInt64.toUInt64).toInt64) &&& (255 : Int64)).toInt32))] []))
    refine OGo.st (fun t k => XS.iload X0.here hx rfl (hb hby d1_27) rfl k) ?_
    show OGo p e below _ (s₁.setTop (mkF m 29 #[.val (.long q1), .second, .val (.int q2), .val (.int q3), .val (.int q4), .val (.int ((((q1.toUInt64 >>> (q2 &&& 0x3f).toInt64.toUInt64).toInt64) &&& (255 : Int64)).toInt32))] [(.int ((((q1.toUInt64 >>> (q2 &&& 0x3f).toInt64.toUInt64).toInt64) &&& (255 : Int64)).toInt32))]))
    refine OGo.st (fun t k => XS.i2b X0.here hx rfl (hb hby d1_29) rfl k) ?_
    show OGo p e below _ (s₁.setTop (mkF m 30 #[.val (.long q1), .second, .val (.int q2), .val (.int q3), .val (.int q4), .val (.int ((((q1.toUInt64 >>> (q2 &&& 0x3f).toInt64.toUInt64).toInt64) &&& (255 : Int64)).toInt32))] [(.int (((((q1.toUInt64 >>> (q2 &&& 0x3f).toInt64.toUInt64).toInt64) &&& (255 : Int64)).toInt32).toInt8.toInt32))]))
    exact OGo.outN X0 hx (t := .byte) Bd.returns (by simp) Bd.notSynchronized (hb hby d1_30) ⟨rfl, N0, e0⟩ (by decide) (by decide)
  · refine OGo.eqvI (show (g1_16_1 q1 q2 q3 q4) = (nar .byte ((((((q1.toUInt64 >>> (q2 &&& 0x3f).toInt64.toUInt64).toInt64) &&& (255 : Int64)).toInt32) ||| (128 : Int32)).toInt8.toInt32)) from if_neg hc16_1) ?_
    refine OGo.st (fun t k => XS.ifNo X0.here hx rfl (hb hby d1_16) rfl ((if0 _ _).trans (feq hc16_1).1) k) ?_
    show OGo p e below _ (s₁.setTop (mkF m 19 #[.val (.long q1), .second, .val (.int q2), .val (.int q3), .val (.int q4), .val (.int ((((q1.toUInt64 >>> (q2 &&& 0x3f).toInt64.toUInt64).toInt64) &&& (255 : Int64)).toInt32))] []))
    refine OGo.st (fun t k => XS.iload X0.here hx rfl (hb hby d1_19) rfl k) ?_
    show OGo p e below _ (s₁.setTop (mkF m 21 #[.val (.long q1), .second, .val (.int q2), .val (.int q3), .val (.int q4), .val (.int ((((q1.toUInt64 >>> (q2 &&& 0x3f).toInt64.toUInt64).toInt64) &&& (255 : Int64)).toInt32))] [(.int ((((q1.toUInt64 >>> (q2 &&& 0x3f).toInt64.toUInt64).toInt64) &&& (255 : Int64)).toInt32))]))
    refine OGo.st (fun t k => XS.sipush X0.here hx rfl (hb hby d1_21) k) ?_
    show OGo p e below _ (s₁.setTop (mkF m 24 #[.val (.long q1), .second, .val (.int q2), .val (.int q3), .val (.int q4), .val (.int ((((q1.toUInt64 >>> (q2 &&& 0x3f).toInt64.toUInt64).toInt64) &&& (255 : Int64)).toInt32))] [(.int (128 : Int32)), (.int ((((q1.toUInt64 >>> (q2 &&& 0x3f).toInt64.toUInt64).toInt64) &&& (255 : Int64)).toInt32))]))
    refine OGo.st (fun t k => XS.ior X0.here hx rfl (hb hby d1_24) rfl k) ?_
    show OGo p e below _ (s₁.setTop (mkF m 25 #[.val (.long q1), .second, .val (.int q2), .val (.int q3), .val (.int q4), .val (.int ((((q1.toUInt64 >>> (q2 &&& 0x3f).toInt64.toUInt64).toInt64) &&& (255 : Int64)).toInt32))] [(.int (((((q1.toUInt64 >>> (q2 &&& 0x3f).toInt64.toUInt64).toInt64) &&& (255 : Int64)).toInt32) ||| (128 : Int32)))]))
    refine OGo.st (fun t k => XS.istore X0.here hx rfl (hb hby d1_25) rfl (l' := #[.val (.long q1), .second, .val (.int q2), .val (.int q3), .val (.int q4), .val (.int (((((q1.toUInt64 >>> (q2 &&& 0x3f).toInt64.toUInt64).toInt64) &&& (255 : Int64)).toInt32) ||| (128 : Int32)))]) rfl k) ?_
    show OGo p e below _ (s₁.setTop (mkF m 27 #[.val (.long q1), .second, .val (.int q2), .val (.int q3), .val (.int q4), .val (.int (((((q1.toUInt64 >>> (q2 &&& 0x3f).toInt64.toUInt64).toInt64) &&& (255 : Int64)).toInt32) ||| (128 : Int32)))] []))
    refine OGo.st (fun t k => XS.iload X0.here hx rfl (hb hby d1_27) rfl k) ?_
    show OGo p e below _ (s₁.setTop (mkF m 29 #[.val (.long q1), .second, .val (.int q2), .val (.int q3), .val (.int q4), .val (.int (((((q1.toUInt64 >>> (q2 &&& 0x3f).toInt64.toUInt64).toInt64) &&& (255 : Int64)).toInt32) ||| (128 : Int32)))] [(.int (((((q1.toUInt64 >>> (q2 &&& 0x3f).toInt64.toUInt64).toInt64) &&& (255 : Int64)).toInt32) ||| (128 : Int32)))]))
    refine OGo.st (fun t k => XS.i2b X0.here hx rfl (hb hby d1_29) rfl k) ?_
    show OGo p e below _ (s₁.setTop (mkF m 30 #[.val (.long q1), .second, .val (.int q2), .val (.int q3), .val (.int q4), .val (.int (((((q1.toUInt64 >>> (q2 &&& 0x3f).toInt64.toUInt64).toInt64) &&& (255 : Int64)).toInt32) ||| (128 : Int32)))] [(.int ((((((q1.toUInt64 >>> (q2 &&& 0x3f).toInt64.toUInt64).toInt64) &&& (255 : Int64)).toInt32) ||| (128 : Int32)).toInt8.toInt32))]))
    exact OGo.outN X0 hx (t := .byte) Bd.returns (by simp) Bd.notSynchronized (hb hby d1_30) ⟨rfl, N0, e0⟩ (by decide) (by decide)
theorem d2_0 : decode method_4_code 0 = .ok (.aload_n 0, 1) := by decide +kernel
theorem d2_1 : decode method_4_code 1 = .ok (.iload_n 1, 1) := by decide +kernel
theorem d2_2 : decode method_4_code 2 = .ok (.baload, 1) := by decide +kernel
theorem d2_3 : decode method_4_code 3 = .ok (.ifCond .ge 74, 3) := by decide +kernel
theorem d2_6 : decode method_4_code 6 = .ok (.aload_n 0, 1) := by decide +kernel
theorem d2_7 : decode method_4_code 7 = .ok (.iload_n 1, 1) := by decide +kernel
theorem d2_8 : decode method_4_code 8 = .ok (.iconst 1, 1) := by decide +kernel
theorem d2_9 : decode method_4_code 9 = .ok (.iadd, 1) := by decide +kernel
theorem d2_10 : decode method_4_code 10 = .ok (.baload, 1) := by decide +kernel
theorem d2_11 : decode method_4_code 11 = .ok (.ifCond .ge 66, 3) := by decide +kernel
theorem d2_14 : decode method_4_code 14 = .ok (.aload_n 0, 1) := by decide +kernel
theorem d2_15 : decode method_4_code 15 = .ok (.iload_n 1, 1) := by decide +kernel
theorem d2_16 : decode method_4_code 16 = .ok (.iconst 2, 1) := by decide +kernel
theorem d2_17 : decode method_4_code 17 = .ok (.iadd, 1) := by decide +kernel
theorem d2_18 : decode method_4_code 18 = .ok (.baload, 1) := by decide +kernel
theorem d2_19 : decode method_4_code 19 = .ok (.ifCond .ge 58, 3) := by decide +kernel
theorem d2_22 : decode method_4_code 22 = .ok (.aload_n 0, 1) := by decide +kernel
theorem d2_23 : decode method_4_code 23 = .ok (.iload_n 1, 1) := by decide +kernel
theorem d2_24 : decode method_4_code 24 = .ok (.iconst 3, 1) := by decide +kernel
theorem d2_25 : decode method_4_code 25 = .ok (.iadd, 1) := by decide +kernel
theorem d2_26 : decode method_4_code 26 = .ok (.baload, 1) := by decide +kernel
theorem d2_27 : decode method_4_code 27 = .ok (.ifCond .ge 50, 3) := by decide +kernel
theorem d2_30 : decode method_4_code 30 = .ok (.aload_n 0, 1) := by decide +kernel
theorem d2_31 : decode method_4_code 31 = .ok (.iload_n 1, 1) := by decide +kernel
theorem d2_32 : decode method_4_code 32 = .ok (.iconst 4, 1) := by decide +kernel
theorem d2_33 : decode method_4_code 33 = .ok (.iadd, 1) := by decide +kernel
theorem d2_34 : decode method_4_code 34 = .ok (.baload, 1) := by decide +kernel
theorem d2_35 : decode method_4_code 35 = .ok (.ifCond .ge 42, 3) := by decide +kernel
theorem d2_38 : decode method_4_code 38 = .ok (.aload_n 0, 1) := by decide +kernel
theorem d2_39 : decode method_4_code 39 = .ok (.iload_n 1, 1) := by decide +kernel
theorem d2_40 : decode method_4_code 40 = .ok (.iconst 5, 1) := by decide +kernel
theorem d2_41 : decode method_4_code 41 = .ok (.iadd, 1) := by decide +kernel
theorem d2_42 : decode method_4_code 42 = .ok (.baload, 1) := by decide +kernel
theorem d2_43 : decode method_4_code 43 = .ok (.ifCond .ge 34, 3) := by decide +kernel
theorem d2_46 : decode method_4_code 46 = .ok (.aload_n 0, 1) := by decide +kernel
theorem d2_47 : decode method_4_code 47 = .ok (.iload_n 1, 1) := by decide +kernel
theorem d2_48 : decode method_4_code 48 = .ok (.bipush 6, 2) := by decide +kernel
theorem d2_50 : decode method_4_code 50 = .ok (.iadd, 1) := by decide +kernel
theorem d2_51 : decode method_4_code 51 = .ok (.baload, 1) := by decide +kernel
theorem d2_52 : decode method_4_code 52 = .ok (.ifCond .ge 25, 3) := by decide +kernel
theorem d2_55 : decode method_4_code 55 = .ok (.aload_n 0, 1) := by decide +kernel
theorem d2_56 : decode method_4_code 56 = .ok (.iload_n 1, 1) := by decide +kernel
theorem d2_57 : decode method_4_code 57 = .ok (.bipush 7, 2) := by decide +kernel
theorem d2_59 : decode method_4_code 59 = .ok (.iadd, 1) := by decide +kernel
theorem d2_60 : decode method_4_code 60 = .ok (.baload, 1) := by decide +kernel
theorem d2_61 : decode method_4_code 61 = .ok (.ifCond .ge 16, 3) := by decide +kernel
theorem d2_64 : decode method_4_code 64 = .ok (.aload_n 0, 1) := by decide +kernel
theorem d2_65 : decode method_4_code 65 = .ok (.iload_n 1, 1) := by decide +kernel
theorem d2_66 : decode method_4_code 66 = .ok (.bipush 8, 2) := by decide +kernel
theorem d2_68 : decode method_4_code 68 = .ok (.iadd, 1) := by decide +kernel
theorem d2_69 : decode method_4_code 69 = .ok (.baload, 1) := by decide +kernel
theorem d2_70 : decode method_4_code 70 = .ok (.ifCond .ge 7, 3) := by decide +kernel
theorem d2_73 : decode method_4_code 73 = .ok (.iconst 1, 1) := by decide +kernel
theorem d2_74 : decode method_4_code 74 = .ok (.goto 4, 3) := by decide +kernel
theorem d2_77 : decode method_4_code 77 = .ok (.iconst 0, 1) := by decide +kernel
theorem d2_78 : decode method_4_code 78 = .ok (.ireturn, 1) := by decide +kernel
theorem pn2 : plainName "com/example/distinguo/distinguo/codec/ArcsFitLongsPinLaw" = true := by first | (simp [plainName, overriddenIn]; done) | decide +kernel
theorem ef2 (m : MethodId) (a1 : Addr) (n : Nat) : entryFrame m #[(.ref a1), (.int (Int32.ofNat n))] 2 = mkF m 0 #[.val (.ref a1), .val (.int (Int32.ofNat n))] [] := by first | (simp [entryFrame, mkF, argsToLocals, Value.category]; done) | rfl
set_option maxRecDepth 65536 in
set_option maxHeartbeats 40000000 in
theorem rm2 (l : Launch) (Z : State) (a0 : Array Value) (hw : ∀ d ∈ tables_1, d.before a0 Z = true) (ws : List Jvm.Cond) (a1 : Addr) (n : Nat) (f : Nat → Int32) (h0 : Heap) (n0 : Nat) (Z0 : n0 ≤ h0.size) (O1 : OA Z h0 a1 .byte 13 f) (hbq : n ≤ 4) :
    MetFree l (⟨"com/example/distinguo/distinguo/codec/ArcsFitLongsPinLaw", "runOfNine", "([BI)Z"⟩ : MethodName) (head1 (Jvm.Cond.code (⟨"com/example/distinguo/distinguo/codec/ArcsFitLongsPinLaw", "runOfNine", "([BI)Z"⟩ : MethodName) method_4_code 2 (some .boolean) :: ws) ({ frames := 0, cells := 0, slots := 0, locals := 0 } : Room)) (fun a U => a = #[(.ref a1), (.int (Int32.ofNat n))] ∧ Z.Warmed39 U.vm ∧ U.heap = h0) (fun _ _ _ _ _ => True) (fun _ U o U' => ∃ v L, o = .returned v ∧ PI n0 h0 (RN f n) v U'.heap L ∧ FrameEnd U o U' L ({ frames := 0, cells := 0, slots := 0, locals := 0 } : Room).cells ({ frames := 0, cells := 0, slots := 0, locals := 0 } : Room).slots) := by
  refine MetFree.of_bodySF (plainFor_of_name pn2) hisR ?_
  intro p e s m args below meth c s₁ Bd hml0 hP hK
  obtain ⟨rfl, hZ, hh⟩ := hP
  have hx := Bd.exec
  have hby := Bd.bytes
  have hml : c.maxLocals = 2 := hml0
  have hown : s.vm.findClass "com/example/distinguo/distinguo/codec/ArcsFitLongsPinLaw" = some m.cls := findClass_of_methodNamed Bd.named
  have hnm := (name_of_methodNamed Bd.named Bd.method).1
  have X0 : Stand p l e ({ frames := 0, cells := 0, slots := 0, locals := 0 } : Room) s m #[(.ref a1), (.int (Int32.ofNat n))] below meth c s₁ [] 0 0 := Stand.of_body Bd
  have e0 : s₁.heap = h0 := by rw [← hh, Bd.state]; rfl
  have N0 := Fr.nil n0
  show OGo p e below (Out s ({ frames := 0, cells := 0, slots := 0, locals := 0 } : Room).cells ({ frames := 0, cells := 0, slots := 0, locals := 0 } : Room).slots (PI n0 h0 (RN f n))) (s₁.setTop (entryFrame m #[(.ref a1), (.int (Int32.ofNat n))] 2))
  refine OGo.st (fun t k => castTop (ef2 m a1 n) k) ?_
  show OGo p e below (Out s ({ frames := 0, cells := 0, slots := 0, locals := 0 } : Room).cells ({ frames := 0, cells := 0, slots := 0, locals := 0 } : Room).slots (PI n0 h0 (RN f n))) (s₁.setTop (mkF m 0 #[.val (.ref a1), .val (.int (Int32.ofNat n))] []))
  refine OGo.st (fun t k => XS.aloadN X0.here hx rfl (hb hby d2_0) rfl rfl k) ?_
  show OGo p e below _ (s₁.setTop (mkF m 1 #[.val (.ref a1), .val (.int (Int32.ofNat n))] [(.ref a1)]))
  refine OGo.st (fun t k => XS.iloadN X0.here hx rfl (hb hby d2_1) rfl k) ?_
  show OGo p e below _ (s₁.setTop (mkF m 2 #[.val (.ref a1), .val (.int (Int32.ofNat n))] [(.int (Int32.ofNat n)), (.ref a1)]))
  refine OGo.st (fun t k => OA.ldB X0 hx hZ e0 O1 (j := (Int32.ofNat n)) (k := n) (own_nat (show n < 100 by omega)).1 (own_nat (show n < 100 by omega)).2 (by omega) (g := (mkF m 2 #[.val (.ref a1), .val (.int (Int32.ofNat n))] [(.int (Int32.ofNat n)), (.ref a1)])) rfl rfl (hb hby d2_2) t k) ?_
  show OGo p e below _ (s₁.setTop (mkF m 3 #[.val (.ref a1), .val (.int (Int32.ofNat n))] [(.int (f n))]))
  by_cases hc3_1 : (f n) < (0 : Int32)
  · refine OGo.st (fun t k => XS.ifNo X0.here hx rfl (hb hby d2_3) rfl ((if0 _ _).trans (tlt hc3_1).2.1) k) ?_
    show OGo p e below _ (s₁.setTop (mkF m 6 #[.val (.ref a1), .val (.int (Int32.ofNat n))] []))
    refine OGo.st (fun t k => XS.aloadN X0.here hx rfl (hb hby d2_6) rfl rfl k) ?_
    show OGo p e below _ (s₁.setTop (mkF m 7 #[.val (.ref a1), .val (.int (Int32.ofNat n))] [(.ref a1)]))
    refine OGo.st (fun t k => XS.iloadN X0.here hx rfl (hb hby d2_7) rfl k) ?_
    show OGo p e below _ (s₁.setTop (mkF m 8 #[.val (.ref a1), .val (.int (Int32.ofNat n))] [(.int (Int32.ofNat n)), (.ref a1)]))
    refine OGo.st (fun t k => XS.iconst X0.here hx rfl (hb hby d2_8) k) ?_
    show OGo p e below _ (s₁.setTop (mkF m 9 #[.val (.ref a1), .val (.int (Int32.ofNat n))] [(.int (1 : Int32)), (.int (Int32.ofNat n)), (.ref a1)]))
    refine OGo.st (fun t k => XS.iadd X0.here hx rfl (hb hby d2_9) rfl k) ?_
    show OGo p e below _ (s₁.setTop (mkF m 10 #[.val (.ref a1), .val (.int (Int32.ofNat n))] [(.int ((Int32.ofNat n) + (1 : Int32))), (.ref a1)]))
    refine OGo.st (fun t k => OA.ldB X0 hx hZ e0 O1 (j := ((Int32.ofNat n) + (1 : Int32))) (k := (n + 1)) (own_ix (show n + 1 < 100 by omega)).1 (own_ix (show n + 1 < 100 by omega)).2 (by omega) (g := (mkF m 10 #[.val (.ref a1), .val (.int (Int32.ofNat n))] [(.int ((Int32.ofNat n) + (1 : Int32))), (.ref a1)])) rfl rfl (hb hby d2_10) t k) ?_
    show OGo p e below _ (s₁.setTop (mkF m 11 #[.val (.ref a1), .val (.int (Int32.ofNat n))] [(.int (f (n + 1)))]))
    by_cases hc11_2 : (f (n + 1)) < (0 : Int32)
    · refine OGo.st (fun t k => XS.ifNo X0.here hx rfl (hb hby d2_11) rfl ((if0 _ _).trans (tlt hc11_2).2.1) k) ?_
      show OGo p e below _ (s₁.setTop (mkF m 14 #[.val (.ref a1), .val (.int (Int32.ofNat n))] []))
      refine OGo.st (fun t k => XS.aloadN X0.here hx rfl (hb hby d2_14) rfl rfl k) ?_
      show OGo p e below _ (s₁.setTop (mkF m 15 #[.val (.ref a1), .val (.int (Int32.ofNat n))] [(.ref a1)]))
      refine OGo.st (fun t k => XS.iloadN X0.here hx rfl (hb hby d2_15) rfl k) ?_
      show OGo p e below _ (s₁.setTop (mkF m 16 #[.val (.ref a1), .val (.int (Int32.ofNat n))] [(.int (Int32.ofNat n)), (.ref a1)]))
      refine OGo.st (fun t k => XS.iconst X0.here hx rfl (hb hby d2_16) k) ?_
      show OGo p e below _ (s₁.setTop (mkF m 17 #[.val (.ref a1), .val (.int (Int32.ofNat n))] [(.int (2 : Int32)), (.int (Int32.ofNat n)), (.ref a1)]))
      refine OGo.st (fun t k => XS.iadd X0.here hx rfl (hb hby d2_17) rfl k) ?_
      show OGo p e below _ (s₁.setTop (mkF m 18 #[.val (.ref a1), .val (.int (Int32.ofNat n))] [(.int ((Int32.ofNat n) + (2 : Int32))), (.ref a1)]))
      refine OGo.st (fun t k => OA.ldB X0 hx hZ e0 O1 (j := ((Int32.ofNat n) + (2 : Int32))) (k := (n + 2)) (own_ix (show n + 2 < 100 by omega)).1 (own_ix (show n + 2 < 100 by omega)).2 (by omega) (g := (mkF m 18 #[.val (.ref a1), .val (.int (Int32.ofNat n))] [(.int ((Int32.ofNat n) + (2 : Int32))), (.ref a1)])) rfl rfl (hb hby d2_18) t k) ?_
      show OGo p e below _ (s₁.setTop (mkF m 19 #[.val (.ref a1), .val (.int (Int32.ofNat n))] [(.int (f (n + 2)))]))
      by_cases hc19_3 : (f (n + 2)) < (0 : Int32)
      · refine OGo.st (fun t k => XS.ifNo X0.here hx rfl (hb hby d2_19) rfl ((if0 _ _).trans (tlt hc19_3).2.1) k) ?_
        show OGo p e below _ (s₁.setTop (mkF m 22 #[.val (.ref a1), .val (.int (Int32.ofNat n))] []))
        refine OGo.st (fun t k => XS.aloadN X0.here hx rfl (hb hby d2_22) rfl rfl k) ?_
        show OGo p e below _ (s₁.setTop (mkF m 23 #[.val (.ref a1), .val (.int (Int32.ofNat n))] [(.ref a1)]))
        refine OGo.st (fun t k => XS.iloadN X0.here hx rfl (hb hby d2_23) rfl k) ?_
        show OGo p e below _ (s₁.setTop (mkF m 24 #[.val (.ref a1), .val (.int (Int32.ofNat n))] [(.int (Int32.ofNat n)), (.ref a1)]))
        refine OGo.st (fun t k => XS.iconst X0.here hx rfl (hb hby d2_24) k) ?_
        show OGo p e below _ (s₁.setTop (mkF m 25 #[.val (.ref a1), .val (.int (Int32.ofNat n))] [(.int (3 : Int32)), (.int (Int32.ofNat n)), (.ref a1)]))
        refine OGo.st (fun t k => XS.iadd X0.here hx rfl (hb hby d2_25) rfl k) ?_
        show OGo p e below _ (s₁.setTop (mkF m 26 #[.val (.ref a1), .val (.int (Int32.ofNat n))] [(.int ((Int32.ofNat n) + (3 : Int32))), (.ref a1)]))
        refine OGo.st (fun t k => OA.ldB X0 hx hZ e0 O1 (j := ((Int32.ofNat n) + (3 : Int32))) (k := (n + 3)) (own_ix (show n + 3 < 100 by omega)).1 (own_ix (show n + 3 < 100 by omega)).2 (by omega) (g := (mkF m 26 #[.val (.ref a1), .val (.int (Int32.ofNat n))] [(.int ((Int32.ofNat n) + (3 : Int32))), (.ref a1)])) rfl rfl (hb hby d2_26) t k) ?_
        show OGo p e below _ (s₁.setTop (mkF m 27 #[.val (.ref a1), .val (.int (Int32.ofNat n))] [(.int (f (n + 3)))]))
        by_cases hc27_4 : (f (n + 3)) < (0 : Int32)
        · refine OGo.st (fun t k => XS.ifNo X0.here hx rfl (hb hby d2_27) rfl ((if0 _ _).trans (tlt hc27_4).2.1) k) ?_
          show OGo p e below _ (s₁.setTop (mkF m 30 #[.val (.ref a1), .val (.int (Int32.ofNat n))] []))
          refine OGo.st (fun t k => XS.aloadN X0.here hx rfl (hb hby d2_30) rfl rfl k) ?_
          show OGo p e below _ (s₁.setTop (mkF m 31 #[.val (.ref a1), .val (.int (Int32.ofNat n))] [(.ref a1)]))
          refine OGo.st (fun t k => XS.iloadN X0.here hx rfl (hb hby d2_31) rfl k) ?_
          show OGo p e below _ (s₁.setTop (mkF m 32 #[.val (.ref a1), .val (.int (Int32.ofNat n))] [(.int (Int32.ofNat n)), (.ref a1)]))
          refine OGo.st (fun t k => XS.iconst X0.here hx rfl (hb hby d2_32) k) ?_
          show OGo p e below _ (s₁.setTop (mkF m 33 #[.val (.ref a1), .val (.int (Int32.ofNat n))] [(.int (4 : Int32)), (.int (Int32.ofNat n)), (.ref a1)]))
          refine OGo.st (fun t k => XS.iadd X0.here hx rfl (hb hby d2_33) rfl k) ?_
          show OGo p e below _ (s₁.setTop (mkF m 34 #[.val (.ref a1), .val (.int (Int32.ofNat n))] [(.int ((Int32.ofNat n) + (4 : Int32))), (.ref a1)]))
          refine OGo.st (fun t k => OA.ldB X0 hx hZ e0 O1 (j := ((Int32.ofNat n) + (4 : Int32))) (k := (n + 4)) (own_ix (show n + 4 < 100 by omega)).1 (own_ix (show n + 4 < 100 by omega)).2 (by omega) (g := (mkF m 34 #[.val (.ref a1), .val (.int (Int32.ofNat n))] [(.int ((Int32.ofNat n) + (4 : Int32))), (.ref a1)])) rfl rfl (hb hby d2_34) t k) ?_
          show OGo p e below _ (s₁.setTop (mkF m 35 #[.val (.ref a1), .val (.int (Int32.ofNat n))] [(.int (f (n + 4)))]))
          by_cases hc35_5 : (f (n + 4)) < (0 : Int32)
          · refine OGo.st (fun t k => XS.ifNo X0.here hx rfl (hb hby d2_35) rfl ((if0 _ _).trans (tlt hc35_5).2.1) k) ?_
            show OGo p e below _ (s₁.setTop (mkF m 38 #[.val (.ref a1), .val (.int (Int32.ofNat n))] []))
            refine OGo.st (fun t k => XS.aloadN X0.here hx rfl (hb hby d2_38) rfl rfl k) ?_
            show OGo p e below _ (s₁.setTop (mkF m 39 #[.val (.ref a1), .val (.int (Int32.ofNat n))] [(.ref a1)]))
            refine OGo.st (fun t k => XS.iloadN X0.here hx rfl (hb hby d2_39) rfl k) ?_
            show OGo p e below _ (s₁.setTop (mkF m 40 #[.val (.ref a1), .val (.int (Int32.ofNat n))] [(.int (Int32.ofNat n)), (.ref a1)]))
            refine OGo.st (fun t k => XS.iconst X0.here hx rfl (hb hby d2_40) k) ?_
            show OGo p e below _ (s₁.setTop (mkF m 41 #[.val (.ref a1), .val (.int (Int32.ofNat n))] [(.int (5 : Int32)), (.int (Int32.ofNat n)), (.ref a1)]))
            refine OGo.st (fun t k => XS.iadd X0.here hx rfl (hb hby d2_41) rfl k) ?_
            show OGo p e below _ (s₁.setTop (mkF m 42 #[.val (.ref a1), .val (.int (Int32.ofNat n))] [(.int ((Int32.ofNat n) + (5 : Int32))), (.ref a1)]))
            refine OGo.st (fun t k => OA.ldB X0 hx hZ e0 O1 (j := ((Int32.ofNat n) + (5 : Int32))) (k := (n + 5)) (own_ix (show n + 5 < 100 by omega)).1 (own_ix (show n + 5 < 100 by omega)).2 (by omega) (g := (mkF m 42 #[.val (.ref a1), .val (.int (Int32.ofNat n))] [(.int ((Int32.ofNat n) + (5 : Int32))), (.ref a1)])) rfl rfl (hb hby d2_42) t k) ?_
            show OGo p e below _ (s₁.setTop (mkF m 43 #[.val (.ref a1), .val (.int (Int32.ofNat n))] [(.int (f (n + 5)))]))
            by_cases hc43_6 : (f (n + 5)) < (0 : Int32)
            · refine OGo.st (fun t k => XS.ifNo X0.here hx rfl (hb hby d2_43) rfl ((if0 _ _).trans (tlt hc43_6).2.1) k) ?_
              show OGo p e below _ (s₁.setTop (mkF m 46 #[.val (.ref a1), .val (.int (Int32.ofNat n))] []))
              refine OGo.st (fun t k => XS.aloadN X0.here hx rfl (hb hby d2_46) rfl rfl k) ?_
              show OGo p e below _ (s₁.setTop (mkF m 47 #[.val (.ref a1), .val (.int (Int32.ofNat n))] [(.ref a1)]))
              refine OGo.st (fun t k => XS.iloadN X0.here hx rfl (hb hby d2_47) rfl k) ?_
              show OGo p e below _ (s₁.setTop (mkF m 48 #[.val (.ref a1), .val (.int (Int32.ofNat n))] [(.int (Int32.ofNat n)), (.ref a1)]))
              refine OGo.st (fun t k => XS.bipush X0.here hx rfl (hb hby d2_48) k) ?_
              show OGo p e below _ (s₁.setTop (mkF m 50 #[.val (.ref a1), .val (.int (Int32.ofNat n))] [(.int (6 : Int32)), (.int (Int32.ofNat n)), (.ref a1)]))
              refine OGo.st (fun t k => XS.iadd X0.here hx rfl (hb hby d2_50) rfl k) ?_
              show OGo p e below _ (s₁.setTop (mkF m 51 #[.val (.ref a1), .val (.int (Int32.ofNat n))] [(.int ((Int32.ofNat n) + (6 : Int32))), (.ref a1)]))
              refine OGo.st (fun t k => OA.ldB X0 hx hZ e0 O1 (j := ((Int32.ofNat n) + (6 : Int32))) (k := (n + 6)) (own_ix (show n + 6 < 100 by omega)).1 (own_ix (show n + 6 < 100 by omega)).2 (by omega) (g := (mkF m 51 #[.val (.ref a1), .val (.int (Int32.ofNat n))] [(.int ((Int32.ofNat n) + (6 : Int32))), (.ref a1)])) rfl rfl (hb hby d2_51) t k) ?_
              show OGo p e below _ (s₁.setTop (mkF m 52 #[.val (.ref a1), .val (.int (Int32.ofNat n))] [(.int (f (n + 6)))]))
              by_cases hc52_7 : (f (n + 6)) < (0 : Int32)
              · refine OGo.st (fun t k => XS.ifNo X0.here hx rfl (hb hby d2_52) rfl ((if0 _ _).trans (tlt hc52_7).2.1) k) ?_
                show OGo p e below _ (s₁.setTop (mkF m 55 #[.val (.ref a1), .val (.int (Int32.ofNat n))] []))
                refine OGo.st (fun t k => XS.aloadN X0.here hx rfl (hb hby d2_55) rfl rfl k) ?_
                show OGo p e below _ (s₁.setTop (mkF m 56 #[.val (.ref a1), .val (.int (Int32.ofNat n))] [(.ref a1)]))
                refine OGo.st (fun t k => XS.iloadN X0.here hx rfl (hb hby d2_56) rfl k) ?_
                show OGo p e below _ (s₁.setTop (mkF m 57 #[.val (.ref a1), .val (.int (Int32.ofNat n))] [(.int (Int32.ofNat n)), (.ref a1)]))
                refine OGo.st (fun t k => XS.bipush X0.here hx rfl (hb hby d2_57) k) ?_
                show OGo p e below _ (s₁.setTop (mkF m 59 #[.val (.ref a1), .val (.int (Int32.ofNat n))] [(.int (7 : Int32)), (.int (Int32.ofNat n)), (.ref a1)]))
                refine OGo.st (fun t k => XS.iadd X0.here hx rfl (hb hby d2_59) rfl k) ?_
                show OGo p e below _ (s₁.setTop (mkF m 60 #[.val (.ref a1), .val (.int (Int32.ofNat n))] [(.int ((Int32.ofNat n) + (7 : Int32))), (.ref a1)]))
                refine OGo.st (fun t k => OA.ldB X0 hx hZ e0 O1 (j := ((Int32.ofNat n) + (7 : Int32))) (k := (n + 7)) (own_ix (show n + 7 < 100 by omega)).1 (own_ix (show n + 7 < 100 by omega)).2 (by omega) (g := (mkF m 60 #[.val (.ref a1), .val (.int (Int32.ofNat n))] [(.int ((Int32.ofNat n) + (7 : Int32))), (.ref a1)])) rfl rfl (hb hby d2_60) t k) ?_
                show OGo p e below _ (s₁.setTop (mkF m 61 #[.val (.ref a1), .val (.int (Int32.ofNat n))] [(.int (f (n + 7)))]))
                by_cases hc61_8 : (f (n + 7)) < (0 : Int32)
                · refine OGo.st (fun t k => XS.ifNo X0.here hx rfl (hb hby d2_61) rfl ((if0 _ _).trans (tlt hc61_8).2.1) k) ?_
                  show OGo p e below _ (s₁.setTop (mkF m 64 #[.val (.ref a1), .val (.int (Int32.ofNat n))] []))
                  refine OGo.st (fun t k => XS.aloadN X0.here hx rfl (hb hby d2_64) rfl rfl k) ?_
                  show OGo p e below _ (s₁.setTop (mkF m 65 #[.val (.ref a1), .val (.int (Int32.ofNat n))] [(.ref a1)]))
                  refine OGo.st (fun t k => XS.iloadN X0.here hx rfl (hb hby d2_65) rfl k) ?_
                  show OGo p e below _ (s₁.setTop (mkF m 66 #[.val (.ref a1), .val (.int (Int32.ofNat n))] [(.int (Int32.ofNat n)), (.ref a1)]))
                  refine OGo.st (fun t k => XS.bipush X0.here hx rfl (hb hby d2_66) k) ?_
                  show OGo p e below _ (s₁.setTop (mkF m 68 #[.val (.ref a1), .val (.int (Int32.ofNat n))] [(.int (8 : Int32)), (.int (Int32.ofNat n)), (.ref a1)]))
                  refine OGo.st (fun t k => XS.iadd X0.here hx rfl (hb hby d2_68) rfl k) ?_
                  show OGo p e below _ (s₁.setTop (mkF m 69 #[.val (.ref a1), .val (.int (Int32.ofNat n))] [(.int ((Int32.ofNat n) + (8 : Int32))), (.ref a1)]))
                  refine OGo.st (fun t k => OA.ldB X0 hx hZ e0 O1 (j := ((Int32.ofNat n) + (8 : Int32))) (k := (n + 8)) (own_ix (show n + 8 < 100 by omega)).1 (own_ix (show n + 8 < 100 by omega)).2 (by omega) (g := (mkF m 69 #[.val (.ref a1), .val (.int (Int32.ofNat n))] [(.int ((Int32.ofNat n) + (8 : Int32))), (.ref a1)])) rfl rfl (hb hby d2_69) t k) ?_
                  show OGo p e below _ (s₁.setTop (mkF m 70 #[.val (.ref a1), .val (.int (Int32.ofNat n))] [(.int (f (n + 8)))]))
                  by_cases hc70_9 : (f (n + 8)) < (0 : Int32)
                  · refine OGo.st (fun t k => XS.ifNo X0.here hx rfl (hb hby d2_70) rfl ((if0 _ _).trans (tlt hc70_9).2.1) k) ?_
                    show OGo p e below _ (s₁.setTop (mkF m 73 #[.val (.ref a1), .val (.int (Int32.ofNat n))] []))
                    refine OGo.st (fun t k => XS.iconst X0.here hx rfl (hb hby d2_73) k) ?_
                    show OGo p e below _ (s₁.setTop (mkF m 74 #[.val (.ref a1), .val (.int (Int32.ofNat n))] [(.int (1 : Int32))]))
                    refine OGo.st (fun t k => XS.goto X0.here hx rfl (pc0 := 74) (pc' := 78) rfl (hb hby d2_74) (by decide) (by decide) k) ?_
                    show OGo p e below _ (s₁.setTop (mkF m 78 #[.val (.ref a1), .val (.int (Int32.ofNat n))] [(.int (1 : Int32))]))
                    refine OGo.eqvI (show RN f n = (1 : Int32) from by simp only [RN, hc3_1, hc11_2, hc19_3, hc27_4, hc35_5, hc43_6, hc52_7, hc61_8, hc70_9, if_true, if_false, reduceIte]) ?_
                    exact OGo.outN X0 hx (t := .boolean) Bd.returns (by simp) Bd.notSynchronized (hb hby d2_78) ⟨rfl, N0, e0⟩ (by decide) (by decide)
                  · refine OGo.st (fun t k => XS.ifYes X0.here hx rfl (pc0 := 70) (pc' := 77) rfl (hb hby d2_70) rfl ((if0 _ _).trans (flt hc70_9).2.1) (by decide) (by decide) k) ?_
                    show OGo p e below _ (s₁.setTop (mkF m 77 #[.val (.ref a1), .val (.int (Int32.ofNat n))] []))
                    refine OGo.st (fun t k => XS.iconst X0.here hx rfl (hb hby d2_77) k) ?_
                    show OGo p e below _ (s₁.setTop (mkF m 78 #[.val (.ref a1), .val (.int (Int32.ofNat n))] [(.int (0 : Int32))]))
                    refine OGo.eqvI (show RN f n = (0 : Int32) from by simp only [RN, hc3_1, hc11_2, hc19_3, hc27_4, hc35_5, hc43_6, hc52_7, hc61_8, hc70_9, if_true, if_false, reduceIte]) ?_
                    exact OGo.outN X0 hx (t := .boolean) Bd.returns (by simp) Bd.notSynchronized (hb hby d2_78) ⟨rfl, N0, e0⟩ (by decide) (by decide)
                · refine OGo.st (fun t k => XS.ifYes X0.here hx rfl (pc0 := 61) (pc' := 77) rfl (hb hby d2_61) rfl ((if0 _ _).trans (flt hc61_8).2.1) (by decide) (by decide) k) ?_
                  show OGo p e below _ (s₁.setTop (mkF m 77 #[.val (.ref a1), .val (.int (Int32.ofNat n))] []))
                  refine OGo.st (fun t k => XS.iconst X0.here hx rfl (hb hby d2_77) k) ?_
                  show OGo p e below _ (s₁.setTop (mkF m 78 #[.val (.ref a1), .val (.int (Int32.ofNat n))] [(.int (0 : Int32))]))
                  refine OGo.eqvI (show RN f n = (0 : Int32) from by simp only [RN, hc3_1, hc11_2, hc19_3, hc27_4, hc35_5, hc43_6, hc52_7, hc61_8, if_true, if_false, reduceIte]) ?_
                  exact OGo.outN X0 hx (t := .boolean) Bd.returns (by simp) Bd.notSynchronized (hb hby d2_78) ⟨rfl, N0, e0⟩ (by decide) (by decide)
              · refine OGo.st (fun t k => XS.ifYes X0.here hx rfl (pc0 := 52) (pc' := 77) rfl (hb hby d2_52) rfl ((if0 _ _).trans (flt hc52_7).2.1) (by decide) (by decide) k) ?_
                show OGo p e below _ (s₁.setTop (mkF m 77 #[.val (.ref a1), .val (.int (Int32.ofNat n))] []))
                refine OGo.st (fun t k => XS.iconst X0.here hx rfl (hb hby d2_77) k) ?_
                show OGo p e below _ (s₁.setTop (mkF m 78 #[.val (.ref a1), .val (.int (Int32.ofNat n))] [(.int (0 : Int32))]))
                refine OGo.eqvI (show RN f n = (0 : Int32) from by simp only [RN, hc3_1, hc11_2, hc19_3, hc27_4, hc35_5, hc43_6, hc52_7, if_true, if_false, reduceIte]) ?_
                exact OGo.outN X0 hx (t := .boolean) Bd.returns (by simp) Bd.notSynchronized (hb hby d2_78) ⟨rfl, N0, e0⟩ (by decide) (by decide)
            · refine OGo.st (fun t k => XS.ifYes X0.here hx rfl (pc0 := 43) (pc' := 77) rfl (hb hby d2_43) rfl ((if0 _ _).trans (flt hc43_6).2.1) (by decide) (by decide) k) ?_
              show OGo p e below _ (s₁.setTop (mkF m 77 #[.val (.ref a1), .val (.int (Int32.ofNat n))] []))
              refine OGo.st (fun t k => XS.iconst X0.here hx rfl (hb hby d2_77) k) ?_
              show OGo p e below _ (s₁.setTop (mkF m 78 #[.val (.ref a1), .val (.int (Int32.ofNat n))] [(.int (0 : Int32))]))
              refine OGo.eqvI (show RN f n = (0 : Int32) from by simp only [RN, hc3_1, hc11_2, hc19_3, hc27_4, hc35_5, hc43_6, if_true, if_false, reduceIte]) ?_
              exact OGo.outN X0 hx (t := .boolean) Bd.returns (by simp) Bd.notSynchronized (hb hby d2_78) ⟨rfl, N0, e0⟩ (by decide) (by decide)
          · refine OGo.st (fun t k => XS.ifYes X0.here hx rfl (pc0 := 35) (pc' := 77) rfl (hb hby d2_35) rfl ((if0 _ _).trans (flt hc35_5).2.1) (by decide) (by decide) k) ?_
            show OGo p e below _ (s₁.setTop (mkF m 77 #[.val (.ref a1), .val (.int (Int32.ofNat n))] []))
            refine OGo.st (fun t k => XS.iconst X0.here hx rfl (hb hby d2_77) k) ?_
            show OGo p e below _ (s₁.setTop (mkF m 78 #[.val (.ref a1), .val (.int (Int32.ofNat n))] [(.int (0 : Int32))]))
            refine OGo.eqvI (show RN f n = (0 : Int32) from by simp only [RN, hc3_1, hc11_2, hc19_3, hc27_4, hc35_5, if_true, if_false, reduceIte]) ?_
            exact OGo.outN X0 hx (t := .boolean) Bd.returns (by simp) Bd.notSynchronized (hb hby d2_78) ⟨rfl, N0, e0⟩ (by decide) (by decide)
        · refine OGo.st (fun t k => XS.ifYes X0.here hx rfl (pc0 := 27) (pc' := 77) rfl (hb hby d2_27) rfl ((if0 _ _).trans (flt hc27_4).2.1) (by decide) (by decide) k) ?_
          show OGo p e below _ (s₁.setTop (mkF m 77 #[.val (.ref a1), .val (.int (Int32.ofNat n))] []))
          refine OGo.st (fun t k => XS.iconst X0.here hx rfl (hb hby d2_77) k) ?_
          show OGo p e below _ (s₁.setTop (mkF m 78 #[.val (.ref a1), .val (.int (Int32.ofNat n))] [(.int (0 : Int32))]))
          refine OGo.eqvI (show RN f n = (0 : Int32) from by simp only [RN, hc3_1, hc11_2, hc19_3, hc27_4, if_true, if_false, reduceIte]) ?_
          exact OGo.outN X0 hx (t := .boolean) Bd.returns (by simp) Bd.notSynchronized (hb hby d2_78) ⟨rfl, N0, e0⟩ (by decide) (by decide)
      · refine OGo.st (fun t k => XS.ifYes X0.here hx rfl (pc0 := 19) (pc' := 77) rfl (hb hby d2_19) rfl ((if0 _ _).trans (flt hc19_3).2.1) (by decide) (by decide) k) ?_
        show OGo p e below _ (s₁.setTop (mkF m 77 #[.val (.ref a1), .val (.int (Int32.ofNat n))] []))
        refine OGo.st (fun t k => XS.iconst X0.here hx rfl (hb hby d2_77) k) ?_
        show OGo p e below _ (s₁.setTop (mkF m 78 #[.val (.ref a1), .val (.int (Int32.ofNat n))] [(.int (0 : Int32))]))
        refine OGo.eqvI (show RN f n = (0 : Int32) from by simp only [RN, hc3_1, hc11_2, hc19_3, if_true, if_false, reduceIte]) ?_
        exact OGo.outN X0 hx (t := .boolean) Bd.returns (by simp) Bd.notSynchronized (hb hby d2_78) ⟨rfl, N0, e0⟩ (by decide) (by decide)
    · refine OGo.st (fun t k => XS.ifYes X0.here hx rfl (pc0 := 11) (pc' := 77) rfl (hb hby d2_11) rfl ((if0 _ _).trans (flt hc11_2).2.1) (by decide) (by decide) k) ?_
      show OGo p e below _ (s₁.setTop (mkF m 77 #[.val (.ref a1), .val (.int (Int32.ofNat n))] []))
      refine OGo.st (fun t k => XS.iconst X0.here hx rfl (hb hby d2_77) k) ?_
      show OGo p e below _ (s₁.setTop (mkF m 78 #[.val (.ref a1), .val (.int (Int32.ofNat n))] [(.int (0 : Int32))]))
      refine OGo.eqvI (show RN f n = (0 : Int32) from by simp only [RN, hc3_1, hc11_2, if_true, if_false, reduceIte]) ?_
      exact OGo.outN X0 hx (t := .boolean) Bd.returns (by simp) Bd.notSynchronized (hb hby d2_78) ⟨rfl, N0, e0⟩ (by decide) (by decide)
  · refine OGo.st (fun t k => XS.ifYes X0.here hx rfl (pc0 := 3) (pc' := 77) rfl (hb hby d2_3) rfl ((if0 _ _).trans (flt hc3_1).2.1) (by decide) (by decide) k) ?_
    show OGo p e below _ (s₁.setTop (mkF m 77 #[.val (.ref a1), .val (.int (Int32.ofNat n))] []))
    refine OGo.st (fun t k => XS.iconst X0.here hx rfl (hb hby d2_77) k) ?_
    show OGo p e below _ (s₁.setTop (mkF m 78 #[.val (.ref a1), .val (.int (Int32.ofNat n))] [(.int (0 : Int32))]))
    refine OGo.eqvI (show RN f n = (0 : Int32) from by simp only [RN, hc3_1, if_true, if_false, reduceIte]) ?_
    exact OGo.outN X0 hx (t := .boolean) Bd.returns (by simp) Bd.notSynchronized (hb hby d2_78) ⟨rfl, N0, e0⟩ (by decide) (by decide)
theorem d3_0 : decode prog_43_method_2_code 0 = .ok (.iconst 0, 1) := by decide +kernel
theorem d3_1 : decode prog_43_method_2_code 1 = .ok (.istore_n 1, 1) := by decide +kernel
theorem d3_2 : decode prog_43_method_2_code 2 = .ok (.aload_n 0, 1) := by decide +kernel
theorem d3_3 : decode prog_43_method_2_code 3 = .ok (.astore_n 2, 1) := by decide +kernel
theorem d3_4 : decode prog_43_method_2_code 4 = .ok (.aload_n 2, 1) := by decide +kernel
theorem d3_5 : decode prog_43_method_2_code 5 = .ok (.arraylength, 1) := by decide +kernel
theorem d3_6 : decode prog_43_method_2_code 6 = .ok (.istore_n 3, 1) := by decide +kernel
theorem d3_7 : decode prog_43_method_2_code 7 = .ok (.iconst 0, 1) := by decide +kernel
theorem d3_8 : decode prog_43_method_2_code 8 = .ok (.istore 4, 2) := by decide +kernel
theorem d3_10 : decode prog_43_method_2_code 10 = .ok (.iload 4, 2) := by decide +kernel
theorem d3_12 : decode prog_43_method_2_code 12 = .ok (.iload_n 3, 1) := by decide +kernel
theorem d3_13 : decode prog_43_method_2_code 13 = .ok (.if_icmp .ge 36, 3) := by decide +kernel
theorem d3_16 : decode prog_43_method_2_code 16 = .ok (.aload_n 2, 1) := by decide +kernel
theorem d3_17 : decode prog_43_method_2_code 17 = .ok (.iload 4, 2) := by decide +kernel
theorem d3_19 : decode prog_43_method_2_code 19 = .ok (.baload, 1) := by decide +kernel
theorem d3_20 : decode prog_43_method_2_code 20 = .ok (.istore 5, 2) := by decide +kernel
theorem d3_22 : decode prog_43_method_2_code 22 = .ok (.iload 5, 2) := by decide +kernel
theorem d3_24 : decode prog_43_method_2_code 24 = .ok (.ifCond .ge 9, 3) := by decide +kernel
theorem d3_27 : decode prog_43_method_2_code 27 = .ok (.iload_n 1, 1) := by decide +kernel
theorem d3_28 : decode prog_43_method_2_code 28 = .ok (.iconst 1, 1) := by decide +kernel
theorem d3_29 : decode prog_43_method_2_code 29 = .ok (.iadd, 1) := by decide +kernel
theorem d3_30 : decode prog_43_method_2_code 30 = .ok (.goto 4, 3) := by decide +kernel
theorem d3_33 : decode prog_43_method_2_code 33 = .ok (.iconst 0, 1) := by decide +kernel
theorem d3_34 : decode prog_43_method_2_code 34 = .ok (.istore_n 1, 1) := by decide +kernel
theorem d3_35 : decode prog_43_method_2_code 35 = .ok (.iload_n 1, 1) := by decide +kernel
theorem d3_36 : decode prog_43_method_2_code 36 = .ok (.bipush 9, 2) := by decide +kernel
theorem d3_38 : decode prog_43_method_2_code 38 = .ok (.if_icmp .ne 5, 3) := by decide +kernel
theorem d3_41 : decode prog_43_method_2_code 41 = .ok (.iconst 0, 1) := by decide +kernel
theorem d3_42 : decode prog_43_method_2_code 42 = .ok (.ireturn, 1) := by decide +kernel
theorem d3_43 : decode prog_43_method_2_code 43 = .ok (.iinc 4 1, 3) := by decide +kernel
theorem d3_46 : decode prog_43_method_2_code 46 = .ok (.goto (-36), 3) := by decide +kernel
theorem d3_49 : decode prog_43_method_2_code 49 = .ok (.iconst 1, 1) := by decide +kernel
theorem d3_50 : decode prog_43_method_2_code 50 = .ok (.ireturn, 1) := by decide +kernel
theorem pn3 : plainName "com/example/distinguo/distinguo/codec/UniversalContents$Arcs" = true := by first | (simp [plainName, overriddenIn]; done) | decide +kernel
theorem ef3 (m : MethodId) (a1 : Addr) : entryFrame m #[(.ref a1)] 6 = mkF m 0 #[.val (.ref a1), .unset, .unset, .unset, .unset, .unset] [] := by first | (simp [entryFrame, mkF, argsToLocals, Value.category]; done) | rfl
set_option maxRecDepth 65536 in
set_option maxHeartbeats 40000000 in
theorem rm3 (l : Launch) (Z : State) (a0 : Array Value) (hw : ∀ d ∈ tables_1, d.before a0 Z = true) (ws : List Jvm.Cond) (a1 : Addr) (f : Nat → Int32) (h0 : Heap) (n0 : Nat) (Z0 : n0 ≤ h0.size) (O1 : OA Z h0 a1 .byte 13 f) :
    MetFree l (⟨"com/example/distinguo/distinguo/codec/UniversalContents$Arcs", "fitLongs", "([B)Z"⟩ : MethodName) (head1 (Jvm.Cond.code (⟨"com/example/distinguo/distinguo/codec/UniversalContents$Arcs", "fitLongs", "([B)Z"⟩ : MethodName) prog_43_method_2_code 6 (some .boolean) :: ws) ({ frames := 0, cells := 0, slots := 0, locals := 0 } : Room)) (fun a U => a = #[(.ref a1)] ∧ Z.Warmed39 U.vm ∧ U.heap = h0) (fun _ _ _ _ _ => True) (fun _ U o U' => ∃ v L, o = .returned v ∧ PI n0 h0 (FT f 13 0 0) v U'.heap L ∧ FrameEnd U o U' L ({ frames := 0, cells := 0, slots := 0, locals := 0 } : Room).cells ({ frames := 0, cells := 0, slots := 0, locals := 0 } : Room).slots) := by
  refine MetFree.of_bodySF (plainFor_of_name pn3) hisR ?_
  intro p e s m args below meth c s₁ Bd hml0 hP hK
  obtain ⟨rfl, hZ, hh⟩ := hP
  have hx := Bd.exec
  have hby := Bd.bytes
  have hml : c.maxLocals = 6 := hml0
  have hown : s.vm.findClass "com/example/distinguo/distinguo/codec/UniversalContents$Arcs" = some m.cls := findClass_of_methodNamed Bd.named
  have hnm := (name_of_methodNamed Bd.named Bd.method).1
  have X0 : Stand p l e ({ frames := 0, cells := 0, slots := 0, locals := 0 } : Room) s m #[(.ref a1)] below meth c s₁ [] 0 0 := Stand.of_body Bd
  have e0 : s₁.heap = h0 := by rw [← hh, Bd.state]; rfl
  have N0 := Fr.nil n0
  show OGo p e below (Out s ({ frames := 0, cells := 0, slots := 0, locals := 0 } : Room).cells ({ frames := 0, cells := 0, slots := 0, locals := 0 } : Room).slots (PI n0 h0 (FT f 13 0 0))) (s₁.setTop (entryFrame m #[(.ref a1)] 6))
  have J10 : ∀ (k i : Nat) (r : Int32) (hik : i + k = 13) (u5 : Slot) (h_u5 : u5 = .unset ∨ ∃ w, u5 = .val w ∧ w.category = 1), OGo p e below (Out s ({ frames := 0, cells := 0, slots := 0, locals := 0 } : Room).cells ({ frames := 0, cells := 0, slots := 0, locals := 0 } : Room).slots (PI n0 h0 (FT f k i r))) (s₁.setTop (mkF m 10 #[.val (.ref a1), .val (.int r), .val (.ref a1), .val (.int (13 : Int32)), .val (.int (Int32.ofNat i)), u5] [])) := by
    intro k
    induction k with
    | zero =>
      intro i r hik u5 h_u5
      show OGo p e below (Out s ({ frames := 0, cells := 0, slots := 0, locals := 0 } : Room).cells ({ frames := 0, cells := 0, slots := 0, locals := 0 } : Room).slots (PI n0 h0 1)) (s₁.setTop (mkF m 10 #[.val (.ref a1), .val (.int r), .val (.ref a1), .val (.int (13 : Int32)), .val (.int (Int32.ofNat i)), u5] []))
      refine OGo.st (fun t k => XS.iload X0.here hx rfl (hb hby d3_10) rfl k) ?_
      show OGo p e below _ (s₁.setTop (mkF m 12 #[.val (.ref a1), .val (.int r), .val (.ref a1), .val (.int (13 : Int32)), .val (.int (Int32.ofNat i)), u5] [(.int (Int32.ofNat i))]))
      refine OGo.st (fun t k => XS.iloadN X0.here hx rfl (hb hby d3_12) rfl k) ?_
      show OGo p e below _ (s₁.setTop (mkF m 13 #[.val (.ref a1), .val (.int r), .val (.ref a1), .val (.int (13 : Int32)), .val (.int (Int32.ofNat i)), u5] [(.int (13 : Int32)), (.int (Int32.ofNat i))]))
      refine OGo.st (fun t k => XS.icmpYes X0.here hx rfl (pc0 := 13) (pc' := 49) rfl (hb hby d3_13) rfl (flt (own_nlt hik)).2.1 (by decide) (by decide) k) ?_
      show OGo p e below _ (s₁.setTop (mkF m 49 #[.val (.ref a1), .val (.int r), .val (.ref a1), .val (.int (13 : Int32)), .val (.int (Int32.ofNat i)), u5] []))
      refine OGo.st (fun t k => XS.iconst X0.here hx rfl (hb hby d3_49) k) ?_
      show OGo p e below _ (s₁.setTop (mkF m 50 #[.val (.ref a1), .val (.int r), .val (.ref a1), .val (.int (13 : Int32)), .val (.int (Int32.ofNat i)), u5] [(.int (1 : Int32))]))
      exact OGo.outN X0 hx (t := .boolean) Bd.returns (by simp) Bd.notSynchronized (hb hby d3_50) ⟨rfl, N0, e0⟩ (by decide) (by decide)
    | succ k ih =>
      intro i r hik u5 h_u5
      refine OGo.st (fun t k => XS.iload X0.here hx rfl (hb hby d3_10) rfl k) ?_
      show OGo p e below _ (s₁.setTop (mkF m 12 #[.val (.ref a1), .val (.int r), .val (.ref a1), .val (.int (13 : Int32)), .val (.int (Int32.ofNat i)), u5] [(.int (Int32.ofNat i))]))
      refine OGo.st (fun t k => XS.iloadN X0.here hx rfl (hb hby d3_12) rfl k) ?_
      show OGo p e below _ (s₁.setTop (mkF m 13 #[.val (.ref a1), .val (.int r), .val (.ref a1), .val (.int (13 : Int32)), .val (.int (Int32.ofNat i)), u5] [(.int (13 : Int32)), (.int (Int32.ofNat i))]))
      refine OGo.st (fun t k => XS.icmpNo X0.here hx rfl (hb hby d3_13) rfl (tlt (own_lt hik)).2.1 k) ?_
      show OGo p e below _ (s₁.setTop (mkF m 16 #[.val (.ref a1), .val (.int r), .val (.ref a1), .val (.int (13 : Int32)), .val (.int (Int32.ofNat i)), u5] []))
      refine OGo.st (fun t k => XS.aloadN X0.here hx rfl (hb hby d3_16) rfl rfl k) ?_
      show OGo p e below _ (s₁.setTop (mkF m 17 #[.val (.ref a1), .val (.int r), .val (.ref a1), .val (.int (13 : Int32)), .val (.int (Int32.ofNat i)), u5] [(.ref a1)]))
      refine OGo.st (fun t k => XS.iload X0.here hx rfl (hb hby d3_17) rfl k) ?_
      show OGo p e below _ (s₁.setTop (mkF m 19 #[.val (.ref a1), .val (.int r), .val (.ref a1), .val (.int (13 : Int32)), .val (.int (Int32.ofNat i)), u5] [(.int (Int32.ofNat i)), (.ref a1)]))
      refine OGo.st (fun t k => OA.ldB X0 hx hZ e0 O1 (j := (Int32.ofNat i)) (k := i) (own_nat (show i < 100 by omega)).1 (own_nat (show i < 100 by omega)).2 (by omega) (g := (mkF m 19 #[.val (.ref a1), .val (.int r), .val (.ref a1), .val (.int (13 : Int32)), .val (.int (Int32.ofNat i)), u5] [(.int (Int32.ofNat i)), (.ref a1)])) rfl rfl (hb hby d3_19) t k) ?_
      show OGo p e below _ (s₁.setTop (mkF m 20 #[.val (.ref a1), .val (.int r), .val (.ref a1), .val (.int (13 : Int32)), .val (.int (Int32.ofNat i)), u5] [(.int (f i))]))
      refine OGo.st (fun t k => XS.istoreS X0.here hx rfl (hb hby d3_20) rfl rfl h_u5 k) ?_
      show OGo p e below _ (s₁.setTop (mkF m 22 #[.val (.ref a1), .val (.int r), .val (.ref a1), .val (.int (13 : Int32)), .val (.int (Int32.ofNat i)), .val (.int (f i))] []))
      refine OGo.st (fun t k => XS.iload X0.here hx rfl (hb hby d3_22) rfl k) ?_
      show OGo p e below _ (s₁.setTop (mkF m 24 #[.val (.ref a1), .val (.int r), .val (.ref a1), .val (.int (13 : Int32)), .val (.int (Int32.ofNat i)), .val (.int (f i))] [(.int (f i))]))
      by_cases hc24_1 : (f i) < (0 : Int32)
      · refine OGo.st (fun t k => XS.ifNo X0.here hx rfl (hb hby d3_24) rfl ((if0 _ _).trans (tlt hc24_1).2.1) k) ?_
        show OGo p e below _ (s₁.setTop (mkF m 27 #[.val (.ref a1), .val (.int r), .val (.ref a1), .val (.int (13 : Int32)), .val (.int (Int32.ofNat i)), .val (.int (f i))] []))
        refine OGo.st (fun t k => XS.iloadN X0.here hx rfl (hb hby d3_27) rfl k) ?_
        show OGo p e below _ (s₁.setTop (mkF m 28 #[.val (.ref a1), .val (.int r), .val (.ref a1), .val (.int (13 : Int32)), .val (.int (Int32.ofNat i)), .val (.int (f i))] [(.int r)]))
        refine OGo.st (fun t k => XS.iconst X0.here hx rfl (hb hby d3_28) k) ?_
        show OGo p e below _ (s₁.setTop (mkF m 29 #[.val (.ref a1), .val (.int r), .val (.ref a1), .val (.int (13 : Int32)), .val (.int (Int32.ofNat i)), .val (.int (f i))] [(.int (1 : Int32)), (.int r)]))
        refine OGo.st (fun t k => XS.iadd X0.here hx rfl (hb hby d3_29) rfl k) ?_
        show OGo p e below _ (s₁.setTop (mkF m 30 #[.val (.ref a1), .val (.int r), .val (.ref a1), .val (.int (13 : Int32)), .val (.int (Int32.ofNat i)), .val (.int (f i))] [(.int (r + (1 : Int32)))]))
        refine OGo.st (fun t k => XS.goto X0.here hx rfl (pc0 := 30) (pc' := 34) rfl (hb hby d3_30) (by decide) (by decide) k) ?_
        show OGo p e below _ (s₁.setTop (mkF m 34 #[.val (.ref a1), .val (.int r), .val (.ref a1), .val (.int (13 : Int32)), .val (.int (Int32.ofNat i)), .val (.int (f i))] [(.int (r + (1 : Int32)))]))
        refine OGo.st (fun t k => XS.istoreN X0.here hx rfl (hb hby d3_34) rfl (l' := #[.val (.ref a1), .val (.int (r + (1 : Int32))), .val (.ref a1), .val (.int (13 : Int32)), .val (.int (Int32.ofNat i)), .val (.int (f i))]) rfl k) ?_
        show OGo p e below _ (s₁.setTop (mkF m 35 #[.val (.ref a1), .val (.int (r + (1 : Int32))), .val (.ref a1), .val (.int (13 : Int32)), .val (.int (Int32.ofNat i)), .val (.int (f i))] []))
        refine OGo.st (fun t k => XS.iloadN X0.here hx rfl (hb hby d3_35) rfl k) ?_
        show OGo p e below _ (s₁.setTop (mkF m 36 #[.val (.ref a1), .val (.int (r + (1 : Int32))), .val (.ref a1), .val (.int (13 : Int32)), .val (.int (Int32.ofNat i)), .val (.int (f i))] [(.int (r + (1 : Int32)))]))
        refine OGo.st (fun t k => XS.bipush X0.here hx rfl (hb hby d3_36) k) ?_
        show OGo p e below _ (s₁.setTop (mkF m 38 #[.val (.ref a1), .val (.int (r + (1 : Int32))), .val (.ref a1), .val (.int (13 : Int32)), .val (.int (Int32.ofNat i)), .val (.int (f i))] [(.int (9 : Int32)), (.int (r + (1 : Int32)))]))
        by_cases hc38_2 : (r + (1 : Int32)) = (9 : Int32)
        · refine OGo.st (fun t k => XS.icmpNo X0.here hx rfl (hb hby d3_38) rfl (teq hc38_2).2 k) ?_
          show OGo p e below _ (s₁.setTop (mkF m 41 #[.val (.ref a1), .val (.int (r + (1 : Int32))), .val (.ref a1), .val (.int (13 : Int32)), .val (.int (Int32.ofNat i)), .val (.int (f i))] []))
          refine OGo.st (fun t k => XS.iconst X0.here hx rfl (hb hby d3_41) k) ?_
          show OGo p e below _ (s₁.setTop (mkF m 42 #[.val (.ref a1), .val (.int (r + (1 : Int32))), .val (.ref a1), .val (.int (13 : Int32)), .val (.int (Int32.ofNat i)), .val (.int (f i))] [(.int (0 : Int32))]))
          refine OGo.eqvI (show FT f (k + 1) i r = (0 : Int32) from by simp only [FT, hc24_1, hc38_2, if_true, if_false, reduceIte]) ?_
          exact OGo.outN X0 hx (t := .boolean) Bd.returns (by simp) Bd.notSynchronized (hb hby d3_42) ⟨rfl, N0, e0⟩ (by decide) (by decide)
        · refine OGo.st (fun t k => XS.icmpYes X0.here hx rfl (pc0 := 38) (pc' := 43) rfl (hb hby d3_38) rfl (feq hc38_2).2 (by decide) (by decide) k) ?_
          show OGo p e below _ (s₁.setTop (mkF m 43 #[.val (.ref a1), .val (.int (r + (1 : Int32))), .val (.ref a1), .val (.int (13 : Int32)), .val (.int (Int32.ofNat i)), .val (.int (f i))] []))
          refine OGo.st (fun t k => XS.iinc X0.here hx rfl (hb hby d3_43) rfl (l' := #[.val (.ref a1), .val (.int (r + (1 : Int32))), .val (.ref a1), .val (.int (13 : Int32)), .val (.int ((Int32.ofNat i) + (1 : Int32))), .val (.int (f i))]) rfl k) ?_
          show OGo p e below _ (s₁.setTop (mkF m 46 #[.val (.ref a1), .val (.int (r + (1 : Int32))), .val (.ref a1), .val (.int (13 : Int32)), .val (.int ((Int32.ofNat i) + (1 : Int32))), .val (.int (f i))] []))
          refine OGo.st (fun t k => XS.goto X0.here hx rfl (pc0 := 46) (pc' := 10) rfl (hb hby d3_46) (by decide) (by decide) k) ?_
          show OGo p e below _ (s₁.setTop (mkF m 10 #[.val (.ref a1), .val (.int (r + (1 : Int32))), .val (.ref a1), .val (.int (13 : Int32)), .val (.int ((Int32.ofNat i) + (1 : Int32))), .val (.int (f i))] []))
          rw [show (Int32.ofNat i + (1 : Int32)) = Int32.ofNat (i + 1) from (inc_ofNat i).symm]
          refine OGo.eqvI (show FT f (k + 1) i r = FT f k (i + 1) (r + (1 : Int32)) from by simp only [FT, hc24_1, hc38_2, if_true, if_false, reduceIte]) ?_
          exact ih (i + 1) _ (by omega) _ (Or.inr ⟨_, rfl, rfl⟩)
      · refine OGo.st (fun t k => XS.ifYes X0.here hx rfl (pc0 := 24) (pc' := 33) rfl (hb hby d3_24) rfl ((if0 _ _).trans (flt hc24_1).2.1) (by decide) (by decide) k) ?_
        show OGo p e below _ (s₁.setTop (mkF m 33 #[.val (.ref a1), .val (.int r), .val (.ref a1), .val (.int (13 : Int32)), .val (.int (Int32.ofNat i)), .val (.int (f i))] []))
        refine OGo.st (fun t k => XS.iconst X0.here hx rfl (hb hby d3_33) k) ?_
        show OGo p e below _ (s₁.setTop (mkF m 34 #[.val (.ref a1), .val (.int r), .val (.ref a1), .val (.int (13 : Int32)), .val (.int (Int32.ofNat i)), .val (.int (f i))] [(.int (0 : Int32))]))
        refine OGo.st (fun t k => XS.istoreN X0.here hx rfl (hb hby d3_34) rfl (l' := #[.val (.ref a1), .val (.int (0 : Int32)), .val (.ref a1), .val (.int (13 : Int32)), .val (.int (Int32.ofNat i)), .val (.int (f i))]) rfl k) ?_
        show OGo p e below _ (s₁.setTop (mkF m 35 #[.val (.ref a1), .val (.int (0 : Int32)), .val (.ref a1), .val (.int (13 : Int32)), .val (.int (Int32.ofNat i)), .val (.int (f i))] []))
        refine OGo.st (fun t k => XS.iloadN X0.here hx rfl (hb hby d3_35) rfl k) ?_
        show OGo p e below _ (s₁.setTop (mkF m 36 #[.val (.ref a1), .val (.int (0 : Int32)), .val (.ref a1), .val (.int (13 : Int32)), .val (.int (Int32.ofNat i)), .val (.int (f i))] [(.int (0 : Int32))]))
        refine OGo.st (fun t k => XS.bipush X0.here hx rfl (hb hby d3_36) k) ?_
        show OGo p e below _ (s₁.setTop (mkF m 38 #[.val (.ref a1), .val (.int (0 : Int32)), .val (.ref a1), .val (.int (13 : Int32)), .val (.int (Int32.ofNat i)), .val (.int (f i))] [(.int (9 : Int32)), (.int (0 : Int32))]))
        refine OGo.st (fun t k => XS.icmpYes X0.here hx rfl (pc0 := 38) (pc' := 43) rfl (hb hby d3_38) rfl (feq (by decide : ¬ ((0 : Int32) = (9 : Int32)))).2 (by decide) (by decide) k) ?_
        show OGo p e below _ (s₁.setTop (mkF m 43 #[.val (.ref a1), .val (.int (0 : Int32)), .val (.ref a1), .val (.int (13 : Int32)), .val (.int (Int32.ofNat i)), .val (.int (f i))] []))
        refine OGo.st (fun t k => XS.iinc X0.here hx rfl (hb hby d3_43) rfl (l' := #[.val (.ref a1), .val (.int (0 : Int32)), .val (.ref a1), .val (.int (13 : Int32)), .val (.int ((Int32.ofNat i) + (1 : Int32))), .val (.int (f i))]) rfl k) ?_
        show OGo p e below _ (s₁.setTop (mkF m 46 #[.val (.ref a1), .val (.int (0 : Int32)), .val (.ref a1), .val (.int (13 : Int32)), .val (.int ((Int32.ofNat i) + (1 : Int32))), .val (.int (f i))] []))
        refine OGo.st (fun t k => XS.goto X0.here hx rfl (pc0 := 46) (pc' := 10) rfl (hb hby d3_46) (by decide) (by decide) k) ?_
        show OGo p e below _ (s₁.setTop (mkF m 10 #[.val (.ref a1), .val (.int (0 : Int32)), .val (.ref a1), .val (.int (13 : Int32)), .val (.int ((Int32.ofNat i) + (1 : Int32))), .val (.int (f i))] []))
        rw [show (Int32.ofNat i + (1 : Int32)) = Int32.ofNat (i + 1) from (inc_ofNat i).symm]
        refine OGo.eqvI (show FT f (k + 1) i r = FT f k (i + 1) (0 : Int32) from by simp only [FT, hc24_1, if_true, if_false, reduceIte]) ?_
        exact ih (i + 1) _ (by omega) _ (Or.inr ⟨_, rfl, rfl⟩)
  refine OGo.st (fun t k => castTop (ef3 m a1) k) ?_
  show OGo p e below (Out s ({ frames := 0, cells := 0, slots := 0, locals := 0 } : Room).cells ({ frames := 0, cells := 0, slots := 0, locals := 0 } : Room).slots (PI n0 h0 (FT f 13 0 0))) (s₁.setTop (mkF m 0 #[.val (.ref a1), .unset, .unset, .unset, .unset, .unset] []))
  refine OGo.st (fun t k => XS.iconst X0.here hx rfl (hb hby d3_0) k) ?_
  show OGo p e below _ (s₁.setTop (mkF m 1 #[.val (.ref a1), .unset, .unset, .unset, .unset, .unset] [(.int (0 : Int32))]))
  refine OGo.st (fun t k => XS.istoreN X0.here hx rfl (hb hby d3_1) rfl (l' := #[.val (.ref a1), .val (.int (0 : Int32)), .unset, .unset, .unset, .unset]) rfl k) ?_
  show OGo p e below _ (s₁.setTop (mkF m 2 #[.val (.ref a1), .val (.int (0 : Int32)), .unset, .unset, .unset, .unset] []))
  refine OGo.st (fun t k => XS.aloadN X0.here hx rfl (hb hby d3_2) rfl rfl k) ?_
  show OGo p e below _ (s₁.setTop (mkF m 3 #[.val (.ref a1), .val (.int (0 : Int32)), .unset, .unset, .unset, .unset] [(.ref a1)]))
  refine OGo.st (fun t k => XS.astoreN X0.here hx rfl (hb hby d3_3) rfl rfl (l' := #[.val (.ref a1), .val (.int (0 : Int32)), .val (.ref a1), .unset, .unset, .unset]) rfl k) ?_
  show OGo p e below _ (s₁.setTop (mkF m 4 #[.val (.ref a1), .val (.int (0 : Int32)), .val (.ref a1), .unset, .unset, .unset] []))
  refine OGo.st (fun t k => XS.aloadN X0.here hx rfl (hb hby d3_4) rfl rfl k) ?_
  show OGo p e below _ (s₁.setTop (mkF m 5 #[.val (.ref a1), .val (.int (0 : Int32)), .val (.ref a1), .unset, .unset, .unset] [(.ref a1)]))
  refine OGo.st (fun t k => OA.len X0 hx hZ e0 O1 (z := (13 : Int32)) (by decide) (g := (mkF m 5 #[.val (.ref a1), .val (.int (0 : Int32)), .val (.ref a1), .unset, .unset, .unset] [(.ref a1)])) rfl rfl (hb hby d3_5) t k) ?_
  show OGo p e below _ (s₁.setTop (mkF m 6 #[.val (.ref a1), .val (.int (0 : Int32)), .val (.ref a1), .unset, .unset, .unset] [(.int (13 : Int32))]))
  refine OGo.st (fun t k => XS.istoreN X0.here hx rfl (hb hby d3_6) rfl (l' := #[.val (.ref a1), .val (.int (0 : Int32)), .val (.ref a1), .val (.int (13 : Int32)), .unset, .unset]) rfl k) ?_
  show OGo p e below _ (s₁.setTop (mkF m 7 #[.val (.ref a1), .val (.int (0 : Int32)), .val (.ref a1), .val (.int (13 : Int32)), .unset, .unset] []))
  refine OGo.st (fun t k => XS.iconst X0.here hx rfl (hb hby d3_7) k) ?_
  show OGo p e below _ (s₁.setTop (mkF m 8 #[.val (.ref a1), .val (.int (0 : Int32)), .val (.ref a1), .val (.int (13 : Int32)), .unset, .unset] [(.int (0 : Int32))]))
  refine OGo.st (fun t k => XS.istore X0.here hx rfl (hb hby d3_8) rfl (l' := #[.val (.ref a1), .val (.int (0 : Int32)), .val (.ref a1), .val (.int (13 : Int32)), .val (.int (0 : Int32)), .unset]) rfl k) ?_
  show OGo p e below _ (s₁.setTop (mkF m 10 #[.val (.ref a1), .val (.int (0 : Int32)), .val (.ref a1), .val (.int (13 : Int32)), .val (.int (0 : Int32)), .unset] []))
  exact J10 13 0 0 rfl _ (Or.inl rfl)
def own_FB : List Bool → Nat → Bool
  | [], _ => true
  | b :: bs, r => if b then (if r + 1 = 9 then false else own_FB bs (r + 1)) else own_FB bs 0
def own_L (f : Nat → Int32) : Nat → Nat → List Bool
  | 0, _ => []
  | k + 1, i => decide (f i < 0) :: own_L f k (i + 1)
theorem own_ft (f : Nat → Int32) (k i r : Nat) (hr : r < 9) : FT f k i (Int32.ofNat r) = if own_FB (own_L f k i) r then 1 else 0 := by
  induction k generalizing i r with
  | zero => rfl
  | succ k ih =>
    have e : Int32.ofNat r + 1 = Int32.ofNat (r + 1) := (inc_ofNat r).symm
    have e9 : (Int32.ofNat r + 1 = 9) ↔ r + 1 = 9 := by
      rw [e, ← Int32.toInt_inj, own_toInt (by omega)]
      show ((r + 1 : Nat) : Int) = 9 ↔ _
      omega
    by_cases hb : f i < 0
    · by_cases h9 : r + 1 = 9
      · have h9' := e9.mpr h9
        simp only [FT, own_L, own_FB, hb, h9, h9', if_true, decide_true, reduceIte]
        rfl
      · have h9' : ¬ (Int32.ofNat r + 1 = 9) := fun q => h9 (e9.mp q)
        simp only [FT, own_L, own_FB, hb, h9, h9', if_true, if_false, decide_true, reduceIte]
        rw [e]
        exact ih (i + 1) (r + 1) (by omega)
    · simp only [FT, own_L, own_FB, hb, if_false, decide_false, reduceIte, Bool.false_eq_true]
      exact ih (i + 1) 0 (by omega)
def own_9 (a b c d e f g h i : Bool) : Bool := a && b && c && d && e && f && g && h && i
set_option maxRecDepth 65536 in
theorem own_all : ∀ b0 b1 b2 b3 b4 b5 b6 b7 b8 b9 b10 b11 : Bool, own_FB [b0, b1, b2, b3, b4, b5, b6, b7, b8, b9, b10, b11, false] 0 = !(own_9 b0 b1 b2 b3 b4 b5 b6 b7 b8 || own_9 b1 b2 b3 b4 b5 b6 b7 b8 b9 || own_9 b2 b3 b4 b5 b6 b7 b8 b9 b10 || own_9 b3 b4 b5 b6 b7 b8 b9 b10 b11) := by
  decide +kernel
theorem own_rn (f : Nat → Int32) (n : Nat) : RN f n = if own_9 (decide (f n < 0)) (decide (f (n + 1) < 0)) (decide (f (n + 2) < 0)) (decide (f (n + 3) < 0)) (decide (f (n + 4) < 0)) (decide (f (n + 5) < 0)) (decide (f (n + 6) < 0)) (decide (f (n + 7) < 0)) (decide (f (n + 8) < 0)) then 1 else 0 := by
  unfold RN own_9
  by_cases h0 : f n < 0 <;> by_cases h1 : f (n + 1) < 0 <;> by_cases h2 : f (n + 2) < 0 <;> by_cases h3 : f (n + 3) < 0 <;> by_cases h4 : f (n + 4) < 0 <;> by_cases h5 : f (n + 5) < 0 <;> by_cases h6 : f (n + 6) < 0 <;> by_cases h7 : f (n + 7) < 0 <;> by_cases h8 : f (n + 8) < 0 <;> simp only [h0, h1, h2, h3, h4, h5, h6, h7, h8, decide_true, decide_false, Bool.true_and, Bool.false_and, Bool.and_true, Bool.and_false, if_true, if_false, reduceIte, Bool.false_eq_true]
theorem own_fit {f : Nat → Int32} (h : ¬ f 12 < 0) : FT f 13 0 0 = if RN f 0 = 0 ∧ RN f 1 = 0 ∧ RN f 2 = 0 ∧ RN f 3 = 0 then 1 else 0 := by
  have e := own_ft f 13 0 0 (by omega)
  have e0 : Int32.ofNat 0 = 0 := rfl
  rw [e0] at e
  rw [e]
  have ha := own_all (decide (f 0 < 0)) (decide (f 1 < 0)) (decide (f 2 < 0)) (decide (f 3 < 0)) (decide (f 4 < 0)) (decide (f 5 < 0)) (decide (f 6 < 0)) (decide (f 7 < 0)) (decide (f 8 < 0)) (decide (f 9 < 0)) (decide (f 10 < 0)) (decide (f 11 < 0))
  have hL : own_L f 13 0 = [decide (f 0 < 0), decide (f 1 < 0), decide (f 2 < 0), decide (f 3 < 0), decide (f 4 < 0), decide (f 5 < 0), decide (f 6 < 0), decide (f 7 < 0), decide (f 8 < 0), decide (f 9 < 0), decide (f 10 < 0), decide (f 11 < 0), false] := by
    have q : decide (f 12 < 0) = false := decide_eq_false h
    rw [← q]
    rfl
  rw [hL, ha, own_rn f 0, own_rn f 1, own_rn f 2, own_rn f 3]
  generalize own_9 _ _ _ _ _ _ _ _ _ = w0
  generalize own_9 _ _ _ _ _ _ _ _ _ = w1
  generalize own_9 _ _ _ _ _ _ _ _ _ = w2
  generalize own_9 _ _ _ _ _ _ _ _ _ = w3
  revert w0 w1 w2 w3
  decide
theorem own_fit0 {f : Nat → Int32} (h : ¬ f 12 < 0) (k : Nat) (hk : k ≤ 3) (hr : ¬ RN f k = 0) : FT f 13 0 0 = 0 := by
  rw [own_fit h, if_neg]
  intro q
  rcases (show k = 0 ∨ k = 1 ∨ k = 2 ∨ k = 3 by omega) with rfl | rfl | rfl | rfl
  · exact hr q.1
  · exact hr q.2.1
  · exact hr q.2.2.1
  · exact hr q.2.2.2
theorem own_fit1 {f : Nat → Int32} (h : ¬ f 12 < 0) (h0 : RN f 0 = 0) (h1 : RN f 1 = 0) (h2 : RN f 2 = 0) (h3 : RN f 3 = 0) : FT f 13 0 0 = 1 := by
  rw [own_fit h, if_pos ⟨h0, h1, h2, h3⟩]
theorem own_h12 {f g : Nat → Int32} {x : Int64} (h : f = oset g 12 ((((x &&& (127 : Int64)).toInt32).toInt8.toInt32).toInt8.toInt32)) : ¬ f 12 < 0 := by
  subst h
  have e : oset g 12 ((((x &&& (127 : Int64)).toInt32).toInt8.toInt32).toInt8.toInt32) 12 = (x &&& (127 : Int64)).toInt32.toInt8.toInt32 := by
    simp [oset]
  rw [e]
  have h : ∀ b : BitVec 64, 0 ≤ (((b &&& 127#64).signExtend 32).signExtend 8).toInt := fun b => by
    have k : (((b &&& 127#64).signExtend 32).signExtend 8).msb = false := by
      rw [BitVec.msb_eq_getLsbD_last, BitVec.getLsbD_signExtend, BitVec.getLsbD_signExtend, BitVec.getLsbD_and, show (127#64).getLsbD (8 - 1) = false from by decide]
      simp
    rw [BitVec.toInt_eq_toNat_of_msb k]
    omega
  have k := h x.toBitVec
  rw [Int32.lt_iff_toInt_lt, Int8.toInt_toInt32]
  have k2 : ((x &&& (127 : Int64)).toInt32.toInt8).toInt = (((x.toBitVec &&& 127#64).signExtend 32).signExtend 8).toInt := rfl
  rw [k2]
  show ¬ _ < (0 : Int)
  omega
theorem pn0 : plainName "com/example/distinguo/distinguo/codec/ArcsFitLongsPinLaw" = true := by first | (simp [plainName, overriddenIn]; done) | decide +kernel
theorem pd0_0 : parseMethodDescriptor "(JIII)B" = some ⟨[.long, .int, .int, .int], some .byte⟩ := by decide +kernel
theorem pd0_1 : parseMethodDescriptor "([BI)Z" = some ⟨[(.array .byte), .int], some .boolean⟩ := by decide +kernel
theorem pd0_2 : parseMethodDescriptor "([B)Z" = some ⟨[(.array .byte)], some .boolean⟩ := by decide +kernel
theorem ef0 (m : MethodId) (q1 : Int64) (q2 : Int64) (q3 : Int32) : entryFrame m #[(.long q1), (.long q2), (.int q3)] maxLocals = mkF m 0 #[.val (.long q1), .second, .val (.long q2), .second, .val (.int q3), .unset, .unset] [] := by first | (simp [entryFrame, mkF, argsToLocals, Value.category, maxLocals]; done) | rfl
set_option maxRecDepth 65536 in
set_option maxHeartbeats 40000000 in
theorem rm0 (l : Launch) (Z : State) (a0 : Array Value) (hw : ∀ d ∈ tables_1, d.before a0 Z = true) (ws : List Jvm.Cond) (q1 : Int64) (q2 : Int64) (q3 : Int32) (h0 : Heap) (n0 : Nat) (Z0 : n0 ≤ h0.size) :
    MetFree l x (head1 (Jvm.Cond.code x code maxLocals ret :: ws) room_1) (fun a U => a = #[(.long q1), (.long q2), (.int q3)] ∧ Z.Warmed39 U.vm ∧ U.heap = h0) (fun _ _ _ _ _ => True) (fun _ U o U' => ∃ v L, o = .returned v ∧ PF n0 1 v U'.heap L ∧ FrameEnd U o U' L room_1.cells room_1.slots) := by
  refine MetFree.of_bodySF (plainFor_of_name pn0) hisR ?_
  intro p e s m args below meth c s₁ Bd hml0 hP hK
  obtain ⟨rfl, hZ, hh⟩ := hP
  have hx := Bd.exec
  have hby := Bd.bytes
  have hml : c.maxLocals = 7 := hml0
  have hown : s.vm.findClass "com/example/distinguo/distinguo/codec/ArcsFitLongsPinLaw" = some m.cls := findClass_of_methodNamed Bd.named
  have hnm := (name_of_methodNamed Bd.named Bd.method).1
  have X0 : Stand p l e room_1 s m #[(.long q1), (.long q2), (.int q3)] below meth c s₁ [] 0 0 := Stand.of_body Bd
  have e0 : s₁.heap = h0 := by rw [← hh, Bd.state]; rfl
  have N0 := Fr.nil n0
  show OGo p e below (Out s room_1.cells room_1.slots (PF n0 1)) (s₁.setTop (entryFrame m #[(.long q1), (.long q2), (.int q3)] maxLocals))
  refine OGo.st (fun t k => castTop (ef0 m q1 q2 q3) k) ?_
  show OGo p e below (Out s room_1.cells room_1.slots (PF n0 1)) (s₁.setTop (mkF m 0 #[.val (.long q1), .second, .val (.long q2), .second, .val (.int q3), .unset, .unset] []))
  refine OGo.st (fun t k => XS.bipush X0.here hx rfl (hb hby at_0) k) ?_
  show OGo p e below _ (s₁.setTop (mkF m 2 #[.val (.long q1), .second, .val (.long q2), .second, .val (.int q3), .unset, .unset] [(.int (13 : Int32))]))
  obtain ⟨T1, h1, k1, X1, e1, E1, A1, st1⟩ := newP X0 hx hZ (hw _ (List.mem_of_getElem? (i := 0) rfl)) e0 (g := (mkF m 2 #[.val (.long q1), .second, .val (.long q2), .second, .val (.int q3), .unset, .unset] [(.int (13 : Int32))])) rfl (hb hby at_2) rfl (by decide) (cap := 13) (by decide) (by decide) (by decide) (by decide)
  obtain ⟨b1, g1⟩ : ∃ z, z = h0.size := ⟨_, rfl⟩
  rw [← g1] at A1 st1
  have O1 : OA Z h1 b1 .byte 13 (fun _ => 0) := OA.new A1 (by decide) rfl
  have gb1 : n0 ≤ b1 := Nat.le_trans Z0 (Nat.le_of_eq g1.symm)
  have Z1 : n0 ≤ h1.size := Nat.le_trans Z0 E1.1
  obtain ⟨lo1, X1, N1⟩ : ∃ L, Stand p l e room_1 s m #[(.long q1), (.long q2), (.int q3)] below meth c T1 L 1 13 ∧ Fr n0 L := ⟨_, X1, N0⟩
  refine OGo.st (fun t k => st1 t k) ?_
  show OGo p e below _ (T1.setTop (mkF m 4 #[.val (.long q1), .second, .val (.long q2), .second, .val (.int q3), .unset, .unset] [(.ref b1)]))
  refine OGo.st (fun t k => XS.astore X1.here hx rfl (hb hby at_4) rfl rfl (l' := #[.val (.long q1), .second, .val (.long q2), .second, .val (.int q3), .val (.ref b1), .unset]) rfl k) ?_
  show OGo p e below _ (T1.setTop (mkF m 6 #[.val (.long q1), .second, .val (.long q2), .second, .val (.int q3), .val (.ref b1), .unset] []))
  refine OGo.st (fun t k => XS.aload X1.here hx rfl (hb hby at_6) rfl rfl k) ?_
  show OGo p e below _ (T1.setTop (mkF m 8 #[.val (.long q1), .second, .val (.long q2), .second, .val (.int q3), .val (.ref b1), .unset] [(.ref b1)]))
  refine OGo.st (fun t k => XS.iconst X1.here hx rfl (hb hby at_8) k) ?_
  show OGo p e below _ (T1.setTop (mkF m 9 #[.val (.long q1), .second, .val (.long q2), .second, .val (.int q3), .val (.ref b1), .unset] [(.int (0 : Int32)), (.ref b1)]))
  refine OGo.st (fun t k => XS.lloadN X1.here hx rfl (hb hby at_9) rfl k) ?_
  show OGo p e below _ (T1.setTop (mkF m 10 #[.val (.long q1), .second, .val (.long q2), .second, .val (.int q3), .val (.ref b1), .unset] [(.long q1), (.int (0 : Int32)), (.ref b1)]))
  refine OGo.st (fun t k => XS.iconst X1.here hx rfl (hb hby at_10) k) ?_
  show OGo p e below _ (T1.setTop (mkF m 11 #[.val (.long q1), .second, .val (.long q2), .second, .val (.int q3), .val (.ref b1), .unset] [(.int (0 : Int32)), (.long q1), (.int (0 : Int32)), (.ref b1)]))
  refine OGo.st (fun t k => XS.iload X1.here hx rfl (hb hby at_11) rfl k) ?_
  show OGo p e below _ (T1.setTop (mkF m 13 #[.val (.long q1), .second, .val (.long q2), .second, .val (.int q3), .val (.ref b1), .unset] [(.int q3), (.int (0 : Int32)), (.long q1), (.int (0 : Int32)), (.ref b1)]))
  refine OGo.st (fun t k => XS.iconst X1.here hx rfl (hb hby at_13) k) ?_
  show OGo p e below _ (T1.setTop (mkF m 14 #[.val (.long q1), .second, .val (.long q2), .second, .val (.int q3), .val (.ref b1), .unset] [(.int (0 : Int32)), (.int q3), (.int (0 : Int32)), (.long q1), (.int (0 : Int32)), (.ref b1)]))
  obtain ⟨_, _, ⟨T2, L2, k2, n2⟩, -, X2, ⟨Lc2, hQ2, l2, y2, z2⟩, st2⟩ := Jvm.LawKit.callS X1 hx (y := (⟨"com/example/distinguo/distinguo/codec/ArcsFitLongsPinLaw", "octet", "(JIII)B"⟩ : MethodName)) hown (mvT hZ (hw _ (List.mem_of_getElem? (i := 1) rfl))) (mvT hZ (hw _ (List.mem_of_getElem? (i := 2) rfl))) (mvT hZ (hw _ (List.mem_of_getElem? (i := 3) rfl))) (mvT hZ (hw _ (List.mem_of_getElem? (i := 4) rfl))) (by decide) (backOf (W := 2) (rm1 l Z a0 hw [] q1 (0 : Int32) q3 (0 : Int32) h1 n0 Z1) hZ (hw _ (List.mem_of_getElem? (i := 4) rfl)) (hw _ (List.mem_of_getElem? (i := 3) rfl)) (by decide) (by decide)) (g := (mkF m 14 #[.val (.long q1), .second, .val (.long q2), .second, .val (.int q3), .val (.ref b1), .unset] [(.int (0 : Int32)), (.int q3), (.int (0 : Int32)), (.long q1), (.int (0 : Int32)), (.ref b1)])) rfl (by rw [hml]; rfl) (argsL := [(.long q1), (.int (0 : Int32)), (.int q3), (.int (0 : Int32))]) (rest := [(.int (0 : Int32)), (.ref b1)]) (lenOf pd0_0 rfl) rfl (by show 2 * 0 + _ ≤ _; exact Nat.le_of_eq rfl) (hb hby at_14) (fun _ _ => ⟨rfl, e1, (by decide : 1 + 0 ≤ _), (by decide : 13 + 0 ≤ _)⟩)
  dsimp only [Pt.U, Pt.locs, Pt.cells, Pt.slots] at X2 l2 y2 z2 st2 hQ2
  subst l2 y2 z2
  obtain ⟨rfl, Nq2, e2⟩ := hQ2
  have N2 := Fr.app N1 Nq2
  obtain ⟨lo2, X2, N2⟩ : ∃ L, Stand p l e room_1 s m #[(.long q1), (.long q2), (.int q3)] below meth c T2 L 1 13 ∧ Fr n0 L := ⟨_, X2, N2⟩
  refine OGo.st (fun t k => st2 t k) ?_
  show OGo p e below _ (T2.setTop (mkF m 17 #[.val (.long q1), .second, .val (.long q2), .second, .val (.int q3), .val (.ref b1), .unset] [(.int (f1 q1 (0 : Int32) q3 (0 : Int32))), (.int (0 : Int32)), (.ref b1)]))
  obtain ⟨T3, h3, X3, e3, W3, O3', st3⟩ := OA.stB X2 hx hZ e2 O1 (j := (0 : Int32)) (x := (f1 q1 (0 : Int32) q3 (0 : Int32))) (k := 0) (by decide) (by decide) (by decide) (g := (mkF m 17 #[.val (.long q1), .second, .val (.long q2), .second, .val (.int q3), .val (.ref b1), .unset] [(.int (f1 q1 (0 : Int32) q3 (0 : Int32))), (.int (0 : Int32)), (.ref b1)])) rfl rfl (hb hby at_17)
  obtain ⟨fa3, hf3⟩ : ∃ z, z = oset (fun _ => 0) 0 ((f1 q1 (0 : Int32) q3 (0 : Int32)).toInt8.toInt32) := ⟨_, rfl⟩
  have O3 := O3'
  rw [← hf3] at O3
  have N3 := Fr.snoc X3 N2 gb1
  have Z3 : n0 ≤ h3.size := Nat.le_trans Z1 (Keep.of_wr W3).1
  obtain ⟨lo3, X3, N3⟩ : ∃ L, Stand p l e room_1 s m #[(.long q1), (.long q2), (.int q3)] below meth c T3 L 1 13 ∧ Fr n0 L := ⟨_, X3, N3⟩
  refine OGo.st (fun t k => st3 t k) ?_
  show OGo p e below _ (T3.setTop (mkF m 18 #[.val (.long q1), .second, .val (.long q2), .second, .val (.int q3), .val (.ref b1), .unset] []))
  refine OGo.st (fun t k => XS.aload X3.here hx rfl (hb hby at_18) rfl rfl k) ?_
  show OGo p e below _ (T3.setTop (mkF m 20 #[.val (.long q1), .second, .val (.long q2), .second, .val (.int q3), .val (.ref b1), .unset] [(.ref b1)]))
  refine OGo.st (fun t k => XS.iconst X3.here hx rfl (hb hby at_20) k) ?_
  show OGo p e below _ (T3.setTop (mkF m 21 #[.val (.long q1), .second, .val (.long q2), .second, .val (.int q3), .val (.ref b1), .unset] [(.int (1 : Int32)), (.ref b1)]))
  refine OGo.st (fun t k => XS.lloadN X3.here hx rfl (hb hby at_21) rfl k) ?_
  show OGo p e below _ (T3.setTop (mkF m 22 #[.val (.long q1), .second, .val (.long q2), .second, .val (.int q3), .val (.ref b1), .unset] [(.long q1), (.int (1 : Int32)), (.ref b1)]))
  refine OGo.st (fun t k => XS.bipush X3.here hx rfl (hb hby at_22) k) ?_
  show OGo p e below _ (T3.setTop (mkF m 24 #[.val (.long q1), .second, .val (.long q2), .second, .val (.int q3), .val (.ref b1), .unset] [(.int (8 : Int32)), (.long q1), (.int (1 : Int32)), (.ref b1)]))
  refine OGo.st (fun t k => XS.iload X3.here hx rfl (hb hby at_24) rfl k) ?_
  show OGo p e below _ (T3.setTop (mkF m 26 #[.val (.long q1), .second, .val (.long q2), .second, .val (.int q3), .val (.ref b1), .unset] [(.int q3), (.int (8 : Int32)), (.long q1), (.int (1 : Int32)), (.ref b1)]))
  refine OGo.st (fun t k => XS.iconst X3.here hx rfl (hb hby at_26) k) ?_
  show OGo p e below _ (T3.setTop (mkF m 27 #[.val (.long q1), .second, .val (.long q2), .second, .val (.int q3), .val (.ref b1), .unset] [(.int (1 : Int32)), (.int q3), (.int (8 : Int32)), (.long q1), (.int (1 : Int32)), (.ref b1)]))
  obtain ⟨_, _, ⟨T4, L4, k4, n4⟩, -, X4, ⟨Lc4, hQ4, l4, y4, z4⟩, st4⟩ := Jvm.LawKit.callS X3 hx (y := (⟨"com/example/distinguo/distinguo/codec/ArcsFitLongsPinLaw", "octet", "(JIII)B"⟩ : MethodName)) hown (mvT hZ (hw _ (List.mem_of_getElem? (i := 1) rfl))) (mvT hZ (hw _ (List.mem_of_getElem? (i := 2) rfl))) (mvT hZ (hw _ (List.mem_of_getElem? (i := 3) rfl))) (mvT hZ (hw _ (List.mem_of_getElem? (i := 4) rfl))) (by decide) (backOf (W := 2) (rm1 l Z a0 hw [] q1 (8 : Int32) q3 (1 : Int32) h3 n0 Z3) hZ (hw _ (List.mem_of_getElem? (i := 4) rfl)) (hw _ (List.mem_of_getElem? (i := 3) rfl)) (by decide) (by decide)) (g := (mkF m 27 #[.val (.long q1), .second, .val (.long q2), .second, .val (.int q3), .val (.ref b1), .unset] [(.int (1 : Int32)), (.int q3), (.int (8 : Int32)), (.long q1), (.int (1 : Int32)), (.ref b1)])) rfl (by rw [hml]; rfl) (argsL := [(.long q1), (.int (8 : Int32)), (.int q3), (.int (1 : Int32))]) (rest := [(.int (1 : Int32)), (.ref b1)]) (lenOf pd0_0 rfl) rfl (by show 2 * 0 + _ ≤ _; exact Nat.le_of_eq rfl) (hb hby at_27) (fun _ _ => ⟨rfl, e3, (by decide : 1 + 0 ≤ _), (by decide : 13 + 0 ≤ _)⟩)
  dsimp only [Pt.U, Pt.locs, Pt.cells, Pt.slots] at X4 l4 y4 z4 st4 hQ4
  subst l4 y4 z4
  obtain ⟨rfl, Nq4, e4⟩ := hQ4
  have N4 := Fr.app N3 Nq4
  obtain ⟨lo4, X4, N4⟩ : ∃ L, Stand p l e room_1 s m #[(.long q1), (.long q2), (.int q3)] below meth c T4 L 1 13 ∧ Fr n0 L := ⟨_, X4, N4⟩
  refine OGo.st (fun t k => st4 t k) ?_
  show OGo p e below _ (T4.setTop (mkF m 30 #[.val (.long q1), .second, .val (.long q2), .second, .val (.int q3), .val (.ref b1), .unset] [(.int (f1 q1 (8 : Int32) q3 (1 : Int32))), (.int (1 : Int32)), (.ref b1)]))
  obtain ⟨T5, h5, X5, e5, W5, O5', st5⟩ := OA.stB X4 hx hZ e4 O3 (j := (1 : Int32)) (x := (f1 q1 (8 : Int32) q3 (1 : Int32))) (k := 1) (by decide) (by decide) (by decide) (g := (mkF m 30 #[.val (.long q1), .second, .val (.long q2), .second, .val (.int q3), .val (.ref b1), .unset] [(.int (f1 q1 (8 : Int32) q3 (1 : Int32))), (.int (1 : Int32)), (.ref b1)])) rfl rfl (hb hby at_30)
  obtain ⟨fa5, hf5⟩ : ∃ z, z = oset fa3 1 ((f1 q1 (8 : Int32) q3 (1 : Int32)).toInt8.toInt32) := ⟨_, rfl⟩
  have O5 := O5'
  rw [← hf5] at O5
  have N5 := Fr.snoc X5 N4 gb1
  have Z5 : n0 ≤ h5.size := Nat.le_trans Z3 (Keep.of_wr W5).1
  obtain ⟨lo5, X5, N5⟩ : ∃ L, Stand p l e room_1 s m #[(.long q1), (.long q2), (.int q3)] below meth c T5 L 1 13 ∧ Fr n0 L := ⟨_, X5, N5⟩
  refine OGo.st (fun t k => st5 t k) ?_
  show OGo p e below _ (T5.setTop (mkF m 31 #[.val (.long q1), .second, .val (.long q2), .second, .val (.int q3), .val (.ref b1), .unset] []))
  refine OGo.st (fun t k => XS.aload X5.here hx rfl (hb hby at_31) rfl rfl k) ?_
  show OGo p e below _ (T5.setTop (mkF m 33 #[.val (.long q1), .second, .val (.long q2), .second, .val (.int q3), .val (.ref b1), .unset] [(.ref b1)]))
  refine OGo.st (fun t k => XS.iconst X5.here hx rfl (hb hby at_33) k) ?_
  show OGo p e below _ (T5.setTop (mkF m 34 #[.val (.long q1), .second, .val (.long q2), .second, .val (.int q3), .val (.ref b1), .unset] [(.int (2 : Int32)), (.ref b1)]))
  refine OGo.st (fun t k => XS.lloadN X5.here hx rfl (hb hby at_34) rfl k) ?_
  show OGo p e below _ (T5.setTop (mkF m 35 #[.val (.long q1), .second, .val (.long q2), .second, .val (.int q3), .val (.ref b1), .unset] [(.long q1), (.int (2 : Int32)), (.ref b1)]))
  refine OGo.st (fun t k => XS.bipush X5.here hx rfl (hb hby at_35) k) ?_
  show OGo p e below _ (T5.setTop (mkF m 37 #[.val (.long q1), .second, .val (.long q2), .second, .val (.int q3), .val (.ref b1), .unset] [(.int (16 : Int32)), (.long q1), (.int (2 : Int32)), (.ref b1)]))
  refine OGo.st (fun t k => XS.iload X5.here hx rfl (hb hby at_37) rfl k) ?_
  show OGo p e below _ (T5.setTop (mkF m 39 #[.val (.long q1), .second, .val (.long q2), .second, .val (.int q3), .val (.ref b1), .unset] [(.int q3), (.int (16 : Int32)), (.long q1), (.int (2 : Int32)), (.ref b1)]))
  refine OGo.st (fun t k => XS.iconst X5.here hx rfl (hb hby at_39) k) ?_
  show OGo p e below _ (T5.setTop (mkF m 40 #[.val (.long q1), .second, .val (.long q2), .second, .val (.int q3), .val (.ref b1), .unset] [(.int (2 : Int32)), (.int q3), (.int (16 : Int32)), (.long q1), (.int (2 : Int32)), (.ref b1)]))
  obtain ⟨_, _, ⟨T6, L6, k6, n6⟩, -, X6, ⟨Lc6, hQ6, l6, y6, z6⟩, st6⟩ := Jvm.LawKit.callS X5 hx (y := (⟨"com/example/distinguo/distinguo/codec/ArcsFitLongsPinLaw", "octet", "(JIII)B"⟩ : MethodName)) hown (mvT hZ (hw _ (List.mem_of_getElem? (i := 1) rfl))) (mvT hZ (hw _ (List.mem_of_getElem? (i := 2) rfl))) (mvT hZ (hw _ (List.mem_of_getElem? (i := 3) rfl))) (mvT hZ (hw _ (List.mem_of_getElem? (i := 4) rfl))) (by decide) (backOf (W := 2) (rm1 l Z a0 hw [] q1 (16 : Int32) q3 (2 : Int32) h5 n0 Z5) hZ (hw _ (List.mem_of_getElem? (i := 4) rfl)) (hw _ (List.mem_of_getElem? (i := 3) rfl)) (by decide) (by decide)) (g := (mkF m 40 #[.val (.long q1), .second, .val (.long q2), .second, .val (.int q3), .val (.ref b1), .unset] [(.int (2 : Int32)), (.int q3), (.int (16 : Int32)), (.long q1), (.int (2 : Int32)), (.ref b1)])) rfl (by rw [hml]; rfl) (argsL := [(.long q1), (.int (16 : Int32)), (.int q3), (.int (2 : Int32))]) (rest := [(.int (2 : Int32)), (.ref b1)]) (lenOf pd0_0 rfl) rfl (by show 2 * 0 + _ ≤ _; exact Nat.le_of_eq rfl) (hb hby at_40) (fun _ _ => ⟨rfl, e5, (by decide : 1 + 0 ≤ _), (by decide : 13 + 0 ≤ _)⟩)
  dsimp only [Pt.U, Pt.locs, Pt.cells, Pt.slots] at X6 l6 y6 z6 st6 hQ6
  subst l6 y6 z6
  obtain ⟨rfl, Nq6, e6⟩ := hQ6
  have N6 := Fr.app N5 Nq6
  obtain ⟨lo6, X6, N6⟩ : ∃ L, Stand p l e room_1 s m #[(.long q1), (.long q2), (.int q3)] below meth c T6 L 1 13 ∧ Fr n0 L := ⟨_, X6, N6⟩
  refine OGo.st (fun t k => st6 t k) ?_
  show OGo p e below _ (T6.setTop (mkF m 43 #[.val (.long q1), .second, .val (.long q2), .second, .val (.int q3), .val (.ref b1), .unset] [(.int (f1 q1 (16 : Int32) q3 (2 : Int32))), (.int (2 : Int32)), (.ref b1)]))
  obtain ⟨T7, h7, X7, e7, W7, O7', st7⟩ := OA.stB X6 hx hZ e6 O5 (j := (2 : Int32)) (x := (f1 q1 (16 : Int32) q3 (2 : Int32))) (k := 2) (by decide) (by decide) (by decide) (g := (mkF m 43 #[.val (.long q1), .second, .val (.long q2), .second, .val (.int q3), .val (.ref b1), .unset] [(.int (f1 q1 (16 : Int32) q3 (2 : Int32))), (.int (2 : Int32)), (.ref b1)])) rfl rfl (hb hby at_43)
  obtain ⟨fa7, hf7⟩ : ∃ z, z = oset fa5 2 ((f1 q1 (16 : Int32) q3 (2 : Int32)).toInt8.toInt32) := ⟨_, rfl⟩
  have O7 := O7'
  rw [← hf7] at O7
  have N7 := Fr.snoc X7 N6 gb1
  have Z7 : n0 ≤ h7.size := Nat.le_trans Z5 (Keep.of_wr W7).1
  obtain ⟨lo7, X7, N7⟩ : ∃ L, Stand p l e room_1 s m #[(.long q1), (.long q2), (.int q3)] below meth c T7 L 1 13 ∧ Fr n0 L := ⟨_, X7, N7⟩
  refine OGo.st (fun t k => st7 t k) ?_
  show OGo p e below _ (T7.setTop (mkF m 44 #[.val (.long q1), .second, .val (.long q2), .second, .val (.int q3), .val (.ref b1), .unset] []))
  refine OGo.st (fun t k => XS.aload X7.here hx rfl (hb hby at_44) rfl rfl k) ?_
  show OGo p e below _ (T7.setTop (mkF m 46 #[.val (.long q1), .second, .val (.long q2), .second, .val (.int q3), .val (.ref b1), .unset] [(.ref b1)]))
  refine OGo.st (fun t k => XS.iconst X7.here hx rfl (hb hby at_46) k) ?_
  show OGo p e below _ (T7.setTop (mkF m 47 #[.val (.long q1), .second, .val (.long q2), .second, .val (.int q3), .val (.ref b1), .unset] [(.int (3 : Int32)), (.ref b1)]))
  refine OGo.st (fun t k => XS.lloadN X7.here hx rfl (hb hby at_47) rfl k) ?_
  show OGo p e below _ (T7.setTop (mkF m 48 #[.val (.long q1), .second, .val (.long q2), .second, .val (.int q3), .val (.ref b1), .unset] [(.long q1), (.int (3 : Int32)), (.ref b1)]))
  refine OGo.st (fun t k => XS.bipush X7.here hx rfl (hb hby at_48) k) ?_
  show OGo p e below _ (T7.setTop (mkF m 50 #[.val (.long q1), .second, .val (.long q2), .second, .val (.int q3), .val (.ref b1), .unset] [(.int (24 : Int32)), (.long q1), (.int (3 : Int32)), (.ref b1)]))
  refine OGo.st (fun t k => XS.iload X7.here hx rfl (hb hby at_50) rfl k) ?_
  show OGo p e below _ (T7.setTop (mkF m 52 #[.val (.long q1), .second, .val (.long q2), .second, .val (.int q3), .val (.ref b1), .unset] [(.int q3), (.int (24 : Int32)), (.long q1), (.int (3 : Int32)), (.ref b1)]))
  refine OGo.st (fun t k => XS.iconst X7.here hx rfl (hb hby at_52) k) ?_
  show OGo p e below _ (T7.setTop (mkF m 53 #[.val (.long q1), .second, .val (.long q2), .second, .val (.int q3), .val (.ref b1), .unset] [(.int (3 : Int32)), (.int q3), (.int (24 : Int32)), (.long q1), (.int (3 : Int32)), (.ref b1)]))
  obtain ⟨_, _, ⟨T8, L8, k8, n8⟩, -, X8, ⟨Lc8, hQ8, l8, y8, z8⟩, st8⟩ := Jvm.LawKit.callS X7 hx (y := (⟨"com/example/distinguo/distinguo/codec/ArcsFitLongsPinLaw", "octet", "(JIII)B"⟩ : MethodName)) hown (mvT hZ (hw _ (List.mem_of_getElem? (i := 1) rfl))) (mvT hZ (hw _ (List.mem_of_getElem? (i := 2) rfl))) (mvT hZ (hw _ (List.mem_of_getElem? (i := 3) rfl))) (mvT hZ (hw _ (List.mem_of_getElem? (i := 4) rfl))) (by decide) (backOf (W := 2) (rm1 l Z a0 hw [] q1 (24 : Int32) q3 (3 : Int32) h7 n0 Z7) hZ (hw _ (List.mem_of_getElem? (i := 4) rfl)) (hw _ (List.mem_of_getElem? (i := 3) rfl)) (by decide) (by decide)) (g := (mkF m 53 #[.val (.long q1), .second, .val (.long q2), .second, .val (.int q3), .val (.ref b1), .unset] [(.int (3 : Int32)), (.int q3), (.int (24 : Int32)), (.long q1), (.int (3 : Int32)), (.ref b1)])) rfl (by rw [hml]; rfl) (argsL := [(.long q1), (.int (24 : Int32)), (.int q3), (.int (3 : Int32))]) (rest := [(.int (3 : Int32)), (.ref b1)]) (lenOf pd0_0 rfl) rfl (by show 2 * 0 + _ ≤ _; exact Nat.le_of_eq rfl) (hb hby at_53) (fun _ _ => ⟨rfl, e7, (by decide : 1 + 0 ≤ _), (by decide : 13 + 0 ≤ _)⟩)
  dsimp only [Pt.U, Pt.locs, Pt.cells, Pt.slots] at X8 l8 y8 z8 st8 hQ8
  subst l8 y8 z8
  obtain ⟨rfl, Nq8, e8⟩ := hQ8
  have N8 := Fr.app N7 Nq8
  obtain ⟨lo8, X8, N8⟩ : ∃ L, Stand p l e room_1 s m #[(.long q1), (.long q2), (.int q3)] below meth c T8 L 1 13 ∧ Fr n0 L := ⟨_, X8, N8⟩
  refine OGo.st (fun t k => st8 t k) ?_
  show OGo p e below _ (T8.setTop (mkF m 56 #[.val (.long q1), .second, .val (.long q2), .second, .val (.int q3), .val (.ref b1), .unset] [(.int (f1 q1 (24 : Int32) q3 (3 : Int32))), (.int (3 : Int32)), (.ref b1)]))
  obtain ⟨T9, h9, X9, e9, W9, O9', st9⟩ := OA.stB X8 hx hZ e8 O7 (j := (3 : Int32)) (x := (f1 q1 (24 : Int32) q3 (3 : Int32))) (k := 3) (by decide) (by decide) (by decide) (g := (mkF m 56 #[.val (.long q1), .second, .val (.long q2), .second, .val (.int q3), .val (.ref b1), .unset] [(.int (f1 q1 (24 : Int32) q3 (3 : Int32))), (.int (3 : Int32)), (.ref b1)])) rfl rfl (hb hby at_56)
  obtain ⟨fa9, hf9⟩ : ∃ z, z = oset fa7 3 ((f1 q1 (24 : Int32) q3 (3 : Int32)).toInt8.toInt32) := ⟨_, rfl⟩
  have O9 := O9'
  rw [← hf9] at O9
  have N9 := Fr.snoc X9 N8 gb1
  have Z9 : n0 ≤ h9.size := Nat.le_trans Z7 (Keep.of_wr W9).1
  obtain ⟨lo9, X9, N9⟩ : ∃ L, Stand p l e room_1 s m #[(.long q1), (.long q2), (.int q3)] below meth c T9 L 1 13 ∧ Fr n0 L := ⟨_, X9, N9⟩
  refine OGo.st (fun t k => st9 t k) ?_
  show OGo p e below _ (T9.setTop (mkF m 57 #[.val (.long q1), .second, .val (.long q2), .second, .val (.int q3), .val (.ref b1), .unset] []))
  refine OGo.st (fun t k => XS.aload X9.here hx rfl (hb hby at_57) rfl rfl k) ?_
  show OGo p e below _ (T9.setTop (mkF m 59 #[.val (.long q1), .second, .val (.long q2), .second, .val (.int q3), .val (.ref b1), .unset] [(.ref b1)]))
  refine OGo.st (fun t k => XS.iconst X9.here hx rfl (hb hby at_59) k) ?_
  show OGo p e below _ (T9.setTop (mkF m 60 #[.val (.long q1), .second, .val (.long q2), .second, .val (.int q3), .val (.ref b1), .unset] [(.int (4 : Int32)), (.ref b1)]))
  refine OGo.st (fun t k => XS.lloadN X9.here hx rfl (hb hby at_60) rfl k) ?_
  show OGo p e below _ (T9.setTop (mkF m 61 #[.val (.long q1), .second, .val (.long q2), .second, .val (.int q3), .val (.ref b1), .unset] [(.long q1), (.int (4 : Int32)), (.ref b1)]))
  refine OGo.st (fun t k => XS.bipush X9.here hx rfl (hb hby at_61) k) ?_
  show OGo p e below _ (T9.setTop (mkF m 63 #[.val (.long q1), .second, .val (.long q2), .second, .val (.int q3), .val (.ref b1), .unset] [(.int (32 : Int32)), (.long q1), (.int (4 : Int32)), (.ref b1)]))
  refine OGo.st (fun t k => XS.iload X9.here hx rfl (hb hby at_63) rfl k) ?_
  show OGo p e below _ (T9.setTop (mkF m 65 #[.val (.long q1), .second, .val (.long q2), .second, .val (.int q3), .val (.ref b1), .unset] [(.int q3), (.int (32 : Int32)), (.long q1), (.int (4 : Int32)), (.ref b1)]))
  refine OGo.st (fun t k => XS.iconst X9.here hx rfl (hb hby at_65) k) ?_
  show OGo p e below _ (T9.setTop (mkF m 66 #[.val (.long q1), .second, .val (.long q2), .second, .val (.int q3), .val (.ref b1), .unset] [(.int (4 : Int32)), (.int q3), (.int (32 : Int32)), (.long q1), (.int (4 : Int32)), (.ref b1)]))
  obtain ⟨_, _, ⟨T10, L10, k10, n10⟩, -, X10, ⟨Lc10, hQ10, l10, y10, z10⟩, st10⟩ := Jvm.LawKit.callS X9 hx (y := (⟨"com/example/distinguo/distinguo/codec/ArcsFitLongsPinLaw", "octet", "(JIII)B"⟩ : MethodName)) hown (mvT hZ (hw _ (List.mem_of_getElem? (i := 1) rfl))) (mvT hZ (hw _ (List.mem_of_getElem? (i := 2) rfl))) (mvT hZ (hw _ (List.mem_of_getElem? (i := 3) rfl))) (mvT hZ (hw _ (List.mem_of_getElem? (i := 4) rfl))) (by decide) (backOf (W := 2) (rm1 l Z a0 hw [] q1 (32 : Int32) q3 (4 : Int32) h9 n0 Z9) hZ (hw _ (List.mem_of_getElem? (i := 4) rfl)) (hw _ (List.mem_of_getElem? (i := 3) rfl)) (by decide) (by decide)) (g := (mkF m 66 #[.val (.long q1), .second, .val (.long q2), .second, .val (.int q3), .val (.ref b1), .unset] [(.int (4 : Int32)), (.int q3), (.int (32 : Int32)), (.long q1), (.int (4 : Int32)), (.ref b1)])) rfl (by rw [hml]; rfl) (argsL := [(.long q1), (.int (32 : Int32)), (.int q3), (.int (4 : Int32))]) (rest := [(.int (4 : Int32)), (.ref b1)]) (lenOf pd0_0 rfl) rfl (by show 2 * 0 + _ ≤ _; exact Nat.le_of_eq rfl) (hb hby at_66) (fun _ _ => ⟨rfl, e9, (by decide : 1 + 0 ≤ _), (by decide : 13 + 0 ≤ _)⟩)
  dsimp only [Pt.U, Pt.locs, Pt.cells, Pt.slots] at X10 l10 y10 z10 st10 hQ10
  subst l10 y10 z10
  obtain ⟨rfl, Nq10, e10⟩ := hQ10
  have N10 := Fr.app N9 Nq10
  obtain ⟨lo10, X10, N10⟩ : ∃ L, Stand p l e room_1 s m #[(.long q1), (.long q2), (.int q3)] below meth c T10 L 1 13 ∧ Fr n0 L := ⟨_, X10, N10⟩
  refine OGo.st (fun t k => st10 t k) ?_
  show OGo p e below _ (T10.setTop (mkF m 69 #[.val (.long q1), .second, .val (.long q2), .second, .val (.int q3), .val (.ref b1), .unset] [(.int (f1 q1 (32 : Int32) q3 (4 : Int32))), (.int (4 : Int32)), (.ref b1)]))
  obtain ⟨T11, h11, X11, e11, W11, O11', st11⟩ := OA.stB X10 hx hZ e10 O9 (j := (4 : Int32)) (x := (f1 q1 (32 : Int32) q3 (4 : Int32))) (k := 4) (by decide) (by decide) (by decide) (g := (mkF m 69 #[.val (.long q1), .second, .val (.long q2), .second, .val (.int q3), .val (.ref b1), .unset] [(.int (f1 q1 (32 : Int32) q3 (4 : Int32))), (.int (4 : Int32)), (.ref b1)])) rfl rfl (hb hby at_69)
  obtain ⟨fa11, hf11⟩ : ∃ z, z = oset fa9 4 ((f1 q1 (32 : Int32) q3 (4 : Int32)).toInt8.toInt32) := ⟨_, rfl⟩
  have O11 := O11'
  rw [← hf11] at O11
  have N11 := Fr.snoc X11 N10 gb1
  have Z11 : n0 ≤ h11.size := Nat.le_trans Z9 (Keep.of_wr W11).1
  obtain ⟨lo11, X11, N11⟩ : ∃ L, Stand p l e room_1 s m #[(.long q1), (.long q2), (.int q3)] below meth c T11 L 1 13 ∧ Fr n0 L := ⟨_, X11, N11⟩
  refine OGo.st (fun t k => st11 t k) ?_
  show OGo p e below _ (T11.setTop (mkF m 70 #[.val (.long q1), .second, .val (.long q2), .second, .val (.int q3), .val (.ref b1), .unset] []))
  refine OGo.st (fun t k => XS.aload X11.here hx rfl (hb hby at_70) rfl rfl k) ?_
  show OGo p e below _ (T11.setTop (mkF m 72 #[.val (.long q1), .second, .val (.long q2), .second, .val (.int q3), .val (.ref b1), .unset] [(.ref b1)]))
  refine OGo.st (fun t k => XS.iconst X11.here hx rfl (hb hby at_72) k) ?_
  show OGo p e below _ (T11.setTop (mkF m 73 #[.val (.long q1), .second, .val (.long q2), .second, .val (.int q3), .val (.ref b1), .unset] [(.int (5 : Int32)), (.ref b1)]))
  refine OGo.st (fun t k => XS.lloadN X11.here hx rfl (hb hby at_73) rfl k) ?_
  show OGo p e below _ (T11.setTop (mkF m 74 #[.val (.long q1), .second, .val (.long q2), .second, .val (.int q3), .val (.ref b1), .unset] [(.long q1), (.int (5 : Int32)), (.ref b1)]))
  refine OGo.st (fun t k => XS.bipush X11.here hx rfl (hb hby at_74) k) ?_
  show OGo p e below _ (T11.setTop (mkF m 76 #[.val (.long q1), .second, .val (.long q2), .second, .val (.int q3), .val (.ref b1), .unset] [(.int (40 : Int32)), (.long q1), (.int (5 : Int32)), (.ref b1)]))
  refine OGo.st (fun t k => XS.iload X11.here hx rfl (hb hby at_76) rfl k) ?_
  show OGo p e below _ (T11.setTop (mkF m 78 #[.val (.long q1), .second, .val (.long q2), .second, .val (.int q3), .val (.ref b1), .unset] [(.int q3), (.int (40 : Int32)), (.long q1), (.int (5 : Int32)), (.ref b1)]))
  refine OGo.st (fun t k => XS.iconst X11.here hx rfl (hb hby at_78) k) ?_
  show OGo p e below _ (T11.setTop (mkF m 79 #[.val (.long q1), .second, .val (.long q2), .second, .val (.int q3), .val (.ref b1), .unset] [(.int (5 : Int32)), (.int q3), (.int (40 : Int32)), (.long q1), (.int (5 : Int32)), (.ref b1)]))
  obtain ⟨_, _, ⟨T12, L12, k12, n12⟩, -, X12, ⟨Lc12, hQ12, l12, y12, z12⟩, st12⟩ := Jvm.LawKit.callS X11 hx (y := (⟨"com/example/distinguo/distinguo/codec/ArcsFitLongsPinLaw", "octet", "(JIII)B"⟩ : MethodName)) hown (mvT hZ (hw _ (List.mem_of_getElem? (i := 1) rfl))) (mvT hZ (hw _ (List.mem_of_getElem? (i := 2) rfl))) (mvT hZ (hw _ (List.mem_of_getElem? (i := 3) rfl))) (mvT hZ (hw _ (List.mem_of_getElem? (i := 4) rfl))) (by decide) (backOf (W := 2) (rm1 l Z a0 hw [] q1 (40 : Int32) q3 (5 : Int32) h11 n0 Z11) hZ (hw _ (List.mem_of_getElem? (i := 4) rfl)) (hw _ (List.mem_of_getElem? (i := 3) rfl)) (by decide) (by decide)) (g := (mkF m 79 #[.val (.long q1), .second, .val (.long q2), .second, .val (.int q3), .val (.ref b1), .unset] [(.int (5 : Int32)), (.int q3), (.int (40 : Int32)), (.long q1), (.int (5 : Int32)), (.ref b1)])) rfl (by rw [hml]; rfl) (argsL := [(.long q1), (.int (40 : Int32)), (.int q3), (.int (5 : Int32))]) (rest := [(.int (5 : Int32)), (.ref b1)]) (lenOf pd0_0 rfl) rfl (by show 2 * 0 + _ ≤ _; exact Nat.le_of_eq rfl) (hb hby at_79) (fun _ _ => ⟨rfl, e11, (by decide : 1 + 0 ≤ _), (by decide : 13 + 0 ≤ _)⟩)
  dsimp only [Pt.U, Pt.locs, Pt.cells, Pt.slots] at X12 l12 y12 z12 st12 hQ12
  subst l12 y12 z12
  obtain ⟨rfl, Nq12, e12⟩ := hQ12
  have N12 := Fr.app N11 Nq12
  obtain ⟨lo12, X12, N12⟩ : ∃ L, Stand p l e room_1 s m #[(.long q1), (.long q2), (.int q3)] below meth c T12 L 1 13 ∧ Fr n0 L := ⟨_, X12, N12⟩
  refine OGo.st (fun t k => st12 t k) ?_
  show OGo p e below _ (T12.setTop (mkF m 82 #[.val (.long q1), .second, .val (.long q2), .second, .val (.int q3), .val (.ref b1), .unset] [(.int (f1 q1 (40 : Int32) q3 (5 : Int32))), (.int (5 : Int32)), (.ref b1)]))
  obtain ⟨T13, h13, X13, e13, W13, O13', st13⟩ := OA.stB X12 hx hZ e12 O11 (j := (5 : Int32)) (x := (f1 q1 (40 : Int32) q3 (5 : Int32))) (k := 5) (by decide) (by decide) (by decide) (g := (mkF m 82 #[.val (.long q1), .second, .val (.long q2), .second, .val (.int q3), .val (.ref b1), .unset] [(.int (f1 q1 (40 : Int32) q3 (5 : Int32))), (.int (5 : Int32)), (.ref b1)])) rfl rfl (hb hby at_82)
  obtain ⟨fa13, hf13⟩ : ∃ z, z = oset fa11 5 ((f1 q1 (40 : Int32) q3 (5 : Int32)).toInt8.toInt32) := ⟨_, rfl⟩
  have O13 := O13'
  rw [← hf13] at O13
  have N13 := Fr.snoc X13 N12 gb1
  have Z13 : n0 ≤ h13.size := Nat.le_trans Z11 (Keep.of_wr W13).1
  obtain ⟨lo13, X13, N13⟩ : ∃ L, Stand p l e room_1 s m #[(.long q1), (.long q2), (.int q3)] below meth c T13 L 1 13 ∧ Fr n0 L := ⟨_, X13, N13⟩
  refine OGo.st (fun t k => st13 t k) ?_
  show OGo p e below _ (T13.setTop (mkF m 83 #[.val (.long q1), .second, .val (.long q2), .second, .val (.int q3), .val (.ref b1), .unset] []))
  refine OGo.st (fun t k => XS.aload X13.here hx rfl (hb hby at_83) rfl rfl k) ?_
  show OGo p e below _ (T13.setTop (mkF m 85 #[.val (.long q1), .second, .val (.long q2), .second, .val (.int q3), .val (.ref b1), .unset] [(.ref b1)]))
  refine OGo.st (fun t k => XS.bipush X13.here hx rfl (hb hby at_85) k) ?_
  show OGo p e below _ (T13.setTop (mkF m 87 #[.val (.long q1), .second, .val (.long q2), .second, .val (.int q3), .val (.ref b1), .unset] [(.int (6 : Int32)), (.ref b1)]))
  refine OGo.st (fun t k => XS.lloadN X13.here hx rfl (hb hby at_87) rfl k) ?_
  show OGo p e below _ (T13.setTop (mkF m 88 #[.val (.long q1), .second, .val (.long q2), .second, .val (.int q3), .val (.ref b1), .unset] [(.long q1), (.int (6 : Int32)), (.ref b1)]))
  refine OGo.st (fun t k => XS.bipush X13.here hx rfl (hb hby at_88) k) ?_
  show OGo p e below _ (T13.setTop (mkF m 90 #[.val (.long q1), .second, .val (.long q2), .second, .val (.int q3), .val (.ref b1), .unset] [(.int (48 : Int32)), (.long q1), (.int (6 : Int32)), (.ref b1)]))
  refine OGo.st (fun t k => XS.iload X13.here hx rfl (hb hby at_90) rfl k) ?_
  show OGo p e below _ (T13.setTop (mkF m 92 #[.val (.long q1), .second, .val (.long q2), .second, .val (.int q3), .val (.ref b1), .unset] [(.int q3), (.int (48 : Int32)), (.long q1), (.int (6 : Int32)), (.ref b1)]))
  refine OGo.st (fun t k => XS.bipush X13.here hx rfl (hb hby at_92) k) ?_
  show OGo p e below _ (T13.setTop (mkF m 94 #[.val (.long q1), .second, .val (.long q2), .second, .val (.int q3), .val (.ref b1), .unset] [(.int (6 : Int32)), (.int q3), (.int (48 : Int32)), (.long q1), (.int (6 : Int32)), (.ref b1)]))
  obtain ⟨_, _, ⟨T14, L14, k14, n14⟩, -, X14, ⟨Lc14, hQ14, l14, y14, z14⟩, st14⟩ := Jvm.LawKit.callS X13 hx (y := (⟨"com/example/distinguo/distinguo/codec/ArcsFitLongsPinLaw", "octet", "(JIII)B"⟩ : MethodName)) hown (mvT hZ (hw _ (List.mem_of_getElem? (i := 1) rfl))) (mvT hZ (hw _ (List.mem_of_getElem? (i := 2) rfl))) (mvT hZ (hw _ (List.mem_of_getElem? (i := 3) rfl))) (mvT hZ (hw _ (List.mem_of_getElem? (i := 4) rfl))) (by decide) (backOf (W := 2) (rm1 l Z a0 hw [] q1 (48 : Int32) q3 (6 : Int32) h13 n0 Z13) hZ (hw _ (List.mem_of_getElem? (i := 4) rfl)) (hw _ (List.mem_of_getElem? (i := 3) rfl)) (by decide) (by decide)) (g := (mkF m 94 #[.val (.long q1), .second, .val (.long q2), .second, .val (.int q3), .val (.ref b1), .unset] [(.int (6 : Int32)), (.int q3), (.int (48 : Int32)), (.long q1), (.int (6 : Int32)), (.ref b1)])) rfl (by rw [hml]; rfl) (argsL := [(.long q1), (.int (48 : Int32)), (.int q3), (.int (6 : Int32))]) (rest := [(.int (6 : Int32)), (.ref b1)]) (lenOf pd0_0 rfl) rfl (by show 2 * 0 + _ ≤ _; exact Nat.le_of_eq rfl) (hb hby at_94) (fun _ _ => ⟨rfl, e13, (by decide : 1 + 0 ≤ _), (by decide : 13 + 0 ≤ _)⟩)
  dsimp only [Pt.U, Pt.locs, Pt.cells, Pt.slots] at X14 l14 y14 z14 st14 hQ14
  subst l14 y14 z14
  obtain ⟨rfl, Nq14, e14⟩ := hQ14
  have N14 := Fr.app N13 Nq14
  obtain ⟨lo14, X14, N14⟩ : ∃ L, Stand p l e room_1 s m #[(.long q1), (.long q2), (.int q3)] below meth c T14 L 1 13 ∧ Fr n0 L := ⟨_, X14, N14⟩
  refine OGo.st (fun t k => st14 t k) ?_
  show OGo p e below _ (T14.setTop (mkF m 97 #[.val (.long q1), .second, .val (.long q2), .second, .val (.int q3), .val (.ref b1), .unset] [(.int (f1 q1 (48 : Int32) q3 (6 : Int32))), (.int (6 : Int32)), (.ref b1)]))
  obtain ⟨T15, h15, X15, e15, W15, O15', st15⟩ := OA.stB X14 hx hZ e14 O13 (j := (6 : Int32)) (x := (f1 q1 (48 : Int32) q3 (6 : Int32))) (k := 6) (by decide) (by decide) (by decide) (g := (mkF m 97 #[.val (.long q1), .second, .val (.long q2), .second, .val (.int q3), .val (.ref b1), .unset] [(.int (f1 q1 (48 : Int32) q3 (6 : Int32))), (.int (6 : Int32)), (.ref b1)])) rfl rfl (hb hby at_97)
  obtain ⟨fa15, hf15⟩ : ∃ z, z = oset fa13 6 ((f1 q1 (48 : Int32) q3 (6 : Int32)).toInt8.toInt32) := ⟨_, rfl⟩
  have O15 := O15'
  rw [← hf15] at O15
  have N15 := Fr.snoc X15 N14 gb1
  have Z15 : n0 ≤ h15.size := Nat.le_trans Z13 (Keep.of_wr W15).1
  obtain ⟨lo15, X15, N15⟩ : ∃ L, Stand p l e room_1 s m #[(.long q1), (.long q2), (.int q3)] below meth c T15 L 1 13 ∧ Fr n0 L := ⟨_, X15, N15⟩
  refine OGo.st (fun t k => st15 t k) ?_
  show OGo p e below _ (T15.setTop (mkF m 98 #[.val (.long q1), .second, .val (.long q2), .second, .val (.int q3), .val (.ref b1), .unset] []))
  refine OGo.st (fun t k => XS.aload X15.here hx rfl (hb hby at_98) rfl rfl k) ?_
  show OGo p e below _ (T15.setTop (mkF m 100 #[.val (.long q1), .second, .val (.long q2), .second, .val (.int q3), .val (.ref b1), .unset] [(.ref b1)]))
  refine OGo.st (fun t k => XS.bipush X15.here hx rfl (hb hby at_100) k) ?_
  show OGo p e below _ (T15.setTop (mkF m 102 #[.val (.long q1), .second, .val (.long q2), .second, .val (.int q3), .val (.ref b1), .unset] [(.int (7 : Int32)), (.ref b1)]))
  refine OGo.st (fun t k => XS.lloadN X15.here hx rfl (hb hby at_102) rfl k) ?_
  show OGo p e below _ (T15.setTop (mkF m 103 #[.val (.long q1), .second, .val (.long q2), .second, .val (.int q3), .val (.ref b1), .unset] [(.long q1), (.int (7 : Int32)), (.ref b1)]))
  refine OGo.st (fun t k => XS.bipush X15.here hx rfl (hb hby at_103) k) ?_
  show OGo p e below _ (T15.setTop (mkF m 105 #[.val (.long q1), .second, .val (.long q2), .second, .val (.int q3), .val (.ref b1), .unset] [(.int (56 : Int32)), (.long q1), (.int (7 : Int32)), (.ref b1)]))
  refine OGo.st (fun t k => XS.iload X15.here hx rfl (hb hby at_105) rfl k) ?_
  show OGo p e below _ (T15.setTop (mkF m 107 #[.val (.long q1), .second, .val (.long q2), .second, .val (.int q3), .val (.ref b1), .unset] [(.int q3), (.int (56 : Int32)), (.long q1), (.int (7 : Int32)), (.ref b1)]))
  refine OGo.st (fun t k => XS.bipush X15.here hx rfl (hb hby at_107) k) ?_
  show OGo p e below _ (T15.setTop (mkF m 109 #[.val (.long q1), .second, .val (.long q2), .second, .val (.int q3), .val (.ref b1), .unset] [(.int (7 : Int32)), (.int q3), (.int (56 : Int32)), (.long q1), (.int (7 : Int32)), (.ref b1)]))
  obtain ⟨_, _, ⟨T16, L16, k16, n16⟩, -, X16, ⟨Lc16, hQ16, l16, y16, z16⟩, st16⟩ := Jvm.LawKit.callS X15 hx (y := (⟨"com/example/distinguo/distinguo/codec/ArcsFitLongsPinLaw", "octet", "(JIII)B"⟩ : MethodName)) hown (mvT hZ (hw _ (List.mem_of_getElem? (i := 1) rfl))) (mvT hZ (hw _ (List.mem_of_getElem? (i := 2) rfl))) (mvT hZ (hw _ (List.mem_of_getElem? (i := 3) rfl))) (mvT hZ (hw _ (List.mem_of_getElem? (i := 4) rfl))) (by decide) (backOf (W := 2) (rm1 l Z a0 hw [] q1 (56 : Int32) q3 (7 : Int32) h15 n0 Z15) hZ (hw _ (List.mem_of_getElem? (i := 4) rfl)) (hw _ (List.mem_of_getElem? (i := 3) rfl)) (by decide) (by decide)) (g := (mkF m 109 #[.val (.long q1), .second, .val (.long q2), .second, .val (.int q3), .val (.ref b1), .unset] [(.int (7 : Int32)), (.int q3), (.int (56 : Int32)), (.long q1), (.int (7 : Int32)), (.ref b1)])) rfl (by rw [hml]; rfl) (argsL := [(.long q1), (.int (56 : Int32)), (.int q3), (.int (7 : Int32))]) (rest := [(.int (7 : Int32)), (.ref b1)]) (lenOf pd0_0 rfl) rfl (by show 2 * 0 + _ ≤ _; exact Nat.le_of_eq rfl) (hb hby at_109) (fun _ _ => ⟨rfl, e15, (by decide : 1 + 0 ≤ _), (by decide : 13 + 0 ≤ _)⟩)
  dsimp only [Pt.U, Pt.locs, Pt.cells, Pt.slots] at X16 l16 y16 z16 st16 hQ16
  subst l16 y16 z16
  obtain ⟨rfl, Nq16, e16⟩ := hQ16
  have N16 := Fr.app N15 Nq16
  obtain ⟨lo16, X16, N16⟩ : ∃ L, Stand p l e room_1 s m #[(.long q1), (.long q2), (.int q3)] below meth c T16 L 1 13 ∧ Fr n0 L := ⟨_, X16, N16⟩
  refine OGo.st (fun t k => st16 t k) ?_
  show OGo p e below _ (T16.setTop (mkF m 112 #[.val (.long q1), .second, .val (.long q2), .second, .val (.int q3), .val (.ref b1), .unset] [(.int (f1 q1 (56 : Int32) q3 (7 : Int32))), (.int (7 : Int32)), (.ref b1)]))
  obtain ⟨T17, h17, X17, e17, W17, O17', st17⟩ := OA.stB X16 hx hZ e16 O15 (j := (7 : Int32)) (x := (f1 q1 (56 : Int32) q3 (7 : Int32))) (k := 7) (by decide) (by decide) (by decide) (g := (mkF m 112 #[.val (.long q1), .second, .val (.long q2), .second, .val (.int q3), .val (.ref b1), .unset] [(.int (f1 q1 (56 : Int32) q3 (7 : Int32))), (.int (7 : Int32)), (.ref b1)])) rfl rfl (hb hby at_112)
  obtain ⟨fa17, hf17⟩ : ∃ z, z = oset fa15 7 ((f1 q1 (56 : Int32) q3 (7 : Int32)).toInt8.toInt32) := ⟨_, rfl⟩
  have O17 := O17'
  rw [← hf17] at O17
  have N17 := Fr.snoc X17 N16 gb1
  have Z17 : n0 ≤ h17.size := Nat.le_trans Z15 (Keep.of_wr W17).1
  obtain ⟨lo17, X17, N17⟩ : ∃ L, Stand p l e room_1 s m #[(.long q1), (.long q2), (.int q3)] below meth c T17 L 1 13 ∧ Fr n0 L := ⟨_, X17, N17⟩
  refine OGo.st (fun t k => st17 t k) ?_
  show OGo p e below _ (T17.setTop (mkF m 113 #[.val (.long q1), .second, .val (.long q2), .second, .val (.int q3), .val (.ref b1), .unset] []))
  refine OGo.st (fun t k => XS.aload X17.here hx rfl (hb hby at_113) rfl rfl k) ?_
  show OGo p e below _ (T17.setTop (mkF m 115 #[.val (.long q1), .second, .val (.long q2), .second, .val (.int q3), .val (.ref b1), .unset] [(.ref b1)]))
  refine OGo.st (fun t k => XS.bipush X17.here hx rfl (hb hby at_115) k) ?_
  show OGo p e below _ (T17.setTop (mkF m 117 #[.val (.long q1), .second, .val (.long q2), .second, .val (.int q3), .val (.ref b1), .unset] [(.int (8 : Int32)), (.ref b1)]))
  refine OGo.st (fun t k => XS.lloadN X17.here hx rfl (hb hby at_117) rfl k) ?_
  show OGo p e below _ (T17.setTop (mkF m 118 #[.val (.long q1), .second, .val (.long q2), .second, .val (.int q3), .val (.ref b1), .unset] [(.long q2), (.int (8 : Int32)), (.ref b1)]))
  refine OGo.st (fun t k => XS.iconst X17.here hx rfl (hb hby at_118) k) ?_
  show OGo p e below _ (T17.setTop (mkF m 119 #[.val (.long q1), .second, .val (.long q2), .second, .val (.int q3), .val (.ref b1), .unset] [(.int (0 : Int32)), (.long q2), (.int (8 : Int32)), (.ref b1)]))
  refine OGo.st (fun t k => XS.iload X17.here hx rfl (hb hby at_119) rfl k) ?_
  show OGo p e below _ (T17.setTop (mkF m 121 #[.val (.long q1), .second, .val (.long q2), .second, .val (.int q3), .val (.ref b1), .unset] [(.int q3), (.int (0 : Int32)), (.long q2), (.int (8 : Int32)), (.ref b1)]))
  refine OGo.st (fun t k => XS.bipush X17.here hx rfl (hb hby at_121) k) ?_
  show OGo p e below _ (T17.setTop (mkF m 123 #[.val (.long q1), .second, .val (.long q2), .second, .val (.int q3), .val (.ref b1), .unset] [(.int (8 : Int32)), (.int q3), (.int (0 : Int32)), (.long q2), (.int (8 : Int32)), (.ref b1)]))
  obtain ⟨_, _, ⟨T18, L18, k18, n18⟩, -, X18, ⟨Lc18, hQ18, l18, y18, z18⟩, st18⟩ := Jvm.LawKit.callS X17 hx (y := (⟨"com/example/distinguo/distinguo/codec/ArcsFitLongsPinLaw", "octet", "(JIII)B"⟩ : MethodName)) hown (mvT hZ (hw _ (List.mem_of_getElem? (i := 1) rfl))) (mvT hZ (hw _ (List.mem_of_getElem? (i := 2) rfl))) (mvT hZ (hw _ (List.mem_of_getElem? (i := 3) rfl))) (mvT hZ (hw _ (List.mem_of_getElem? (i := 4) rfl))) (by decide) (backOf (W := 2) (rm1 l Z a0 hw [] q2 (0 : Int32) q3 (8 : Int32) h17 n0 Z17) hZ (hw _ (List.mem_of_getElem? (i := 4) rfl)) (hw _ (List.mem_of_getElem? (i := 3) rfl)) (by decide) (by decide)) (g := (mkF m 123 #[.val (.long q1), .second, .val (.long q2), .second, .val (.int q3), .val (.ref b1), .unset] [(.int (8 : Int32)), (.int q3), (.int (0 : Int32)), (.long q2), (.int (8 : Int32)), (.ref b1)])) rfl (by rw [hml]; rfl) (argsL := [(.long q2), (.int (0 : Int32)), (.int q3), (.int (8 : Int32))]) (rest := [(.int (8 : Int32)), (.ref b1)]) (lenOf pd0_0 rfl) rfl (by show 2 * 0 + _ ≤ _; exact Nat.le_of_eq rfl) (hb hby at_123) (fun _ _ => ⟨rfl, e17, (by decide : 1 + 0 ≤ _), (by decide : 13 + 0 ≤ _)⟩)
  dsimp only [Pt.U, Pt.locs, Pt.cells, Pt.slots] at X18 l18 y18 z18 st18 hQ18
  subst l18 y18 z18
  obtain ⟨rfl, Nq18, e18⟩ := hQ18
  have N18 := Fr.app N17 Nq18
  obtain ⟨lo18, X18, N18⟩ : ∃ L, Stand p l e room_1 s m #[(.long q1), (.long q2), (.int q3)] below meth c T18 L 1 13 ∧ Fr n0 L := ⟨_, X18, N18⟩
  refine OGo.st (fun t k => st18 t k) ?_
  show OGo p e below _ (T18.setTop (mkF m 126 #[.val (.long q1), .second, .val (.long q2), .second, .val (.int q3), .val (.ref b1), .unset] [(.int (f1 q2 (0 : Int32) q3 (8 : Int32))), (.int (8 : Int32)), (.ref b1)]))
  obtain ⟨T19, h19, X19, e19, W19, O19', st19⟩ := OA.stB X18 hx hZ e18 O17 (j := (8 : Int32)) (x := (f1 q2 (0 : Int32) q3 (8 : Int32))) (k := 8) (by decide) (by decide) (by decide) (g := (mkF m 126 #[.val (.long q1), .second, .val (.long q2), .second, .val (.int q3), .val (.ref b1), .unset] [(.int (f1 q2 (0 : Int32) q3 (8 : Int32))), (.int (8 : Int32)), (.ref b1)])) rfl rfl (hb hby at_126)
  obtain ⟨fa19, hf19⟩ : ∃ z, z = oset fa17 8 ((f1 q2 (0 : Int32) q3 (8 : Int32)).toInt8.toInt32) := ⟨_, rfl⟩
  have O19 := O19'
  rw [← hf19] at O19
  have N19 := Fr.snoc X19 N18 gb1
  have Z19 : n0 ≤ h19.size := Nat.le_trans Z17 (Keep.of_wr W19).1
  obtain ⟨lo19, X19, N19⟩ : ∃ L, Stand p l e room_1 s m #[(.long q1), (.long q2), (.int q3)] below meth c T19 L 1 13 ∧ Fr n0 L := ⟨_, X19, N19⟩
  refine OGo.st (fun t k => st19 t k) ?_
  show OGo p e below _ (T19.setTop (mkF m 127 #[.val (.long q1), .second, .val (.long q2), .second, .val (.int q3), .val (.ref b1), .unset] []))
  refine OGo.st (fun t k => XS.aload X19.here hx rfl (hb hby at_127) rfl rfl k) ?_
  show OGo p e below _ (T19.setTop (mkF m 129 #[.val (.long q1), .second, .val (.long q2), .second, .val (.int q3), .val (.ref b1), .unset] [(.ref b1)]))
  refine OGo.st (fun t k => XS.bipush X19.here hx rfl (hb hby at_129) k) ?_
  show OGo p e below _ (T19.setTop (mkF m 131 #[.val (.long q1), .second, .val (.long q2), .second, .val (.int q3), .val (.ref b1), .unset] [(.int (9 : Int32)), (.ref b1)]))
  refine OGo.st (fun t k => XS.lloadN X19.here hx rfl (hb hby at_131) rfl k) ?_
  show OGo p e below _ (T19.setTop (mkF m 132 #[.val (.long q1), .second, .val (.long q2), .second, .val (.int q3), .val (.ref b1), .unset] [(.long q2), (.int (9 : Int32)), (.ref b1)]))
  refine OGo.st (fun t k => XS.bipush X19.here hx rfl (hb hby at_132) k) ?_
  show OGo p e below _ (T19.setTop (mkF m 134 #[.val (.long q1), .second, .val (.long q2), .second, .val (.int q3), .val (.ref b1), .unset] [(.int (8 : Int32)), (.long q2), (.int (9 : Int32)), (.ref b1)]))
  refine OGo.st (fun t k => XS.iload X19.here hx rfl (hb hby at_134) rfl k) ?_
  show OGo p e below _ (T19.setTop (mkF m 136 #[.val (.long q1), .second, .val (.long q2), .second, .val (.int q3), .val (.ref b1), .unset] [(.int q3), (.int (8 : Int32)), (.long q2), (.int (9 : Int32)), (.ref b1)]))
  refine OGo.st (fun t k => XS.bipush X19.here hx rfl (hb hby at_136) k) ?_
  show OGo p e below _ (T19.setTop (mkF m 138 #[.val (.long q1), .second, .val (.long q2), .second, .val (.int q3), .val (.ref b1), .unset] [(.int (9 : Int32)), (.int q3), (.int (8 : Int32)), (.long q2), (.int (9 : Int32)), (.ref b1)]))
  obtain ⟨_, _, ⟨T20, L20, k20, n20⟩, -, X20, ⟨Lc20, hQ20, l20, y20, z20⟩, st20⟩ := Jvm.LawKit.callS X19 hx (y := (⟨"com/example/distinguo/distinguo/codec/ArcsFitLongsPinLaw", "octet", "(JIII)B"⟩ : MethodName)) hown (mvT hZ (hw _ (List.mem_of_getElem? (i := 1) rfl))) (mvT hZ (hw _ (List.mem_of_getElem? (i := 2) rfl))) (mvT hZ (hw _ (List.mem_of_getElem? (i := 3) rfl))) (mvT hZ (hw _ (List.mem_of_getElem? (i := 4) rfl))) (by decide) (backOf (W := 2) (rm1 l Z a0 hw [] q2 (8 : Int32) q3 (9 : Int32) h19 n0 Z19) hZ (hw _ (List.mem_of_getElem? (i := 4) rfl)) (hw _ (List.mem_of_getElem? (i := 3) rfl)) (by decide) (by decide)) (g := (mkF m 138 #[.val (.long q1), .second, .val (.long q2), .second, .val (.int q3), .val (.ref b1), .unset] [(.int (9 : Int32)), (.int q3), (.int (8 : Int32)), (.long q2), (.int (9 : Int32)), (.ref b1)])) rfl (by rw [hml]; rfl) (argsL := [(.long q2), (.int (8 : Int32)), (.int q3), (.int (9 : Int32))]) (rest := [(.int (9 : Int32)), (.ref b1)]) (lenOf pd0_0 rfl) rfl (by show 2 * 0 + _ ≤ _; exact Nat.le_of_eq rfl) (hb hby at_138) (fun _ _ => ⟨rfl, e19, (by decide : 1 + 0 ≤ _), (by decide : 13 + 0 ≤ _)⟩)
  dsimp only [Pt.U, Pt.locs, Pt.cells, Pt.slots] at X20 l20 y20 z20 st20 hQ20
  subst l20 y20 z20
  obtain ⟨rfl, Nq20, e20⟩ := hQ20
  have N20 := Fr.app N19 Nq20
  obtain ⟨lo20, X20, N20⟩ : ∃ L, Stand p l e room_1 s m #[(.long q1), (.long q2), (.int q3)] below meth c T20 L 1 13 ∧ Fr n0 L := ⟨_, X20, N20⟩
  refine OGo.st (fun t k => st20 t k) ?_
  show OGo p e below _ (T20.setTop (mkF m 141 #[.val (.long q1), .second, .val (.long q2), .second, .val (.int q3), .val (.ref b1), .unset] [(.int (f1 q2 (8 : Int32) q3 (9 : Int32))), (.int (9 : Int32)), (.ref b1)]))
  obtain ⟨T21, h21, X21, e21, W21, O21', st21⟩ := OA.stB X20 hx hZ e20 O19 (j := (9 : Int32)) (x := (f1 q2 (8 : Int32) q3 (9 : Int32))) (k := 9) (by decide) (by decide) (by decide) (g := (mkF m 141 #[.val (.long q1), .second, .val (.long q2), .second, .val (.int q3), .val (.ref b1), .unset] [(.int (f1 q2 (8 : Int32) q3 (9 : Int32))), (.int (9 : Int32)), (.ref b1)])) rfl rfl (hb hby at_141)
  obtain ⟨fa21, hf21⟩ : ∃ z, z = oset fa19 9 ((f1 q2 (8 : Int32) q3 (9 : Int32)).toInt8.toInt32) := ⟨_, rfl⟩
  have O21 := O21'
  rw [← hf21] at O21
  have N21 := Fr.snoc X21 N20 gb1
  have Z21 : n0 ≤ h21.size := Nat.le_trans Z19 (Keep.of_wr W21).1
  obtain ⟨lo21, X21, N21⟩ : ∃ L, Stand p l e room_1 s m #[(.long q1), (.long q2), (.int q3)] below meth c T21 L 1 13 ∧ Fr n0 L := ⟨_, X21, N21⟩
  refine OGo.st (fun t k => st21 t k) ?_
  show OGo p e below _ (T21.setTop (mkF m 142 #[.val (.long q1), .second, .val (.long q2), .second, .val (.int q3), .val (.ref b1), .unset] []))
  refine OGo.st (fun t k => XS.aload X21.here hx rfl (hb hby at_142) rfl rfl k) ?_
  show OGo p e below _ (T21.setTop (mkF m 144 #[.val (.long q1), .second, .val (.long q2), .second, .val (.int q3), .val (.ref b1), .unset] [(.ref b1)]))
  refine OGo.st (fun t k => XS.bipush X21.here hx rfl (hb hby at_144) k) ?_
  show OGo p e below _ (T21.setTop (mkF m 146 #[.val (.long q1), .second, .val (.long q2), .second, .val (.int q3), .val (.ref b1), .unset] [(.int (10 : Int32)), (.ref b1)]))
  refine OGo.st (fun t k => XS.lloadN X21.here hx rfl (hb hby at_146) rfl k) ?_
  show OGo p e below _ (T21.setTop (mkF m 147 #[.val (.long q1), .second, .val (.long q2), .second, .val (.int q3), .val (.ref b1), .unset] [(.long q2), (.int (10 : Int32)), (.ref b1)]))
  refine OGo.st (fun t k => XS.bipush X21.here hx rfl (hb hby at_147) k) ?_
  show OGo p e below _ (T21.setTop (mkF m 149 #[.val (.long q1), .second, .val (.long q2), .second, .val (.int q3), .val (.ref b1), .unset] [(.int (16 : Int32)), (.long q2), (.int (10 : Int32)), (.ref b1)]))
  refine OGo.st (fun t k => XS.iload X21.here hx rfl (hb hby at_149) rfl k) ?_
  show OGo p e below _ (T21.setTop (mkF m 151 #[.val (.long q1), .second, .val (.long q2), .second, .val (.int q3), .val (.ref b1), .unset] [(.int q3), (.int (16 : Int32)), (.long q2), (.int (10 : Int32)), (.ref b1)]))
  refine OGo.st (fun t k => XS.bipush X21.here hx rfl (hb hby at_151) k) ?_
  show OGo p e below _ (T21.setTop (mkF m 153 #[.val (.long q1), .second, .val (.long q2), .second, .val (.int q3), .val (.ref b1), .unset] [(.int (10 : Int32)), (.int q3), (.int (16 : Int32)), (.long q2), (.int (10 : Int32)), (.ref b1)]))
  obtain ⟨_, _, ⟨T22, L22, k22, n22⟩, -, X22, ⟨Lc22, hQ22, l22, y22, z22⟩, st22⟩ := Jvm.LawKit.callS X21 hx (y := (⟨"com/example/distinguo/distinguo/codec/ArcsFitLongsPinLaw", "octet", "(JIII)B"⟩ : MethodName)) hown (mvT hZ (hw _ (List.mem_of_getElem? (i := 1) rfl))) (mvT hZ (hw _ (List.mem_of_getElem? (i := 2) rfl))) (mvT hZ (hw _ (List.mem_of_getElem? (i := 3) rfl))) (mvT hZ (hw _ (List.mem_of_getElem? (i := 4) rfl))) (by decide) (backOf (W := 2) (rm1 l Z a0 hw [] q2 (16 : Int32) q3 (10 : Int32) h21 n0 Z21) hZ (hw _ (List.mem_of_getElem? (i := 4) rfl)) (hw _ (List.mem_of_getElem? (i := 3) rfl)) (by decide) (by decide)) (g := (mkF m 153 #[.val (.long q1), .second, .val (.long q2), .second, .val (.int q3), .val (.ref b1), .unset] [(.int (10 : Int32)), (.int q3), (.int (16 : Int32)), (.long q2), (.int (10 : Int32)), (.ref b1)])) rfl (by rw [hml]; rfl) (argsL := [(.long q2), (.int (16 : Int32)), (.int q3), (.int (10 : Int32))]) (rest := [(.int (10 : Int32)), (.ref b1)]) (lenOf pd0_0 rfl) rfl (by show 2 * 0 + _ ≤ _; exact Nat.le_of_eq rfl) (hb hby at_153) (fun _ _ => ⟨rfl, e21, (by decide : 1 + 0 ≤ _), (by decide : 13 + 0 ≤ _)⟩)
  dsimp only [Pt.U, Pt.locs, Pt.cells, Pt.slots] at X22 l22 y22 z22 st22 hQ22
  subst l22 y22 z22
  obtain ⟨rfl, Nq22, e22⟩ := hQ22
  have N22 := Fr.app N21 Nq22
  obtain ⟨lo22, X22, N22⟩ : ∃ L, Stand p l e room_1 s m #[(.long q1), (.long q2), (.int q3)] below meth c T22 L 1 13 ∧ Fr n0 L := ⟨_, X22, N22⟩
  refine OGo.st (fun t k => st22 t k) ?_
  show OGo p e below _ (T22.setTop (mkF m 156 #[.val (.long q1), .second, .val (.long q2), .second, .val (.int q3), .val (.ref b1), .unset] [(.int (f1 q2 (16 : Int32) q3 (10 : Int32))), (.int (10 : Int32)), (.ref b1)]))
  obtain ⟨T23, h23, X23, e23, W23, O23', st23⟩ := OA.stB X22 hx hZ e22 O21 (j := (10 : Int32)) (x := (f1 q2 (16 : Int32) q3 (10 : Int32))) (k := 10) (by decide) (by decide) (by decide) (g := (mkF m 156 #[.val (.long q1), .second, .val (.long q2), .second, .val (.int q3), .val (.ref b1), .unset] [(.int (f1 q2 (16 : Int32) q3 (10 : Int32))), (.int (10 : Int32)), (.ref b1)])) rfl rfl (hb hby at_156)
  obtain ⟨fa23, hf23⟩ : ∃ z, z = oset fa21 10 ((f1 q2 (16 : Int32) q3 (10 : Int32)).toInt8.toInt32) := ⟨_, rfl⟩
  have O23 := O23'
  rw [← hf23] at O23
  have N23 := Fr.snoc X23 N22 gb1
  have Z23 : n0 ≤ h23.size := Nat.le_trans Z21 (Keep.of_wr W23).1
  obtain ⟨lo23, X23, N23⟩ : ∃ L, Stand p l e room_1 s m #[(.long q1), (.long q2), (.int q3)] below meth c T23 L 1 13 ∧ Fr n0 L := ⟨_, X23, N23⟩
  refine OGo.st (fun t k => st23 t k) ?_
  show OGo p e below _ (T23.setTop (mkF m 157 #[.val (.long q1), .second, .val (.long q2), .second, .val (.int q3), .val (.ref b1), .unset] []))
  refine OGo.st (fun t k => XS.aload X23.here hx rfl (hb hby at_157) rfl rfl k) ?_
  show OGo p e below _ (T23.setTop (mkF m 159 #[.val (.long q1), .second, .val (.long q2), .second, .val (.int q3), .val (.ref b1), .unset] [(.ref b1)]))
  refine OGo.st (fun t k => XS.bipush X23.here hx rfl (hb hby at_159) k) ?_
  show OGo p e below _ (T23.setTop (mkF m 161 #[.val (.long q1), .second, .val (.long q2), .second, .val (.int q3), .val (.ref b1), .unset] [(.int (11 : Int32)), (.ref b1)]))
  refine OGo.st (fun t k => XS.lloadN X23.here hx rfl (hb hby at_161) rfl k) ?_
  show OGo p e below _ (T23.setTop (mkF m 162 #[.val (.long q1), .second, .val (.long q2), .second, .val (.int q3), .val (.ref b1), .unset] [(.long q2), (.int (11 : Int32)), (.ref b1)]))
  refine OGo.st (fun t k => XS.bipush X23.here hx rfl (hb hby at_162) k) ?_
  show OGo p e below _ (T23.setTop (mkF m 164 #[.val (.long q1), .second, .val (.long q2), .second, .val (.int q3), .val (.ref b1), .unset] [(.int (24 : Int32)), (.long q2), (.int (11 : Int32)), (.ref b1)]))
  refine OGo.st (fun t k => XS.iload X23.here hx rfl (hb hby at_164) rfl k) ?_
  show OGo p e below _ (T23.setTop (mkF m 166 #[.val (.long q1), .second, .val (.long q2), .second, .val (.int q3), .val (.ref b1), .unset] [(.int q3), (.int (24 : Int32)), (.long q2), (.int (11 : Int32)), (.ref b1)]))
  refine OGo.st (fun t k => XS.bipush X23.here hx rfl (hb hby at_166) k) ?_
  show OGo p e below _ (T23.setTop (mkF m 168 #[.val (.long q1), .second, .val (.long q2), .second, .val (.int q3), .val (.ref b1), .unset] [(.int (11 : Int32)), (.int q3), (.int (24 : Int32)), (.long q2), (.int (11 : Int32)), (.ref b1)]))
  obtain ⟨_, _, ⟨T24, L24, k24, n24⟩, -, X24, ⟨Lc24, hQ24, l24, y24, z24⟩, st24⟩ := Jvm.LawKit.callS X23 hx (y := (⟨"com/example/distinguo/distinguo/codec/ArcsFitLongsPinLaw", "octet", "(JIII)B"⟩ : MethodName)) hown (mvT hZ (hw _ (List.mem_of_getElem? (i := 1) rfl))) (mvT hZ (hw _ (List.mem_of_getElem? (i := 2) rfl))) (mvT hZ (hw _ (List.mem_of_getElem? (i := 3) rfl))) (mvT hZ (hw _ (List.mem_of_getElem? (i := 4) rfl))) (by decide) (backOf (W := 2) (rm1 l Z a0 hw [] q2 (24 : Int32) q3 (11 : Int32) h23 n0 Z23) hZ (hw _ (List.mem_of_getElem? (i := 4) rfl)) (hw _ (List.mem_of_getElem? (i := 3) rfl)) (by decide) (by decide)) (g := (mkF m 168 #[.val (.long q1), .second, .val (.long q2), .second, .val (.int q3), .val (.ref b1), .unset] [(.int (11 : Int32)), (.int q3), (.int (24 : Int32)), (.long q2), (.int (11 : Int32)), (.ref b1)])) rfl (by rw [hml]; rfl) (argsL := [(.long q2), (.int (24 : Int32)), (.int q3), (.int (11 : Int32))]) (rest := [(.int (11 : Int32)), (.ref b1)]) (lenOf pd0_0 rfl) rfl (by show 2 * 0 + _ ≤ _; exact Nat.le_of_eq rfl) (hb hby at_168) (fun _ _ => ⟨rfl, e23, (by decide : 1 + 0 ≤ _), (by decide : 13 + 0 ≤ _)⟩)
  dsimp only [Pt.U, Pt.locs, Pt.cells, Pt.slots] at X24 l24 y24 z24 st24 hQ24
  subst l24 y24 z24
  obtain ⟨rfl, Nq24, e24⟩ := hQ24
  have N24 := Fr.app N23 Nq24
  obtain ⟨lo24, X24, N24⟩ : ∃ L, Stand p l e room_1 s m #[(.long q1), (.long q2), (.int q3)] below meth c T24 L 1 13 ∧ Fr n0 L := ⟨_, X24, N24⟩
  refine OGo.st (fun t k => st24 t k) ?_
  show OGo p e below _ (T24.setTop (mkF m 171 #[.val (.long q1), .second, .val (.long q2), .second, .val (.int q3), .val (.ref b1), .unset] [(.int (f1 q2 (24 : Int32) q3 (11 : Int32))), (.int (11 : Int32)), (.ref b1)]))
  obtain ⟨T25, h25, X25, e25, W25, O25', st25⟩ := OA.stB X24 hx hZ e24 O23 (j := (11 : Int32)) (x := (f1 q2 (24 : Int32) q3 (11 : Int32))) (k := 11) (by decide) (by decide) (by decide) (g := (mkF m 171 #[.val (.long q1), .second, .val (.long q2), .second, .val (.int q3), .val (.ref b1), .unset] [(.int (f1 q2 (24 : Int32) q3 (11 : Int32))), (.int (11 : Int32)), (.ref b1)])) rfl rfl (hb hby at_171)
  obtain ⟨fa25, hf25⟩ : ∃ z, z = oset fa23 11 ((f1 q2 (24 : Int32) q3 (11 : Int32)).toInt8.toInt32) := ⟨_, rfl⟩
  have O25 := O25'
  rw [← hf25] at O25
  have N25 := Fr.snoc X25 N24 gb1
  have Z25 : n0 ≤ h25.size := Nat.le_trans Z23 (Keep.of_wr W25).1
  obtain ⟨lo25, X25, N25⟩ : ∃ L, Stand p l e room_1 s m #[(.long q1), (.long q2), (.int q3)] below meth c T25 L 1 13 ∧ Fr n0 L := ⟨_, X25, N25⟩
  refine OGo.st (fun t k => st25 t k) ?_
  show OGo p e below _ (T25.setTop (mkF m 172 #[.val (.long q1), .second, .val (.long q2), .second, .val (.int q3), .val (.ref b1), .unset] []))
  refine OGo.st (fun t k => XS.aload X25.here hx rfl (hb hby at_172) rfl rfl k) ?_
  show OGo p e below _ (T25.setTop (mkF m 174 #[.val (.long q1), .second, .val (.long q2), .second, .val (.int q3), .val (.ref b1), .unset] [(.ref b1)]))
  refine OGo.st (fun t k => XS.bipush X25.here hx rfl (hb hby at_174) k) ?_
  show OGo p e below _ (T25.setTop (mkF m 176 #[.val (.long q1), .second, .val (.long q2), .second, .val (.int q3), .val (.ref b1), .unset] [(.int (12 : Int32)), (.ref b1)]))
  refine OGo.st (fun t k => XS.lloadN X25.here hx rfl (hb hby at_176) rfl k) ?_
  show OGo p e below _ (T25.setTop (mkF m 177 #[.val (.long q1), .second, .val (.long q2), .second, .val (.int q3), .val (.ref b1), .unset] [(.long q2), (.int (12 : Int32)), (.ref b1)]))
  refine OGo.st (fun t k => XS.bipush X25.here hx rfl (hb hby at_177) k) ?_
  show OGo p e below _ (T25.setTop (mkF m 179 #[.val (.long q1), .second, .val (.long q2), .second, .val (.int q3), .val (.ref b1), .unset] [(.int (32 : Int32)), (.long q2), (.int (12 : Int32)), (.ref b1)]))
  refine OGo.st (fun t k => XS.lushr X25.here hx rfl (hb hby at_179) rfl k) ?_
  show OGo p e below _ (T25.setTop (mkF m 180 #[.val (.long q1), .second, .val (.long q2), .second, .val (.int q3), .val (.ref b1), .unset] [(.long ((q2.toUInt64 >>> ((32 : Int32) &&& 0x3f).toInt64.toUInt64).toInt64)), (.int (12 : Int32)), (.ref b1)]))
  refine OGo.st (fun t k => X25.ldc2Long hx hown (mvT hZ (hw _ (List.mem_of_getElem? (i := 6) rfl))) (g := (mkF m 180 #[.val (.long q1), .second, .val (.long q2), .second, .val (.int q3), .val (.ref b1), .unset] [(.long ((q2.toUInt64 >>> ((32 : Int32) &&& 0x3f).toInt64.toUInt64).toInt64)), (.int (12 : Int32)), (.ref b1)])) rfl (hb hby at_180) t k) ?_
  show OGo p e below _ (T25.setTop (mkF m 183 #[.val (.long q1), .second, .val (.long q2), .second, .val (.int q3), .val (.ref b1), .unset] [(.long (127 : Int64)), (.long ((q2.toUInt64 >>> ((32 : Int32) &&& 0x3f).toInt64.toUInt64).toInt64)), (.int (12 : Int32)), (.ref b1)]))
  refine OGo.st (fun t k => XS.land X25.here hx rfl (hb hby at_183) rfl k) ?_
  show OGo p e below _ (T25.setTop (mkF m 184 #[.val (.long q1), .second, .val (.long q2), .second, .val (.int q3), .val (.ref b1), .unset] [(.long (((q2.toUInt64 >>> ((32 : Int32) &&& 0x3f).toInt64.toUInt64).toInt64) &&& (127 : Int64))), (.int (12 : Int32)), (.ref b1)]))
  refine OGo.st (fun t k => XS.l2i X25.here hx rfl (hb hby at_184) rfl k) ?_
  show OGo p e below _ (T25.setTop (mkF m 185 #[.val (.long q1), .second, .val (.long q2), .second, .val (.int q3), .val (.ref b1), .unset] [(.int ((((q2.toUInt64 >>> ((32 : Int32) &&& 0x3f).toInt64.toUInt64).toInt64) &&& (127 : Int64)).toInt32)), (.int (12 : Int32)), (.ref b1)]))
  refine OGo.st (fun t k => XS.i2b X25.here hx rfl (hb hby at_185) rfl k) ?_
  show OGo p e below _ (T25.setTop (mkF m 186 #[.val (.long q1), .second, .val (.long q2), .second, .val (.int q3), .val (.ref b1), .unset] [(.int (((((q2.toUInt64 >>> ((32 : Int32) &&& 0x3f).toInt64.toUInt64).toInt64) &&& (127 : Int64)).toInt32).toInt8.toInt32)), (.int (12 : Int32)), (.ref b1)]))
  obtain ⟨T26, h26, X26, e26, W26, O26', st26⟩ := OA.stB X25 hx hZ e25 O25 (j := (12 : Int32)) (x := (((((q2.toUInt64 >>> ((32 : Int32) &&& 0x3f).toInt64.toUInt64).toInt64) &&& (127 : Int64)).toInt32).toInt8.toInt32)) (k := 12) (by decide) (by decide) (by decide) (g := (mkF m 186 #[.val (.long q1), .second, .val (.long q2), .second, .val (.int q3), .val (.ref b1), .unset] [(.int (((((q2.toUInt64 >>> ((32 : Int32) &&& 0x3f).toInt64.toUInt64).toInt64) &&& (127 : Int64)).toInt32).toInt8.toInt32)), (.int (12 : Int32)), (.ref b1)])) rfl rfl (hb hby at_186)
  obtain ⟨fa26, hf26⟩ : ∃ z, z = oset fa25 12 ((((((q2.toUInt64 >>> ((32 : Int32) &&& 0x3f).toInt64.toUInt64).toInt64) &&& (127 : Int64)).toInt32).toInt8.toInt32).toInt8.toInt32) := ⟨_, rfl⟩
  have O26 := O26'
  rw [← hf26] at O26
  have N26 := Fr.snoc X26 N25 gb1
  have Z26 : n0 ≤ h26.size := Nat.le_trans Z25 (Keep.of_wr W26).1
  obtain ⟨lo26, X26, N26⟩ : ∃ L, Stand p l e room_1 s m #[(.long q1), (.long q2), (.int q3)] below meth c T26 L 1 13 ∧ Fr n0 L := ⟨_, X26, N26⟩
  refine OGo.st (fun t k => st26 t k) ?_
  show OGo p e below _ (T26.setTop (mkF m 187 #[.val (.long q1), .second, .val (.long q2), .second, .val (.int q3), .val (.ref b1), .unset] []))
  refine OGo.st (fun t k => XS.aload X26.here hx rfl (hb hby at_187) rfl rfl k) ?_
  show OGo p e below _ (T26.setTop (mkF m 189 #[.val (.long q1), .second, .val (.long q2), .second, .val (.int q3), .val (.ref b1), .unset] [(.ref b1)]))
  refine OGo.st (fun t k => XS.iconst X26.here hx rfl (hb hby at_189) k) ?_
  show OGo p e below _ (T26.setTop (mkF m 190 #[.val (.long q1), .second, .val (.long q2), .second, .val (.int q3), .val (.ref b1), .unset] [(.int (0 : Int32)), (.ref b1)]))
  obtain ⟨_, _, ⟨T27, L27, k27, n27⟩, -, X27, ⟨Lc27, hQ27, l27, y27, z27⟩, st27⟩ := Jvm.LawKit.callS X26 hx (y := (⟨"com/example/distinguo/distinguo/codec/ArcsFitLongsPinLaw", "runOfNine", "([BI)Z"⟩ : MethodName)) hown (mvT hZ (hw _ (List.mem_of_getElem? (i := 7) rfl))) (mvT hZ (hw _ (List.mem_of_getElem? (i := 8) rfl))) (mvT hZ (hw _ (List.mem_of_getElem? (i := 3) rfl))) (mvT hZ (hw _ (List.mem_of_getElem? (i := 9) rfl))) (by decide) (backOf (W := 0) (rm2 l Z a0 hw [] b1 0 fa26 h26 n0 Z26 O26 (by decide)) hZ (hw _ (List.mem_of_getElem? (i := 9) rfl)) (hw _ (List.mem_of_getElem? (i := 3) rfl)) (by decide) (by decide)) (g := (mkF m 190 #[.val (.long q1), .second, .val (.long q2), .second, .val (.int q3), .val (.ref b1), .unset] [(.int (0 : Int32)), (.ref b1)])) rfl (by rw [hml]; rfl) (argsL := [(.ref b1), (.int (0 : Int32))]) (rest := []) (lenOf pd0_1 rfl) rfl (by show 2 * 0 + _ ≤ _; exact Nat.le_of_eq rfl) (hb hby at_190) (fun _ _ => ⟨rfl, e26, (by decide : 1 + 0 ≤ _), (by decide : 13 + 0 ≤ _)⟩)
  dsimp only [Pt.U, Pt.locs, Pt.cells, Pt.slots] at X27 l27 y27 z27 st27 hQ27
  subst l27 y27 z27
  obtain ⟨rfl, Nq27, e27⟩ := hQ27
  have N27 := Fr.app N26 Nq27
  obtain ⟨lo27, X27, N27⟩ : ∃ L, Stand p l e room_1 s m #[(.long q1), (.long q2), (.int q3)] below meth c T27 L 1 13 ∧ Fr n0 L := ⟨_, X27, N27⟩
  refine OGo.st (fun t k => st27 t k) ?_
  show OGo p e below _ (T27.setTop (mkF m 193 #[.val (.long q1), .second, .val (.long q2), .second, .val (.int q3), .val (.ref b1), .unset] [(.int (RN fa26 0))]))
  by_cases hc193_28 : (RN fa26 0) = (0 : Int32)
  · refine OGo.st (fun t k => XS.ifNo X27.here hx rfl (hb hby at_193) rfl ((if0 _ _).trans (teq hc193_28).2) k) ?_
    show OGo p e below _ (T27.setTop (mkF m 196 #[.val (.long q1), .second, .val (.long q2), .second, .val (.int q3), .val (.ref b1), .unset] []))
    refine OGo.st (fun t k => XS.aload X27.here hx rfl (hb hby at_196) rfl rfl k) ?_
    show OGo p e below _ (T27.setTop (mkF m 198 #[.val (.long q1), .second, .val (.long q2), .second, .val (.int q3), .val (.ref b1), .unset] [(.ref b1)]))
    refine OGo.st (fun t k => XS.iconst X27.here hx rfl (hb hby at_198) k) ?_
    show OGo p e below _ (T27.setTop (mkF m 199 #[.val (.long q1), .second, .val (.long q2), .second, .val (.int q3), .val (.ref b1), .unset] [(.int (1 : Int32)), (.ref b1)]))
    obtain ⟨_, _, ⟨T29, L29, k29, n29⟩, -, X29, ⟨Lc29, hQ29, l29, y29, z29⟩, st29⟩ := Jvm.LawKit.callS X27 hx (y := (⟨"com/example/distinguo/distinguo/codec/ArcsFitLongsPinLaw", "runOfNine", "([BI)Z"⟩ : MethodName)) hown (mvT hZ (hw _ (List.mem_of_getElem? (i := 7) rfl))) (mvT hZ (hw _ (List.mem_of_getElem? (i := 8) rfl))) (mvT hZ (hw _ (List.mem_of_getElem? (i := 3) rfl))) (mvT hZ (hw _ (List.mem_of_getElem? (i := 9) rfl))) (by decide) (backOf (W := 0) (rm2 l Z a0 hw [] b1 1 fa26 h26 n0 Z26 O26 (by decide)) hZ (hw _ (List.mem_of_getElem? (i := 9) rfl)) (hw _ (List.mem_of_getElem? (i := 3) rfl)) (by decide) (by decide)) (g := (mkF m 199 #[.val (.long q1), .second, .val (.long q2), .second, .val (.int q3), .val (.ref b1), .unset] [(.int (1 : Int32)), (.ref b1)])) rfl (by rw [hml]; rfl) (argsL := [(.ref b1), (.int (1 : Int32))]) (rest := []) (lenOf pd0_1 rfl) rfl (by show 2 * 0 + _ ≤ _; exact Nat.le_of_eq rfl) (hb hby at_199) (fun _ _ => ⟨rfl, e27, (by decide : 1 + 0 ≤ _), (by decide : 13 + 0 ≤ _)⟩)
    dsimp only [Pt.U, Pt.locs, Pt.cells, Pt.slots] at X29 l29 y29 z29 st29 hQ29
    subst l29 y29 z29
    obtain ⟨rfl, Nq29, e29⟩ := hQ29
    have N29 := Fr.app N27 Nq29
    obtain ⟨lo29, X29, N29⟩ : ∃ L, Stand p l e room_1 s m #[(.long q1), (.long q2), (.int q3)] below meth c T29 L 1 13 ∧ Fr n0 L := ⟨_, X29, N29⟩
    refine OGo.st (fun t k => st29 t k) ?_
    show OGo p e below _ (T29.setTop (mkF m 202 #[.val (.long q1), .second, .val (.long q2), .second, .val (.int q3), .val (.ref b1), .unset] [(.int (RN fa26 1))]))
    by_cases hc202_30 : (RN fa26 1) = (0 : Int32)
    · refine OGo.st (fun t k => XS.ifNo X29.here hx rfl (hb hby at_202) rfl ((if0 _ _).trans (teq hc202_30).2) k) ?_
      show OGo p e below _ (T29.setTop (mkF m 205 #[.val (.long q1), .second, .val (.long q2), .second, .val (.int q3), .val (.ref b1), .unset] []))
      refine OGo.st (fun t k => XS.aload X29.here hx rfl (hb hby at_205) rfl rfl k) ?_
      show OGo p e below _ (T29.setTop (mkF m 207 #[.val (.long q1), .second, .val (.long q2), .second, .val (.int q3), .val (.ref b1), .unset] [(.ref b1)]))
      refine OGo.st (fun t k => XS.iconst X29.here hx rfl (hb hby at_207) k) ?_
      show OGo p e below _ (T29.setTop (mkF m 208 #[.val (.long q1), .second, .val (.long q2), .second, .val (.int q3), .val (.ref b1), .unset] [(.int (2 : Int32)), (.ref b1)]))
      obtain ⟨_, _, ⟨T31, L31, k31, n31⟩, -, X31, ⟨Lc31, hQ31, l31, y31, z31⟩, st31⟩ := Jvm.LawKit.callS X29 hx (y := (⟨"com/example/distinguo/distinguo/codec/ArcsFitLongsPinLaw", "runOfNine", "([BI)Z"⟩ : MethodName)) hown (mvT hZ (hw _ (List.mem_of_getElem? (i := 7) rfl))) (mvT hZ (hw _ (List.mem_of_getElem? (i := 8) rfl))) (mvT hZ (hw _ (List.mem_of_getElem? (i := 3) rfl))) (mvT hZ (hw _ (List.mem_of_getElem? (i := 9) rfl))) (by decide) (backOf (W := 0) (rm2 l Z a0 hw [] b1 2 fa26 h26 n0 Z26 O26 (by decide)) hZ (hw _ (List.mem_of_getElem? (i := 9) rfl)) (hw _ (List.mem_of_getElem? (i := 3) rfl)) (by decide) (by decide)) (g := (mkF m 208 #[.val (.long q1), .second, .val (.long q2), .second, .val (.int q3), .val (.ref b1), .unset] [(.int (2 : Int32)), (.ref b1)])) rfl (by rw [hml]; rfl) (argsL := [(.ref b1), (.int (2 : Int32))]) (rest := []) (lenOf pd0_1 rfl) rfl (by show 2 * 0 + _ ≤ _; exact Nat.le_of_eq rfl) (hb hby at_208) (fun _ _ => ⟨rfl, e29, (by decide : 1 + 0 ≤ _), (by decide : 13 + 0 ≤ _)⟩)
      dsimp only [Pt.U, Pt.locs, Pt.cells, Pt.slots] at X31 l31 y31 z31 st31 hQ31
      subst l31 y31 z31
      obtain ⟨rfl, Nq31, e31⟩ := hQ31
      have N31 := Fr.app N29 Nq31
      obtain ⟨lo31, X31, N31⟩ : ∃ L, Stand p l e room_1 s m #[(.long q1), (.long q2), (.int q3)] below meth c T31 L 1 13 ∧ Fr n0 L := ⟨_, X31, N31⟩
      refine OGo.st (fun t k => st31 t k) ?_
      show OGo p e below _ (T31.setTop (mkF m 211 #[.val (.long q1), .second, .val (.long q2), .second, .val (.int q3), .val (.ref b1), .unset] [(.int (RN fa26 2))]))
      by_cases hc211_32 : (RN fa26 2) = (0 : Int32)
      · refine OGo.st (fun t k => XS.ifNo X31.here hx rfl (hb hby at_211) rfl ((if0 _ _).trans (teq hc211_32).2) k) ?_
        show OGo p e below _ (T31.setTop (mkF m 214 #[.val (.long q1), .second, .val (.long q2), .second, .val (.int q3), .val (.ref b1), .unset] []))
        refine OGo.st (fun t k => XS.aload X31.here hx rfl (hb hby at_214) rfl rfl k) ?_
        show OGo p e below _ (T31.setTop (mkF m 216 #[.val (.long q1), .second, .val (.long q2), .second, .val (.int q3), .val (.ref b1), .unset] [(.ref b1)]))
        refine OGo.st (fun t k => XS.iconst X31.here hx rfl (hb hby at_216) k) ?_
        show OGo p e below _ (T31.setTop (mkF m 217 #[.val (.long q1), .second, .val (.long q2), .second, .val (.int q3), .val (.ref b1), .unset] [(.int (3 : Int32)), (.ref b1)]))
        obtain ⟨_, _, ⟨T33, L33, k33, n33⟩, -, X33, ⟨Lc33, hQ33, l33, y33, z33⟩, st33⟩ := Jvm.LawKit.callS X31 hx (y := (⟨"com/example/distinguo/distinguo/codec/ArcsFitLongsPinLaw", "runOfNine", "([BI)Z"⟩ : MethodName)) hown (mvT hZ (hw _ (List.mem_of_getElem? (i := 7) rfl))) (mvT hZ (hw _ (List.mem_of_getElem? (i := 8) rfl))) (mvT hZ (hw _ (List.mem_of_getElem? (i := 3) rfl))) (mvT hZ (hw _ (List.mem_of_getElem? (i := 9) rfl))) (by decide) (backOf (W := 0) (rm2 l Z a0 hw [] b1 3 fa26 h26 n0 Z26 O26 (by decide)) hZ (hw _ (List.mem_of_getElem? (i := 9) rfl)) (hw _ (List.mem_of_getElem? (i := 3) rfl)) (by decide) (by decide)) (g := (mkF m 217 #[.val (.long q1), .second, .val (.long q2), .second, .val (.int q3), .val (.ref b1), .unset] [(.int (3 : Int32)), (.ref b1)])) rfl (by rw [hml]; rfl) (argsL := [(.ref b1), (.int (3 : Int32))]) (rest := []) (lenOf pd0_1 rfl) rfl (by show 2 * 0 + _ ≤ _; exact Nat.le_of_eq rfl) (hb hby at_217) (fun _ _ => ⟨rfl, e31, (by decide : 1 + 0 ≤ _), (by decide : 13 + 0 ≤ _)⟩)
        dsimp only [Pt.U, Pt.locs, Pt.cells, Pt.slots] at X33 l33 y33 z33 st33 hQ33
        subst l33 y33 z33
        obtain ⟨rfl, Nq33, e33⟩ := hQ33
        have N33 := Fr.app N31 Nq33
        obtain ⟨lo33, X33, N33⟩ : ∃ L, Stand p l e room_1 s m #[(.long q1), (.long q2), (.int q3)] below meth c T33 L 1 13 ∧ Fr n0 L := ⟨_, X33, N33⟩
        refine OGo.st (fun t k => st33 t k) ?_
        show OGo p e below _ (T33.setTop (mkF m 220 #[.val (.long q1), .second, .val (.long q2), .second, .val (.int q3), .val (.ref b1), .unset] [(.int (RN fa26 3))]))
        by_cases hc220_34 : (RN fa26 3) = (0 : Int32)
        · refine OGo.st (fun t k => XS.ifNo X33.here hx rfl (hb hby at_220) rfl ((if0 _ _).trans (teq hc220_34).2) k) ?_
          show OGo p e below _ (T33.setTop (mkF m 223 #[.val (.long q1), .second, .val (.long q2), .second, .val (.int q3), .val (.ref b1), .unset] []))
          refine OGo.st (fun t k => XS.iconst X33.here hx rfl (hb hby at_223) k) ?_
          show OGo p e below _ (T33.setTop (mkF m 224 #[.val (.long q1), .second, .val (.long q2), .second, .val (.int q3), .val (.ref b1), .unset] [(.int (1 : Int32))]))
          refine OGo.st (fun t k => XS.goto X33.here hx rfl (pc0 := 224) (pc' := 228) rfl (hb hby at_224) (by decide) (by decide) k) ?_
          show OGo p e below _ (T33.setTop (mkF m 228 #[.val (.long q1), .second, .val (.long q2), .second, .val (.int q3), .val (.ref b1), .unset] [(.int (1 : Int32))]))
          refine OGo.st (fun t k => XS.istore X33.here hx rfl (hb hby at_228) rfl (l' := #[.val (.long q1), .second, .val (.long q2), .second, .val (.int q3), .val (.ref b1), .val (.int (1 : Int32))]) rfl k) ?_
          show OGo p e below _ (T33.setTop (mkF m 230 #[.val (.long q1), .second, .val (.long q2), .second, .val (.int q3), .val (.ref b1), .val (.int (1 : Int32))] []))
          refine OGo.st (fun t k => XS.aload X33.here hx rfl (hb hby at_230) rfl rfl k) ?_
          show OGo p e below _ (T33.setTop (mkF m 232 #[.val (.long q1), .second, .val (.long q2), .second, .val (.int q3), .val (.ref b1), .val (.int (1 : Int32))] [(.ref b1)]))
          obtain ⟨_, _, ⟨T35, L35, k35, n35⟩, -, X35, ⟨Lc35, hQ35, l35, y35, z35⟩, st35⟩ := Jvm.LawKit.callS X33 hx (y := (⟨"com/example/distinguo/distinguo/codec/UniversalContents$Arcs", "fitLongs", "([B)Z"⟩ : MethodName)) hown (mvT hZ (hw _ (List.mem_of_getElem? (i := 10) rfl))) (mvT hZ (hw _ (List.mem_of_getElem? (i := 11) rfl))) (mvT hZ (hw _ (List.mem_of_getElem? (i := 12) rfl))) (mvT hZ (hw _ (List.mem_of_getElem? (i := 13) rfl))) (by decide) (backOf (W := 0) (rm3 l Z a0 hw [] b1 fa26 h26 n0 Z26 O26) hZ (hw _ (List.mem_of_getElem? (i := 13) rfl)) (hw _ (List.mem_of_getElem? (i := 12) rfl)) (by decide) (by decide)) (g := (mkF m 232 #[.val (.long q1), .second, .val (.long q2), .second, .val (.int q3), .val (.ref b1), .val (.int (1 : Int32))] [(.ref b1)])) rfl (by rw [hml]; rfl) (argsL := [(.ref b1)]) (rest := []) (lenOf pd0_2 rfl) rfl (by show 2 * 0 + _ ≤ _; exact Nat.le_of_eq rfl) (hb hby at_232) (fun _ _ => ⟨rfl, e33, (by decide : 1 + 0 ≤ _), (by decide : 13 + 0 ≤ _)⟩)
          dsimp only [Pt.U, Pt.locs, Pt.cells, Pt.slots] at X35 l35 y35 z35 st35 hQ35
          subst l35 y35 z35
          obtain ⟨rfl, Nq35, e35⟩ := hQ35
          have N35 := Fr.app N33 Nq35
          obtain ⟨lo35, X35, N35⟩ : ∃ L, Stand p l e room_1 s m #[(.long q1), (.long q2), (.int q3)] below meth c T35 L 1 13 ∧ Fr n0 L := ⟨_, X35, N35⟩
          refine OGo.st (fun t k => st35 t k) ?_
          show OGo p e below _ (T35.setTop (mkF m 235 #[.val (.long q1), .second, .val (.long q2), .second, .val (.int q3), .val (.ref b1), .val (.int (1 : Int32))] [(.int (FT fa26 13 0 0))]))
          refine OGo.st (fun t k => XS.iload X35.here hx rfl (hb hby at_235) rfl k) ?_
          show OGo p e below _ (T35.setTop (mkF m 237 #[.val (.long q1), .second, .val (.long q2), .second, .val (.int q3), .val (.ref b1), .val (.int (1 : Int32))] [(.int (1 : Int32)), (.int (FT fa26 13 0 0))]))
          refine OGo.st (fun t k => XS.icmpNo X35.here hx rfl (hb hby at_237) rfl (teq (own_fit1 (own_h12 hf26) hc193_28 hc202_30 hc211_32 hc220_34)).2 k) ?_
          show OGo p e below _ (T35.setTop (mkF m 240 #[.val (.long q1), .second, .val (.long q2), .second, .val (.int q3), .val (.ref b1), .val (.int (1 : Int32))] []))
          refine OGo.st (fun t k => XS.iconst X35.here hx rfl (hb hby at_240) k) ?_
          show OGo p e below _ (T35.setTop (mkF m 241 #[.val (.long q1), .second, .val (.long q2), .second, .val (.int q3), .val (.ref b1), .val (.int (1 : Int32))] [(.int (1 : Int32))]))
          refine OGo.st (fun t k => XS.goto X35.here hx rfl (pc0 := 241) (pc' := 245) rfl (hb hby at_241) (by decide) (by decide) k) ?_
          show OGo p e below _ (T35.setTop (mkF m 245 #[.val (.long q1), .second, .val (.long q2), .second, .val (.int q3), .val (.ref b1), .val (.int (1 : Int32))] [(.int (1 : Int32))]))
          exact OGo.outN X35 hx (t := .boolean) Bd.returns (by simp) Bd.notSynchronized (hb hby at_245) ⟨rfl, N35⟩ (by decide) (by decide)
        · refine OGo.st (fun t k => XS.ifYes X33.here hx rfl (pc0 := 220) (pc' := 227) rfl (hb hby at_220) rfl ((if0 _ _).trans (feq hc220_34).2) (by decide) (by decide) k) ?_
          show OGo p e below _ (T33.setTop (mkF m 227 #[.val (.long q1), .second, .val (.long q2), .second, .val (.int q3), .val (.ref b1), .unset] []))
          refine OGo.st (fun t k => XS.iconst X33.here hx rfl (hb hby at_227) k) ?_
          show OGo p e below _ (T33.setTop (mkF m 228 #[.val (.long q1), .second, .val (.long q2), .second, .val (.int q3), .val (.ref b1), .unset] [(.int (0 : Int32))]))
          refine OGo.st (fun t k => XS.istore X33.here hx rfl (hb hby at_228) rfl (l' := #[.val (.long q1), .second, .val (.long q2), .second, .val (.int q3), .val (.ref b1), .val (.int (0 : Int32))]) rfl k) ?_
          show OGo p e below _ (T33.setTop (mkF m 230 #[.val (.long q1), .second, .val (.long q2), .second, .val (.int q3), .val (.ref b1), .val (.int (0 : Int32))] []))
          refine OGo.st (fun t k => XS.aload X33.here hx rfl (hb hby at_230) rfl rfl k) ?_
          show OGo p e below _ (T33.setTop (mkF m 232 #[.val (.long q1), .second, .val (.long q2), .second, .val (.int q3), .val (.ref b1), .val (.int (0 : Int32))] [(.ref b1)]))
          obtain ⟨_, _, ⟨T36, L36, k36, n36⟩, -, X36, ⟨Lc36, hQ36, l36, y36, z36⟩, st36⟩ := Jvm.LawKit.callS X33 hx (y := (⟨"com/example/distinguo/distinguo/codec/UniversalContents$Arcs", "fitLongs", "([B)Z"⟩ : MethodName)) hown (mvT hZ (hw _ (List.mem_of_getElem? (i := 10) rfl))) (mvT hZ (hw _ (List.mem_of_getElem? (i := 11) rfl))) (mvT hZ (hw _ (List.mem_of_getElem? (i := 12) rfl))) (mvT hZ (hw _ (List.mem_of_getElem? (i := 13) rfl))) (by decide) (backOf (W := 0) (rm3 l Z a0 hw [] b1 fa26 h26 n0 Z26 O26) hZ (hw _ (List.mem_of_getElem? (i := 13) rfl)) (hw _ (List.mem_of_getElem? (i := 12) rfl)) (by decide) (by decide)) (g := (mkF m 232 #[.val (.long q1), .second, .val (.long q2), .second, .val (.int q3), .val (.ref b1), .val (.int (0 : Int32))] [(.ref b1)])) rfl (by rw [hml]; rfl) (argsL := [(.ref b1)]) (rest := []) (lenOf pd0_2 rfl) rfl (by show 2 * 0 + _ ≤ _; exact Nat.le_of_eq rfl) (hb hby at_232) (fun _ _ => ⟨rfl, e33, (by decide : 1 + 0 ≤ _), (by decide : 13 + 0 ≤ _)⟩)
          dsimp only [Pt.U, Pt.locs, Pt.cells, Pt.slots] at X36 l36 y36 z36 st36 hQ36
          subst l36 y36 z36
          obtain ⟨rfl, Nq36, e36⟩ := hQ36
          have N36 := Fr.app N33 Nq36
          obtain ⟨lo36, X36, N36⟩ : ∃ L, Stand p l e room_1 s m #[(.long q1), (.long q2), (.int q3)] below meth c T36 L 1 13 ∧ Fr n0 L := ⟨_, X36, N36⟩
          refine OGo.st (fun t k => st36 t k) ?_
          show OGo p e below _ (T36.setTop (mkF m 235 #[.val (.long q1), .second, .val (.long q2), .second, .val (.int q3), .val (.ref b1), .val (.int (0 : Int32))] [(.int (FT fa26 13 0 0))]))
          refine OGo.st (fun t k => XS.iload X36.here hx rfl (hb hby at_235) rfl k) ?_
          show OGo p e below _ (T36.setTop (mkF m 237 #[.val (.long q1), .second, .val (.long q2), .second, .val (.int q3), .val (.ref b1), .val (.int (0 : Int32))] [(.int (0 : Int32)), (.int (FT fa26 13 0 0))]))
          refine OGo.st (fun t k => XS.icmpNo X36.here hx rfl (hb hby at_237) rfl (teq (own_fit0 (own_h12 hf26) 3 (by decide) hc220_34)).2 k) ?_
          show OGo p e below _ (T36.setTop (mkF m 240 #[.val (.long q1), .second, .val (.long q2), .second, .val (.int q3), .val (.ref b1), .val (.int (0 : Int32))] []))
          refine OGo.st (fun t k => XS.iconst X36.here hx rfl (hb hby at_240) k) ?_
          show OGo p e below _ (T36.setTop (mkF m 241 #[.val (.long q1), .second, .val (.long q2), .second, .val (.int q3), .val (.ref b1), .val (.int (0 : Int32))] [(.int (1 : Int32))]))
          refine OGo.st (fun t k => XS.goto X36.here hx rfl (pc0 := 241) (pc' := 245) rfl (hb hby at_241) (by decide) (by decide) k) ?_
          show OGo p e below _ (T36.setTop (mkF m 245 #[.val (.long q1), .second, .val (.long q2), .second, .val (.int q3), .val (.ref b1), .val (.int (0 : Int32))] [(.int (1 : Int32))]))
          exact OGo.outN X36 hx (t := .boolean) Bd.returns (by simp) Bd.notSynchronized (hb hby at_245) ⟨rfl, N36⟩ (by decide) (by decide)
      · refine OGo.st (fun t k => XS.ifYes X31.here hx rfl (pc0 := 211) (pc' := 227) rfl (hb hby at_211) rfl ((if0 _ _).trans (feq hc211_32).2) (by decide) (by decide) k) ?_
        show OGo p e below _ (T31.setTop (mkF m 227 #[.val (.long q1), .second, .val (.long q2), .second, .val (.int q3), .val (.ref b1), .unset] []))
        refine OGo.st (fun t k => XS.iconst X31.here hx rfl (hb hby at_227) k) ?_
        show OGo p e below _ (T31.setTop (mkF m 228 #[.val (.long q1), .second, .val (.long q2), .second, .val (.int q3), .val (.ref b1), .unset] [(.int (0 : Int32))]))
        refine OGo.st (fun t k => XS.istore X31.here hx rfl (hb hby at_228) rfl (l' := #[.val (.long q1), .second, .val (.long q2), .second, .val (.int q3), .val (.ref b1), .val (.int (0 : Int32))]) rfl k) ?_
        show OGo p e below _ (T31.setTop (mkF m 230 #[.val (.long q1), .second, .val (.long q2), .second, .val (.int q3), .val (.ref b1), .val (.int (0 : Int32))] []))
        refine OGo.st (fun t k => XS.aload X31.here hx rfl (hb hby at_230) rfl rfl k) ?_
        show OGo p e below _ (T31.setTop (mkF m 232 #[.val (.long q1), .second, .val (.long q2), .second, .val (.int q3), .val (.ref b1), .val (.int (0 : Int32))] [(.ref b1)]))
        obtain ⟨_, _, ⟨T37, L37, k37, n37⟩, -, X37, ⟨Lc37, hQ37, l37, y37, z37⟩, st37⟩ := Jvm.LawKit.callS X31 hx (y := (⟨"com/example/distinguo/distinguo/codec/UniversalContents$Arcs", "fitLongs", "([B)Z"⟩ : MethodName)) hown (mvT hZ (hw _ (List.mem_of_getElem? (i := 10) rfl))) (mvT hZ (hw _ (List.mem_of_getElem? (i := 11) rfl))) (mvT hZ (hw _ (List.mem_of_getElem? (i := 12) rfl))) (mvT hZ (hw _ (List.mem_of_getElem? (i := 13) rfl))) (by decide) (backOf (W := 0) (rm3 l Z a0 hw [] b1 fa26 h26 n0 Z26 O26) hZ (hw _ (List.mem_of_getElem? (i := 13) rfl)) (hw _ (List.mem_of_getElem? (i := 12) rfl)) (by decide) (by decide)) (g := (mkF m 232 #[.val (.long q1), .second, .val (.long q2), .second, .val (.int q3), .val (.ref b1), .val (.int (0 : Int32))] [(.ref b1)])) rfl (by rw [hml]; rfl) (argsL := [(.ref b1)]) (rest := []) (lenOf pd0_2 rfl) rfl (by show 2 * 0 + _ ≤ _; exact Nat.le_of_eq rfl) (hb hby at_232) (fun _ _ => ⟨rfl, e31, (by decide : 1 + 0 ≤ _), (by decide : 13 + 0 ≤ _)⟩)
        dsimp only [Pt.U, Pt.locs, Pt.cells, Pt.slots] at X37 l37 y37 z37 st37 hQ37
        subst l37 y37 z37
        obtain ⟨rfl, Nq37, e37⟩ := hQ37
        have N37 := Fr.app N31 Nq37
        obtain ⟨lo37, X37, N37⟩ : ∃ L, Stand p l e room_1 s m #[(.long q1), (.long q2), (.int q3)] below meth c T37 L 1 13 ∧ Fr n0 L := ⟨_, X37, N37⟩
        refine OGo.st (fun t k => st37 t k) ?_
        show OGo p e below _ (T37.setTop (mkF m 235 #[.val (.long q1), .second, .val (.long q2), .second, .val (.int q3), .val (.ref b1), .val (.int (0 : Int32))] [(.int (FT fa26 13 0 0))]))
        refine OGo.st (fun t k => XS.iload X37.here hx rfl (hb hby at_235) rfl k) ?_
        show OGo p e below _ (T37.setTop (mkF m 237 #[.val (.long q1), .second, .val (.long q2), .second, .val (.int q3), .val (.ref b1), .val (.int (0 : Int32))] [(.int (0 : Int32)), (.int (FT fa26 13 0 0))]))
        refine OGo.st (fun t k => XS.icmpNo X37.here hx rfl (hb hby at_237) rfl (teq (own_fit0 (own_h12 hf26) 2 (by decide) hc211_32)).2 k) ?_
        show OGo p e below _ (T37.setTop (mkF m 240 #[.val (.long q1), .second, .val (.long q2), .second, .val (.int q3), .val (.ref b1), .val (.int (0 : Int32))] []))
        refine OGo.st (fun t k => XS.iconst X37.here hx rfl (hb hby at_240) k) ?_
        show OGo p e below _ (T37.setTop (mkF m 241 #[.val (.long q1), .second, .val (.long q2), .second, .val (.int q3), .val (.ref b1), .val (.int (0 : Int32))] [(.int (1 : Int32))]))
        refine OGo.st (fun t k => XS.goto X37.here hx rfl (pc0 := 241) (pc' := 245) rfl (hb hby at_241) (by decide) (by decide) k) ?_
        show OGo p e below _ (T37.setTop (mkF m 245 #[.val (.long q1), .second, .val (.long q2), .second, .val (.int q3), .val (.ref b1), .val (.int (0 : Int32))] [(.int (1 : Int32))]))
        exact OGo.outN X37 hx (t := .boolean) Bd.returns (by simp) Bd.notSynchronized (hb hby at_245) ⟨rfl, N37⟩ (by decide) (by decide)
    · refine OGo.st (fun t k => XS.ifYes X29.here hx rfl (pc0 := 202) (pc' := 227) rfl (hb hby at_202) rfl ((if0 _ _).trans (feq hc202_30).2) (by decide) (by decide) k) ?_
      show OGo p e below _ (T29.setTop (mkF m 227 #[.val (.long q1), .second, .val (.long q2), .second, .val (.int q3), .val (.ref b1), .unset] []))
      refine OGo.st (fun t k => XS.iconst X29.here hx rfl (hb hby at_227) k) ?_
      show OGo p e below _ (T29.setTop (mkF m 228 #[.val (.long q1), .second, .val (.long q2), .second, .val (.int q3), .val (.ref b1), .unset] [(.int (0 : Int32))]))
      refine OGo.st (fun t k => XS.istore X29.here hx rfl (hb hby at_228) rfl (l' := #[.val (.long q1), .second, .val (.long q2), .second, .val (.int q3), .val (.ref b1), .val (.int (0 : Int32))]) rfl k) ?_
      show OGo p e below _ (T29.setTop (mkF m 230 #[.val (.long q1), .second, .val (.long q2), .second, .val (.int q3), .val (.ref b1), .val (.int (0 : Int32))] []))
      refine OGo.st (fun t k => XS.aload X29.here hx rfl (hb hby at_230) rfl rfl k) ?_
      show OGo p e below _ (T29.setTop (mkF m 232 #[.val (.long q1), .second, .val (.long q2), .second, .val (.int q3), .val (.ref b1), .val (.int (0 : Int32))] [(.ref b1)]))
      obtain ⟨_, _, ⟨T38, L38, k38, n38⟩, -, X38, ⟨Lc38, hQ38, l38, y38, z38⟩, st38⟩ := Jvm.LawKit.callS X29 hx (y := (⟨"com/example/distinguo/distinguo/codec/UniversalContents$Arcs", "fitLongs", "([B)Z"⟩ : MethodName)) hown (mvT hZ (hw _ (List.mem_of_getElem? (i := 10) rfl))) (mvT hZ (hw _ (List.mem_of_getElem? (i := 11) rfl))) (mvT hZ (hw _ (List.mem_of_getElem? (i := 12) rfl))) (mvT hZ (hw _ (List.mem_of_getElem? (i := 13) rfl))) (by decide) (backOf (W := 0) (rm3 l Z a0 hw [] b1 fa26 h26 n0 Z26 O26) hZ (hw _ (List.mem_of_getElem? (i := 13) rfl)) (hw _ (List.mem_of_getElem? (i := 12) rfl)) (by decide) (by decide)) (g := (mkF m 232 #[.val (.long q1), .second, .val (.long q2), .second, .val (.int q3), .val (.ref b1), .val (.int (0 : Int32))] [(.ref b1)])) rfl (by rw [hml]; rfl) (argsL := [(.ref b1)]) (rest := []) (lenOf pd0_2 rfl) rfl (by show 2 * 0 + _ ≤ _; exact Nat.le_of_eq rfl) (hb hby at_232) (fun _ _ => ⟨rfl, e29, (by decide : 1 + 0 ≤ _), (by decide : 13 + 0 ≤ _)⟩)
      dsimp only [Pt.U, Pt.locs, Pt.cells, Pt.slots] at X38 l38 y38 z38 st38 hQ38
      subst l38 y38 z38
      obtain ⟨rfl, Nq38, e38⟩ := hQ38
      have N38 := Fr.app N29 Nq38
      obtain ⟨lo38, X38, N38⟩ : ∃ L, Stand p l e room_1 s m #[(.long q1), (.long q2), (.int q3)] below meth c T38 L 1 13 ∧ Fr n0 L := ⟨_, X38, N38⟩
      refine OGo.st (fun t k => st38 t k) ?_
      show OGo p e below _ (T38.setTop (mkF m 235 #[.val (.long q1), .second, .val (.long q2), .second, .val (.int q3), .val (.ref b1), .val (.int (0 : Int32))] [(.int (FT fa26 13 0 0))]))
      refine OGo.st (fun t k => XS.iload X38.here hx rfl (hb hby at_235) rfl k) ?_
      show OGo p e below _ (T38.setTop (mkF m 237 #[.val (.long q1), .second, .val (.long q2), .second, .val (.int q3), .val (.ref b1), .val (.int (0 : Int32))] [(.int (0 : Int32)), (.int (FT fa26 13 0 0))]))
      refine OGo.st (fun t k => XS.icmpNo X38.here hx rfl (hb hby at_237) rfl (teq (own_fit0 (own_h12 hf26) 1 (by decide) hc202_30)).2 k) ?_
      show OGo p e below _ (T38.setTop (mkF m 240 #[.val (.long q1), .second, .val (.long q2), .second, .val (.int q3), .val (.ref b1), .val (.int (0 : Int32))] []))
      refine OGo.st (fun t k => XS.iconst X38.here hx rfl (hb hby at_240) k) ?_
      show OGo p e below _ (T38.setTop (mkF m 241 #[.val (.long q1), .second, .val (.long q2), .second, .val (.int q3), .val (.ref b1), .val (.int (0 : Int32))] [(.int (1 : Int32))]))
      refine OGo.st (fun t k => XS.goto X38.here hx rfl (pc0 := 241) (pc' := 245) rfl (hb hby at_241) (by decide) (by decide) k) ?_
      show OGo p e below _ (T38.setTop (mkF m 245 #[.val (.long q1), .second, .val (.long q2), .second, .val (.int q3), .val (.ref b1), .val (.int (0 : Int32))] [(.int (1 : Int32))]))
      exact OGo.outN X38 hx (t := .boolean) Bd.returns (by simp) Bd.notSynchronized (hb hby at_245) ⟨rfl, N38⟩ (by decide) (by decide)
  · refine OGo.st (fun t k => XS.ifYes X27.here hx rfl (pc0 := 193) (pc' := 227) rfl (hb hby at_193) rfl ((if0 _ _).trans (feq hc193_28).2) (by decide) (by decide) k) ?_
    show OGo p e below _ (T27.setTop (mkF m 227 #[.val (.long q1), .second, .val (.long q2), .second, .val (.int q3), .val (.ref b1), .unset] []))
    refine OGo.st (fun t k => XS.iconst X27.here hx rfl (hb hby at_227) k) ?_
    show OGo p e below _ (T27.setTop (mkF m 228 #[.val (.long q1), .second, .val (.long q2), .second, .val (.int q3), .val (.ref b1), .unset] [(.int (0 : Int32))]))
    refine OGo.st (fun t k => XS.istore X27.here hx rfl (hb hby at_228) rfl (l' := #[.val (.long q1), .second, .val (.long q2), .second, .val (.int q3), .val (.ref b1), .val (.int (0 : Int32))]) rfl k) ?_
    show OGo p e below _ (T27.setTop (mkF m 230 #[.val (.long q1), .second, .val (.long q2), .second, .val (.int q3), .val (.ref b1), .val (.int (0 : Int32))] []))
    refine OGo.st (fun t k => XS.aload X27.here hx rfl (hb hby at_230) rfl rfl k) ?_
    show OGo p e below _ (T27.setTop (mkF m 232 #[.val (.long q1), .second, .val (.long q2), .second, .val (.int q3), .val (.ref b1), .val (.int (0 : Int32))] [(.ref b1)]))
    obtain ⟨_, _, ⟨T39, L39, k39, n39⟩, -, X39, ⟨Lc39, hQ39, l39, y39, z39⟩, st39⟩ := Jvm.LawKit.callS X27 hx (y := (⟨"com/example/distinguo/distinguo/codec/UniversalContents$Arcs", "fitLongs", "([B)Z"⟩ : MethodName)) hown (mvT hZ (hw _ (List.mem_of_getElem? (i := 10) rfl))) (mvT hZ (hw _ (List.mem_of_getElem? (i := 11) rfl))) (mvT hZ (hw _ (List.mem_of_getElem? (i := 12) rfl))) (mvT hZ (hw _ (List.mem_of_getElem? (i := 13) rfl))) (by decide) (backOf (W := 0) (rm3 l Z a0 hw [] b1 fa26 h26 n0 Z26 O26) hZ (hw _ (List.mem_of_getElem? (i := 13) rfl)) (hw _ (List.mem_of_getElem? (i := 12) rfl)) (by decide) (by decide)) (g := (mkF m 232 #[.val (.long q1), .second, .val (.long q2), .second, .val (.int q3), .val (.ref b1), .val (.int (0 : Int32))] [(.ref b1)])) rfl (by rw [hml]; rfl) (argsL := [(.ref b1)]) (rest := []) (lenOf pd0_2 rfl) rfl (by show 2 * 0 + _ ≤ _; exact Nat.le_of_eq rfl) (hb hby at_232) (fun _ _ => ⟨rfl, e27, (by decide : 1 + 0 ≤ _), (by decide : 13 + 0 ≤ _)⟩)
    dsimp only [Pt.U, Pt.locs, Pt.cells, Pt.slots] at X39 l39 y39 z39 st39 hQ39
    subst l39 y39 z39
    obtain ⟨rfl, Nq39, e39⟩ := hQ39
    have N39 := Fr.app N27 Nq39
    obtain ⟨lo39, X39, N39⟩ : ∃ L, Stand p l e room_1 s m #[(.long q1), (.long q2), (.int q3)] below meth c T39 L 1 13 ∧ Fr n0 L := ⟨_, X39, N39⟩
    refine OGo.st (fun t k => st39 t k) ?_
    show OGo p e below _ (T39.setTop (mkF m 235 #[.val (.long q1), .second, .val (.long q2), .second, .val (.int q3), .val (.ref b1), .val (.int (0 : Int32))] [(.int (FT fa26 13 0 0))]))
    refine OGo.st (fun t k => XS.iload X39.here hx rfl (hb hby at_235) rfl k) ?_
    show OGo p e below _ (T39.setTop (mkF m 237 #[.val (.long q1), .second, .val (.long q2), .second, .val (.int q3), .val (.ref b1), .val (.int (0 : Int32))] [(.int (0 : Int32)), (.int (FT fa26 13 0 0))]))
    refine OGo.st (fun t k => XS.icmpNo X39.here hx rfl (hb hby at_237) rfl (teq (own_fit0 (own_h12 hf26) 0 (by decide) hc193_28)).2 k) ?_
    show OGo p e below _ (T39.setTop (mkF m 240 #[.val (.long q1), .second, .val (.long q2), .second, .val (.int q3), .val (.ref b1), .val (.int (0 : Int32))] []))
    refine OGo.st (fun t k => XS.iconst X39.here hx rfl (hb hby at_240) k) ?_
    show OGo p e below _ (T39.setTop (mkF m 241 #[.val (.long q1), .second, .val (.long q2), .second, .val (.int q3), .val (.ref b1), .val (.int (0 : Int32))] [(.int (1 : Int32))]))
    refine OGo.st (fun t k => XS.goto X39.here hx rfl (pc0 := 241) (pc' := 245) rfl (hb hby at_241) (by decide) (by decide) k) ?_
    show OGo p e below _ (T39.setTop (mkF m 245 #[.val (.long q1), .second, .val (.long q2), .second, .val (.int q3), .val (.ref b1), .val (.int (0 : Int32))] [(.int (1 : Int32))]))
    exact OGo.outN X39 hx (t := .boolean) Bd.returns (by simp) Bd.notSynchronized (hb hby at_245) ⟨rfl, N39⟩ (by decide) (by decide)
set_option maxRecDepth 65536 in
set_option maxHeartbeats 40000000 in
theorem comes_1 {Post : Tables → Env → Array Value → State → Outcome → State → Prop} (hpost : ∀ tb e args s v u, (limb_1_1.after args s (.returned v) u = true ∧ limb_1_2.after args s (.returned v) u = true ∧ True) → FrameEnd s (.returned v) u (Jvm.fieldLocs frame_1_writes args s ++ Jvm.arrayLocs frame_1_arrays args s ++ Jvm.staticLocs frame_1_statics s) 16 128 → Post tb e args s (.returned v) u) :
    ArmFor flags0 classFile x code maxLocals ret World_1 tables_1 room_1 Calls_1 rest_1 Pre_1 Post := by
  intro l hfl _ _ p e ha hc hk s m args below hf hA hF happ hP
  obtain ⟨hcalls, hrest, hpre⟩ := hP
  obtain ⟨-, -, -, hnamed, -, -, -, hat⟩ := (Spec.applies_iff hf).mp happ
  obtain ⟨hg, hn⟩ := and_e (Cond.before_iff.mp (show (Jvm.Cond.and given_1 narrow_1).before args s = true from hpre))
  obtain ⟨gg1, gg2⟩ := and_e hg
  obtain ⟨gg3, gg4⟩ := and_e gg2
  obtain ⟨gg5, gg6⟩ := and_e gg4
  obtain ⟨w0, w1, w2, rfl⟩ : ∃ w0 w1 w2 : Value, args = #[w0, w1, w2] := by
    have hs : args.size = 3 := by simpa [Cond.value, given_1] using gg1
    obtain ⟨L⟩ := args
    match L, hs with
    | [w0, w1, w2], _ => exact ⟨w0, w1, w2, rfl⟩
  have hw := fun d (hd : d ∈ tables_1) => atoms_spec (ws := Jvm.Cond.code x code maxLocals ret :: tables_1) hat d (List.mem_cons_of_mem _ hd)
  obtain ⟨i0, ei0⟩ := isL_v gg3
  obtain rfl : w0 = (.long i0) := Option.some.inj ei0
  obtain ⟨i1, ei1⟩ := isL_v gg5
  obtain rfl : w1 = (.long i1) := Option.some.inj ei1
  obtain ⟨i2, ei2⟩ := is_v gg6
  obtain rfl : w2 = (.int i2) := Option.some.inj ei2
  obtain ⟨n, o, h1, h2, h3, _, L, rfl, ⟨rfl, N⟩, hq⟩ := rm0 l s _ hw tables_1 i0 i1 i2 s.heap s.heap.size (Nat.le_refl _) p e ha hc hk s m _ below hf ((Spec.applies_iff_loose hf).mp happ).1 ⟨rfl, State.Warmed39.refl s, rfl⟩ trivial
  refine ⟨n, _, h1, h2, h3, hpost _ _ _ _ _ _ ⟨Cond.after_iff.mpr rfl, Cond.after_iff.mpr (eq_i res_at (Term.int_eval (1)) rfl), trivial⟩ ⟨hq.1, hq.2.1, (hq.2.2.sift fun y hy => Or.inr (N y hy)).mono (by decide) (by decide)⟩⟩
theorem main_1_1 : Claimed_1_1 := comes_1 fun _ _ _ _ _ _ h hF => ⟨h.1, hF⟩
theorem main_1_2 : Claimed_1_2 := comes_1 fun _ _ _ _ _ _ h hF => ⟨h.2.1, hF⟩
end Jvm.Pilot.@@N@@
namespace Jvm.Pilot.@@N@@
open Jvm Jvm.ClassFile Sem Op Lib Jvm.Free Jvm.Stand Jvm.Pilot.@@N@@.Jvm.D
/-! MADE BY PROGRAM (witnessworld.py) out of the Statement's table words and the real class files: 9 classes; the members and pool entries that the words name. The judged class is class 1, her method 1. -/
namespace start1
open Jvm.ClassFile
def u (s : String) : CpInfo := .utf8 (stringToUtf16 s)
/-- a pool by its gaps: so many unusable entries, then the entry; so many at the end -/
def gap : Nat → List CpInfo → List CpInfo
  | 0, r => r
  | n + 1, r => .unusable :: gap n r
def poolList (es : List (Nat × CpInfo)) (last : Nat) : List CpInfo := es.foldr (fun e r => gap e.1 (e.2 :: r)) (gap last [])
def pool (es : List (Nat × CpInfo)) (last : Nat) : Array CpInfo := ⟨poolList es last⟩
def fileOf (pool : Array CpInfo) (this : Nat) (attrs : Array Attribute := #[]) (ms : Array MethodInfo := #[]) (fl : Nat := 33) (sup : Nat := 0) (ifs : Array Nat := #[]) (fds : Array FieldInfo := #[]) : ClassFile where
  minorVersion := 0
  majorVersion := 65
  constantPool := pool
  accessFlags := fl
  thisClass := this
  superClass := sup
  interfaces := ifs
  fields := fds
  methods := ms
  attributes := attrs
def plain (name : String) (sup : Option ClassId) : Class where
  name := name
  kind := .ordinary
  loader := none
  accessFlags := 33
  super := sup
  interfaces := #[]
  cf := none
  fields := #[]
  methods := #[]
  instanceTypes := #[]
  staticTypes := #[]
  resolved := #[]
  callSites := []
  init := .initialized
  statics := none
  mirror := none

def pool0 : Array CpInfo := pool [(5, u "<init>"), (0, u "()V"), (1, .class_ 10), (1, u "java/lang/Object")] 113

def k0m0 : Method := { name := "<init>", desc := "()V", sig := { parameters := [], returnType := none }, accessFlags := 1, code := none }
/-- java/lang/Object -/
def k0 : Class := { plain "java/lang/Object" none with
  accessFlags := 33
  interfaces := #[]
  cf := some (fileOf pool0 8 #[] #[{ accessFlags := 1, nameIndex := 5, descriptorIndex := 6, attributes := #[] }] 33 0 #[] #[])
  fields := #[]
  methods := #[k0m0]
  instanceTypes := #[]
  staticTypes := #[]
  resolved := Array.replicate 124 none
  statics := none }

def pool1 : Array CpInfo := pool [(2, .class_ 4), (1, u "java/lang/Object"), (0, u "<init>"), (0, u "()V"), (0, .methodref 8 9), (0, .class_ 10), (0, .nameAndType 11 12), (0, u "com/example/distinguo/distinguo/codec/ArcsFitLongsPinLaw"), (0, u "octet"), (0, u "(JIII)B"), (0, .long 127), (1, .methodref 8 16), (0, .nameAndType 17 18), (0, u "runOfNine"), (0, u "([BI)Z"), (0, .methodref 20 21), (0, .class_ 22), (0, .nameAndType 23 24), (0, u "com/example/distinguo/distinguo/codec/UniversalContents$Arcs"), (0, u "fitLongs"), (0, u "([B)Z"), (0, .long 255), (3, u "law"), (0, u "(JJI)Z")] 9

def k1m0 : Method := { name := "<init>", desc := "()V", sig := { parameters := [], returnType := none }, accessFlags := 1, code := none }
def k1c1 : Code := { maxStack := 7, maxLocals := 7, code := code, exceptionTable := #[], attributes := #[] }
def k1m1 : Method := { name := "law", desc := "(JJI)Z", sig := { parameters := [.long, .long, .int], returnType := some .boolean }, accessFlags := 9, code := some k1c1 }
def k1c2 : Code := { maxStack := 4, maxLocals := 6, code := method_3_code, exceptionTable := #[], attributes := #[] }
def k1m2 : Method := { name := "octet", desc := "(JIII)B", sig := { parameters := [.long, .int, .int, .int], returnType := some .byte }, accessFlags := 10, code := some k1c2 }
def k1c3 : Code := { maxStack := 3, maxLocals := 2, code := method_4_code, exceptionTable := #[], attributes := #[] }
def k1m3 : Method := { name := "runOfNine", desc := "([BI)Z", sig := { parameters := [(.array .byte), .int], returnType := some .boolean }, accessFlags := 10, code := some k1c3 }
/-- com/example/distinguo/distinguo/codec/ArcsFitLongsPinLaw -/
def k1 : Class := { plain "com/example/distinguo/distinguo/codec/ArcsFitLongsPinLaw" (some 0) with
  accessFlags := 49
  interfaces := #[]
  cf := some (fileOf pool1 8 #[] #[{ accessFlags := 1, nameIndex := 5, descriptorIndex := 6, attributes := #[] }, { accessFlags := 9, nameIndex := 29, descriptorIndex := 30, attributes := #[] }, { accessFlags := 10, nameIndex := 11, descriptorIndex := 12, attributes := #[] }, { accessFlags := 10, nameIndex := 17, descriptorIndex := 18, attributes := #[] }] 49 2 #[] #[])
  fields := #[]
  methods := #[k1m0, k1m1, k1m2, k1m3]
  instanceTypes := #[]
  staticTypes := #[]
  resolved := Array.replicate 40 none
  statics := none }

def pool2 : Array CpInfo := pool [(2, .class_ 4), (1, u "java/lang/Object"), (5, .class_ 12), (1, u "com/example/distinguo/distinguo/codec/UniversalContents$Arcs"), (0, u "secondLong"), (0, u "J"), (2, u "octets"), (0, u "[B"), (8, u "first"), (0, u "Z"), (4, u "second"), (0, u "Ljava/math/BigInteger;"), (2, u "start"), (0, u "I"), (37, .class_ 78), (1, u "com/example/distinguo/distinguo/codec/UniversalContents"), (21, u "fitLongs"), (0, u "([B)Z")] 9

def k2c0 : Code := { maxStack := 2, maxLocals := 6, code := prog_43_method_2_code, exceptionTable := #[], attributes := #[] }
def k2m0 : Method := { name := "fitLongs", desc := "([B)Z", sig := { parameters := [(.array .byte)], returnType := some .boolean }, accessFlags := 8, code := some k2c0 }
/-- com/example/distinguo/distinguo/codec/UniversalContents$Arcs -/
def k2 : Class := { plain "com/example/distinguo/distinguo/codec/UniversalContents$Arcs" (some 0) with
  accessFlags := 48
  interfaces := #[]
  cf := some (fileOf pool2 10 #[.nestHost 76] #[{ accessFlags := 8, nameIndex := 100, descriptorIndex := 101, attributes := #[] }] 48 2 #[] #[{ accessFlags := 18, nameIndex := 17, descriptorIndex := 18, attributes := #[] }, { accessFlags := 2, nameIndex := 37, descriptorIndex := 38, attributes := #[] }, { accessFlags := 2, nameIndex := 27, descriptorIndex := 28, attributes := #[] }, { accessFlags := 2, nameIndex := 13, descriptorIndex := 14, attributes := #[] }, { accessFlags := 2, nameIndex := 33, descriptorIndex := 34, attributes := #[] }])
  fields := #[{ name := "octets", type := (.array .byte), accessFlags := 18, slot := 0, constantValue := 0 }, { name := "start", type := .int, accessFlags := 2, slot := 1, constantValue := 0 }, { name := "first", type := .boolean, accessFlags := 2, slot := 2, constantValue := 0 }, { name := "secondLong", type := .long, accessFlags := 2, slot := 3, constantValue := 0 }, { name := "second", type := (.object "java/math/BigInteger"), accessFlags := 2, slot := 4, constantValue := 0 }]
  methods := #[k2m0]
  instanceTypes := #[(.array .byte), .int, .boolean, .long, (.object "java/math/BigInteger")]
  staticTypes := #[]
  resolved := Array.replicate 111 none
  statics := none }

def pool3 : Array CpInfo := pool [(1, u "java/lang/Cloneable"), (0, .class_ 1), (0, u "java/lang/Object"), (0, .class_ 3)] 3

/-- java/lang/Cloneable -/
def k3 : Class := { plain "java/lang/Cloneable" (some 0) with
  accessFlags := 1537
  interfaces := #[]
  cf := some (fileOf pool3 2 #[] #[] 1537 4 #[] #[])
  fields := #[]
  methods := #[]
  instanceTypes := #[]
  staticTypes := #[]
  resolved := Array.replicate 8 none
  statics := none }

def pool4 : Array CpInfo := pool [(1, u "java/io/Serializable"), (0, .class_ 1), (0, u "java/lang/Object"), (0, .class_ 3)] 3

/-- java/io/Serializable -/
def k4 : Class := { plain "java/io/Serializable" (some 0) with
  accessFlags := 1537
  interfaces := #[]
  cf := some (fileOf pool4 2 #[] #[] 1537 4 #[] #[])
  fields := #[]
  methods := #[]
  instanceTypes := #[]
  staticTypes := #[]
  resolved := Array.replicate 8 none
  statics := none }

/-- the primitive byte -/
def k5 : Class := { plain "byte" none with kind := .primitive 'B', accessFlags := 0x411 }
/-- [B -/
def k6 : Class := { plain "[B" (some 0) with kind := .array 5 .byte, interfaces := #[3, 4], accessFlags := 1041 }

/-- the primitive int -/
def k7 : Class := { plain "int" none with kind := .primitive 'I', accessFlags := 0x411 }
/-- [I -/
def k8 : Class := { plain "[I" (some 0) with kind := .array 7 .int, interfaces := #[3, 4], accessFlags := 1041 }

def heap : Heap := #[]
def classes : Array Class := #[k0, k1, k2, k3, k4, k5, k6, k7, k8]
def interned : List (Array UInt16 × Addr) := []
def slotsUsed : Nat := 0
def theMethod : MethodId := ⟨1, 1⟩
def args0 : Array Value := #[.long 5, .long 3, .int 7]
def aboutOver (below : List Frame) : State where
  vm := { classes := classes, interned := interned.toArray }
  heap := heap
  slotsUsed := slotsUsed
  threads := #[{ frames := .invoking theMethod args0 :: below }]
def below0 : List Frame := [.native { method := ⟨0, 0⟩, args := #[] }]
def about1 : State := aboutOver below0
def p0 : Program := .bare "" "" ""
def e0 : Env := launch0.env 0 0 0
theorem w_frames : about1.frames = Frame.invoking theMethod args0 :: below0 := rfl
set_option maxRecDepth 65536 in
theorem w_args : argsFit about1.vm theMethod args0 = true := by decide +kernel
set_option maxRecDepth 65536 in
theorem w_heap : heapFits about1 = true := by decide +kernel
set_option maxRecDepth 65536 in
theorem w_runnable : about1.curStatus? = some .runnable := by decide +kernel
set_option maxRecDepth 65536 in
theorem w_alone : about1.alone = true := by decide +kernel
set_option maxRecDepth 65536 in
theorem w_named : about1.methodNamed? x = some theMethod := by decide +kernel
set_option maxRecDepth 65536 in
theorem w_hears : about1.hears theMethod below0 = true := by decide +kernel
set_option maxRecDepth 65536 in
theorem w_ripe : about1.ripe theMethod args0 below0 = true := by decide +kernel
theorem w_running : about1.status = .running := rfl
set_option maxRecDepth 65536 in
theorem w_room : about1.hasRoom e0.platform room_1 = true :=
  launch0.hasRoom_least _ room_1 (by decide +kernel) (by decide +kernel) (by decide +kernel) (by decide +kernel) (by decide +kernel) (by decide +kernel)
theorem allAtoms_all (ts : List Jvm.Cond) (a : Array Jvm.Value) (st : Jvm.State) : (allAtoms ts).before a st = ts.all (fun c => c.before a st) := by
  induction ts with
  | nil => rfl
  | cons c t ih =>
    show (Jvm.Cond.and c (allAtoms t)).before a st = _
    rw [Jvm.Cond.before_and, ih, List.all_cons]
def words1 : List Jvm.Cond := Jvm.Cond.code x code maxLocals ret :: tables_1
/-- a 'code' word, met by the world's own term for the bytes: nothing is compared byte by byte -/
theorem code_word {y : MethodName} {bytes : ByteArray} {mx : Nat} {rt : Option FieldType} {a : Array Value} {s : State} {m : MethodId} {meth : Method} {c : Code} (h1 : s.methodNamed? y = some m) (h2 : s.vm.method? m = some meth) (h3 : meth.code = some c) (h4 : c.code = bytes)
    (h5 : (c.maxLocals == mx && c.exceptionTable.isEmpty && decide (c.maxStack ≤ mostOperands) && decide (meth.sig.returnType = rt) && !meth.locks && decide (parseMethodDescriptor y.desc = some meth.sig)) = true) : (Jvm.Cond.code y bytes mx rt).before a s = true := by
  simp only [Bool.and_eq_true, beq_iff_eq, Bool.not_eq_true', decide_eq_true_eq] at h5
  obtain ⟨⟨⟨⟨⟨g1, g2⟩, g3⟩, g4⟩, g5⟩, g6⟩ := h5
  simp [Cond.before, Cond.holds, Cond.value, h1, h2, h3, h4, g1, g2, g3, g4, g5, g6]
def isCode : Jvm.Cond → Bool
  | .code _ _ _ _ => true
  | _ => false
theorem all_split {L : List Jvm.Cond} {P : Jvm.Cond → Bool} (h1 : L.all (fun c => isCode c || P c) = true) (h2 : ∀ c ∈ L.filter isCode, P c = true) : L.all P = true := by
  refine List.all_eq_true.mpr fun c hc => ?_
  have h := List.all_eq_true.mp h1 c hc
  rcases Bool.eq_false_or_eq_true (isCode c) with hi | hi
  · exact h2 c (List.mem_filter.mpr ⟨hc, hi⟩)
  · simpa [hi] using h
set_option maxRecDepth 65536 in
theorem w_c0 : (Jvm.Cond.code x code maxLocals ret).before args0 about1 = true := code_word (m := ⟨1, 1⟩) (meth := k1m1) (c := k1c1) (by decide +kernel) rfl rfl rfl (by decide +kernel)
set_option maxRecDepth 65536 in
theorem w_c1 : (Jvm.Cond.code ({ cls := "com/example/distinguo/distinguo/codec/ArcsFitLongsPinLaw", name := "octet", desc := "(JIII)B" } : Jvm.MethodName) method_3_code (6 : Nat) (Option.some Jvm.ClassFile.FieldType.byte)).before args0 about1 = true := code_word (m := ⟨1, 2⟩) (meth := k1m2) (c := k1c2) (by decide +kernel) rfl rfl rfl (by decide +kernel)
set_option maxRecDepth 65536 in
theorem w_c2 : (Jvm.Cond.code ({ cls := "com/example/distinguo/distinguo/codec/ArcsFitLongsPinLaw", name := "runOfNine", desc := "([BI)Z" } : Jvm.MethodName) method_4_code (2 : Nat) (Option.some Jvm.ClassFile.FieldType.boolean)).before args0 about1 = true := code_word (m := ⟨1, 3⟩) (meth := k1m3) (c := k1c3) (by decide +kernel) rfl rfl rfl (by decide +kernel)
set_option maxRecDepth 65536 in
theorem w_c3 : (Jvm.Cond.code ({ cls := "com/example/distinguo/distinguo/codec/UniversalContents$Arcs", name := "fitLongs", desc := "([B)Z" } : Jvm.MethodName) prog_43_method_2_code (6 : Nat) (Option.some Jvm.ClassFile.FieldType.boolean)).before args0 about1 = true := code_word (m := ⟨2, 0⟩) (meth := k2m0) (c := k2c0) (by decide +kernel) rfl rfl rfl (by decide +kernel)
def codes1 : List Jvm.Cond := [Jvm.Cond.code x code maxLocals ret, Jvm.Cond.code ({ cls := "com/example/distinguo/distinguo/codec/ArcsFitLongsPinLaw", name := "octet", desc := "(JIII)B" } : Jvm.MethodName) method_3_code (6 : Nat) (Option.some Jvm.ClassFile.FieldType.byte), Jvm.Cond.code ({ cls := "com/example/distinguo/distinguo/codec/ArcsFitLongsPinLaw", name := "runOfNine", desc := "([BI)Z" } : Jvm.MethodName) method_4_code (2 : Nat) (Option.some Jvm.ClassFile.FieldType.boolean), Jvm.Cond.code ({ cls := "com/example/distinguo/distinguo/codec/UniversalContents$Arcs", name := "fitLongs", desc := "([B)Z" } : Jvm.MethodName) prog_43_method_2_code (6 : Nat) (Option.some Jvm.ClassFile.FieldType.boolean)]
set_option maxRecDepth 65536 in
theorem codes_eq : words1.filter isCode = codes1 := rfl
theorem w_codes : ∀ c ∈ words1.filter isCode, c.before args0 about1 = true := by
  rw [codes_eq]
  intro c hc
  simp only [codes1, List.mem_cons, List.not_mem_nil, or_false] at hc
  rcases hc with rfl | rfl | rfl | rfl
  · exact w_c0
  · exact w_c1
  · exact w_c2
  · exact w_c3
set_option maxRecDepth 65536 in
theorem w_t1 : words1.all (fun c => isCode c || c.before args0 about1) = true := by decide +kernel
theorem w_tables : (allAtoms (Jvm.Cond.code x code maxLocals ret :: tables_1)).before args0 about1 = true := by
  rw [allAtoms_all]
  show words1.all (fun c => c.before args0 about1) = true
  refine all_split ?_ w_codes
  rw [w_t1]
set_option maxRecDepth 65536 in
theorem w_case : (Jvm.Cond.and given_1 narrow_1).before args0 about1 = true := by decide +kernel
theorem w_applies : (headSpec (Jvm.Cond.code x code maxLocals ret :: tables_1) room_1).applies x e0.platform about1 = true :=
  (Spec.applies_iff w_frames).mpr ⟨w_running, w_runnable, w_alone, w_named, w_hears, w_ripe, w_room, w_tables⟩
theorem atStart : AtStart classFile x code maxLocals ret World_1 tables_1 room_1 Calls_1 rest_1 Pre_1 launch0 p0 e0 about1 theMethod args0 below0 :=
  ⟨lists_1, trivial, launch0.admits_env _ _ _, launch0.least_env, fairChoices_fair.cas, fairChoices_fair.clock, w_frames, w_args, w_heap, w_applies, trivial, trivial, w_case⟩
end start1
theorem witness_1 : WitnessClaimed_1 := ⟨start1.p0, start1.e0, start1.about1, start1.theMethod, start1.args0, start1.below0, start1.atStart⟩
end Jvm.Pilot.@@N@@
