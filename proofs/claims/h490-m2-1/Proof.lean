import JvmDerived
import JvmDerived.Pilot.@@N@@Statement
import JvmDerived.Pilot.@@N@@Code
set_option linter.unusedVariables false
set_option linter.unusedSimpArgs false
@@BLOCK:NumsL.lean.txt@@
namespace Jvm.Pilot.@@N@@
open Jvm Jvm.ClassFile Sem Op Lib Jvm.Free Jvm.Stand Jvm.LawKit Jvm.RoadKit Bundle Jvm.Pilot.@@N@@.Jvm.D
/-! own kit: a walk's goal as one predicate, so that laws, branches and loops stand in the order of the run -/
def Go (p : Program) (e : Env) (s : State) (below : List Frame) (C S : Nat) (Q : Option Value → Heap → List Loc → Prop) (T : State) (g : JFrame) : Prop :=
  ∃ s₂ o, Steps p.tables e below (T.setTop g) s₂ ∧ s₂.status = .running ∧ Ended s₂ below o ∧ ∃ v L, o = .returned v ∧ Q v s₂.heap L ∧ FrameEnd s o s₂ L C S
section OwnKit
variable {p : Program} {l : Launch} {e : Env} {R : Room} {s : State} {m : MethodId} {args : Array Value} {below : List Frame} {meth : Method} {c : Code} {T T' : State} {locs : List Loc} {cells slots : Nat} {C S : Nat} {Q : Option Value → Heap → List Loc → Prop} {g g' : JFrame} {Z : State} {h h' : Heap} {a b : Addr}
theorem Go.st (k1 : ∀ t, Steps p.tables e below (T'.setTop g') t → Steps p.tables e below (T.setTop g) t) (k : Go p e s below C S Q T' g') : Go p e s below C S Q T g := by
  obtain ⟨s₂, o, h1, h2⟩ := k
  exact ⟨s₂, o, k1 _ h1, h2⟩
theorem Go.tr (k1 : Steps p.tables e below (T.setTop g) (T'.setTop g')) (k : Go p e s below C S Q T' g') : Go p e s below C S Q T g := by
  obtain ⟨s₂, o, h1, h2⟩ := k
  exact ⟨s₂, o, k1.trans h1, h2⟩
theorem Go.enter {gE : JFrame} (q : gE = g) (k : Go p e s below C S Q T g) : ∃ s₂ o, Steps p.tables e below (T.setTop gE) s₂ ∧ s₂.status = .running ∧ Ended s₂ below o ∧ ∃ v L, o = .returned v ∧ Q v s₂.heap L ∧ FrameEnd s o s₂ L C S := by
  subst q
  exact k
theorem Go.retO (X : Stand p l e R s m args below meth c T locs cells slots) (hx : p.tables.exec = Jvm.exec) (hlk : meth.locks = false) {pc : Nat} {Ls : Array Slot} {w : Value} {t : FieldType} {i : Instr} {rest : List Value} (hret : meth.sig.returnType = some t) (hn : narrow t w = w)
    (hi : (i = .ireturn ∧ (t = .int ∨ t = .boolean ∨ t = .byte ∨ t = .char ∨ t = .short) ∧ ∃ z, w = .int z) ∨ (i = .lreturn ∧ t = .long ∧ ∃ z, w = .long z) ∨ (i = .dreturn ∧ t = .double ∧ ∃ z, w = .double z) ∨ (i = .freturn ∧ t = .float ∧ ∃ z, w = .float z) ∨ (i = .areturn ∧ t.isReference = true ∧ w.isRef = true))
    (hd : decode c.code pc = .ok (i, 1)) (hc : cells ≤ C) (hs : slots ≤ S) (hQ : Q (some w) T.heap locs) : Go p e s below C S Q T (mkF m pc Ls (w :: rest)) := by
  obtain ⟨fs, hr, hrun, hended, hW, hsame⟩ := X.leave (v := some w) (fun q => by rw [hret] at q; cases q) hlk
  exact ⟨_, _, retOut X hx hret hn hi hd hr, hrun, hended, _, _, rfl, hQ, ⟨_, rfl⟩, hW, hsame.mono hc hs⟩
theorem Go.retI (X : Stand p l e R s m args below meth c T locs cells slots) (hx : p.tables.exec = Jvm.exec) (hlk : meth.locks = false) {pc : Nat} {Ls : Array Slot} {z : Int32} {rest : List Value} (hret : meth.sig.returnType = some .int)
    (hd : decode c.code pc = .ok (.ireturn, 1)) (hc : cells ≤ C) (hs : slots ≤ S) (hQ : Q (some (.int z)) T.heap locs) : Go p e s below C S Q T (mkF m pc Ls (.int z :: rest)) :=
  Go.retO X hx hlk hret rfl (Or.inl ⟨rfl, Or.inl rfl, _, rfl⟩) hd hc hs hQ
theorem Go.retJ (X : Stand p l e R s m args below meth c T locs cells slots) (hx : p.tables.exec = Jvm.exec) (hlk : meth.locks = false) {pc : Nat} {Ls : Array Slot} {z : Int64} {rest : List Value} (hret : meth.sig.returnType = some .long)
    (hd : decode c.code pc = .ok (.lreturn, 1)) (hc : cells ≤ C) (hs : slots ≤ S) (hQ : Q (some (.long z)) T.heap locs) : Go p e s below C S Q T (mkF m pc Ls (.long z :: rest)) :=
  Go.retO X hx hlk hret rfl (Or.inr (Or.inl ⟨rfl, rfl, _, rfl⟩)) hd hc hs hQ
theorem Go.retD (X : Stand p l e R s m args below meth c T locs cells slots) (hx : p.tables.exec = Jvm.exec) (hlk : meth.locks = false) {pc : Nat} {Ls : Array Slot} {z : UInt64} {rest : List Value} (hret : meth.sig.returnType = some .double)
    (hd : decode c.code pc = .ok (.dreturn, 1)) (hc : cells ≤ C) (hs : slots ≤ S) (hQ : Q (some (.double z)) T.heap locs) : Go p e s below C S Q T (mkF m pc Ls (.double z :: rest)) :=
  Go.retO X hx hlk hret rfl (Or.inr (Or.inr (Or.inl ⟨rfl, rfl, _, rfl⟩))) hd hc hs hQ
theorem Go.retA (X : Stand p l e R s m args below meth c T locs cells slots) (hx : p.tables.exec = Jvm.exec) (hlk : meth.locks = false) {pc : Nat} {Ls : Array Slot} {z : Addr} {t : FieldType} {rest : List Value} (hret : meth.sig.returnType = some t) (ht : t.isReference = true)
    (hd : decode c.code pc = .ok (.areturn, 1)) (hc : cells ≤ C) (hs : slots ≤ S) (hQ : Q (some (.ref z)) T.heap locs) : Go p e s below C S Q T (mkF m pc Ls (.ref z :: rest)) :=
  Go.retO X hx hlk hret (by cases t <;> first | rfl | (simp [FieldType.isReference] at ht)) (Or.inr (Or.inr (Or.inr (Or.inr ⟨rfl, ht, rfl⟩)))) hd hc hs hQ
theorem Go.retN (X : Stand p l e R s m args below meth c T locs cells slots) (hx : p.tables.exec = Jvm.exec) (hlk : meth.locks = false) {pc : Nat} {Ls : Array Slot} {z : Int32} {t : FieldType} {rest : List Value} (hret : meth.sig.returnType = some t) (ht : t = .boolean ∨ t = .byte ∨ t = .char ∨ t = .short)
    (hd : decode c.code pc = .ok (.ireturn, 1)) (hc : cells ≤ C) (hs : slots ≤ S) (hQ : Q (some (.int (nar t z))) T.heap locs) : Go p e s below C S Q T (mkF m pc Ls (.int z :: rest)) := by
  obtain ⟨fs, hr, hrun, hended, hW, hsame⟩ := X.leave (v := some (.int (nar t z))) (fun q => by rw [hret] at q; cases q) hlk
  exact ⟨_, _, Jvm.RoadKit.retN X hx hret ht hd hr, hrun, hended, _, _, rfl, hQ, ⟨_, rfl⟩, hW, hsame.mono hc hs⟩
theorem Go.retV (X : Stand p l e R s m args below meth c T locs cells slots) (hx : p.tables.exec = Jvm.exec) (hlk : meth.locks = false) {pc : Nat} {Ls : Array Slot} (hret : meth.sig.returnType = none)
    (hd : decode c.code pc = .ok (.return_, 1)) (hc : cells ≤ C) (hs : slots ≤ S) (hQ : Q none T.heap locs) : Go p e s below C S Q T (mkF m pc Ls []) := by
  obtain ⟨fs, hr, hrun, hended, hW, hsame⟩ := X.leave (v := none) (fun _ => rfl) hlk
  exact ⟨_, _, X.returnOut hx hret hd hr, hrun, hended, _, _, rfl, hQ, ⟨_, rfl⟩, hW, hsame.mono hc hs⟩
/-! an array of ints (or bytes) by a function of its places -/
def AV (Z : State) (h : Heap) (a : Addr) (ty : FieldType) (n : Nat) (f : Nat → Int32) : Prop := ∃ c : Cell, Arr Z h a c ty ∧ c.slots.size = n ∧ n < 2147483648 ∧ ∀ j, j < n → c.slots[j]? = some (.int (f j))
variable {ty : FieldType} {n : Nat} {f : Nat → Int32}
theorem AV.lt (F : AV Z h a ty n f) : a < h.size := by obtain ⟨c, A, -⟩ := F; exact A.lt
theorem AV.small (F : AV Z h a ty n f) : n < 2147483648 := by obtain ⟨c, A, -, r, -⟩ := F; exact r
theorem AV.ext (F : AV Z h a ty n f) (E : Ext h h') : AV Z h' a ty n f := by obtain ⟨c, A, r⟩ := F; exact ⟨c, A.ext E, r⟩
theorem AV.other {sl : Nat} {v : Value} (F : AV Z h b ty n f) (W : Wr h h' a sl v) (q : b ≠ a) : AV Z h' b ty n f := by obtain ⟨c, A, r⟩ := F; exact ⟨c, A.other W q, r⟩
theorem AV.keep {ws : List Addr} (F : AV Z h a ty n f) (K : Keep h h' ws) (q : a ∉ ws) : AV Z h' a ty n f := by obtain ⟨c, A, r⟩ := F; exact ⟨c, ⟨K.2.1 a c A.1 q, A.2⟩, r⟩
theorem AV.congr {f' : Nat → Int32} (F : AV Z h a ty n f) (q : ∀ j, j < n → f j = f' j) : AV Z h a ty n f' := by
  obtain ⟨c, A, r1, r2, r3⟩ := F
  exact ⟨c, A, r1, r2, fun j hj => by rw [← q j hj]; exact r3 j hj⟩
theorem AV.new {k : ClassId} {z : Int32} (A : Arr Z h a (newA k ty z) ty) (hz : ¬ z < 0) (hd : defaultValue ty = .int 0) : AV Z h a ty z.toNatClampNeg (fun _ => 0) := by
  obtain ⟨c, A', -, S, -, H, -⟩ := Arv.new A hz
  refine ⟨c, A', S, ?_, fun j hj => ?_⟩
  · have h1 := z.toInt_lt
    have h2 : z.toNatClampNeg = z.toInt.toNat := rfl
    omega
  · have := H j (by omega)
    rw [this, hd]
    rfl
theorem AV.set {i : Nat} {x : Int32} (F : AV Z h a ty n f) (W : Wr h h' a i (.int x)) : AV Z h' a ty n (upd f i x) := by
  obtain ⟨c, A, r1, r2, r3⟩ := F
  refine ⟨_, A.same W, ?_, r2, fun j hj => ?_⟩
  · simp [Cell.setSlot, r1]
  · simp only [Cell.setSlot, upd]
    rw [Array.getElem?_setIfInBounds]
    by_cases q : i = j
    · subst q; simp [r1, hj]
    · simp [q, Ne.symm q, r3 j hj]
theorem AV.ldI (X : Stand p l e R s m args below meth c T locs cells slots) (hx : p.tables.exec = Jvm.exec) (hZ : Z.Warmed39 s.vm) (eT : T.heap = h) (F : AV Z h a .int n f) {j : Int32} {i : Nat} (hj : j.toNatClampNeg = i) (h0 : ¬ j < 0) (hi : i < n)
    {g : JFrame} (hg : g.method = m) {rest : List Value} (hs : g.stack = .int j :: .ref a :: rest) (hd : decode c.code g.pc = .ok (.iaload, 1)) : ∀ t, Steps p.tables e below (T.setTop { g with pc := g.pc + 1, stack := .int (f i) :: rest }) t → Steps p.tables e below (T.setTop g) t := by
  obtain ⟨cl, A, r1, r2, r3⟩ := F
  intro t k
  exact X.iaload hx (by rw [eT]; exact A.1) (State.isArrayOf_alike hZ.alike A.2.1) A.2.2 (by rw [r1, hj]; intro q; rcases q with q | q; exact h0 q; omega) (by rw [hj]; exact r3 i hi) hg hs hd _ k
theorem AV.ldB (X : Stand p l e R s m args below meth c T locs cells slots) (hx : p.tables.exec = Jvm.exec) (hZ : Z.Warmed39 s.vm) (eT : T.heap = h) (F : AV Z h a .byte n f) {j : Int32} {i : Nat} (hj : j.toNatClampNeg = i) (h0 : ¬ j < 0) (hi : i < n)
    {g : JFrame} (hg : g.method = m) {rest : List Value} (hs : g.stack = .int j :: .ref a :: rest) (hd : decode c.code g.pc = .ok (.baload, 1)) : ∀ t, Steps p.tables e below (T.setTop { g with pc := g.pc + 1, stack := .int (f i) :: rest }) t → Steps p.tables e below (T.setTop g) t := by
  obtain ⟨cl, A, r1, r2, r3⟩ := F
  intro t k
  exact X.baloadBytes hx (by rw [eT]; exact A.1) (State.isArrayOf_alike hZ.alike A.2.1) A.2.2 (by rw [r1, hj]; intro q; rcases q with q | q; exact h0 q; omega) (by rw [hj]; exact r3 i hi) hg hs hd _ k
theorem AV.stI (X : Stand p l e R s m args below meth c T locs cells slots) (hx : p.tables.exec = Jvm.exec) (hZ : Z.Warmed39 s.vm) (eT : T.heap = h) (F : AV Z h a .int n f) {j x : Int32} {i : Nat} (hj : j.toNatClampNeg = i) (h0 : ¬ j < 0) (hi : i < n)
    {g : JFrame} (hg : g.method = m) {rest : List Value} (hs : g.stack = .int x :: .int j :: .ref a :: rest) (hd : decode c.code g.pc = .ok (.iastore, 1)) :
    ∃ T' h', Stand p l e R s m args below meth c T' (locs ++ [⟨a, i⟩]) cells slots ∧ T'.heap = h' ∧ Wr h h' a i (.int x) ∧ AV Z h' a .int n (upd f i x) ∧ ∀ t, Steps p.tables e below (T'.setTop { g with pc := g.pc + 1, stack := rest }) t → Steps p.tables e below (T.setTop g) t := by
  have F' := F
  obtain ⟨cl, A, r1, r2, r3⟩ := F
  obtain ⟨T', h', X', e', W, st⟩ := Jvm.RoadKit.stI X hx hZ eT A (j := j) (x := x) (by rw [r1, hj]; intro q; rcases q with q | q; exact h0 q; omega) hg hs hd
  rw [hj] at X' W
  exact ⟨T', h', X', e', W, F'.set W, st⟩
theorem AV.stB (X : Stand p l e R s m args below meth c T locs cells slots) (hx : p.tables.exec = Jvm.exec) (hZ : Z.Warmed39 s.vm) (eT : T.heap = h) (F : AV Z h a .byte n f) {j x : Int32} {i : Nat} (hj : j.toNatClampNeg = i) (h0 : ¬ j < 0) (hi : i < n)
    {g : JFrame} (hg : g.method = m) {rest : List Value} (hs : g.stack = .int x :: .int j :: .ref a :: rest) (hd : decode c.code g.pc = .ok (.bastore, 1)) :
    ∃ T' h', Stand p l e R s m args below meth c T' (locs ++ [⟨a, i⟩]) cells slots ∧ T'.heap = h' ∧ Wr h h' a i (.int (nar .byte x)) ∧ AV Z h' a .byte n (upd f i (nar .byte x)) ∧ ∀ t, Steps p.tables e below (T'.setTop { g with pc := g.pc + 1, stack := rest }) t → Steps p.tables e below (T.setTop g) t := by
  have F' := F
  obtain ⟨cl, A, r1, r2, r3⟩ := F
  obtain ⟨T', h', X', e', W, st⟩ := Jvm.RoadKit.stB X hx hZ eT A (j := j) (x := x) (by rw [r1, hj]; intro q; rcases q with q | q; exact h0 q; omega) hg hs hd
  rw [hj] at X' W
  exact ⟨T', h', X', e', W, F'.set W, st⟩
theorem AV.len (X : Stand p l e R s m args below meth c T locs cells slots) (hx : p.tables.exec = Jvm.exec) (hZ : Z.Warmed39 s.vm) (eT : T.heap = h) (F : AV Z h a ty n f)
    {g : JFrame} (hg : g.method = m) {rest : List Value} (hs : g.stack = .ref a :: rest) (hd : decode c.code g.pc = .ok (.arraylength, 1)) : ∀ t, Steps p.tables e below (T.setTop { g with pc := g.pc + 1, stack := .int (Int32.ofNat n) :: rest }) t → Steps p.tables e below (T.setTop g) t := by
  obtain ⟨cl, A, r1, r2, r3⟩ := F
  subst r1
  intro t k
  exact X.arraylength hx (by rw [eT]; exact A.1) (State.isArrayOf_alike hZ.alike A.2.1) hg hs hd _ k
end OwnKit
theorem cl_eq {x y : Int64} (h : x = y) : ifCond.holds .eq (lcmpW x y) = true ∧ ifCond.holds .ne (lcmpW x y) = false := by
  have q := (lw_eq x y).mpr h
  exact ⟨(if0 _ _).trans (teq q).1, (if0 _ _).trans (teq q).2⟩
theorem cl_eqF {x y : Int64} (h : ¬ x = y) : ifCond.holds .eq (lcmpW x y) = false ∧ ifCond.holds .ne (lcmpW x y) = true := by
  have q := fun z => h ((lw_eq x y).mp z)
  exact ⟨(if0 _ _).trans (feq q).1, (if0 _ _).trans (feq q).2⟩
theorem cl_lt {x y : Int64} (h : x < y) : ifCond.holds .lt (lcmpW x y) = true ∧ ifCond.holds .ge (lcmpW x y) = false := by
  have q := (lw_lt x y).mpr h
  exact ⟨(if0 _ _).trans (tlt q).1, (if0 _ _).trans (tlt q).2.1⟩
theorem cl_ltF {x y : Int64} (h : ¬ x < y) : ifCond.holds .lt (lcmpW x y) = false ∧ ifCond.holds .ge (lcmpW x y) = true := by
  have q := fun z => h ((lw_lt x y).mp z)
  exact ⟨(if0 _ _).trans (flt q).1, (if0 _ _).trans (flt q).2.1⟩
theorem cl_gt {x y : Int64} (h : y < x) : ifCond.holds .gt (lcmpW x y) = true ∧ ifCond.holds .le (lcmpW x y) = false := by
  have q := (lw_gt x y).mpr h
  exact ⟨(if0 _ _).trans (tlt q).2.2.1, (if0 _ _).trans (tlt q).2.2.2⟩
theorem cl_gtF {x y : Int64} (h : ¬ y < x) : ifCond.holds .gt (lcmpW x y) = false ∧ ifCond.holds .le (lcmpW x y) = true := by
  have q := fun z => h ((lw_gt x y).mp z)
  exact ⟨(if0 _ _).trans (flt q).2.2.1, (if0 _ _).trans (flt q).2.2.2⟩
/-! small naturals as ints -/
theorem on_toInt {k : Nat} (h : k < 2147483648) : (Int32.ofNat k).toInt = (k : Int) := Int32.toInt_ofNat_of_lt h
theorem on_idx {k : Nat} (h : k < 2147483648) : (Int32.ofNat k).toNatClampNeg = k := by
  show (Int32.ofNat k).toInt.toNat = k
  rw [on_toInt h]; rfl
theorem on_nn {k : Nat} (h : k < 2147483648) : ¬ Int32.ofNat k < 0 := by
  rw [Int32.lt_iff_toInt_lt, on_toInt h]
  have : (0 : Int32).toInt = 0 := rfl
  omega
theorem on_lt {j k : Nat} (hj : j < 2147483648) (hk : k < 2147483648) : Int32.ofNat j < Int32.ofNat k ↔ j < k := by
  rw [Int32.lt_iff_toInt_lt, on_toInt hj, on_toInt hk]; omega
theorem on_inj {j k : Nat} (hj : j < 2147483648) (hk : k < 2147483648) : Int32.ofNat j = Int32.ofNat k ↔ j = k := by
  constructor
  · intro q
    have := congrArg Int32.toInt q
    rw [on_toInt hj, on_toInt hk] at this; omega
  · intro q; rw [q]
theorem on_add (j k : Nat) : Int32.ofNat j + Int32.ofNat k = Int32.ofNat (j + k) := (Int32.ofNat_add j k).symm
theorem on_succ (j : Nat) : Int32.ofNat j + (1 : Int32) = Int32.ofNat (j + 1) := on_add j 1
theorem on_sub {j k : Nat} (h : k ≤ j) : Int32.ofNat j - Int32.ofNat k = Int32.ofNat (j - k) := by
  have : Int32.ofNat j = Int32.ofNat (j - k) + Int32.ofNat k := by rw [on_add]; congr 1; omega
  rw [this]; simp
theorem on_sub1 {j : Nat} (h : 1 ≤ j) : Int32.ofNat j - (1 : Int32) = Int32.ofNat (j - 1) := on_sub (k := 1) h
section OwnFP
open Jvm.FP.Core
theorem fq : b64.qmin = -1074 := by decide
theorem fx : b64.qmax = 971 := by decide
theorem fpp : (2 : Nat) ^ b64.p = 9007199254740992 := by decide
theorem sg0 (s : Bool) : signed s 0 = 0 := by cases s <;> rfl
theorem sgmul (s : Bool) (c d : Nat) : signed s (c * d) = signed s c * (d : Int) := by
  cases s <;> simp [signed]
  exact (Int.neg_mul _ _).symm
theorem sgabs (s : Bool) (c : Nat) : (signed s c).natAbs = c := by cases s <;> simp [signed]
/-- the double x is worth n / 2^k -/
def Vl (x : UInt64) (n : Int) (k : Nat) : Prop := ∃ (s : Bool) (c : Nat) (q : Int), val64 x = .fin s c q ∧ -1074 ≤ q ∧ signed s (c * 2 ^ (q + 1074).toNat) = n * (2 ^ (1074 - k) : Nat)
theorem pw2 {A B a b : Nat} (h : A * 2 ^ a = B * 2 ^ b) : A * 2 ^ (a - b) = B * 2 ^ (b - a) := by
  rcases Nat.le_total a b with q | q
  · have e : a - b = 0 := by omega
    rw [e, Nat.pow_zero, Nat.mul_one]
    have e2 : 2 ^ b = 2 ^ (b - a) * 2 ^ a := by rw [← Nat.pow_add]; congr 1; omega
    rw [e2, ← Nat.mul_assoc] at h
    exact Nat.eq_of_mul_eq_mul_right (Nat.two_pow_pos a) h
  · have e : b - a = 0 := by omega
    rw [e, Nat.pow_zero, Nat.mul_one]
    have e2 : 2 ^ a = 2 ^ (a - b) * 2 ^ b := by rw [← Nat.pow_add]; congr 1; omega
    rw [e2, ← Nat.mul_assoc] at h
    exact Nat.eq_of_mul_eq_mul_right (Nat.two_pow_pos b) h
/-- where the magnitude is N / 2^k, rounding is exact -/
theorem rd {S : Bool} {A B N k : Nat} {e : Int} (hB : 0 < B) (hN : N < 9007199254740992) (hk : k ≤ 1000) (h : A * 2 ^ (e + k).toNat = N * B * 2 ^ (-(k : Int) - e).toNat) :
    ∃ (c : Nat) (q : Int), roundRatio b64 S A B e = .fin S c q ∧ -1074 ≤ q ∧ c * 2 ^ (q + 1074).toNat = N * 2 ^ (1074 - k) := by
  have hk1 : (-(k : Int)) ≤ b64.qmax := by rw [fx]; omega
  have hk2 : b64.qmin ≤ (-(k : Int)) := by rw [fq]; omega
  obtain ⟨c, q, e1, e2⟩ := round_exact good_b64 S (c := N) (q := -(k : Int)) (by rw [fpp]; exact hN) hk2 hk1
  have e3 : roundRatio b64 S A B e = roundRatio b64 S N 1 (-(k : Int)) := by
    refine roundRatio_congr hB (by decide) ?_
    have a1 : (e - -(k : Int)).toNat = (e + k).toNat := by congr 1; omega
    rw [a1, Nat.mul_one]; exact h
  have hr := round_fits good_b64 (.fin S N (-(k : Int)))
  rw [e1] at hr
  have hq : -1074 ≤ q := by have := hr.2.1; rw [fq] at this; exact this
  refine ⟨c, q, by rw [e3]; exact e1, hq, ?_⟩
  have a2 : (q - -1074).toNat = (q + 1074).toNat := by congr 1
  have a3 : (-(k : Int) - -1074).toNat = 1074 - k := by omega
  simp only [inUnits, fq, a2, a3] at e2
  exact e2
theorem Vl.of_round {x : UInt64} {S : Bool} {C : Nat} {E : Int} {n : Int} {k : Nat} (hx : val64 x = Jvm.FP.Core.round b64 (.fin S C E)) (hE : -2148 ≤ E) (hk : k ≤ 1000) (hn : n.natAbs < 9007199254740992)
    (hv : signed S C * (2 ^ (E + 2148).toNat : Nat) = n * (2 ^ (2148 - k) : Nat)) : Vl x n k := by
  have h1 : C * 2 ^ (E + 2148).toNat = n.natAbs * 2 ^ (2148 - k) := by
    have := congrArg Int.natAbs hv
    rw [Int.natAbs_mul, Int.natAbs_mul, sgabs] at this
    simpa using this
  have h2 := pw2 h1
  have e1 : (E + 2148).toNat - (2148 - k) = (E + k).toNat := by omega
  have e2 : (2148 - k) - (E + 2148).toNat = (-(k : Int) - E).toNat := by omega
  rw [e1, e2] at h2
  obtain ⟨c, q, r1, r2, r3⟩ := rd (S := S) (A := C) (B := 1) (e := E) (by decide) hn hk (by rw [Nat.mul_one]; exact h2)
  refine ⟨S, c, q, by rw [hx]; exact r1, r2, ?_⟩
  rw [r3]
  -- the sign
  have h3 : signed S n.natAbs = n := by
    have p1 : (0 : Int) < ((2 ^ (2148 - k) : Nat) : Int) := by have := Nat.two_pow_pos (2148 - k); omega
    have p2 : (0 : Int) ≤ ((2 ^ (E + 2148).toNat : Nat) : Int) := Int.natCast_nonneg _
    cases S
    · have hc : (0 : Int) ≤ signed false C := by simp [signed]
      have g5 : 0 ≤ n * ((2 ^ (2148 - k) : Nat) : Int) := by rw [← hv]; exact Int.mul_nonneg hc p2
      have : 0 ≤ n := by
        rcases Int.lt_or_le n 0 with q | q
        · exact absurd g5 (Int.not_le.mpr (Int.mul_neg_of_neg_of_pos q p1))
        · exact q
      simp [signed]; omega
    · have hc : (0 : Int) ≤ -signed true C := by simp [signed]
      have h4 : 0 ≤ -(n * ((2 ^ (2148 - k) : Nat) : Int)) := by rw [← hv, ← Int.neg_mul]; exact Int.mul_nonneg hc p2
      have : n ≤ 0 := by
        rcases Int.lt_or_le 0 n with q | q
        · exact absurd h4 (Int.not_le.mpr (Int.neg_neg_of_pos (Int.mul_pos q p1)))
        · exact q
      simp [signed]; omega
  rw [sgmul, h3]
theorem Vl.l2d {a : Int64} (h : a.toInt.natAbs < 9007199254740992) : Vl (Jvm.FP.l2d a) a.toInt 0 := by
  refine Vl.of_round (S := decide (a.toInt < 0)) (C := a.toInt.natAbs) (E := 0) (val64_l2d a) (by decide) (by decide) h ?_
  have : signed (decide (a.toInt < 0)) a.toInt.natAbs = a.toInt := by
    by_cases q : a.toInt < 0 <;> simp [signed, q] <;> omega
  rw [this]
  rfl
theorem Vl.i2d (a : Int32) : Vl (Jvm.FP.i2d a) a.toInt 0 := by
  have h1 := a.le_toInt
  have h2 := a.toInt_lt
  refine Vl.of_round (S := decide (a.toInt < 0)) (C := a.toInt.natAbs) (E := 0) (val64_i2d a) (by decide) (by decide) (by omega) ?_
  have : signed (decide (a.toInt < 0)) a.toInt.natAbs = a.toInt := by
    by_cases q : a.toInt < 0 <;> simp [signed, q] <;> omega
  rw [this]
  rfl
theorem Vl.up {x : UInt64} {n : Int} {k : Nat} (j : Nat) (h : Vl x n k) (hk : k + j ≤ 1074) : Vl x (n * (2 ^ j : Nat)) (k + j) := by
  obtain ⟨s, c, q, h1, h2, h3⟩ := h
  refine ⟨s, c, q, h1, h2, ?_⟩
  rw [h3, Int.mul_assoc, ← Int.natCast_mul, ← Nat.pow_add]
  congr 3; omega
theorem Vl.mul {x y : UInt64} {n1 n2 : Int} {k1 k2 : Nat} (h1 : Vl x n1 k1) (h2 : Vl y n2 k2) (hk : k1 + k2 ≤ 1000) (hn : (n1 * n2).natAbs < 9007199254740992) : Vl (Jvm.FP.dmul x y) (n1 * n2) (k1 + k2) := by
  obtain ⟨s, c, q, a1, a2, a3⟩ := h1
  obtain ⟨t, d, r, b1, b2, b3⟩ := h2
  have hx := val64_dmul x y
  rw [a1, b1] at hx
  refine Vl.of_round (S := s != t) (C := c * d) (E := q + r) hx (by omega) hk hn ?_
  have m : signed s (c * 2 ^ (q + 1074).toNat) * signed t (d * 2 ^ (r + 1074).toNat) = signed (s != t) (c * d) * (2 ^ (q + r + 2148).toNat : Nat) := by
    have e : (q + r + 2148).toNat = (q + 1074).toNat + (r + 1074).toNat := by omega
    rw [e, Nat.pow_add, Int.natCast_mul, sgmul, sgmul]
    have : signed (s != t) (c * d) = signed s c * signed t d := by cases s <;> cases t <;> simp [signed, Int.neg_mul, Int.mul_neg]
    rw [this]
    simp only [Int.mul_assoc, Int.mul_comm, Int.mul_left_comm]
  rw [← m, a3, b3]
  have e2 : 2 ^ (2148 - (k1 + k2)) = 2 ^ (1074 - k1) * 2 ^ (1074 - k2) := by rw [← Nat.pow_add]; congr 1; omega
  rw [e2, Int.natCast_mul]
  simp only [Int.mul_assoc, Int.mul_comm, Int.mul_left_comm]
theorem sum_signed (s t : Bool) (v : Int) : signed (sumSign s t v) v.natAbs = v := by
  by_cases q : v = 0
  · rw [q]; simp [sg0]
  · by_cases q2 : v < 0 <;> simp [sumSign, q, q2, signed] <;> omega
theorem inu {c : Nat} {q e : Int} (h1 : e ≤ q) (h2 : -1074 ≤ e) : inUnits c q e * 2 ^ (e + 1074).toNat = c * 2 ^ (q + 1074).toNat := by
  simp only [inUnits]
  rw [Nat.mul_assoc, ← Nat.pow_add]
  congr 2; omega
theorem sum_core {x : UInt64} {s t : Bool} {c d : Nat} {q r : Int} {n1 n2 : Int} {k : Nat} (hx : val64 x = Jvm.FP.Core.round b64 (exactSum (.fin s c q) (.fin t d r))) (hq : -1074 ≤ q) (hr : -1074 ≤ r) (hk : k ≤ 1000)
    (a3 : signed s (c * 2 ^ (q + 1074).toNat) = n1 * (2 ^ (1074 - k) : Nat)) (b3 : signed t (d * 2 ^ (r + 1074).toNat) = n2 * (2 ^ (1074 - k) : Nat)) (hn : (n1 + n2).natAbs < 9007199254740992) : Vl x (n1 + n2) k := by
  refine Vl.of_round (S := sumSign s t (sumUnits s c q t d r (min q r))) (C := (sumUnits s c q t d r (min q r)).natAbs) (E := min q r) hx (by omega) hk hn ?_
  rw [sum_signed]
  have e1 : (min q r + 2148).toNat = (min q r + 1074).toNat + 1074 := by omega
  have e2 : 2148 - k = (1074 - k) + 1074 := by omega
  rw [e1, e2, Nat.pow_add, Nat.pow_add, Int.natCast_mul, Int.natCast_mul, ← Int.mul_assoc, ← Int.mul_assoc]
  congr 1
  simp only [sumUnits]
  rw [Int.add_mul, ← sgmul, ← sgmul, inu (by omega) (by omega), inu (by omega) (by omega), a3, b3, Int.add_mul]
theorem Vl.add {x y : UInt64} {n1 n2 : Int} {k : Nat} (h1 : Vl x n1 k) (h2 : Vl y n2 k) (hk : k ≤ 1000) (hn : (n1 + n2).natAbs < 9007199254740992) : Vl (Jvm.FP.dadd x y) (n1 + n2) k := by
  obtain ⟨s, c, q, a1, a2, a3⟩ := h1
  obtain ⟨t, d, r, b1, b2, b3⟩ := h2
  have hx := val64_dadd x y
  rw [a1, b1] at hx
  exact sum_core hx a2 b2 hk a3 b3 hn
theorem Vl.sub {x y : UInt64} {n1 n2 : Int} {k : Nat} (h1 : Vl x n1 k) (h2 : Vl y n2 k) (hk : k ≤ 1000) (hn : (n1 + -n2).natAbs < 9007199254740992) : Vl (Jvm.FP.dsub x y) (n1 + -n2) k := by
  obtain ⟨s, c, q, a1, a2, a3⟩ := h1
  obtain ⟨t, d, r, b1, b2, b3⟩ := h2
  have hx := val64_dsub x y
  rw [a1, b1] at hx
  refine sum_core (t := !t) (d := d) (r := r) hx a2 b2 hk a3 ?_ hn
  have : ∀ m, signed (!t) m = -signed t m := fun m => by cases t <;> simp [signed]
  rw [this, b3, Int.neg_mul]
theorem Vl.div {x y : UInt64} {n1 n2 n : Int} {k1 k2 k : Nat} (h1 : Vl x n1 k1) (h2 : Vl y n2 k2) (hk1 : k1 ≤ 1000) (hk2 : k2 ≤ 1000) (hk : k ≤ 1000) (h0 : 0 < n2) (hn : n.natAbs < 9007199254740992) (hv : n * n2 * (2 ^ k1 : Nat) = n1 * (2 ^ (k2 + k) : Nat)) : Vl (Jvm.FP.ddiv x y) n k := by
  obtain ⟨s, c, q, a1, a2, a3⟩ := h1
  obtain ⟨t, d, r, b1, b2, b3⟩ := h2
  have P : ∀ j : Nat, (0 : Int) < ((2 ^ j : Nat) : Int) := fun j => by have := Nat.two_pow_pos j; omega
  have ht : t = false := by
    cases t
    · rfl
    · have : signed true (d * 2 ^ (r + 1074).toNat) ≤ 0 := by simp only [signed, if_true]; omega
      have := Int.mul_pos h0 (P (1074 - k2)); omega
  subst ht
  have hd : ¬ d = 0 := fun q0 => by
    rw [q0, Nat.zero_mul, sg0] at b3
    have := Int.mul_pos h0 (P (1074 - k2)); omega
  have hx := val64_ddiv x y
  rw [a1, b1] at hx
  simp only [quotient, hd, if_false] at hx
  have hs : (s != false) = s := by cases s <;> rfl
  rw [hs] at hx
  have a4 : c * 2 ^ (q + 1074).toNat = n1.natAbs * 2 ^ (1074 - k1) := by
    have := congrArg Int.natAbs a3
    rw [sgabs, Int.natAbs_mul] at this; simpa using this
  have b4 : d * 2 ^ (r + 1074).toNat = n2.natAbs * 2 ^ (1074 - k2) := by
    have := congrArg Int.natAbs b3
    rw [sgabs, Int.natAbs_mul] at this; simpa using this
  have v4 : n.natAbs * n2.natAbs * 2 ^ k1 = n1.natAbs * 2 ^ (k2 + k) := by
    have := congrArg Int.natAbs hv
    rw [Int.natAbs_mul, Int.natAbs_mul, Int.natAbs_mul] at this; simpa using this
  have key : c * 2 ^ ((q + 1074).toNat + k) = (n.natAbs * d) * 2 ^ (r + 1074).toNat := by
    have L : c * 2 ^ ((q + 1074).toNat + k) * (2 ^ k1 * 2 ^ k2) = (n.natAbs * d) * 2 ^ (r + 1074).toNat * (2 ^ k1 * 2 ^ k2) := by
      have l1 : c * 2 ^ ((q + 1074).toNat + k) * (2 ^ k1 * 2 ^ k2) = (c * 2 ^ (q + 1074).toNat) * (2 ^ k * 2 ^ k1 * 2 ^ k2) := by
        rw [Nat.pow_add]; simp only [Nat.mul_assoc, Nat.mul_comm, Nat.mul_left_comm]
      have l2 : (n.natAbs * d) * 2 ^ (r + 1074).toNat * (2 ^ k1 * 2 ^ k2) = n.natAbs * (d * 2 ^ (r + 1074).toNat) * (2 ^ k1 * 2 ^ k2) := by
        simp only [Nat.mul_assoc]
      rw [l1, l2, a4, b4]
      have w1 : 2 ^ (1074 - k1) * 2 ^ k1 = 2 ^ 1074 := by rw [← Nat.pow_add]; congr 1; omega
      have w2 : 2 ^ (1074 - k2) * 2 ^ k2 = 2 ^ 1074 := by rw [← Nat.pow_add]; congr 1; omega
      have r1 : n1.natAbs * 2 ^ (1074 - k1) * (2 ^ k * 2 ^ k1 * 2 ^ k2) = n1.natAbs * (2 ^ k2 * 2 ^ k) * (2 ^ (1074 - k1) * 2 ^ k1) := by
        simp only [Nat.mul_assoc, Nat.mul_comm, Nat.mul_left_comm]
      have r2 : n.natAbs * (n2.natAbs * 2 ^ (1074 - k2)) * (2 ^ k1 * 2 ^ k2) = (n.natAbs * n2.natAbs * 2 ^ k1) * (2 ^ (1074 - k2) * 2 ^ k2) := by
        simp only [Nat.mul_assoc, Nat.mul_comm, Nat.mul_left_comm]
      rw [r1, r2, w1, w2, v4, Nat.pow_add]
    exact Nat.eq_of_mul_eq_mul_right (Nat.mul_pos (Nat.two_pow_pos k1) (Nat.two_pow_pos k2)) L
  have key2 := pw2 key
  have e1 : (q + 1074).toNat + k - (r + 1074).toNat = (q - r + k).toNat := by omega
  have e2 : (r + 1074).toNat - ((q + 1074).toNat + k) = (-(k : Int) - (q - r)).toNat := by omega
  rw [e1, e2] at key2
  obtain ⟨c', q', r1, r2, r3⟩ := rd (S := s) (A := c) (B := d) (e := q - r) (by omega) hn hk key2
  refine ⟨s, c', q', by rw [hx]; exact r1, r2, ?_⟩
  have h3 : signed s n.natAbs = n := by
    have p1 := P k1
    have p2 := P (k2 + k)
    have p3 := P (1074 - k1)
    cases s
    · have hc : (0 : Int) ≤ signed false (c * 2 ^ (q + 1074).toNat) := Int.natCast_nonneg _
      rw [a3] at hc
      have g1 : 0 ≤ n1 := by
        rcases Int.lt_or_le n1 0 with z | z
        · exact absurd hc (Int.not_le.mpr (Int.mul_neg_of_neg_of_pos z p3))
        · exact z
      have g2 : 0 ≤ n * n2 * ((2 ^ k1 : Nat) : Int) := by rw [hv]; exact Int.mul_nonneg g1 (Int.le_of_lt p2)
      have : 0 ≤ n := by
        rcases Int.lt_or_le n 0 with z | z
        · exact absurd g2 (Int.not_le.mpr (Int.mul_neg_of_neg_of_pos (Int.mul_neg_of_neg_of_pos z h0) p1))
        · exact z
      simp [signed]; omega
    · have hc : signed true (c * 2 ^ (q + 1074).toNat) ≤ 0 := by simp only [signed, if_true]; omega
      rw [a3] at hc
      have g1 : n1 ≤ 0 := by
        rcases Int.lt_or_le 0 n1 with z | z
        · exact absurd hc (Int.not_le.mpr (Int.mul_pos z p3))
        · exact z
      have g2 : 0 ≤ (-n1) * ((2 ^ (k2 + k) : Nat) : Int) := Int.mul_nonneg (by omega) (Int.le_of_lt p2)
      rw [Int.neg_mul, ← hv] at g2
      have : n ≤ 0 := by
        rcases Int.lt_or_le 0 n with z | z
        · exact absurd g2 (Int.not_le.mpr (Int.neg_neg_of_pos (Int.mul_pos (Int.mul_pos z h0) p1)))
        · exact z
      simp [signed]; omega
  rw [r3, sgmul, h3]
theorem Vl.cmp {x y : UInt64} {n : Int} {k : Nat} (h1 : Vl x n k) (h2 : Vl y n k) : cmpValue (Jvm.FP.dcmp x y) .l = 0 := by
  obtain ⟨s, c, q, a1, a2, a3⟩ := h1
  obtain ⟨t, d, r, b1, b2, b3⟩ := h2
  have e : Jvm.FP.dcmp x y = order (val64 x) (val64 y) := rfl
  rw [e, a1, b1]
  have m : signed s (inUnits c q (min q r)) = signed t (inUnits d r (min q r)) := by
    have z : signed s (inUnits c q (min q r)) * (2 ^ (min q r + 1074).toNat : Nat) = signed t (inUnits d r (min q r)) * (2 ^ (min q r + 1074).toNat : Nat) := by
      rw [← sgmul, ← sgmul, inu (by omega) (by omega), inu (by omega) (by omega), a3, b3]
    have p : ((2 ^ (min q r + 1074).toNat : Nat) : Int) ≠ 0 := by have := Nat.two_pow_pos (min q r + 1074).toNat; omega
    exact Int.eq_of_mul_eq_mul_right p z
  simp only [order, m]
  have : compare (signed t (inUnits d r (min q r))) (signed t (inUnits d r (min q r))) = .eq := by simp [compare, compareOfLessAndEq]
  rw [this]
  rfl
theorem Vl.nn {x : UInt64} {n : Int} {k : Nat} (h : Vl x n k) : Jvm.Free.Fl.NoNaN64 x := by
  obtain ⟨s, c, q, a1, -⟩ := h
  refine Jvm.Free.Fl.noNaN64_no.mpr ?_
  show decide (decode b64 x.toNat = .nan) = false
  have : decode b64 x.toNat = .fin s c q := a1
  rw [this]; rfl
theorem Vl.one : Vl Jvm.FP.dconst1 1 0 := ⟨false, 4503599627370496, -52, by decide +kernel, by decide, by decide +kernel⟩
theorem Vl.four : Vl (4616189618054758400 : UInt64) 4 0 := ⟨false, 4503599627370496, -50, by decide +kernel, by decide, by decide +kernel⟩
end OwnFP
theorem ol_toInt {k : Nat} (h : k < 9223372036854775808) : (Int64.ofNat k).toInt = (k : Int) := Int64.toInt_ofNat_of_lt h
theorem ol_eq {x : Int64} {k : Nat} (hk : k < 9223372036854775808) (h : x.toInt = k) : x = Int64.ofNat k := Int64.toInt_inj.mp (by rw [h, ol_toInt hk])
theorem on_eq {x : Int32} {k : Nat} (hk : k < 2147483648) (h : x.toInt = k) : x = Int32.ofNat k := Int32.toInt_inj.mp (by rw [h, on_toInt hk])
theorem on_i2l {k : Nat} (h : k < 2147483648) : (Int32.ofNat k).toInt64 = Int64.ofNat k := ol_eq (by omega) (by rw [Jvm.Kit.i64_of_i32, on_toInt h])
theorem ol_mul (j k : Nat) : Int64.ofNat j * Int64.ofNat k = Int64.ofNat (j * k) := (Int64.ofNat_mul j k).symm
theorem on_mul (j k : Nat) : Int32.ofNat j * Int32.ofNat k = Int32.ofNat (j * k) := (Int32.ofNat_mul j k).symm
theorem own_k (x : Int32) : ∃ K, K < 1024 ∧ (x &&& (1023 : Int32)) = Int32.ofNat K := by
  have e1 : (x &&& 1023).toInt = x.toInt % 2 ^ 10 := Jvm.Kit.i32_mask x 1023 (k := 10) (by decide) (by decide)
  refine ⟨(x.toInt % 2 ^ 10).toNat, by omega, on_eq (by omega) (by rw [e1]; omega)⟩
theorem own_15 (x : Int32) : ∃ P, P < 16 ∧ (x &&& (15 : Int32)) = Int32.ofNat P := by
  have e1 : (x &&& 15).toInt = x.toInt % 2 ^ 4 := Jvm.Kit.i32_mask x 15 (k := 4) (by decide) (by decide)
  refine ⟨(x.toInt % 2 ^ 4).toNat, by omega, on_eq (by omega) (by rw [e1]; omega)⟩
theorem own_a (x : Int32) : ∃ a, 0 < a ∧ a ≤ 1048576 ∧ (x &&& (1048575 : Int32)) + (1 : Int32) = Int32.ofNat a := by
  have e1 : (x &&& 1048575).toInt = x.toInt % 2 ^ 20 := Jvm.Kit.i32_mask x 1048575 (k := 20) (by decide) (by decide)
  have e4 : (1 : Int32).toInt = 1 := by decide
  have e2 : ((x &&& 1048575) + (1 : Int32)).toInt = (x &&& 1048575).toInt + (1 : Int32).toInt := Jvm.Kit.i32_add (by omega) (by omega)
  refine ⟨(x.toInt % 2 ^ 20).toNat + 1, by omega, by omega, on_eq (by omega) (by rw [e2, e1, e4]; omega)⟩
theorem own_j (x : Int32) : ∃ J, J ≤ 4 ∧ ((x &&& (2147483647 : Int32)) - ((x &&& (2147483647 : Int32)) / (5 : Int32)) * (5 : Int32)) = Int32.ofNat J := by
  have e1 : (x &&& 2147483647).toInt = x.toInt % 2 ^ 31 := Jvm.Kit.i32_mask x 2147483647 (k := 31) (by decide) (by decide)
  have e2 := rem_toInt (x &&& 2147483647) 5
  have e3 : (5 : Int32).toInt = 5 := by decide
  rw [e1, e3, Int.tmod_eq_emod_of_nonneg (by omega)] at e2
  refine ⟨(x.toInt % 2 ^ 31 % 5).toNat, by omega, on_eq (by omega) (by rw [e2]; omega)⟩
theorem own_shl {P : Nat} (h : P < 16) : ((1 : Int64) <<< ((Int32.ofNat P) &&& 0x3f).toInt64) = Int64.ofNat (2 ^ P) := by
  have : ∀ P, P < 16 → ((1 : Int64) <<< ((Int32.ofNat P) &&& 0x3f).toInt64) = Int64.ofNat (2 ^ P) := by decide +kernel
  exact this P h
theorem own_pw {P : Nat} (h : P < 16) : 2 ^ P ≤ 32768 ∧ 1 ≤ 2 ^ P := by
  have : ∀ P, P < 16 → 2 ^ P ≤ 32768 ∧ 1 ≤ 2 ^ P := by decide
  exact this P h
/-- the inner sum, in ints -/
def own_I (J pw : Nat) (x : Int) : Int := (1 * (2 ^ 2 : Nat) + -(J : Int)) * (pw : Int) + x
theorem own_mulB {K : Nat} {I : Int} (hK : K < 1024) (hI : I.natAbs ≤ 8590065664) : ((K : Int) * I).natAbs ≤ 8787637174272 := by
  rw [Int.natAbs_mul]
  have : K * I.natAbs ≤ 1023 * 8590065664 := Nat.mul_le_mul (by omega) hI
  simpa using this
theorem own_n0 {K J pw : Nat} (hK : K < 1024) (hJ : J ≤ 4) (hp : pw ≤ 32768) (x : Int32) :
    (Int64.ofNat K * ((((4 : Int64) - Int64.ofNat J) * Int64.ofNat pw) + (Int64.ofNat J * x.toInt64))).toInt = (K : Int) * own_I J pw ((J : Int) * x.toInt) ∧ (own_I J pw ((J : Int) * x.toInt)).natAbs ≤ 8590065664 ∧ ((J : Int) * x.toInt).natAbs ≤ 8589934592 := by
  have x1 := x.le_toInt
  have x2 := x.toInt_lt
  have e4 : (4 : Int64).toInt = 4 := by decide
  have eJ : (Int64.ofNat J).toInt = J := ol_toInt (by omega)
  have eK : (Int64.ofNat K).toInt = K := ol_toInt (by omega)
  have ep : (Int64.ofNat pw).toInt = pw := ol_toInt (by omega)
  have ex : x.toInt64.toInt = x.toInt := Jvm.Kit.i64_of_i32 x
  have s1 : ((4 : Int64) - Int64.ofNat J).toInt = 4 - J := by rw [Jvm.Kit.i64_sub (by omega) (by omega), e4, eJ]
  have b1 : -131072 ≤ (4 - (J : Int)) * pw ∧ (4 - (J : Int)) * pw ≤ 131072 := by
    rcases (by omega : J = 0 ∨ J = 1 ∨ J = 2 ∨ J = 3 ∨ J = 4) with rfl | rfl | rfl | rfl | rfl <;> constructor <;> simp <;> omega
  have b2 : -8589934592 ≤ (J : Int) * x.toInt ∧ (J : Int) * x.toInt ≤ 8589934592 := by
    rcases (by omega : J = 0 ∨ J = 1 ∨ J = 2 ∨ J = 3 ∨ J = 4) with rfl | rfl | rfl | rfl | rfl <;> constructor <;> simp <;> omega
  have s2 : (((4 : Int64) - Int64.ofNat J) * Int64.ofNat pw).toInt = (4 - (J : Int)) * pw := by
    rw [Jvm.Kit.i64_mul (by rw [s1, ep]; omega) (by rw [s1, ep]; omega), s1, ep]
  have s3 : (Int64.ofNat J * x.toInt64).toInt = (J : Int) * x.toInt := by
    rw [Jvm.Kit.i64_mul (by rw [eJ, ex]; omega) (by rw [eJ, ex]; omega), eJ, ex]
  have s4 : ((((4 : Int64) - Int64.ofNat J) * Int64.ofNat pw) + (Int64.ofNat J * x.toInt64)).toInt = (4 - (J : Int)) * pw + (J : Int) * x.toInt := by
    rw [Jvm.Kit.i64_add (by rw [s2, s3]; omega) (by rw [s2, s3]; omega), s2, s3]
  have eI : own_I J pw ((J : Int) * x.toInt) = (4 - (J : Int)) * pw + (J : Int) * x.toInt := by
    simp only [own_I]
    congr 2
  have bI : (own_I J pw ((J : Int) * x.toInt)).natAbs ≤ 8590065664 := by rw [eI]; omega
  have bm := own_mulB hK bI
  refine ⟨?_, bI, by omega⟩
  rw [← eI] at s4
  rw [Jvm.Kit.i64_mul (by rw [eK, s4]; omega) (by rw [eK, s4]; omega), eK, s4]
theorem own_n1 {K J M : Nat} (hK : K < 1024) (hJ : J ≤ 4) (hM : M < 16) :
    (Int64.ofNat K * (((4 : Int64) - Int64.ofNat J) + (Int64.ofNat J * Int64.ofNat M))).toInt = (K : Int) * own_I J 1 ((J : Int) * (M : Int)) ∧ (own_I J 1 ((J : Int) * (M : Int))).natAbs ≤ 8590065664 ∧ ((J : Int) * (M : Int)).natAbs ≤ 60 := by
  have e4 : (4 : Int64).toInt = 4 := by decide
  have eJ : (Int64.ofNat J).toInt = J := ol_toInt (by omega)
  have eK : (Int64.ofNat K).toInt = K := ol_toInt (by omega)
  have eM : (Int64.ofNat M).toInt = M := ol_toInt (by omega)
  have s1 : ((4 : Int64) - Int64.ofNat J).toInt = 4 - J := by rw [Jvm.Kit.i64_sub (by omega) (by omega), e4, eJ]
  have b2 : 0 ≤ (J : Int) * (M : Int) ∧ (J : Int) * (M : Int) ≤ 60 := by
    rcases (by omega : J = 0 ∨ J = 1 ∨ J = 2 ∨ J = 3 ∨ J = 4) with rfl | rfl | rfl | rfl | rfl <;> constructor <;> simp <;> omega
  have s3 : (Int64.ofNat J * Int64.ofNat M).toInt = (J : Int) * (M : Int) := by
    rw [Jvm.Kit.i64_mul (by rw [eJ, eM]; omega) (by rw [eJ, eM]; omega), eJ, eM]
  have s4 : (((4 : Int64) - Int64.ofNat J) + (Int64.ofNat J * Int64.ofNat M)).toInt = (4 - (J : Int)) + (J : Int) * (M : Int) := by
    rw [Jvm.Kit.i64_add (by rw [s1, s3]; omega) (by rw [s1, s3]; omega), s1, s3]
  have eI : own_I J 1 ((J : Int) * (M : Int)) = (4 - (J : Int)) + (J : Int) * (M : Int) := by
    simp only [own_I]
    have : ((1 : Nat) : Int) = 1 := rfl
    rw [this, Int.mul_one]
    congr 1
  have bI : (own_I J 1 ((J : Int) * (M : Int))).natAbs ≤ 8590065664 := by rw [eI]; omega
  have bm := own_mulB hK bI
  refine ⟨?_, bI, by omega⟩
  rw [← eI] at s4
  rw [Jvm.Kit.i64_mul (by rw [eK, s4]; omega) (by rw [eK, s4]; omega), eK, s4]
/-- what lengthNorm gives, of the fields' worth -/
theorem own_norm {kx bx y : UInt64} {K J : Nat} {x : Int32} {n2 n3 : Int} {k3 : Nat} (hK : K < 1024) (Vk : Vl kx K 0) (Vb : Vl bx J 2) (Vy : Vl y n2 0) (h2 : 0 < n2) (hk3 : k3 ≤ 900)
    (hJx : ((J : Int) * x.toInt).natAbs < 9007199254740992) (hn3 : n3.natAbs < 9007199254740992) (hdiv : n3 * n2 * (2 ^ (2 + 0) : Nat) = ((J : Int) * x.toInt) * (2 ^ (0 + (2 + k3)) : Nat)) (hI : (own_I J (2 ^ k3) n3).natAbs ≤ 8590065664) (hJ : J ≤ 4) :
    Vl (Jvm.FP.dsub Jvm.FP.dconst1 bx) (1 * (2 ^ 2 : Nat) + -(J : Int)) (0 + 2) ∧ Vl (Jvm.FP.dmul bx (Jvm.FP.i2d x)) ((J : Int) * x.toInt) (2 + 0) ∧ Vl (Jvm.FP.ddiv (Jvm.FP.dmul bx (Jvm.FP.i2d x)) y) n3 (2 + k3) ∧
      Vl (Jvm.FP.dadd (Jvm.FP.dsub Jvm.FP.dconst1 bx) (Jvm.FP.ddiv (Jvm.FP.dmul bx (Jvm.FP.i2d x)) y)) (own_I J (2 ^ k3) n3) (2 + k3) ∧
      Vl (Jvm.FP.dmul kx (Jvm.FP.dadd (Jvm.FP.dsub Jvm.FP.dconst1 bx) (Jvm.FP.ddiv (Jvm.FP.dmul bx (Jvm.FP.i2d x)) y))) ((K : Int) * own_I J (2 ^ k3) n3) (0 + (2 + k3)) := by
  have v1 := Vl.sub (Vl.one.up 2 (by decide)) Vb (by decide) (by simp; omega)
  have v3 := Vl.mul Vb (Vl.i2d x) (by decide) hJx
  have v4 := Vl.div (n := n3) (k := 2 + k3) v3 Vy (by decide) (by decide) (by omega) h2 hn3 hdiv
  have v1' := v1.up k3 (by omega)
  have bm := own_mulB hK hI
  have v5 := Vl.add (k := 2 + k3) v1' v4 (by omega) (by show (own_I J (2 ^ k3) n3).natAbs < _; omega)
  have v6 := Vl.mul Vk v5 (by omega) (by show ((K : Int) * own_I J (2 ^ k3) n3).natAbs < _; omega)
  exact ⟨v1, v3, v4, v5, v6⟩
theorem ol_mul4 {n : Nat} : (4 : Int64) * Int64.ofNat n = Int64.ofNat (4 * n) := ol_mul 4 n
theorem own_c0 (y : Int) (P : Nat) : y * ((2 ^ P : Nat) : Int) * (2 ^ (2 + 0) : Nat) = y * (2 ^ (0 + (2 + P)) : Nat) := by
  rw [Int.mul_assoc, ← Int.natCast_mul, ← Nat.pow_add]
  congr 3; omega
theorem own_c1 (y : Int) (P : Nat) : y * ((4 * 2 ^ P : Nat) : Int) * (2 ^ 0 : Nat) = y * (2 ^ (0 + (0 + (2 + P))) : Nat) := by
  have e : 2 ^ (0 + (0 + (2 + P))) = 4 * 2 ^ P := by rw [Nat.zero_add, Nat.zero_add, Nat.pow_add]
  rw [e]; simp
theorem own_c2 (J M a : Nat) : (J : Int) * (M : Int) * (a : Int) * (2 ^ (2 + 0) : Nat) = ((J : Int) * ((M * a : Nat) : Int)) * (2 ^ (0 + (2 + 0)) : Nat) := by
  rw [Int.natCast_mul, ← Int.mul_assoc]
theorem own_c3 (y : Int) : y * 4 * (2 ^ 0 : Nat) = y * (2 ^ (0 + 2) : Nat) := by
  have : ((2 ^ (0 + 2) : Nat) : Int) = 4 := rfl
  rw [this]; simp
theorem own_jl {J L : Nat} (hJ : J ≤ 4) (hL : L ≤ 15728640) : ((J : Int) * ((L : Nat) : Int)).natAbs ≤ 62914560 := by
  rw [Int.natAbs_mul]
  have : J * L ≤ 4 * 15728640 := Nat.mul_le_mul hJ hL
  simpa using this
theorem ef_0 (m : MethodId) (x0 : Int32) (x1 : Int32) (x2 : Int32) (x3 : Int32) (x4 : Int32) : entryFrame m #[(.int x0), (.int x1), (.int x2), (.int x3), (.int x4)] maxLocals = mkF m 0 #[.val (.int x0), .val (.int x1), .val (.int x2), .val (.int x3), .val (.int x4), .unset, .unset, .unset, .unset, .unset, .unset, .unset, .unset, .unset, .unset, .unset, .unset, .unset, .unset] [] := by first | (simp [entryFrame, mkF, argsToLocals, Value.category, maxLocals]; done) | rfl
theorem ef_1 (m : MethodId) (x0 : Addr) (x1 : UInt64) (x2 : UInt64) : entryFrame m #[(.ref x0), (.double x1), (.double x2)] 5 = mkF m 0 #[.val (.ref x0), .val (.double x1), .second, .val (.double x2), .second] [] := by first | (simp [entryFrame, mkF, argsToLocals, Value.category]; done) | rfl
theorem ef_2 (m : MethodId) (x0 : Addr) : entryFrame m #[(.ref x0)] 1 = mkF m 0 #[.val (.ref x0)] [] := by first | (simp [entryFrame, mkF, argsToLocals, Value.category]; done) | rfl
theorem ef_4 (m : MethodId) (x0 : Addr) (x1 : Int32) (x2 : UInt64) : entryFrame m #[(.ref x0), (.int x1), (.double x2)] 4 = mkF m 0 #[.val (.ref x0), .val (.int x1), .val (.double x2), .second] [] := by first | (simp [entryFrame, mkF, argsToLocals, Value.category]; done) | rfl
theorem pd_0 : parseMethodDescriptor "()V" = some ⟨[], none⟩ := by decide +kernel
theorem pd_1 : parseMethodDescriptor "(DD)V" = some ⟨[.double, .double], none⟩ := by decide +kernel
theorem pd_2 : parseMethodDescriptor "(ID)D" = some ⟨[.int, .double], some .double⟩ := by decide +kernel
theorem pn_com_example_vernal_stem_vernalstem_search_Bm25 : plainName "com/example/vernal_stem/vernalstem/search/Bm25" = true := by first | (simp [plainName, overriddenIn]; done) | decide +kernel
theorem pn_com_example_vernal_stem_vernalstem_search_Bm25LengthNormPinLaw : plainName "com/example/vernal_stem/vernalstem/search/Bm25LengthNormPinLaw" = true := by first | (simp [plainName, overriddenIn]; done) | decide +kernel
theorem pn_java_lang_Record : plainName "java/lang/Record" = true := by first | (simp [plainName, overriddenIn]; done) | decide +kernel
theorem d1_0 : decode prog_62_method_1_code 0 = .ok (.aload_n 0, 1) := by decide +kernel
theorem d1_1 : decode prog_62_method_1_code 1 = .ok (.invokespecial 1, 3) := by decide +kernel
theorem d1_10 : decode prog_62_method_1_code 10 = .ok (.dload_n 3, 1) := by decide +kernel
theorem d1_11 : decode prog_62_method_1_code 11 = .ok (.putfield 13, 3) := by decide +kernel
theorem d1_14 : decode prog_62_method_1_code 14 = .ok (.return_, 1) := by decide +kernel
theorem d1_4 : decode prog_62_method_1_code 4 = .ok (.aload_n 0, 1) := by decide +kernel
theorem d1_5 : decode prog_62_method_1_code 5 = .ok (.dload_n 1, 1) := by decide +kernel
theorem d1_6 : decode prog_62_method_1_code 6 = .ok (.putfield 7, 3) := by decide +kernel
theorem d1_9 : decode prog_62_method_1_code 9 = .ok (.aload_n 0, 1) := by decide +kernel
theorem d2_0 : decode jdk_30_method_1_code 0 = .ok (.aload_n 0, 1) := by decide +kernel
theorem d2_1 : decode jdk_30_method_1_code 1 = .ok (.invokespecial 1, 3) := by decide +kernel
theorem d2_4 : decode jdk_30_method_1_code 4 = .ok (.return_, 1) := by decide +kernel
theorem d4_0 : decode prog_62_method_3_code 0 = .ok (.aload_n 0, 1) := by decide +kernel
theorem d4_1 : decode prog_62_method_3_code 1 = .ok (.getfield 7, 3) := by decide +kernel
theorem d4_10 : decode prog_62_method_3_code 10 = .ok (.aload_n 0, 1) := by decide +kernel
theorem d4_11 : decode prog_62_method_3_code 11 = .ok (.getfield 13, 3) := by decide +kernel
theorem d4_14 : decode prog_62_method_3_code 14 = .ok (.iload_n 1, 1) := by decide +kernel
theorem d4_15 : decode prog_62_method_3_code 15 = .ok (.i2d, 1) := by decide +kernel
theorem d4_16 : decode prog_62_method_3_code 16 = .ok (.dmul, 1) := by decide +kernel
theorem d4_17 : decode prog_62_method_3_code 17 = .ok (.dload_n 2, 1) := by decide +kernel
theorem d4_18 : decode prog_62_method_3_code 18 = .ok (.ddiv, 1) := by decide +kernel
theorem d4_19 : decode prog_62_method_3_code 19 = .ok (.dadd, 1) := by decide +kernel
theorem d4_20 : decode prog_62_method_3_code 20 = .ok (.dmul, 1) := by decide +kernel
theorem d4_21 : decode prog_62_method_3_code 21 = .ok (.dreturn, 1) := by decide +kernel
theorem d4_4 : decode prog_62_method_3_code 4 = .ok (.dconst 1, 1) := by decide +kernel
theorem d4_5 : decode prog_62_method_3_code 5 = .ok (.aload_n 0, 1) := by decide +kernel
theorem d4_6 : decode prog_62_method_3_code 6 = .ok (.getfield 13, 3) := by decide +kernel
theorem d4_9 : decode prog_62_method_3_code 9 = .ok (.dsub, 1) := by decide +kernel
def Q2 (h0 : Heap) (n0 : Nat) (v : Option Value) (h : Heap) (L : List Loc) : Prop := v = none ∧ Fr n0 L ∧ h = h0
set_option maxRecDepth 65536 in
set_option maxHeartbeats 40000000 in
theorem rm2 (l : Launch) (Z : State) (a0 : Array Value) (hw : ∀ d ∈ tables_1, d.before a0 Z = true) (ws : List Jvm.Cond) (o : Addr) (h0 : Heap) (n0 : Nat) (Z0 : n0 ≤ h0.size)  :
    MetFree l (⟨"java/lang/Record", "<init>", "()V"⟩ : MethodName) (head1 (Jvm.Cond.code (⟨"java/lang/Record", "<init>", "()V"⟩ : MethodName) jdk_30_method_1_code 1 none :: ws) ({ frames := 1, cells := 0, slots := 0, locals := 12 } : Room)) (fun a_ U_ => a_ = #[(.ref o)] ∧ Z.Warmed39 U_.vm ∧ U_.heap = h0) (fun _ _ _ _ _ => True) (fun _ U_ o_ W_ => ∃ v_ L_, o_ = .returned v_ ∧ (Q2 h0 n0) v_ W_.heap L_ ∧ FrameEnd U_ o_ W_ L_ ({ frames := 1, cells := 0, slots := 0, locals := 12 } : Room).cells ({ frames := 1, cells := 0, slots := 0, locals := 12 } : Room).slots) := by
  refine MetFree.of_bodySF (plainFor_of_name pn_java_lang_Record) hisR ?_
  intro p e s m args below meth c s₁ Bd hml0 hP hK
  obtain ⟨rfl, hZ, hh⟩ := hP
  have hx := Bd.exec
  have hby := Bd.bytes
  have hml : c.maxLocals = 1 := hml0
  have hown : s.vm.findClass "java/lang/Record" = some m.cls := findClass_of_methodNamed Bd.named
  have hnm := (name_of_methodNamed Bd.named Bd.method).1
  have hlk : meth.locks = false := BodyLoose.notSynchronized Bd
  have X0 : Stand p l e ({ frames := 1, cells := 0, slots := 0, locals := 12 } : Room) s m #[(.ref o)] below meth c s₁ [] 0 0 := Stand.of_body Bd
  have e0 : s₁.heap = h0 := by rw [← hh, Bd.state]; rfl
  have N0 := Fr.nil n0
  refine Go.enter (ef_2 m o) ?_
  show Go p e s below ({ frames := 1, cells := 0, slots := 0, locals := 12 } : Room).cells ({ frames := 1, cells := 0, slots := 0, locals := 12 } : Room).slots (Q2 h0 n0) s₁ (mkF m 0 #[.val (.ref o)] [])
  refine Go.st (fun _ k_ => XS.aloadN X0.here hx rfl (hb hby d2_0) rfl rfl k_) ?_
  show Go p e s below ({ frames := 1, cells := 0, slots := 0, locals := 12 } : Room).cells ({ frames := 1, cells := 0, slots := 0, locals := 12 } : Room).slots (Q2 h0 n0) s₁ (mkF m 1 #[.val (.ref o)] [(.ref o)])
  obtain ⟨T1, X1, e1, st1⟩ := initO X0 hx hZ hown (hw _ (List.mem_of_getElem? (i := 13) rfl)) (hw _ (List.mem_of_getElem? (i := 14) rfl)) (hw _ (List.mem_of_getElem? (i := 15) rfl)) e0 (g := (mkF m 1 #[.val (.ref o)] [(.ref o)])) rfl (by rw [hml]; rfl) rfl (hb hby d2_1) (by decide) (W := 0) (by show 2 * 0 + _ ≤ _; exact Nat.le_of_eq rfl) (by decide)
  refine Go.st st1 ?_
  show Go p e s below ({ frames := 1, cells := 0, slots := 0, locals := 12 } : Room).cells ({ frames := 1, cells := 0, slots := 0, locals := 12 } : Room).slots (Q2 h0 n0) T1 (mkF m 4 #[.val (.ref o)] [])
  exact Go.retV X1 hx hlk Bd.returns (hb hby d2_4) (by decide) (by decide) ⟨rfl, N0, e1⟩
def Q1 (Z : State) (o : Addr) (kx bx : UInt64) (h0 : Heap) (n0 : Nat) (v : Option Value) (h : Heap) (L : List Loc) : Prop := v = none ∧ Fr n0 L ∧ n0 ≤ h.size ∧ Exa Z h o "com/example/vernal_stem/vernalstem/search/Bm25" ∧ Fld Z h o "com/example/vernal_stem/vernalstem/search/Bm25" "k1" "D" (.double kx) ∧ Fld Z h o "com/example/vernal_stem/vernalstem/search/Bm25" "b" "D" (.double bx)
set_option maxRecDepth 65536 in
set_option maxHeartbeats 40000000 in
theorem rm1 (l : Launch) (Z : State) (a0 : Array Value) (hw : ∀ d ∈ tables_1, d.before a0 Z = true) (ws : List Jvm.Cond) (o : Addr) (kx bx : UInt64) (h0 : Heap) (n0 : Nat) (Z0 : n0 ≤ h0.size) (E : Exa Z h0 o "com/example/vernal_stem/vernalstem/search/Bm25") (Fk : Fld Z h0 o "com/example/vernal_stem/vernalstem/search/Bm25" "k1" "D" (.double (0 : UInt64))) (Fb : Fld Z h0 o "com/example/vernal_stem/vernalstem/search/Bm25" "b" "D" (.double (0 : UInt64))) (go : n0 ≤ o) :
    MetFree l (⟨"com/example/vernal_stem/vernalstem/search/Bm25", "<init>", "(DD)V"⟩ : MethodName) (head1 (Jvm.Cond.code (⟨"com/example/vernal_stem/vernalstem/search/Bm25", "<init>", "(DD)V"⟩ : MethodName) prog_62_method_1_code 5 none :: ws) ({ frames := 2, cells := 0, slots := 0, locals := 24 } : Room)) (fun a_ U_ => a_ = #[(.ref o), (.double kx), (.double bx)] ∧ Z.Warmed39 U_.vm ∧ U_.heap = h0) (fun _ _ _ _ _ => True) (fun _ U_ o_ W_ => ∃ v_ L_, o_ = .returned v_ ∧ (Q1 Z o kx bx h0 n0) v_ W_.heap L_ ∧ FrameEnd U_ o_ W_ L_ ({ frames := 2, cells := 0, slots := 0, locals := 24 } : Room).cells ({ frames := 2, cells := 0, slots := 0, locals := 24 } : Room).slots) := by
  refine MetFree.of_bodySF (plainFor_of_name pn_com_example_vernal_stem_vernalstem_search_Bm25) hisR ?_
  intro p e s m args below meth c s₁ Bd hml0 hP hK
  obtain ⟨rfl, hZ, hh⟩ := hP
  have hx := Bd.exec
  have hby := Bd.bytes
  have hml : c.maxLocals = 5 := hml0
  have hown : s.vm.findClass "com/example/vernal_stem/vernalstem/search/Bm25" = some m.cls := findClass_of_methodNamed Bd.named
  have hnm := (name_of_methodNamed Bd.named Bd.method).1
  have hlk : meth.locks = false := BodyLoose.notSynchronized Bd
  have X0 : Stand p l e ({ frames := 2, cells := 0, slots := 0, locals := 24 } : Room) s m #[(.ref o), (.double kx), (.double bx)] below meth c s₁ [] 0 0 := Stand.of_body Bd
  have e0 : s₁.heap = h0 := by rw [← hh, Bd.state]; rfl
  have N0 := Fr.nil n0
  refine Go.enter (ef_1 m o kx bx) ?_
  show Go p e s below ({ frames := 2, cells := 0, slots := 0, locals := 24 } : Room).cells ({ frames := 2, cells := 0, slots := 0, locals := 24 } : Room).slots (Q1 Z o kx bx h0 n0) s₁ (mkF m 0 #[.val (.ref o), .val (.double kx), .second, .val (.double bx), .second] [])
  refine Go.st (fun _ k_ => XS.aloadN X0.here hx rfl (hb hby d1_0) rfl rfl k_) ?_
  show Go p e s below ({ frames := 2, cells := 0, slots := 0, locals := 24 } : Room).cells ({ frames := 2, cells := 0, slots := 0, locals := 24 } : Room).slots (Q1 Z o kx bx h0 n0) s₁ (mkF m 1 #[.val (.ref o), .val (.double kx), .second, .val (.double bx), .second] [(.ref o)])
  obtain ⟨_, _, ⟨T2, L2, k2, n2⟩, -, X2, ⟨Lc2, hQ2, l2, y2, z2⟩, st2⟩ := X0.specialBack hx (y := (⟨"java/lang/Record", "<init>", "()V"⟩ : MethodName)) rfl hown (mvT hZ (hw _ (List.mem_of_getElem? (i := 8) rfl))) (mvT hZ (hw _ (List.mem_of_getElem? (i := 9) rfl))) (mvT hZ (hw _ (List.mem_of_getElem? (i := 12) rfl))) (by decide) (backOf (W := 0) (rm2 l Z a0 hw [] o h0 n0 Z0) hZ (hw _ (List.mem_of_getElem? (i := 12) rfl)) (hw _ (List.mem_of_getElem? (i := 11) rfl)) (by decide) (by decide)) (g := (mkF m 1 #[.val (.ref o), .val (.double kx), .second, .val (.double bx), .second] [(.ref o)])) rfl (by rw [hml]; rfl) (Steps.refl _) (a := o) (argsL := []) (rest := []) (lenOf pd_0 rfl) rfl (by show 2 * 0 + _ ≤ _; exact Nat.le_of_eq rfl) (hb hby d1_1) (fun _ _ => ⟨rfl, e0, (by decide : 0 + 0 ≤ _), (by decide : 0 + 0 ≤ _)⟩)
  dsimp only [Pt.U, Pt.locs, Pt.cells, Pt.slots] at X2 l2 y2 z2 st2 hQ2
  subst l2 y2 z2
  obtain ⟨rfl, hN2, er⟩ := hQ2
  have N2 := Fr.app N0 hN2
  refine Go.tr st2 ?_
  rw [← er] at E Fk Fb
  show Go p e s below ({ frames := 2, cells := 0, slots := 0, locals := 24 } : Room).cells ({ frames := 2, cells := 0, slots := 0, locals := 24 } : Room).slots (Q1 Z o kx bx h0 n0) T2 (mkF m 4 #[.val (.ref o), .val (.double kx), .second, .val (.double bx), .second] [])
  refine Go.st (fun _ k_ => XS.aloadN X2.here hx rfl (hb hby d1_4) rfl rfl k_) ?_
  show Go p e s below ({ frames := 2, cells := 0, slots := 0, locals := 24 } : Room).cells ({ frames := 2, cells := 0, slots := 0, locals := 24 } : Room).slots (Q1 Z o kx bx h0 n0) T2 (mkF m 5 #[.val (.ref o), .val (.double kx), .second, .val (.double bx), .second] [(.ref o)])
  refine Go.st (fun _ k_ => XS.dloadN X2.here hx rfl (hb hby d1_5) rfl k_) ?_
  show Go p e s below ({ frames := 2, cells := 0, slots := 0, locals := 24 } : Room).cells ({ frames := 2, cells := 0, slots := 0, locals := 24 } : Room).slots (Q1 Z o kx bx h0 n0) T2 (mkF m 6 #[.val (.ref o), .val (.double kx), .second, .val (.double bx), .second] [(.double kx), (.ref o)])
  obtain ⟨T3, h3, X3, e3, W3, st3⟩ := putF X2 hx hZ hown (host := "") (Or.inl (hw _ (List.mem_of_getElem? (i := 16) rfl))) Via.refl rfl Fk E (Or.inr ⟨(hw _ (List.mem_of_getElem? (i := 17) rfl)), rfl, hnm⟩) (hw _ (List.mem_of_getElem? (i := 3) rfl)) (ty := .double) (by decide) rfl rfl (g := (mkF m 6 #[.val (.ref o), .val (.double kx), .second, .val (.double bx), .second] [(.double kx), (.ref o)])) rfl rfl (hb hby d1_6)
  refine Go.st st3 ?_
  have N3 := Fr.snoc X3 N2 go
  have Fk1 := Fk.same W3
  have Fb1 := (Fb.other W3 (Or.inr (slot_ne (Or.inr (hw _ (List.mem_of_getElem? (i := 19) rfl))) (Or.inr (hw _ (List.mem_of_getElem? (i := 17) rfl))) (by decide) (t := .double) (t' := .double) (by decide) (by decide))))
  have E1 := E.wr W3
  show Go p e s below ({ frames := 2, cells := 0, slots := 0, locals := 24 } : Room).cells ({ frames := 2, cells := 0, slots := 0, locals := 24 } : Room).slots (Q1 Z o kx bx h0 n0) T3 (mkF m 9 #[.val (.ref o), .val (.double kx), .second, .val (.double bx), .second] [])
  refine Go.st (fun _ k_ => XS.aloadN X3.here hx rfl (hb hby d1_9) rfl rfl k_) ?_
  show Go p e s below ({ frames := 2, cells := 0, slots := 0, locals := 24 } : Room).cells ({ frames := 2, cells := 0, slots := 0, locals := 24 } : Room).slots (Q1 Z o kx bx h0 n0) T3 (mkF m 10 #[.val (.ref o), .val (.double kx), .second, .val (.double bx), .second] [(.ref o)])
  refine Go.st (fun _ k_ => XS.dloadN X3.here hx rfl (hb hby d1_10) rfl k_) ?_
  show Go p e s below ({ frames := 2, cells := 0, slots := 0, locals := 24 } : Room).cells ({ frames := 2, cells := 0, slots := 0, locals := 24 } : Room).slots (Q1 Z o kx bx h0 n0) T3 (mkF m 11 #[.val (.ref o), .val (.double kx), .second, .val (.double bx), .second] [(.double bx), (.ref o)])
  obtain ⟨T4, h4, X4, e4, W4, st4⟩ := putF X3 hx hZ hown (host := "") (Or.inl (hw _ (List.mem_of_getElem? (i := 18) rfl))) Via.refl e3 Fb1 E1 (Or.inr ⟨(hw _ (List.mem_of_getElem? (i := 19) rfl)), rfl, hnm⟩) (hw _ (List.mem_of_getElem? (i := 3) rfl)) (ty := .double) (by decide) rfl rfl (g := (mkF m 11 #[.val (.ref o), .val (.double kx), .second, .val (.double bx), .second] [(.double bx), (.ref o)])) rfl rfl (hb hby d1_11)
  refine Go.st st4 ?_
  have N4 := Fr.snoc X4 N3 go
  have Fb2 := Fb1.same W4
  have Fk2 := (Fk1.other W4 (Or.inr (slot_ne (Or.inr (hw _ (List.mem_of_getElem? (i := 17) rfl))) (Or.inr (hw _ (List.mem_of_getElem? (i := 19) rfl))) (by decide) (t := .double) (t' := .double) (by decide) (by decide))))
  have E2 := E1.wr W4
  show Go p e s below ({ frames := 2, cells := 0, slots := 0, locals := 24 } : Room).cells ({ frames := 2, cells := 0, slots := 0, locals := 24 } : Room).slots (Q1 Z o kx bx h0 n0) T4 (mkF m 14 #[.val (.ref o), .val (.double kx), .second, .val (.double bx), .second] [])
  exact Go.retV X4 hx hlk Bd.returns (hb hby d1_14) (by decide) (by decide) (by rw [e4]; exact ⟨rfl, N4, Nat.le_trans go (Nat.le_of_lt E2.lt), E2, Fk2, Fb2⟩)
def own_ln (kx bx : UInt64) (x' : Int32) (y : UInt64) : UInt64 := Jvm.FP.dmul kx (Jvm.FP.dadd (Jvm.FP.dsub Jvm.FP.dconst1 bx) (Jvm.FP.ddiv (Jvm.FP.dmul bx (Jvm.FP.i2d x')) y))
def Q4 (kx bx : UInt64) (x' : Int32) (y : UInt64) (h0 : Heap) (n0 : Nat) (v : Option Value) (h : Heap) (L : List Loc) : Prop := v = some (.double (own_ln kx bx x' y)) ∧ Fr n0 L ∧ h = h0
set_option maxRecDepth 65536 in
set_option maxHeartbeats 40000000 in
theorem rm4 (l : Launch) (Z : State) (a0 : Array Value) (hw : ∀ d ∈ tables_1, d.before a0 Z = true) (ws : List Jvm.Cond) (o : Addr) (kx bx : UInt64) (x' : Int32) (y : UInt64) (h0 : Heap) (n0 : Nat) (Z0 : n0 ≤ h0.size) (Fk : Fld Z h0 o "com/example/vernal_stem/vernalstem/search/Bm25" "k1" "D" (.double kx)) (Fb : Fld Z h0 o "com/example/vernal_stem/vernalstem/search/Bm25" "b" "D" (.double bx)) (n1 : Jvm.Free.Fl.NoNaN64 (Jvm.FP.dsub Jvm.FP.dconst1 bx)) (n2 : Jvm.Free.Fl.NoNaN64 (Jvm.FP.dmul bx (Jvm.FP.i2d x'))) (n3 : Jvm.Free.Fl.NoNaN64 (Jvm.FP.ddiv (Jvm.FP.dmul bx (Jvm.FP.i2d x')) y)) (n4 : Jvm.Free.Fl.NoNaN64 (Jvm.FP.dadd (Jvm.FP.dsub Jvm.FP.dconst1 bx) (Jvm.FP.ddiv (Jvm.FP.dmul bx (Jvm.FP.i2d x')) y))) (n5 : Jvm.Free.Fl.NoNaN64 (Jvm.FP.dmul kx (Jvm.FP.dadd (Jvm.FP.dsub Jvm.FP.dconst1 bx) (Jvm.FP.ddiv (Jvm.FP.dmul bx (Jvm.FP.i2d x')) y)))) :
    MetFree l (⟨"com/example/vernal_stem/vernalstem/search/Bm25", "lengthNorm", "(ID)D"⟩ : MethodName) (head1 (Jvm.Cond.code (⟨"com/example/vernal_stem/vernalstem/search/Bm25", "lengthNorm", "(ID)D"⟩ : MethodName) prog_62_method_3_code 4 (some .double) :: ws) ({ frames := 0, cells := 0, slots := 0, locals := 0 } : Room)) (fun a_ U_ => a_ = #[(.ref o), (.int x'), (.double y)] ∧ Z.Warmed39 U_.vm ∧ U_.heap = h0) (fun _ _ _ _ _ => True) (fun _ U_ o_ W_ => ∃ v_ L_, o_ = .returned v_ ∧ (Q4 kx bx x' y h0 n0) v_ W_.heap L_ ∧ FrameEnd U_ o_ W_ L_ ({ frames := 0, cells := 0, slots := 0, locals := 0 } : Room).cells ({ frames := 0, cells := 0, slots := 0, locals := 0 } : Room).slots) := by
  refine MetFree.of_bodySF (plainFor_of_name pn_com_example_vernal_stem_vernalstem_search_Bm25) hisR ?_
  intro p e s m args below meth c s₁ Bd hml0 hP hK
  obtain ⟨rfl, hZ, hh⟩ := hP
  have hx := Bd.exec
  have hby := Bd.bytes
  have hml : c.maxLocals = 4 := hml0
  have hown : s.vm.findClass "com/example/vernal_stem/vernalstem/search/Bm25" = some m.cls := findClass_of_methodNamed Bd.named
  have hnm := (name_of_methodNamed Bd.named Bd.method).1
  have hlk : meth.locks = false := BodyLoose.notSynchronized Bd
  have X0 : Stand p l e ({ frames := 0, cells := 0, slots := 0, locals := 0 } : Room) s m #[(.ref o), (.int x'), (.double y)] below meth c s₁ [] 0 0 := Stand.of_body Bd
  have e0 : s₁.heap = h0 := by rw [← hh, Bd.state]; rfl
  have N0 := Fr.nil n0
  refine Go.enter (ef_4 m o x' y) ?_
  show Go p e s below ({ frames := 0, cells := 0, slots := 0, locals := 0 } : Room).cells ({ frames := 0, cells := 0, slots := 0, locals := 0 } : Room).slots (Q4 kx bx x' y h0 n0) s₁ (mkF m 0 #[.val (.ref o), .val (.int x'), .val (.double y), .second] [])
  refine Go.st (fun _ k_ => XS.aloadN X0.here hx rfl (hb hby d4_0) rfl rfl k_) ?_
  show Go p e s below ({ frames := 0, cells := 0, slots := 0, locals := 0 } : Room).cells ({ frames := 0, cells := 0, slots := 0, locals := 0 } : Room).slots (Q4 kx bx x' y h0 n0) s₁ (mkF m 1 #[.val (.ref o), .val (.int x'), .val (.double y), .second] [(.ref o)])
  obtain ⟨T5, X5, e5, st5⟩ := getF X0 hx hZ hown (host := "") (Or.inl (hw _ (List.mem_of_getElem? (i := 16) rfl))) Via.refl e0 Fk (g := (mkF m 1 #[.val (.ref o), .val (.int x'), .val (.double y), .second] [(.ref o)])) rfl rfl (hb hby d4_1)
  refine Go.st st5 ?_
  show Go p e s below ({ frames := 0, cells := 0, slots := 0, locals := 0 } : Room).cells ({ frames := 0, cells := 0, slots := 0, locals := 0 } : Room).slots (Q4 kx bx x' y h0 n0) T5 (mkF m 4 #[.val (.ref o), .val (.int x'), .val (.double y), .second] [(.double kx)])
  refine Go.st (fun _ k_ => XS.dconst1 X5.here hx rfl (hb hby d4_4) rfl k_) ?_
  show Go p e s below ({ frames := 0, cells := 0, slots := 0, locals := 0 } : Room).cells ({ frames := 0, cells := 0, slots := 0, locals := 0 } : Room).slots (Q4 kx bx x' y h0 n0) T5 (mkF m 5 #[.val (.ref o), .val (.int x'), .val (.double y), .second] [(.double Jvm.FP.dconst1), (.double kx)])
  refine Go.st (fun _ k_ => XS.aloadN X5.here hx rfl (hb hby d4_5) rfl rfl k_) ?_
  show Go p e s below ({ frames := 0, cells := 0, slots := 0, locals := 0 } : Room).cells ({ frames := 0, cells := 0, slots := 0, locals := 0 } : Room).slots (Q4 kx bx x' y h0 n0) T5 (mkF m 6 #[.val (.ref o), .val (.int x'), .val (.double y), .second] [(.ref o), (.double Jvm.FP.dconst1), (.double kx)])
  obtain ⟨T6, X6, e6, st6⟩ := getF X5 hx hZ hown (host := "") (Or.inl (hw _ (List.mem_of_getElem? (i := 18) rfl))) Via.refl e5 Fb (g := (mkF m 6 #[.val (.ref o), .val (.int x'), .val (.double y), .second] [(.ref o), (.double Jvm.FP.dconst1), (.double kx)])) rfl rfl (hb hby d4_6)
  refine Go.st st6 ?_
  show Go p e s below ({ frames := 0, cells := 0, slots := 0, locals := 0 } : Room).cells ({ frames := 0, cells := 0, slots := 0, locals := 0 } : Room).slots (Q4 kx bx x' y h0 n0) T6 (mkF m 9 #[.val (.ref o), .val (.int x'), .val (.double y), .second] [(.double bx), (.double Jvm.FP.dconst1), (.double kx)])
  refine Go.st (fun _ k_ => XS.dsubS X6.here hx rfl (hb hby d4_9) rfl n1 rfl k_) ?_
  show Go p e s below ({ frames := 0, cells := 0, slots := 0, locals := 0 } : Room).cells ({ frames := 0, cells := 0, slots := 0, locals := 0 } : Room).slots (Q4 kx bx x' y h0 n0) T6 (mkF m 10 #[.val (.ref o), .val (.int x'), .val (.double y), .second] [(.double (Jvm.FP.dsub Jvm.FP.dconst1 bx)), (.double kx)])
  refine Go.st (fun _ k_ => XS.aloadN X6.here hx rfl (hb hby d4_10) rfl rfl k_) ?_
  show Go p e s below ({ frames := 0, cells := 0, slots := 0, locals := 0 } : Room).cells ({ frames := 0, cells := 0, slots := 0, locals := 0 } : Room).slots (Q4 kx bx x' y h0 n0) T6 (mkF m 11 #[.val (.ref o), .val (.int x'), .val (.double y), .second] [(.ref o), (.double (Jvm.FP.dsub Jvm.FP.dconst1 bx)), (.double kx)])
  obtain ⟨T7, X7, e7, st7⟩ := getF X6 hx hZ hown (host := "") (Or.inl (hw _ (List.mem_of_getElem? (i := 18) rfl))) Via.refl e6 Fb (g := (mkF m 11 #[.val (.ref o), .val (.int x'), .val (.double y), .second] [(.ref o), (.double (Jvm.FP.dsub Jvm.FP.dconst1 bx)), (.double kx)])) rfl rfl (hb hby d4_11)
  refine Go.st st7 ?_
  show Go p e s below ({ frames := 0, cells := 0, slots := 0, locals := 0 } : Room).cells ({ frames := 0, cells := 0, slots := 0, locals := 0 } : Room).slots (Q4 kx bx x' y h0 n0) T7 (mkF m 14 #[.val (.ref o), .val (.int x'), .val (.double y), .second] [(.double bx), (.double (Jvm.FP.dsub Jvm.FP.dconst1 bx)), (.double kx)])
  refine Go.st (fun _ k_ => XS.iloadN X7.here hx rfl (hb hby d4_14) rfl k_) ?_
  show Go p e s below ({ frames := 0, cells := 0, slots := 0, locals := 0 } : Room).cells ({ frames := 0, cells := 0, slots := 0, locals := 0 } : Room).slots (Q4 kx bx x' y h0 n0) T7 (mkF m 15 #[.val (.ref o), .val (.int x'), .val (.double y), .second] [(.int x'), (.double bx), (.double (Jvm.FP.dsub Jvm.FP.dconst1 bx)), (.double kx)])
  refine Go.st (fun _ k_ => XS.i2dS X7.here hx rfl (hb hby d4_15) rfl rfl k_) ?_
  show Go p e s below ({ frames := 0, cells := 0, slots := 0, locals := 0 } : Room).cells ({ frames := 0, cells := 0, slots := 0, locals := 0 } : Room).slots (Q4 kx bx x' y h0 n0) T7 (mkF m 16 #[.val (.ref o), .val (.int x'), .val (.double y), .second] [(.double (Jvm.FP.i2d x')), (.double bx), (.double (Jvm.FP.dsub Jvm.FP.dconst1 bx)), (.double kx)])
  refine Go.st (fun _ k_ => XS.dmulS X7.here hx rfl (hb hby d4_16) rfl n2 rfl k_) ?_
  show Go p e s below ({ frames := 0, cells := 0, slots := 0, locals := 0 } : Room).cells ({ frames := 0, cells := 0, slots := 0, locals := 0 } : Room).slots (Q4 kx bx x' y h0 n0) T7 (mkF m 17 #[.val (.ref o), .val (.int x'), .val (.double y), .second] [(.double (Jvm.FP.dmul bx (Jvm.FP.i2d x'))), (.double (Jvm.FP.dsub Jvm.FP.dconst1 bx)), (.double kx)])
  refine Go.st (fun _ k_ => XS.dloadN X7.here hx rfl (hb hby d4_17) rfl k_) ?_
  show Go p e s below ({ frames := 0, cells := 0, slots := 0, locals := 0 } : Room).cells ({ frames := 0, cells := 0, slots := 0, locals := 0 } : Room).slots (Q4 kx bx x' y h0 n0) T7 (mkF m 18 #[.val (.ref o), .val (.int x'), .val (.double y), .second] [(.double y), (.double (Jvm.FP.dmul bx (Jvm.FP.i2d x'))), (.double (Jvm.FP.dsub Jvm.FP.dconst1 bx)), (.double kx)])
  refine Go.st (fun _ k_ => XS.ddivS X7.here hx rfl (hb hby d4_18) rfl n3 rfl k_) ?_
  show Go p e s below ({ frames := 0, cells := 0, slots := 0, locals := 0 } : Room).cells ({ frames := 0, cells := 0, slots := 0, locals := 0 } : Room).slots (Q4 kx bx x' y h0 n0) T7 (mkF m 19 #[.val (.ref o), .val (.int x'), .val (.double y), .second] [(.double (Jvm.FP.ddiv (Jvm.FP.dmul bx (Jvm.FP.i2d x')) y)), (.double (Jvm.FP.dsub Jvm.FP.dconst1 bx)), (.double kx)])
  refine Go.st (fun _ k_ => XS.daddS X7.here hx rfl (hb hby d4_19) rfl n4 rfl k_) ?_
  show Go p e s below ({ frames := 0, cells := 0, slots := 0, locals := 0 } : Room).cells ({ frames := 0, cells := 0, slots := 0, locals := 0 } : Room).slots (Q4 kx bx x' y h0 n0) T7 (mkF m 20 #[.val (.ref o), .val (.int x'), .val (.double y), .second] [(.double (Jvm.FP.dadd (Jvm.FP.dsub Jvm.FP.dconst1 bx) (Jvm.FP.ddiv (Jvm.FP.dmul bx (Jvm.FP.i2d x')) y))), (.double kx)])
  refine Go.st (fun _ k_ => XS.dmulS X7.here hx rfl (hb hby d4_20) rfl n5 rfl k_) ?_
  show Go p e s below ({ frames := 0, cells := 0, slots := 0, locals := 0 } : Room).cells ({ frames := 0, cells := 0, slots := 0, locals := 0 } : Room).slots (Q4 kx bx x' y h0 n0) T7 (mkF m 21 #[.val (.ref o), .val (.int x'), .val (.double y), .second] [(.double (Jvm.FP.dmul kx (Jvm.FP.dadd (Jvm.FP.dsub Jvm.FP.dconst1 bx) (Jvm.FP.ddiv (Jvm.FP.dmul bx (Jvm.FP.i2d x')) y))))])
  exact Go.retD X7 hx hlk Bd.returns (hb hby d4_21) (by decide) (by decide) ⟨rfl, N0, e7⟩
def Q0 (h0 : Heap) (n0 : Nat) (v : Option Value) (h : Heap) (L : List Loc) : Prop := v = some (.int 1) ∧ Fr n0 L
set_option maxRecDepth 65536 in
set_option maxHeartbeats 40000000 in
theorem rm0 (l : Launch) (Z : State) (a0 : Array Value) (hw : ∀ d ∈ tables_1, d.before a0 Z = true) (ws : List Jvm.Cond) (p1 p2 p3 p4 p5 : Int32) (h0 : Heap) (n0 : Nat) (Z0 : n0 ≤ h0.size)  :
    MetFree l x (head1 (Jvm.Cond.code x code maxLocals ret :: ws) room_1) (fun a_ U_ => a_ = #[(.int p1), (.int p2), (.int p3), (.int p4), (.int p5)] ∧ Z.Warmed39 U_.vm ∧ U_.heap = h0) (fun _ _ _ _ _ => True) (fun _ U_ o_ W_ => ∃ v_ L_, o_ = .returned v_ ∧ (Q0 h0 n0) v_ W_.heap L_ ∧ FrameEnd U_ o_ W_ L_ room_1.cells room_1.slots) := by
  refine MetFree.of_bodySF (plainFor_of_name pn_com_example_vernal_stem_vernalstem_search_Bm25LengthNormPinLaw) hisR ?_
  intro p e s m args below meth c s₁ Bd hml0 hP hK
  obtain ⟨rfl, hZ, hh⟩ := hP
  have hx := Bd.exec
  have hby := Bd.bytes
  have hml : c.maxLocals = 19 := hml0
  have hown : s.vm.findClass "com/example/vernal_stem/vernalstem/search/Bm25LengthNormPinLaw" = some m.cls := findClass_of_methodNamed Bd.named
  have hnm := (name_of_methodNamed Bd.named Bd.method).1
  have hlk : meth.locks = false := BodyLoose.notSynchronized Bd
  have X0 : Stand p l e room_1 s m #[(.int p1), (.int p2), (.int p3), (.int p4), (.int p5)] below meth c s₁ [] 0 0 := Stand.of_body Bd
  have e0 : s₁.heap = h0 := by rw [← hh, Bd.state]; rfl
  have N0 := Fr.nil n0
  refine Go.enter (ef_0 m p1 p2 p3 p4 p5) ?_
  show Go p e s below room_1.cells room_1.slots (Q0 h0 n0) s₁ (mkF m 0 #[.val (.int p1), .val (.int p2), .val (.int p3), .val (.int p4), .val (.int p5), .unset, .unset, .unset, .unset, .unset, .unset, .unset, .unset, .unset, .unset, .unset, .unset, .unset, .unset] [])
  refine Go.st (fun _ k_ => XS.iloadN X0.here hx rfl (hb hby at_0) rfl k_) ?_
  show Go p e s below room_1.cells room_1.slots (Q0 h0 n0) s₁ (mkF m 1 #[.val (.int p1), .val (.int p2), .val (.int p3), .val (.int p4), .val (.int p5), .unset, .unset, .unset, .unset, .unset, .unset, .unset, .unset, .unset, .unset, .unset, .unset, .unset, .unset] [(.int p1)])
  refine Go.st (fun _ k_ => XS.sipush X0.here hx rfl (hb hby at_1) k_) ?_
  show Go p e s below room_1.cells room_1.slots (Q0 h0 n0) s₁ (mkF m 4 #[.val (.int p1), .val (.int p2), .val (.int p3), .val (.int p4), .val (.int p5), .unset, .unset, .unset, .unset, .unset, .unset, .unset, .unset, .unset, .unset, .unset, .unset, .unset, .unset] [(.int (1023 : Int32)), (.int p1)])
  refine Go.st (fun _ k_ => XS.iand X0.here hx rfl (hb hby at_4) rfl k_) ?_
  obtain ⟨K, hK, eK⟩ := own_k p1
  show Go p e s below room_1.cells room_1.slots (Q0 h0 n0) s₁ (mkF m 5 #[.val (.int p1), .val (.int p2), .val (.int p3), .val (.int p4), .val (.int p5), .unset, .unset, .unset, .unset, .unset, .unset, .unset, .unset, .unset, .unset, .unset, .unset, .unset, .unset] [(.int (p1 &&& (1023 : Int32)))])
  rw [eK]
  show Go p e s below room_1.cells room_1.slots (Q0 h0 n0) s₁ (mkF m 5 #[.val (.int p1), .val (.int p2), .val (.int p3), .val (.int p4), .val (.int p5), .unset, .unset, .unset, .unset, .unset, .unset, .unset, .unset, .unset, .unset, .unset, .unset, .unset, .unset] [(.int (Int32.ofNat K))])
  refine Go.st (fun _ k_ => XS.istore X0.here hx rfl (hb hby at_5) rfl (l' := #[.val (.int p1), .val (.int p2), .val (.int p3), .val (.int p4), .val (.int p5), .val (.int (Int32.ofNat K)), .unset, .unset, .unset, .unset, .unset, .unset, .unset, .unset, .unset, .unset, .unset, .unset, .unset]) rfl k_) ?_
  show Go p e s below room_1.cells room_1.slots (Q0 h0 n0) s₁ (mkF m 7 #[.val (.int p1), .val (.int p2), .val (.int p3), .val (.int p4), .val (.int p5), .val (.int (Int32.ofNat K)), .unset, .unset, .unset, .unset, .unset, .unset, .unset, .unset, .unset, .unset, .unset, .unset, .unset] [])
  refine Go.st (fun _ k_ => XS.iloadN X0.here hx rfl (hb hby at_7) rfl k_) ?_
  show Go p e s below room_1.cells room_1.slots (Q0 h0 n0) s₁ (mkF m 8 #[.val (.int p1), .val (.int p2), .val (.int p3), .val (.int p4), .val (.int p5), .val (.int (Int32.ofNat K)), .unset, .unset, .unset, .unset, .unset, .unset, .unset, .unset, .unset, .unset, .unset, .unset, .unset] [(.int p2)])
  refine Go.st (X0.ldcInt hx hown (mvT hZ (hw _ (List.mem_of_getElem? (i := 0) rfl))) (g := (mkF m 8 #[.val (.int p1), .val (.int p2), .val (.int p3), .val (.int p4), .val (.int p5), .val (.int (Int32.ofNat K)), .unset, .unset, .unset, .unset, .unset, .unset, .unset, .unset, .unset, .unset, .unset, .unset, .unset] [(.int p2)])) rfl (hb hby at_8)) ?_
  show Go p e s below room_1.cells room_1.slots (Q0 h0 n0) s₁ (mkF m 10 #[.val (.int p1), .val (.int p2), .val (.int p3), .val (.int p4), .val (.int p5), .val (.int (Int32.ofNat K)), .unset, .unset, .unset, .unset, .unset, .unset, .unset, .unset, .unset, .unset, .unset, .unset, .unset] [(.int (2147483647 : Int32)), (.int p2)])
  refine Go.st (fun _ k_ => XS.iand X0.here hx rfl (hb hby at_10) rfl k_) ?_
  show Go p e s below room_1.cells room_1.slots (Q0 h0 n0) s₁ (mkF m 11 #[.val (.int p1), .val (.int p2), .val (.int p3), .val (.int p4), .val (.int p5), .val (.int (Int32.ofNat K)), .unset, .unset, .unset, .unset, .unset, .unset, .unset, .unset, .unset, .unset, .unset, .unset, .unset] [(.int (p2 &&& (2147483647 : Int32)))])
  refine Go.st (fun _ k_ => XS.iconst X0.here hx rfl (hb hby at_11) k_) ?_
  show Go p e s below room_1.cells room_1.slots (Q0 h0 n0) s₁ (mkF m 12 #[.val (.int p1), .val (.int p2), .val (.int p3), .val (.int p4), .val (.int p5), .val (.int (Int32.ofNat K)), .unset, .unset, .unset, .unset, .unset, .unset, .unset, .unset, .unset, .unset, .unset, .unset, .unset] [(.int (5 : Int32)), (.int (p2 &&& (2147483647 : Int32)))])
  refine Go.st (fun _ k_ => XS.irem X0.here hx rfl (hb hby at_12) rfl (by decide) k_) ?_
  obtain ⟨J, hJ, eJ⟩ := own_j p2
  show Go p e s below room_1.cells room_1.slots (Q0 h0 n0) s₁ (mkF m 13 #[.val (.int p1), .val (.int p2), .val (.int p3), .val (.int p4), .val (.int p5), .val (.int (Int32.ofNat K)), .unset, .unset, .unset, .unset, .unset, .unset, .unset, .unset, .unset, .unset, .unset, .unset, .unset] [(.int ((p2 &&& (2147483647 : Int32)) - ((p2 &&& (2147483647 : Int32)) / (5 : Int32)) * (5 : Int32)))])
  rw [eJ]
  show Go p e s below room_1.cells room_1.slots (Q0 h0 n0) s₁ (mkF m 13 #[.val (.int p1), .val (.int p2), .val (.int p3), .val (.int p4), .val (.int p5), .val (.int (Int32.ofNat K)), .unset, .unset, .unset, .unset, .unset, .unset, .unset, .unset, .unset, .unset, .unset, .unset, .unset] [(.int (Int32.ofNat J))])
  refine Go.st (fun _ k_ => XS.istore X0.here hx rfl (hb hby at_13) rfl (l' := #[.val (.int p1), .val (.int p2), .val (.int p3), .val (.int p4), .val (.int p5), .val (.int (Int32.ofNat K)), .val (.int (Int32.ofNat J)), .unset, .unset, .unset, .unset, .unset, .unset, .unset, .unset, .unset, .unset, .unset, .unset]) rfl k_) ?_
  show Go p e s below room_1.cells room_1.slots (Q0 h0 n0) s₁ (mkF m 15 #[.val (.int p1), .val (.int p2), .val (.int p3), .val (.int p4), .val (.int p5), .val (.int (Int32.ofNat K)), .val (.int (Int32.ofNat J)), .unset, .unset, .unset, .unset, .unset, .unset, .unset, .unset, .unset, .unset, .unset, .unset] [])
  refine Go.st (fun _ k_ => XS.iload X0.here hx rfl (hb hby at_15) rfl k_) ?_
  show Go p e s below room_1.cells room_1.slots (Q0 h0 n0) s₁ (mkF m 17 #[.val (.int p1), .val (.int p2), .val (.int p3), .val (.int p4), .val (.int p5), .val (.int (Int32.ofNat K)), .val (.int (Int32.ofNat J)), .unset, .unset, .unset, .unset, .unset, .unset, .unset, .unset, .unset, .unset, .unset, .unset] [(.int (Int32.ofNat J))])
  refine Go.st (fun _ k_ => XS.i2dS X0.here hx rfl (hb hby at_17) rfl rfl k_) ?_
  show Go p e s below room_1.cells room_1.slots (Q0 h0 n0) s₁ (mkF m 18 #[.val (.int p1), .val (.int p2), .val (.int p3), .val (.int p4), .val (.int p5), .val (.int (Int32.ofNat K)), .val (.int (Int32.ofNat J)), .unset, .unset, .unset, .unset, .unset, .unset, .unset, .unset, .unset, .unset, .unset, .unset] [(.double (Jvm.FP.i2d (Int32.ofNat J)))])
  refine Go.st (X0.ldc2DoubleC hx hown (mvT hZ (hw _ (List.mem_of_getElem? (i := 1) rfl))) (g := (mkF m 18 #[.val (.int p1), .val (.int p2), .val (.int p3), .val (.int p4), .val (.int p5), .val (.int (Int32.ofNat K)), .val (.int (Int32.ofNat J)), .unset, .unset, .unset, .unset, .unset, .unset, .unset, .unset, .unset, .unset, .unset, .unset] [(.double (Jvm.FP.i2d (Int32.ofNat J)))])) rfl (hb hby at_18)) ?_
  have Vj : Vl (Jvm.FP.i2d (Int32.ofNat J)) J 0 := by have q := Vl.i2d (Int32.ofNat J); rw [on_toInt (by omega)] at q; exact q
  have Vk : Vl (Jvm.FP.i2d (Int32.ofNat K)) K 0 := by have q := Vl.i2d (Int32.ofNat K); rw [on_toInt (by omega)] at q; exact q
  have Vb : Vl (Jvm.FP.ddiv (Jvm.FP.i2d (Int32.ofNat J)) (4616189618054758400 : UInt64)) J 2 := Vl.div Vj Vl.four (by decide) (by decide) (by decide) (by decide) (by omega) (by show (J : Int) * 4 * 1 = (J : Int) * 4; omega)
  show Go p e s below room_1.cells room_1.slots (Q0 h0 n0) s₁ (mkF m 21 #[.val (.int p1), .val (.int p2), .val (.int p3), .val (.int p4), .val (.int p5), .val (.int (Int32.ofNat K)), .val (.int (Int32.ofNat J)), .unset, .unset, .unset, .unset, .unset, .unset, .unset, .unset, .unset, .unset, .unset, .unset] [(.double (4616189618054758400 : UInt64)), (.double (Jvm.FP.i2d (Int32.ofNat J)))])
  refine Go.st (fun _ k_ => XS.ddivS X0.here hx rfl (hb hby at_21) rfl Vb.nn rfl k_) ?_
  show Go p e s below room_1.cells room_1.slots (Q0 h0 n0) s₁ (mkF m 22 #[.val (.int p1), .val (.int p2), .val (.int p3), .val (.int p4), .val (.int p5), .val (.int (Int32.ofNat K)), .val (.int (Int32.ofNat J)), .unset, .unset, .unset, .unset, .unset, .unset, .unset, .unset, .unset, .unset, .unset, .unset] [(.double (Jvm.FP.ddiv (Jvm.FP.i2d (Int32.ofNat J)) (4616189618054758400 : UInt64)))])
  obtain ⟨bx, hbx⟩ : ∃ z : UInt64, z = (Jvm.FP.ddiv (Jvm.FP.i2d (Int32.ofNat J)) (4616189618054758400 : UInt64)) := ⟨_, rfl⟩
  rw [← hbx] at Vb
  rw [← hbx]
  show Go p e s below room_1.cells room_1.slots (Q0 h0 n0) s₁ (mkF m 22 #[.val (.int p1), .val (.int p2), .val (.int p3), .val (.int p4), .val (.int p5), .val (.int (Int32.ofNat K)), .val (.int (Int32.ofNat J)), .unset, .unset, .unset, .unset, .unset, .unset, .unset, .unset, .unset, .unset, .unset, .unset] [(.double bx)])
  refine Go.st (fun _ k_ => XS.dstore X0.here hx rfl (hb hby at_22) rfl (l' := #[.val (.int p1), .val (.int p2), .val (.int p3), .val (.int p4), .val (.int p5), .val (.int (Int32.ofNat K)), .val (.int (Int32.ofNat J)), .val (.double bx), .second, .unset, .unset, .unset, .unset, .unset, .unset, .unset, .unset, .unset, .unset]) rfl k_) ?_
  show Go p e s below room_1.cells room_1.slots (Q0 h0 n0) s₁ (mkF m 24 #[.val (.int p1), .val (.int p2), .val (.int p3), .val (.int p4), .val (.int p5), .val (.int (Int32.ofNat K)), .val (.int (Int32.ofNat J)), .val (.double bx), .second, .unset, .unset, .unset, .unset, .unset, .unset, .unset, .unset, .unset, .unset] [])
  obtain ⟨T8, h8, X8, e8, E8, A8, D8, -, st8⟩ := newO X0 hx hZ hown (hw _ (List.mem_of_getElem? (i := 2) rfl)) (hw _ (List.mem_of_getElem? (i := 3) rfl)) (hw _ (List.mem_of_getElem? (i := 4) rfl)) e0 (g := (mkF m 24 #[.val (.int p1), .val (.int p2), .val (.int p3), .val (.int p4), .val (.int p5), .val (.int (Int32.ofNat K)), .val (.int (Int32.ofNat J)), .val (.double bx), .second, .unset, .unset, .unset, .unset, .unset, .unset, .unset, .unset, .unset, .unset] [])) rfl (hb hby at_24) (by decide) (by decide)
  obtain ⟨o, g8⟩ : ∃ z, z = h0.size := ⟨_, rfl⟩
  rw [← g8] at A8 D8 st8
  refine Go.st st8 ?_
  have Fk : Fld Z h8 o "com/example/vernal_stem/vernalstem/search/Bm25" "k1" "D" (.double (0 : UInt64)) := D8 (Or.inr (hw _ (List.mem_of_getElem? (i := 17) rfl))) (ty := .double) (by decide)
  have Fb : Fld Z h8 o "com/example/vernal_stem/vernalstem/search/Bm25" "b" "D" (.double (0 : UInt64)) := D8 (Or.inr (hw _ (List.mem_of_getElem? (i := 19) rfl))) (ty := .double) (by decide)
  have go : n0 ≤ o := by rw [g8]; exact Z0
  show Go p e s below room_1.cells room_1.slots (Q0 h0 n0) T8 (mkF m 27 #[.val (.int p1), .val (.int p2), .val (.int p3), .val (.int p4), .val (.int p5), .val (.int (Int32.ofNat K)), .val (.int (Int32.ofNat J)), .val (.double bx), .second, .unset, .unset, .unset, .unset, .unset, .unset, .unset, .unset, .unset, .unset] [(.ref o)])
  refine Go.st (fun _ k_ => XS.dup X8.here hx rfl (hb hby at_27) rfl rfl k_) ?_
  show Go p e s below room_1.cells room_1.slots (Q0 h0 n0) T8 (mkF m 28 #[.val (.int p1), .val (.int p2), .val (.int p3), .val (.int p4), .val (.int p5), .val (.int (Int32.ofNat K)), .val (.int (Int32.ofNat J)), .val (.double bx), .second, .unset, .unset, .unset, .unset, .unset, .unset, .unset, .unset, .unset, .unset] [(.ref o), (.ref o)])
  refine Go.st (fun _ k_ => XS.iload X8.here hx rfl (hb hby at_28) rfl k_) ?_
  show Go p e s below room_1.cells room_1.slots (Q0 h0 n0) T8 (mkF m 30 #[.val (.int p1), .val (.int p2), .val (.int p3), .val (.int p4), .val (.int p5), .val (.int (Int32.ofNat K)), .val (.int (Int32.ofNat J)), .val (.double bx), .second, .unset, .unset, .unset, .unset, .unset, .unset, .unset, .unset, .unset, .unset] [(.int (Int32.ofNat K)), (.ref o), (.ref o)])
  refine Go.st (fun _ k_ => XS.i2dS X8.here hx rfl (hb hby at_30) rfl rfl k_) ?_
  show Go p e s below room_1.cells room_1.slots (Q0 h0 n0) T8 (mkF m 31 #[.val (.int p1), .val (.int p2), .val (.int p3), .val (.int p4), .val (.int p5), .val (.int (Int32.ofNat K)), .val (.int (Int32.ofNat J)), .val (.double bx), .second, .unset, .unset, .unset, .unset, .unset, .unset, .unset, .unset, .unset, .unset] [(.double (Jvm.FP.i2d (Int32.ofNat K))), (.ref o), (.ref o)])
  refine Go.st (fun _ k_ => XS.dload X8.here hx rfl (hb hby at_31) rfl k_) ?_
  show Go p e s below room_1.cells room_1.slots (Q0 h0 n0) T8 (mkF m 33 #[.val (.int p1), .val (.int p2), .val (.int p3), .val (.int p4), .val (.int p5), .val (.int (Int32.ofNat K)), .val (.int (Int32.ofNat J)), .val (.double bx), .second, .unset, .unset, .unset, .unset, .unset, .unset, .unset, .unset, .unset, .unset] [(.double bx), (.double (Jvm.FP.i2d (Int32.ofNat K))), (.ref o), (.ref o)])
  obtain ⟨kx, hkx⟩ : ∃ z : UInt64, z = (Jvm.FP.i2d (Int32.ofNat K)) := ⟨_, rfl⟩
  rw [← hkx] at Vk
  rw [← hkx]
  show Go p e s below room_1.cells room_1.slots (Q0 h0 n0) T8 (mkF m 33 #[.val (.int p1), .val (.int p2), .val (.int p3), .val (.int p4), .val (.int p5), .val (.int (Int32.ofNat K)), .val (.int (Int32.ofNat J)), .val (.double bx), .second, .unset, .unset, .unset, .unset, .unset, .unset, .unset, .unset, .unset, .unset] [(.double bx), (.double kx), (.ref o), (.ref o)])
  obtain ⟨_, _, ⟨T9, L9, k9, n9⟩, -, X9, ⟨Lc9, hQ9, l9, y9, z9⟩, st9⟩ := X8.specialBack hx (y := (⟨"com/example/vernal_stem/vernalstem/search/Bm25", "<init>", "(DD)V"⟩ : MethodName)) rfl hown (mvT hZ (hw _ (List.mem_of_getElem? (i := 5) rfl))) (mvT hZ (hw _ (List.mem_of_getElem? (i := 6) rfl))) (mvT hZ (hw _ (List.mem_of_getElem? (i := 7) rfl))) (by decide) (backOf (W := 1) (rm1 l Z a0 hw [] o kx bx h8 n0 (Nat.le_trans Z0 E8.1) A8 Fk Fb go) hZ (hw _ (List.mem_of_getElem? (i := 7) rfl)) (hw _ (List.mem_of_getElem? (i := 4) rfl)) (by decide) (by decide)) (g := (mkF m 33 #[.val (.int p1), .val (.int p2), .val (.int p3), .val (.int p4), .val (.int p5), .val (.int (Int32.ofNat K)), .val (.int (Int32.ofNat J)), .val (.double bx), .second, .unset, .unset, .unset, .unset, .unset, .unset, .unset, .unset, .unset, .unset] [(.double bx), (.double kx), (.ref o), (.ref o)])) rfl (by rw [hml]; rfl) (Steps.refl _) (a := o) (argsL := [(.double kx), (.double bx)]) (rest := [(.ref o)]) (lenOf pd_1 rfl) rfl (by show 2 * 0 + _ ≤ _; exact Nat.le_of_eq rfl) (hb hby at_33) (fun _ _ => ⟨rfl, e8, (by decide : (0 + 1) + 0 ≤ _), (by decide : (0 + 2) + 0 ≤ _)⟩)
  dsimp only [Pt.U, Pt.locs, Pt.cells, Pt.slots] at X9 l9 y9 z9 st9 hQ9
  subst l9 y9 z9
  obtain ⟨rfl, hN9, Z1, E1, Fk1, Fb1⟩ := hQ9
  have N9 := Fr.app N0 hN9
  refine Go.tr st9 ?_
  show Go p e s below room_1.cells room_1.slots (Q0 h0 n0) T9 (mkF m 36 #[.val (.int p1), .val (.int p2), .val (.int p3), .val (.int p4), .val (.int p5), .val (.int (Int32.ofNat K)), .val (.int (Int32.ofNat J)), .val (.double bx), .second, .unset, .unset, .unset, .unset, .unset, .unset, .unset, .unset, .unset, .unset] [(.ref o)])
  refine Go.st (fun _ k_ => XS.astore X9.here hx rfl (hb hby at_36) rfl rfl (l' := #[.val (.int p1), .val (.int p2), .val (.int p3), .val (.int p4), .val (.int p5), .val (.int (Int32.ofNat K)), .val (.int (Int32.ofNat J)), .val (.double bx), .second, .val (.ref o), .unset, .unset, .unset, .unset, .unset, .unset, .unset, .unset, .unset]) rfl k_) ?_
  show Go p e s below room_1.cells room_1.slots (Q0 h0 n0) T9 (mkF m 38 #[.val (.int p1), .val (.int p2), .val (.int p3), .val (.int p4), .val (.int p5), .val (.int (Int32.ofNat K)), .val (.int (Int32.ofNat J)), .val (.double bx), .second, .val (.ref o), .unset, .unset, .unset, .unset, .unset, .unset, .unset, .unset, .unset] [])
  refine Go.st (fun _ k_ => XS.iload X9.here hx rfl (hb hby at_38) rfl k_) ?_
  show Go p e s below room_1.cells room_1.slots (Q0 h0 n0) T9 (mkF m 40 #[.val (.int p1), .val (.int p2), .val (.int p3), .val (.int p4), .val (.int p5), .val (.int (Int32.ofNat K)), .val (.int (Int32.ofNat J)), .val (.double bx), .second, .val (.ref o), .unset, .unset, .unset, .unset, .unset, .unset, .unset, .unset, .unset] [(.int p5)])
  refine Go.st (fun _ k_ => XS.iconst X9.here hx rfl (hb hby at_40) k_) ?_
  show Go p e s below room_1.cells room_1.slots (Q0 h0 n0) T9 (mkF m 41 #[.val (.int p1), .val (.int p2), .val (.int p3), .val (.int p4), .val (.int p5), .val (.int (Int32.ofNat K)), .val (.int (Int32.ofNat J)), .val (.double bx), .second, .val (.ref o), .unset, .unset, .unset, .unset, .unset, .unset, .unset, .unset, .unset] [(.int (1 : Int32)), (.int p5)])
  refine Go.st (fun _ k_ => XS.iand X9.here hx rfl (hb hby at_41) rfl k_) ?_
  by_cases hm : (p5 &&& (1 : Int32)) = (0 : Int32)
  · skip
    show Go p e s below room_1.cells room_1.slots (Q0 h0 n0) T9 (mkF m 42 #[.val (.int p1), .val (.int p2), .val (.int p3), .val (.int p4), .val (.int p5), .val (.int (Int32.ofNat K)), .val (.int (Int32.ofNat J)), .val (.double bx), .second, .val (.ref o), .unset, .unset, .unset, .unset, .unset, .unset, .unset, .unset, .unset] [(.int (p5 &&& (1 : Int32)))])
    refine Go.st (fun _ k_ => XS.ifNo X9.here hx rfl (hb hby at_42) rfl ((if0 _ _).trans (teq hm).2) k_) ?_
    show Go p e s below room_1.cells room_1.slots (Q0 h0 n0) T9 (mkF m 45 #[.val (.int p1), .val (.int p2), .val (.int p3), .val (.int p4), .val (.int p5), .val (.int (Int32.ofNat K)), .val (.int (Int32.ofNat J)), .val (.double bx), .second, .val (.ref o), .unset, .unset, .unset, .unset, .unset, .unset, .unset, .unset, .unset] [])
    refine Go.st (fun _ k_ => XS.iloadN X9.here hx rfl (hb hby at_45) rfl k_) ?_
    show Go p e s below room_1.cells room_1.slots (Q0 h0 n0) T9 (mkF m 46 #[.val (.int p1), .val (.int p2), .val (.int p3), .val (.int p4), .val (.int p5), .val (.int (Int32.ofNat K)), .val (.int (Int32.ofNat J)), .val (.double bx), .second, .val (.ref o), .unset, .unset, .unset, .unset, .unset, .unset, .unset, .unset, .unset] [(.int p4)])
    refine Go.st (fun _ k_ => XS.bipush X9.here hx rfl (hb hby at_46) k_) ?_
    show Go p e s below room_1.cells room_1.slots (Q0 h0 n0) T9 (mkF m 48 #[.val (.int p1), .val (.int p2), .val (.int p3), .val (.int p4), .val (.int p5), .val (.int (Int32.ofNat K)), .val (.int (Int32.ofNat J)), .val (.double bx), .second, .val (.ref o), .unset, .unset, .unset, .unset, .unset, .unset, .unset, .unset, .unset] [(.int (15 : Int32)), (.int p4)])
    refine Go.st (fun _ k_ => XS.iand X9.here hx rfl (hb hby at_48) rfl k_) ?_
    obtain ⟨P, hP, eP⟩ := own_15 p4
    show Go p e s below room_1.cells room_1.slots (Q0 h0 n0) T9 (mkF m 49 #[.val (.int p1), .val (.int p2), .val (.int p3), .val (.int p4), .val (.int p5), .val (.int (Int32.ofNat K)), .val (.int (Int32.ofNat J)), .val (.double bx), .second, .val (.ref o), .unset, .unset, .unset, .unset, .unset, .unset, .unset, .unset, .unset] [(.int (p4 &&& (15 : Int32)))])
    rw [eP]
    show Go p e s below room_1.cells room_1.slots (Q0 h0 n0) T9 (mkF m 49 #[.val (.int p1), .val (.int p2), .val (.int p3), .val (.int p4), .val (.int p5), .val (.int (Int32.ofNat K)), .val (.int (Int32.ofNat J)), .val (.double bx), .second, .val (.ref o), .unset, .unset, .unset, .unset, .unset, .unset, .unset, .unset, .unset] [(.int (Int32.ofNat P))])
    refine Go.st (fun _ k_ => XS.istore X9.here hx rfl (hb hby at_49) rfl (l' := #[.val (.int p1), .val (.int p2), .val (.int p3), .val (.int p4), .val (.int p5), .val (.int (Int32.ofNat K)), .val (.int (Int32.ofNat J)), .val (.double bx), .second, .val (.ref o), .val (.int (Int32.ofNat P)), .unset, .unset, .unset, .unset, .unset, .unset, .unset, .unset]) rfl k_) ?_
    show Go p e s below room_1.cells room_1.slots (Q0 h0 n0) T9 (mkF m 51 #[.val (.int p1), .val (.int p2), .val (.int p3), .val (.int p4), .val (.int p5), .val (.int (Int32.ofNat K)), .val (.int (Int32.ofNat J)), .val (.double bx), .second, .val (.ref o), .val (.int (Int32.ofNat P)), .unset, .unset, .unset, .unset, .unset, .unset, .unset, .unset] [])
    refine Go.st (fun _ k_ => XS.lconst X9.here hx rfl (hb hby at_51) k_) ?_
    show Go p e s below room_1.cells room_1.slots (Q0 h0 n0) T9 (mkF m 52 #[.val (.int p1), .val (.int p2), .val (.int p3), .val (.int p4), .val (.int p5), .val (.int (Int32.ofNat K)), .val (.int (Int32.ofNat J)), .val (.double bx), .second, .val (.ref o), .val (.int (Int32.ofNat P)), .unset, .unset, .unset, .unset, .unset, .unset, .unset, .unset] [(.long (1 : Int64))])
    refine Go.st (fun _ k_ => XS.iload X9.here hx rfl (hb hby at_52) rfl k_) ?_
    show Go p e s below room_1.cells room_1.slots (Q0 h0 n0) T9 (mkF m 54 #[.val (.int p1), .val (.int p2), .val (.int p3), .val (.int p4), .val (.int p5), .val (.int (Int32.ofNat K)), .val (.int (Int32.ofNat J)), .val (.double bx), .second, .val (.ref o), .val (.int (Int32.ofNat P)), .unset, .unset, .unset, .unset, .unset, .unset, .unset, .unset] [(.int (Int32.ofNat P)), (.long (1 : Int64))])
    refine Go.st (fun _ k_ => XS.lshl X9.here hx rfl (hb hby at_54) rfl k_) ?_
    show Go p e s below room_1.cells room_1.slots (Q0 h0 n0) T9 (mkF m 55 #[.val (.int p1), .val (.int p2), .val (.int p3), .val (.int p4), .val (.int p5), .val (.int (Int32.ofNat K)), .val (.int (Int32.ofNat J)), .val (.double bx), .second, .val (.ref o), .val (.int (Int32.ofNat P)), .unset, .unset, .unset, .unset, .unset, .unset, .unset, .unset] [(.long ((1 : Int64) <<< ((Int32.ofNat P) &&& 0x3f).toInt64))])
    rw [own_shl hP]
    show Go p e s below room_1.cells room_1.slots (Q0 h0 n0) T9 (mkF m 55 #[.val (.int p1), .val (.int p2), .val (.int p3), .val (.int p4), .val (.int p5), .val (.int (Int32.ofNat K)), .val (.int (Int32.ofNat J)), .val (.double bx), .second, .val (.ref o), .val (.int (Int32.ofNat P)), .unset, .unset, .unset, .unset, .unset, .unset, .unset, .unset] [(.long (Int64.ofNat (2 ^ P)))])
    refine Go.st (fun _ k_ => XS.lstore X9.here hx rfl (hb hby at_55) rfl (l' := #[.val (.int p1), .val (.int p2), .val (.int p3), .val (.int p4), .val (.int p5), .val (.int (Int32.ofNat K)), .val (.int (Int32.ofNat J)), .val (.double bx), .second, .val (.ref o), .val (.int (Int32.ofNat P)), .val (.long (Int64.ofNat (2 ^ P))), .second, .unset, .unset, .unset, .unset, .unset, .unset]) rfl k_) ?_
    show Go p e s below room_1.cells room_1.slots (Q0 h0 n0) T9 (mkF m 57 #[.val (.int p1), .val (.int p2), .val (.int p3), .val (.int p4), .val (.int p5), .val (.int (Int32.ofNat K)), .val (.int (Int32.ofNat J)), .val (.double bx), .second, .val (.ref o), .val (.int (Int32.ofNat P)), .val (.long (Int64.ofNat (2 ^ P))), .second, .unset, .unset, .unset, .unset, .unset, .unset] [])
    refine Go.st (fun _ k_ => XS.aload X9.here hx rfl (hb hby at_57) rfl rfl k_) ?_
    show Go p e s below room_1.cells room_1.slots (Q0 h0 n0) T9 (mkF m 59 #[.val (.int p1), .val (.int p2), .val (.int p3), .val (.int p4), .val (.int p5), .val (.int (Int32.ofNat K)), .val (.int (Int32.ofNat J)), .val (.double bx), .second, .val (.ref o), .val (.int (Int32.ofNat P)), .val (.long (Int64.ofNat (2 ^ P))), .second, .unset, .unset, .unset, .unset, .unset, .unset] [(.ref o)])
    refine Go.st (fun _ k_ => XS.iloadN X9.here hx rfl (hb hby at_59) rfl k_) ?_
    show Go p e s below room_1.cells room_1.slots (Q0 h0 n0) T9 (mkF m 60 #[.val (.int p1), .val (.int p2), .val (.int p3), .val (.int p4), .val (.int p5), .val (.int (Int32.ofNat K)), .val (.int (Int32.ofNat J)), .val (.double bx), .second, .val (.ref o), .val (.int (Int32.ofNat P)), .val (.long (Int64.ofNat (2 ^ P))), .second, .unset, .unset, .unset, .unset, .unset, .unset] [(.int p3), (.ref o)])
    refine Go.st (fun _ k_ => XS.lload X9.here hx rfl (hb hby at_60) rfl k_) ?_
    show Go p e s below room_1.cells room_1.slots (Q0 h0 n0) T9 (mkF m 62 #[.val (.int p1), .val (.int p2), .val (.int p3), .val (.int p4), .val (.int p5), .val (.int (Int32.ofNat K)), .val (.int (Int32.ofNat J)), .val (.double bx), .second, .val (.ref o), .val (.int (Int32.ofNat P)), .val (.long (Int64.ofNat (2 ^ P))), .second, .unset, .unset, .unset, .unset, .unset, .unset] [(.long (Int64.ofNat (2 ^ P))), (.int p3), (.ref o)])
    refine Go.st (fun _ k_ => XS.l2dS X9.here hx rfl (hb hby at_62) rfl rfl k_) ?_
    have hpw := own_pw hP
    have hn0 := own_n0 hK hJ hpw.1 p3
    have Vy : Vl (Jvm.FP.l2d (Int64.ofNat (2 ^ P))) ((2 ^ P : Nat) : Int) 0 := by have q := Vl.l2d (a := Int64.ofNat (2 ^ P)) (by rw [ol_toInt (by omega)]; omega); rw [ol_toInt (by omega)] at q; exact q
    have hN := own_norm (x := p3) (n3 := (J : Int) * p3.toInt) (k3 := P) hK Vk Vb Vy (by omega) (by omega) (by omega) (by omega) (own_c0 _ P) hn0.2.1 hJ
    show Go p e s below room_1.cells room_1.slots (Q0 h0 n0) T9 (mkF m 63 #[.val (.int p1), .val (.int p2), .val (.int p3), .val (.int p4), .val (.int p5), .val (.int (Int32.ofNat K)), .val (.int (Int32.ofNat J)), .val (.double bx), .second, .val (.ref o), .val (.int (Int32.ofNat P)), .val (.long (Int64.ofNat (2 ^ P))), .second, .unset, .unset, .unset, .unset, .unset, .unset] [(.double (Jvm.FP.l2d (Int64.ofNat (2 ^ P)))), (.int p3), (.ref o)])
    obtain ⟨cq10, kq10, q10a, q10b, q10c⟩ := isOf hZ rfl E1
    obtain ⟨_, _, ⟨T10, L10, k10, n10⟩, -, X10, ⟨Lc10, hQ10, l10, y10, z10⟩, st10⟩ := X9.virtualBack hx (y := (⟨"com/example/vernal_stem/vernalstem/search/Bm25", "lengthNorm", "(ID)D"⟩ : MethodName)) (z := (⟨"com/example/vernal_stem/vernalstem/search/Bm25", "lengthNorm", "(ID)D"⟩ : MethodName)) hown (mvT hZ (hw _ (List.mem_of_getElem? (i := 20) rfl))) (mvT hZ (hw _ (List.mem_of_getElem? (i := 21) rfl))) (notFace_of_selects (args := #[]) (mvT hZ (hw _ (List.mem_of_getElem? (i := 23) rfl)))) (mvT hZ (hw _ (List.mem_of_getElem? (i := 23) rfl))) (mvT hZ (hw _ (List.mem_of_getElem? (i := 22) rfl))) (by decide) (backOf (W := 0) (rm4 l Z a0 hw [] o kx bx p3 (Jvm.FP.l2d (Int64.ofNat (2 ^ P))) T9.heap n0 Z1 Fk1 Fb1 hN.1.nn hN.2.1.nn hN.2.2.1.nn hN.2.2.2.1.nn hN.2.2.2.2.nn) hZ (hw _ (List.mem_of_getElem? (i := 24) rfl)) (hw _ (List.mem_of_getElem? (i := 4) rfl)) (by decide) (by decide)) q10a q10c (g := (mkF m 63 #[.val (.int p1), .val (.int p2), .val (.int p3), .val (.int p4), .val (.int p5), .val (.int (Int32.ofNat K)), .val (.int (Int32.ofNat J)), .val (.double bx), .second, .val (.ref o), .val (.int (Int32.ofNat P)), .val (.long (Int64.ofNat (2 ^ P))), .second, .unset, .unset, .unset, .unset, .unset, .unset] [(.double (Jvm.FP.l2d (Int64.ofNat (2 ^ P)))), (.int p3), (.ref o)])) rfl (by rw [hml]; rfl) (Steps.refl _) (argsL := [(.int p3), (.double (Jvm.FP.l2d (Int64.ofNat (2 ^ P))))]) (rest := []) (lenOf pd_2 rfl) rfl (by show 2 * 0 + _ ≤ _; exact Nat.le_of_eq rfl) (hb hby at_63) (fun _ _ => ⟨rfl, rfl, (by decide : (0 + 1) + 0 ≤ _), (by decide : (0 + 2) + 0 ≤ _)⟩)
    dsimp only [Pt.U, Pt.locs, Pt.cells, Pt.slots] at X10 l10 y10 z10 st10 hQ10
    subst l10 y10 z10
    obtain ⟨rfl, hN10, eg⟩ := hQ10
    have N10 := Fr.app N9 hN10
    refine Go.tr st10 ?_
    have Vg : Vl (own_ln kx bx p3 (Jvm.FP.l2d (Int64.ofNat (2 ^ P)))) ((K : Int) * own_I J (2 ^ P) ((J : Int) * p3.toInt)) (0 + (2 + P)) := hN.2.2.2.2
    show Go p e s below room_1.cells room_1.slots (Q0 h0 n0) T10 (mkF m 66 #[.val (.int p1), .val (.int p2), .val (.int p3), .val (.int p4), .val (.int p5), .val (.int (Int32.ofNat K)), .val (.int (Int32.ofNat J)), .val (.double bx), .second, .val (.ref o), .val (.int (Int32.ofNat P)), .val (.long (Int64.ofNat (2 ^ P))), .second, .unset, .unset, .unset, .unset, .unset, .unset] [(.double (own_ln kx bx p3 (Jvm.FP.l2d (Int64.ofNat (2 ^ P)))))])
    refine Go.st (fun _ k_ => XS.dstore X10.here hx rfl (hb hby at_66) rfl (l' := #[.val (.int p1), .val (.int p2), .val (.int p3), .val (.int p4), .val (.int p5), .val (.int (Int32.ofNat K)), .val (.int (Int32.ofNat J)), .val (.double bx), .second, .val (.ref o), .val (.int (Int32.ofNat P)), .val (.long (Int64.ofNat (2 ^ P))), .second, .val (.double (own_ln kx bx p3 (Jvm.FP.l2d (Int64.ofNat (2 ^ P))))), .second, .unset, .unset, .unset, .unset]) rfl k_) ?_
    show Go p e s below room_1.cells room_1.slots (Q0 h0 n0) T10 (mkF m 68 #[.val (.int p1), .val (.int p2), .val (.int p3), .val (.int p4), .val (.int p5), .val (.int (Int32.ofNat K)), .val (.int (Int32.ofNat J)), .val (.double bx), .second, .val (.ref o), .val (.int (Int32.ofNat P)), .val (.long (Int64.ofNat (2 ^ P))), .second, .val (.double (own_ln kx bx p3 (Jvm.FP.l2d (Int64.ofNat (2 ^ P))))), .second, .unset, .unset, .unset, .unset] [])
    refine Go.st (fun _ k_ => XS.iload X10.here hx rfl (hb hby at_68) rfl k_) ?_
    show Go p e s below room_1.cells room_1.slots (Q0 h0 n0) T10 (mkF m 70 #[.val (.int p1), .val (.int p2), .val (.int p3), .val (.int p4), .val (.int p5), .val (.int (Int32.ofNat K)), .val (.int (Int32.ofNat J)), .val (.double bx), .second, .val (.ref o), .val (.int (Int32.ofNat P)), .val (.long (Int64.ofNat (2 ^ P))), .second, .val (.double (own_ln kx bx p3 (Jvm.FP.l2d (Int64.ofNat (2 ^ P))))), .second, .unset, .unset, .unset, .unset] [(.int (Int32.ofNat K))])
    refine Go.st (fun _ k_ => XS.i2l X10.here hx rfl (hb hby at_70) rfl k_) ?_
    show Go p e s below room_1.cells room_1.slots (Q0 h0 n0) T10 (mkF m 71 #[.val (.int p1), .val (.int p2), .val (.int p3), .val (.int p4), .val (.int p5), .val (.int (Int32.ofNat K)), .val (.int (Int32.ofNat J)), .val (.double bx), .second, .val (.ref o), .val (.int (Int32.ofNat P)), .val (.long (Int64.ofNat (2 ^ P))), .second, .val (.double (own_ln kx bx p3 (Jvm.FP.l2d (Int64.ofNat (2 ^ P))))), .second, .unset, .unset, .unset, .unset] [(.long ((Int32.ofNat K).toInt64))])
    rw [on_i2l (by omega)]
    show Go p e s below room_1.cells room_1.slots (Q0 h0 n0) T10 (mkF m 71 #[.val (.int p1), .val (.int p2), .val (.int p3), .val (.int p4), .val (.int p5), .val (.int (Int32.ofNat K)), .val (.int (Int32.ofNat J)), .val (.double bx), .second, .val (.ref o), .val (.int (Int32.ofNat P)), .val (.long (Int64.ofNat (2 ^ P))), .second, .val (.double (own_ln kx bx p3 (Jvm.FP.l2d (Int64.ofNat (2 ^ P))))), .second, .unset, .unset, .unset, .unset] [(.long (Int64.ofNat K))])
    refine Go.st (X10.ldc2Long hx hown (mvT hZ (hw _ (List.mem_of_getElem? (i := 25) rfl))) (g := (mkF m 71 #[.val (.int p1), .val (.int p2), .val (.int p3), .val (.int p4), .val (.int p5), .val (.int (Int32.ofNat K)), .val (.int (Int32.ofNat J)), .val (.double bx), .second, .val (.ref o), .val (.int (Int32.ofNat P)), .val (.long (Int64.ofNat (2 ^ P))), .second, .val (.double (own_ln kx bx p3 (Jvm.FP.l2d (Int64.ofNat (2 ^ P))))), .second, .unset, .unset, .unset, .unset] [(.long (Int64.ofNat K))])) rfl (hb hby at_71)) ?_
    show Go p e s below room_1.cells room_1.slots (Q0 h0 n0) T10 (mkF m 74 #[.val (.int p1), .val (.int p2), .val (.int p3), .val (.int p4), .val (.int p5), .val (.int (Int32.ofNat K)), .val (.int (Int32.ofNat J)), .val (.double bx), .second, .val (.ref o), .val (.int (Int32.ofNat P)), .val (.long (Int64.ofNat (2 ^ P))), .second, .val (.double (own_ln kx bx p3 (Jvm.FP.l2d (Int64.ofNat (2 ^ P))))), .second, .unset, .unset, .unset, .unset] [(.long (4 : Int64)), (.long (Int64.ofNat K))])
    refine Go.st (fun _ k_ => XS.iload X10.here hx rfl (hb hby at_74) rfl k_) ?_
    show Go p e s below room_1.cells room_1.slots (Q0 h0 n0) T10 (mkF m 76 #[.val (.int p1), .val (.int p2), .val (.int p3), .val (.int p4), .val (.int p5), .val (.int (Int32.ofNat K)), .val (.int (Int32.ofNat J)), .val (.double bx), .second, .val (.ref o), .val (.int (Int32.ofNat P)), .val (.long (Int64.ofNat (2 ^ P))), .second, .val (.double (own_ln kx bx p3 (Jvm.FP.l2d (Int64.ofNat (2 ^ P))))), .second, .unset, .unset, .unset, .unset] [(.int (Int32.ofNat J)), (.long (4 : Int64)), (.long (Int64.ofNat K))])
    refine Go.st (fun _ k_ => XS.i2l X10.here hx rfl (hb hby at_76) rfl k_) ?_
    show Go p e s below room_1.cells room_1.slots (Q0 h0 n0) T10 (mkF m 77 #[.val (.int p1), .val (.int p2), .val (.int p3), .val (.int p4), .val (.int p5), .val (.int (Int32.ofNat K)), .val (.int (Int32.ofNat J)), .val (.double bx), .second, .val (.ref o), .val (.int (Int32.ofNat P)), .val (.long (Int64.ofNat (2 ^ P))), .second, .val (.double (own_ln kx bx p3 (Jvm.FP.l2d (Int64.ofNat (2 ^ P))))), .second, .unset, .unset, .unset, .unset] [(.long ((Int32.ofNat J).toInt64)), (.long (4 : Int64)), (.long (Int64.ofNat K))])
    rw [on_i2l (by omega)]
    show Go p e s below room_1.cells room_1.slots (Q0 h0 n0) T10 (mkF m 77 #[.val (.int p1), .val (.int p2), .val (.int p3), .val (.int p4), .val (.int p5), .val (.int (Int32.ofNat K)), .val (.int (Int32.ofNat J)), .val (.double bx), .second, .val (.ref o), .val (.int (Int32.ofNat P)), .val (.long (Int64.ofNat (2 ^ P))), .second, .val (.double (own_ln kx bx p3 (Jvm.FP.l2d (Int64.ofNat (2 ^ P))))), .second, .unset, .unset, .unset, .unset] [(.long (Int64.ofNat J)), (.long (4 : Int64)), (.long (Int64.ofNat K))])
    refine Go.st (fun _ k_ => XS.lsub X10.here hx rfl (hb hby at_77) rfl k_) ?_
    show Go p e s below room_1.cells room_1.slots (Q0 h0 n0) T10 (mkF m 78 #[.val (.int p1), .val (.int p2), .val (.int p3), .val (.int p4), .val (.int p5), .val (.int (Int32.ofNat K)), .val (.int (Int32.ofNat J)), .val (.double bx), .second, .val (.ref o), .val (.int (Int32.ofNat P)), .val (.long (Int64.ofNat (2 ^ P))), .second, .val (.double (own_ln kx bx p3 (Jvm.FP.l2d (Int64.ofNat (2 ^ P))))), .second, .unset, .unset, .unset, .unset] [(.long ((4 : Int64) - (Int64.ofNat J))), (.long (Int64.ofNat K))])
    refine Go.st (fun _ k_ => XS.lload X10.here hx rfl (hb hby at_78) rfl k_) ?_
    show Go p e s below room_1.cells room_1.slots (Q0 h0 n0) T10 (mkF m 80 #[.val (.int p1), .val (.int p2), .val (.int p3), .val (.int p4), .val (.int p5), .val (.int (Int32.ofNat K)), .val (.int (Int32.ofNat J)), .val (.double bx), .second, .val (.ref o), .val (.int (Int32.ofNat P)), .val (.long (Int64.ofNat (2 ^ P))), .second, .val (.double (own_ln kx bx p3 (Jvm.FP.l2d (Int64.ofNat (2 ^ P))))), .second, .unset, .unset, .unset, .unset] [(.long (Int64.ofNat (2 ^ P))), (.long ((4 : Int64) - (Int64.ofNat J))), (.long (Int64.ofNat K))])
    refine Go.st (fun _ k_ => XS.lmul X10.here hx rfl (hb hby at_80) rfl k_) ?_
    show Go p e s below room_1.cells room_1.slots (Q0 h0 n0) T10 (mkF m 81 #[.val (.int p1), .val (.int p2), .val (.int p3), .val (.int p4), .val (.int p5), .val (.int (Int32.ofNat K)), .val (.int (Int32.ofNat J)), .val (.double bx), .second, .val (.ref o), .val (.int (Int32.ofNat P)), .val (.long (Int64.ofNat (2 ^ P))), .second, .val (.double (own_ln kx bx p3 (Jvm.FP.l2d (Int64.ofNat (2 ^ P))))), .second, .unset, .unset, .unset, .unset] [(.long (((4 : Int64) - (Int64.ofNat J)) * (Int64.ofNat (2 ^ P)))), (.long (Int64.ofNat K))])
    refine Go.st (fun _ k_ => XS.iload X10.here hx rfl (hb hby at_81) rfl k_) ?_
    show Go p e s below room_1.cells room_1.slots (Q0 h0 n0) T10 (mkF m 83 #[.val (.int p1), .val (.int p2), .val (.int p3), .val (.int p4), .val (.int p5), .val (.int (Int32.ofNat K)), .val (.int (Int32.ofNat J)), .val (.double bx), .second, .val (.ref o), .val (.int (Int32.ofNat P)), .val (.long (Int64.ofNat (2 ^ P))), .second, .val (.double (own_ln kx bx p3 (Jvm.FP.l2d (Int64.ofNat (2 ^ P))))), .second, .unset, .unset, .unset, .unset] [(.int (Int32.ofNat J)), (.long (((4 : Int64) - (Int64.ofNat J)) * (Int64.ofNat (2 ^ P)))), (.long (Int64.ofNat K))])
    refine Go.st (fun _ k_ => XS.i2l X10.here hx rfl (hb hby at_83) rfl k_) ?_
    show Go p e s below room_1.cells room_1.slots (Q0 h0 n0) T10 (mkF m 84 #[.val (.int p1), .val (.int p2), .val (.int p3), .val (.int p4), .val (.int p5), .val (.int (Int32.ofNat K)), .val (.int (Int32.ofNat J)), .val (.double bx), .second, .val (.ref o), .val (.int (Int32.ofNat P)), .val (.long (Int64.ofNat (2 ^ P))), .second, .val (.double (own_ln kx bx p3 (Jvm.FP.l2d (Int64.ofNat (2 ^ P))))), .second, .unset, .unset, .unset, .unset] [(.long ((Int32.ofNat J).toInt64)), (.long (((4 : Int64) - (Int64.ofNat J)) * (Int64.ofNat (2 ^ P)))), (.long (Int64.ofNat K))])
    rw [on_i2l (by omega)]
    show Go p e s below room_1.cells room_1.slots (Q0 h0 n0) T10 (mkF m 84 #[.val (.int p1), .val (.int p2), .val (.int p3), .val (.int p4), .val (.int p5), .val (.int (Int32.ofNat K)), .val (.int (Int32.ofNat J)), .val (.double bx), .second, .val (.ref o), .val (.int (Int32.ofNat P)), .val (.long (Int64.ofNat (2 ^ P))), .second, .val (.double (own_ln kx bx p3 (Jvm.FP.l2d (Int64.ofNat (2 ^ P))))), .second, .unset, .unset, .unset, .unset] [(.long (Int64.ofNat J)), (.long (((4 : Int64) - (Int64.ofNat J)) * (Int64.ofNat (2 ^ P)))), (.long (Int64.ofNat K))])
    refine Go.st (fun _ k_ => XS.iloadN X10.here hx rfl (hb hby at_84) rfl k_) ?_
    show Go p e s below room_1.cells room_1.slots (Q0 h0 n0) T10 (mkF m 85 #[.val (.int p1), .val (.int p2), .val (.int p3), .val (.int p4), .val (.int p5), .val (.int (Int32.ofNat K)), .val (.int (Int32.ofNat J)), .val (.double bx), .second, .val (.ref o), .val (.int (Int32.ofNat P)), .val (.long (Int64.ofNat (2 ^ P))), .second, .val (.double (own_ln kx bx p3 (Jvm.FP.l2d (Int64.ofNat (2 ^ P))))), .second, .unset, .unset, .unset, .unset] [(.int p3), (.long (Int64.ofNat J)), (.long (((4 : Int64) - (Int64.ofNat J)) * (Int64.ofNat (2 ^ P)))), (.long (Int64.ofNat K))])
    refine Go.st (fun _ k_ => XS.i2l X10.here hx rfl (hb hby at_85) rfl k_) ?_
    show Go p e s below room_1.cells room_1.slots (Q0 h0 n0) T10 (mkF m 86 #[.val (.int p1), .val (.int p2), .val (.int p3), .val (.int p4), .val (.int p5), .val (.int (Int32.ofNat K)), .val (.int (Int32.ofNat J)), .val (.double bx), .second, .val (.ref o), .val (.int (Int32.ofNat P)), .val (.long (Int64.ofNat (2 ^ P))), .second, .val (.double (own_ln kx bx p3 (Jvm.FP.l2d (Int64.ofNat (2 ^ P))))), .second, .unset, .unset, .unset, .unset] [(.long (p3.toInt64)), (.long (Int64.ofNat J)), (.long (((4 : Int64) - (Int64.ofNat J)) * (Int64.ofNat (2 ^ P)))), (.long (Int64.ofNat K))])
    refine Go.st (fun _ k_ => XS.lmul X10.here hx rfl (hb hby at_86) rfl k_) ?_
    show Go p e s below room_1.cells room_1.slots (Q0 h0 n0) T10 (mkF m 87 #[.val (.int p1), .val (.int p2), .val (.int p3), .val (.int p4), .val (.int p5), .val (.int (Int32.ofNat K)), .val (.int (Int32.ofNat J)), .val (.double bx), .second, .val (.ref o), .val (.int (Int32.ofNat P)), .val (.long (Int64.ofNat (2 ^ P))), .second, .val (.double (own_ln kx bx p3 (Jvm.FP.l2d (Int64.ofNat (2 ^ P))))), .second, .unset, .unset, .unset, .unset] [(.long ((Int64.ofNat J) * (p3.toInt64))), (.long (((4 : Int64) - (Int64.ofNat J)) * (Int64.ofNat (2 ^ P)))), (.long (Int64.ofNat K))])
    refine Go.st (fun _ k_ => XS.ladd X10.here hx rfl (hb hby at_87) rfl k_) ?_
    show Go p e s below room_1.cells room_1.slots (Q0 h0 n0) T10 (mkF m 88 #[.val (.int p1), .val (.int p2), .val (.int p3), .val (.int p4), .val (.int p5), .val (.int (Int32.ofNat K)), .val (.int (Int32.ofNat J)), .val (.double bx), .second, .val (.ref o), .val (.int (Int32.ofNat P)), .val (.long (Int64.ofNat (2 ^ P))), .second, .val (.double (own_ln kx bx p3 (Jvm.FP.l2d (Int64.ofNat (2 ^ P))))), .second, .unset, .unset, .unset, .unset] [(.long ((((4 : Int64) - (Int64.ofNat J)) * (Int64.ofNat (2 ^ P))) + ((Int64.ofNat J) * (p3.toInt64)))), (.long (Int64.ofNat K))])
    refine Go.st (fun _ k_ => XS.lmul X10.here hx rfl (hb hby at_88) rfl k_) ?_
    show Go p e s below room_1.cells room_1.slots (Q0 h0 n0) T10 (mkF m 89 #[.val (.int p1), .val (.int p2), .val (.int p3), .val (.int p4), .val (.int p5), .val (.int (Int32.ofNat K)), .val (.int (Int32.ofNat J)), .val (.double bx), .second, .val (.ref o), .val (.int (Int32.ofNat P)), .val (.long (Int64.ofNat (2 ^ P))), .second, .val (.double (own_ln kx bx p3 (Jvm.FP.l2d (Int64.ofNat (2 ^ P))))), .second, .unset, .unset, .unset, .unset] [(.long ((Int64.ofNat K) * ((((4 : Int64) - (Int64.ofNat J)) * (Int64.ofNat (2 ^ P))) + ((Int64.ofNat J) * (p3.toInt64)))))])
    obtain ⟨num, hnum⟩ : ∃ z : Int64, z = ((Int64.ofNat K) * ((((4 : Int64) - (Int64.ofNat J)) * (Int64.ofNat (2 ^ P))) + ((Int64.ofNat J) * (p3.toInt64)))) := ⟨_, rfl⟩
    rw [← hnum] at hn0
    rw [← hnum]
    show Go p e s below room_1.cells room_1.slots (Q0 h0 n0) T10 (mkF m 89 #[.val (.int p1), .val (.int p2), .val (.int p3), .val (.int p4), .val (.int p5), .val (.int (Int32.ofNat K)), .val (.int (Int32.ofNat J)), .val (.double bx), .second, .val (.ref o), .val (.int (Int32.ofNat P)), .val (.long (Int64.ofNat (2 ^ P))), .second, .val (.double (own_ln kx bx p3 (Jvm.FP.l2d (Int64.ofNat (2 ^ P))))), .second, .unset, .unset, .unset, .unset] [(.long num)])
    refine Go.st (fun _ k_ => XS.lstore X10.here hx rfl (hb hby at_89) rfl (l' := #[.val (.int p1), .val (.int p2), .val (.int p3), .val (.int p4), .val (.int p5), .val (.int (Int32.ofNat K)), .val (.int (Int32.ofNat J)), .val (.double bx), .second, .val (.ref o), .val (.int (Int32.ofNat P)), .val (.long (Int64.ofNat (2 ^ P))), .second, .val (.double (own_ln kx bx p3 (Jvm.FP.l2d (Int64.ofNat (2 ^ P))))), .second, .val (.long num), .second, .unset, .unset]) rfl k_) ?_
    show Go p e s below room_1.cells room_1.slots (Q0 h0 n0) T10 (mkF m 91 #[.val (.int p1), .val (.int p2), .val (.int p3), .val (.int p4), .val (.int p5), .val (.int (Int32.ofNat K)), .val (.int (Int32.ofNat J)), .val (.double bx), .second, .val (.ref o), .val (.int (Int32.ofNat P)), .val (.long (Int64.ofNat (2 ^ P))), .second, .val (.double (own_ln kx bx p3 (Jvm.FP.l2d (Int64.ofNat (2 ^ P))))), .second, .val (.long num), .second, .unset, .unset] [])
    refine Go.st (fun _ k_ => XS.lload X10.here hx rfl (hb hby at_91) rfl k_) ?_
    show Go p e s below room_1.cells room_1.slots (Q0 h0 n0) T10 (mkF m 93 #[.val (.int p1), .val (.int p2), .val (.int p3), .val (.int p4), .val (.int p5), .val (.int (Int32.ofNat K)), .val (.int (Int32.ofNat J)), .val (.double bx), .second, .val (.ref o), .val (.int (Int32.ofNat P)), .val (.long (Int64.ofNat (2 ^ P))), .second, .val (.double (own_ln kx bx p3 (Jvm.FP.l2d (Int64.ofNat (2 ^ P))))), .second, .val (.long num), .second, .unset, .unset] [(.long num)])
    refine Go.st (fun _ k_ => XS.l2dS X10.here hx rfl (hb hby at_93) rfl rfl k_) ?_
    show Go p e s below room_1.cells room_1.slots (Q0 h0 n0) T10 (mkF m 94 #[.val (.int p1), .val (.int p2), .val (.int p3), .val (.int p4), .val (.int p5), .val (.int (Int32.ofNat K)), .val (.int (Int32.ofNat J)), .val (.double bx), .second, .val (.ref o), .val (.int (Int32.ofNat P)), .val (.long (Int64.ofNat (2 ^ P))), .second, .val (.double (own_ln kx bx p3 (Jvm.FP.l2d (Int64.ofNat (2 ^ P))))), .second, .val (.long num), .second, .unset, .unset] [(.double (Jvm.FP.l2d num))])
    refine Go.st (X10.ldc2Long hx hown (mvT hZ (hw _ (List.mem_of_getElem? (i := 25) rfl))) (g := (mkF m 94 #[.val (.int p1), .val (.int p2), .val (.int p3), .val (.int p4), .val (.int p5), .val (.int (Int32.ofNat K)), .val (.int (Int32.ofNat J)), .val (.double bx), .second, .val (.ref o), .val (.int (Int32.ofNat P)), .val (.long (Int64.ofNat (2 ^ P))), .second, .val (.double (own_ln kx bx p3 (Jvm.FP.l2d (Int64.ofNat (2 ^ P))))), .second, .val (.long num), .second, .unset, .unset] [(.double (Jvm.FP.l2d num))])) rfl (hb hby at_94)) ?_
    show Go p e s below room_1.cells room_1.slots (Q0 h0 n0) T10 (mkF m 97 #[.val (.int p1), .val (.int p2), .val (.int p3), .val (.int p4), .val (.int p5), .val (.int (Int32.ofNat K)), .val (.int (Int32.ofNat J)), .val (.double bx), .second, .val (.ref o), .val (.int (Int32.ofNat P)), .val (.long (Int64.ofNat (2 ^ P))), .second, .val (.double (own_ln kx bx p3 (Jvm.FP.l2d (Int64.ofNat (2 ^ P))))), .second, .val (.long num), .second, .unset, .unset] [(.long (4 : Int64)), (.double (Jvm.FP.l2d num))])
    refine Go.st (fun _ k_ => XS.lload X10.here hx rfl (hb hby at_97) rfl k_) ?_
    show Go p e s below room_1.cells room_1.slots (Q0 h0 n0) T10 (mkF m 99 #[.val (.int p1), .val (.int p2), .val (.int p3), .val (.int p4), .val (.int p5), .val (.int (Int32.ofNat K)), .val (.int (Int32.ofNat J)), .val (.double bx), .second, .val (.ref o), .val (.int (Int32.ofNat P)), .val (.long (Int64.ofNat (2 ^ P))), .second, .val (.double (own_ln kx bx p3 (Jvm.FP.l2d (Int64.ofNat (2 ^ P))))), .second, .val (.long num), .second, .unset, .unset] [(.long (Int64.ofNat (2 ^ P))), (.long (4 : Int64)), (.double (Jvm.FP.l2d num))])
    refine Go.st (fun _ k_ => XS.lmul X10.here hx rfl (hb hby at_99) rfl k_) ?_
    show Go p e s below room_1.cells room_1.slots (Q0 h0 n0) T10 (mkF m 100 #[.val (.int p1), .val (.int p2), .val (.int p3), .val (.int p4), .val (.int p5), .val (.int (Int32.ofNat K)), .val (.int (Int32.ofNat J)), .val (.double bx), .second, .val (.ref o), .val (.int (Int32.ofNat P)), .val (.long (Int64.ofNat (2 ^ P))), .second, .val (.double (own_ln kx bx p3 (Jvm.FP.l2d (Int64.ofNat (2 ^ P))))), .second, .val (.long num), .second, .unset, .unset] [(.long ((4 : Int64) * (Int64.ofNat (2 ^ P)))), (.double (Jvm.FP.l2d num))])
    rw [ol_mul4]
    show Go p e s below room_1.cells room_1.slots (Q0 h0 n0) T10 (mkF m 100 #[.val (.int p1), .val (.int p2), .val (.int p3), .val (.int p4), .val (.int p5), .val (.int (Int32.ofNat K)), .val (.int (Int32.ofNat J)), .val (.double bx), .second, .val (.ref o), .val (.int (Int32.ofNat P)), .val (.long (Int64.ofNat (2 ^ P))), .second, .val (.double (own_ln kx bx p3 (Jvm.FP.l2d (Int64.ofNat (2 ^ P))))), .second, .val (.long num), .second, .unset, .unset] [(.long (Int64.ofNat (4 * 2 ^ P))), (.double (Jvm.FP.l2d num))])
    refine Go.st (fun _ k_ => XS.l2dS X10.here hx rfl (hb hby at_100) rfl rfl k_) ?_
    have bm := own_mulB hK hn0.2.1
    have Vn : Vl (Jvm.FP.l2d num) ((K : Int) * own_I J (2 ^ P) ((J : Int) * p3.toInt)) 0 := by have q := Vl.l2d (a := num) (by rw [hn0.1]; omega); rw [hn0.1] at q; exact q
    have Vd : Vl (Jvm.FP.l2d (Int64.ofNat (4 * 2 ^ P))) ((4 * 2 ^ P : Nat) : Int) 0 := by have q := Vl.l2d (a := Int64.ofNat (4 * 2 ^ P)) (by rw [ol_toInt (by omega)]; omega); rw [ol_toInt (by omega)] at q; exact q
    have Vw := Vl.div (n := (K : Int) * own_I J (2 ^ P) ((J : Int) * p3.toInt)) (k := 0 + (2 + P)) Vn Vd (by decide) (by decide) (by omega) (by omega) (by omega) (own_c1 _ P)
    show Go p e s below room_1.cells room_1.slots (Q0 h0 n0) T10 (mkF m 101 #[.val (.int p1), .val (.int p2), .val (.int p3), .val (.int p4), .val (.int p5), .val (.int (Int32.ofNat K)), .val (.int (Int32.ofNat J)), .val (.double bx), .second, .val (.ref o), .val (.int (Int32.ofNat P)), .val (.long (Int64.ofNat (2 ^ P))), .second, .val (.double (own_ln kx bx p3 (Jvm.FP.l2d (Int64.ofNat (2 ^ P))))), .second, .val (.long num), .second, .unset, .unset] [(.double (Jvm.FP.l2d (Int64.ofNat (4 * 2 ^ P)))), (.double (Jvm.FP.l2d num))])
    refine Go.st (fun _ k_ => XS.ddivS X10.here hx rfl (hb hby at_101) rfl Vw.nn rfl k_) ?_
    show Go p e s below room_1.cells room_1.slots (Q0 h0 n0) T10 (mkF m 102 #[.val (.int p1), .val (.int p2), .val (.int p3), .val (.int p4), .val (.int p5), .val (.int (Int32.ofNat K)), .val (.int (Int32.ofNat J)), .val (.double bx), .second, .val (.ref o), .val (.int (Int32.ofNat P)), .val (.long (Int64.ofNat (2 ^ P))), .second, .val (.double (own_ln kx bx p3 (Jvm.FP.l2d (Int64.ofNat (2 ^ P))))), .second, .val (.long num), .second, .unset, .unset] [(.double (Jvm.FP.ddiv (Jvm.FP.l2d num) (Jvm.FP.l2d (Int64.ofNat (4 * 2 ^ P)))))])
    refine Go.st (fun _ k_ => XS.dstore X10.here hx rfl (hb hby at_102) rfl (l' := #[.val (.int p1), .val (.int p2), .val (.int p3), .val (.int p4), .val (.int p5), .val (.int (Int32.ofNat K)), .val (.int (Int32.ofNat J)), .val (.double bx), .second, .val (.ref o), .val (.int (Int32.ofNat P)), .val (.long (Int64.ofNat (2 ^ P))), .second, .val (.double (own_ln kx bx p3 (Jvm.FP.l2d (Int64.ofNat (2 ^ P))))), .second, .val (.long num), .second, .val (.double (Jvm.FP.ddiv (Jvm.FP.l2d num) (Jvm.FP.l2d (Int64.ofNat (4 * 2 ^ P))))), .second]) rfl k_) ?_
    show Go p e s below room_1.cells room_1.slots (Q0 h0 n0) T10 (mkF m 104 #[.val (.int p1), .val (.int p2), .val (.int p3), .val (.int p4), .val (.int p5), .val (.int (Int32.ofNat K)), .val (.int (Int32.ofNat J)), .val (.double bx), .second, .val (.ref o), .val (.int (Int32.ofNat P)), .val (.long (Int64.ofNat (2 ^ P))), .second, .val (.double (own_ln kx bx p3 (Jvm.FP.l2d (Int64.ofNat (2 ^ P))))), .second, .val (.long num), .second, .val (.double (Jvm.FP.ddiv (Jvm.FP.l2d num) (Jvm.FP.l2d (Int64.ofNat (4 * 2 ^ P))))), .second] [])
    refine Go.st (fun _ k_ => XS.dload X10.here hx rfl (hb hby at_104) rfl k_) ?_
    show Go p e s below room_1.cells room_1.slots (Q0 h0 n0) T10 (mkF m 106 #[.val (.int p1), .val (.int p2), .val (.int p3), .val (.int p4), .val (.int p5), .val (.int (Int32.ofNat K)), .val (.int (Int32.ofNat J)), .val (.double bx), .second, .val (.ref o), .val (.int (Int32.ofNat P)), .val (.long (Int64.ofNat (2 ^ P))), .second, .val (.double (own_ln kx bx p3 (Jvm.FP.l2d (Int64.ofNat (2 ^ P))))), .second, .val (.long num), .second, .val (.double (Jvm.FP.ddiv (Jvm.FP.l2d num) (Jvm.FP.l2d (Int64.ofNat (4 * 2 ^ P))))), .second] [(.double (own_ln kx bx p3 (Jvm.FP.l2d (Int64.ofNat (2 ^ P)))))])
    refine Go.st (fun _ k_ => XS.dload X10.here hx rfl (hb hby at_106) rfl k_) ?_
    show Go p e s below room_1.cells room_1.slots (Q0 h0 n0) T10 (mkF m 108 #[.val (.int p1), .val (.int p2), .val (.int p3), .val (.int p4), .val (.int p5), .val (.int (Int32.ofNat K)), .val (.int (Int32.ofNat J)), .val (.double bx), .second, .val (.ref o), .val (.int (Int32.ofNat P)), .val (.long (Int64.ofNat (2 ^ P))), .second, .val (.double (own_ln kx bx p3 (Jvm.FP.l2d (Int64.ofNat (2 ^ P))))), .second, .val (.long num), .second, .val (.double (Jvm.FP.ddiv (Jvm.FP.l2d num) (Jvm.FP.l2d (Int64.ofNat (4 * 2 ^ P))))), .second] [(.double (Jvm.FP.ddiv (Jvm.FP.l2d num) (Jvm.FP.l2d (Int64.ofNat (4 * 2 ^ P))))), (.double (own_ln kx bx p3 (Jvm.FP.l2d (Int64.ofNat (2 ^ P)))))])
    refine Go.st (fun _ k_ => XS.dcmpS X10.here hx rfl (hb hby at_108) rfl (Vl.cmp Vg Vw) k_) ?_
    show Go p e s below room_1.cells room_1.slots (Q0 h0 n0) T10 (mkF m 109 #[.val (.int p1), .val (.int p2), .val (.int p3), .val (.int p4), .val (.int p5), .val (.int (Int32.ofNat K)), .val (.int (Int32.ofNat J)), .val (.double bx), .second, .val (.ref o), .val (.int (Int32.ofNat P)), .val (.long (Int64.ofNat (2 ^ P))), .second, .val (.double (own_ln kx bx p3 (Jvm.FP.l2d (Int64.ofNat (2 ^ P))))), .second, .val (.long num), .second, .val (.double (Jvm.FP.ddiv (Jvm.FP.l2d num) (Jvm.FP.l2d (Int64.ofNat (4 * 2 ^ P))))), .second] [(.int (0 : Int32))])
    refine Go.st (fun _ k_ => XS.ifNo X10.here hx rfl (hb hby at_109) rfl ((if0 _ _).trans (teq rfl).2) k_) ?_
    show Go p e s below room_1.cells room_1.slots (Q0 h0 n0) T10 (mkF m 112 #[.val (.int p1), .val (.int p2), .val (.int p3), .val (.int p4), .val (.int p5), .val (.int (Int32.ofNat K)), .val (.int (Int32.ofNat J)), .val (.double bx), .second, .val (.ref o), .val (.int (Int32.ofNat P)), .val (.long (Int64.ofNat (2 ^ P))), .second, .val (.double (own_ln kx bx p3 (Jvm.FP.l2d (Int64.ofNat (2 ^ P))))), .second, .val (.long num), .second, .val (.double (Jvm.FP.ddiv (Jvm.FP.l2d num) (Jvm.FP.l2d (Int64.ofNat (4 * 2 ^ P))))), .second] [])
    refine Go.st (fun _ k_ => XS.iconst X10.here hx rfl (hb hby at_112) k_) ?_
    show Go p e s below room_1.cells room_1.slots (Q0 h0 n0) T10 (mkF m 113 #[.val (.int p1), .val (.int p2), .val (.int p3), .val (.int p4), .val (.int p5), .val (.int (Int32.ofNat K)), .val (.int (Int32.ofNat J)), .val (.double bx), .second, .val (.ref o), .val (.int (Int32.ofNat P)), .val (.long (Int64.ofNat (2 ^ P))), .second, .val (.double (own_ln kx bx p3 (Jvm.FP.l2d (Int64.ofNat (2 ^ P))))), .second, .val (.long num), .second, .val (.double (Jvm.FP.ddiv (Jvm.FP.l2d num) (Jvm.FP.l2d (Int64.ofNat (4 * 2 ^ P))))), .second] [(.int (1 : Int32))])
    refine Go.st (fun _ k_ => XS.goto X10.here hx rfl (pc0 := 113) (pc' := 117) rfl (hb hby at_113) (by decide) (by decide) k_) ?_
    show Go p e s below room_1.cells room_1.slots (Q0 h0 n0) T10 (mkF m 117 #[.val (.int p1), .val (.int p2), .val (.int p3), .val (.int p4), .val (.int p5), .val (.int (Int32.ofNat K)), .val (.int (Int32.ofNat J)), .val (.double bx), .second, .val (.ref o), .val (.int (Int32.ofNat P)), .val (.long (Int64.ofNat (2 ^ P))), .second, .val (.double (own_ln kx bx p3 (Jvm.FP.l2d (Int64.ofNat (2 ^ P))))), .second, .val (.long num), .second, .val (.double (Jvm.FP.ddiv (Jvm.FP.l2d num) (Jvm.FP.l2d (Int64.ofNat (4 * 2 ^ P))))), .second] [(.int (1 : Int32))])
    exact Go.retN X10 hx hlk (t := .boolean) Bd.returns (by simp) (hb hby at_117) (by decide) (by decide) ⟨rfl, N10⟩
  · skip
    show Go p e s below room_1.cells room_1.slots (Q0 h0 n0) T9 (mkF m 42 #[.val (.int p1), .val (.int p2), .val (.int p3), .val (.int p4), .val (.int p5), .val (.int (Int32.ofNat K)), .val (.int (Int32.ofNat J)), .val (.double bx), .second, .val (.ref o), .unset, .unset, .unset, .unset, .unset, .unset, .unset, .unset, .unset] [(.int (p5 &&& (1 : Int32)))])
    refine Go.st (fun _ k_ => XS.ifYes X9.here hx rfl (pc0 := 42) (pc' := 118) rfl (hb hby at_42) rfl ((if0 _ _).trans (feq hm).2) (by decide) (by decide) k_) ?_
    show Go p e s below room_1.cells room_1.slots (Q0 h0 n0) T9 (mkF m 118 #[.val (.int p1), .val (.int p2), .val (.int p3), .val (.int p4), .val (.int p5), .val (.int (Int32.ofNat K)), .val (.int (Int32.ofNat J)), .val (.double bx), .second, .val (.ref o), .unset, .unset, .unset, .unset, .unset, .unset, .unset, .unset, .unset] [])
    refine Go.st (fun _ k_ => XS.iloadN X9.here hx rfl (hb hby at_118) rfl k_) ?_
    show Go p e s below room_1.cells room_1.slots (Q0 h0 n0) T9 (mkF m 119 #[.val (.int p1), .val (.int p2), .val (.int p3), .val (.int p4), .val (.int p5), .val (.int (Int32.ofNat K)), .val (.int (Int32.ofNat J)), .val (.double bx), .second, .val (.ref o), .unset, .unset, .unset, .unset, .unset, .unset, .unset, .unset, .unset] [(.int p4)])
    refine Go.st (X9.ldcInt hx hown (mvT hZ (hw _ (List.mem_of_getElem? (i := 26) rfl))) (g := (mkF m 119 #[.val (.int p1), .val (.int p2), .val (.int p3), .val (.int p4), .val (.int p5), .val (.int (Int32.ofNat K)), .val (.int (Int32.ofNat J)), .val (.double bx), .second, .val (.ref o), .unset, .unset, .unset, .unset, .unset, .unset, .unset, .unset, .unset] [(.int p4)])) rfl (hb hby at_119)) ?_
    show Go p e s below room_1.cells room_1.slots (Q0 h0 n0) T9 (mkF m 121 #[.val (.int p1), .val (.int p2), .val (.int p3), .val (.int p4), .val (.int p5), .val (.int (Int32.ofNat K)), .val (.int (Int32.ofNat J)), .val (.double bx), .second, .val (.ref o), .unset, .unset, .unset, .unset, .unset, .unset, .unset, .unset, .unset] [(.int (1048575 : Int32)), (.int p4)])
    refine Go.st (fun _ k_ => XS.iand X9.here hx rfl (hb hby at_121) rfl k_) ?_
    show Go p e s below room_1.cells room_1.slots (Q0 h0 n0) T9 (mkF m 122 #[.val (.int p1), .val (.int p2), .val (.int p3), .val (.int p4), .val (.int p5), .val (.int (Int32.ofNat K)), .val (.int (Int32.ofNat J)), .val (.double bx), .second, .val (.ref o), .unset, .unset, .unset, .unset, .unset, .unset, .unset, .unset, .unset] [(.int (p4 &&& (1048575 : Int32)))])
    refine Go.st (fun _ k_ => XS.iconst X9.here hx rfl (hb hby at_122) k_) ?_
    show Go p e s below room_1.cells room_1.slots (Q0 h0 n0) T9 (mkF m 123 #[.val (.int p1), .val (.int p2), .val (.int p3), .val (.int p4), .val (.int p5), .val (.int (Int32.ofNat K)), .val (.int (Int32.ofNat J)), .val (.double bx), .second, .val (.ref o), .unset, .unset, .unset, .unset, .unset, .unset, .unset, .unset, .unset] [(.int (1 : Int32)), (.int (p4 &&& (1048575 : Int32)))])
    refine Go.st (fun _ k_ => XS.iadd X9.here hx rfl (hb hby at_123) rfl k_) ?_
    obtain ⟨aa, ha0, haM, eA⟩ := own_a p4
    show Go p e s below room_1.cells room_1.slots (Q0 h0 n0) T9 (mkF m 124 #[.val (.int p1), .val (.int p2), .val (.int p3), .val (.int p4), .val (.int p5), .val (.int (Int32.ofNat K)), .val (.int (Int32.ofNat J)), .val (.double bx), .second, .val (.ref o), .unset, .unset, .unset, .unset, .unset, .unset, .unset, .unset, .unset] [(.int ((p4 &&& (1048575 : Int32)) + (1 : Int32)))])
    rw [eA]
    show Go p e s below room_1.cells room_1.slots (Q0 h0 n0) T9 (mkF m 124 #[.val (.int p1), .val (.int p2), .val (.int p3), .val (.int p4), .val (.int p5), .val (.int (Int32.ofNat K)), .val (.int (Int32.ofNat J)), .val (.double bx), .second, .val (.ref o), .unset, .unset, .unset, .unset, .unset, .unset, .unset, .unset, .unset] [(.int (Int32.ofNat aa))])
    refine Go.st (fun _ k_ => XS.istore X9.here hx rfl (hb hby at_124) rfl (l' := #[.val (.int p1), .val (.int p2), .val (.int p3), .val (.int p4), .val (.int p5), .val (.int (Int32.ofNat K)), .val (.int (Int32.ofNat J)), .val (.double bx), .second, .val (.ref o), .val (.int (Int32.ofNat aa)), .unset, .unset, .unset, .unset, .unset, .unset, .unset, .unset]) rfl k_) ?_
    show Go p e s below room_1.cells room_1.slots (Q0 h0 n0) T9 (mkF m 126 #[.val (.int p1), .val (.int p2), .val (.int p3), .val (.int p4), .val (.int p5), .val (.int (Int32.ofNat K)), .val (.int (Int32.ofNat J)), .val (.double bx), .second, .val (.ref o), .val (.int (Int32.ofNat aa)), .unset, .unset, .unset, .unset, .unset, .unset, .unset, .unset] [])
    refine Go.st (fun _ k_ => XS.iloadN X9.here hx rfl (hb hby at_126) rfl k_) ?_
    show Go p e s below room_1.cells room_1.slots (Q0 h0 n0) T9 (mkF m 127 #[.val (.int p1), .val (.int p2), .val (.int p3), .val (.int p4), .val (.int p5), .val (.int (Int32.ofNat K)), .val (.int (Int32.ofNat J)), .val (.double bx), .second, .val (.ref o), .val (.int (Int32.ofNat aa)), .unset, .unset, .unset, .unset, .unset, .unset, .unset, .unset] [(.int p3)])
    refine Go.st (fun _ k_ => XS.bipush X9.here hx rfl (hb hby at_127) k_) ?_
    show Go p e s below room_1.cells room_1.slots (Q0 h0 n0) T9 (mkF m 129 #[.val (.int p1), .val (.int p2), .val (.int p3), .val (.int p4), .val (.int p5), .val (.int (Int32.ofNat K)), .val (.int (Int32.ofNat J)), .val (.double bx), .second, .val (.ref o), .val (.int (Int32.ofNat aa)), .unset, .unset, .unset, .unset, .unset, .unset, .unset, .unset] [(.int (15 : Int32)), (.int p3)])
    refine Go.st (fun _ k_ => XS.iand X9.here hx rfl (hb hby at_129) rfl k_) ?_
    obtain ⟨M, hM, eM⟩ := own_15 p3
    show Go p e s below room_1.cells room_1.slots (Q0 h0 n0) T9 (mkF m 130 #[.val (.int p1), .val (.int p2), .val (.int p3), .val (.int p4), .val (.int p5), .val (.int (Int32.ofNat K)), .val (.int (Int32.ofNat J)), .val (.double bx), .second, .val (.ref o), .val (.int (Int32.ofNat aa)), .unset, .unset, .unset, .unset, .unset, .unset, .unset, .unset] [(.int (p3 &&& (15 : Int32)))])
    rw [eM]
    show Go p e s below room_1.cells room_1.slots (Q0 h0 n0) T9 (mkF m 130 #[.val (.int p1), .val (.int p2), .val (.int p3), .val (.int p4), .val (.int p5), .val (.int (Int32.ofNat K)), .val (.int (Int32.ofNat J)), .val (.double bx), .second, .val (.ref o), .val (.int (Int32.ofNat aa)), .unset, .unset, .unset, .unset, .unset, .unset, .unset, .unset] [(.int (Int32.ofNat M))])
    refine Go.st (fun _ k_ => XS.istore X9.here hx rfl (hb hby at_130) rfl (l' := #[.val (.int p1), .val (.int p2), .val (.int p3), .val (.int p4), .val (.int p5), .val (.int (Int32.ofNat K)), .val (.int (Int32.ofNat J)), .val (.double bx), .second, .val (.ref o), .val (.int (Int32.ofNat aa)), .val (.int (Int32.ofNat M)), .unset, .unset, .unset, .unset, .unset, .unset, .unset]) rfl k_) ?_
    show Go p e s below room_1.cells room_1.slots (Q0 h0 n0) T9 (mkF m 132 #[.val (.int p1), .val (.int p2), .val (.int p3), .val (.int p4), .val (.int p5), .val (.int (Int32.ofNat K)), .val (.int (Int32.ofNat J)), .val (.double bx), .second, .val (.ref o), .val (.int (Int32.ofNat aa)), .val (.int (Int32.ofNat M)), .unset, .unset, .unset, .unset, .unset, .unset, .unset] [])
    refine Go.st (fun _ k_ => XS.iload X9.here hx rfl (hb hby at_132) rfl k_) ?_
    show Go p e s below room_1.cells room_1.slots (Q0 h0 n0) T9 (mkF m 134 #[.val (.int p1), .val (.int p2), .val (.int p3), .val (.int p4), .val (.int p5), .val (.int (Int32.ofNat K)), .val (.int (Int32.ofNat J)), .val (.double bx), .second, .val (.ref o), .val (.int (Int32.ofNat aa)), .val (.int (Int32.ofNat M)), .unset, .unset, .unset, .unset, .unset, .unset, .unset] [(.int (Int32.ofNat M))])
    refine Go.st (fun _ k_ => XS.iload X9.here hx rfl (hb hby at_134) rfl k_) ?_
    show Go p e s below room_1.cells room_1.slots (Q0 h0 n0) T9 (mkF m 136 #[.val (.int p1), .val (.int p2), .val (.int p3), .val (.int p4), .val (.int p5), .val (.int (Int32.ofNat K)), .val (.int (Int32.ofNat J)), .val (.double bx), .second, .val (.ref o), .val (.int (Int32.ofNat aa)), .val (.int (Int32.ofNat M)), .unset, .unset, .unset, .unset, .unset, .unset, .unset] [(.int (Int32.ofNat aa)), (.int (Int32.ofNat M))])
    refine Go.st (fun _ k_ => XS.imul X9.here hx rfl (hb hby at_136) rfl k_) ?_
    have hMa : M * aa ≤ 15 * 1048576 := Nat.mul_le_mul (by omega) haM
    show Go p e s below room_1.cells room_1.slots (Q0 h0 n0) T9 (mkF m 137 #[.val (.int p1), .val (.int p2), .val (.int p3), .val (.int p4), .val (.int p5), .val (.int (Int32.ofNat K)), .val (.int (Int32.ofNat J)), .val (.double bx), .second, .val (.ref o), .val (.int (Int32.ofNat aa)), .val (.int (Int32.ofNat M)), .unset, .unset, .unset, .unset, .unset, .unset, .unset] [(.int ((Int32.ofNat M) * (Int32.ofNat aa)))])
    rw [on_mul]
    show Go p e s below room_1.cells room_1.slots (Q0 h0 n0) T9 (mkF m 137 #[.val (.int p1), .val (.int p2), .val (.int p3), .val (.int p4), .val (.int p5), .val (.int (Int32.ofNat K)), .val (.int (Int32.ofNat J)), .val (.double bx), .second, .val (.ref o), .val (.int (Int32.ofNat aa)), .val (.int (Int32.ofNat M)), .unset, .unset, .unset, .unset, .unset, .unset, .unset] [(.int (Int32.ofNat (M * aa)))])
    refine Go.st (fun _ k_ => XS.istore X9.here hx rfl (hb hby at_137) rfl (l' := #[.val (.int p1), .val (.int p2), .val (.int p3), .val (.int p4), .val (.int p5), .val (.int (Int32.ofNat K)), .val (.int (Int32.ofNat J)), .val (.double bx), .second, .val (.ref o), .val (.int (Int32.ofNat aa)), .val (.int (Int32.ofNat M)), .val (.int (Int32.ofNat (M * aa))), .unset, .unset, .unset, .unset, .unset, .unset]) rfl k_) ?_
    show Go p e s below room_1.cells room_1.slots (Q0 h0 n0) T9 (mkF m 139 #[.val (.int p1), .val (.int p2), .val (.int p3), .val (.int p4), .val (.int p5), .val (.int (Int32.ofNat K)), .val (.int (Int32.ofNat J)), .val (.double bx), .second, .val (.ref o), .val (.int (Int32.ofNat aa)), .val (.int (Int32.ofNat M)), .val (.int (Int32.ofNat (M * aa))), .unset, .unset, .unset, .unset, .unset, .unset] [])
    refine Go.st (fun _ k_ => XS.aload X9.here hx rfl (hb hby at_139) rfl rfl k_) ?_
    show Go p e s below room_1.cells room_1.slots (Q0 h0 n0) T9 (mkF m 141 #[.val (.int p1), .val (.int p2), .val (.int p3), .val (.int p4), .val (.int p5), .val (.int (Int32.ofNat K)), .val (.int (Int32.ofNat J)), .val (.double bx), .second, .val (.ref o), .val (.int (Int32.ofNat aa)), .val (.int (Int32.ofNat M)), .val (.int (Int32.ofNat (M * aa))), .unset, .unset, .unset, .unset, .unset, .unset] [(.ref o)])
    refine Go.st (fun _ k_ => XS.iload X9.here hx rfl (hb hby at_141) rfl k_) ?_
    show Go p e s below room_1.cells room_1.slots (Q0 h0 n0) T9 (mkF m 143 #[.val (.int p1), .val (.int p2), .val (.int p3), .val (.int p4), .val (.int p5), .val (.int (Int32.ofNat K)), .val (.int (Int32.ofNat J)), .val (.double bx), .second, .val (.ref o), .val (.int (Int32.ofNat aa)), .val (.int (Int32.ofNat M)), .val (.int (Int32.ofNat (M * aa))), .unset, .unset, .unset, .unset, .unset, .unset] [(.int (Int32.ofNat (M * aa))), (.ref o)])
    refine Go.st (fun _ k_ => XS.iload X9.here hx rfl (hb hby at_143) rfl k_) ?_
    show Go p e s below room_1.cells room_1.slots (Q0 h0 n0) T9 (mkF m 145 #[.val (.int p1), .val (.int p2), .val (.int p3), .val (.int p4), .val (.int p5), .val (.int (Int32.ofNat K)), .val (.int (Int32.ofNat J)), .val (.double bx), .second, .val (.ref o), .val (.int (Int32.ofNat aa)), .val (.int (Int32.ofNat M)), .val (.int (Int32.ofNat (M * aa))), .unset, .unset, .unset, .unset, .unset, .unset] [(.int (Int32.ofNat aa)), (.int (Int32.ofNat (M * aa))), (.ref o)])
    refine Go.st (fun _ k_ => XS.i2dS X9.here hx rfl (hb hby at_145) rfl rfl k_) ?_
    have hn1 := own_n1 hK hJ hM
    have Vy : Vl (Jvm.FP.i2d (Int32.ofNat aa)) (aa : Int) 0 := by have q := Vl.i2d (Int32.ofNat aa); rw [on_toInt (by omega)] at q; exact q
    have eL : (Int32.ofNat (M * aa)).toInt = ((M * aa : Nat) : Int) := on_toInt (by omega)
    have hJL := own_jl (J := J) (L := M * aa) hJ (by omega)
    have hN := own_norm (x := Int32.ofNat (M * aa)) (n3 := (J : Int) * (M : Int)) (k3 := 0) hK Vk Vb Vy (by omega) (by omega) (by rw [eL]; omega) (by omega) (by rw [eL]; exact own_c2 J M aa) hn1.2.1 hJ
    show Go p e s below room_1.cells room_1.slots (Q0 h0 n0) T9 (mkF m 146 #[.val (.int p1), .val (.int p2), .val (.int p3), .val (.int p4), .val (.int p5), .val (.int (Int32.ofNat K)), .val (.int (Int32.ofNat J)), .val (.double bx), .second, .val (.ref o), .val (.int (Int32.ofNat aa)), .val (.int (Int32.ofNat M)), .val (.int (Int32.ofNat (M * aa))), .unset, .unset, .unset, .unset, .unset, .unset] [(.double (Jvm.FP.i2d (Int32.ofNat aa))), (.int (Int32.ofNat (M * aa))), (.ref o)])
    obtain ⟨cq11, kq11, q11a, q11b, q11c⟩ := isOf hZ rfl E1
    obtain ⟨_, _, ⟨T11, L11, k11, n11⟩, -, X11, ⟨Lc11, hQ11, l11, y11, z11⟩, st11⟩ := X9.virtualBack hx (y := (⟨"com/example/vernal_stem/vernalstem/search/Bm25", "lengthNorm", "(ID)D"⟩ : MethodName)) (z := (⟨"com/example/vernal_stem/vernalstem/search/Bm25", "lengthNorm", "(ID)D"⟩ : MethodName)) hown (mvT hZ (hw _ (List.mem_of_getElem? (i := 20) rfl))) (mvT hZ (hw _ (List.mem_of_getElem? (i := 21) rfl))) (notFace_of_selects (args := #[]) (mvT hZ (hw _ (List.mem_of_getElem? (i := 23) rfl)))) (mvT hZ (hw _ (List.mem_of_getElem? (i := 23) rfl))) (mvT hZ (hw _ (List.mem_of_getElem? (i := 22) rfl))) (by decide) (backOf (W := 0) (rm4 l Z a0 hw [] o kx bx (Int32.ofNat (M * aa)) (Jvm.FP.i2d (Int32.ofNat aa)) T9.heap n0 Z1 Fk1 Fb1 hN.1.nn hN.2.1.nn hN.2.2.1.nn hN.2.2.2.1.nn hN.2.2.2.2.nn) hZ (hw _ (List.mem_of_getElem? (i := 24) rfl)) (hw _ (List.mem_of_getElem? (i := 4) rfl)) (by decide) (by decide)) q11a q11c (g := (mkF m 146 #[.val (.int p1), .val (.int p2), .val (.int p3), .val (.int p4), .val (.int p5), .val (.int (Int32.ofNat K)), .val (.int (Int32.ofNat J)), .val (.double bx), .second, .val (.ref o), .val (.int (Int32.ofNat aa)), .val (.int (Int32.ofNat M)), .val (.int (Int32.ofNat (M * aa))), .unset, .unset, .unset, .unset, .unset, .unset] [(.double (Jvm.FP.i2d (Int32.ofNat aa))), (.int (Int32.ofNat (M * aa))), (.ref o)])) rfl (by rw [hml]; rfl) (Steps.refl _) (argsL := [(.int (Int32.ofNat (M * aa))), (.double (Jvm.FP.i2d (Int32.ofNat aa)))]) (rest := []) (lenOf pd_2 rfl) rfl (by show 2 * 0 + _ ≤ _; exact Nat.le_of_eq rfl) (hb hby at_146) (fun _ _ => ⟨rfl, rfl, (by decide : (0 + 1) + 0 ≤ _), (by decide : (0 + 2) + 0 ≤ _)⟩)
    dsimp only [Pt.U, Pt.locs, Pt.cells, Pt.slots] at X11 l11 y11 z11 st11 hQ11
    subst l11 y11 z11
    obtain ⟨rfl, hN11, eg⟩ := hQ11
    have N11 := Fr.app N9 hN11
    refine Go.tr st11 ?_
    have Vg : Vl (own_ln kx bx (Int32.ofNat (M * aa)) (Jvm.FP.i2d (Int32.ofNat aa))) ((K : Int) * own_I J 1 ((J : Int) * (M : Int))) 2 := hN.2.2.2.2
    show Go p e s below room_1.cells room_1.slots (Q0 h0 n0) T11 (mkF m 149 #[.val (.int p1), .val (.int p2), .val (.int p3), .val (.int p4), .val (.int p5), .val (.int (Int32.ofNat K)), .val (.int (Int32.ofNat J)), .val (.double bx), .second, .val (.ref o), .val (.int (Int32.ofNat aa)), .val (.int (Int32.ofNat M)), .val (.int (Int32.ofNat (M * aa))), .unset, .unset, .unset, .unset, .unset, .unset] [(.double (own_ln kx bx (Int32.ofNat (M * aa)) (Jvm.FP.i2d (Int32.ofNat aa))))])
    refine Go.st (fun _ k_ => XS.dstore X11.here hx rfl (hb hby at_149) rfl (l' := #[.val (.int p1), .val (.int p2), .val (.int p3), .val (.int p4), .val (.int p5), .val (.int (Int32.ofNat K)), .val (.int (Int32.ofNat J)), .val (.double bx), .second, .val (.ref o), .val (.int (Int32.ofNat aa)), .val (.int (Int32.ofNat M)), .val (.int (Int32.ofNat (M * aa))), .val (.double (own_ln kx bx (Int32.ofNat (M * aa)) (Jvm.FP.i2d (Int32.ofNat aa)))), .second, .unset, .unset, .unset, .unset]) rfl k_) ?_
    show Go p e s below room_1.cells room_1.slots (Q0 h0 n0) T11 (mkF m 151 #[.val (.int p1), .val (.int p2), .val (.int p3), .val (.int p4), .val (.int p5), .val (.int (Int32.ofNat K)), .val (.int (Int32.ofNat J)), .val (.double bx), .second, .val (.ref o), .val (.int (Int32.ofNat aa)), .val (.int (Int32.ofNat M)), .val (.int (Int32.ofNat (M * aa))), .val (.double (own_ln kx bx (Int32.ofNat (M * aa)) (Jvm.FP.i2d (Int32.ofNat aa)))), .second, .unset, .unset, .unset, .unset] [])
    refine Go.st (fun _ k_ => XS.iload X11.here hx rfl (hb hby at_151) rfl k_) ?_
    show Go p e s below room_1.cells room_1.slots (Q0 h0 n0) T11 (mkF m 153 #[.val (.int p1), .val (.int p2), .val (.int p3), .val (.int p4), .val (.int p5), .val (.int (Int32.ofNat K)), .val (.int (Int32.ofNat J)), .val (.double bx), .second, .val (.ref o), .val (.int (Int32.ofNat aa)), .val (.int (Int32.ofNat M)), .val (.int (Int32.ofNat (M * aa))), .val (.double (own_ln kx bx (Int32.ofNat (M * aa)) (Jvm.FP.i2d (Int32.ofNat aa)))), .second, .unset, .unset, .unset, .unset] [(.int (Int32.ofNat K))])
    refine Go.st (fun _ k_ => XS.i2l X11.here hx rfl (hb hby at_153) rfl k_) ?_
    show Go p e s below room_1.cells room_1.slots (Q0 h0 n0) T11 (mkF m 154 #[.val (.int p1), .val (.int p2), .val (.int p3), .val (.int p4), .val (.int p5), .val (.int (Int32.ofNat K)), .val (.int (Int32.ofNat J)), .val (.double bx), .second, .val (.ref o), .val (.int (Int32.ofNat aa)), .val (.int (Int32.ofNat M)), .val (.int (Int32.ofNat (M * aa))), .val (.double (own_ln kx bx (Int32.ofNat (M * aa)) (Jvm.FP.i2d (Int32.ofNat aa)))), .second, .unset, .unset, .unset, .unset] [(.long ((Int32.ofNat K).toInt64))])
    rw [on_i2l (by omega)]
    show Go p e s below room_1.cells room_1.slots (Q0 h0 n0) T11 (mkF m 154 #[.val (.int p1), .val (.int p2), .val (.int p3), .val (.int p4), .val (.int p5), .val (.int (Int32.ofNat K)), .val (.int (Int32.ofNat J)), .val (.double bx), .second, .val (.ref o), .val (.int (Int32.ofNat aa)), .val (.int (Int32.ofNat M)), .val (.int (Int32.ofNat (M * aa))), .val (.double (own_ln kx bx (Int32.ofNat (M * aa)) (Jvm.FP.i2d (Int32.ofNat aa)))), .second, .unset, .unset, .unset, .unset] [(.long (Int64.ofNat K))])
    refine Go.st (X11.ldc2Long hx hown (mvT hZ (hw _ (List.mem_of_getElem? (i := 25) rfl))) (g := (mkF m 154 #[.val (.int p1), .val (.int p2), .val (.int p3), .val (.int p4), .val (.int p5), .val (.int (Int32.ofNat K)), .val (.int (Int32.ofNat J)), .val (.double bx), .second, .val (.ref o), .val (.int (Int32.ofNat aa)), .val (.int (Int32.ofNat M)), .val (.int (Int32.ofNat (M * aa))), .val (.double (own_ln kx bx (Int32.ofNat (M * aa)) (Jvm.FP.i2d (Int32.ofNat aa)))), .second, .unset, .unset, .unset, .unset] [(.long (Int64.ofNat K))])) rfl (hb hby at_154)) ?_
    show Go p e s below room_1.cells room_1.slots (Q0 h0 n0) T11 (mkF m 157 #[.val (.int p1), .val (.int p2), .val (.int p3), .val (.int p4), .val (.int p5), .val (.int (Int32.ofNat K)), .val (.int (Int32.ofNat J)), .val (.double bx), .second, .val (.ref o), .val (.int (Int32.ofNat aa)), .val (.int (Int32.ofNat M)), .val (.int (Int32.ofNat (M * aa))), .val (.double (own_ln kx bx (Int32.ofNat (M * aa)) (Jvm.FP.i2d (Int32.ofNat aa)))), .second, .unset, .unset, .unset, .unset] [(.long (4 : Int64)), (.long (Int64.ofNat K))])
    refine Go.st (fun _ k_ => XS.iload X11.here hx rfl (hb hby at_157) rfl k_) ?_
    show Go p e s below room_1.cells room_1.slots (Q0 h0 n0) T11 (mkF m 159 #[.val (.int p1), .val (.int p2), .val (.int p3), .val (.int p4), .val (.int p5), .val (.int (Int32.ofNat K)), .val (.int (Int32.ofNat J)), .val (.double bx), .second, .val (.ref o), .val (.int (Int32.ofNat aa)), .val (.int (Int32.ofNat M)), .val (.int (Int32.ofNat (M * aa))), .val (.double (own_ln kx bx (Int32.ofNat (M * aa)) (Jvm.FP.i2d (Int32.ofNat aa)))), .second, .unset, .unset, .unset, .unset] [(.int (Int32.ofNat J)), (.long (4 : Int64)), (.long (Int64.ofNat K))])
    refine Go.st (fun _ k_ => XS.i2l X11.here hx rfl (hb hby at_159) rfl k_) ?_
    show Go p e s below room_1.cells room_1.slots (Q0 h0 n0) T11 (mkF m 160 #[.val (.int p1), .val (.int p2), .val (.int p3), .val (.int p4), .val (.int p5), .val (.int (Int32.ofNat K)), .val (.int (Int32.ofNat J)), .val (.double bx), .second, .val (.ref o), .val (.int (Int32.ofNat aa)), .val (.int (Int32.ofNat M)), .val (.int (Int32.ofNat (M * aa))), .val (.double (own_ln kx bx (Int32.ofNat (M * aa)) (Jvm.FP.i2d (Int32.ofNat aa)))), .second, .unset, .unset, .unset, .unset] [(.long ((Int32.ofNat J).toInt64)), (.long (4 : Int64)), (.long (Int64.ofNat K))])
    rw [on_i2l (by omega)]
    show Go p e s below room_1.cells room_1.slots (Q0 h0 n0) T11 (mkF m 160 #[.val (.int p1), .val (.int p2), .val (.int p3), .val (.int p4), .val (.int p5), .val (.int (Int32.ofNat K)), .val (.int (Int32.ofNat J)), .val (.double bx), .second, .val (.ref o), .val (.int (Int32.ofNat aa)), .val (.int (Int32.ofNat M)), .val (.int (Int32.ofNat (M * aa))), .val (.double (own_ln kx bx (Int32.ofNat (M * aa)) (Jvm.FP.i2d (Int32.ofNat aa)))), .second, .unset, .unset, .unset, .unset] [(.long (Int64.ofNat J)), (.long (4 : Int64)), (.long (Int64.ofNat K))])
    refine Go.st (fun _ k_ => XS.lsub X11.here hx rfl (hb hby at_160) rfl k_) ?_
    show Go p e s below room_1.cells room_1.slots (Q0 h0 n0) T11 (mkF m 161 #[.val (.int p1), .val (.int p2), .val (.int p3), .val (.int p4), .val (.int p5), .val (.int (Int32.ofNat K)), .val (.int (Int32.ofNat J)), .val (.double bx), .second, .val (.ref o), .val (.int (Int32.ofNat aa)), .val (.int (Int32.ofNat M)), .val (.int (Int32.ofNat (M * aa))), .val (.double (own_ln kx bx (Int32.ofNat (M * aa)) (Jvm.FP.i2d (Int32.ofNat aa)))), .second, .unset, .unset, .unset, .unset] [(.long ((4 : Int64) - (Int64.ofNat J))), (.long (Int64.ofNat K))])
    refine Go.st (fun _ k_ => XS.iload X11.here hx rfl (hb hby at_161) rfl k_) ?_
    show Go p e s below room_1.cells room_1.slots (Q0 h0 n0) T11 (mkF m 163 #[.val (.int p1), .val (.int p2), .val (.int p3), .val (.int p4), .val (.int p5), .val (.int (Int32.ofNat K)), .val (.int (Int32.ofNat J)), .val (.double bx), .second, .val (.ref o), .val (.int (Int32.ofNat aa)), .val (.int (Int32.ofNat M)), .val (.int (Int32.ofNat (M * aa))), .val (.double (own_ln kx bx (Int32.ofNat (M * aa)) (Jvm.FP.i2d (Int32.ofNat aa)))), .second, .unset, .unset, .unset, .unset] [(.int (Int32.ofNat J)), (.long ((4 : Int64) - (Int64.ofNat J))), (.long (Int64.ofNat K))])
    refine Go.st (fun _ k_ => XS.i2l X11.here hx rfl (hb hby at_163) rfl k_) ?_
    show Go p e s below room_1.cells room_1.slots (Q0 h0 n0) T11 (mkF m 164 #[.val (.int p1), .val (.int p2), .val (.int p3), .val (.int p4), .val (.int p5), .val (.int (Int32.ofNat K)), .val (.int (Int32.ofNat J)), .val (.double bx), .second, .val (.ref o), .val (.int (Int32.ofNat aa)), .val (.int (Int32.ofNat M)), .val (.int (Int32.ofNat (M * aa))), .val (.double (own_ln kx bx (Int32.ofNat (M * aa)) (Jvm.FP.i2d (Int32.ofNat aa)))), .second, .unset, .unset, .unset, .unset] [(.long ((Int32.ofNat J).toInt64)), (.long ((4 : Int64) - (Int64.ofNat J))), (.long (Int64.ofNat K))])
    rw [on_i2l (by omega)]
    show Go p e s below room_1.cells room_1.slots (Q0 h0 n0) T11 (mkF m 164 #[.val (.int p1), .val (.int p2), .val (.int p3), .val (.int p4), .val (.int p5), .val (.int (Int32.ofNat K)), .val (.int (Int32.ofNat J)), .val (.double bx), .second, .val (.ref o), .val (.int (Int32.ofNat aa)), .val (.int (Int32.ofNat M)), .val (.int (Int32.ofNat (M * aa))), .val (.double (own_ln kx bx (Int32.ofNat (M * aa)) (Jvm.FP.i2d (Int32.ofNat aa)))), .second, .unset, .unset, .unset, .unset] [(.long (Int64.ofNat J)), (.long ((4 : Int64) - (Int64.ofNat J))), (.long (Int64.ofNat K))])
    refine Go.st (fun _ k_ => XS.iload X11.here hx rfl (hb hby at_164) rfl k_) ?_
    show Go p e s below room_1.cells room_1.slots (Q0 h0 n0) T11 (mkF m 166 #[.val (.int p1), .val (.int p2), .val (.int p3), .val (.int p4), .val (.int p5), .val (.int (Int32.ofNat K)), .val (.int (Int32.ofNat J)), .val (.double bx), .second, .val (.ref o), .val (.int (Int32.ofNat aa)), .val (.int (Int32.ofNat M)), .val (.int (Int32.ofNat (M * aa))), .val (.double (own_ln kx bx (Int32.ofNat (M * aa)) (Jvm.FP.i2d (Int32.ofNat aa)))), .second, .unset, .unset, .unset, .unset] [(.int (Int32.ofNat M)), (.long (Int64.ofNat J)), (.long ((4 : Int64) - (Int64.ofNat J))), (.long (Int64.ofNat K))])
    refine Go.st (fun _ k_ => XS.i2l X11.here hx rfl (hb hby at_166) rfl k_) ?_
    show Go p e s below room_1.cells room_1.slots (Q0 h0 n0) T11 (mkF m 167 #[.val (.int p1), .val (.int p2), .val (.int p3), .val (.int p4), .val (.int p5), .val (.int (Int32.ofNat K)), .val (.int (Int32.ofNat J)), .val (.double bx), .second, .val (.ref o), .val (.int (Int32.ofNat aa)), .val (.int (Int32.ofNat M)), .val (.int (Int32.ofNat (M * aa))), .val (.double (own_ln kx bx (Int32.ofNat (M * aa)) (Jvm.FP.i2d (Int32.ofNat aa)))), .second, .unset, .unset, .unset, .unset] [(.long ((Int32.ofNat M).toInt64)), (.long (Int64.ofNat J)), (.long ((4 : Int64) - (Int64.ofNat J))), (.long (Int64.ofNat K))])
    rw [on_i2l (by omega)]
    show Go p e s below room_1.cells room_1.slots (Q0 h0 n0) T11 (mkF m 167 #[.val (.int p1), .val (.int p2), .val (.int p3), .val (.int p4), .val (.int p5), .val (.int (Int32.ofNat K)), .val (.int (Int32.ofNat J)), .val (.double bx), .second, .val (.ref o), .val (.int (Int32.ofNat aa)), .val (.int (Int32.ofNat M)), .val (.int (Int32.ofNat (M * aa))), .val (.double (own_ln kx bx (Int32.ofNat (M * aa)) (Jvm.FP.i2d (Int32.ofNat aa)))), .second, .unset, .unset, .unset, .unset] [(.long (Int64.ofNat M)), (.long (Int64.ofNat J)), (.long ((4 : Int64) - (Int64.ofNat J))), (.long (Int64.ofNat K))])
    refine Go.st (fun _ k_ => XS.lmul X11.here hx rfl (hb hby at_167) rfl k_) ?_
    show Go p e s below room_1.cells room_1.slots (Q0 h0 n0) T11 (mkF m 168 #[.val (.int p1), .val (.int p2), .val (.int p3), .val (.int p4), .val (.int p5), .val (.int (Int32.ofNat K)), .val (.int (Int32.ofNat J)), .val (.double bx), .second, .val (.ref o), .val (.int (Int32.ofNat aa)), .val (.int (Int32.ofNat M)), .val (.int (Int32.ofNat (M * aa))), .val (.double (own_ln kx bx (Int32.ofNat (M * aa)) (Jvm.FP.i2d (Int32.ofNat aa)))), .second, .unset, .unset, .unset, .unset] [(.long ((Int64.ofNat J) * (Int64.ofNat M))), (.long ((4 : Int64) - (Int64.ofNat J))), (.long (Int64.ofNat K))])
    refine Go.st (fun _ k_ => XS.ladd X11.here hx rfl (hb hby at_168) rfl k_) ?_
    show Go p e s below room_1.cells room_1.slots (Q0 h0 n0) T11 (mkF m 169 #[.val (.int p1), .val (.int p2), .val (.int p3), .val (.int p4), .val (.int p5), .val (.int (Int32.ofNat K)), .val (.int (Int32.ofNat J)), .val (.double bx), .second, .val (.ref o), .val (.int (Int32.ofNat aa)), .val (.int (Int32.ofNat M)), .val (.int (Int32.ofNat (M * aa))), .val (.double (own_ln kx bx (Int32.ofNat (M * aa)) (Jvm.FP.i2d (Int32.ofNat aa)))), .second, .unset, .unset, .unset, .unset] [(.long (((4 : Int64) - (Int64.ofNat J)) + ((Int64.ofNat J) * (Int64.ofNat M)))), (.long (Int64.ofNat K))])
    refine Go.st (fun _ k_ => XS.lmul X11.here hx rfl (hb hby at_169) rfl k_) ?_
    show Go p e s below room_1.cells room_1.slots (Q0 h0 n0) T11 (mkF m 170 #[.val (.int p1), .val (.int p2), .val (.int p3), .val (.int p4), .val (.int p5), .val (.int (Int32.ofNat K)), .val (.int (Int32.ofNat J)), .val (.double bx), .second, .val (.ref o), .val (.int (Int32.ofNat aa)), .val (.int (Int32.ofNat M)), .val (.int (Int32.ofNat (M * aa))), .val (.double (own_ln kx bx (Int32.ofNat (M * aa)) (Jvm.FP.i2d (Int32.ofNat aa)))), .second, .unset, .unset, .unset, .unset] [(.long ((Int64.ofNat K) * (((4 : Int64) - (Int64.ofNat J)) + ((Int64.ofNat J) * (Int64.ofNat M)))))])
    obtain ⟨num, hnum⟩ : ∃ z : Int64, z = ((Int64.ofNat K) * (((4 : Int64) - (Int64.ofNat J)) + ((Int64.ofNat J) * (Int64.ofNat M)))) := ⟨_, rfl⟩
    rw [← hnum] at hn1
    rw [← hnum]
    show Go p e s below room_1.cells room_1.slots (Q0 h0 n0) T11 (mkF m 170 #[.val (.int p1), .val (.int p2), .val (.int p3), .val (.int p4), .val (.int p5), .val (.int (Int32.ofNat K)), .val (.int (Int32.ofNat J)), .val (.double bx), .second, .val (.ref o), .val (.int (Int32.ofNat aa)), .val (.int (Int32.ofNat M)), .val (.int (Int32.ofNat (M * aa))), .val (.double (own_ln kx bx (Int32.ofNat (M * aa)) (Jvm.FP.i2d (Int32.ofNat aa)))), .second, .unset, .unset, .unset, .unset] [(.long num)])
    refine Go.st (fun _ k_ => XS.lstore X11.here hx rfl (hb hby at_170) rfl (l' := #[.val (.int p1), .val (.int p2), .val (.int p3), .val (.int p4), .val (.int p5), .val (.int (Int32.ofNat K)), .val (.int (Int32.ofNat J)), .val (.double bx), .second, .val (.ref o), .val (.int (Int32.ofNat aa)), .val (.int (Int32.ofNat M)), .val (.int (Int32.ofNat (M * aa))), .val (.double (own_ln kx bx (Int32.ofNat (M * aa)) (Jvm.FP.i2d (Int32.ofNat aa)))), .second, .val (.long num), .second, .unset, .unset]) rfl k_) ?_
    show Go p e s below room_1.cells room_1.slots (Q0 h0 n0) T11 (mkF m 172 #[.val (.int p1), .val (.int p2), .val (.int p3), .val (.int p4), .val (.int p5), .val (.int (Int32.ofNat K)), .val (.int (Int32.ofNat J)), .val (.double bx), .second, .val (.ref o), .val (.int (Int32.ofNat aa)), .val (.int (Int32.ofNat M)), .val (.int (Int32.ofNat (M * aa))), .val (.double (own_ln kx bx (Int32.ofNat (M * aa)) (Jvm.FP.i2d (Int32.ofNat aa)))), .second, .val (.long num), .second, .unset, .unset] [])
    refine Go.st (fun _ k_ => XS.lload X11.here hx rfl (hb hby at_172) rfl k_) ?_
    show Go p e s below room_1.cells room_1.slots (Q0 h0 n0) T11 (mkF m 174 #[.val (.int p1), .val (.int p2), .val (.int p3), .val (.int p4), .val (.int p5), .val (.int (Int32.ofNat K)), .val (.int (Int32.ofNat J)), .val (.double bx), .second, .val (.ref o), .val (.int (Int32.ofNat aa)), .val (.int (Int32.ofNat M)), .val (.int (Int32.ofNat (M * aa))), .val (.double (own_ln kx bx (Int32.ofNat (M * aa)) (Jvm.FP.i2d (Int32.ofNat aa)))), .second, .val (.long num), .second, .unset, .unset] [(.long num)])
    refine Go.st (fun _ k_ => XS.l2dS X11.here hx rfl (hb hby at_174) rfl rfl k_) ?_
    show Go p e s below room_1.cells room_1.slots (Q0 h0 n0) T11 (mkF m 175 #[.val (.int p1), .val (.int p2), .val (.int p3), .val (.int p4), .val (.int p5), .val (.int (Int32.ofNat K)), .val (.int (Int32.ofNat J)), .val (.double bx), .second, .val (.ref o), .val (.int (Int32.ofNat aa)), .val (.int (Int32.ofNat M)), .val (.int (Int32.ofNat (M * aa))), .val (.double (own_ln kx bx (Int32.ofNat (M * aa)) (Jvm.FP.i2d (Int32.ofNat aa)))), .second, .val (.long num), .second, .unset, .unset] [(.double (Jvm.FP.l2d num))])
    refine Go.st (X11.ldc2DoubleC hx hown (mvT hZ (hw _ (List.mem_of_getElem? (i := 1) rfl))) (g := (mkF m 175 #[.val (.int p1), .val (.int p2), .val (.int p3), .val (.int p4), .val (.int p5), .val (.int (Int32.ofNat K)), .val (.int (Int32.ofNat J)), .val (.double bx), .second, .val (.ref o), .val (.int (Int32.ofNat aa)), .val (.int (Int32.ofNat M)), .val (.int (Int32.ofNat (M * aa))), .val (.double (own_ln kx bx (Int32.ofNat (M * aa)) (Jvm.FP.i2d (Int32.ofNat aa)))), .second, .val (.long num), .second, .unset, .unset] [(.double (Jvm.FP.l2d num))])) rfl (hb hby at_175)) ?_
    have bm := own_mulB hK hn1.2.1
    have Vn : Vl (Jvm.FP.l2d num) ((K : Int) * own_I J 1 ((J : Int) * (M : Int))) 0 := by have q := Vl.l2d (a := num) (by rw [hn1.1]; omega); rw [hn1.1] at q; exact q
    have Vw := Vl.div (n := (K : Int) * own_I J 1 ((J : Int) * (M : Int))) (k := 2) Vn Vl.four (by decide) (by decide) (by decide) (by decide) (by omega) (own_c3 _)
    show Go p e s below room_1.cells room_1.slots (Q0 h0 n0) T11 (mkF m 178 #[.val (.int p1), .val (.int p2), .val (.int p3), .val (.int p4), .val (.int p5), .val (.int (Int32.ofNat K)), .val (.int (Int32.ofNat J)), .val (.double bx), .second, .val (.ref o), .val (.int (Int32.ofNat aa)), .val (.int (Int32.ofNat M)), .val (.int (Int32.ofNat (M * aa))), .val (.double (own_ln kx bx (Int32.ofNat (M * aa)) (Jvm.FP.i2d (Int32.ofNat aa)))), .second, .val (.long num), .second, .unset, .unset] [(.double (4616189618054758400 : UInt64)), (.double (Jvm.FP.l2d num))])
    refine Go.st (fun _ k_ => XS.ddivS X11.here hx rfl (hb hby at_178) rfl Vw.nn rfl k_) ?_
    show Go p e s below room_1.cells room_1.slots (Q0 h0 n0) T11 (mkF m 179 #[.val (.int p1), .val (.int p2), .val (.int p3), .val (.int p4), .val (.int p5), .val (.int (Int32.ofNat K)), .val (.int (Int32.ofNat J)), .val (.double bx), .second, .val (.ref o), .val (.int (Int32.ofNat aa)), .val (.int (Int32.ofNat M)), .val (.int (Int32.ofNat (M * aa))), .val (.double (own_ln kx bx (Int32.ofNat (M * aa)) (Jvm.FP.i2d (Int32.ofNat aa)))), .second, .val (.long num), .second, .unset, .unset] [(.double (Jvm.FP.ddiv (Jvm.FP.l2d num) (4616189618054758400 : UInt64)))])
    refine Go.st (fun _ k_ => XS.dstore X11.here hx rfl (hb hby at_179) rfl (l' := #[.val (.int p1), .val (.int p2), .val (.int p3), .val (.int p4), .val (.int p5), .val (.int (Int32.ofNat K)), .val (.int (Int32.ofNat J)), .val (.double bx), .second, .val (.ref o), .val (.int (Int32.ofNat aa)), .val (.int (Int32.ofNat M)), .val (.int (Int32.ofNat (M * aa))), .val (.double (own_ln kx bx (Int32.ofNat (M * aa)) (Jvm.FP.i2d (Int32.ofNat aa)))), .second, .val (.long num), .second, .val (.double (Jvm.FP.ddiv (Jvm.FP.l2d num) (4616189618054758400 : UInt64))), .second]) rfl k_) ?_
    show Go p e s below room_1.cells room_1.slots (Q0 h0 n0) T11 (mkF m 181 #[.val (.int p1), .val (.int p2), .val (.int p3), .val (.int p4), .val (.int p5), .val (.int (Int32.ofNat K)), .val (.int (Int32.ofNat J)), .val (.double bx), .second, .val (.ref o), .val (.int (Int32.ofNat aa)), .val (.int (Int32.ofNat M)), .val (.int (Int32.ofNat (M * aa))), .val (.double (own_ln kx bx (Int32.ofNat (M * aa)) (Jvm.FP.i2d (Int32.ofNat aa)))), .second, .val (.long num), .second, .val (.double (Jvm.FP.ddiv (Jvm.FP.l2d num) (4616189618054758400 : UInt64))), .second] [])
    refine Go.st (fun _ k_ => XS.dload X11.here hx rfl (hb hby at_181) rfl k_) ?_
    show Go p e s below room_1.cells room_1.slots (Q0 h0 n0) T11 (mkF m 183 #[.val (.int p1), .val (.int p2), .val (.int p3), .val (.int p4), .val (.int p5), .val (.int (Int32.ofNat K)), .val (.int (Int32.ofNat J)), .val (.double bx), .second, .val (.ref o), .val (.int (Int32.ofNat aa)), .val (.int (Int32.ofNat M)), .val (.int (Int32.ofNat (M * aa))), .val (.double (own_ln kx bx (Int32.ofNat (M * aa)) (Jvm.FP.i2d (Int32.ofNat aa)))), .second, .val (.long num), .second, .val (.double (Jvm.FP.ddiv (Jvm.FP.l2d num) (4616189618054758400 : UInt64))), .second] [(.double (own_ln kx bx (Int32.ofNat (M * aa)) (Jvm.FP.i2d (Int32.ofNat aa))))])
    refine Go.st (fun _ k_ => XS.dload X11.here hx rfl (hb hby at_183) rfl k_) ?_
    show Go p e s below room_1.cells room_1.slots (Q0 h0 n0) T11 (mkF m 185 #[.val (.int p1), .val (.int p2), .val (.int p3), .val (.int p4), .val (.int p5), .val (.int (Int32.ofNat K)), .val (.int (Int32.ofNat J)), .val (.double bx), .second, .val (.ref o), .val (.int (Int32.ofNat aa)), .val (.int (Int32.ofNat M)), .val (.int (Int32.ofNat (M * aa))), .val (.double (own_ln kx bx (Int32.ofNat (M * aa)) (Jvm.FP.i2d (Int32.ofNat aa)))), .second, .val (.long num), .second, .val (.double (Jvm.FP.ddiv (Jvm.FP.l2d num) (4616189618054758400 : UInt64))), .second] [(.double (Jvm.FP.ddiv (Jvm.FP.l2d num) (4616189618054758400 : UInt64))), (.double (own_ln kx bx (Int32.ofNat (M * aa)) (Jvm.FP.i2d (Int32.ofNat aa))))])
    refine Go.st (fun _ k_ => XS.dcmpS X11.here hx rfl (hb hby at_185) rfl (Vl.cmp Vg Vw) k_) ?_
    show Go p e s below room_1.cells room_1.slots (Q0 h0 n0) T11 (mkF m 186 #[.val (.int p1), .val (.int p2), .val (.int p3), .val (.int p4), .val (.int p5), .val (.int (Int32.ofNat K)), .val (.int (Int32.ofNat J)), .val (.double bx), .second, .val (.ref o), .val (.int (Int32.ofNat aa)), .val (.int (Int32.ofNat M)), .val (.int (Int32.ofNat (M * aa))), .val (.double (own_ln kx bx (Int32.ofNat (M * aa)) (Jvm.FP.i2d (Int32.ofNat aa)))), .second, .val (.long num), .second, .val (.double (Jvm.FP.ddiv (Jvm.FP.l2d num) (4616189618054758400 : UInt64))), .second] [(.int (0 : Int32))])
    refine Go.st (fun _ k_ => XS.ifNo X11.here hx rfl (hb hby at_186) rfl ((if0 _ _).trans (teq rfl).2) k_) ?_
    show Go p e s below room_1.cells room_1.slots (Q0 h0 n0) T11 (mkF m 189 #[.val (.int p1), .val (.int p2), .val (.int p3), .val (.int p4), .val (.int p5), .val (.int (Int32.ofNat K)), .val (.int (Int32.ofNat J)), .val (.double bx), .second, .val (.ref o), .val (.int (Int32.ofNat aa)), .val (.int (Int32.ofNat M)), .val (.int (Int32.ofNat (M * aa))), .val (.double (own_ln kx bx (Int32.ofNat (M * aa)) (Jvm.FP.i2d (Int32.ofNat aa)))), .second, .val (.long num), .second, .val (.double (Jvm.FP.ddiv (Jvm.FP.l2d num) (4616189618054758400 : UInt64))), .second] [])
    refine Go.st (fun _ k_ => XS.iconst X11.here hx rfl (hb hby at_189) k_) ?_
    show Go p e s below room_1.cells room_1.slots (Q0 h0 n0) T11 (mkF m 190 #[.val (.int p1), .val (.int p2), .val (.int p3), .val (.int p4), .val (.int p5), .val (.int (Int32.ofNat K)), .val (.int (Int32.ofNat J)), .val (.double bx), .second, .val (.ref o), .val (.int (Int32.ofNat aa)), .val (.int (Int32.ofNat M)), .val (.int (Int32.ofNat (M * aa))), .val (.double (own_ln kx bx (Int32.ofNat (M * aa)) (Jvm.FP.i2d (Int32.ofNat aa)))), .second, .val (.long num), .second, .val (.double (Jvm.FP.ddiv (Jvm.FP.l2d num) (4616189618054758400 : UInt64))), .second] [(.int (1 : Int32))])
    refine Go.st (fun _ k_ => XS.goto X11.here hx rfl (pc0 := 190) (pc' := 194) rfl (hb hby at_190) (by decide) (by decide) k_) ?_
    show Go p e s below room_1.cells room_1.slots (Q0 h0 n0) T11 (mkF m 194 #[.val (.int p1), .val (.int p2), .val (.int p3), .val (.int p4), .val (.int p5), .val (.int (Int32.ofNat K)), .val (.int (Int32.ofNat J)), .val (.double bx), .second, .val (.ref o), .val (.int (Int32.ofNat aa)), .val (.int (Int32.ofNat M)), .val (.int (Int32.ofNat (M * aa))), .val (.double (own_ln kx bx (Int32.ofNat (M * aa)) (Jvm.FP.i2d (Int32.ofNat aa)))), .second, .val (.long num), .second, .val (.double (Jvm.FP.ddiv (Jvm.FP.l2d num) (4616189618054758400 : UInt64))), .second] [(.int (1 : Int32))])
    exact Go.retN X11 hx hlk (t := .boolean) Bd.returns (by simp) (hb hby at_194) (by decide) (by decide) ⟨rfl, N11⟩
set_option maxRecDepth 65536 in
set_option maxHeartbeats 40000000 in
theorem comes_1 {Post : Tables → Env → Array Value → State → Outcome → State → Prop} (hpost : ∀ tb e args s v u, (limb_1_1.after args s (.returned v) u = true ∧ limb_1_2.after args s (.returned v) u = true ∧ True) → FrameEnd s (.returned v) u (Jvm.fieldLocs frame_1_writes args s ++ Jvm.arrayLocs frame_1_arrays args s ++ Jvm.staticLocs frame_1_statics s) 16 128 → Post tb e args s (.returned v) u) :
    ArmFor flags0 classFile x code maxLocals ret World_1 tables_1 room_1 Calls_1 rest_1 Pre_1 Post := by
  intro l hfl _ _ p e ha hc hk s m args below hf hA hF happ hP
  obtain ⟨hcalls, hrest, hpre⟩ := hP
  obtain ⟨-, -, -, hnamed, -, -, -, hat⟩ := (Spec.applies_iff hf).mp happ
  obtain ⟨hg, hn⟩ := and_e (Cond.before_iff.mp (show (Jvm.Cond.and given_1 narrow_1).before args s = true from hpre))
  obtain ⟨hcnt, hk0⟩ := and_e hg
  obtain ⟨ha0, hk1⟩ := and_e hk0
  obtain ⟨ha1, hk2⟩ := and_e hk1
  obtain ⟨ha2, hk3⟩ := and_e hk2
  obtain ⟨ha3, hk4⟩ := and_e hk3
  obtain ⟨w0, w1, w2, w3, w4, rfl⟩ : ∃ w0 w1 w2 w3 w4 : Value, args = #[w0, w1, w2, w3, w4] := by
    have hs : args.size = 5 := by simpa [Cond.value, given_1] using hcnt
    obtain ⟨L⟩ := args
    match L, hs with
    | [w0, w1, w2, w3, w4], _ => exact ⟨w0, w1, w2, w3, w4, rfl⟩
  have hw := fun d (hd : d ∈ tables_1) => atoms_spec (ws := Jvm.Cond.code x code maxLocals ret :: tables_1) hat d (List.mem_cons_of_mem _ hd)
  obtain ⟨i0, ei0⟩ := is_v ha0
  obtain rfl : w0 = (.int i0) := Option.some.inj ei0
  obtain ⟨i1, ei1⟩ := is_v ha1
  obtain rfl : w1 = (.int i1) := Option.some.inj ei1
  obtain ⟨i2, ei2⟩ := is_v ha2
  obtain rfl : w2 = (.int i2) := Option.some.inj ei2
  obtain ⟨i3, ei3⟩ := is_v ha3
  obtain rfl : w3 = (.int i3) := Option.some.inj ei3
  obtain ⟨i4, ei4⟩ := is_v hk4
  obtain rfl : w4 = (.int i4) := Option.some.inj ei4
  obtain ⟨n, o, h1, h2, h3, _, L, rfl, ⟨rfl, N⟩, hq⟩ := rm0 l s _ hw tables_1 i0 i1 i2 i3 i4 s.heap s.heap.size (Nat.le_refl _) p e ha hc hk s m _ below hf ((Spec.applies_iff_loose hf).mp happ).1 ⟨rfl, State.Warmed39.refl s, rfl⟩ trivial
  refine ⟨n, _, h1, h2, h3, hpost _ _ _ _ _ _ ⟨Cond.after_iff.mpr rfl, Cond.after_iff.mpr (eq_i res_at (Term.int_eval (1)) rfl), trivial⟩ ⟨hq.1, hq.2.1, (hq.2.2.sift fun y hy => Or.inr (N y hy)).mono (by decide) (by decide)⟩⟩
theorem main_1_1 : Claimed_1_1 := comes_1 fun _ _ _ _ _ _ h hF => ⟨h.1, hF⟩
theorem main_1_2 : Claimed_1_2 := comes_1 fun _ _ _ _ _ _ h hF => ⟨h.2.1, hF⟩
end Jvm.Pilot.@@N@@
namespace Jvm.Pilot.@@N@@
open Jvm Jvm.ClassFile Sem Op Lib Jvm.Free Jvm.Stand Jvm.Pilot.@@N@@.Jvm.D
/-! MADE BY PROGRAM (witnessworld.py) out of the Statement's table words and the real class files: 10 classes; the members and pool entries that the words name. The judged class is class 1, her method 1. -/
namespace start1
open Jvm.ClassFile
def u (s : String) : CpInfo := .utf8 (stringToUtf16 s)
/-- a pool by its gaps: so many unusable entries, then the entry; so many at the end -/
def gap : Nat → List CpInfo → List CpInfo
  | 0, r => r
  | n + 1, r => .unusable :: gap n r
def poolList (es : List (Nat × CpInfo)) (last : Nat) : List CpInfo := es.foldr (fun e r => gap e.1 (e.2 :: r)) (gap last [])
def pool (es : List (Nat × CpInfo)) (last : Nat) : Array CpInfo := ⟨poolList es last⟩
def fileOf (pool : Array CpInfo) (this : Nat) (attrs : Array Attribute := #[]) (ms : Array MethodInfo := #[]) (fl : Nat := 33) (sup : Nat := 0) (ifs : Array Nat := #[]) (fds : Array FieldInfo := #[]) : ClassFile where
  minorVersion := 0
  majorVersion := 65
  constantPool := pool
  accessFlags := fl
  thisClass := this
  superClass := sup
  interfaces := ifs
  fields := fds
  methods := ms
  attributes := attrs
def plain (name : String) (sup : Option ClassId) : Class where
  name := name
  kind := .ordinary
  loader := none
  accessFlags := 33
  super := sup
  interfaces := #[]
  cf := none
  fields := #[]
  methods := #[]
  instanceTypes := #[]
  staticTypes := #[]
  resolved := #[]
  callSites := []
  init := .initialized
  statics := none
  mirror := none

def pool0 : Array CpInfo := pool [(5, u "<init>"), (0, u "()V"), (1, .class_ 10), (1, u "java/lang/Object")] 113

def k0c0 : Code := { maxStack := 0, maxLocals := 1, code := object_method_1_code, exceptionTable := #[], attributes := #[] }
def k0m0 : Method := { name := "<init>", desc := "()V", sig := { parameters := [], returnType := none }, accessFlags := 1, code := some k0c0 }
/-- java/lang/Object -/
def k0 : Class := { plain "java/lang/Object" none with
  accessFlags := 33
  interfaces := #[]
  cf := some (fileOf pool0 8 #[] #[{ accessFlags := 1, nameIndex := 5, descriptorIndex := 6, attributes := #[] }] 33 0 #[] #[])
  fields := #[]
  methods := #[k0m0]
  instanceTypes := #[]
  staticTypes := #[]
  resolved := Array.replicate 124 none
  statics := none }

def pool1 : Array CpInfo := pool [(2, .class_ 4), (1, u "java/lang/Object"), (0, u "<init>"), (0, u "()V"), (0, .integer 2147483647), (0, .double 4616189618054758400), (1, .class_ 11), (0, u "com/example/vernal_stem/vernalstem/search/Bm25"), (0, .methodref 10 13), (0, .nameAndType 5 14), (0, u "(DD)V"), (0, .methodref 10 16), (0, .nameAndType 17 18), (0, u "lengthNorm"), (0, u "(ID)D"), (0, .long 4), (1, .integer 1048575), (0, .class_ 23), (0, u "com/example/vernal_stem/vernalstem/search/Bm25LengthNormPinLaw"), (2, u "law"), (0, u "(IIIII)Z")] 3

def k1m0 : Method := { name := "<init>", desc := "()V", sig := { parameters := [], returnType := none }, accessFlags := 1, code := none }
def k1c1 : Code := { maxStack := 8, maxLocals := 19, code := code, exceptionTable := #[], attributes := #[] }
def k1m1 : Method := { name := "law", desc := "(IIIII)Z", sig := { parameters := [.int, .int, .int, .int, .int], returnType := some .boolean }, accessFlags := 9, code := some k1c1 }
/-- com/example/vernal_stem/vernalstem/search/Bm25LengthNormPinLaw -/
def k1 : Class := { plain "com/example/vernal_stem/vernalstem/search/Bm25LengthNormPinLaw" (some 0) with
  accessFlags := 49
  interfaces := #[]
  cf := some (fileOf pool1 22 #[] #[{ accessFlags := 1, nameIndex := 5, descriptorIndex := 6, attributes := #[] }, { accessFlags := 9, nameIndex := 26, descriptorIndex := 27, attributes := #[] }] 49 2 #[] #[])
  fields := #[]
  methods := #[k1m0, k1m1]
  instanceTypes := #[]
  staticTypes := #[]
  resolved := Array.replicate 31 none
  statics := none }

def pool2 : Array CpInfo := pool [(1, .methodref 2 3), (0, .class_ 4), (0, .nameAndType 5 6), (0, u "java/lang/Object"), (0, u "<init>"), (0, u "()V"), (0, .class_ 8), (0, u "java/lang/Record")] 13

def k2c0 : Code := { maxStack := 1, maxLocals := 1, code := jdk_30_method_1_code, exceptionTable := #[], attributes := #[] }
def k2m0 : Method := { name := "<init>", desc := "()V", sig := { parameters := [], returnType := none }, accessFlags := 4, code := some k2c0 }
/-- java/lang/Record -/
def k2 : Class := { plain "java/lang/Record" (some 0) with
  accessFlags := 1057
  interfaces := #[]
  cf := some (fileOf pool2 7 #[] #[{ accessFlags := 4, nameIndex := 5, descriptorIndex := 6, attributes := #[] }] 1057 2 #[] #[])
  fields := #[]
  methods := #[k2m0]
  instanceTypes := #[]
  staticTypes := #[]
  resolved := Array.replicate 22 none
  statics := none }

def pool3 : Array CpInfo := pool [(1, .methodref 2 3), (0, .class_ 4), (0, .nameAndType 5 6), (0, u "java/lang/Record"), (0, u "<init>"), (0, u "()V"), (0, .fieldref 8 9), (0, .class_ 10), (0, .nameAndType 11 12), (0, u "com/example/vernal_stem/vernalstem/search/Bm25"), (0, u "k1"), (0, u "D"), (0, .fieldref 8 14), (0, .nameAndType 15 12), (0, u "b"), (26, u "(DD)V"), (2, u "STANDARD"), (0, u "Lcom/example/vernal_stem/vernalstem/search/Bm25;"), (5, u "lengthNorm"), (0, u "(ID)D")] 27

def k3c0 : Code := { maxStack := 3, maxLocals := 5, code := prog_62_method_1_code, exceptionTable := #[], attributes := #[] }
def k3m0 : Method := { name := "<init>", desc := "(DD)V", sig := { parameters := [.double, .double], returnType := none }, accessFlags := 1, code := some k3c0 }
def k3c1 : Code := { maxStack := 8, maxLocals := 4, code := prog_62_method_3_code, exceptionTable := #[], attributes := #[] }
def k3m1 : Method := { name := "lengthNorm", desc := "(ID)D", sig := { parameters := [.int, .double], returnType := some .double }, accessFlags := 1, code := some k3c1 }
/-- com/example/vernal_stem/vernalstem/search/Bm25 -/
def k3 : Class := { plain "com/example/vernal_stem/vernalstem/search/Bm25" (some 2) with
  accessFlags := 49
  interfaces := #[]
  cf := some (fileOf pool3 8 #[] #[{ accessFlags := 1, nameIndex := 5, descriptorIndex := 42, attributes := #[] }, { accessFlags := 1, nameIndex := 52, descriptorIndex := 53, attributes := #[] }] 49 2 #[] #[{ accessFlags := 18, nameIndex := 11, descriptorIndex := 12, attributes := #[] }, { accessFlags := 18, nameIndex := 15, descriptorIndex := 12, attributes := #[] }, { accessFlags := 25, nameIndex := 45, descriptorIndex := 46, attributes := #[] }])
  fields := #[{ name := "k1", type := .double, accessFlags := 18, slot := 0, constantValue := 0 }, { name := "b", type := .double, accessFlags := 18, slot := 1, constantValue := 0 }, { name := "STANDARD", type := (.object "com/example/vernal_stem/vernalstem/search/Bm25"), accessFlags := 25, slot := 0, constantValue := 0 }]
  methods := #[k3m0, k3m1]
  instanceTypes := #[.double, .double]
  staticTypes := #[(.object "com/example/vernal_stem/vernalstem/search/Bm25")]
  resolved := Array.replicate 81 none
  statics := none }

def pool4 : Array CpInfo := pool [(1, u "java/lang/Cloneable"), (0, .class_ 1), (0, u "java/lang/Object"), (0, .class_ 3)] 3

/-- java/lang/Cloneable -/
def k4 : Class := { plain "java/lang/Cloneable" (some 0) with
  accessFlags := 1537
  interfaces := #[]
  cf := some (fileOf pool4 2 #[] #[] 1537 4 #[] #[])
  fields := #[]
  methods := #[]
  instanceTypes := #[]
  staticTypes := #[]
  resolved := Array.replicate 8 none
  statics := none }

def pool5 : Array CpInfo := pool [(1, u "java/io/Serializable"), (0, .class_ 1), (0, u "java/lang/Object"), (0, .class_ 3)] 3

/-- java/io/Serializable -/
def k5 : Class := { plain "java/io/Serializable" (some 0) with
  accessFlags := 1537
  interfaces := #[]
  cf := some (fileOf pool5 2 #[] #[] 1537 4 #[] #[])
  fields := #[]
  methods := #[]
  instanceTypes := #[]
  staticTypes := #[]
  resolved := Array.replicate 8 none
  statics := none }

/-- the primitive byte -/
def k6 : Class := { plain "byte" none with kind := .primitive 'B', accessFlags := 0x411 }
/-- [B -/
def k7 : Class := { plain "[B" (some 0) with kind := .array 6 .byte, interfaces := #[4, 5], accessFlags := 1041 }

/-- the primitive int -/
def k8 : Class := { plain "int" none with kind := .primitive 'I', accessFlags := 0x411 }
/-- [I -/
def k9 : Class := { plain "[I" (some 0) with kind := .array 8 .int, interfaces := #[4, 5], accessFlags := 1041 }

def heap : Heap := #[]
def classes : Array Class := #[k0, k1, k2, k3, k4, k5, k6, k7, k8, k9]
def interned : List (Array UInt16 × Addr) := []
def slotsUsed : Nat := 0
def theMethod : MethodId := ⟨1, 1⟩
def args0 : Array Value := #[.int 5, .int 2, .int 7, .int 3, .int 0]
def aboutOver (below : List Frame) : State where
  vm := { classes := classes, interned := interned.toArray }
  heap := heap
  slotsUsed := slotsUsed
  threads := #[{ frames := .invoking theMethod args0 :: below }]
def below0 : List Frame := [.native { method := ⟨0, 0⟩, args := #[] }]
def about1 : State := aboutOver below0
def p0 : Program := .bare "" "" ""
def e0 : Env := launch0.env 0 0 0
theorem w_frames : about1.frames = Frame.invoking theMethod args0 :: below0 := rfl
set_option maxRecDepth 65536 in
theorem w_args : argsFit about1.vm theMethod args0 = true := by decide +kernel
set_option maxRecDepth 65536 in
theorem w_heap : heapFits about1 = true := by decide +kernel
set_option maxRecDepth 65536 in
theorem w_runnable : about1.curStatus? = some .runnable := by decide +kernel
set_option maxRecDepth 65536 in
theorem w_alone : about1.alone = true := by decide +kernel
set_option maxRecDepth 65536 in
theorem w_named : about1.methodNamed? x = some theMethod := by decide +kernel
set_option maxRecDepth 65536 in
theorem w_hears : about1.hears theMethod below0 = true := by decide +kernel
set_option maxRecDepth 65536 in
theorem w_ripe : about1.ripe theMethod args0 below0 = true := by decide +kernel
theorem w_running : about1.status = .running := rfl
set_option maxRecDepth 65536 in
theorem w_room : about1.hasRoom e0.platform room_1 = true :=
  launch0.hasRoom_least _ room_1 (by decide +kernel) (by decide +kernel) (by decide +kernel) (by decide +kernel) (by decide +kernel) (by decide +kernel)
theorem allAtoms_all (ts : List Jvm.Cond) (a : Array Jvm.Value) (st : Jvm.State) : (allAtoms ts).before a st = ts.all (fun c => c.before a st) := by
  induction ts with
  | nil => rfl
  | cons c t ih =>
    show (Jvm.Cond.and c (allAtoms t)).before a st = _
    rw [Jvm.Cond.before_and, ih, List.all_cons]
def words1 : List Jvm.Cond := Jvm.Cond.code x code maxLocals ret :: tables_1
/-- a 'code' word, met by the world's own term for the bytes: nothing is compared byte by byte -/
theorem code_word {y : MethodName} {bytes : ByteArray} {mx : Nat} {rt : Option FieldType} {a : Array Value} {s : State} {m : MethodId} {meth : Method} {c : Code} (h1 : s.methodNamed? y = some m) (h2 : s.vm.method? m = some meth) (h3 : meth.code = some c) (h4 : c.code = bytes)
    (h5 : (c.maxLocals == mx && c.exceptionTable.isEmpty && decide (c.maxStack ≤ mostOperands) && decide (meth.sig.returnType = rt) && !meth.locks && decide (parseMethodDescriptor y.desc = some meth.sig)) = true) : (Jvm.Cond.code y bytes mx rt).before a s = true := by
  simp only [Bool.and_eq_true, beq_iff_eq, Bool.not_eq_true', decide_eq_true_eq] at h5
  obtain ⟨⟨⟨⟨⟨g1, g2⟩, g3⟩, g4⟩, g5⟩, g6⟩ := h5
  simp [Cond.before, Cond.holds, Cond.value, h1, h2, h3, h4, g1, g2, g3, g4, g5, g6]
def isCode : Jvm.Cond → Bool
  | .code _ _ _ _ => true
  | _ => false
theorem all_split {L : List Jvm.Cond} {P : Jvm.Cond → Bool} (h1 : L.all (fun c => isCode c || P c) = true) (h2 : ∀ c ∈ L.filter isCode, P c = true) : L.all P = true := by
  refine List.all_eq_true.mpr fun c hc => ?_
  have h := List.all_eq_true.mp h1 c hc
  rcases Bool.eq_false_or_eq_true (isCode c) with hi | hi
  · exact h2 c (List.mem_filter.mpr ⟨hc, hi⟩)
  · simpa [hi] using h
set_option maxRecDepth 65536 in
theorem w_c0 : (Jvm.Cond.code x code maxLocals ret).before args0 about1 = true := code_word (m := ⟨1, 1⟩) (meth := k1m1) (c := k1c1) (by decide +kernel) rfl rfl rfl (by decide +kernel)
set_option maxRecDepth 65536 in
theorem w_c1 : (Jvm.Cond.code ({ cls := "com/example/vernal_stem/vernalstem/search/Bm25", name := "<init>", desc := "(DD)V" } : Jvm.MethodName) prog_62_method_1_code (5 : Nat) (Option.none : Option Jvm.ClassFile.FieldType)).before args0 about1 = true := code_word (m := ⟨3, 0⟩) (meth := k3m0) (c := k3c0) (by decide +kernel) rfl rfl rfl (by decide +kernel)
set_option maxRecDepth 65536 in
theorem w_c2 : (Jvm.Cond.code ({ cls := "java/lang/Record", name := "<init>", desc := "()V" } : Jvm.MethodName) jdk_30_method_1_code (1 : Nat) (Option.none : Option Jvm.ClassFile.FieldType)).before args0 about1 = true := code_word (m := ⟨2, 0⟩) (meth := k2m0) (c := k2c0) (by decide +kernel) rfl rfl rfl (by decide +kernel)
set_option maxRecDepth 65536 in
theorem w_c3 : (Jvm.Cond.code ({ cls := "java/lang/Object", name := "<init>", desc := "()V" } : Jvm.MethodName) object_method_1_code (1 : Nat) (Option.none : Option Jvm.ClassFile.FieldType)).before args0 about1 = true := code_word (m := ⟨0, 0⟩) (meth := k0m0) (c := k0c0) (by decide +kernel) rfl rfl rfl (by decide +kernel)
set_option maxRecDepth 65536 in
theorem w_c4 : (Jvm.Cond.code ({ cls := "com/example/vernal_stem/vernalstem/search/Bm25", name := "lengthNorm", desc := "(ID)D" } : Jvm.MethodName) prog_62_method_3_code (4 : Nat) (Option.some Jvm.ClassFile.FieldType.double)).before args0 about1 = true := code_word (m := ⟨3, 1⟩) (meth := k3m1) (c := k3c1) (by decide +kernel) rfl rfl rfl (by decide +kernel)
def codes1 : List Jvm.Cond := [Jvm.Cond.code x code maxLocals ret, Jvm.Cond.code ({ cls := "com/example/vernal_stem/vernalstem/search/Bm25", name := "<init>", desc := "(DD)V" } : Jvm.MethodName) prog_62_method_1_code (5 : Nat) (Option.none : Option Jvm.ClassFile.FieldType), Jvm.Cond.code ({ cls := "java/lang/Record", name := "<init>", desc := "()V" } : Jvm.MethodName) jdk_30_method_1_code (1 : Nat) (Option.none : Option Jvm.ClassFile.FieldType), Jvm.Cond.code ({ cls := "java/lang/Object", name := "<init>", desc := "()V" } : Jvm.MethodName) object_method_1_code (1 : Nat) (Option.none : Option Jvm.ClassFile.FieldType), Jvm.Cond.code ({ cls := "com/example/vernal_stem/vernalstem/search/Bm25", name := "lengthNorm", desc := "(ID)D" } : Jvm.MethodName) prog_62_method_3_code (4 : Nat) (Option.some Jvm.ClassFile.FieldType.double)]
set_option maxRecDepth 65536 in
theorem codes_eq : words1.filter isCode = codes1 := rfl
theorem w_codes : ∀ c ∈ words1.filter isCode, c.before args0 about1 = true := by
  rw [codes_eq]
  intro c hc
  simp only [codes1, List.mem_cons, List.not_mem_nil, or_false] at hc
  rcases hc with rfl | rfl | rfl | rfl | rfl
  · exact w_c0
  · exact w_c1
  · exact w_c2
  · exact w_c3
  · exact w_c4
set_option maxRecDepth 65536 in
theorem w_t1 : (words1.take 24).all (fun c => isCode c || c.before args0 about1) = true := by decide +kernel
set_option maxRecDepth 65536 in
theorem w_t2 : (words1.drop 24).all (fun c => isCode c || c.before args0 about1) = true := by decide +kernel
theorem w_tables : (allAtoms (Jvm.Cond.code x code maxLocals ret :: tables_1)).before args0 about1 = true := by
  rw [allAtoms_all]
  show words1.all (fun c => c.before args0 about1) = true
  refine all_split ?_ w_codes
  rw [← List.take_append_drop 24 words1, List.all_append, w_t1, w_t2]
  rfl
set_option maxRecDepth 65536 in
theorem w_case : (Jvm.Cond.and given_1 narrow_1).before args0 about1 = true := by decide +kernel
theorem w_applies : (headSpec (Jvm.Cond.code x code maxLocals ret :: tables_1) room_1).applies x e0.platform about1 = true :=
  (Spec.applies_iff w_frames).mpr ⟨w_running, w_runnable, w_alone, w_named, w_hears, w_ripe, w_room, w_tables⟩
theorem atStart : AtStart classFile x code maxLocals ret World_1 tables_1 room_1 Calls_1 rest_1 Pre_1 launch0 p0 e0 about1 theMethod args0 below0 :=
  ⟨lists_1, trivial, launch0.admits_env _ _ _, launch0.least_env, fairChoices_fair.cas, fairChoices_fair.clock, w_frames, w_args, w_heap, w_applies, trivial, trivial, w_case⟩
end start1
theorem witness_1 : WitnessClaimed_1 := ⟨start1.p0, start1.e0, start1.about1, start1.theMethod, start1.args0, start1.below0, start1.atStart⟩
end Jvm.Pilot.@@N@@
