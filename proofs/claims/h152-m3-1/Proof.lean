import JvmDerived
import JvmDerived.Pilot.@@N@@Statement
import JvmDerived.Pilot.@@N@@Code
set_option linter.unusedVariables false
set_option linter.unusedSimpArgs false
@@BLOCK:NumsL.lean.txt@@
namespace Jvm.Pilot.@@N@@
open Jvm Jvm.ClassFile Sem Op Lib Jvm.Free Jvm.Stand Jvm.LawKit Jvm.RoadKit Bundle Jvm.Pilot.@@N@@.Jvm.D
/-! own kit: a walk's goal as one predicate, so that laws, branches and loops stand in the order of the run -/
def Go (p : Program) (e : Env) (s : State) (below : List Frame) (C S : Nat) (Q : Option Value → Heap → List Loc → Prop) (T : State) (g : JFrame) : Prop :=
  ∃ s₂ o, Steps p.tables e below (T.setTop g) s₂ ∧ s₂.status = .running ∧ Ended s₂ below o ∧ ∃ v L, o = .returned v ∧ Q v s₂.heap L ∧ FrameEnd s o s₂ L C S
section OwnKit
variable {p : Program} {l : Launch} {e : Env} {R : Room} {s : State} {m : MethodId} {args : Array Value} {below : List Frame} {meth : Method} {c : Code} {T T' : State} {locs : List Loc} {cells slots : Nat} {C S : Nat} {Q : Option Value → Heap → List Loc → Prop} {g g' : JFrame} {Z : State} {h h' : Heap} {a b : Addr}
theorem Go.st (k1 : ∀ t, Steps p.tables e below (T'.setTop g') t → Steps p.tables e below (T.setTop g) t) (k : Go p e s below C S Q T' g') : Go p e s below C S Q T g := by
  obtain ⟨s₂, o, h1, h2⟩ := k
  exact ⟨s₂, o, k1 _ h1, h2⟩
theorem Go.tr (k1 : Steps p.tables e below (T.setTop g) (T'.setTop g')) (k : Go p e s below C S Q T' g') : Go p e s below C S Q T g := by
  obtain ⟨s₂, o, h1, h2⟩ := k
  exact ⟨s₂, o, k1.trans h1, h2⟩
theorem Go.enter {gE : JFrame} (q : gE = g) (k : Go p e s below C S Q T g) : ∃ s₂ o, Steps p.tables e below (T.setTop gE) s₂ ∧ s₂.status = .running ∧ Ended s₂ below o ∧ ∃ v L, o = .returned v ∧ Q v s₂.heap L ∧ FrameEnd s o s₂ L C S := by
  subst q
  exact k
theorem Go.retO (X : Stand p l e R s m args below meth c T locs cells slots) (hx : p.tables.exec = Jvm.exec) (hlk : meth.locks = false) {pc : Nat} {Ls : Array Slot} {w : Value} {t : FieldType} {i : Instr} {rest : List Value} (hret : meth.sig.returnType = some t) (hn : narrow t w = w)
    (hi : (i = .ireturn ∧ (t = .int ∨ t = .boolean ∨ t = .byte ∨ t = .char ∨ t = .short) ∧ ∃ z, w = .int z) ∨ (i = .lreturn ∧ t = .long ∧ ∃ z, w = .long z) ∨ (i = .dreturn ∧ t = .double ∧ ∃ z, w = .double z) ∨ (i = .freturn ∧ t = .float ∧ ∃ z, w = .float z) ∨ (i = .areturn ∧ t.isReference = true ∧ w.isRef = true))
    (hd : decode c.code pc = .ok (i, 1)) (hc : cells ≤ C) (hs : slots ≤ S) (hQ : Q (some w) T.heap locs) : Go p e s below C S Q T (mkF m pc Ls (w :: rest)) := by
  obtain ⟨fs, hr, hrun, hended, hW, hsame⟩ := X.leave (v := some w) (fun q => by rw [hret] at q; cases q) hlk
  exact ⟨_, _, retOut X hx hret hn hi hd hr, hrun, hended, _, _, rfl, hQ, ⟨_, rfl⟩, hW, hsame.mono hc hs⟩
theorem Go.retI (X : Stand p l e R s m args below meth c T locs cells slots) (hx : p.tables.exec = Jvm.exec) (hlk : meth.locks = false) {pc : Nat} {Ls : Array Slot} {z : Int32} {rest : List Value} (hret : meth.sig.returnType = some .int)
    (hd : decode c.code pc = .ok (.ireturn, 1)) (hc : cells ≤ C) (hs : slots ≤ S) (hQ : Q (some (.int z)) T.heap locs) : Go p e s below C S Q T (mkF m pc Ls (.int z :: rest)) :=
  Go.retO X hx hlk hret rfl (Or.inl ⟨rfl, Or.inl rfl, _, rfl⟩) hd hc hs hQ
theorem Go.retJ (X : Stand p l e R s m args below meth c T locs cells slots) (hx : p.tables.exec = Jvm.exec) (hlk : meth.locks = false) {pc : Nat} {Ls : Array Slot} {z : Int64} {rest : List Value} (hret : meth.sig.returnType = some .long)
    (hd : decode c.code pc = .ok (.lreturn, 1)) (hc : cells ≤ C) (hs : slots ≤ S) (hQ : Q (some (.long z)) T.heap locs) : Go p e s below C S Q T (mkF m pc Ls (.long z :: rest)) :=
  Go.retO X hx hlk hret rfl (Or.inr (Or.inl ⟨rfl, rfl, _, rfl⟩)) hd hc hs hQ
theorem Go.retA (X : Stand p l e R s m args below meth c T locs cells slots) (hx : p.tables.exec = Jvm.exec) (hlk : meth.locks = false) {pc : Nat} {Ls : Array Slot} {z : Addr} {t : FieldType} {rest : List Value} (hret : meth.sig.returnType = some t) (ht : t.isReference = true)
    (hd : decode c.code pc = .ok (.areturn, 1)) (hc : cells ≤ C) (hs : slots ≤ S) (hQ : Q (some (.ref z)) T.heap locs) : Go p e s below C S Q T (mkF m pc Ls (.ref z :: rest)) :=
  Go.retO X hx hlk hret (by cases t <;> first | rfl | (simp [FieldType.isReference] at ht)) (Or.inr (Or.inr (Or.inr (Or.inr ⟨rfl, ht, rfl⟩)))) hd hc hs hQ
theorem Go.retN (X : Stand p l e R s m args below meth c T locs cells slots) (hx : p.tables.exec = Jvm.exec) (hlk : meth.locks = false) {pc : Nat} {Ls : Array Slot} {z : Int32} {t : FieldType} {rest : List Value} (hret : meth.sig.returnType = some t) (ht : t = .boolean ∨ t = .byte ∨ t = .char ∨ t = .short)
    (hd : decode c.code pc = .ok (.ireturn, 1)) (hc : cells ≤ C) (hs : slots ≤ S) (hQ : Q (some (.int (nar t z))) T.heap locs) : Go p e s below C S Q T (mkF m pc Ls (.int z :: rest)) := by
  obtain ⟨fs, hr, hrun, hended, hW, hsame⟩ := X.leave (v := some (.int (nar t z))) (fun q => by rw [hret] at q; cases q) hlk
  exact ⟨_, _, Jvm.RoadKit.retN X hx hret ht hd hr, hrun, hended, _, _, rfl, hQ, ⟨_, rfl⟩, hW, hsame.mono hc hs⟩
theorem Go.retV (X : Stand p l e R s m args below meth c T locs cells slots) (hx : p.tables.exec = Jvm.exec) (hlk : meth.locks = false) {pc : Nat} {Ls : Array Slot} (hret : meth.sig.returnType = none)
    (hd : decode c.code pc = .ok (.return_, 1)) (hc : cells ≤ C) (hs : slots ≤ S) (hQ : Q none T.heap locs) : Go p e s below C S Q T (mkF m pc Ls []) := by
  obtain ⟨fs, hr, hrun, hended, hW, hsame⟩ := X.leave (v := none) (fun _ => rfl) hlk
  exact ⟨_, _, X.returnOut hx hret hd hr, hrun, hended, _, _, rfl, hQ, ⟨_, rfl⟩, hW, hsame.mono hc hs⟩
/-! an array of ints (or bytes) by a function of its places -/
def AV (Z : State) (h : Heap) (a : Addr) (ty : FieldType) (n : Nat) (f : Nat → Int32) : Prop := ∃ c : Cell, Arr Z h a c ty ∧ c.slots.size = n ∧ n < 2147483648 ∧ ∀ j, j < n → c.slots[j]? = some (.int (f j))
variable {ty : FieldType} {n : Nat} {f : Nat → Int32}
theorem AV.lt (F : AV Z h a ty n f) : a < h.size := by obtain ⟨c, A, -⟩ := F; exact A.lt
theorem AV.small (F : AV Z h a ty n f) : n < 2147483648 := by obtain ⟨c, A, -, r, -⟩ := F; exact r
theorem AV.ext (F : AV Z h a ty n f) (E : Ext h h') : AV Z h' a ty n f := by obtain ⟨c, A, r⟩ := F; exact ⟨c, A.ext E, r⟩
theorem AV.other {sl : Nat} {v : Value} (F : AV Z h b ty n f) (W : Wr h h' a sl v) (q : b ≠ a) : AV Z h' b ty n f := by obtain ⟨c, A, r⟩ := F; exact ⟨c, A.other W q, r⟩
theorem AV.keep {ws : List Addr} (F : AV Z h a ty n f) (K : Keep h h' ws) (q : a ∉ ws) : AV Z h' a ty n f := by obtain ⟨c, A, r⟩ := F; exact ⟨c, ⟨K.2.1 a c A.1 q, A.2⟩, r⟩
theorem AV.congr {f' : Nat → Int32} (F : AV Z h a ty n f) (q : ∀ j, j < n → f j = f' j) : AV Z h a ty n f' := by
  obtain ⟨c, A, r1, r2, r3⟩ := F
  exact ⟨c, A, r1, r2, fun j hj => by rw [← q j hj]; exact r3 j hj⟩
theorem AV.new {k : ClassId} {z : Int32} (A : Arr Z h a (newA k ty z) ty) (hz : ¬ z < 0) (hd : defaultValue ty = .int 0) : AV Z h a ty z.toNatClampNeg (fun _ => 0) := by
  obtain ⟨c, A', -, S, -, H, -⟩ := Arv.new A hz
  refine ⟨c, A', S, ?_, fun j hj => ?_⟩
  · have h1 := z.toInt_lt
    have h2 : z.toNatClampNeg = z.toInt.toNat := rfl
    omega
  · have := H j (by omega)
    rw [this, hd]
    rfl
theorem AV.set {i : Nat} {x : Int32} (F : AV Z h a ty n f) (W : Wr h h' a i (.int x)) : AV Z h' a ty n (upd f i x) := by
  obtain ⟨c, A, r1, r2, r3⟩ := F
  refine ⟨_, A.same W, ?_, r2, fun j hj => ?_⟩
  · simp [Cell.setSlot, r1]
  · simp only [Cell.setSlot, upd]
    rw [Array.getElem?_setIfInBounds]
    by_cases q : i = j
    · subst q; simp [r1, hj]
    · simp [q, Ne.symm q, r3 j hj]
theorem AV.ldI (X : Stand p l e R s m args below meth c T locs cells slots) (hx : p.tables.exec = Jvm.exec) (hZ : Z.Warmed39 s.vm) (eT : T.heap = h) (F : AV Z h a .int n f) {j : Int32} {i : Nat} (hj : j.toNatClampNeg = i) (h0 : ¬ j < 0) (hi : i < n)
    {g : JFrame} (hg : g.method = m) {rest : List Value} (hs : g.stack = .int j :: .ref a :: rest) (hd : decode c.code g.pc = .ok (.iaload, 1)) : ∀ t, Steps p.tables e below (T.setTop { g with pc := g.pc + 1, stack := .int (f i) :: rest }) t → Steps p.tables e below (T.setTop g) t := by
  obtain ⟨cl, A, r1, r2, r3⟩ := F
  intro t k
  exact X.iaload hx (by rw [eT]; exact A.1) (State.isArrayOf_alike hZ.alike A.2.1) A.2.2 (by rw [r1, hj]; intro q; rcases q with q | q; exact h0 q; omega) (by rw [hj]; exact r3 i hi) hg hs hd _ k
theorem AV.ldB (X : Stand p l e R s m args below meth c T locs cells slots) (hx : p.tables.exec = Jvm.exec) (hZ : Z.Warmed39 s.vm) (eT : T.heap = h) (F : AV Z h a .byte n f) {j : Int32} {i : Nat} (hj : j.toNatClampNeg = i) (h0 : ¬ j < 0) (hi : i < n)
    {g : JFrame} (hg : g.method = m) {rest : List Value} (hs : g.stack = .int j :: .ref a :: rest) (hd : decode c.code g.pc = .ok (.baload, 1)) : ∀ t, Steps p.tables e below (T.setTop { g with pc := g.pc + 1, stack := .int (f i) :: rest }) t → Steps p.tables e below (T.setTop g) t := by
  obtain ⟨cl, A, r1, r2, r3⟩ := F
  intro t k
  exact X.baloadBytes hx (by rw [eT]; exact A.1) (State.isArrayOf_alike hZ.alike A.2.1) A.2.2 (by rw [r1, hj]; intro q; rcases q with q | q; exact h0 q; omega) (by rw [hj]; exact r3 i hi) hg hs hd _ k
theorem AV.stI (X : Stand p l e R s m args below meth c T locs cells slots) (hx : p.tables.exec = Jvm.exec) (hZ : Z.Warmed39 s.vm) (eT : T.heap = h) (F : AV Z h a .int n f) {j x : Int32} {i : Nat} (hj : j.toNatClampNeg = i) (h0 : ¬ j < 0) (hi : i < n)
    {g : JFrame} (hg : g.method = m) {rest : List Value} (hs : g.stack = .int x :: .int j :: .ref a :: rest) (hd : decode c.code g.pc = .ok (.iastore, 1)) :
    ∃ T' h', Stand p l e R s m args below meth c T' (locs ++ [⟨a, i⟩]) cells slots ∧ T'.heap = h' ∧ Wr h h' a i (.int x) ∧ AV Z h' a .int n (upd f i x) ∧ ∀ t, Steps p.tables e below (T'.setTop { g with pc := g.pc + 1, stack := rest }) t → Steps p.tables e below (T.setTop g) t := by
  have F' := F
  obtain ⟨cl, A, r1, r2, r3⟩ := F
  obtain ⟨T', h', X', e', W, st⟩ := Jvm.RoadKit.stI X hx hZ eT A (j := j) (x := x) (by rw [r1, hj]; intro q; rcases q with q | q; exact h0 q; omega) hg hs hd
  rw [hj] at X' W
  exact ⟨T', h', X', e', W, F'.set W, st⟩
theorem AV.stB (X : Stand p l e R s m args below meth c T locs cells slots) (hx : p.tables.exec = Jvm.exec) (hZ : Z.Warmed39 s.vm) (eT : T.heap = h) (F : AV Z h a .byte n f) {j x : Int32} {i : Nat} (hj : j.toNatClampNeg = i) (h0 : ¬ j < 0) (hi : i < n)
    {g : JFrame} (hg : g.method = m) {rest : List Value} (hs : g.stack = .int x :: .int j :: .ref a :: rest) (hd : decode c.code g.pc = .ok (.bastore, 1)) :
    ∃ T' h', Stand p l e R s m args below meth c T' (locs ++ [⟨a, i⟩]) cells slots ∧ T'.heap = h' ∧ Wr h h' a i (.int (nar .byte x)) ∧ AV Z h' a .byte n (upd f i (nar .byte x)) ∧ ∀ t, Steps p.tables e below (T'.setTop { g with pc := g.pc + 1, stack := rest }) t → Steps p.tables e below (T.setTop g) t := by
  have F' := F
  obtain ⟨cl, A, r1, r2, r3⟩ := F
  obtain ⟨T', h', X', e', W, st⟩ := Jvm.RoadKit.stB X hx hZ eT A (j := j) (x := x) (by rw [r1, hj]; intro q; rcases q with q | q; exact h0 q; omega) hg hs hd
  rw [hj] at X' W
  exact ⟨T', h', X', e', W, F'.set W, st⟩
theorem AV.len (X : Stand p l e R s m args below meth c T locs cells slots) (hx : p.tables.exec = Jvm.exec) (hZ : Z.Warmed39 s.vm) (eT : T.heap = h) (F : AV Z h a ty n f)
    {g : JFrame} (hg : g.method = m) {rest : List Value} (hs : g.stack = .ref a :: rest) (hd : decode c.code g.pc = .ok (.arraylength, 1)) : ∀ t, Steps p.tables e below (T.setTop { g with pc := g.pc + 1, stack := .int (Int32.ofNat n) :: rest }) t → Steps p.tables e below (T.setTop g) t := by
  obtain ⟨cl, A, r1, r2, r3⟩ := F
  subst r1
  intro t k
  exact X.arraylength hx (by rw [eT]; exact A.1) (State.isArrayOf_alike hZ.alike A.2.1) hg hs hd _ k
end OwnKit
theorem cl_eq {x y : Int64} (h : x = y) : ifCond.holds .eq (lcmpW x y) = true ∧ ifCond.holds .ne (lcmpW x y) = false := by
  have q := (lw_eq x y).mpr h
  exact ⟨(if0 _ _).trans (teq q).1, (if0 _ _).trans (teq q).2⟩
theorem cl_eqF {x y : Int64} (h : ¬ x = y) : ifCond.holds .eq (lcmpW x y) = false ∧ ifCond.holds .ne (lcmpW x y) = true := by
  have q := fun z => h ((lw_eq x y).mp z)
  exact ⟨(if0 _ _).trans (feq q).1, (if0 _ _).trans (feq q).2⟩
theorem cl_lt {x y : Int64} (h : x < y) : ifCond.holds .lt (lcmpW x y) = true ∧ ifCond.holds .ge (lcmpW x y) = false := by
  have q := (lw_lt x y).mpr h
  exact ⟨(if0 _ _).trans (tlt q).1, (if0 _ _).trans (tlt q).2.1⟩
theorem cl_ltF {x y : Int64} (h : ¬ x < y) : ifCond.holds .lt (lcmpW x y) = false ∧ ifCond.holds .ge (lcmpW x y) = true := by
  have q := fun z => h ((lw_lt x y).mp z)
  exact ⟨(if0 _ _).trans (flt q).1, (if0 _ _).trans (flt q).2.1⟩
theorem cl_gt {x y : Int64} (h : y < x) : ifCond.holds .gt (lcmpW x y) = true ∧ ifCond.holds .le (lcmpW x y) = false := by
  have q := (lw_gt x y).mpr h
  exact ⟨(if0 _ _).trans (tlt q).2.2.1, (if0 _ _).trans (tlt q).2.2.2⟩
theorem cl_gtF {x y : Int64} (h : ¬ y < x) : ifCond.holds .gt (lcmpW x y) = false ∧ ifCond.holds .le (lcmpW x y) = true := by
  have q := fun z => h ((lw_gt x y).mp z)
  exact ⟨(if0 _ _).trans (flt q).2.2.1, (if0 _ _).trans (flt q).2.2.2⟩
/-! small naturals as ints -/
theorem on_toInt {k : Nat} (h : k < 2147483648) : (Int32.ofNat k).toInt = (k : Int) := Int32.toInt_ofNat_of_lt h
theorem on_idx {k : Nat} (h : k < 2147483648) : (Int32.ofNat k).toNatClampNeg = k := by
  show (Int32.ofNat k).toInt.toNat = k
  rw [on_toInt h]; rfl
theorem on_nn {k : Nat} (h : k < 2147483648) : ¬ Int32.ofNat k < 0 := by
  rw [Int32.lt_iff_toInt_lt, on_toInt h]
  have : (0 : Int32).toInt = 0 := rfl
  omega
theorem on_lt {j k : Nat} (hj : j < 2147483648) (hk : k < 2147483648) : Int32.ofNat j < Int32.ofNat k ↔ j < k := by
  rw [Int32.lt_iff_toInt_lt, on_toInt hj, on_toInt hk]; omega
theorem on_inj {j k : Nat} (hj : j < 2147483648) (hk : k < 2147483648) : Int32.ofNat j = Int32.ofNat k ↔ j = k := by
  constructor
  · intro q
    have := congrArg Int32.toInt q
    rw [on_toInt hj, on_toInt hk] at this; omega
  · intro q; rw [q]
theorem on_add (j k : Nat) : Int32.ofNat j + Int32.ofNat k = Int32.ofNat (j + k) := (Int32.ofNat_add j k).symm
theorem on_succ (j : Nat) : Int32.ofNat j + (1 : Int32) = Int32.ofNat (j + 1) := on_add j 1
theorem on_sub {j k : Nat} (h : k ≤ j) : Int32.ofNat j - Int32.ofNat k = Int32.ofNat (j - k) := by
  have : Int32.ofNat j = Int32.ofNat (j - k) + Int32.ofNat k := by rw [on_add]; congr 1; omega
  rw [this]; simp
theorem on_sub1 {j : Nat} (h : 1 ≤ j) : Int32.ofNat j - (1 : Int32) = Int32.ofNat (j - 1) := on_sub (k := 1) h
theorem ol_toInt {k : Nat} (h : k < 9223372036854775808) : (Int64.ofNat k).toInt = (k : Int) := Int64.toInt_ofNat_of_lt h
theorem ol_eq {x : Int64} {k : Nat} (hk : k < 9223372036854775808) (h : x.toInt = k) : x = Int64.ofNat k := Int64.toInt_inj.mp (by rw [h, ol_toInt hk])
theorem on_eq {x : Int32} {k : Nat} (hk : k < 2147483648) (h : x.toInt = k) : x = Int32.ofNat k := Int32.toInt_inj.mp (by rw [h, on_toInt hk])
theorem ol_lt {j k : Nat} (hj : j < 9223372036854775808) (hk : k < 9223372036854775808) : Int64.ofNat j < Int64.ofNat k ↔ j < k := by
  rw [Int64.lt_iff_toInt_lt, ol_toInt hj, ol_toInt hk]; omega
theorem on_i2l {k : Nat} (h : k < 2147483648) : (Int32.ofNat k).toInt64 = Int64.ofNat k := ol_eq (by omega) (by rw [Jvm.Kit.i64_of_i32, on_toInt h])
theorem ol_add (j k : Nat) : Int64.ofNat j + Int64.ofNat k = Int64.ofNat (j + k) := (Int64.ofNat_add j k).symm
theorem ol_mul (j k : Nat) : Int64.ofNat j * Int64.ofNat k = Int64.ofNat (j * k) := (Int64.ofNat_mul j k).symm
def own_maxL (x y : Int64) : Int64 := if x < y then y else x
def own_minL (x y : Int64) : Int64 := if y < x then y else x
def own_st (n p : Nat) : Nat := n + (n - 1 - p) * (n - 1 - p + 1) / 2 + (p - (n - 1 - p)) * (n - 1 - p + 1) + min p (n - 1 - p) * (n - 1) + (n - 1)
def own_steps (n p : Nat) (b : Int32) : Nat := if b = 0 then n * n else own_st n p
def own_z (n q : Nat) (bz : Bool) (i : Nat) : Nat := if bz then n - i else if i ≤ q then q - i else min q (n - i)
def own_inc (n q : Nat) (bz : Bool) (i : Nat) : Nat := if own_z n q bz i < n - i then own_z n q bz i + 1 else n - 1
def own_tot (n q : Nat) (bz : Bool) : Nat → Nat
  | 0 => n
  | i + 1 => own_tot n q bz i + own_inc n q bz (i + 1)
set_option maxRecDepth 65536 in
theorem own_sum : ∀ n, n < 64 → ∀ p, p < n → own_tot n (n - 1 - p) true n = n * n ∧ own_tot n (n - 1 - p) false n = own_st n p := by decide +kernel
theorem own_mono {n q : Nat} {bz : Bool} {i j : Nat} (h : i ≤ j) : own_tot n q bz i ≤ own_tot n q bz j := by
  induction j with
  | zero => have : i = 0 := by omega
            subst this; exact Nat.le_refl _
  | succ j ih =>
    by_cases q1 : i = j + 1
    · subst q1; exact Nat.le_refl _
    · have := ih (by omega)
      simp only [own_tot]; omega
theorem own_inc_le {n q : Nat} {bz : Bool} {i : Nat} (hn : n < 64) (hq : q < n) : own_inc n q bz i ≤ 64 := by
  simp only [own_inc, own_z]; repeat' split
  all_goals omega
theorem own_tot_le {n q : Nat} {bz : Bool} (hn : n < 64) (hq : q < n) : ∀ i, own_tot n q bz i ≤ 64 + 64 * i
  | 0 => by simp only [own_tot]; omega
  | i + 1 => by
    have := own_tot_le (bz := bz) hn hq i
    have := own_inc_le (bz := bz) (i := i + 1) hn hq
    simp only [own_tot]; omega
def Mt (F : Nat → Int32) (n i k : Nat) : Prop := ∀ t, t < k → F (n - 1 - t) = F (n - 1 - (i + t))
def IsZ (F : Nat → Int32) (n i k : Nat) : Prop := i + k ≤ n ∧ Mt F n i k ∧ (i + k = n ∨ ¬ F (n - 1 - k) = F (n - 1 - (i + k)))
def own_f (p : Nat) (b : Int32) (j : Nat) : Int32 := if j = p then b else 0
theorem own_isz {n p i k : Nat} {b : Int32} (hp : p < n) (h1 : 1 ≤ i) (hi : i < n) (hk : IsZ (own_f p b) n i k) : k = own_z n (n - 1 - p) (decide (b = 0)) i := by
  obtain ⟨h2, h3, h4⟩ := hk
  have val : ∀ t, t < n → own_f p b (n - 1 - t) = if t = n - 1 - p then b else 0 := fun t ht => by
    simp only [own_f]
    by_cases q : t = n - 1 - p
    · have : n - 1 - t = p := by omega
      simp [q, this]; omega
    · have : ¬ n - 1 - t = p := by omega
      simp [q, this]
  by_cases hb : b = 0
  · subst hb
    have v0 : ∀ t, t < n → own_f p 0 (n - 1 - t) = 0 := fun t ht => by rw [val t ht]; split <;> rfl
    simp only [own_z, decide_true, if_true]
    rcases h4 with h4 | h4
    · omega
    · by_cases q : i + k = n
      · omega
      · exact absurd (by rw [v0 k (by omega), v0 (i + k) (by omega)]) h4
  · simp only [own_z, hb, decide_false, Bool.false_eq_true, if_false]
    have ne : ∀ t u, t < n → u < n → t = n - 1 - p → ¬ u = n - 1 - p → ¬ own_f p b (n - 1 - t) = own_f p b (n - 1 - u) := fun t u ht hu q1 q2 q => by
      rw [val t ht, val u hu, if_pos q1, if_neg q2] at q; exact hb q
    have ne' : ∀ t u, t < n → u < n → ¬ t = n - 1 - p → u = n - 1 - p → ¬ own_f p b (n - 1 - t) = own_f p b (n - 1 - u) := fun t u ht hu q1 q2 q => ne u t hu ht q2 q1 q.symm
    have eq0 : ∀ t u, t < n → u < n → ¬ t = n - 1 - p → ¬ u = n - 1 - p → own_f p b (n - 1 - t) = own_f p b (n - 1 - u) := fun t u ht hu q1 q2 => by
      rw [val t ht, val u hu, if_neg q1, if_neg q2]
    by_cases hq : i ≤ n - 1 - p
    · rw [if_pos hq]
      have a1 : ¬ n - 1 - p - i < k := fun q => ne' (n - 1 - p - i) (i + (n - 1 - p - i)) (by omega) (by omega) (by omega) (by omega) (h3 _ q)
      by_cases a2 : k < n - 1 - p - i
      · rcases h4 with h4 | h4
        · omega
        · exact absurd (eq0 k (i + k) (by omega) (by omega) (by omega) (by omega)) h4
      · omega
    · rw [if_neg hq]
      have a1 : ¬ n - 1 - p < k := fun q => ne (n - 1 - p) (i + (n - 1 - p)) (by omega) (by omega) rfl (by omega) (h3 _ q)
      by_cases a2 : k < n - 1 - p ∧ i + k < n
      · rcases h4 with h4 | h4
        · omega
        · exact absurd (eq0 k (i + k) (by omega) (by omega) (by omega) (by omega)) h4
      · omega
theorem Mt.more {F : Nat → Int32} {n i k : Nat} (h : Mt F n i k) (q : F (n - 1 - k) = F (n - 1 - (i + k))) : Mt F n i (k + 1) := fun t ht => by
  by_cases e : t = k
  · subst e; exact q
  · exact h t (by omega)
theorem Mt.win {F : Nat → Int32} {n l r i k k' : Nat} (h : Mt F n l (r - l)) (h' : Mt F n (i - l) k') (hl : l ≤ i) (hk : k ≤ k') (hr : k ≤ r - i) : Mt F n i k := fun t ht => by
  rw [h' t (by omega), h (i - l + t) (by omega)]
  congr 2; omega
theorem own_and63 (x : Int32) : ∃ n, n < 64 ∧ (x &&& (63 : Int32)) = Int32.ofNat n := by
  have e1 : (x &&& 63).toInt = x.toInt % 2 ^ 6 := Jvm.Kit.i32_mask x 63 (k := 6) (by decide) (by decide)
  refine ⟨(x.toInt % 2 ^ 6).toNat, by omega, on_eq (by omega) (by rw [e1]; omega)⟩
theorem own_p (x : Int32) {n : Nat} (hn : n < 64) (h0 : 0 < n) : ∃ p, p < n ∧ ((x &&& (2147483647 : Int32)) - ((x &&& (2147483647 : Int32)) / Int32.ofNat n) * Int32.ofNat n) = Int32.ofNat p := by
  have e1 : (x &&& 2147483647).toInt = x.toInt % 2 ^ 31 := Jvm.Kit.i32_mask x 2147483647 (k := 31) (by decide) (by decide)
  have e2 := rem_toInt (x &&& 2147483647) (Int32.ofNat n)
  rw [e1, on_toInt (by omega), Int.tmod_eq_emod_of_nonneg (by omega)] at e2
  have h1 := Int.emod_nonneg (x.toInt % 2 ^ 31) (show (n : Int) ≠ 0 by omega)
  have h2 := Int.emod_lt_of_pos (x.toInt % 2 ^ 31) (show (0 : Int) < n by omega)
  refine ⟨(x.toInt % 2 ^ 31 % (n : Int)).toNat, by omega, on_eq (by omega) ?_⟩
  rw [e2]; omega
set_option maxRecDepth 65536 in
theorem own_q : ∀ n, n < 64 → ∀ p, p < n → ((Int64.ofNat n - (1 : Int64)) - Int64.ofNat p) = Int64.ofNat (n - 1 - p) := by decide +kernel
theorem own_minN {x y : Nat} (hx : x < 2147483648) (hy : y < 2147483648) : (if Int32.ofNat y < Int32.ofNat x then Int32.ofNat y else Int32.ofNat x) = Int32.ofNat (min x y) := by
  by_cases q : y < x
  · rw [if_pos ((on_lt hy hx).mpr q), Nat.min_eq_right (by omega)]
  · rw [if_neg (fun z => q ((on_lt hy hx).mp z)), Nat.min_eq_left (by omega)]
theorem own_steps_le {n p : Nat} {b : Int32} (hn : n < 64) (hp : p < n) : own_steps n p b ≤ 8192 := by
  have h := own_sum n hn p hp
  have h1 := own_tot_le (bz := true) hn (show n - 1 - p < n by omega) n
  have h2 := own_tot_le (bz := false) hn (show n - 1 - p < n by omega) n
  simp only [own_steps]; split
  · rw [h.1] at h1; omega
  · rw [h.2] at h2; omega
theorem own_stepsE {n p : Nat} {b : Int32} (hn : n < 64) (hp : p < n) : own_tot n (n - 1 - p) (decide (b = 0)) n = own_steps n p b := by
  have h := own_sum n hn p hp
  simp only [own_steps]
  by_cases q : b = 0
  · simp only [q, decide_true, if_true]; exact h.1
  · simp only [q, decide_false, if_false]; exact h.2
theorem ol_mul16 {n : Nat} : (16 : Int64) * Int64.ofNat n = Int64.ofNat (16 * n) := ol_mul 16 n
theorem own_zn {n q : Nat} {bz : Bool} (h : q < n) : own_z n q bz n = 0 := by
  simp only [own_z]
  repeat' split
  all_goals omega
theorem own_z64 {n q : Nat} {bz : Bool} (hn : n < 64) (h : q < n) (i : Nat) : own_z n q bz i ≤ 64 := by
  simp only [own_z]
  repeat' split
  all_goals omega
set_option maxRecDepth 65536 in
theorem own_stE : ∀ n, n < 64 → ∀ p', p' < n → (((((Int64.ofNat n) + (((Int64.ofNat (n - 1 - p')) * ((Int64.ofNat (n - 1 - p')) + (1 : Int64))) / (2 : Int64))) + ((own_maxL (0 : Int64) ((Int64.ofNat p') - (Int64.ofNat (n - 1 - p')))) * ((Int64.ofNat (n - 1 - p')) + (1 : Int64)))) + ((own_minL (Int64.ofNat p') (Int64.ofNat (n - 1 - p'))) * ((Int64.ofNat n) - (1 : Int64)))) + ((Int64.ofNat n) - (1 : Int64))) = Int64.ofNat (own_st n p') := by decide +kernel
theorem ef_0 (m : MethodId) (x0 : Int32) (x1 : Int32) (x2 : Int32) (x3 : Int32) : entryFrame m #[(.int x0), (.int x1), (.int x2), (.int x3)] maxLocals = mkF m 0 #[.val (.int x0), .val (.int x1), .val (.int x2), .val (.int x3), .unset, .unset, .unset, .unset, .unset] [] := by first | (simp [entryFrame, mkF, argsToLocals, Value.category, maxLocals]; done) | rfl
theorem ef_1 (m : MethodId) (x0 : Addr) : entryFrame m #[(.ref x0)] 9 = mkF m 0 #[.val (.ref x0), .unset, .unset, .unset, .unset, .unset, .unset, .unset, .unset] [] := by first | (simp [entryFrame, mkF, argsToLocals, Value.category]; done) | rfl
theorem ef_2 (m : MethodId) (x0 : Int32) (x1 : Int32) (x2 : Int32) : entryFrame m #[(.int x0), (.int x1), (.int x2)] 9 = mkF m 0 #[.val (.int x0), .val (.int x1), .val (.int x2), .unset, .unset, .unset, .unset, .unset, .unset] [] := by first | (simp [entryFrame, mkF, argsToLocals, Value.category]; done) | rfl
theorem ef_3 (m : MethodId) (x0 : Int64) (x1 : Int64) : entryFrame m #[(.long x0), (.long x1)] 4 = mkF m 0 #[.val (.long x0), .second, .val (.long x1), .second] [] := by first | (simp [entryFrame, mkF, argsToLocals, Value.category]; done) | rfl
theorem ef_4 (m : MethodId) (x0 : Int64) (x1 : Int64) : entryFrame m #[(.long x0), (.long x1)] 4 = mkF m 0 #[.val (.long x0), .second, .val (.long x1), .second] [] := by first | (simp [entryFrame, mkF, argsToLocals, Value.category]; done) | rfl
theorem ef_5 (m : MethodId) (x0 : Addr) : entryFrame m #[(.ref x0)] 7 = mkF m 0 #[.val (.ref x0), .unset, .unset, .unset, .unset, .unset, .unset] [] := by first | (simp [entryFrame, mkF, argsToLocals, Value.category]; done) | rfl
theorem ef_6 (m : MethodId) (x0 : Int32) (x1 : Int32) : entryFrame m #[(.int x0), (.int x1)] 2 = mkF m 0 #[.val (.int x0), .val (.int x1)] [] := by first | (simp [entryFrame, mkF, argsToLocals, Value.category]; done) | rfl
theorem pd_0 : parseMethodDescriptor "(II)I" = some ⟨[.int, .int], some .int⟩ := by decide +kernel
theorem pd_1 : parseMethodDescriptor "(III)J" = some ⟨[.int, .int, .int], some .long⟩ := by decide +kernel
theorem pd_2 : parseMethodDescriptor "(JJ)J" = some ⟨[.long, .long], some .long⟩ := by decide +kernel
theorem pd_3 : parseMethodDescriptor "([I)Z" = some ⟨[(.array .int)], some .boolean⟩ := by decide +kernel
theorem pd_4 : parseMethodDescriptor "([I)[I" = some ⟨[(.array .int)], some (.array .int)⟩ := by decide +kernel
theorem pn_com_example_switchback_switchback_expression_LiteralSearch : plainName "com/example/switchback/switchback/expression/LiteralSearch" = true := by first | (simp [plainName, overriddenIn]; done) | decide +kernel
theorem pn_com_example_switchback_switchback_expression_LiteralSearchIsCheapPinLaw : plainName "com/example/switchback/switchback/expression/LiteralSearchIsCheapPinLaw" = true := by first | (simp [plainName, overriddenIn]; done) | decide +kernel
theorem d1_0 : decode prog_27_method_2_code 0 = .ok (.aload_n 0, 1) := by decide +kernel
theorem d1_1 : decode prog_27_method_2_code 1 = .ok (.arraylength, 1) := by decide +kernel
theorem d1_10 : decode prog_27_method_2_code 10 = .ok (.aload_n 0, 1) := by decide +kernel
theorem d1_11 : decode prog_27_method_2_code 11 = .ok (.invokestatic 9, 3) := by decide +kernel
theorem d1_14 : decode prog_27_method_2_code 14 = .ok (.astore_n 2, 1) := by decide +kernel
theorem d1_15 : decode prog_27_method_2_code 15 = .ok (.ldc2_w 13, 3) := by decide +kernel
theorem d1_18 : decode prog_27_method_2_code 18 = .ok (.iload_n 1, 1) := by decide +kernel
theorem d1_19 : decode prog_27_method_2_code 19 = .ok (.i2l, 1) := by decide +kernel
theorem d1_2 : decode prog_27_method_2_code 2 = .ok (.istore_n 1, 1) := by decide +kernel
theorem d1_20 : decode prog_27_method_2_code 20 = .ok (.lmul, 1) := by decide +kernel
theorem d1_21 : decode prog_27_method_2_code 21 = .ok (.lstore_n 3, 1) := by decide +kernel
theorem d1_22 : decode prog_27_method_2_code 22 = .ok (.iload_n 1, 1) := by decide +kernel
theorem d1_23 : decode prog_27_method_2_code 23 = .ok (.i2l, 1) := by decide +kernel
theorem d1_24 : decode prog_27_method_2_code 24 = .ok (.lstore 5, 2) := by decide +kernel
theorem d1_26 : decode prog_27_method_2_code 26 = .ok (.iconst 1, 1) := by decide +kernel
theorem d1_27 : decode prog_27_method_2_code 27 = .ok (.istore 7, 2) := by decide +kernel
theorem d1_29 : decode prog_27_method_2_code 29 = .ok (.iload 7, 2) := by decide +kernel
theorem d1_3 : decode prog_27_method_2_code 3 = .ok (.iload_n 1, 1) := by decide +kernel
theorem d1_31 : decode prog_27_method_2_code 31 = .ok (.iload_n 1, 1) := by decide +kernel
theorem d1_32 : decode prog_27_method_2_code 32 = .ok (.if_icmp .gt 50, 3) := by decide +kernel
theorem d1_35 : decode prog_27_method_2_code 35 = .ok (.lload 5, 2) := by decide +kernel
theorem d1_37 : decode prog_27_method_2_code 37 = .ok (.lload_n 3, 1) := by decide +kernel
theorem d1_38 : decode prog_27_method_2_code 38 = .ok (.lcmp, 1) := by decide +kernel
theorem d1_39 : decode prog_27_method_2_code 39 = .ok (.ifCond .gt 43, 3) := by decide +kernel
theorem d1_4 : decode prog_27_method_2_code 4 = .ok (.iconst 4, 1) := by decide +kernel
theorem d1_42 : decode prog_27_method_2_code 42 = .ok (.iload_n 1, 1) := by decide +kernel
theorem d1_43 : decode prog_27_method_2_code 43 = .ok (.iload 7, 2) := by decide +kernel
theorem d1_45 : decode prog_27_method_2_code 45 = .ok (.isub, 1) := by decide +kernel
theorem d1_46 : decode prog_27_method_2_code 46 = .ok (.istore 8, 2) := by decide +kernel
theorem d1_48 : decode prog_27_method_2_code 48 = .ok (.lload 5, 2) := by decide +kernel
theorem d1_5 : decode prog_27_method_2_code 5 = .ok (.if_icmp .ge 5, 3) := by decide +kernel
theorem d1_50 : decode prog_27_method_2_code 50 = .ok (.aload_n 2, 1) := by decide +kernel
theorem d1_51 : decode prog_27_method_2_code 51 = .ok (.iload 7, 2) := by decide +kernel
theorem d1_53 : decode prog_27_method_2_code 53 = .ok (.iaload, 1) := by decide +kernel
theorem d1_54 : decode prog_27_method_2_code 54 = .ok (.iload 8, 2) := by decide +kernel
theorem d1_56 : decode prog_27_method_2_code 56 = .ok (.if_icmp .lt 10, 3) := by decide +kernel
theorem d1_59 : decode prog_27_method_2_code 59 = .ok (.iload_n 1, 1) := by decide +kernel
theorem d1_60 : decode prog_27_method_2_code 60 = .ok (.iconst 1, 1) := by decide +kernel
theorem d1_61 : decode prog_27_method_2_code 61 = .ok (.isub, 1) := by decide +kernel
theorem d1_62 : decode prog_27_method_2_code 62 = .ok (.i2l, 1) := by decide +kernel
theorem d1_63 : decode prog_27_method_2_code 63 = .ok (.goto 10, 3) := by decide +kernel
theorem d1_66 : decode prog_27_method_2_code 66 = .ok (.aload_n 2, 1) := by decide +kernel
theorem d1_67 : decode prog_27_method_2_code 67 = .ok (.iload 7, 2) := by decide +kernel
theorem d1_69 : decode prog_27_method_2_code 69 = .ok (.iaload, 1) := by decide +kernel
theorem d1_70 : decode prog_27_method_2_code 70 = .ok (.iconst 1, 1) := by decide +kernel
theorem d1_71 : decode prog_27_method_2_code 71 = .ok (.iadd, 1) := by decide +kernel
theorem d1_72 : decode prog_27_method_2_code 72 = .ok (.i2l, 1) := by decide +kernel
theorem d1_73 : decode prog_27_method_2_code 73 = .ok (.ladd, 1) := by decide +kernel
theorem d1_74 : decode prog_27_method_2_code 74 = .ok (.lstore 5, 2) := by decide +kernel
theorem d1_76 : decode prog_27_method_2_code 76 = .ok (.iinc 7 1, 3) := by decide +kernel
theorem d1_79 : decode prog_27_method_2_code 79 = .ok (.goto (-50), 3) := by decide +kernel
theorem d1_8 : decode prog_27_method_2_code 8 = .ok (.iconst 1, 1) := by decide +kernel
theorem d1_82 : decode prog_27_method_2_code 82 = .ok (.lload 5, 2) := by decide +kernel
theorem d1_84 : decode prog_27_method_2_code 84 = .ok (.lload_n 3, 1) := by decide +kernel
theorem d1_85 : decode prog_27_method_2_code 85 = .ok (.lcmp, 1) := by decide +kernel
theorem d1_86 : decode prog_27_method_2_code 86 = .ok (.ifCond .gt 7, 3) := by decide +kernel
theorem d1_89 : decode prog_27_method_2_code 89 = .ok (.iconst 1, 1) := by decide +kernel
theorem d1_9 : decode prog_27_method_2_code 9 = .ok (.ireturn, 1) := by decide +kernel
theorem d1_90 : decode prog_27_method_2_code 90 = .ok (.goto 4, 3) := by decide +kernel
theorem d1_93 : decode prog_27_method_2_code 93 = .ok (.iconst 0, 1) := by decide +kernel
theorem d1_94 : decode prog_27_method_2_code 94 = .ok (.ireturn, 1) := by decide +kernel
theorem d2_0 : decode method_3_code 0 = .ok (.iload_n 0, 1) := by decide +kernel
theorem d2_1 : decode method_3_code 1 = .ok (.i2l, 1) := by decide +kernel
theorem d2_10 : decode method_3_code 10 = .ok (.lreturn, 1) := by decide +kernel
theorem d2_11 : decode method_3_code 11 = .ok (.iload_n 1, 1) := by decide +kernel
theorem d2_12 : decode method_3_code 12 = .ok (.i2l, 1) := by decide +kernel
theorem d2_13 : decode method_3_code 13 = .ok (.lstore 5, 2) := by decide +kernel
theorem d2_15 : decode method_3_code 15 = .ok (.lload_n 3, 1) := by decide +kernel
theorem d2_16 : decode method_3_code 16 = .ok (.lconst 1, 1) := by decide +kernel
theorem d2_17 : decode method_3_code 17 = .ok (.lsub, 1) := by decide +kernel
theorem d2_18 : decode method_3_code 18 = .ok (.lload 5, 2) := by decide +kernel
theorem d2_2 : decode method_3_code 2 = .ok (.lstore_n 3, 1) := by decide +kernel
theorem d2_20 : decode method_3_code 20 = .ok (.lsub, 1) := by decide +kernel
theorem d2_21 : decode method_3_code 21 = .ok (.lstore 7, 2) := by decide +kernel
theorem d2_23 : decode method_3_code 23 = .ok (.lload_n 3, 1) := by decide +kernel
theorem d2_24 : decode method_3_code 24 = .ok (.lload 7, 2) := by decide +kernel
theorem d2_26 : decode method_3_code 26 = .ok (.lload 7, 2) := by decide +kernel
theorem d2_28 : decode method_3_code 28 = .ok (.lconst 1, 1) := by decide +kernel
theorem d2_29 : decode method_3_code 29 = .ok (.ladd, 1) := by decide +kernel
theorem d2_3 : decode method_3_code 3 = .ok (.iload_n 2, 1) := by decide +kernel
theorem d2_30 : decode method_3_code 30 = .ok (.lmul, 1) := by decide +kernel
theorem d2_31 : decode method_3_code 31 = .ok (.ldc2_w 22, 3) := by decide +kernel
theorem d2_34 : decode method_3_code 34 = .ok (.ldiv, 1) := by decide +kernel
theorem d2_35 : decode method_3_code 35 = .ok (.ladd, 1) := by decide +kernel
theorem d2_36 : decode method_3_code 36 = .ok (.lconst 0, 1) := by decide +kernel
theorem d2_37 : decode method_3_code 37 = .ok (.lload 5, 2) := by decide +kernel
theorem d2_39 : decode method_3_code 39 = .ok (.lload 7, 2) := by decide +kernel
theorem d2_4 : decode method_3_code 4 = .ok (.ifCond .ne 7, 3) := by decide +kernel
theorem d2_41 : decode method_3_code 41 = .ok (.lsub, 1) := by decide +kernel
theorem d2_42 : decode method_3_code 42 = .ok (.invokestatic 24, 3) := by decide +kernel
theorem d2_45 : decode method_3_code 45 = .ok (.lload 7, 2) := by decide +kernel
theorem d2_47 : decode method_3_code 47 = .ok (.lconst 1, 1) := by decide +kernel
theorem d2_48 : decode method_3_code 48 = .ok (.ladd, 1) := by decide +kernel
theorem d2_49 : decode method_3_code 49 = .ok (.lmul, 1) := by decide +kernel
theorem d2_50 : decode method_3_code 50 = .ok (.ladd, 1) := by decide +kernel
theorem d2_51 : decode method_3_code 51 = .ok (.lload 5, 2) := by decide +kernel
theorem d2_53 : decode method_3_code 53 = .ok (.lload 7, 2) := by decide +kernel
theorem d2_55 : decode method_3_code 55 = .ok (.invokestatic 30, 3) := by decide +kernel
theorem d2_58 : decode method_3_code 58 = .ok (.lload_n 3, 1) := by decide +kernel
theorem d2_59 : decode method_3_code 59 = .ok (.lconst 1, 1) := by decide +kernel
theorem d2_60 : decode method_3_code 60 = .ok (.lsub, 1) := by decide +kernel
theorem d2_61 : decode method_3_code 61 = .ok (.lmul, 1) := by decide +kernel
theorem d2_62 : decode method_3_code 62 = .ok (.ladd, 1) := by decide +kernel
theorem d2_63 : decode method_3_code 63 = .ok (.lload_n 3, 1) := by decide +kernel
theorem d2_64 : decode method_3_code 64 = .ok (.lconst 1, 1) := by decide +kernel
theorem d2_65 : decode method_3_code 65 = .ok (.lsub, 1) := by decide +kernel
theorem d2_66 : decode method_3_code 66 = .ok (.ladd, 1) := by decide +kernel
theorem d2_67 : decode method_3_code 67 = .ok (.lreturn, 1) := by decide +kernel
theorem d2_7 : decode method_3_code 7 = .ok (.lload_n 3, 1) := by decide +kernel
theorem d2_8 : decode method_3_code 8 = .ok (.lload_n 3, 1) := by decide +kernel
theorem d2_9 : decode method_3_code 9 = .ok (.lmul, 1) := by decide +kernel
theorem d3_0 : decode jdk_29_method_66_code 0 = .ok (.lload_n 0, 1) := by decide +kernel
theorem d3_1 : decode jdk_29_method_66_code 1 = .ok (.lload_n 2, 1) := by decide +kernel
theorem d3_10 : decode jdk_29_method_66_code 10 = .ok (.lload_n 2, 1) := by decide +kernel
theorem d3_11 : decode jdk_29_method_66_code 11 = .ok (.lreturn, 1) := by decide +kernel
theorem d3_2 : decode jdk_29_method_66_code 2 = .ok (.lcmp, 1) := by decide +kernel
theorem d3_3 : decode jdk_29_method_66_code 3 = .ok (.ifCond .lt 7, 3) := by decide +kernel
theorem d3_6 : decode jdk_29_method_66_code 6 = .ok (.lload_n 0, 1) := by decide +kernel
theorem d3_7 : decode jdk_29_method_66_code 7 = .ok (.goto 4, 3) := by decide +kernel
theorem d4_0 : decode jdk_29_method_70_code 0 = .ok (.lload_n 0, 1) := by decide +kernel
theorem d4_1 : decode jdk_29_method_70_code 1 = .ok (.lload_n 2, 1) := by decide +kernel
theorem d4_10 : decode jdk_29_method_70_code 10 = .ok (.lload_n 2, 1) := by decide +kernel
theorem d4_11 : decode jdk_29_method_70_code 11 = .ok (.lreturn, 1) := by decide +kernel
theorem d4_2 : decode jdk_29_method_70_code 2 = .ok (.lcmp, 1) := by decide +kernel
theorem d4_3 : decode jdk_29_method_70_code 3 = .ok (.ifCond .gt 7, 3) := by decide +kernel
theorem d4_6 : decode jdk_29_method_70_code 6 = .ok (.lload_n 0, 1) := by decide +kernel
theorem d4_7 : decode jdk_29_method_70_code 7 = .ok (.goto 4, 3) := by decide +kernel
theorem d5_0 : decode prog_27_method_3_code 0 = .ok (.aload_n 0, 1) := by decide +kernel
theorem d5_1 : decode prog_27_method_3_code 1 = .ok (.arraylength, 1) := by decide +kernel
theorem d5_10 : decode prog_27_method_3_code 10 = .ok (.iconst 0, 1) := by decide +kernel
theorem d5_101 : decode prog_27_method_3_code 101 = .ok (.iadd, 1) := by decide +kernel
theorem d5_102 : decode prog_27_method_3_code 102 = .ok (.iload 4, 2) := by decide +kernel
theorem d5_104 : decode prog_27_method_3_code 104 = .ok (.if_icmp .le 13, 3) := by decide +kernel
theorem d5_107 : decode prog_27_method_3_code 107 = .ok (.iload 5, 2) := by decide +kernel
theorem d5_109 : decode prog_27_method_3_code 109 = .ok (.istore_n 3, 1) := by decide +kernel
theorem d5_11 : decode prog_27_method_3_code 11 = .ok (.iload_n 1, 1) := by decide +kernel
theorem d5_110 : decode prog_27_method_3_code 110 = .ok (.iload 5, 2) := by decide +kernel
theorem d5_112 : decode prog_27_method_3_code 112 = .ok (.iload 6, 2) := by decide +kernel
theorem d5_114 : decode prog_27_method_3_code 114 = .ok (.iadd, 1) := by decide +kernel
theorem d5_115 : decode prog_27_method_3_code 115 = .ok (.istore 4, 2) := by decide +kernel
theorem d5_117 : decode prog_27_method_3_code 117 = .ok (.iinc 5 1, 3) := by decide +kernel
theorem d5_12 : decode prog_27_method_3_code 12 = .ok (.iastore, 1) := by decide +kernel
theorem d5_120 : decode prog_27_method_3_code 120 = .ok (.goto (-99), 3) := by decide +kernel
theorem d5_123 : decode prog_27_method_3_code 123 = .ok (.aload_n 2, 1) := by decide +kernel
theorem d5_124 : decode prog_27_method_3_code 124 = .ok (.areturn, 1) := by decide +kernel
theorem d5_13 : decode prog_27_method_3_code 13 = .ok (.iconst 0, 1) := by decide +kernel
theorem d5_14 : decode prog_27_method_3_code 14 = .ok (.istore_n 3, 1) := by decide +kernel
theorem d5_15 : decode prog_27_method_3_code 15 = .ok (.iconst 0, 1) := by decide +kernel
theorem d5_16 : decode prog_27_method_3_code 16 = .ok (.istore 4, 2) := by decide +kernel
theorem d5_18 : decode prog_27_method_3_code 18 = .ok (.iconst 1, 1) := by decide +kernel
theorem d5_19 : decode prog_27_method_3_code 19 = .ok (.istore 5, 2) := by decide +kernel
theorem d5_2 : decode prog_27_method_3_code 2 = .ok (.istore_n 1, 1) := by decide +kernel
theorem d5_21 : decode prog_27_method_3_code 21 = .ok (.iload 5, 2) := by decide +kernel
theorem d5_23 : decode prog_27_method_3_code 23 = .ok (.iload_n 1, 1) := by decide +kernel
theorem d5_24 : decode prog_27_method_3_code 24 = .ok (.if_icmp .ge 99, 3) := by decide +kernel
theorem d5_27 : decode prog_27_method_3_code 27 = .ok (.iload 5, 2) := by decide +kernel
theorem d5_29 : decode prog_27_method_3_code 29 = .ok (.iload 4, 2) := by decide +kernel
theorem d5_3 : decode prog_27_method_3_code 3 = .ok (.iload_n 1, 1) := by decide +kernel
theorem d5_31 : decode prog_27_method_3_code 31 = .ok (.if_icmp .ge 20, 3) := by decide +kernel
theorem d5_34 : decode prog_27_method_3_code 34 = .ok (.iload 4, 2) := by decide +kernel
theorem d5_36 : decode prog_27_method_3_code 36 = .ok (.iload 5, 2) := by decide +kernel
theorem d5_38 : decode prog_27_method_3_code 38 = .ok (.isub, 1) := by decide +kernel
theorem d5_39 : decode prog_27_method_3_code 39 = .ok (.aload_n 2, 1) := by decide +kernel
theorem d5_4 : decode prog_27_method_3_code 4 = .ok (.iconst 1, 1) := by decide +kernel
theorem d5_40 : decode prog_27_method_3_code 40 = .ok (.iload 5, 2) := by decide +kernel
theorem d5_42 : decode prog_27_method_3_code 42 = .ok (.iload_n 3, 1) := by decide +kernel
theorem d5_43 : decode prog_27_method_3_code 43 = .ok (.isub, 1) := by decide +kernel
theorem d5_44 : decode prog_27_method_3_code 44 = .ok (.iaload, 1) := by decide +kernel
theorem d5_45 : decode prog_27_method_3_code 45 = .ok (.invokestatic 15, 3) := by decide +kernel
theorem d5_48 : decode prog_27_method_3_code 48 = .ok (.goto 4, 3) := by decide +kernel
theorem d5_5 : decode prog_27_method_3_code 5 = .ok (.iadd, 1) := by decide +kernel
theorem d5_51 : decode prog_27_method_3_code 51 = .ok (.iconst 0, 1) := by decide +kernel
theorem d5_52 : decode prog_27_method_3_code 52 = .ok (.istore 6, 2) := by decide +kernel
theorem d5_54 : decode prog_27_method_3_code 54 = .ok (.iload 5, 2) := by decide +kernel
theorem d5_56 : decode prog_27_method_3_code 56 = .ok (.iload 6, 2) := by decide +kernel
theorem d5_58 : decode prog_27_method_3_code 58 = .ok (.iadd, 1) := by decide +kernel
theorem d5_59 : decode prog_27_method_3_code 59 = .ok (.iload_n 1, 1) := by decide +kernel
theorem d5_6 : decode prog_27_method_3_code 6 = .ok (.newarray .int, 2) := by decide +kernel
theorem d5_60 : decode prog_27_method_3_code 60 = .ok (.if_icmp .ge 31, 3) := by decide +kernel
theorem d5_63 : decode prog_27_method_3_code 63 = .ok (.aload_n 0, 1) := by decide +kernel
theorem d5_64 : decode prog_27_method_3_code 64 = .ok (.iload_n 1, 1) := by decide +kernel
theorem d5_65 : decode prog_27_method_3_code 65 = .ok (.iconst 1, 1) := by decide +kernel
theorem d5_66 : decode prog_27_method_3_code 66 = .ok (.isub, 1) := by decide +kernel
theorem d5_67 : decode prog_27_method_3_code 67 = .ok (.iload 6, 2) := by decide +kernel
theorem d5_69 : decode prog_27_method_3_code 69 = .ok (.isub, 1) := by decide +kernel
theorem d5_70 : decode prog_27_method_3_code 70 = .ok (.iaload, 1) := by decide +kernel
theorem d5_71 : decode prog_27_method_3_code 71 = .ok (.aload_n 0, 1) := by decide +kernel
theorem d5_72 : decode prog_27_method_3_code 72 = .ok (.iload_n 1, 1) := by decide +kernel
theorem d5_73 : decode prog_27_method_3_code 73 = .ok (.iconst 1, 1) := by decide +kernel
theorem d5_74 : decode prog_27_method_3_code 74 = .ok (.isub, 1) := by decide +kernel
theorem d5_75 : decode prog_27_method_3_code 75 = .ok (.iload 5, 2) := by decide +kernel
theorem d5_77 : decode prog_27_method_3_code 77 = .ok (.isub, 1) := by decide +kernel
theorem d5_78 : decode prog_27_method_3_code 78 = .ok (.iload 6, 2) := by decide +kernel
theorem d5_8 : decode prog_27_method_3_code 8 = .ok (.astore_n 2, 1) := by decide +kernel
theorem d5_80 : decode prog_27_method_3_code 80 = .ok (.isub, 1) := by decide +kernel
theorem d5_81 : decode prog_27_method_3_code 81 = .ok (.iaload, 1) := by decide +kernel
theorem d5_82 : decode prog_27_method_3_code 82 = .ok (.if_icmp .ne 9, 3) := by decide +kernel
theorem d5_85 : decode prog_27_method_3_code 85 = .ok (.iinc 6 1, 3) := by decide +kernel
theorem d5_88 : decode prog_27_method_3_code 88 = .ok (.goto (-34), 3) := by decide +kernel
theorem d5_9 : decode prog_27_method_3_code 9 = .ok (.aload_n 2, 1) := by decide +kernel
theorem d5_91 : decode prog_27_method_3_code 91 = .ok (.aload_n 2, 1) := by decide +kernel
theorem d5_92 : decode prog_27_method_3_code 92 = .ok (.iload 5, 2) := by decide +kernel
theorem d5_94 : decode prog_27_method_3_code 94 = .ok (.iload 6, 2) := by decide +kernel
theorem d5_96 : decode prog_27_method_3_code 96 = .ok (.iastore, 1) := by decide +kernel
theorem d5_97 : decode prog_27_method_3_code 97 = .ok (.iload 5, 2) := by decide +kernel
theorem d5_99 : decode prog_27_method_3_code 99 = .ok (.iload 6, 2) := by decide +kernel
theorem d6_0 : decode jdk_29_method_69_code 0 = .ok (.iload_n 0, 1) := by decide +kernel
theorem d6_1 : decode jdk_29_method_69_code 1 = .ok (.iload_n 1, 1) := by decide +kernel
theorem d6_10 : decode jdk_29_method_69_code 10 = .ok (.ireturn, 1) := by decide +kernel
theorem d6_2 : decode jdk_29_method_69_code 2 = .ok (.if_icmp .gt 7, 3) := by decide +kernel
theorem d6_5 : decode jdk_29_method_69_code 5 = .ok (.iload_n 0, 1) := by decide +kernel
theorem d6_6 : decode jdk_29_method_69_code 6 = .ok (.goto 4, 3) := by decide +kernel
theorem d6_9 : decode jdk_29_method_69_code 9 = .ok (.iload_n 1, 1) := by decide +kernel
def Q3 (x y : Int64) (h0 : Heap) (n0 : Nat) (v : Option Value) (h : Heap) (L : List Loc) : Prop := v = some (.long (own_maxL x y)) ∧ Fr n0 L ∧ h = h0
set_option maxRecDepth 65536 in
set_option maxHeartbeats 40000000 in
theorem rm3 (l : Launch) (Z : State) (a0 : Array Value) (hw : ∀ d ∈ tables_1, d.before a0 Z = true) (ws : List Jvm.Cond) (x y : Int64) (h0 : Heap) (n0 : Nat) (Z0 : n0 ≤ h0.size)  :
    MetFree l (⟨"java/lang/Math", "max", "(JJ)J"⟩ : MethodName) (head1 (Jvm.Cond.code (⟨"java/lang/Math", "max", "(JJ)J"⟩ : MethodName) jdk_29_method_66_code 4 (some .long) :: ws) ({ frames := 0, cells := 0, slots := 0, locals := 0 } : Room)) (fun a_ U_ => a_ = #[(.long x), (.long y)] ∧ Z.Warmed39 U_.vm ∧ U_.heap = h0) (fun _ _ _ _ _ => True) (fun _ U_ o_ W_ => ∃ v_ L_, o_ = .returned v_ ∧ (Q3 x y h0 n0) v_ W_.heap L_ ∧ FrameEnd U_ o_ W_ L_ ({ frames := 0, cells := 0, slots := 0, locals := 0 } : Room).cells ({ frames := 0, cells := 0, slots := 0, locals := 0 } : Room).slots) := by
  refine MetFree.of_bodySF (Jvm.Free.JP.mathPlain rfl (by decide +kernel)) hisR ?_
  intro p e s m args below meth c s₁ Bd hml0 hP hK
  obtain ⟨rfl, hZ, hh⟩ := hP
  have hx := Bd.exec
  have hby := Bd.bytes
  have hml : c.maxLocals = 4 := hml0
  have hown : s.vm.findClass "java/lang/Math" = some m.cls := findClass_of_methodNamed Bd.named
  have hnm := (name_of_methodNamed Bd.named Bd.method).1
  have hlk : meth.locks = false := BodyLoose.notSynchronized Bd
  have X0 : Stand p l e ({ frames := 0, cells := 0, slots := 0, locals := 0 } : Room) s m #[(.long x), (.long y)] below meth c s₁ [] 0 0 := Stand.of_body Bd
  have e0 : s₁.heap = h0 := by rw [← hh, Bd.state]; rfl
  have N0 := Fr.nil n0
  refine Go.enter (ef_3 m x y) ?_
  show Go p e s below ({ frames := 0, cells := 0, slots := 0, locals := 0 } : Room).cells ({ frames := 0, cells := 0, slots := 0, locals := 0 } : Room).slots (Q3 x y h0 n0) s₁ (mkF m 0 #[.val (.long x), .second, .val (.long y), .second] [])
  refine Go.st (fun _ k_ => XS.lloadN X0.here hx rfl (hb hby d3_0) rfl k_) ?_
  show Go p e s below ({ frames := 0, cells := 0, slots := 0, locals := 0 } : Room).cells ({ frames := 0, cells := 0, slots := 0, locals := 0 } : Room).slots (Q3 x y h0 n0) s₁ (mkF m 1 #[.val (.long x), .second, .val (.long y), .second] [(.long x)])
  refine Go.st (fun _ k_ => XS.lloadN X0.here hx rfl (hb hby d3_1) rfl k_) ?_
  show Go p e s below ({ frames := 0, cells := 0, slots := 0, locals := 0 } : Room).cells ({ frames := 0, cells := 0, slots := 0, locals := 0 } : Room).slots (Q3 x y h0 n0) s₁ (mkF m 2 #[.val (.long x), .second, .val (.long y), .second] [(.long y), (.long x)])
  refine Go.st (fun _ k_ => XS.lcmp X0.here hx rfl (hb hby d3_2) rfl k_) ?_
  by_cases hq : x < y
  · skip
    show Go p e s below ({ frames := 0, cells := 0, slots := 0, locals := 0 } : Room).cells ({ frames := 0, cells := 0, slots := 0, locals := 0 } : Room).slots (Q3 x y h0 n0) s₁ (mkF m 3 #[.val (.long x), .second, .val (.long y), .second] [(.int (lcmpW x y))])
    refine Go.st (fun _ k_ => XS.ifYes X0.here hx rfl (pc0 := 3) (pc' := 10) rfl (hb hby d3_3) rfl (cl_lt hq).1 (by decide) (by decide) k_) ?_
    show Go p e s below ({ frames := 0, cells := 0, slots := 0, locals := 0 } : Room).cells ({ frames := 0, cells := 0, slots := 0, locals := 0 } : Room).slots (Q3 x y h0 n0) s₁ (mkF m 10 #[.val (.long x), .second, .val (.long y), .second] [])
    refine Go.st (fun _ k_ => XS.lloadN X0.here hx rfl (hb hby d3_10) rfl k_) ?_
    show Go p e s below ({ frames := 0, cells := 0, slots := 0, locals := 0 } : Room).cells ({ frames := 0, cells := 0, slots := 0, locals := 0 } : Room).slots (Q3 x y h0 n0) s₁ (mkF m 11 #[.val (.long x), .second, .val (.long y), .second] [(.long y)])
    exact Go.retJ X0 hx hlk Bd.returns (hb hby d3_11) (by decide) (by decide) ⟨by rw [own_maxL, if_pos hq], N0, e0⟩
  · skip
    show Go p e s below ({ frames := 0, cells := 0, slots := 0, locals := 0 } : Room).cells ({ frames := 0, cells := 0, slots := 0, locals := 0 } : Room).slots (Q3 x y h0 n0) s₁ (mkF m 3 #[.val (.long x), .second, .val (.long y), .second] [(.int (lcmpW x y))])
    refine Go.st (fun _ k_ => XS.ifNo X0.here hx rfl (hb hby d3_3) rfl (cl_ltF hq).1 k_) ?_
    show Go p e s below ({ frames := 0, cells := 0, slots := 0, locals := 0 } : Room).cells ({ frames := 0, cells := 0, slots := 0, locals := 0 } : Room).slots (Q3 x y h0 n0) s₁ (mkF m 6 #[.val (.long x), .second, .val (.long y), .second] [])
    refine Go.st (fun _ k_ => XS.lloadN X0.here hx rfl (hb hby d3_6) rfl k_) ?_
    show Go p e s below ({ frames := 0, cells := 0, slots := 0, locals := 0 } : Room).cells ({ frames := 0, cells := 0, slots := 0, locals := 0 } : Room).slots (Q3 x y h0 n0) s₁ (mkF m 7 #[.val (.long x), .second, .val (.long y), .second] [(.long x)])
    refine Go.st (fun _ k_ => XS.goto X0.here hx rfl (pc0 := 7) (pc' := 11) rfl (hb hby d3_7) (by decide) (by decide) k_) ?_
    show Go p e s below ({ frames := 0, cells := 0, slots := 0, locals := 0 } : Room).cells ({ frames := 0, cells := 0, slots := 0, locals := 0 } : Room).slots (Q3 x y h0 n0) s₁ (mkF m 11 #[.val (.long x), .second, .val (.long y), .second] [(.long x)])
    exact Go.retJ X0 hx hlk Bd.returns (hb hby d3_11) (by decide) (by decide) ⟨by rw [own_maxL, if_neg hq], N0, e0⟩
def Q4 (x y : Int64) (h0 : Heap) (n0 : Nat) (v : Option Value) (h : Heap) (L : List Loc) : Prop := v = some (.long (own_minL x y)) ∧ Fr n0 L ∧ h = h0
set_option maxRecDepth 65536 in
set_option maxHeartbeats 40000000 in
theorem rm4 (l : Launch) (Z : State) (a0 : Array Value) (hw : ∀ d ∈ tables_1, d.before a0 Z = true) (ws : List Jvm.Cond) (x y : Int64) (h0 : Heap) (n0 : Nat) (Z0 : n0 ≤ h0.size)  :
    MetFree l (⟨"java/lang/Math", "min", "(JJ)J"⟩ : MethodName) (head1 (Jvm.Cond.code (⟨"java/lang/Math", "min", "(JJ)J"⟩ : MethodName) jdk_29_method_70_code 4 (some .long) :: ws) ({ frames := 0, cells := 0, slots := 0, locals := 0 } : Room)) (fun a_ U_ => a_ = #[(.long x), (.long y)] ∧ Z.Warmed39 U_.vm ∧ U_.heap = h0) (fun _ _ _ _ _ => True) (fun _ U_ o_ W_ => ∃ v_ L_, o_ = .returned v_ ∧ (Q4 x y h0 n0) v_ W_.heap L_ ∧ FrameEnd U_ o_ W_ L_ ({ frames := 0, cells := 0, slots := 0, locals := 0 } : Room).cells ({ frames := 0, cells := 0, slots := 0, locals := 0 } : Room).slots) := by
  refine MetFree.of_bodySF (Jvm.Free.JP.mathPlain rfl (by decide +kernel)) hisR ?_
  intro p e s m args below meth c s₁ Bd hml0 hP hK
  obtain ⟨rfl, hZ, hh⟩ := hP
  have hx := Bd.exec
  have hby := Bd.bytes
  have hml : c.maxLocals = 4 := hml0
  have hown : s.vm.findClass "java/lang/Math" = some m.cls := findClass_of_methodNamed Bd.named
  have hnm := (name_of_methodNamed Bd.named Bd.method).1
  have hlk : meth.locks = false := BodyLoose.notSynchronized Bd
  have X0 : Stand p l e ({ frames := 0, cells := 0, slots := 0, locals := 0 } : Room) s m #[(.long x), (.long y)] below meth c s₁ [] 0 0 := Stand.of_body Bd
  have e0 : s₁.heap = h0 := by rw [← hh, Bd.state]; rfl
  have N0 := Fr.nil n0
  refine Go.enter (ef_4 m x y) ?_
  show Go p e s below ({ frames := 0, cells := 0, slots := 0, locals := 0 } : Room).cells ({ frames := 0, cells := 0, slots := 0, locals := 0 } : Room).slots (Q4 x y h0 n0) s₁ (mkF m 0 #[.val (.long x), .second, .val (.long y), .second] [])
  refine Go.st (fun _ k_ => XS.lloadN X0.here hx rfl (hb hby d4_0) rfl k_) ?_
  show Go p e s below ({ frames := 0, cells := 0, slots := 0, locals := 0 } : Room).cells ({ frames := 0, cells := 0, slots := 0, locals := 0 } : Room).slots (Q4 x y h0 n0) s₁ (mkF m 1 #[.val (.long x), .second, .val (.long y), .second] [(.long x)])
  refine Go.st (fun _ k_ => XS.lloadN X0.here hx rfl (hb hby d4_1) rfl k_) ?_
  show Go p e s below ({ frames := 0, cells := 0, slots := 0, locals := 0 } : Room).cells ({ frames := 0, cells := 0, slots := 0, locals := 0 } : Room).slots (Q4 x y h0 n0) s₁ (mkF m 2 #[.val (.long x), .second, .val (.long y), .second] [(.long y), (.long x)])
  refine Go.st (fun _ k_ => XS.lcmp X0.here hx rfl (hb hby d4_2) rfl k_) ?_
  by_cases hq : y < x
  · skip
    show Go p e s below ({ frames := 0, cells := 0, slots := 0, locals := 0 } : Room).cells ({ frames := 0, cells := 0, slots := 0, locals := 0 } : Room).slots (Q4 x y h0 n0) s₁ (mkF m 3 #[.val (.long x), .second, .val (.long y), .second] [(.int (lcmpW x y))])
    refine Go.st (fun _ k_ => XS.ifYes X0.here hx rfl (pc0 := 3) (pc' := 10) rfl (hb hby d4_3) rfl (cl_gt hq).1 (by decide) (by decide) k_) ?_
    show Go p e s below ({ frames := 0, cells := 0, slots := 0, locals := 0 } : Room).cells ({ frames := 0, cells := 0, slots := 0, locals := 0 } : Room).slots (Q4 x y h0 n0) s₁ (mkF m 10 #[.val (.long x), .second, .val (.long y), .second] [])
    refine Go.st (fun _ k_ => XS.lloadN X0.here hx rfl (hb hby d4_10) rfl k_) ?_
    show Go p e s below ({ frames := 0, cells := 0, slots := 0, locals := 0 } : Room).cells ({ frames := 0, cells := 0, slots := 0, locals := 0 } : Room).slots (Q4 x y h0 n0) s₁ (mkF m 11 #[.val (.long x), .second, .val (.long y), .second] [(.long y)])
    exact Go.retJ X0 hx hlk Bd.returns (hb hby d4_11) (by decide) (by decide) ⟨by rw [own_minL, if_pos hq], N0, e0⟩
  · skip
    show Go p e s below ({ frames := 0, cells := 0, slots := 0, locals := 0 } : Room).cells ({ frames := 0, cells := 0, slots := 0, locals := 0 } : Room).slots (Q4 x y h0 n0) s₁ (mkF m 3 #[.val (.long x), .second, .val (.long y), .second] [(.int (lcmpW x y))])
    refine Go.st (fun _ k_ => XS.ifNo X0.here hx rfl (hb hby d4_3) rfl (cl_gtF hq).1 k_) ?_
    show Go p e s below ({ frames := 0, cells := 0, slots := 0, locals := 0 } : Room).cells ({ frames := 0, cells := 0, slots := 0, locals := 0 } : Room).slots (Q4 x y h0 n0) s₁ (mkF m 6 #[.val (.long x), .second, .val (.long y), .second] [])
    refine Go.st (fun _ k_ => XS.lloadN X0.here hx rfl (hb hby d4_6) rfl k_) ?_
    show Go p e s below ({ frames := 0, cells := 0, slots := 0, locals := 0 } : Room).cells ({ frames := 0, cells := 0, slots := 0, locals := 0 } : Room).slots (Q4 x y h0 n0) s₁ (mkF m 7 #[.val (.long x), .second, .val (.long y), .second] [(.long x)])
    refine Go.st (fun _ k_ => XS.goto X0.here hx rfl (pc0 := 7) (pc' := 11) rfl (hb hby d4_7) (by decide) (by decide) k_) ?_
    show Go p e s below ({ frames := 0, cells := 0, slots := 0, locals := 0 } : Room).cells ({ frames := 0, cells := 0, slots := 0, locals := 0 } : Room).slots (Q4 x y h0 n0) s₁ (mkF m 11 #[.val (.long x), .second, .val (.long y), .second] [(.long x)])
    exact Go.retJ X0 hx hlk Bd.returns (hb hby d4_11) (by decide) (by decide) ⟨by rw [own_minL, if_neg hq], N0, e0⟩
def Q6 (x y : Int32) (h0 : Heap) (n0 : Nat) (v : Option Value) (h : Heap) (L : List Loc) : Prop := v = some (.int (if y < x then y else x)) ∧ Fr n0 L ∧ h = h0
set_option maxRecDepth 65536 in
set_option maxHeartbeats 40000000 in
theorem rm6 (l : Launch) (Z : State) (a0 : Array Value) (hw : ∀ d ∈ tables_1, d.before a0 Z = true) (ws : List Jvm.Cond) (x y : Int32) (h0 : Heap) (n0 : Nat) (Z0 : n0 ≤ h0.size)  :
    MetFree l (⟨"java/lang/Math", "min", "(II)I"⟩ : MethodName) (head1 (Jvm.Cond.code (⟨"java/lang/Math", "min", "(II)I"⟩ : MethodName) jdk_29_method_69_code 2 (some .int) :: ws) ({ frames := 0, cells := 0, slots := 0, locals := 0 } : Room)) (fun a_ U_ => a_ = #[(.int x), (.int y)] ∧ Z.Warmed39 U_.vm ∧ U_.heap = h0) (fun _ _ _ _ _ => True) (fun _ U_ o_ W_ => ∃ v_ L_, o_ = .returned v_ ∧ (Q6 x y h0 n0) v_ W_.heap L_ ∧ FrameEnd U_ o_ W_ L_ ({ frames := 0, cells := 0, slots := 0, locals := 0 } : Room).cells ({ frames := 0, cells := 0, slots := 0, locals := 0 } : Room).slots) := by
  refine MetFree.of_bodySF (Jvm.Free.JP.mathPlain rfl (by decide +kernel)) hisR ?_
  intro p e s m args below meth c s₁ Bd hml0 hP hK
  obtain ⟨rfl, hZ, hh⟩ := hP
  have hx := Bd.exec
  have hby := Bd.bytes
  have hml : c.maxLocals = 2 := hml0
  have hown : s.vm.findClass "java/lang/Math" = some m.cls := findClass_of_methodNamed Bd.named
  have hnm := (name_of_methodNamed Bd.named Bd.method).1
  have hlk : meth.locks = false := BodyLoose.notSynchronized Bd
  have X0 : Stand p l e ({ frames := 0, cells := 0, slots := 0, locals := 0 } : Room) s m #[(.int x), (.int y)] below meth c s₁ [] 0 0 := Stand.of_body Bd
  have e0 : s₁.heap = h0 := by rw [← hh, Bd.state]; rfl
  have N0 := Fr.nil n0
  refine Go.enter (ef_6 m x y) ?_
  show Go p e s below ({ frames := 0, cells := 0, slots := 0, locals := 0 } : Room).cells ({ frames := 0, cells := 0, slots := 0, locals := 0 } : Room).slots (Q6 x y h0 n0) s₁ (mkF m 0 #[.val (.int x), .val (.int y)] [])
  refine Go.st (fun _ k_ => XS.iloadN X0.here hx rfl (hb hby d6_0) rfl k_) ?_
  show Go p e s below ({ frames := 0, cells := 0, slots := 0, locals := 0 } : Room).cells ({ frames := 0, cells := 0, slots := 0, locals := 0 } : Room).slots (Q6 x y h0 n0) s₁ (mkF m 1 #[.val (.int x), .val (.int y)] [(.int x)])
  refine Go.st (fun _ k_ => XS.iloadN X0.here hx rfl (hb hby d6_1) rfl k_) ?_
  by_cases hq : y < x
  · skip
    show Go p e s below ({ frames := 0, cells := 0, slots := 0, locals := 0 } : Room).cells ({ frames := 0, cells := 0, slots := 0, locals := 0 } : Room).slots (Q6 x y h0 n0) s₁ (mkF m 2 #[.val (.int x), .val (.int y)] [(.int y), (.int x)])
    refine Go.st (fun _ k_ => XS.icmpYes X0.here hx rfl (pc0 := 2) (pc' := 9) rfl (hb hby d6_2) rfl (tlt hq).2.2.1 (by decide) (by decide) k_) ?_
    show Go p e s below ({ frames := 0, cells := 0, slots := 0, locals := 0 } : Room).cells ({ frames := 0, cells := 0, slots := 0, locals := 0 } : Room).slots (Q6 x y h0 n0) s₁ (mkF m 9 #[.val (.int x), .val (.int y)] [])
    refine Go.st (fun _ k_ => XS.iloadN X0.here hx rfl (hb hby d6_9) rfl k_) ?_
    show Go p e s below ({ frames := 0, cells := 0, slots := 0, locals := 0 } : Room).cells ({ frames := 0, cells := 0, slots := 0, locals := 0 } : Room).slots (Q6 x y h0 n0) s₁ (mkF m 10 #[.val (.int x), .val (.int y)] [(.int y)])
    exact Go.retI X0 hx hlk Bd.returns (hb hby d6_10) (by decide) (by decide) ⟨by rw [if_pos hq], N0, e0⟩
  · skip
    show Go p e s below ({ frames := 0, cells := 0, slots := 0, locals := 0 } : Room).cells ({ frames := 0, cells := 0, slots := 0, locals := 0 } : Room).slots (Q6 x y h0 n0) s₁ (mkF m 2 #[.val (.int x), .val (.int y)] [(.int y), (.int x)])
    refine Go.st (fun _ k_ => XS.icmpNo X0.here hx rfl (hb hby d6_2) rfl (flt hq).2.2.1 k_) ?_
    show Go p e s below ({ frames := 0, cells := 0, slots := 0, locals := 0 } : Room).cells ({ frames := 0, cells := 0, slots := 0, locals := 0 } : Room).slots (Q6 x y h0 n0) s₁ (mkF m 5 #[.val (.int x), .val (.int y)] [])
    refine Go.st (fun _ k_ => XS.iloadN X0.here hx rfl (hb hby d6_5) rfl k_) ?_
    show Go p e s below ({ frames := 0, cells := 0, slots := 0, locals := 0 } : Room).cells ({ frames := 0, cells := 0, slots := 0, locals := 0 } : Room).slots (Q6 x y h0 n0) s₁ (mkF m 6 #[.val (.int x), .val (.int y)] [(.int x)])
    refine Go.st (fun _ k_ => XS.goto X0.here hx rfl (pc0 := 6) (pc' := 10) rfl (hb hby d6_6) (by decide) (by decide) k_) ?_
    show Go p e s below ({ frames := 0, cells := 0, slots := 0, locals := 0 } : Room).cells ({ frames := 0, cells := 0, slots := 0, locals := 0 } : Room).slots (Q6 x y h0 n0) s₁ (mkF m 10 #[.val (.int x), .val (.int y)] [(.int x)])
    exact Go.retI X0 hx hlk Bd.returns (hb hby d6_10) (by decide) (by decide) ⟨by rw [if_neg hq], N0, e0⟩
def Q2 (n p : Nat) (b : Int32) (h0 : Heap) (n0 : Nat) (v : Option Value) (h : Heap) (L : List Loc) : Prop := v = some (.long (Int64.ofNat (own_steps n p b))) ∧ Fr n0 L ∧ h = h0
set_option maxRecDepth 65536 in
set_option maxHeartbeats 40000000 in
theorem rm2 (l : Launch) (Z : State) (a0 : Array Value) (hw : ∀ d ∈ tables_1, d.before a0 Z = true) (ws : List Jvm.Cond) (n p' : Nat) (b : Int32) (h0 : Heap) (n0 : Nat) (Z0 : n0 ≤ h0.size) (hn : n < 64) (hp : p' < n) :
    MetFree l (⟨"com/example/switchback/switchback/expression/LiteralSearchIsCheapPinLaw", "steps", "(III)J"⟩ : MethodName) (head1 (Jvm.Cond.code (⟨"com/example/switchback/switchback/expression/LiteralSearchIsCheapPinLaw", "steps", "(III)J"⟩ : MethodName) method_3_code 9 (some .long) :: ws) ({ frames := 1, cells := 0, slots := 0, locals := 17 } : Room)) (fun a_ U_ => a_ = #[(.int (Int32.ofNat n)), (.int (Int32.ofNat p')), (.int b)] ∧ Z.Warmed39 U_.vm ∧ U_.heap = h0) (fun _ _ _ _ _ => True) (fun _ U_ o_ W_ => ∃ v_ L_, o_ = .returned v_ ∧ (Q2 n p' b h0 n0) v_ W_.heap L_ ∧ FrameEnd U_ o_ W_ L_ ({ frames := 1, cells := 0, slots := 0, locals := 17 } : Room).cells ({ frames := 1, cells := 0, slots := 0, locals := 17 } : Room).slots) := by
  refine MetFree.of_bodySF (plainFor_of_name pn_com_example_switchback_switchback_expression_LiteralSearchIsCheapPinLaw) hisR ?_
  intro p e s m args below meth c s₁ Bd hml0 hP hK
  obtain ⟨rfl, hZ, hh⟩ := hP
  have hx := Bd.exec
  have hby := Bd.bytes
  have hml : c.maxLocals = 9 := hml0
  have hown : s.vm.findClass "com/example/switchback/switchback/expression/LiteralSearchIsCheapPinLaw" = some m.cls := findClass_of_methodNamed Bd.named
  have hnm := (name_of_methodNamed Bd.named Bd.method).1
  have hlk : meth.locks = false := BodyLoose.notSynchronized Bd
  have X0 : Stand p l e ({ frames := 1, cells := 0, slots := 0, locals := 17 } : Room) s m #[(.int (Int32.ofNat n)), (.int (Int32.ofNat p')), (.int b)] below meth c s₁ [] 0 0 := Stand.of_body Bd
  have e0 : s₁.heap = h0 := by rw [← hh, Bd.state]; rfl
  have N0 := Fr.nil n0
  refine Go.enter (ef_2 m (Int32.ofNat n) (Int32.ofNat p') b) ?_
  show Go p e s below ({ frames := 1, cells := 0, slots := 0, locals := 17 } : Room).cells ({ frames := 1, cells := 0, slots := 0, locals := 17 } : Room).slots (Q2 n p' b h0 n0) s₁ (mkF m 0 #[.val (.int (Int32.ofNat n)), .val (.int (Int32.ofNat p')), .val (.int b), .unset, .unset, .unset, .unset, .unset, .unset] [])
  refine Go.st (fun _ k_ => XS.iloadN X0.here hx rfl (hb hby d2_0) rfl k_) ?_
  show Go p e s below ({ frames := 1, cells := 0, slots := 0, locals := 17 } : Room).cells ({ frames := 1, cells := 0, slots := 0, locals := 17 } : Room).slots (Q2 n p' b h0 n0) s₁ (mkF m 1 #[.val (.int (Int32.ofNat n)), .val (.int (Int32.ofNat p')), .val (.int b), .unset, .unset, .unset, .unset, .unset, .unset] [(.int (Int32.ofNat n))])
  refine Go.st (fun _ k_ => XS.i2l X0.here hx rfl (hb hby d2_1) rfl k_) ?_
  show Go p e s below ({ frames := 1, cells := 0, slots := 0, locals := 17 } : Room).cells ({ frames := 1, cells := 0, slots := 0, locals := 17 } : Room).slots (Q2 n p' b h0 n0) s₁ (mkF m 2 #[.val (.int (Int32.ofNat n)), .val (.int (Int32.ofNat p')), .val (.int b), .unset, .unset, .unset, .unset, .unset, .unset] [(.long ((Int32.ofNat n).toInt64))])
  rw [on_i2l (by omega)]
  show Go p e s below ({ frames := 1, cells := 0, slots := 0, locals := 17 } : Room).cells ({ frames := 1, cells := 0, slots := 0, locals := 17 } : Room).slots (Q2 n p' b h0 n0) s₁ (mkF m 2 #[.val (.int (Int32.ofNat n)), .val (.int (Int32.ofNat p')), .val (.int b), .unset, .unset, .unset, .unset, .unset, .unset] [(.long (Int64.ofNat n))])
  refine Go.st (fun _ k_ => XS.lstoreN X0.here hx rfl (hb hby d2_2) rfl (l' := #[.val (.int (Int32.ofNat n)), .val (.int (Int32.ofNat p')), .val (.int b), .val (.long (Int64.ofNat n)), .second, .unset, .unset, .unset, .unset]) rfl k_) ?_
  show Go p e s below ({ frames := 1, cells := 0, slots := 0, locals := 17 } : Room).cells ({ frames := 1, cells := 0, slots := 0, locals := 17 } : Room).slots (Q2 n p' b h0 n0) s₁ (mkF m 3 #[.val (.int (Int32.ofNat n)), .val (.int (Int32.ofNat p')), .val (.int b), .val (.long (Int64.ofNat n)), .second, .unset, .unset, .unset, .unset] [])
  refine Go.st (fun _ k_ => XS.iloadN X0.here hx rfl (hb hby d2_3) rfl k_) ?_
  by_cases hb0 : b = (0 : Int32)
  · skip
    show Go p e s below ({ frames := 1, cells := 0, slots := 0, locals := 17 } : Room).cells ({ frames := 1, cells := 0, slots := 0, locals := 17 } : Room).slots (Q2 n p' b h0 n0) s₁ (mkF m 4 #[.val (.int (Int32.ofNat n)), .val (.int (Int32.ofNat p')), .val (.int b), .val (.long (Int64.ofNat n)), .second, .unset, .unset, .unset, .unset] [(.int b)])
    refine Go.st (fun _ k_ => XS.ifNo X0.here hx rfl (hb hby d2_4) rfl ((if0 _ _).trans (teq hb0).2) k_) ?_
    show Go p e s below ({ frames := 1, cells := 0, slots := 0, locals := 17 } : Room).cells ({ frames := 1, cells := 0, slots := 0, locals := 17 } : Room).slots (Q2 n p' b h0 n0) s₁ (mkF m 7 #[.val (.int (Int32.ofNat n)), .val (.int (Int32.ofNat p')), .val (.int b), .val (.long (Int64.ofNat n)), .second, .unset, .unset, .unset, .unset] [])
    refine Go.st (fun _ k_ => XS.lloadN X0.here hx rfl (hb hby d2_7) rfl k_) ?_
    show Go p e s below ({ frames := 1, cells := 0, slots := 0, locals := 17 } : Room).cells ({ frames := 1, cells := 0, slots := 0, locals := 17 } : Room).slots (Q2 n p' b h0 n0) s₁ (mkF m 8 #[.val (.int (Int32.ofNat n)), .val (.int (Int32.ofNat p')), .val (.int b), .val (.long (Int64.ofNat n)), .second, .unset, .unset, .unset, .unset] [(.long (Int64.ofNat n))])
    refine Go.st (fun _ k_ => XS.lloadN X0.here hx rfl (hb hby d2_8) rfl k_) ?_
    show Go p e s below ({ frames := 1, cells := 0, slots := 0, locals := 17 } : Room).cells ({ frames := 1, cells := 0, slots := 0, locals := 17 } : Room).slots (Q2 n p' b h0 n0) s₁ (mkF m 9 #[.val (.int (Int32.ofNat n)), .val (.int (Int32.ofNat p')), .val (.int b), .val (.long (Int64.ofNat n)), .second, .unset, .unset, .unset, .unset] [(.long (Int64.ofNat n)), (.long (Int64.ofNat n))])
    refine Go.st (fun _ k_ => XS.lmul X0.here hx rfl (hb hby d2_9) rfl k_) ?_
    show Go p e s below ({ frames := 1, cells := 0, slots := 0, locals := 17 } : Room).cells ({ frames := 1, cells := 0, slots := 0, locals := 17 } : Room).slots (Q2 n p' b h0 n0) s₁ (mkF m 10 #[.val (.int (Int32.ofNat n)), .val (.int (Int32.ofNat p')), .val (.int b), .val (.long (Int64.ofNat n)), .second, .unset, .unset, .unset, .unset] [(.long ((Int64.ofNat n) * (Int64.ofNat n)))])
    exact Go.retJ X0 hx hlk Bd.returns (hb hby d2_10) (by decide) (by decide) ⟨by rw [ol_mul, own_steps, if_pos hb0], N0, e0⟩
  · skip
    show Go p e s below ({ frames := 1, cells := 0, slots := 0, locals := 17 } : Room).cells ({ frames := 1, cells := 0, slots := 0, locals := 17 } : Room).slots (Q2 n p' b h0 n0) s₁ (mkF m 4 #[.val (.int (Int32.ofNat n)), .val (.int (Int32.ofNat p')), .val (.int b), .val (.long (Int64.ofNat n)), .second, .unset, .unset, .unset, .unset] [(.int b)])
    refine Go.st (fun _ k_ => XS.ifYes X0.here hx rfl (pc0 := 4) (pc' := 11) rfl (hb hby d2_4) rfl ((if0 _ _).trans (feq hb0).2) (by decide) (by decide) k_) ?_
    show Go p e s below ({ frames := 1, cells := 0, slots := 0, locals := 17 } : Room).cells ({ frames := 1, cells := 0, slots := 0, locals := 17 } : Room).slots (Q2 n p' b h0 n0) s₁ (mkF m 11 #[.val (.int (Int32.ofNat n)), .val (.int (Int32.ofNat p')), .val (.int b), .val (.long (Int64.ofNat n)), .second, .unset, .unset, .unset, .unset] [])
    refine Go.st (fun _ k_ => XS.iloadN X0.here hx rfl (hb hby d2_11) rfl k_) ?_
    show Go p e s below ({ frames := 1, cells := 0, slots := 0, locals := 17 } : Room).cells ({ frames := 1, cells := 0, slots := 0, locals := 17 } : Room).slots (Q2 n p' b h0 n0) s₁ (mkF m 12 #[.val (.int (Int32.ofNat n)), .val (.int (Int32.ofNat p')), .val (.int b), .val (.long (Int64.ofNat n)), .second, .unset, .unset, .unset, .unset] [(.int (Int32.ofNat p'))])
    refine Go.st (fun _ k_ => XS.i2l X0.here hx rfl (hb hby d2_12) rfl k_) ?_
    show Go p e s below ({ frames := 1, cells := 0, slots := 0, locals := 17 } : Room).cells ({ frames := 1, cells := 0, slots := 0, locals := 17 } : Room).slots (Q2 n p' b h0 n0) s₁ (mkF m 13 #[.val (.int (Int32.ofNat n)), .val (.int (Int32.ofNat p')), .val (.int b), .val (.long (Int64.ofNat n)), .second, .unset, .unset, .unset, .unset] [(.long ((Int32.ofNat p').toInt64))])
    rw [on_i2l (by omega)]
    show Go p e s below ({ frames := 1, cells := 0, slots := 0, locals := 17 } : Room).cells ({ frames := 1, cells := 0, slots := 0, locals := 17 } : Room).slots (Q2 n p' b h0 n0) s₁ (mkF m 13 #[.val (.int (Int32.ofNat n)), .val (.int (Int32.ofNat p')), .val (.int b), .val (.long (Int64.ofNat n)), .second, .unset, .unset, .unset, .unset] [(.long (Int64.ofNat p'))])
    refine Go.st (fun _ k_ => XS.lstore X0.here hx rfl (hb hby d2_13) rfl (l' := #[.val (.int (Int32.ofNat n)), .val (.int (Int32.ofNat p')), .val (.int b), .val (.long (Int64.ofNat n)), .second, .val (.long (Int64.ofNat p')), .second, .unset, .unset]) rfl k_) ?_
    show Go p e s below ({ frames := 1, cells := 0, slots := 0, locals := 17 } : Room).cells ({ frames := 1, cells := 0, slots := 0, locals := 17 } : Room).slots (Q2 n p' b h0 n0) s₁ (mkF m 15 #[.val (.int (Int32.ofNat n)), .val (.int (Int32.ofNat p')), .val (.int b), .val (.long (Int64.ofNat n)), .second, .val (.long (Int64.ofNat p')), .second, .unset, .unset] [])
    refine Go.st (fun _ k_ => XS.lloadN X0.here hx rfl (hb hby d2_15) rfl k_) ?_
    show Go p e s below ({ frames := 1, cells := 0, slots := 0, locals := 17 } : Room).cells ({ frames := 1, cells := 0, slots := 0, locals := 17 } : Room).slots (Q2 n p' b h0 n0) s₁ (mkF m 16 #[.val (.int (Int32.ofNat n)), .val (.int (Int32.ofNat p')), .val (.int b), .val (.long (Int64.ofNat n)), .second, .val (.long (Int64.ofNat p')), .second, .unset, .unset] [(.long (Int64.ofNat n))])
    refine Go.st (fun _ k_ => XS.lconst X0.here hx rfl (hb hby d2_16) k_) ?_
    show Go p e s below ({ frames := 1, cells := 0, slots := 0, locals := 17 } : Room).cells ({ frames := 1, cells := 0, slots := 0, locals := 17 } : Room).slots (Q2 n p' b h0 n0) s₁ (mkF m 17 #[.val (.int (Int32.ofNat n)), .val (.int (Int32.ofNat p')), .val (.int b), .val (.long (Int64.ofNat n)), .second, .val (.long (Int64.ofNat p')), .second, .unset, .unset] [(.long (1 : Int64)), (.long (Int64.ofNat n))])
    refine Go.st (fun _ k_ => XS.lsub X0.here hx rfl (hb hby d2_17) rfl k_) ?_
    show Go p e s below ({ frames := 1, cells := 0, slots := 0, locals := 17 } : Room).cells ({ frames := 1, cells := 0, slots := 0, locals := 17 } : Room).slots (Q2 n p' b h0 n0) s₁ (mkF m 18 #[.val (.int (Int32.ofNat n)), .val (.int (Int32.ofNat p')), .val (.int b), .val (.long (Int64.ofNat n)), .second, .val (.long (Int64.ofNat p')), .second, .unset, .unset] [(.long ((Int64.ofNat n) - (1 : Int64)))])
    refine Go.st (fun _ k_ => XS.lload X0.here hx rfl (hb hby d2_18) rfl k_) ?_
    show Go p e s below ({ frames := 1, cells := 0, slots := 0, locals := 17 } : Room).cells ({ frames := 1, cells := 0, slots := 0, locals := 17 } : Room).slots (Q2 n p' b h0 n0) s₁ (mkF m 20 #[.val (.int (Int32.ofNat n)), .val (.int (Int32.ofNat p')), .val (.int b), .val (.long (Int64.ofNat n)), .second, .val (.long (Int64.ofNat p')), .second, .unset, .unset] [(.long (Int64.ofNat p')), (.long ((Int64.ofNat n) - (1 : Int64)))])
    refine Go.st (fun _ k_ => XS.lsub X0.here hx rfl (hb hby d2_20) rfl k_) ?_
    show Go p e s below ({ frames := 1, cells := 0, slots := 0, locals := 17 } : Room).cells ({ frames := 1, cells := 0, slots := 0, locals := 17 } : Room).slots (Q2 n p' b h0 n0) s₁ (mkF m 21 #[.val (.int (Int32.ofNat n)), .val (.int (Int32.ofNat p')), .val (.int b), .val (.long (Int64.ofNat n)), .second, .val (.long (Int64.ofNat p')), .second, .unset, .unset] [(.long (((Int64.ofNat n) - (1 : Int64)) - (Int64.ofNat p')))])
    rw [own_q n hn p' hp]
    show Go p e s below ({ frames := 1, cells := 0, slots := 0, locals := 17 } : Room).cells ({ frames := 1, cells := 0, slots := 0, locals := 17 } : Room).slots (Q2 n p' b h0 n0) s₁ (mkF m 21 #[.val (.int (Int32.ofNat n)), .val (.int (Int32.ofNat p')), .val (.int b), .val (.long (Int64.ofNat n)), .second, .val (.long (Int64.ofNat p')), .second, .unset, .unset] [(.long (Int64.ofNat (n - 1 - p')))])
    refine Go.st (fun _ k_ => XS.lstore X0.here hx rfl (hb hby d2_21) rfl (l' := #[.val (.int (Int32.ofNat n)), .val (.int (Int32.ofNat p')), .val (.int b), .val (.long (Int64.ofNat n)), .second, .val (.long (Int64.ofNat p')), .second, .val (.long (Int64.ofNat (n - 1 - p'))), .second]) rfl k_) ?_
    show Go p e s below ({ frames := 1, cells := 0, slots := 0, locals := 17 } : Room).cells ({ frames := 1, cells := 0, slots := 0, locals := 17 } : Room).slots (Q2 n p' b h0 n0) s₁ (mkF m 23 #[.val (.int (Int32.ofNat n)), .val (.int (Int32.ofNat p')), .val (.int b), .val (.long (Int64.ofNat n)), .second, .val (.long (Int64.ofNat p')), .second, .val (.long (Int64.ofNat (n - 1 - p'))), .second] [])
    refine Go.st (fun _ k_ => XS.lloadN X0.here hx rfl (hb hby d2_23) rfl k_) ?_
    show Go p e s below ({ frames := 1, cells := 0, slots := 0, locals := 17 } : Room).cells ({ frames := 1, cells := 0, slots := 0, locals := 17 } : Room).slots (Q2 n p' b h0 n0) s₁ (mkF m 24 #[.val (.int (Int32.ofNat n)), .val (.int (Int32.ofNat p')), .val (.int b), .val (.long (Int64.ofNat n)), .second, .val (.long (Int64.ofNat p')), .second, .val (.long (Int64.ofNat (n - 1 - p'))), .second] [(.long (Int64.ofNat n))])
    refine Go.st (fun _ k_ => XS.lload X0.here hx rfl (hb hby d2_24) rfl k_) ?_
    show Go p e s below ({ frames := 1, cells := 0, slots := 0, locals := 17 } : Room).cells ({ frames := 1, cells := 0, slots := 0, locals := 17 } : Room).slots (Q2 n p' b h0 n0) s₁ (mkF m 26 #[.val (.int (Int32.ofNat n)), .val (.int (Int32.ofNat p')), .val (.int b), .val (.long (Int64.ofNat n)), .second, .val (.long (Int64.ofNat p')), .second, .val (.long (Int64.ofNat (n - 1 - p'))), .second] [(.long (Int64.ofNat (n - 1 - p'))), (.long (Int64.ofNat n))])
    refine Go.st (fun _ k_ => XS.lload X0.here hx rfl (hb hby d2_26) rfl k_) ?_
    show Go p e s below ({ frames := 1, cells := 0, slots := 0, locals := 17 } : Room).cells ({ frames := 1, cells := 0, slots := 0, locals := 17 } : Room).slots (Q2 n p' b h0 n0) s₁ (mkF m 28 #[.val (.int (Int32.ofNat n)), .val (.int (Int32.ofNat p')), .val (.int b), .val (.long (Int64.ofNat n)), .second, .val (.long (Int64.ofNat p')), .second, .val (.long (Int64.ofNat (n - 1 - p'))), .second] [(.long (Int64.ofNat (n - 1 - p'))), (.long (Int64.ofNat (n - 1 - p'))), (.long (Int64.ofNat n))])
    refine Go.st (fun _ k_ => XS.lconst X0.here hx rfl (hb hby d2_28) k_) ?_
    show Go p e s below ({ frames := 1, cells := 0, slots := 0, locals := 17 } : Room).cells ({ frames := 1, cells := 0, slots := 0, locals := 17 } : Room).slots (Q2 n p' b h0 n0) s₁ (mkF m 29 #[.val (.int (Int32.ofNat n)), .val (.int (Int32.ofNat p')), .val (.int b), .val (.long (Int64.ofNat n)), .second, .val (.long (Int64.ofNat p')), .second, .val (.long (Int64.ofNat (n - 1 - p'))), .second] [(.long (1 : Int64)), (.long (Int64.ofNat (n - 1 - p'))), (.long (Int64.ofNat (n - 1 - p'))), (.long (Int64.ofNat n))])
    refine Go.st (fun _ k_ => XS.ladd X0.here hx rfl (hb hby d2_29) rfl k_) ?_
    show Go p e s below ({ frames := 1, cells := 0, slots := 0, locals := 17 } : Room).cells ({ frames := 1, cells := 0, slots := 0, locals := 17 } : Room).slots (Q2 n p' b h0 n0) s₁ (mkF m 30 #[.val (.int (Int32.ofNat n)), .val (.int (Int32.ofNat p')), .val (.int b), .val (.long (Int64.ofNat n)), .second, .val (.long (Int64.ofNat p')), .second, .val (.long (Int64.ofNat (n - 1 - p'))), .second] [(.long ((Int64.ofNat (n - 1 - p')) + (1 : Int64))), (.long (Int64.ofNat (n - 1 - p'))), (.long (Int64.ofNat n))])
    refine Go.st (fun _ k_ => XS.lmul X0.here hx rfl (hb hby d2_30) rfl k_) ?_
    show Go p e s below ({ frames := 1, cells := 0, slots := 0, locals := 17 } : Room).cells ({ frames := 1, cells := 0, slots := 0, locals := 17 } : Room).slots (Q2 n p' b h0 n0) s₁ (mkF m 31 #[.val (.int (Int32.ofNat n)), .val (.int (Int32.ofNat p')), .val (.int b), .val (.long (Int64.ofNat n)), .second, .val (.long (Int64.ofNat p')), .second, .val (.long (Int64.ofNat (n - 1 - p'))), .second] [(.long ((Int64.ofNat (n - 1 - p')) * ((Int64.ofNat (n - 1 - p')) + (1 : Int64)))), (.long (Int64.ofNat n))])
    refine Go.st (X0.ldc2Long hx hown (mvT hZ (hw _ (List.mem_of_getElem? (i := 10) rfl))) (g := (mkF m 31 #[.val (.int (Int32.ofNat n)), .val (.int (Int32.ofNat p')), .val (.int b), .val (.long (Int64.ofNat n)), .second, .val (.long (Int64.ofNat p')), .second, .val (.long (Int64.ofNat (n - 1 - p'))), .second] [(.long ((Int64.ofNat (n - 1 - p')) * ((Int64.ofNat (n - 1 - p')) + (1 : Int64)))), (.long (Int64.ofNat n))])) rfl (hb hby d2_31)) ?_
    show Go p e s below ({ frames := 1, cells := 0, slots := 0, locals := 17 } : Room).cells ({ frames := 1, cells := 0, slots := 0, locals := 17 } : Room).slots (Q2 n p' b h0 n0) s₁ (mkF m 34 #[.val (.int (Int32.ofNat n)), .val (.int (Int32.ofNat p')), .val (.int b), .val (.long (Int64.ofNat n)), .second, .val (.long (Int64.ofNat p')), .second, .val (.long (Int64.ofNat (n - 1 - p'))), .second] [(.long (2 : Int64)), (.long ((Int64.ofNat (n - 1 - p')) * ((Int64.ofNat (n - 1 - p')) + (1 : Int64)))), (.long (Int64.ofNat n))])
    refine Go.st (fun _ k_ => XS.ldiv X0.here hx rfl (hb hby d2_34) rfl (by decide) k_) ?_
    show Go p e s below ({ frames := 1, cells := 0, slots := 0, locals := 17 } : Room).cells ({ frames := 1, cells := 0, slots := 0, locals := 17 } : Room).slots (Q2 n p' b h0 n0) s₁ (mkF m 35 #[.val (.int (Int32.ofNat n)), .val (.int (Int32.ofNat p')), .val (.int b), .val (.long (Int64.ofNat n)), .second, .val (.long (Int64.ofNat p')), .second, .val (.long (Int64.ofNat (n - 1 - p'))), .second] [(.long (((Int64.ofNat (n - 1 - p')) * ((Int64.ofNat (n - 1 - p')) + (1 : Int64))) / (2 : Int64))), (.long (Int64.ofNat n))])
    refine Go.st (fun _ k_ => XS.ladd X0.here hx rfl (hb hby d2_35) rfl k_) ?_
    show Go p e s below ({ frames := 1, cells := 0, slots := 0, locals := 17 } : Room).cells ({ frames := 1, cells := 0, slots := 0, locals := 17 } : Room).slots (Q2 n p' b h0 n0) s₁ (mkF m 36 #[.val (.int (Int32.ofNat n)), .val (.int (Int32.ofNat p')), .val (.int b), .val (.long (Int64.ofNat n)), .second, .val (.long (Int64.ofNat p')), .second, .val (.long (Int64.ofNat (n - 1 - p'))), .second] [(.long ((Int64.ofNat n) + (((Int64.ofNat (n - 1 - p')) * ((Int64.ofNat (n - 1 - p')) + (1 : Int64))) / (2 : Int64))))])
    refine Go.st (fun _ k_ => XS.lconst X0.here hx rfl (hb hby d2_36) k_) ?_
    show Go p e s below ({ frames := 1, cells := 0, slots := 0, locals := 17 } : Room).cells ({ frames := 1, cells := 0, slots := 0, locals := 17 } : Room).slots (Q2 n p' b h0 n0) s₁ (mkF m 37 #[.val (.int (Int32.ofNat n)), .val (.int (Int32.ofNat p')), .val (.int b), .val (.long (Int64.ofNat n)), .second, .val (.long (Int64.ofNat p')), .second, .val (.long (Int64.ofNat (n - 1 - p'))), .second] [(.long (0 : Int64)), (.long ((Int64.ofNat n) + (((Int64.ofNat (n - 1 - p')) * ((Int64.ofNat (n - 1 - p')) + (1 : Int64))) / (2 : Int64))))])
    refine Go.st (fun _ k_ => XS.lload X0.here hx rfl (hb hby d2_37) rfl k_) ?_
    show Go p e s below ({ frames := 1, cells := 0, slots := 0, locals := 17 } : Room).cells ({ frames := 1, cells := 0, slots := 0, locals := 17 } : Room).slots (Q2 n p' b h0 n0) s₁ (mkF m 39 #[.val (.int (Int32.ofNat n)), .val (.int (Int32.ofNat p')), .val (.int b), .val (.long (Int64.ofNat n)), .second, .val (.long (Int64.ofNat p')), .second, .val (.long (Int64.ofNat (n - 1 - p'))), .second] [(.long (Int64.ofNat p')), (.long (0 : Int64)), (.long ((Int64.ofNat n) + (((Int64.ofNat (n - 1 - p')) * ((Int64.ofNat (n - 1 - p')) + (1 : Int64))) / (2 : Int64))))])
    refine Go.st (fun _ k_ => XS.lload X0.here hx rfl (hb hby d2_39) rfl k_) ?_
    show Go p e s below ({ frames := 1, cells := 0, slots := 0, locals := 17 } : Room).cells ({ frames := 1, cells := 0, slots := 0, locals := 17 } : Room).slots (Q2 n p' b h0 n0) s₁ (mkF m 41 #[.val (.int (Int32.ofNat n)), .val (.int (Int32.ofNat p')), .val (.int b), .val (.long (Int64.ofNat n)), .second, .val (.long (Int64.ofNat p')), .second, .val (.long (Int64.ofNat (n - 1 - p'))), .second] [(.long (Int64.ofNat (n - 1 - p'))), (.long (Int64.ofNat p')), (.long (0 : Int64)), (.long ((Int64.ofNat n) + (((Int64.ofNat (n - 1 - p')) * ((Int64.ofNat (n - 1 - p')) + (1 : Int64))) / (2 : Int64))))])
    refine Go.st (fun _ k_ => XS.lsub X0.here hx rfl (hb hby d2_41) rfl k_) ?_
    show Go p e s below ({ frames := 1, cells := 0, slots := 0, locals := 17 } : Room).cells ({ frames := 1, cells := 0, slots := 0, locals := 17 } : Room).slots (Q2 n p' b h0 n0) s₁ (mkF m 42 #[.val (.int (Int32.ofNat n)), .val (.int (Int32.ofNat p')), .val (.int b), .val (.long (Int64.ofNat n)), .second, .val (.long (Int64.ofNat p')), .second, .val (.long (Int64.ofNat (n - 1 - p'))), .second] [(.long ((Int64.ofNat p') - (Int64.ofNat (n - 1 - p')))), (.long (0 : Int64)), (.long ((Int64.ofNat n) + (((Int64.ofNat (n - 1 - p')) * ((Int64.ofNat (n - 1 - p')) + (1 : Int64))) / (2 : Int64))))])
    obtain ⟨_, _, ⟨T1, L1, k1, n1⟩, -, X1, ⟨Lc1, hQ1, l1, y1, z1⟩, st1⟩ := Jvm.LawKit.callS X0 hx (y := (⟨"java/lang/Math", "max", "(JJ)J"⟩ : MethodName)) hown (mvT hZ (hw _ (List.mem_of_getElem? (i := 11) rfl))) (mvT hZ (hw _ (List.mem_of_getElem? (i := 12) rfl))) (mvT hZ (hw _ (List.mem_of_getElem? (i := 13) rfl))) (mvT hZ (hw _ (List.mem_of_getElem? (i := 14) rfl))) (by decide) (backOf (W := 2) (rm3 l Z a0 hw [] (0 : Int64) ((Int64.ofNat p') - (Int64.ofNat (n - 1 - p'))) h0 n0 Z0) hZ (hw _ (List.mem_of_getElem? (i := 14) rfl)) (hw _ (List.mem_of_getElem? (i := 13) rfl)) (by decide) (by decide)) (g := (mkF m 42 #[.val (.int (Int32.ofNat n)), .val (.int (Int32.ofNat p')), .val (.int b), .val (.long (Int64.ofNat n)), .second, .val (.long (Int64.ofNat p')), .second, .val (.long (Int64.ofNat (n - 1 - p'))), .second] [(.long ((Int64.ofNat p') - (Int64.ofNat (n - 1 - p')))), (.long (0 : Int64)), (.long ((Int64.ofNat n) + (((Int64.ofNat (n - 1 - p')) * ((Int64.ofNat (n - 1 - p')) + (1 : Int64))) / (2 : Int64))))])) rfl (by rw [hml]; rfl) (argsL := [(.long (0 : Int64)), (.long ((Int64.ofNat p') - (Int64.ofNat (n - 1 - p'))))]) (rest := [(.long ((Int64.ofNat n) + (((Int64.ofNat (n - 1 - p')) * ((Int64.ofNat (n - 1 - p')) + (1 : Int64))) / (2 : Int64))))]) (lenOf pd_2 rfl) rfl (by show 2 * 0 + _ ≤ _; exact Nat.le_of_eq rfl) (hb hby d2_42) (fun _ _ => ⟨rfl, e0, (by decide : 0 + 0 ≤ _), (by decide : 0 + 0 ≤ _)⟩)
    dsimp only [Pt.U, Pt.locs, Pt.cells, Pt.slots] at X1 l1 y1 z1 st1 hQ1
    subst l1 y1 z1
    obtain ⟨rfl, hN1, e1⟩ := hQ1
    have N1 := Fr.app N0 hN1
    refine Go.st st1 ?_
    show Go p e s below ({ frames := 1, cells := 0, slots := 0, locals := 17 } : Room).cells ({ frames := 1, cells := 0, slots := 0, locals := 17 } : Room).slots (Q2 n p' b h0 n0) T1 (mkF m 45 #[.val (.int (Int32.ofNat n)), .val (.int (Int32.ofNat p')), .val (.int b), .val (.long (Int64.ofNat n)), .second, .val (.long (Int64.ofNat p')), .second, .val (.long (Int64.ofNat (n - 1 - p'))), .second] [(.long (own_maxL (0 : Int64) ((Int64.ofNat p') - (Int64.ofNat (n - 1 - p'))))), (.long ((Int64.ofNat n) + (((Int64.ofNat (n - 1 - p')) * ((Int64.ofNat (n - 1 - p')) + (1 : Int64))) / (2 : Int64))))])
    refine Go.st (fun _ k_ => XS.lload X1.here hx rfl (hb hby d2_45) rfl k_) ?_
    show Go p e s below ({ frames := 1, cells := 0, slots := 0, locals := 17 } : Room).cells ({ frames := 1, cells := 0, slots := 0, locals := 17 } : Room).slots (Q2 n p' b h0 n0) T1 (mkF m 47 #[.val (.int (Int32.ofNat n)), .val (.int (Int32.ofNat p')), .val (.int b), .val (.long (Int64.ofNat n)), .second, .val (.long (Int64.ofNat p')), .second, .val (.long (Int64.ofNat (n - 1 - p'))), .second] [(.long (Int64.ofNat (n - 1 - p'))), (.long (own_maxL (0 : Int64) ((Int64.ofNat p') - (Int64.ofNat (n - 1 - p'))))), (.long ((Int64.ofNat n) + (((Int64.ofNat (n - 1 - p')) * ((Int64.ofNat (n - 1 - p')) + (1 : Int64))) / (2 : Int64))))])
    refine Go.st (fun _ k_ => XS.lconst X1.here hx rfl (hb hby d2_47) k_) ?_
    show Go p e s below ({ frames := 1, cells := 0, slots := 0, locals := 17 } : Room).cells ({ frames := 1, cells := 0, slots := 0, locals := 17 } : Room).slots (Q2 n p' b h0 n0) T1 (mkF m 48 #[.val (.int (Int32.ofNat n)), .val (.int (Int32.ofNat p')), .val (.int b), .val (.long (Int64.ofNat n)), .second, .val (.long (Int64.ofNat p')), .second, .val (.long (Int64.ofNat (n - 1 - p'))), .second] [(.long (1 : Int64)), (.long (Int64.ofNat (n - 1 - p'))), (.long (own_maxL (0 : Int64) ((Int64.ofNat p') - (Int64.ofNat (n - 1 - p'))))), (.long ((Int64.ofNat n) + (((Int64.ofNat (n - 1 - p')) * ((Int64.ofNat (n - 1 - p')) + (1 : Int64))) / (2 : Int64))))])
    refine Go.st (fun _ k_ => XS.ladd X1.here hx rfl (hb hby d2_48) rfl k_) ?_
    show Go p e s below ({ frames := 1, cells := 0, slots := 0, locals := 17 } : Room).cells ({ frames := 1, cells := 0, slots := 0, locals := 17 } : Room).slots (Q2 n p' b h0 n0) T1 (mkF m 49 #[.val (.int (Int32.ofNat n)), .val (.int (Int32.ofNat p')), .val (.int b), .val (.long (Int64.ofNat n)), .second, .val (.long (Int64.ofNat p')), .second, .val (.long (Int64.ofNat (n - 1 - p'))), .second] [(.long ((Int64.ofNat (n - 1 - p')) + (1 : Int64))), (.long (own_maxL (0 : Int64) ((Int64.ofNat p') - (Int64.ofNat (n - 1 - p'))))), (.long ((Int64.ofNat n) + (((Int64.ofNat (n - 1 - p')) * ((Int64.ofNat (n - 1 - p')) + (1 : Int64))) / (2 : Int64))))])
    refine Go.st (fun _ k_ => XS.lmul X1.here hx rfl (hb hby d2_49) rfl k_) ?_
    show Go p e s below ({ frames := 1, cells := 0, slots := 0, locals := 17 } : Room).cells ({ frames := 1, cells := 0, slots := 0, locals := 17 } : Room).slots (Q2 n p' b h0 n0) T1 (mkF m 50 #[.val (.int (Int32.ofNat n)), .val (.int (Int32.ofNat p')), .val (.int b), .val (.long (Int64.ofNat n)), .second, .val (.long (Int64.ofNat p')), .second, .val (.long (Int64.ofNat (n - 1 - p'))), .second] [(.long ((own_maxL (0 : Int64) ((Int64.ofNat p') - (Int64.ofNat (n - 1 - p')))) * ((Int64.ofNat (n - 1 - p')) + (1 : Int64)))), (.long ((Int64.ofNat n) + (((Int64.ofNat (n - 1 - p')) * ((Int64.ofNat (n - 1 - p')) + (1 : Int64))) / (2 : Int64))))])
    refine Go.st (fun _ k_ => XS.ladd X1.here hx rfl (hb hby d2_50) rfl k_) ?_
    show Go p e s below ({ frames := 1, cells := 0, slots := 0, locals := 17 } : Room).cells ({ frames := 1, cells := 0, slots := 0, locals := 17 } : Room).slots (Q2 n p' b h0 n0) T1 (mkF m 51 #[.val (.int (Int32.ofNat n)), .val (.int (Int32.ofNat p')), .val (.int b), .val (.long (Int64.ofNat n)), .second, .val (.long (Int64.ofNat p')), .second, .val (.long (Int64.ofNat (n - 1 - p'))), .second] [(.long (((Int64.ofNat n) + (((Int64.ofNat (n - 1 - p')) * ((Int64.ofNat (n - 1 - p')) + (1 : Int64))) / (2 : Int64))) + ((own_maxL (0 : Int64) ((Int64.ofNat p') - (Int64.ofNat (n - 1 - p')))) * ((Int64.ofNat (n - 1 - p')) + (1 : Int64)))))])
    refine Go.st (fun _ k_ => XS.lload X1.here hx rfl (hb hby d2_51) rfl k_) ?_
    show Go p e s below ({ frames := 1, cells := 0, slots := 0, locals := 17 } : Room).cells ({ frames := 1, cells := 0, slots := 0, locals := 17 } : Room).slots (Q2 n p' b h0 n0) T1 (mkF m 53 #[.val (.int (Int32.ofNat n)), .val (.int (Int32.ofNat p')), .val (.int b), .val (.long (Int64.ofNat n)), .second, .val (.long (Int64.ofNat p')), .second, .val (.long (Int64.ofNat (n - 1 - p'))), .second] [(.long (Int64.ofNat p')), (.long (((Int64.ofNat n) + (((Int64.ofNat (n - 1 - p')) * ((Int64.ofNat (n - 1 - p')) + (1 : Int64))) / (2 : Int64))) + ((own_maxL (0 : Int64) ((Int64.ofNat p') - (Int64.ofNat (n - 1 - p')))) * ((Int64.ofNat (n - 1 - p')) + (1 : Int64)))))])
    refine Go.st (fun _ k_ => XS.lload X1.here hx rfl (hb hby d2_53) rfl k_) ?_
    show Go p e s below ({ frames := 1, cells := 0, slots := 0, locals := 17 } : Room).cells ({ frames := 1, cells := 0, slots := 0, locals := 17 } : Room).slots (Q2 n p' b h0 n0) T1 (mkF m 55 #[.val (.int (Int32.ofNat n)), .val (.int (Int32.ofNat p')), .val (.int b), .val (.long (Int64.ofNat n)), .second, .val (.long (Int64.ofNat p')), .second, .val (.long (Int64.ofNat (n - 1 - p'))), .second] [(.long (Int64.ofNat (n - 1 - p'))), (.long (Int64.ofNat p')), (.long (((Int64.ofNat n) + (((Int64.ofNat (n - 1 - p')) * ((Int64.ofNat (n - 1 - p')) + (1 : Int64))) / (2 : Int64))) + ((own_maxL (0 : Int64) ((Int64.ofNat p') - (Int64.ofNat (n - 1 - p')))) * ((Int64.ofNat (n - 1 - p')) + (1 : Int64)))))])
    obtain ⟨_, _, ⟨T2, L2, k2, n2⟩, -, X2, ⟨Lc2, hQ2, l2, y2, z2⟩, st2⟩ := Jvm.LawKit.callS X1 hx (y := (⟨"java/lang/Math", "min", "(JJ)J"⟩ : MethodName)) hown (mvT hZ (hw _ (List.mem_of_getElem? (i := 15) rfl))) (mvT hZ (hw _ (List.mem_of_getElem? (i := 16) rfl))) (mvT hZ (hw _ (List.mem_of_getElem? (i := 13) rfl))) (mvT hZ (hw _ (List.mem_of_getElem? (i := 17) rfl))) (by decide) (backOf (W := 2) (rm4 l Z a0 hw [] (Int64.ofNat p') (Int64.ofNat (n - 1 - p')) T1.heap n0 (by rw [e1]; exact Z0)) hZ (hw _ (List.mem_of_getElem? (i := 17) rfl)) (hw _ (List.mem_of_getElem? (i := 13) rfl)) (by decide) (by decide)) (g := (mkF m 55 #[.val (.int (Int32.ofNat n)), .val (.int (Int32.ofNat p')), .val (.int b), .val (.long (Int64.ofNat n)), .second, .val (.long (Int64.ofNat p')), .second, .val (.long (Int64.ofNat (n - 1 - p'))), .second] [(.long (Int64.ofNat (n - 1 - p'))), (.long (Int64.ofNat p')), (.long (((Int64.ofNat n) + (((Int64.ofNat (n - 1 - p')) * ((Int64.ofNat (n - 1 - p')) + (1 : Int64))) / (2 : Int64))) + ((own_maxL (0 : Int64) ((Int64.ofNat p') - (Int64.ofNat (n - 1 - p')))) * ((Int64.ofNat (n - 1 - p')) + (1 : Int64)))))])) rfl (by rw [hml]; rfl) (argsL := [(.long (Int64.ofNat p')), (.long (Int64.ofNat (n - 1 - p')))]) (rest := [(.long (((Int64.ofNat n) + (((Int64.ofNat (n - 1 - p')) * ((Int64.ofNat (n - 1 - p')) + (1 : Int64))) / (2 : Int64))) + ((own_maxL (0 : Int64) ((Int64.ofNat p') - (Int64.ofNat (n - 1 - p')))) * ((Int64.ofNat (n - 1 - p')) + (1 : Int64)))))]) (lenOf pd_2 rfl) rfl (by show 2 * 0 + _ ≤ _; exact Nat.le_of_eq rfl) (hb hby d2_55) (fun _ _ => ⟨rfl, rfl, (by decide : 0 + 0 ≤ _), (by decide : 0 + 0 ≤ _)⟩)
    dsimp only [Pt.U, Pt.locs, Pt.cells, Pt.slots] at X2 l2 y2 z2 st2 hQ2
    subst l2 y2 z2
    obtain ⟨rfl, hN2, e2⟩ := hQ2
    have N2 := Fr.app N1 hN2
    refine Go.st st2 ?_
    show Go p e s below ({ frames := 1, cells := 0, slots := 0, locals := 17 } : Room).cells ({ frames := 1, cells := 0, slots := 0, locals := 17 } : Room).slots (Q2 n p' b h0 n0) T2 (mkF m 58 #[.val (.int (Int32.ofNat n)), .val (.int (Int32.ofNat p')), .val (.int b), .val (.long (Int64.ofNat n)), .second, .val (.long (Int64.ofNat p')), .second, .val (.long (Int64.ofNat (n - 1 - p'))), .second] [(.long (own_minL (Int64.ofNat p') (Int64.ofNat (n - 1 - p')))), (.long (((Int64.ofNat n) + (((Int64.ofNat (n - 1 - p')) * ((Int64.ofNat (n - 1 - p')) + (1 : Int64))) / (2 : Int64))) + ((own_maxL (0 : Int64) ((Int64.ofNat p') - (Int64.ofNat (n - 1 - p')))) * ((Int64.ofNat (n - 1 - p')) + (1 : Int64)))))])
    refine Go.st (fun _ k_ => XS.lloadN X2.here hx rfl (hb hby d2_58) rfl k_) ?_
    show Go p e s below ({ frames := 1, cells := 0, slots := 0, locals := 17 } : Room).cells ({ frames := 1, cells := 0, slots := 0, locals := 17 } : Room).slots (Q2 n p' b h0 n0) T2 (mkF m 59 #[.val (.int (Int32.ofNat n)), .val (.int (Int32.ofNat p')), .val (.int b), .val (.long (Int64.ofNat n)), .second, .val (.long (Int64.ofNat p')), .second, .val (.long (Int64.ofNat (n - 1 - p'))), .second] [(.long (Int64.ofNat n)), (.long (own_minL (Int64.ofNat p') (Int64.ofNat (n - 1 - p')))), (.long (((Int64.ofNat n) + (((Int64.ofNat (n - 1 - p')) * ((Int64.ofNat (n - 1 - p')) + (1 : Int64))) / (2 : Int64))) + ((own_maxL (0 : Int64) ((Int64.ofNat p') - (Int64.ofNat (n - 1 - p')))) * ((Int64.ofNat (n - 1 - p')) + (1 : Int64)))))])
    refine Go.st (fun _ k_ => XS.lconst X2.here hx rfl (hb hby d2_59) k_) ?_
    show Go p e s below ({ frames := 1, cells := 0, slots := 0, locals := 17 } : Room).cells ({ frames := 1, cells := 0, slots := 0, locals := 17 } : Room).slots (Q2 n p' b h0 n0) T2 (mkF m 60 #[.val (.int (Int32.ofNat n)), .val (.int (Int32.ofNat p')), .val (.int b), .val (.long (Int64.ofNat n)), .second, .val (.long (Int64.ofNat p')), .second, .val (.long (Int64.ofNat (n - 1 - p'))), .second] [(.long (1 : Int64)), (.long (Int64.ofNat n)), (.long (own_minL (Int64.ofNat p') (Int64.ofNat (n - 1 - p')))), (.long (((Int64.ofNat n) + (((Int64.ofNat (n - 1 - p')) * ((Int64.ofNat (n - 1 - p')) + (1 : Int64))) / (2 : Int64))) + ((own_maxL (0 : Int64) ((Int64.ofNat p') - (Int64.ofNat (n - 1 - p')))) * ((Int64.ofNat (n - 1 - p')) + (1 : Int64)))))])
    refine Go.st (fun _ k_ => XS.lsub X2.here hx rfl (hb hby d2_60) rfl k_) ?_
    show Go p e s below ({ frames := 1, cells := 0, slots := 0, locals := 17 } : Room).cells ({ frames := 1, cells := 0, slots := 0, locals := 17 } : Room).slots (Q2 n p' b h0 n0) T2 (mkF m 61 #[.val (.int (Int32.ofNat n)), .val (.int (Int32.ofNat p')), .val (.int b), .val (.long (Int64.ofNat n)), .second, .val (.long (Int64.ofNat p')), .second, .val (.long (Int64.ofNat (n - 1 - p'))), .second] [(.long ((Int64.ofNat n) - (1 : Int64))), (.long (own_minL (Int64.ofNat p') (Int64.ofNat (n - 1 - p')))), (.long (((Int64.ofNat n) + (((Int64.ofNat (n - 1 - p')) * ((Int64.ofNat (n - 1 - p')) + (1 : Int64))) / (2 : Int64))) + ((own_maxL (0 : Int64) ((Int64.ofNat p') - (Int64.ofNat (n - 1 - p')))) * ((Int64.ofNat (n - 1 - p')) + (1 : Int64)))))])
    refine Go.st (fun _ k_ => XS.lmul X2.here hx rfl (hb hby d2_61) rfl k_) ?_
    show Go p e s below ({ frames := 1, cells := 0, slots := 0, locals := 17 } : Room).cells ({ frames := 1, cells := 0, slots := 0, locals := 17 } : Room).slots (Q2 n p' b h0 n0) T2 (mkF m 62 #[.val (.int (Int32.ofNat n)), .val (.int (Int32.ofNat p')), .val (.int b), .val (.long (Int64.ofNat n)), .second, .val (.long (Int64.ofNat p')), .second, .val (.long (Int64.ofNat (n - 1 - p'))), .second] [(.long ((own_minL (Int64.ofNat p') (Int64.ofNat (n - 1 - p'))) * ((Int64.ofNat n) - (1 : Int64)))), (.long (((Int64.ofNat n) + (((Int64.ofNat (n - 1 - p')) * ((Int64.ofNat (n - 1 - p')) + (1 : Int64))) / (2 : Int64))) + ((own_maxL (0 : Int64) ((Int64.ofNat p') - (Int64.ofNat (n - 1 - p')))) * ((Int64.ofNat (n - 1 - p')) + (1 : Int64)))))])
    refine Go.st (fun _ k_ => XS.ladd X2.here hx rfl (hb hby d2_62) rfl k_) ?_
    show Go p e s below ({ frames := 1, cells := 0, slots := 0, locals := 17 } : Room).cells ({ frames := 1, cells := 0, slots := 0, locals := 17 } : Room).slots (Q2 n p' b h0 n0) T2 (mkF m 63 #[.val (.int (Int32.ofNat n)), .val (.int (Int32.ofNat p')), .val (.int b), .val (.long (Int64.ofNat n)), .second, .val (.long (Int64.ofNat p')), .second, .val (.long (Int64.ofNat (n - 1 - p'))), .second] [(.long ((((Int64.ofNat n) + (((Int64.ofNat (n - 1 - p')) * ((Int64.ofNat (n - 1 - p')) + (1 : Int64))) / (2 : Int64))) + ((own_maxL (0 : Int64) ((Int64.ofNat p') - (Int64.ofNat (n - 1 - p')))) * ((Int64.ofNat (n - 1 - p')) + (1 : Int64)))) + ((own_minL (Int64.ofNat p') (Int64.ofNat (n - 1 - p'))) * ((Int64.ofNat n) - (1 : Int64)))))])
    refine Go.st (fun _ k_ => XS.lloadN X2.here hx rfl (hb hby d2_63) rfl k_) ?_
    show Go p e s below ({ frames := 1, cells := 0, slots := 0, locals := 17 } : Room).cells ({ frames := 1, cells := 0, slots := 0, locals := 17 } : Room).slots (Q2 n p' b h0 n0) T2 (mkF m 64 #[.val (.int (Int32.ofNat n)), .val (.int (Int32.ofNat p')), .val (.int b), .val (.long (Int64.ofNat n)), .second, .val (.long (Int64.ofNat p')), .second, .val (.long (Int64.ofNat (n - 1 - p'))), .second] [(.long (Int64.ofNat n)), (.long ((((Int64.ofNat n) + (((Int64.ofNat (n - 1 - p')) * ((Int64.ofNat (n - 1 - p')) + (1 : Int64))) / (2 : Int64))) + ((own_maxL (0 : Int64) ((Int64.ofNat p') - (Int64.ofNat (n - 1 - p')))) * ((Int64.ofNat (n - 1 - p')) + (1 : Int64)))) + ((own_minL (Int64.ofNat p') (Int64.ofNat (n - 1 - p'))) * ((Int64.ofNat n) - (1 : Int64)))))])
    refine Go.st (fun _ k_ => XS.lconst X2.here hx rfl (hb hby d2_64) k_) ?_
    show Go p e s below ({ frames := 1, cells := 0, slots := 0, locals := 17 } : Room).cells ({ frames := 1, cells := 0, slots := 0, locals := 17 } : Room).slots (Q2 n p' b h0 n0) T2 (mkF m 65 #[.val (.int (Int32.ofNat n)), .val (.int (Int32.ofNat p')), .val (.int b), .val (.long (Int64.ofNat n)), .second, .val (.long (Int64.ofNat p')), .second, .val (.long (Int64.ofNat (n - 1 - p'))), .second] [(.long (1 : Int64)), (.long (Int64.ofNat n)), (.long ((((Int64.ofNat n) + (((Int64.ofNat (n - 1 - p')) * ((Int64.ofNat (n - 1 - p')) + (1 : Int64))) / (2 : Int64))) + ((own_maxL (0 : Int64) ((Int64.ofNat p') - (Int64.ofNat (n - 1 - p')))) * ((Int64.ofNat (n - 1 - p')) + (1 : Int64)))) + ((own_minL (Int64.ofNat p') (Int64.ofNat (n - 1 - p'))) * ((Int64.ofNat n) - (1 : Int64)))))])
    refine Go.st (fun _ k_ => XS.lsub X2.here hx rfl (hb hby d2_65) rfl k_) ?_
    show Go p e s below ({ frames := 1, cells := 0, slots := 0, locals := 17 } : Room).cells ({ frames := 1, cells := 0, slots := 0, locals := 17 } : Room).slots (Q2 n p' b h0 n0) T2 (mkF m 66 #[.val (.int (Int32.ofNat n)), .val (.int (Int32.ofNat p')), .val (.int b), .val (.long (Int64.ofNat n)), .second, .val (.long (Int64.ofNat p')), .second, .val (.long (Int64.ofNat (n - 1 - p'))), .second] [(.long ((Int64.ofNat n) - (1 : Int64))), (.long ((((Int64.ofNat n) + (((Int64.ofNat (n - 1 - p')) * ((Int64.ofNat (n - 1 - p')) + (1 : Int64))) / (2 : Int64))) + ((own_maxL (0 : Int64) ((Int64.ofNat p') - (Int64.ofNat (n - 1 - p')))) * ((Int64.ofNat (n - 1 - p')) + (1 : Int64)))) + ((own_minL (Int64.ofNat p') (Int64.ofNat (n - 1 - p'))) * ((Int64.ofNat n) - (1 : Int64)))))])
    refine Go.st (fun _ k_ => XS.ladd X2.here hx rfl (hb hby d2_66) rfl k_) ?_
    show Go p e s below ({ frames := 1, cells := 0, slots := 0, locals := 17 } : Room).cells ({ frames := 1, cells := 0, slots := 0, locals := 17 } : Room).slots (Q2 n p' b h0 n0) T2 (mkF m 67 #[.val (.int (Int32.ofNat n)), .val (.int (Int32.ofNat p')), .val (.int b), .val (.long (Int64.ofNat n)), .second, .val (.long (Int64.ofNat p')), .second, .val (.long (Int64.ofNat (n - 1 - p'))), .second] [(.long (((((Int64.ofNat n) + (((Int64.ofNat (n - 1 - p')) * ((Int64.ofNat (n - 1 - p')) + (1 : Int64))) / (2 : Int64))) + ((own_maxL (0 : Int64) ((Int64.ofNat p') - (Int64.ofNat (n - 1 - p')))) * ((Int64.ofNat (n - 1 - p')) + (1 : Int64)))) + ((own_minL (Int64.ofNat p') (Int64.ofNat (n - 1 - p'))) * ((Int64.ofNat n) - (1 : Int64)))) + ((Int64.ofNat n) - (1 : Int64))))])
    exact Go.retJ X2 hx hlk Bd.returns (hb hby d2_67) (by decide) (by decide) ⟨by rw [own_stE n hn p' hp, own_steps, if_neg hb0], N2, by rw [e2, e1]⟩
def Q5 (Z : State) (n : Nat) (F : Nat → Int32) (h0 : Heap) (n0 : Nat) (v : Option Value) (h : Heap) (L : List Loc) : Prop := ∃ (z : Addr) (g : Nat → Int32), v = some (.ref z) ∧ Fr n0 L ∧ n0 ≤ h.size ∧ AV Z h z .int (n + 1) g ∧ (∀ i, 1 ≤ i → i < n → ∃ k, IsZ F n i k ∧ g i = Int32.ofNat k) ∧ g n = 0
set_option maxRecDepth 65536 in
set_option maxHeartbeats 40000000 in
theorem rm5 (l : Launch) (Z : State) (a0 : Array Value) (hw : ∀ d ∈ tables_1, d.before a0 Z = true) (ws : List Jvm.Cond) (a : Addr) (n : Nat) (F : Nat → Int32) (h0 : Heap) (n0 : Nat) (Z0 : n0 ≤ h0.size) (hn : n < 64) (hn1 : 1 ≤ n) (VA : AV Z h0 a .int n F) :
    MetFree l (⟨"com/example/switchback/switchback/expression/LiteralSearch", "sharedSuffixes", "([I)[I"⟩ : MethodName) (head1 (Jvm.Cond.code (⟨"com/example/switchback/switchback/expression/LiteralSearch", "sharedSuffixes", "([I)[I"⟩ : MethodName) prog_27_method_3_code 7 (some (.array .int)) :: ws) ({ frames := 1, cells := 1, slots := 64, locals := 13 } : Room)) (fun a_ U_ => a_ = #[(.ref a)] ∧ Z.Warmed39 U_.vm ∧ U_.heap = h0) (fun _ _ _ _ _ => True) (fun _ U_ o_ W_ => ∃ v_ L_, o_ = .returned v_ ∧ (Q5 Z n F h0 n0) v_ W_.heap L_ ∧ FrameEnd U_ o_ W_ L_ ({ frames := 1, cells := 1, slots := 64, locals := 13 } : Room).cells ({ frames := 1, cells := 1, slots := 64, locals := 13 } : Room).slots) := by
  refine MetFree.of_bodySF (plainFor_of_name pn_com_example_switchback_switchback_expression_LiteralSearch) hisR ?_
  intro p e s m args below meth c s₁ Bd hml0 hP hK
  obtain ⟨rfl, hZ, hh⟩ := hP
  have hx := Bd.exec
  have hby := Bd.bytes
  have hml : c.maxLocals = 7 := hml0
  have hown : s.vm.findClass "com/example/switchback/switchback/expression/LiteralSearch" = some m.cls := findClass_of_methodNamed Bd.named
  have hnm := (name_of_methodNamed Bd.named Bd.method).1
  have hlk : meth.locks = false := BodyLoose.notSynchronized Bd
  have X0 : Stand p l e ({ frames := 1, cells := 1, slots := 64, locals := 13 } : Room) s m #[(.ref a)] below meth c s₁ [] 0 0 := Stand.of_body Bd
  have e0 : s₁.heap = h0 := by rw [← hh, Bd.state]; rfl
  have N0 := Fr.nil n0
  refine Go.enter (ef_5 m a) ?_
  show Go p e s below ({ frames := 1, cells := 1, slots := 64, locals := 13 } : Room).cells ({ frames := 1, cells := 1, slots := 64, locals := 13 } : Room).slots (Q5 Z n F h0 n0) s₁ (mkF m 0 #[.val (.ref a), .unset, .unset, .unset, .unset, .unset, .unset] [])
  refine Go.st (fun _ k_ => XS.aloadN X0.here hx rfl (hb hby d5_0) rfl rfl k_) ?_
  show Go p e s below ({ frames := 1, cells := 1, slots := 64, locals := 13 } : Room).cells ({ frames := 1, cells := 1, slots := 64, locals := 13 } : Room).slots (Q5 Z n F h0 n0) s₁ (mkF m 1 #[.val (.ref a), .unset, .unset, .unset, .unset, .unset, .unset] [(.ref a)])
  refine Go.st (AV.len X0 hx hZ e0 VA (g := (mkF m 1 #[.val (.ref a), .unset, .unset, .unset, .unset, .unset, .unset] [(.ref a)])) rfl rfl (hb hby d5_1)) ?_
  show Go p e s below ({ frames := 1, cells := 1, slots := 64, locals := 13 } : Room).cells ({ frames := 1, cells := 1, slots := 64, locals := 13 } : Room).slots (Q5 Z n F h0 n0) s₁ (mkF m 2 #[.val (.ref a), .unset, .unset, .unset, .unset, .unset, .unset] [(.int (Int32.ofNat n))])
  refine Go.st (fun _ k_ => XS.istoreN X0.here hx rfl (hb hby d5_2) rfl (l' := #[.val (.ref a), .val (.int (Int32.ofNat n)), .unset, .unset, .unset, .unset, .unset]) rfl k_) ?_
  show Go p e s below ({ frames := 1, cells := 1, slots := 64, locals := 13 } : Room).cells ({ frames := 1, cells := 1, slots := 64, locals := 13 } : Room).slots (Q5 Z n F h0 n0) s₁ (mkF m 3 #[.val (.ref a), .val (.int (Int32.ofNat n)), .unset, .unset, .unset, .unset, .unset] [])
  refine Go.st (fun _ k_ => XS.iloadN X0.here hx rfl (hb hby d5_3) rfl k_) ?_
  show Go p e s below ({ frames := 1, cells := 1, slots := 64, locals := 13 } : Room).cells ({ frames := 1, cells := 1, slots := 64, locals := 13 } : Room).slots (Q5 Z n F h0 n0) s₁ (mkF m 4 #[.val (.ref a), .val (.int (Int32.ofNat n)), .unset, .unset, .unset, .unset, .unset] [(.int (Int32.ofNat n))])
  refine Go.st (fun _ k_ => XS.iconst X0.here hx rfl (hb hby d5_4) k_) ?_
  show Go p e s below ({ frames := 1, cells := 1, slots := 64, locals := 13 } : Room).cells ({ frames := 1, cells := 1, slots := 64, locals := 13 } : Room).slots (Q5 Z n F h0 n0) s₁ (mkF m 5 #[.val (.ref a), .val (.int (Int32.ofNat n)), .unset, .unset, .unset, .unset, .unset] [(.int (1 : Int32)), (.int (Int32.ofNat n))])
  refine Go.st (fun _ k_ => XS.iadd X0.here hx rfl (hb hby d5_5) rfl k_) ?_
  show Go p e s below ({ frames := 1, cells := 1, slots := 64, locals := 13 } : Room).cells ({ frames := 1, cells := 1, slots := 64, locals := 13 } : Room).slots (Q5 Z n F h0 n0) s₁ (mkF m 6 #[.val (.ref a), .val (.int (Int32.ofNat n)), .unset, .unset, .unset, .unset, .unset] [(.int ((Int32.ofNat n) + (1 : Int32)))])
  rw [on_succ]
  show Go p e s below ({ frames := 1, cells := 1, slots := 64, locals := 13 } : Room).cells ({ frames := 1, cells := 1, slots := 64, locals := 13 } : Room).slots (Q5 Z n F h0 n0) s₁ (mkF m 6 #[.val (.ref a), .val (.int (Int32.ofNat n)), .unset, .unset, .unset, .unset, .unset] [(.int (Int32.ofNat (n + 1)))])
  obtain ⟨T3, h3, k3, X3, e3, E3, A3, st3⟩ := newP X0 hx hZ (hw _ (List.mem_of_getElem? (i := 0) rfl)) e0 (g := (mkF m 6 #[.val (.ref a), .val (.int (Int32.ofNat n)), .unset, .unset, .unset, .unset, .unset] [(.int (Int32.ofNat (n + 1)))])) rfl (hb hby d5_6) rfl (on_nn (by omega)) (cap := 64) (by rw [on_idx (by omega)]; omega) (by decide) (by decide) (by decide)
  obtain ⟨z, g3⟩ : ∃ z, z = h0.size := ⟨_, rfl⟩
  rw [← g3] at A3 st3
  refine Go.st st3 ?_
  have V0 : AV Z h3 z .int (n + 1) (fun _ => 0) := by have q := AV.new A3 (on_nn (by omega)) rfl; rw [on_idx (by omega)] at q; exact q
  have gz : n0 ≤ z := by rw [g3]; exact Z0
  have VA1 := VA.ext E3
  have haz : a ≠ z := fun q => absurd VA.lt (by rw [q, g3]; exact Nat.lt_irrefl _)
  show Go p e s below ({ frames := 1, cells := 1, slots := 64, locals := 13 } : Room).cells ({ frames := 1, cells := 1, slots := 64, locals := 13 } : Room).slots (Q5 Z n F h0 n0) T3 (mkF m 8 #[.val (.ref a), .val (.int (Int32.ofNat n)), .unset, .unset, .unset, .unset, .unset] [(.ref z)])
  refine Go.st (fun _ k_ => XS.astoreN X3.here hx rfl (hb hby d5_8) rfl rfl (l' := #[.val (.ref a), .val (.int (Int32.ofNat n)), .val (.ref z), .unset, .unset, .unset, .unset]) rfl k_) ?_
  show Go p e s below ({ frames := 1, cells := 1, slots := 64, locals := 13 } : Room).cells ({ frames := 1, cells := 1, slots := 64, locals := 13 } : Room).slots (Q5 Z n F h0 n0) T3 (mkF m 9 #[.val (.ref a), .val (.int (Int32.ofNat n)), .val (.ref z), .unset, .unset, .unset, .unset] [])
  refine Go.st (fun _ k_ => XS.aloadN X3.here hx rfl (hb hby d5_9) rfl rfl k_) ?_
  show Go p e s below ({ frames := 1, cells := 1, slots := 64, locals := 13 } : Room).cells ({ frames := 1, cells := 1, slots := 64, locals := 13 } : Room).slots (Q5 Z n F h0 n0) T3 (mkF m 10 #[.val (.ref a), .val (.int (Int32.ofNat n)), .val (.ref z), .unset, .unset, .unset, .unset] [(.ref z)])
  refine Go.st (fun _ k_ => XS.iconst X3.here hx rfl (hb hby d5_10) k_) ?_
  show Go p e s below ({ frames := 1, cells := 1, slots := 64, locals := 13 } : Room).cells ({ frames := 1, cells := 1, slots := 64, locals := 13 } : Room).slots (Q5 Z n F h0 n0) T3 (mkF m 11 #[.val (.ref a), .val (.int (Int32.ofNat n)), .val (.ref z), .unset, .unset, .unset, .unset] [(.int (0 : Int32)), (.ref z)])
  refine Go.st (fun _ k_ => XS.iloadN X3.here hx rfl (hb hby d5_11) rfl k_) ?_
  show Go p e s below ({ frames := 1, cells := 1, slots := 64, locals := 13 } : Room).cells ({ frames := 1, cells := 1, slots := 64, locals := 13 } : Room).slots (Q5 Z n F h0 n0) T3 (mkF m 12 #[.val (.ref a), .val (.int (Int32.ofNat n)), .val (.ref z), .unset, .unset, .unset, .unset] [(.int (Int32.ofNat n)), (.int (0 : Int32)), (.ref z)])
  obtain ⟨T4, h4, X4, e4, W4, V4, st4⟩ := AV.stI X3 hx hZ e3 V0 (i := 0) rfl (by decide) (by omega) (g := (mkF m 12 #[.val (.ref a), .val (.int (Int32.ofNat n)), .val (.ref z), .unset, .unset, .unset, .unset] [(.int (Int32.ofNat n)), (.int (0 : Int32)), (.ref z)])) rfl rfl (hb hby d5_12)
  refine Go.st st4 ?_
  have N4 := Fr.snoc X4 N0 gz
  have VA2 := VA1.other W4 haz
  show Go p e s below ({ frames := 1, cells := 1, slots := 64, locals := 13 } : Room).cells ({ frames := 1, cells := 1, slots := 64, locals := 13 } : Room).slots (Q5 Z n F h0 n0) T4 (mkF m 13 #[.val (.ref a), .val (.int (Int32.ofNat n)), .val (.ref z), .unset, .unset, .unset, .unset] [])
  refine Go.st (fun _ k_ => XS.iconst X4.here hx rfl (hb hby d5_13) k_) ?_
  show Go p e s below ({ frames := 1, cells := 1, slots := 64, locals := 13 } : Room).cells ({ frames := 1, cells := 1, slots := 64, locals := 13 } : Room).slots (Q5 Z n F h0 n0) T4 (mkF m 14 #[.val (.ref a), .val (.int (Int32.ofNat n)), .val (.ref z), .unset, .unset, .unset, .unset] [(.int (0 : Int32))])
  refine Go.st (fun _ k_ => XS.istoreN X4.here hx rfl (hb hby d5_14) rfl (l' := #[.val (.ref a), .val (.int (Int32.ofNat n)), .val (.ref z), .val (.int (0 : Int32)), .unset, .unset, .unset]) rfl k_) ?_
  show Go p e s below ({ frames := 1, cells := 1, slots := 64, locals := 13 } : Room).cells ({ frames := 1, cells := 1, slots := 64, locals := 13 } : Room).slots (Q5 Z n F h0 n0) T4 (mkF m 15 #[.val (.ref a), .val (.int (Int32.ofNat n)), .val (.ref z), .val (.int (0 : Int32)), .unset, .unset, .unset] [])
  refine Go.st (fun _ k_ => XS.iconst X4.here hx rfl (hb hby d5_15) k_) ?_
  show Go p e s below ({ frames := 1, cells := 1, slots := 64, locals := 13 } : Room).cells ({ frames := 1, cells := 1, slots := 64, locals := 13 } : Room).slots (Q5 Z n F h0 n0) T4 (mkF m 16 #[.val (.ref a), .val (.int (Int32.ofNat n)), .val (.ref z), .val (.int (0 : Int32)), .unset, .unset, .unset] [(.int (0 : Int32))])
  refine Go.st (fun _ k_ => XS.istore X4.here hx rfl (hb hby d5_16) rfl (l' := #[.val (.ref a), .val (.int (Int32.ofNat n)), .val (.ref z), .val (.int (0 : Int32)), .val (.int (0 : Int32)), .unset, .unset]) rfl k_) ?_
  show Go p e s below ({ frames := 1, cells := 1, slots := 64, locals := 13 } : Room).cells ({ frames := 1, cells := 1, slots := 64, locals := 13 } : Room).slots (Q5 Z n F h0 n0) T4 (mkF m 18 #[.val (.ref a), .val (.int (Int32.ofNat n)), .val (.ref z), .val (.int (0 : Int32)), .val (.int (0 : Int32)), .unset, .unset] [])
  refine Go.st (fun _ k_ => XS.iconst X4.here hx rfl (hb hby d5_18) k_) ?_
  show Go p e s below ({ frames := 1, cells := 1, slots := 64, locals := 13 } : Room).cells ({ frames := 1, cells := 1, slots := 64, locals := 13 } : Room).slots (Q5 Z n F h0 n0) T4 (mkF m 19 #[.val (.ref a), .val (.int (Int32.ofNat n)), .val (.ref z), .val (.int (0 : Int32)), .val (.int (0 : Int32)), .unset, .unset] [(.int (1 : Int32))])
  refine Go.st (fun _ k_ => XS.istore X4.here hx rfl (hb hby d5_19) rfl (l' := #[.val (.ref a), .val (.int (Int32.ofNat n)), .val (.ref z), .val (.int (0 : Int32)), .val (.int (0 : Int32)), .val (.int (1 : Int32)), .unset]) rfl k_) ?_
  have loop : ∀ (d i lw r : Nat) (s6 : Slot), i + d = n → 1 ≤ i → ∀ (T : State) (h : Heap) (locs : List Loc) (X : Stand p l e ({ frames := 1, cells := 1, slots := 64, locals := 13 } : Room) s m #[(.ref a)] below meth c T locs (0 + 1) (0 + 64)) (eT : T.heap = h) (Nf : Fr n0 locs) (VA : AV Z h a .int n F) (g : Nat → Int32) (VZ : AV Z h z .int (n + 1) g) (G1 : ∀ j, 1 ≤ j → j < i → ∃ k, IsZ F n j k ∧ g j = Int32.ofNat k) (G2 : ∀ j, i ≤ j → g j = 0) (hl : lw < i) (hlr : lw ≤ r) (hrn : r ≤ n) (hl1 : 0 < r → 1 ≤ lw) (HM : Mt F n lw (r - lw)) (hs6 : s6 = .unset ∨ ∃ v : Int32, s6 = .val (.int v)), Go p e s below ({ frames := 1, cells := 1, slots := 64, locals := 13 } : Room).cells ({ frames := 1, cells := 1, slots := 64, locals := 13 } : Room).slots (Q5 Z n F h0 n0) T (mkF m 21 #[.val (.ref a), .val (.int (Int32.ofNat n)), .val (.ref z), .val (.int (Int32.ofNat lw)), .val (.int (Int32.ofNat r)), .val (.int (Int32.ofNat i)), s6] []) := by
    intro d
    induction d with
    | zero =>
      intro i lw r s6 hd hi1 T h locs X eT Nf VA g VZ G1 G2 hl hlr hrn hl1 HM hs6
      have hin : i = n := by omega
      show Go p e s below ({ frames := 1, cells := 1, slots := 64, locals := 13 } : Room).cells ({ frames := 1, cells := 1, slots := 64, locals := 13 } : Room).slots (Q5 Z n F h0 n0) T (mkF m 21 #[.val (.ref a), .val (.int (Int32.ofNat n)), .val (.ref z), .val (.int (Int32.ofNat lw)), .val (.int (Int32.ofNat r)), .val (.int (Int32.ofNat i)), s6] [])
      refine Go.st (fun _ k_ => XS.iload X.here hx rfl (hb hby d5_21) rfl k_) ?_
      show Go p e s below ({ frames := 1, cells := 1, slots := 64, locals := 13 } : Room).cells ({ frames := 1, cells := 1, slots := 64, locals := 13 } : Room).slots (Q5 Z n F h0 n0) T (mkF m 23 #[.val (.ref a), .val (.int (Int32.ofNat n)), .val (.ref z), .val (.int (Int32.ofNat lw)), .val (.int (Int32.ofNat r)), .val (.int (Int32.ofNat i)), s6] [(.int (Int32.ofNat i))])
      refine Go.st (fun _ k_ => XS.iloadN X.here hx rfl (hb hby d5_23) rfl k_) ?_
      show Go p e s below ({ frames := 1, cells := 1, slots := 64, locals := 13 } : Room).cells ({ frames := 1, cells := 1, slots := 64, locals := 13 } : Room).slots (Q5 Z n F h0 n0) T (mkF m 24 #[.val (.ref a), .val (.int (Int32.ofNat n)), .val (.ref z), .val (.int (Int32.ofNat lw)), .val (.int (Int32.ofNat r)), .val (.int (Int32.ofNat i)), s6] [(.int (Int32.ofNat n)), (.int (Int32.ofNat i))])
      refine Go.st (fun _ k_ => XS.icmpYes X.here hx rfl (pc0 := 24) (pc' := 123) rfl (hb hby d5_24) rfl (flt (fun q => by have := (on_lt (by omega) (by omega)).mp q; omega)).2.1 (by decide) (by decide) k_) ?_
      show Go p e s below ({ frames := 1, cells := 1, slots := 64, locals := 13 } : Room).cells ({ frames := 1, cells := 1, slots := 64, locals := 13 } : Room).slots (Q5 Z n F h0 n0) T (mkF m 123 #[.val (.ref a), .val (.int (Int32.ofNat n)), .val (.ref z), .val (.int (Int32.ofNat lw)), .val (.int (Int32.ofNat r)), .val (.int (Int32.ofNat i)), s6] [])
      refine Go.st (fun _ k_ => XS.aloadN X.here hx rfl (hb hby d5_123) rfl rfl k_) ?_
      show Go p e s below ({ frames := 1, cells := 1, slots := 64, locals := 13 } : Room).cells ({ frames := 1, cells := 1, slots := 64, locals := 13 } : Room).slots (Q5 Z n F h0 n0) T (mkF m 124 #[.val (.ref a), .val (.int (Int32.ofNat n)), .val (.ref z), .val (.int (Int32.ofNat lw)), .val (.int (Int32.ofNat r)), .val (.int (Int32.ofNat i)), s6] [(.ref z)])
      exact Go.retA X hx hlk Bd.returns rfl (hb hby d5_124) (by decide) (by decide) ⟨z, g, rfl, Nf, by rw [eT]; exact Nat.le_trans gz (Nat.le_of_lt VZ.lt), by rw [eT]; exact VZ, fun j h1 h2 => G1 j h1 (by omega), G2 n (by omega)⟩
    | succ d ih =>
      intro i lw r s6 hd hi1 T h locs X eT Nf VA g VZ G1 G2 hl hlr hrn hl1 HM hs6
      have hin : i < n := by omega
      show Go p e s below ({ frames := 1, cells := 1, slots := 64, locals := 13 } : Room).cells ({ frames := 1, cells := 1, slots := 64, locals := 13 } : Room).slots (Q5 Z n F h0 n0) T (mkF m 21 #[.val (.ref a), .val (.int (Int32.ofNat n)), .val (.ref z), .val (.int (Int32.ofNat lw)), .val (.int (Int32.ofNat r)), .val (.int (Int32.ofNat i)), s6] [])
      refine Go.st (fun _ k_ => XS.iload X.here hx rfl (hb hby d5_21) rfl k_) ?_
      show Go p e s below ({ frames := 1, cells := 1, slots := 64, locals := 13 } : Room).cells ({ frames := 1, cells := 1, slots := 64, locals := 13 } : Room).slots (Q5 Z n F h0 n0) T (mkF m 23 #[.val (.ref a), .val (.int (Int32.ofNat n)), .val (.ref z), .val (.int (Int32.ofNat lw)), .val (.int (Int32.ofNat r)), .val (.int (Int32.ofNat i)), s6] [(.int (Int32.ofNat i))])
      refine Go.st (fun _ k_ => XS.iloadN X.here hx rfl (hb hby d5_23) rfl k_) ?_
      show Go p e s below ({ frames := 1, cells := 1, slots := 64, locals := 13 } : Room).cells ({ frames := 1, cells := 1, slots := 64, locals := 13 } : Room).slots (Q5 Z n F h0 n0) T (mkF m 24 #[.val (.ref a), .val (.int (Int32.ofNat n)), .val (.ref z), .val (.int (Int32.ofNat lw)), .val (.int (Int32.ofNat r)), .val (.int (Int32.ofNat i)), s6] [(.int (Int32.ofNat n)), (.int (Int32.ofNat i))])
      refine Go.st (fun _ k_ => XS.icmpNo X.here hx rfl (hb hby d5_24) rfl (tlt ((on_lt (by omega) (by omega)).mpr hin)).2.1 k_) ?_
      show Go p e s below ({ frames := 1, cells := 1, slots := 64, locals := 13 } : Room).cells ({ frames := 1, cells := 1, slots := 64, locals := 13 } : Room).slots (Q5 Z n F h0 n0) T (mkF m 27 #[.val (.ref a), .val (.int (Int32.ofNat n)), .val (.ref z), .val (.int (Int32.ofNat lw)), .val (.int (Int32.ofNat r)), .val (.int (Int32.ofNat i)), s6] [])
      refine Go.st (fun _ k_ => XS.iload X.here hx rfl (hb hby d5_27) rfl k_) ?_
      show Go p e s below ({ frames := 1, cells := 1, slots := 64, locals := 13 } : Room).cells ({ frames := 1, cells := 1, slots := 64, locals := 13 } : Room).slots (Q5 Z n F h0 n0) T (mkF m 29 #[.val (.ref a), .val (.int (Int32.ofNat n)), .val (.ref z), .val (.int (Int32.ofNat lw)), .val (.int (Int32.ofNat r)), .val (.int (Int32.ofNat i)), s6] [(.int (Int32.ofNat i))])
      refine Go.st (fun _ k_ => XS.iload X.here hx rfl (hb hby d5_29) rfl k_) ?_
      have j91 : ∀ (k : Nat), IsZ F n i k → ∀ (T' : State) (locs' : List Loc) (X' : Stand p l e ({ frames := 1, cells := 1, slots := 64, locals := 13 } : Room) s m #[(.ref a)] below meth c T' locs' (0 + 1) (0 + 64)) (eT' : T'.heap = h) (Nf' : Fr n0 locs'), Go p e s below ({ frames := 1, cells := 1, slots := 64, locals := 13 } : Room).cells ({ frames := 1, cells := 1, slots := 64, locals := 13 } : Room).slots (Q5 Z n F h0 n0) T' (mkF m 91 #[.val (.ref a), .val (.int (Int32.ofNat n)), .val (.ref z), .val (.int (Int32.ofNat lw)), .val (.int (Int32.ofNat r)), .val (.int (Int32.ofNat i)), .val (.int (Int32.ofNat k))] []) := by
        intro k hk T' locs' X' eT' Nf'
        have hkn := hk.1
        show Go p e s below ({ frames := 1, cells := 1, slots := 64, locals := 13 } : Room).cells ({ frames := 1, cells := 1, slots := 64, locals := 13 } : Room).slots (Q5 Z n F h0 n0) T' (mkF m 91 #[.val (.ref a), .val (.int (Int32.ofNat n)), .val (.ref z), .val (.int (Int32.ofNat lw)), .val (.int (Int32.ofNat r)), .val (.int (Int32.ofNat i)), .val (.int (Int32.ofNat k))] [])
        refine Go.st (fun _ k_ => XS.aloadN X'.here hx rfl (hb hby d5_91) rfl rfl k_) ?_
        show Go p e s below ({ frames := 1, cells := 1, slots := 64, locals := 13 } : Room).cells ({ frames := 1, cells := 1, slots := 64, locals := 13 } : Room).slots (Q5 Z n F h0 n0) T' (mkF m 92 #[.val (.ref a), .val (.int (Int32.ofNat n)), .val (.ref z), .val (.int (Int32.ofNat lw)), .val (.int (Int32.ofNat r)), .val (.int (Int32.ofNat i)), .val (.int (Int32.ofNat k))] [(.ref z)])
        refine Go.st (fun _ k_ => XS.iload X'.here hx rfl (hb hby d5_92) rfl k_) ?_
        show Go p e s below ({ frames := 1, cells := 1, slots := 64, locals := 13 } : Room).cells ({ frames := 1, cells := 1, slots := 64, locals := 13 } : Room).slots (Q5 Z n F h0 n0) T' (mkF m 94 #[.val (.ref a), .val (.int (Int32.ofNat n)), .val (.ref z), .val (.int (Int32.ofNat lw)), .val (.int (Int32.ofNat r)), .val (.int (Int32.ofNat i)), .val (.int (Int32.ofNat k))] [(.int (Int32.ofNat i)), (.ref z)])
        refine Go.st (fun _ k_ => XS.iload X'.here hx rfl (hb hby d5_94) rfl k_) ?_
        show Go p e s below ({ frames := 1, cells := 1, slots := 64, locals := 13 } : Room).cells ({ frames := 1, cells := 1, slots := 64, locals := 13 } : Room).slots (Q5 Z n F h0 n0) T' (mkF m 96 #[.val (.ref a), .val (.int (Int32.ofNat n)), .val (.ref z), .val (.int (Int32.ofNat lw)), .val (.int (Int32.ofNat r)), .val (.int (Int32.ofNat i)), .val (.int (Int32.ofNat k))] [(.int (Int32.ofNat k)), (.int (Int32.ofNat i)), (.ref z)])
        obtain ⟨T5, h5, X5, e5, W5, V5, st5⟩ := AV.stI X' hx hZ eT' VZ (on_idx (by omega)) (on_nn (by omega)) (by omega) (g := (mkF m 96 #[.val (.ref a), .val (.int (Int32.ofNat n)), .val (.ref z), .val (.int (Int32.ofNat lw)), .val (.int (Int32.ofNat r)), .val (.int (Int32.ofNat i)), .val (.int (Int32.ofNat k))] [(.int (Int32.ofNat k)), (.int (Int32.ofNat i)), (.ref z)])) rfl rfl (hb hby d5_96)
        refine Go.st st5 ?_
        have N5 := Fr.snoc X5 Nf' gz
        have VA' := VA.other W5 haz
        have G1' : ∀ j, 1 ≤ j → j < i + 1 → ∃ k', IsZ F n j k' ∧ upd g i (Int32.ofNat k) j = Int32.ofNat k' := fun j h1 h2 => by
          by_cases q : j = i
          · subst q; exact ⟨k, hk, by simp [upd]⟩
          · obtain ⟨k', q1, q2⟩ := G1 j h1 (by omega); exact ⟨k', q1, by simp [upd, q, q2]⟩
        have G2' : ∀ j, i + 1 ≤ j → upd g i (Int32.ofNat k) j = 0 := fun j h1 => by rw [upd, if_neg (by omega)]; exact G2 j (by omega)
        show Go p e s below ({ frames := 1, cells := 1, slots := 64, locals := 13 } : Room).cells ({ frames := 1, cells := 1, slots := 64, locals := 13 } : Room).slots (Q5 Z n F h0 n0) T5 (mkF m 97 #[.val (.ref a), .val (.int (Int32.ofNat n)), .val (.ref z), .val (.int (Int32.ofNat lw)), .val (.int (Int32.ofNat r)), .val (.int (Int32.ofNat i)), .val (.int (Int32.ofNat k))] [])
        refine Go.st (fun _ k_ => XS.iload X5.here hx rfl (hb hby d5_97) rfl k_) ?_
        show Go p e s below ({ frames := 1, cells := 1, slots := 64, locals := 13 } : Room).cells ({ frames := 1, cells := 1, slots := 64, locals := 13 } : Room).slots (Q5 Z n F h0 n0) T5 (mkF m 99 #[.val (.ref a), .val (.int (Int32.ofNat n)), .val (.ref z), .val (.int (Int32.ofNat lw)), .val (.int (Int32.ofNat r)), .val (.int (Int32.ofNat i)), .val (.int (Int32.ofNat k))] [(.int (Int32.ofNat i))])
        refine Go.st (fun _ k_ => XS.iload X5.here hx rfl (hb hby d5_99) rfl k_) ?_
        show Go p e s below ({ frames := 1, cells := 1, slots := 64, locals := 13 } : Room).cells ({ frames := 1, cells := 1, slots := 64, locals := 13 } : Room).slots (Q5 Z n F h0 n0) T5 (mkF m 101 #[.val (.ref a), .val (.int (Int32.ofNat n)), .val (.ref z), .val (.int (Int32.ofNat lw)), .val (.int (Int32.ofNat r)), .val (.int (Int32.ofNat i)), .val (.int (Int32.ofNat k))] [(.int (Int32.ofNat k)), (.int (Int32.ofNat i))])
        refine Go.st (fun _ k_ => XS.iadd X5.here hx rfl (hb hby d5_101) rfl k_) ?_
        show Go p e s below ({ frames := 1, cells := 1, slots := 64, locals := 13 } : Room).cells ({ frames := 1, cells := 1, slots := 64, locals := 13 } : Room).slots (Q5 Z n F h0 n0) T5 (mkF m 102 #[.val (.ref a), .val (.int (Int32.ofNat n)), .val (.ref z), .val (.int (Int32.ofNat lw)), .val (.int (Int32.ofNat r)), .val (.int (Int32.ofNat i)), .val (.int (Int32.ofNat k))] [(.int ((Int32.ofNat i) + (Int32.ofNat k)))])
        rw [on_add]
        show Go p e s below ({ frames := 1, cells := 1, slots := 64, locals := 13 } : Room).cells ({ frames := 1, cells := 1, slots := 64, locals := 13 } : Room).slots (Q5 Z n F h0 n0) T5 (mkF m 102 #[.val (.ref a), .val (.int (Int32.ofNat n)), .val (.ref z), .val (.int (Int32.ofNat lw)), .val (.int (Int32.ofNat r)), .val (.int (Int32.ofNat i)), .val (.int (Int32.ofNat k))] [(.int (Int32.ofNat (i + k)))])
        refine Go.st (fun _ k_ => XS.iload X5.here hx rfl (hb hby d5_102) rfl k_) ?_
        by_cases hrk : r < i + k
        · skip
          show Go p e s below ({ frames := 1, cells := 1, slots := 64, locals := 13 } : Room).cells ({ frames := 1, cells := 1, slots := 64, locals := 13 } : Room).slots (Q5 Z n F h0 n0) T5 (mkF m 104 #[.val (.ref a), .val (.int (Int32.ofNat n)), .val (.ref z), .val (.int (Int32.ofNat lw)), .val (.int (Int32.ofNat r)), .val (.int (Int32.ofNat i)), .val (.int (Int32.ofNat k))] [(.int (Int32.ofNat r)), (.int (Int32.ofNat (i + k)))])
          refine Go.st (fun _ k_ => XS.icmpNo X5.here hx rfl (hb hby d5_104) rfl (tlt ((on_lt (by omega) (by omega)).mpr hrk)).2.2.2 k_) ?_
          show Go p e s below ({ frames := 1, cells := 1, slots := 64, locals := 13 } : Room).cells ({ frames := 1, cells := 1, slots := 64, locals := 13 } : Room).slots (Q5 Z n F h0 n0) T5 (mkF m 107 #[.val (.ref a), .val (.int (Int32.ofNat n)), .val (.ref z), .val (.int (Int32.ofNat lw)), .val (.int (Int32.ofNat r)), .val (.int (Int32.ofNat i)), .val (.int (Int32.ofNat k))] [])
          refine Go.st (fun _ k_ => XS.iload X5.here hx rfl (hb hby d5_107) rfl k_) ?_
          show Go p e s below ({ frames := 1, cells := 1, slots := 64, locals := 13 } : Room).cells ({ frames := 1, cells := 1, slots := 64, locals := 13 } : Room).slots (Q5 Z n F h0 n0) T5 (mkF m 109 #[.val (.ref a), .val (.int (Int32.ofNat n)), .val (.ref z), .val (.int (Int32.ofNat lw)), .val (.int (Int32.ofNat r)), .val (.int (Int32.ofNat i)), .val (.int (Int32.ofNat k))] [(.int (Int32.ofNat i))])
          refine Go.st (fun _ k_ => XS.istoreN X5.here hx rfl (hb hby d5_109) rfl (l' := #[.val (.ref a), .val (.int (Int32.ofNat n)), .val (.ref z), .val (.int (Int32.ofNat i)), .val (.int (Int32.ofNat r)), .val (.int (Int32.ofNat i)), .val (.int (Int32.ofNat k))]) rfl k_) ?_
          show Go p e s below ({ frames := 1, cells := 1, slots := 64, locals := 13 } : Room).cells ({ frames := 1, cells := 1, slots := 64, locals := 13 } : Room).slots (Q5 Z n F h0 n0) T5 (mkF m 110 #[.val (.ref a), .val (.int (Int32.ofNat n)), .val (.ref z), .val (.int (Int32.ofNat i)), .val (.int (Int32.ofNat r)), .val (.int (Int32.ofNat i)), .val (.int (Int32.ofNat k))] [])
          refine Go.st (fun _ k_ => XS.iload X5.here hx rfl (hb hby d5_110) rfl k_) ?_
          show Go p e s below ({ frames := 1, cells := 1, slots := 64, locals := 13 } : Room).cells ({ frames := 1, cells := 1, slots := 64, locals := 13 } : Room).slots (Q5 Z n F h0 n0) T5 (mkF m 112 #[.val (.ref a), .val (.int (Int32.ofNat n)), .val (.ref z), .val (.int (Int32.ofNat i)), .val (.int (Int32.ofNat r)), .val (.int (Int32.ofNat i)), .val (.int (Int32.ofNat k))] [(.int (Int32.ofNat i))])
          refine Go.st (fun _ k_ => XS.iload X5.here hx rfl (hb hby d5_112) rfl k_) ?_
          show Go p e s below ({ frames := 1, cells := 1, slots := 64, locals := 13 } : Room).cells ({ frames := 1, cells := 1, slots := 64, locals := 13 } : Room).slots (Q5 Z n F h0 n0) T5 (mkF m 114 #[.val (.ref a), .val (.int (Int32.ofNat n)), .val (.ref z), .val (.int (Int32.ofNat i)), .val (.int (Int32.ofNat r)), .val (.int (Int32.ofNat i)), .val (.int (Int32.ofNat k))] [(.int (Int32.ofNat k)), (.int (Int32.ofNat i))])
          refine Go.st (fun _ k_ => XS.iadd X5.here hx rfl (hb hby d5_114) rfl k_) ?_
          show Go p e s below ({ frames := 1, cells := 1, slots := 64, locals := 13 } : Room).cells ({ frames := 1, cells := 1, slots := 64, locals := 13 } : Room).slots (Q5 Z n F h0 n0) T5 (mkF m 115 #[.val (.ref a), .val (.int (Int32.ofNat n)), .val (.ref z), .val (.int (Int32.ofNat i)), .val (.int (Int32.ofNat r)), .val (.int (Int32.ofNat i)), .val (.int (Int32.ofNat k))] [(.int ((Int32.ofNat i) + (Int32.ofNat k)))])
          rw [on_add]
          show Go p e s below ({ frames := 1, cells := 1, slots := 64, locals := 13 } : Room).cells ({ frames := 1, cells := 1, slots := 64, locals := 13 } : Room).slots (Q5 Z n F h0 n0) T5 (mkF m 115 #[.val (.ref a), .val (.int (Int32.ofNat n)), .val (.ref z), .val (.int (Int32.ofNat i)), .val (.int (Int32.ofNat r)), .val (.int (Int32.ofNat i)), .val (.int (Int32.ofNat k))] [(.int (Int32.ofNat (i + k)))])
          refine Go.st (fun _ k_ => XS.istore X5.here hx rfl (hb hby d5_115) rfl (l' := #[.val (.ref a), .val (.int (Int32.ofNat n)), .val (.ref z), .val (.int (Int32.ofNat i)), .val (.int (Int32.ofNat (i + k))), .val (.int (Int32.ofNat i)), .val (.int (Int32.ofNat k))]) rfl k_) ?_
          show Go p e s below ({ frames := 1, cells := 1, slots := 64, locals := 13 } : Room).cells ({ frames := 1, cells := 1, slots := 64, locals := 13 } : Room).slots (Q5 Z n F h0 n0) T5 (mkF m 117 #[.val (.ref a), .val (.int (Int32.ofNat n)), .val (.ref z), .val (.int (Int32.ofNat i)), .val (.int (Int32.ofNat (i + k))), .val (.int (Int32.ofNat i)), .val (.int (Int32.ofNat k))] [])
          refine Go.st (fun _ k_ => XS.iinc X5.here hx rfl (hb hby d5_117) rfl (l' := #[.val (.ref a), .val (.int (Int32.ofNat n)), .val (.ref z), .val (.int (Int32.ofNat i)), .val (.int (Int32.ofNat (i + k))), .val (.int ((Int32.ofNat i) + (1 : Int32))), .val (.int (Int32.ofNat k))]) rfl k_) ?_
          show Go p e s below ({ frames := 1, cells := 1, slots := 64, locals := 13 } : Room).cells ({ frames := 1, cells := 1, slots := 64, locals := 13 } : Room).slots (Q5 Z n F h0 n0) T5 (mkF m 120 #[.val (.ref a), .val (.int (Int32.ofNat n)), .val (.ref z), .val (.int (Int32.ofNat i)), .val (.int (Int32.ofNat (i + k))), .val (.int ((Int32.ofNat i) + (1 : Int32))), .val (.int (Int32.ofNat k))] [])
          refine Go.st (fun _ k_ => XS.goto X5.here hx rfl (pc0 := 120) (pc' := 21) rfl (hb hby d5_120) (by decide) (by decide) k_) ?_
          show Go p e s below ({ frames := 1, cells := 1, slots := 64, locals := 13 } : Room).cells ({ frames := 1, cells := 1, slots := 64, locals := 13 } : Room).slots (Q5 Z n F h0 n0) T5 (mkF m 21 #[.val (.ref a), .val (.int (Int32.ofNat n)), .val (.ref z), .val (.int (Int32.ofNat i)), .val (.int (Int32.ofNat (i + k))), .val (.int ((Int32.ofNat i) + (1 : Int32))), .val (.int (Int32.ofNat k))] [])
          rw [on_succ]
          exact ih (i + 1) i (i + k) _ (by omega) (by omega) T5 _ _ X5 e5 N5 VA' _ V5 G1' G2' (by omega) (by omega) hk.1 (fun _ => hi1) (by rw [Nat.add_sub_cancel_left]; exact hk.2.1) (Or.inr ⟨_, rfl⟩)
        show Go p e s below ({ frames := 1, cells := 1, slots := 64, locals := 13 } : Room).cells ({ frames := 1, cells := 1, slots := 64, locals := 13 } : Room).slots (Q5 Z n F h0 n0) T5 (mkF m 104 #[.val (.ref a), .val (.int (Int32.ofNat n)), .val (.ref z), .val (.int (Int32.ofNat lw)), .val (.int (Int32.ofNat r)), .val (.int (Int32.ofNat i)), .val (.int (Int32.ofNat k))] [(.int (Int32.ofNat r)), (.int (Int32.ofNat (i + k)))])
        refine Go.st (fun _ k_ => XS.icmpYes X5.here hx rfl (pc0 := 104) (pc' := 117) rfl (hb hby d5_104) rfl (flt (fun q => hrk ((on_lt (by omega) (by omega)).mp q))).2.2.2 (by decide) (by decide) k_) ?_
        show Go p e s below ({ frames := 1, cells := 1, slots := 64, locals := 13 } : Room).cells ({ frames := 1, cells := 1, slots := 64, locals := 13 } : Room).slots (Q5 Z n F h0 n0) T5 (mkF m 117 #[.val (.ref a), .val (.int (Int32.ofNat n)), .val (.ref z), .val (.int (Int32.ofNat lw)), .val (.int (Int32.ofNat r)), .val (.int (Int32.ofNat i)), .val (.int (Int32.ofNat k))] [])
        refine Go.st (fun _ k_ => XS.iinc X5.here hx rfl (hb hby d5_117) rfl (l' := #[.val (.ref a), .val (.int (Int32.ofNat n)), .val (.ref z), .val (.int (Int32.ofNat lw)), .val (.int (Int32.ofNat r)), .val (.int ((Int32.ofNat i) + (1 : Int32))), .val (.int (Int32.ofNat k))]) rfl k_) ?_
        show Go p e s below ({ frames := 1, cells := 1, slots := 64, locals := 13 } : Room).cells ({ frames := 1, cells := 1, slots := 64, locals := 13 } : Room).slots (Q5 Z n F h0 n0) T5 (mkF m 120 #[.val (.ref a), .val (.int (Int32.ofNat n)), .val (.ref z), .val (.int (Int32.ofNat lw)), .val (.int (Int32.ofNat r)), .val (.int ((Int32.ofNat i) + (1 : Int32))), .val (.int (Int32.ofNat k))] [])
        refine Go.st (fun _ k_ => XS.goto X5.here hx rfl (pc0 := 120) (pc' := 21) rfl (hb hby d5_120) (by decide) (by decide) k_) ?_
        show Go p e s below ({ frames := 1, cells := 1, slots := 64, locals := 13 } : Room).cells ({ frames := 1, cells := 1, slots := 64, locals := 13 } : Room).slots (Q5 Z n F h0 n0) T5 (mkF m 21 #[.val (.ref a), .val (.int (Int32.ofNat n)), .val (.ref z), .val (.int (Int32.ofNat lw)), .val (.int (Int32.ofNat r)), .val (.int ((Int32.ofNat i) + (1 : Int32))), .val (.int (Int32.ofNat k))] [])
        rw [on_succ]
        exact ih (i + 1) lw r _ (by omega) (by omega) T5 _ _ X5 e5 N5 VA' _ V5 G1' G2' (by omega) hlr hrn hl1 HM (Or.inr ⟨_, rfl⟩)
      have inner : ∀ (d2 k : Nat), i + k + d2 = n → Mt F n i k → ∀ (T' : State) (locs' : List Loc) (X' : Stand p l e ({ frames := 1, cells := 1, slots := 64, locals := 13 } : Room) s m #[(.ref a)] below meth c T' locs' (0 + 1) (0 + 64)) (eT' : T'.heap = h) (Nf' : Fr n0 locs'), Go p e s below ({ frames := 1, cells := 1, slots := 64, locals := 13 } : Room).cells ({ frames := 1, cells := 1, slots := 64, locals := 13 } : Room).slots (Q5 Z n F h0 n0) T' (mkF m 54 #[.val (.ref a), .val (.int (Int32.ofNat n)), .val (.ref z), .val (.int (Int32.ofNat lw)), .val (.int (Int32.ofNat r)), .val (.int (Int32.ofNat i)), .val (.int (Int32.ofNat k))] []) := by
        intro d2
        induction d2 with
        | zero =>
          intro k hd2 hM T' locs' X' eT' Nf'
          show Go p e s below ({ frames := 1, cells := 1, slots := 64, locals := 13 } : Room).cells ({ frames := 1, cells := 1, slots := 64, locals := 13 } : Room).slots (Q5 Z n F h0 n0) T' (mkF m 54 #[.val (.ref a), .val (.int (Int32.ofNat n)), .val (.ref z), .val (.int (Int32.ofNat lw)), .val (.int (Int32.ofNat r)), .val (.int (Int32.ofNat i)), .val (.int (Int32.ofNat k))] [])
          refine Go.st (fun _ k_ => XS.iload X'.here hx rfl (hb hby d5_54) rfl k_) ?_
          show Go p e s below ({ frames := 1, cells := 1, slots := 64, locals := 13 } : Room).cells ({ frames := 1, cells := 1, slots := 64, locals := 13 } : Room).slots (Q5 Z n F h0 n0) T' (mkF m 56 #[.val (.ref a), .val (.int (Int32.ofNat n)), .val (.ref z), .val (.int (Int32.ofNat lw)), .val (.int (Int32.ofNat r)), .val (.int (Int32.ofNat i)), .val (.int (Int32.ofNat k))] [(.int (Int32.ofNat i))])
          refine Go.st (fun _ k_ => XS.iload X'.here hx rfl (hb hby d5_56) rfl k_) ?_
          show Go p e s below ({ frames := 1, cells := 1, slots := 64, locals := 13 } : Room).cells ({ frames := 1, cells := 1, slots := 64, locals := 13 } : Room).slots (Q5 Z n F h0 n0) T' (mkF m 58 #[.val (.ref a), .val (.int (Int32.ofNat n)), .val (.ref z), .val (.int (Int32.ofNat lw)), .val (.int (Int32.ofNat r)), .val (.int (Int32.ofNat i)), .val (.int (Int32.ofNat k))] [(.int (Int32.ofNat k)), (.int (Int32.ofNat i))])
          refine Go.st (fun _ k_ => XS.iadd X'.here hx rfl (hb hby d5_58) rfl k_) ?_
          show Go p e s below ({ frames := 1, cells := 1, slots := 64, locals := 13 } : Room).cells ({ frames := 1, cells := 1, slots := 64, locals := 13 } : Room).slots (Q5 Z n F h0 n0) T' (mkF m 59 #[.val (.ref a), .val (.int (Int32.ofNat n)), .val (.ref z), .val (.int (Int32.ofNat lw)), .val (.int (Int32.ofNat r)), .val (.int (Int32.ofNat i)), .val (.int (Int32.ofNat k))] [(.int ((Int32.ofNat i) + (Int32.ofNat k)))])
          rw [on_add]
          show Go p e s below ({ frames := 1, cells := 1, slots := 64, locals := 13 } : Room).cells ({ frames := 1, cells := 1, slots := 64, locals := 13 } : Room).slots (Q5 Z n F h0 n0) T' (mkF m 59 #[.val (.ref a), .val (.int (Int32.ofNat n)), .val (.ref z), .val (.int (Int32.ofNat lw)), .val (.int (Int32.ofNat r)), .val (.int (Int32.ofNat i)), .val (.int (Int32.ofNat k))] [(.int (Int32.ofNat (i + k)))])
          refine Go.st (fun _ k_ => XS.iloadN X'.here hx rfl (hb hby d5_59) rfl k_) ?_
          show Go p e s below ({ frames := 1, cells := 1, slots := 64, locals := 13 } : Room).cells ({ frames := 1, cells := 1, slots := 64, locals := 13 } : Room).slots (Q5 Z n F h0 n0) T' (mkF m 60 #[.val (.ref a), .val (.int (Int32.ofNat n)), .val (.ref z), .val (.int (Int32.ofNat lw)), .val (.int (Int32.ofNat r)), .val (.int (Int32.ofNat i)), .val (.int (Int32.ofNat k))] [(.int (Int32.ofNat n)), (.int (Int32.ofNat (i + k)))])
          refine Go.st (fun _ k_ => XS.icmpYes X'.here hx rfl (pc0 := 60) (pc' := 91) rfl (hb hby d5_60) rfl (flt (fun q => by have := (on_lt (by omega) (by omega)).mp q; omega)).2.1 (by decide) (by decide) k_) ?_
          show Go p e s below ({ frames := 1, cells := 1, slots := 64, locals := 13 } : Room).cells ({ frames := 1, cells := 1, slots := 64, locals := 13 } : Room).slots (Q5 Z n F h0 n0) T' (mkF m 91 #[.val (.ref a), .val (.int (Int32.ofNat n)), .val (.ref z), .val (.int (Int32.ofNat lw)), .val (.int (Int32.ofNat r)), .val (.int (Int32.ofNat i)), .val (.int (Int32.ofNat k))] [])
          exact j91 k ⟨by omega, hM, Or.inl (by omega)⟩ T' locs' X' eT' Nf'
        | succ d2 ih2 =>
          intro k hd2 hM T' locs' X' eT' Nf'
          show Go p e s below ({ frames := 1, cells := 1, slots := 64, locals := 13 } : Room).cells ({ frames := 1, cells := 1, slots := 64, locals := 13 } : Room).slots (Q5 Z n F h0 n0) T' (mkF m 54 #[.val (.ref a), .val (.int (Int32.ofNat n)), .val (.ref z), .val (.int (Int32.ofNat lw)), .val (.int (Int32.ofNat r)), .val (.int (Int32.ofNat i)), .val (.int (Int32.ofNat k))] [])
          refine Go.st (fun _ k_ => XS.iload X'.here hx rfl (hb hby d5_54) rfl k_) ?_
          show Go p e s below ({ frames := 1, cells := 1, slots := 64, locals := 13 } : Room).cells ({ frames := 1, cells := 1, slots := 64, locals := 13 } : Room).slots (Q5 Z n F h0 n0) T' (mkF m 56 #[.val (.ref a), .val (.int (Int32.ofNat n)), .val (.ref z), .val (.int (Int32.ofNat lw)), .val (.int (Int32.ofNat r)), .val (.int (Int32.ofNat i)), .val (.int (Int32.ofNat k))] [(.int (Int32.ofNat i))])
          refine Go.st (fun _ k_ => XS.iload X'.here hx rfl (hb hby d5_56) rfl k_) ?_
          show Go p e s below ({ frames := 1, cells := 1, slots := 64, locals := 13 } : Room).cells ({ frames := 1, cells := 1, slots := 64, locals := 13 } : Room).slots (Q5 Z n F h0 n0) T' (mkF m 58 #[.val (.ref a), .val (.int (Int32.ofNat n)), .val (.ref z), .val (.int (Int32.ofNat lw)), .val (.int (Int32.ofNat r)), .val (.int (Int32.ofNat i)), .val (.int (Int32.ofNat k))] [(.int (Int32.ofNat k)), (.int (Int32.ofNat i))])
          refine Go.st (fun _ k_ => XS.iadd X'.here hx rfl (hb hby d5_58) rfl k_) ?_
          show Go p e s below ({ frames := 1, cells := 1, slots := 64, locals := 13 } : Room).cells ({ frames := 1, cells := 1, slots := 64, locals := 13 } : Room).slots (Q5 Z n F h0 n0) T' (mkF m 59 #[.val (.ref a), .val (.int (Int32.ofNat n)), .val (.ref z), .val (.int (Int32.ofNat lw)), .val (.int (Int32.ofNat r)), .val (.int (Int32.ofNat i)), .val (.int (Int32.ofNat k))] [(.int ((Int32.ofNat i) + (Int32.ofNat k)))])
          rw [on_add]
          show Go p e s below ({ frames := 1, cells := 1, slots := 64, locals := 13 } : Room).cells ({ frames := 1, cells := 1, slots := 64, locals := 13 } : Room).slots (Q5 Z n F h0 n0) T' (mkF m 59 #[.val (.ref a), .val (.int (Int32.ofNat n)), .val (.ref z), .val (.int (Int32.ofNat lw)), .val (.int (Int32.ofNat r)), .val (.int (Int32.ofNat i)), .val (.int (Int32.ofNat k))] [(.int (Int32.ofNat (i + k)))])
          refine Go.st (fun _ k_ => XS.iloadN X'.here hx rfl (hb hby d5_59) rfl k_) ?_
          show Go p e s below ({ frames := 1, cells := 1, slots := 64, locals := 13 } : Room).cells ({ frames := 1, cells := 1, slots := 64, locals := 13 } : Room).slots (Q5 Z n F h0 n0) T' (mkF m 60 #[.val (.ref a), .val (.int (Int32.ofNat n)), .val (.ref z), .val (.int (Int32.ofNat lw)), .val (.int (Int32.ofNat r)), .val (.int (Int32.ofNat i)), .val (.int (Int32.ofNat k))] [(.int (Int32.ofNat n)), (.int (Int32.ofNat (i + k)))])
          refine Go.st (fun _ k_ => XS.icmpNo X'.here hx rfl (hb hby d5_60) rfl (tlt ((on_lt (by omega) (by omega)).mpr (by omega))).2.1 k_) ?_
          show Go p e s below ({ frames := 1, cells := 1, slots := 64, locals := 13 } : Room).cells ({ frames := 1, cells := 1, slots := 64, locals := 13 } : Room).slots (Q5 Z n F h0 n0) T' (mkF m 63 #[.val (.ref a), .val (.int (Int32.ofNat n)), .val (.ref z), .val (.int (Int32.ofNat lw)), .val (.int (Int32.ofNat r)), .val (.int (Int32.ofNat i)), .val (.int (Int32.ofNat k))] [])
          refine Go.st (fun _ k_ => XS.aloadN X'.here hx rfl (hb hby d5_63) rfl rfl k_) ?_
          show Go p e s below ({ frames := 1, cells := 1, slots := 64, locals := 13 } : Room).cells ({ frames := 1, cells := 1, slots := 64, locals := 13 } : Room).slots (Q5 Z n F h0 n0) T' (mkF m 64 #[.val (.ref a), .val (.int (Int32.ofNat n)), .val (.ref z), .val (.int (Int32.ofNat lw)), .val (.int (Int32.ofNat r)), .val (.int (Int32.ofNat i)), .val (.int (Int32.ofNat k))] [(.ref a)])
          refine Go.st (fun _ k_ => XS.iloadN X'.here hx rfl (hb hby d5_64) rfl k_) ?_
          show Go p e s below ({ frames := 1, cells := 1, slots := 64, locals := 13 } : Room).cells ({ frames := 1, cells := 1, slots := 64, locals := 13 } : Room).slots (Q5 Z n F h0 n0) T' (mkF m 65 #[.val (.ref a), .val (.int (Int32.ofNat n)), .val (.ref z), .val (.int (Int32.ofNat lw)), .val (.int (Int32.ofNat r)), .val (.int (Int32.ofNat i)), .val (.int (Int32.ofNat k))] [(.int (Int32.ofNat n)), (.ref a)])
          refine Go.st (fun _ k_ => XS.iconst X'.here hx rfl (hb hby d5_65) k_) ?_
          show Go p e s below ({ frames := 1, cells := 1, slots := 64, locals := 13 } : Room).cells ({ frames := 1, cells := 1, slots := 64, locals := 13 } : Room).slots (Q5 Z n F h0 n0) T' (mkF m 66 #[.val (.ref a), .val (.int (Int32.ofNat n)), .val (.ref z), .val (.int (Int32.ofNat lw)), .val (.int (Int32.ofNat r)), .val (.int (Int32.ofNat i)), .val (.int (Int32.ofNat k))] [(.int (1 : Int32)), (.int (Int32.ofNat n)), (.ref a)])
          refine Go.st (fun _ k_ => XS.isub X'.here hx rfl (hb hby d5_66) rfl k_) ?_
          show Go p e s below ({ frames := 1, cells := 1, slots := 64, locals := 13 } : Room).cells ({ frames := 1, cells := 1, slots := 64, locals := 13 } : Room).slots (Q5 Z n F h0 n0) T' (mkF m 67 #[.val (.ref a), .val (.int (Int32.ofNat n)), .val (.ref z), .val (.int (Int32.ofNat lw)), .val (.int (Int32.ofNat r)), .val (.int (Int32.ofNat i)), .val (.int (Int32.ofNat k))] [(.int ((Int32.ofNat n) - (1 : Int32))), (.ref a)])
          rw [on_sub1 (by omega)]
          show Go p e s below ({ frames := 1, cells := 1, slots := 64, locals := 13 } : Room).cells ({ frames := 1, cells := 1, slots := 64, locals := 13 } : Room).slots (Q5 Z n F h0 n0) T' (mkF m 67 #[.val (.ref a), .val (.int (Int32.ofNat n)), .val (.ref z), .val (.int (Int32.ofNat lw)), .val (.int (Int32.ofNat r)), .val (.int (Int32.ofNat i)), .val (.int (Int32.ofNat k))] [(.int (Int32.ofNat (n - 1))), (.ref a)])
          refine Go.st (fun _ k_ => XS.iload X'.here hx rfl (hb hby d5_67) rfl k_) ?_
          show Go p e s below ({ frames := 1, cells := 1, slots := 64, locals := 13 } : Room).cells ({ frames := 1, cells := 1, slots := 64, locals := 13 } : Room).slots (Q5 Z n F h0 n0) T' (mkF m 69 #[.val (.ref a), .val (.int (Int32.ofNat n)), .val (.ref z), .val (.int (Int32.ofNat lw)), .val (.int (Int32.ofNat r)), .val (.int (Int32.ofNat i)), .val (.int (Int32.ofNat k))] [(.int (Int32.ofNat k)), (.int (Int32.ofNat (n - 1))), (.ref a)])
          refine Go.st (fun _ k_ => XS.isub X'.here hx rfl (hb hby d5_69) rfl k_) ?_
          show Go p e s below ({ frames := 1, cells := 1, slots := 64, locals := 13 } : Room).cells ({ frames := 1, cells := 1, slots := 64, locals := 13 } : Room).slots (Q5 Z n F h0 n0) T' (mkF m 70 #[.val (.ref a), .val (.int (Int32.ofNat n)), .val (.ref z), .val (.int (Int32.ofNat lw)), .val (.int (Int32.ofNat r)), .val (.int (Int32.ofNat i)), .val (.int (Int32.ofNat k))] [(.int ((Int32.ofNat (n - 1)) - (Int32.ofNat k))), (.ref a)])
          rw [on_sub (by omega : k ≤ n - 1)]
          show Go p e s below ({ frames := 1, cells := 1, slots := 64, locals := 13 } : Room).cells ({ frames := 1, cells := 1, slots := 64, locals := 13 } : Room).slots (Q5 Z n F h0 n0) T' (mkF m 70 #[.val (.ref a), .val (.int (Int32.ofNat n)), .val (.ref z), .val (.int (Int32.ofNat lw)), .val (.int (Int32.ofNat r)), .val (.int (Int32.ofNat i)), .val (.int (Int32.ofNat k))] [(.int (Int32.ofNat (n - 1 - k))), (.ref a)])
          refine Go.st (AV.ldI X' hx hZ eT' VA (on_idx (by omega)) (on_nn (by omega)) (by omega) (g := (mkF m 70 #[.val (.ref a), .val (.int (Int32.ofNat n)), .val (.ref z), .val (.int (Int32.ofNat lw)), .val (.int (Int32.ofNat r)), .val (.int (Int32.ofNat i)), .val (.int (Int32.ofNat k))] [(.int (Int32.ofNat (n - 1 - k))), (.ref a)])) rfl rfl (hb hby d5_70)) ?_
          show Go p e s below ({ frames := 1, cells := 1, slots := 64, locals := 13 } : Room).cells ({ frames := 1, cells := 1, slots := 64, locals := 13 } : Room).slots (Q5 Z n F h0 n0) T' (mkF m 71 #[.val (.ref a), .val (.int (Int32.ofNat n)), .val (.ref z), .val (.int (Int32.ofNat lw)), .val (.int (Int32.ofNat r)), .val (.int (Int32.ofNat i)), .val (.int (Int32.ofNat k))] [(.int (F (n - 1 - k)))])
          refine Go.st (fun _ k_ => XS.aloadN X'.here hx rfl (hb hby d5_71) rfl rfl k_) ?_
          show Go p e s below ({ frames := 1, cells := 1, slots := 64, locals := 13 } : Room).cells ({ frames := 1, cells := 1, slots := 64, locals := 13 } : Room).slots (Q5 Z n F h0 n0) T' (mkF m 72 #[.val (.ref a), .val (.int (Int32.ofNat n)), .val (.ref z), .val (.int (Int32.ofNat lw)), .val (.int (Int32.ofNat r)), .val (.int (Int32.ofNat i)), .val (.int (Int32.ofNat k))] [(.ref a), (.int (F (n - 1 - k)))])
          refine Go.st (fun _ k_ => XS.iloadN X'.here hx rfl (hb hby d5_72) rfl k_) ?_
          show Go p e s below ({ frames := 1, cells := 1, slots := 64, locals := 13 } : Room).cells ({ frames := 1, cells := 1, slots := 64, locals := 13 } : Room).slots (Q5 Z n F h0 n0) T' (mkF m 73 #[.val (.ref a), .val (.int (Int32.ofNat n)), .val (.ref z), .val (.int (Int32.ofNat lw)), .val (.int (Int32.ofNat r)), .val (.int (Int32.ofNat i)), .val (.int (Int32.ofNat k))] [(.int (Int32.ofNat n)), (.ref a), (.int (F (n - 1 - k)))])
          refine Go.st (fun _ k_ => XS.iconst X'.here hx rfl (hb hby d5_73) k_) ?_
          show Go p e s below ({ frames := 1, cells := 1, slots := 64, locals := 13 } : Room).cells ({ frames := 1, cells := 1, slots := 64, locals := 13 } : Room).slots (Q5 Z n F h0 n0) T' (mkF m 74 #[.val (.ref a), .val (.int (Int32.ofNat n)), .val (.ref z), .val (.int (Int32.ofNat lw)), .val (.int (Int32.ofNat r)), .val (.int (Int32.ofNat i)), .val (.int (Int32.ofNat k))] [(.int (1 : Int32)), (.int (Int32.ofNat n)), (.ref a), (.int (F (n - 1 - k)))])
          refine Go.st (fun _ k_ => XS.isub X'.here hx rfl (hb hby d5_74) rfl k_) ?_
          show Go p e s below ({ frames := 1, cells := 1, slots := 64, locals := 13 } : Room).cells ({ frames := 1, cells := 1, slots := 64, locals := 13 } : Room).slots (Q5 Z n F h0 n0) T' (mkF m 75 #[.val (.ref a), .val (.int (Int32.ofNat n)), .val (.ref z), .val (.int (Int32.ofNat lw)), .val (.int (Int32.ofNat r)), .val (.int (Int32.ofNat i)), .val (.int (Int32.ofNat k))] [(.int ((Int32.ofNat n) - (1 : Int32))), (.ref a), (.int (F (n - 1 - k)))])
          rw [on_sub1 (by omega)]
          show Go p e s below ({ frames := 1, cells := 1, slots := 64, locals := 13 } : Room).cells ({ frames := 1, cells := 1, slots := 64, locals := 13 } : Room).slots (Q5 Z n F h0 n0) T' (mkF m 75 #[.val (.ref a), .val (.int (Int32.ofNat n)), .val (.ref z), .val (.int (Int32.ofNat lw)), .val (.int (Int32.ofNat r)), .val (.int (Int32.ofNat i)), .val (.int (Int32.ofNat k))] [(.int (Int32.ofNat (n - 1))), (.ref a), (.int (F (n - 1 - k)))])
          refine Go.st (fun _ k_ => XS.iload X'.here hx rfl (hb hby d5_75) rfl k_) ?_
          show Go p e s below ({ frames := 1, cells := 1, slots := 64, locals := 13 } : Room).cells ({ frames := 1, cells := 1, slots := 64, locals := 13 } : Room).slots (Q5 Z n F h0 n0) T' (mkF m 77 #[.val (.ref a), .val (.int (Int32.ofNat n)), .val (.ref z), .val (.int (Int32.ofNat lw)), .val (.int (Int32.ofNat r)), .val (.int (Int32.ofNat i)), .val (.int (Int32.ofNat k))] [(.int (Int32.ofNat i)), (.int (Int32.ofNat (n - 1))), (.ref a), (.int (F (n - 1 - k)))])
          refine Go.st (fun _ k_ => XS.isub X'.here hx rfl (hb hby d5_77) rfl k_) ?_
          show Go p e s below ({ frames := 1, cells := 1, slots := 64, locals := 13 } : Room).cells ({ frames := 1, cells := 1, slots := 64, locals := 13 } : Room).slots (Q5 Z n F h0 n0) T' (mkF m 78 #[.val (.ref a), .val (.int (Int32.ofNat n)), .val (.ref z), .val (.int (Int32.ofNat lw)), .val (.int (Int32.ofNat r)), .val (.int (Int32.ofNat i)), .val (.int (Int32.ofNat k))] [(.int ((Int32.ofNat (n - 1)) - (Int32.ofNat i))), (.ref a), (.int (F (n - 1 - k)))])
          rw [on_sub (by omega : i ≤ n - 1)]
          show Go p e s below ({ frames := 1, cells := 1, slots := 64, locals := 13 } : Room).cells ({ frames := 1, cells := 1, slots := 64, locals := 13 } : Room).slots (Q5 Z n F h0 n0) T' (mkF m 78 #[.val (.ref a), .val (.int (Int32.ofNat n)), .val (.ref z), .val (.int (Int32.ofNat lw)), .val (.int (Int32.ofNat r)), .val (.int (Int32.ofNat i)), .val (.int (Int32.ofNat k))] [(.int (Int32.ofNat (n - 1 - i))), (.ref a), (.int (F (n - 1 - k)))])
          refine Go.st (fun _ k_ => XS.iload X'.here hx rfl (hb hby d5_78) rfl k_) ?_
          show Go p e s below ({ frames := 1, cells := 1, slots := 64, locals := 13 } : Room).cells ({ frames := 1, cells := 1, slots := 64, locals := 13 } : Room).slots (Q5 Z n F h0 n0) T' (mkF m 80 #[.val (.ref a), .val (.int (Int32.ofNat n)), .val (.ref z), .val (.int (Int32.ofNat lw)), .val (.int (Int32.ofNat r)), .val (.int (Int32.ofNat i)), .val (.int (Int32.ofNat k))] [(.int (Int32.ofNat k)), (.int (Int32.ofNat (n - 1 - i))), (.ref a), (.int (F (n - 1 - k)))])
          refine Go.st (fun _ k_ => XS.isub X'.here hx rfl (hb hby d5_80) rfl k_) ?_
          show Go p e s below ({ frames := 1, cells := 1, slots := 64, locals := 13 } : Room).cells ({ frames := 1, cells := 1, slots := 64, locals := 13 } : Room).slots (Q5 Z n F h0 n0) T' (mkF m 81 #[.val (.ref a), .val (.int (Int32.ofNat n)), .val (.ref z), .val (.int (Int32.ofNat lw)), .val (.int (Int32.ofNat r)), .val (.int (Int32.ofNat i)), .val (.int (Int32.ofNat k))] [(.int ((Int32.ofNat (n - 1 - i)) - (Int32.ofNat k))), (.ref a), (.int (F (n - 1 - k)))])
          rw [on_sub (by omega : k ≤ n - 1 - i)]
          show Go p e s below ({ frames := 1, cells := 1, slots := 64, locals := 13 } : Room).cells ({ frames := 1, cells := 1, slots := 64, locals := 13 } : Room).slots (Q5 Z n F h0 n0) T' (mkF m 81 #[.val (.ref a), .val (.int (Int32.ofNat n)), .val (.ref z), .val (.int (Int32.ofNat lw)), .val (.int (Int32.ofNat r)), .val (.int (Int32.ofNat i)), .val (.int (Int32.ofNat k))] [(.int (Int32.ofNat (n - 1 - i - k))), (.ref a), (.int (F (n - 1 - k)))])
          rw [Nat.sub_sub (n - 1) i k]
          show Go p e s below ({ frames := 1, cells := 1, slots := 64, locals := 13 } : Room).cells ({ frames := 1, cells := 1, slots := 64, locals := 13 } : Room).slots (Q5 Z n F h0 n0) T' (mkF m 81 #[.val (.ref a), .val (.int (Int32.ofNat n)), .val (.ref z), .val (.int (Int32.ofNat lw)), .val (.int (Int32.ofNat r)), .val (.int (Int32.ofNat i)), .val (.int (Int32.ofNat k))] [(.int (Int32.ofNat (n - 1 - (i + k)))), (.ref a), (.int (F (n - 1 - k)))])
          refine Go.st (AV.ldI X' hx hZ eT' VA (on_idx (by omega)) (on_nn (by omega)) (by omega) (g := (mkF m 81 #[.val (.ref a), .val (.int (Int32.ofNat n)), .val (.ref z), .val (.int (Int32.ofNat lw)), .val (.int (Int32.ofNat r)), .val (.int (Int32.ofNat i)), .val (.int (Int32.ofNat k))] [(.int (Int32.ofNat (n - 1 - (i + k)))), (.ref a), (.int (F (n - 1 - k)))])) rfl rfl (hb hby d5_81)) ?_
          by_cases hFe : (F (n - 1 - k)) = (F (n - 1 - (i + k)))
          · skip
            show Go p e s below ({ frames := 1, cells := 1, slots := 64, locals := 13 } : Room).cells ({ frames := 1, cells := 1, slots := 64, locals := 13 } : Room).slots (Q5 Z n F h0 n0) T' (mkF m 82 #[.val (.ref a), .val (.int (Int32.ofNat n)), .val (.ref z), .val (.int (Int32.ofNat lw)), .val (.int (Int32.ofNat r)), .val (.int (Int32.ofNat i)), .val (.int (Int32.ofNat k))] [(.int (F (n - 1 - (i + k)))), (.int (F (n - 1 - k)))])
            refine Go.st (fun _ k_ => XS.icmpNo X'.here hx rfl (hb hby d5_82) rfl (teq hFe).2 k_) ?_
            show Go p e s below ({ frames := 1, cells := 1, slots := 64, locals := 13 } : Room).cells ({ frames := 1, cells := 1, slots := 64, locals := 13 } : Room).slots (Q5 Z n F h0 n0) T' (mkF m 85 #[.val (.ref a), .val (.int (Int32.ofNat n)), .val (.ref z), .val (.int (Int32.ofNat lw)), .val (.int (Int32.ofNat r)), .val (.int (Int32.ofNat i)), .val (.int (Int32.ofNat k))] [])
            refine Go.st (fun _ k_ => XS.iinc X'.here hx rfl (hb hby d5_85) rfl (l' := #[.val (.ref a), .val (.int (Int32.ofNat n)), .val (.ref z), .val (.int (Int32.ofNat lw)), .val (.int (Int32.ofNat r)), .val (.int (Int32.ofNat i)), .val (.int ((Int32.ofNat k) + (1 : Int32)))]) rfl k_) ?_
            show Go p e s below ({ frames := 1, cells := 1, slots := 64, locals := 13 } : Room).cells ({ frames := 1, cells := 1, slots := 64, locals := 13 } : Room).slots (Q5 Z n F h0 n0) T' (mkF m 88 #[.val (.ref a), .val (.int (Int32.ofNat n)), .val (.ref z), .val (.int (Int32.ofNat lw)), .val (.int (Int32.ofNat r)), .val (.int (Int32.ofNat i)), .val (.int ((Int32.ofNat k) + (1 : Int32)))] [])
            refine Go.st (fun _ k_ => XS.goto X'.here hx rfl (pc0 := 88) (pc' := 54) rfl (hb hby d5_88) (by decide) (by decide) k_) ?_
            show Go p e s below ({ frames := 1, cells := 1, slots := 64, locals := 13 } : Room).cells ({ frames := 1, cells := 1, slots := 64, locals := 13 } : Room).slots (Q5 Z n F h0 n0) T' (mkF m 54 #[.val (.ref a), .val (.int (Int32.ofNat n)), .val (.ref z), .val (.int (Int32.ofNat lw)), .val (.int (Int32.ofNat r)), .val (.int (Int32.ofNat i)), .val (.int ((Int32.ofNat k) + (1 : Int32)))] [])
            rw [on_succ]
            exact ih2 (k + 1) (by omega) (hM.more hFe) T' locs' X' eT' Nf'
          · skip
            show Go p e s below ({ frames := 1, cells := 1, slots := 64, locals := 13 } : Room).cells ({ frames := 1, cells := 1, slots := 64, locals := 13 } : Room).slots (Q5 Z n F h0 n0) T' (mkF m 82 #[.val (.ref a), .val (.int (Int32.ofNat n)), .val (.ref z), .val (.int (Int32.ofNat lw)), .val (.int (Int32.ofNat r)), .val (.int (Int32.ofNat i)), .val (.int (Int32.ofNat k))] [(.int (F (n - 1 - (i + k)))), (.int (F (n - 1 - k)))])
            refine Go.st (fun _ k_ => XS.icmpYes X'.here hx rfl (pc0 := 82) (pc' := 91) rfl (hb hby d5_82) rfl (feq hFe).2 (by decide) (by decide) k_) ?_
            show Go p e s below ({ frames := 1, cells := 1, slots := 64, locals := 13 } : Room).cells ({ frames := 1, cells := 1, slots := 64, locals := 13 } : Room).slots (Q5 Z n F h0 n0) T' (mkF m 91 #[.val (.ref a), .val (.int (Int32.ofNat n)), .val (.ref z), .val (.int (Int32.ofNat lw)), .val (.int (Int32.ofNat r)), .val (.int (Int32.ofNat i)), .val (.int (Int32.ofNat k))] [])
            exact j91 k ⟨by omega, hM, Or.inr hFe⟩ T' locs' X' eT' Nf'
      have j52 : ∀ (k : Nat), i + k ≤ n → Mt F n i k → ∀ (T' : State) (locs' : List Loc) (X' : Stand p l e ({ frames := 1, cells := 1, slots := 64, locals := 13 } : Room) s m #[(.ref a)] below meth c T' locs' (0 + 1) (0 + 64)) (eT' : T'.heap = h) (Nf' : Fr n0 locs'), Go p e s below ({ frames := 1, cells := 1, slots := 64, locals := 13 } : Room).cells ({ frames := 1, cells := 1, slots := 64, locals := 13 } : Room).slots (Q5 Z n F h0 n0) T' (mkF m 52 #[.val (.ref a), .val (.int (Int32.ofNat n)), .val (.ref z), .val (.int (Int32.ofNat lw)), .val (.int (Int32.ofNat r)), .val (.int (Int32.ofNat i)), s6] [(.int (Int32.ofNat k))]) := by
        intro k hkn hM T' locs' X' eT' Nf'
        have os : ∀ r6 : Int32, storeLocals #[.val (.ref a), .val (.int (Int32.ofNat n)), .val (.ref z), .val (.int (Int32.ofNat lw)), .val (.int (Int32.ofNat r)), .val (.int (Int32.ofNat i)), s6] 6 (.int r6) = some #[.val (.ref a), .val (.int (Int32.ofNat n)), .val (.ref z), .val (.int (Int32.ofNat lw)), .val (.int (Int32.ofNat r)), .val (.int (Int32.ofNat i)), .val (.int r6)] := by
          intro r6
          rcases hs6 with rfl | ⟨v, rfl⟩ <;> rfl
        show Go p e s below ({ frames := 1, cells := 1, slots := 64, locals := 13 } : Room).cells ({ frames := 1, cells := 1, slots := 64, locals := 13 } : Room).slots (Q5 Z n F h0 n0) T' (mkF m 52 #[.val (.ref a), .val (.int (Int32.ofNat n)), .val (.ref z), .val (.int (Int32.ofNat lw)), .val (.int (Int32.ofNat r)), .val (.int (Int32.ofNat i)), s6] [(.int (Int32.ofNat k))])
        refine Go.st (fun _ k_ => XS.istore X'.here hx rfl (hb hby d5_52) rfl (l' := #[.val (.ref a), .val (.int (Int32.ofNat n)), .val (.ref z), .val (.int (Int32.ofNat lw)), .val (.int (Int32.ofNat r)), .val (.int (Int32.ofNat i)), .val (.int (Int32.ofNat k))]) (by first | rfl | exact (os _)) k_) ?_
        show Go p e s below ({ frames := 1, cells := 1, slots := 64, locals := 13 } : Room).cells ({ frames := 1, cells := 1, slots := 64, locals := 13 } : Room).slots (Q5 Z n F h0 n0) T' (mkF m 54 #[.val (.ref a), .val (.int (Int32.ofNat n)), .val (.ref z), .val (.int (Int32.ofNat lw)), .val (.int (Int32.ofNat r)), .val (.int (Int32.ofNat i)), .val (.int (Int32.ofNat k))] [])
        exact inner (n - i - k) k (by omega) hM T' locs' X' eT' Nf'
      by_cases hir : i < r
      · skip
        show Go p e s below ({ frames := 1, cells := 1, slots := 64, locals := 13 } : Room).cells ({ frames := 1, cells := 1, slots := 64, locals := 13 } : Room).slots (Q5 Z n F h0 n0) T (mkF m 31 #[.val (.ref a), .val (.int (Int32.ofNat n)), .val (.ref z), .val (.int (Int32.ofNat lw)), .val (.int (Int32.ofNat r)), .val (.int (Int32.ofNat i)), s6] [(.int (Int32.ofNat r)), (.int (Int32.ofNat i))])
        refine Go.st (fun _ k_ => XS.icmpNo X.here hx rfl (hb hby d5_31) rfl (tlt ((on_lt (by omega) (by omega)).mpr hir)).2.1 k_) ?_
        have hl0 := hl1 (by omega)
        obtain ⟨k', hk', ek'⟩ := G1 (i - lw) (by omega) (by omega)
        have hk'n := hk'.1
        show Go p e s below ({ frames := 1, cells := 1, slots := 64, locals := 13 } : Room).cells ({ frames := 1, cells := 1, slots := 64, locals := 13 } : Room).slots (Q5 Z n F h0 n0) T (mkF m 34 #[.val (.ref a), .val (.int (Int32.ofNat n)), .val (.ref z), .val (.int (Int32.ofNat lw)), .val (.int (Int32.ofNat r)), .val (.int (Int32.ofNat i)), s6] [])
        refine Go.st (fun _ k_ => XS.iload X.here hx rfl (hb hby d5_34) rfl k_) ?_
        show Go p e s below ({ frames := 1, cells := 1, slots := 64, locals := 13 } : Room).cells ({ frames := 1, cells := 1, slots := 64, locals := 13 } : Room).slots (Q5 Z n F h0 n0) T (mkF m 36 #[.val (.ref a), .val (.int (Int32.ofNat n)), .val (.ref z), .val (.int (Int32.ofNat lw)), .val (.int (Int32.ofNat r)), .val (.int (Int32.ofNat i)), s6] [(.int (Int32.ofNat r))])
        refine Go.st (fun _ k_ => XS.iload X.here hx rfl (hb hby d5_36) rfl k_) ?_
        show Go p e s below ({ frames := 1, cells := 1, slots := 64, locals := 13 } : Room).cells ({ frames := 1, cells := 1, slots := 64, locals := 13 } : Room).slots (Q5 Z n F h0 n0) T (mkF m 38 #[.val (.ref a), .val (.int (Int32.ofNat n)), .val (.ref z), .val (.int (Int32.ofNat lw)), .val (.int (Int32.ofNat r)), .val (.int (Int32.ofNat i)), s6] [(.int (Int32.ofNat i)), (.int (Int32.ofNat r))])
        refine Go.st (fun _ k_ => XS.isub X.here hx rfl (hb hby d5_38) rfl k_) ?_
        show Go p e s below ({ frames := 1, cells := 1, slots := 64, locals := 13 } : Room).cells ({ frames := 1, cells := 1, slots := 64, locals := 13 } : Room).slots (Q5 Z n F h0 n0) T (mkF m 39 #[.val (.ref a), .val (.int (Int32.ofNat n)), .val (.ref z), .val (.int (Int32.ofNat lw)), .val (.int (Int32.ofNat r)), .val (.int (Int32.ofNat i)), s6] [(.int ((Int32.ofNat r) - (Int32.ofNat i)))])
        rw [on_sub (by omega : i ≤ r)]
        show Go p e s below ({ frames := 1, cells := 1, slots := 64, locals := 13 } : Room).cells ({ frames := 1, cells := 1, slots := 64, locals := 13 } : Room).slots (Q5 Z n F h0 n0) T (mkF m 39 #[.val (.ref a), .val (.int (Int32.ofNat n)), .val (.ref z), .val (.int (Int32.ofNat lw)), .val (.int (Int32.ofNat r)), .val (.int (Int32.ofNat i)), s6] [(.int (Int32.ofNat (r - i)))])
        refine Go.st (fun _ k_ => XS.aloadN X.here hx rfl (hb hby d5_39) rfl rfl k_) ?_
        show Go p e s below ({ frames := 1, cells := 1, slots := 64, locals := 13 } : Room).cells ({ frames := 1, cells := 1, slots := 64, locals := 13 } : Room).slots (Q5 Z n F h0 n0) T (mkF m 40 #[.val (.ref a), .val (.int (Int32.ofNat n)), .val (.ref z), .val (.int (Int32.ofNat lw)), .val (.int (Int32.ofNat r)), .val (.int (Int32.ofNat i)), s6] [(.ref z), (.int (Int32.ofNat (r - i)))])
        refine Go.st (fun _ k_ => XS.iload X.here hx rfl (hb hby d5_40) rfl k_) ?_
        show Go p e s below ({ frames := 1, cells := 1, slots := 64, locals := 13 } : Room).cells ({ frames := 1, cells := 1, slots := 64, locals := 13 } : Room).slots (Q5 Z n F h0 n0) T (mkF m 42 #[.val (.ref a), .val (.int (Int32.ofNat n)), .val (.ref z), .val (.int (Int32.ofNat lw)), .val (.int (Int32.ofNat r)), .val (.int (Int32.ofNat i)), s6] [(.int (Int32.ofNat i)), (.ref z), (.int (Int32.ofNat (r - i)))])
        refine Go.st (fun _ k_ => XS.iloadN X.here hx rfl (hb hby d5_42) rfl k_) ?_
        show Go p e s below ({ frames := 1, cells := 1, slots := 64, locals := 13 } : Room).cells ({ frames := 1, cells := 1, slots := 64, locals := 13 } : Room).slots (Q5 Z n F h0 n0) T (mkF m 43 #[.val (.ref a), .val (.int (Int32.ofNat n)), .val (.ref z), .val (.int (Int32.ofNat lw)), .val (.int (Int32.ofNat r)), .val (.int (Int32.ofNat i)), s6] [(.int (Int32.ofNat lw)), (.int (Int32.ofNat i)), (.ref z), (.int (Int32.ofNat (r - i)))])
        refine Go.st (fun _ k_ => XS.isub X.here hx rfl (hb hby d5_43) rfl k_) ?_
        show Go p e s below ({ frames := 1, cells := 1, slots := 64, locals := 13 } : Room).cells ({ frames := 1, cells := 1, slots := 64, locals := 13 } : Room).slots (Q5 Z n F h0 n0) T (mkF m 44 #[.val (.ref a), .val (.int (Int32.ofNat n)), .val (.ref z), .val (.int (Int32.ofNat lw)), .val (.int (Int32.ofNat r)), .val (.int (Int32.ofNat i)), s6] [(.int ((Int32.ofNat i) - (Int32.ofNat lw))), (.ref z), (.int (Int32.ofNat (r - i)))])
        rw [on_sub (by omega : lw ≤ i)]
        show Go p e s below ({ frames := 1, cells := 1, slots := 64, locals := 13 } : Room).cells ({ frames := 1, cells := 1, slots := 64, locals := 13 } : Room).slots (Q5 Z n F h0 n0) T (mkF m 44 #[.val (.ref a), .val (.int (Int32.ofNat n)), .val (.ref z), .val (.int (Int32.ofNat lw)), .val (.int (Int32.ofNat r)), .val (.int (Int32.ofNat i)), s6] [(.int (Int32.ofNat (i - lw))), (.ref z), (.int (Int32.ofNat (r - i)))])
        refine Go.st (AV.ldI X hx hZ eT VZ (on_idx (by omega)) (on_nn (by omega)) (by omega) (g := (mkF m 44 #[.val (.ref a), .val (.int (Int32.ofNat n)), .val (.ref z), .val (.int (Int32.ofNat lw)), .val (.int (Int32.ofNat r)), .val (.int (Int32.ofNat i)), s6] [(.int (Int32.ofNat (i - lw))), (.ref z), (.int (Int32.ofNat (r - i)))])) rfl rfl (hb hby d5_44)) ?_
        show Go p e s below ({ frames := 1, cells := 1, slots := 64, locals := 13 } : Room).cells ({ frames := 1, cells := 1, slots := 64, locals := 13 } : Room).slots (Q5 Z n F h0 n0) T (mkF m 45 #[.val (.ref a), .val (.int (Int32.ofNat n)), .val (.ref z), .val (.int (Int32.ofNat lw)), .val (.int (Int32.ofNat r)), .val (.int (Int32.ofNat i)), s6] [(.int (g (i - lw))), (.int (Int32.ofNat (r - i)))])
        rw [ek']
        show Go p e s below ({ frames := 1, cells := 1, slots := 64, locals := 13 } : Room).cells ({ frames := 1, cells := 1, slots := 64, locals := 13 } : Room).slots (Q5 Z n F h0 n0) T (mkF m 45 #[.val (.ref a), .val (.int (Int32.ofNat n)), .val (.ref z), .val (.int (Int32.ofNat lw)), .val (.int (Int32.ofNat r)), .val (.int (Int32.ofNat i)), s6] [(.int (Int32.ofNat k')), (.int (Int32.ofNat (r - i)))])
        obtain ⟨_, _, ⟨T6, L6, k6, n6⟩, -, X6, ⟨Lc6, hQ6, l6, y6, z6⟩, st6⟩ := Jvm.LawKit.callS X hx (y := (⟨"java/lang/Math", "min", "(II)I"⟩ : MethodName)) hown (mvT hZ (hw _ (List.mem_of_getElem? (i := 22) rfl))) (mvT hZ (hw _ (List.mem_of_getElem? (i := 23) rfl))) (mvT hZ (hw _ (List.mem_of_getElem? (i := 13) rfl))) (mvT hZ (hw _ (List.mem_of_getElem? (i := 24) rfl))) (by decide) (backOf (W := 0) (rm6 l Z a0 hw [] (Int32.ofNat (r - i)) (Int32.ofNat k') h n0 (Nat.le_trans gz (Nat.le_of_lt VZ.lt))) hZ (hw _ (List.mem_of_getElem? (i := 24) rfl)) (hw _ (List.mem_of_getElem? (i := 13) rfl)) (by decide) (by decide)) (g := (mkF m 45 #[.val (.ref a), .val (.int (Int32.ofNat n)), .val (.ref z), .val (.int (Int32.ofNat lw)), .val (.int (Int32.ofNat r)), .val (.int (Int32.ofNat i)), s6] [(.int (Int32.ofNat k')), (.int (Int32.ofNat (r - i)))])) rfl (by rw [hml]; rfl) (argsL := [(.int (Int32.ofNat (r - i))), (.int (Int32.ofNat k'))]) (rest := []) (lenOf pd_0 rfl) rfl (by show 2 * 0 + _ ≤ _; exact Nat.le_of_eq rfl) (hb hby d5_45) (fun _ _ => ⟨rfl, eT, (by decide : (0 + 1) + 0 ≤ _), (by decide : (0 + 64) + 0 ≤ _)⟩)
        dsimp only [Pt.U, Pt.locs, Pt.cells, Pt.slots] at X6 l6 y6 z6 st6 hQ6
        subst l6 y6 z6
        obtain ⟨rfl, hN6, eC⟩ := hQ6
        have N6 := Fr.app Nf hN6
        refine Go.st st6 ?_
        show Go p e s below ({ frames := 1, cells := 1, slots := 64, locals := 13 } : Room).cells ({ frames := 1, cells := 1, slots := 64, locals := 13 } : Room).slots (Q5 Z n F h0 n0) T6 (mkF m 48 #[.val (.ref a), .val (.int (Int32.ofNat n)), .val (.ref z), .val (.int (Int32.ofNat lw)), .val (.int (Int32.ofNat r)), .val (.int (Int32.ofNat i)), s6] [(.int (if Int32.ofNat k' < Int32.ofNat (r - i) then Int32.ofNat k' else Int32.ofNat (r - i)))])
        rw [own_minN (by omega) (by omega)]
        show Go p e s below ({ frames := 1, cells := 1, slots := 64, locals := 13 } : Room).cells ({ frames := 1, cells := 1, slots := 64, locals := 13 } : Room).slots (Q5 Z n F h0 n0) T6 (mkF m 48 #[.val (.ref a), .val (.int (Int32.ofNat n)), .val (.ref z), .val (.int (Int32.ofNat lw)), .val (.int (Int32.ofNat r)), .val (.int (Int32.ofNat i)), s6] [(.int (Int32.ofNat (min (r - i) k')))])
        refine Go.st (fun _ k_ => XS.goto X6.here hx rfl (pc0 := 48) (pc' := 52) rfl (hb hby d5_48) (by decide) (by decide) k_) ?_
        show Go p e s below ({ frames := 1, cells := 1, slots := 64, locals := 13 } : Room).cells ({ frames := 1, cells := 1, slots := 64, locals := 13 } : Room).slots (Q5 Z n F h0 n0) T6 (mkF m 52 #[.val (.ref a), .val (.int (Int32.ofNat n)), .val (.ref z), .val (.int (Int32.ofNat lw)), .val (.int (Int32.ofNat r)), .val (.int (Int32.ofNat i)), s6] [(.int (Int32.ofNat (min (r - i) k')))])
        exact j52 (min (r - i) k') (by omega) (HM.win hk'.2.1 (by omega) (by omega) (by omega)) _ _ X6 eC N6
      show Go p e s below ({ frames := 1, cells := 1, slots := 64, locals := 13 } : Room).cells ({ frames := 1, cells := 1, slots := 64, locals := 13 } : Room).slots (Q5 Z n F h0 n0) T (mkF m 31 #[.val (.ref a), .val (.int (Int32.ofNat n)), .val (.ref z), .val (.int (Int32.ofNat lw)), .val (.int (Int32.ofNat r)), .val (.int (Int32.ofNat i)), s6] [(.int (Int32.ofNat r)), (.int (Int32.ofNat i))])
      refine Go.st (fun _ k_ => XS.icmpYes X.here hx rfl (pc0 := 31) (pc' := 51) rfl (hb hby d5_31) rfl (flt (fun q => hir ((on_lt (by omega) (by omega)).mp q))).2.1 (by decide) (by decide) k_) ?_
      show Go p e s below ({ frames := 1, cells := 1, slots := 64, locals := 13 } : Room).cells ({ frames := 1, cells := 1, slots := 64, locals := 13 } : Room).slots (Q5 Z n F h0 n0) T (mkF m 51 #[.val (.ref a), .val (.int (Int32.ofNat n)), .val (.ref z), .val (.int (Int32.ofNat lw)), .val (.int (Int32.ofNat r)), .val (.int (Int32.ofNat i)), s6] [])
      refine Go.st (fun _ k_ => XS.iconst X.here hx rfl (hb hby d5_51) k_) ?_
      show Go p e s below ({ frames := 1, cells := 1, slots := 64, locals := 13 } : Room).cells ({ frames := 1, cells := 1, slots := 64, locals := 13 } : Room).slots (Q5 Z n F h0 n0) T (mkF m 52 #[.val (.ref a), .val (.int (Int32.ofNat n)), .val (.ref z), .val (.int (Int32.ofNat lw)), .val (.int (Int32.ofNat r)), .val (.int (Int32.ofNat i)), s6] [(.int (0 : Int32))])
      exact j52 0 (by omega) (fun t ht => absurd ht (Nat.not_lt_zero _)) _ _ X eT Nf
  show Go p e s below ({ frames := 1, cells := 1, slots := 64, locals := 13 } : Room).cells ({ frames := 1, cells := 1, slots := 64, locals := 13 } : Room).slots (Q5 Z n F h0 n0) T4 (mkF m 21 #[.val (.ref a), .val (.int (Int32.ofNat n)), .val (.ref z), .val (.int (0 : Int32)), .val (.int (0 : Int32)), .val (.int (1 : Int32)), .unset] [])
  exact loop (n - 1) 1 0 0 .unset (by omega) (by omega) T4 _ _ X4 e4 N4 VA2 _ V4 (fun j h1 h2 => by omega) (fun j h1 => by rw [upd, if_neg (by omega)]) (by omega) (by omega) (by omega) (fun q => absurd q (Nat.lt_irrefl _)) (fun t ht => by omega) (Or.inl rfl)
def Q1 (r : Int32) (h0 : Heap) (n0 : Nat) (v : Option Value) (h : Heap) (L : List Loc) : Prop := v = some (.int r) ∧ Fr n0 L
set_option maxRecDepth 65536 in
set_option maxHeartbeats 40000000 in
theorem rm1a (l : Launch) (Z : State) (a0 : Array Value) (hw : ∀ d ∈ tables_1, d.before a0 Z = true) (ws : List Jvm.Cond) (a : Addr) (n : Nat) (F : Nat → Int32) (h0 : Heap) (n0 : Nat) (Z0 : n0 ≤ h0.size) (hn : n < 4) (VA : AV Z h0 a .int n F) :
    MetFree l (⟨"com/example/switchback/switchback/expression/LiteralSearch", "isCheap", "([I)Z"⟩ : MethodName) (head1 (Jvm.Cond.code (⟨"com/example/switchback/switchback/expression/LiteralSearch", "isCheap", "([I)Z"⟩ : MethodName) prog_27_method_2_code 9 (some .boolean) :: ws) ({ frames := 2, cells := 1, slots := 64, locals := 31 } : Room)) (fun a_ U_ => a_ = #[(.ref a)] ∧ Z.Warmed39 U_.vm ∧ U_.heap = h0) (fun _ _ _ _ _ => True) (fun _ U_ o_ W_ => ∃ v_ L_, o_ = .returned v_ ∧ (Q1 1 h0 n0) v_ W_.heap L_ ∧ FrameEnd U_ o_ W_ L_ ({ frames := 2, cells := 1, slots := 64, locals := 31 } : Room).cells ({ frames := 2, cells := 1, slots := 64, locals := 31 } : Room).slots) := by
  refine MetFree.of_bodySF (plainFor_of_name pn_com_example_switchback_switchback_expression_LiteralSearch) hisR ?_
  intro p e s m args below meth c s₁ Bd hml0 hP hK
  obtain ⟨rfl, hZ, hh⟩ := hP
  have hx := Bd.exec
  have hby := Bd.bytes
  have hml : c.maxLocals = 9 := hml0
  have hown : s.vm.findClass "com/example/switchback/switchback/expression/LiteralSearch" = some m.cls := findClass_of_methodNamed Bd.named
  have hnm := (name_of_methodNamed Bd.named Bd.method).1
  have hlk : meth.locks = false := BodyLoose.notSynchronized Bd
  have X0 : Stand p l e ({ frames := 2, cells := 1, slots := 64, locals := 31 } : Room) s m #[(.ref a)] below meth c s₁ [] 0 0 := Stand.of_body Bd
  have e0 : s₁.heap = h0 := by rw [← hh, Bd.state]; rfl
  have N0 := Fr.nil n0
  refine Go.enter (ef_1 m a) ?_
  show Go p e s below ({ frames := 2, cells := 1, slots := 64, locals := 31 } : Room).cells ({ frames := 2, cells := 1, slots := 64, locals := 31 } : Room).slots (Q1 1 h0 n0) s₁ (mkF m 0 #[.val (.ref a), .unset, .unset, .unset, .unset, .unset, .unset, .unset, .unset] [])
  refine Go.st (fun _ k_ => XS.aloadN X0.here hx rfl (hb hby d1_0) rfl rfl k_) ?_
  show Go p e s below ({ frames := 2, cells := 1, slots := 64, locals := 31 } : Room).cells ({ frames := 2, cells := 1, slots := 64, locals := 31 } : Room).slots (Q1 1 h0 n0) s₁ (mkF m 1 #[.val (.ref a), .unset, .unset, .unset, .unset, .unset, .unset, .unset, .unset] [(.ref a)])
  refine Go.st (AV.len X0 hx hZ e0 VA (g := (mkF m 1 #[.val (.ref a), .unset, .unset, .unset, .unset, .unset, .unset, .unset, .unset] [(.ref a)])) rfl rfl (hb hby d1_1)) ?_
  show Go p e s below ({ frames := 2, cells := 1, slots := 64, locals := 31 } : Room).cells ({ frames := 2, cells := 1, slots := 64, locals := 31 } : Room).slots (Q1 1 h0 n0) s₁ (mkF m 2 #[.val (.ref a), .unset, .unset, .unset, .unset, .unset, .unset, .unset, .unset] [(.int (Int32.ofNat n))])
  refine Go.st (fun _ k_ => XS.istoreN X0.here hx rfl (hb hby d1_2) rfl (l' := #[.val (.ref a), .val (.int (Int32.ofNat n)), .unset, .unset, .unset, .unset, .unset, .unset, .unset]) rfl k_) ?_
  show Go p e s below ({ frames := 2, cells := 1, slots := 64, locals := 31 } : Room).cells ({ frames := 2, cells := 1, slots := 64, locals := 31 } : Room).slots (Q1 1 h0 n0) s₁ (mkF m 3 #[.val (.ref a), .val (.int (Int32.ofNat n)), .unset, .unset, .unset, .unset, .unset, .unset, .unset] [])
  refine Go.st (fun _ k_ => XS.iloadN X0.here hx rfl (hb hby d1_3) rfl k_) ?_
  show Go p e s below ({ frames := 2, cells := 1, slots := 64, locals := 31 } : Room).cells ({ frames := 2, cells := 1, slots := 64, locals := 31 } : Room).slots (Q1 1 h0 n0) s₁ (mkF m 4 #[.val (.ref a), .val (.int (Int32.ofNat n)), .unset, .unset, .unset, .unset, .unset, .unset, .unset] [(.int (Int32.ofNat n))])
  refine Go.st (fun _ k_ => XS.iconst X0.here hx rfl (hb hby d1_4) k_) ?_
  show Go p e s below ({ frames := 2, cells := 1, slots := 64, locals := 31 } : Room).cells ({ frames := 2, cells := 1, slots := 64, locals := 31 } : Room).slots (Q1 1 h0 n0) s₁ (mkF m 5 #[.val (.ref a), .val (.int (Int32.ofNat n)), .unset, .unset, .unset, .unset, .unset, .unset, .unset] [(.int (4 : Int32)), (.int (Int32.ofNat n))])
  refine Go.st (fun _ k_ => XS.icmpNo X0.here hx rfl (hb hby d1_5) rfl (tlt ((on_lt (k := 4) (by omega) (by omega)).mpr hn)).2.1 k_) ?_
  show Go p e s below ({ frames := 2, cells := 1, slots := 64, locals := 31 } : Room).cells ({ frames := 2, cells := 1, slots := 64, locals := 31 } : Room).slots (Q1 1 h0 n0) s₁ (mkF m 8 #[.val (.ref a), .val (.int (Int32.ofNat n)), .unset, .unset, .unset, .unset, .unset, .unset, .unset] [])
  refine Go.st (fun _ k_ => XS.iconst X0.here hx rfl (hb hby d1_8) k_) ?_
  show Go p e s below ({ frames := 2, cells := 1, slots := 64, locals := 31 } : Room).cells ({ frames := 2, cells := 1, slots := 64, locals := 31 } : Room).slots (Q1 1 h0 n0) s₁ (mkF m 9 #[.val (.ref a), .val (.int (Int32.ofNat n)), .unset, .unset, .unset, .unset, .unset, .unset, .unset] [(.int (1 : Int32))])
  exact Go.retN X0 hx hlk (t := .boolean) Bd.returns (by simp) (hb hby d1_9) (by decide) (by decide) ⟨rfl, N0⟩
set_option maxRecDepth 65536 in
set_option maxHeartbeats 40000000 in
theorem rm1b (l : Launch) (Z : State) (a0 : Array Value) (hw : ∀ d ∈ tables_1, d.before a0 Z = true) (ws : List Jvm.Cond) (a : Addr) (n p' : Nat) (b : Int32) (h0 : Heap) (n0 : Nat) (Z0 : n0 ≤ h0.size) (hn : n < 64) (hn4 : 4 ≤ n) (hp : p' < n) (VA : AV Z h0 a .int n (own_f p' b)) :
    MetFree l (⟨"com/example/switchback/switchback/expression/LiteralSearch", "isCheap", "([I)Z"⟩ : MethodName) (head1 (Jvm.Cond.code (⟨"com/example/switchback/switchback/expression/LiteralSearch", "isCheap", "([I)Z"⟩ : MethodName) prog_27_method_2_code 9 (some .boolean) :: ws) ({ frames := 2, cells := 1, slots := 64, locals := 31 } : Room)) (fun a_ U_ => a_ = #[(.ref a)] ∧ Z.Warmed39 U_.vm ∧ U_.heap = h0) (fun _ _ _ _ _ => True) (fun _ U_ o_ W_ => ∃ v_ L_, o_ = .returned v_ ∧ (Q1 (if own_steps n p' b ≤ 16 * n then 1 else 0) h0 n0) v_ W_.heap L_ ∧ FrameEnd U_ o_ W_ L_ ({ frames := 2, cells := 1, slots := 64, locals := 31 } : Room).cells ({ frames := 2, cells := 1, slots := 64, locals := 31 } : Room).slots) := by
  refine MetFree.of_bodySF (plainFor_of_name pn_com_example_switchback_switchback_expression_LiteralSearch) hisR ?_
  intro p e s m args below meth c s₁ Bd hml0 hP hK
  obtain ⟨rfl, hZ, hh⟩ := hP
  have hx := Bd.exec
  have hby := Bd.bytes
  have hml : c.maxLocals = 9 := hml0
  have hown : s.vm.findClass "com/example/switchback/switchback/expression/LiteralSearch" = some m.cls := findClass_of_methodNamed Bd.named
  have hnm := (name_of_methodNamed Bd.named Bd.method).1
  have hlk : meth.locks = false := BodyLoose.notSynchronized Bd
  have X0 : Stand p l e ({ frames := 2, cells := 1, slots := 64, locals := 31 } : Room) s m #[(.ref a)] below meth c s₁ [] 0 0 := Stand.of_body Bd
  have e0 : s₁.heap = h0 := by rw [← hh, Bd.state]; rfl
  have N0 := Fr.nil n0
  refine Go.enter (ef_1 m a) ?_
  obtain ⟨q, hq⟩ : ∃ q, q = n - 1 - p' := ⟨_, rfl⟩
  obtain ⟨bz, hbz⟩ : ∃ bz : Bool, bz = decide (b = 0) := ⟨_, rfl⟩
  have hqn : q < n := by omega
  have hE : own_tot n q bz n = own_steps n p' b := by rw [hq, hbz]; exact own_stepsE hn hp
  show Go p e s below ({ frames := 2, cells := 1, slots := 64, locals := 31 } : Room).cells ({ frames := 2, cells := 1, slots := 64, locals := 31 } : Room).slots (Q1 (if own_steps n p' b ≤ 16 * n then 1 else 0) h0 n0) s₁ (mkF m 0 #[.val (.ref a), .unset, .unset, .unset, .unset, .unset, .unset, .unset, .unset] [])
  refine Go.st (fun _ k_ => XS.aloadN X0.here hx rfl (hb hby d1_0) rfl rfl k_) ?_
  show Go p e s below ({ frames := 2, cells := 1, slots := 64, locals := 31 } : Room).cells ({ frames := 2, cells := 1, slots := 64, locals := 31 } : Room).slots (Q1 (if own_steps n p' b ≤ 16 * n then 1 else 0) h0 n0) s₁ (mkF m 1 #[.val (.ref a), .unset, .unset, .unset, .unset, .unset, .unset, .unset, .unset] [(.ref a)])
  refine Go.st (AV.len X0 hx hZ e0 VA (g := (mkF m 1 #[.val (.ref a), .unset, .unset, .unset, .unset, .unset, .unset, .unset, .unset] [(.ref a)])) rfl rfl (hb hby d1_1)) ?_
  show Go p e s below ({ frames := 2, cells := 1, slots := 64, locals := 31 } : Room).cells ({ frames := 2, cells := 1, slots := 64, locals := 31 } : Room).slots (Q1 (if own_steps n p' b ≤ 16 * n then 1 else 0) h0 n0) s₁ (mkF m 2 #[.val (.ref a), .unset, .unset, .unset, .unset, .unset, .unset, .unset, .unset] [(.int (Int32.ofNat n))])
  refine Go.st (fun _ k_ => XS.istoreN X0.here hx rfl (hb hby d1_2) rfl (l' := #[.val (.ref a), .val (.int (Int32.ofNat n)), .unset, .unset, .unset, .unset, .unset, .unset, .unset]) rfl k_) ?_
  show Go p e s below ({ frames := 2, cells := 1, slots := 64, locals := 31 } : Room).cells ({ frames := 2, cells := 1, slots := 64, locals := 31 } : Room).slots (Q1 (if own_steps n p' b ≤ 16 * n then 1 else 0) h0 n0) s₁ (mkF m 3 #[.val (.ref a), .val (.int (Int32.ofNat n)), .unset, .unset, .unset, .unset, .unset, .unset, .unset] [])
  refine Go.st (fun _ k_ => XS.iloadN X0.here hx rfl (hb hby d1_3) rfl k_) ?_
  show Go p e s below ({ frames := 2, cells := 1, slots := 64, locals := 31 } : Room).cells ({ frames := 2, cells := 1, slots := 64, locals := 31 } : Room).slots (Q1 (if own_steps n p' b ≤ 16 * n then 1 else 0) h0 n0) s₁ (mkF m 4 #[.val (.ref a), .val (.int (Int32.ofNat n)), .unset, .unset, .unset, .unset, .unset, .unset, .unset] [(.int (Int32.ofNat n))])
  refine Go.st (fun _ k_ => XS.iconst X0.here hx rfl (hb hby d1_4) k_) ?_
  show Go p e s below ({ frames := 2, cells := 1, slots := 64, locals := 31 } : Room).cells ({ frames := 2, cells := 1, slots := 64, locals := 31 } : Room).slots (Q1 (if own_steps n p' b ≤ 16 * n then 1 else 0) h0 n0) s₁ (mkF m 5 #[.val (.ref a), .val (.int (Int32.ofNat n)), .unset, .unset, .unset, .unset, .unset, .unset, .unset] [(.int (4 : Int32)), (.int (Int32.ofNat n))])
  refine Go.st (fun _ k_ => XS.icmpYes X0.here hx rfl (pc0 := 5) (pc' := 10) rfl (hb hby d1_5) rfl (flt (fun z => by have := (on_lt (k := 4) (by omega) (by omega)).mp z; omega)).2.1 (by decide) (by decide) k_) ?_
  show Go p e s below ({ frames := 2, cells := 1, slots := 64, locals := 31 } : Room).cells ({ frames := 2, cells := 1, slots := 64, locals := 31 } : Room).slots (Q1 (if own_steps n p' b ≤ 16 * n then 1 else 0) h0 n0) s₁ (mkF m 10 #[.val (.ref a), .val (.int (Int32.ofNat n)), .unset, .unset, .unset, .unset, .unset, .unset, .unset] [])
  refine Go.st (fun _ k_ => XS.aloadN X0.here hx rfl (hb hby d1_10) rfl rfl k_) ?_
  show Go p e s below ({ frames := 2, cells := 1, slots := 64, locals := 31 } : Room).cells ({ frames := 2, cells := 1, slots := 64, locals := 31 } : Room).slots (Q1 (if own_steps n p' b ≤ 16 * n then 1 else 0) h0 n0) s₁ (mkF m 11 #[.val (.ref a), .val (.int (Int32.ofNat n)), .unset, .unset, .unset, .unset, .unset, .unset, .unset] [(.ref a)])
  obtain ⟨_, _, ⟨T7, L7, k7, n7⟩, -, X7, ⟨Lc7, hQ7, l7, y7, z7⟩, st7⟩ := Jvm.LawKit.callS X0 hx (y := (⟨"com/example/switchback/switchback/expression/LiteralSearch", "sharedSuffixes", "([I)[I"⟩ : MethodName)) hown (mvT hZ (hw _ (List.mem_of_getElem? (i := 19) rfl))) (mvT hZ (hw _ (List.mem_of_getElem? (i := 20) rfl))) (mvT hZ (hw _ (List.mem_of_getElem? (i := 3) rfl))) (mvT hZ (hw _ (List.mem_of_getElem? (i := 21) rfl))) (by decide) (backOf (W := 0) (rm5 l Z a0 hw [] a n (own_f p' b) h0 n0 Z0 hn (by omega) VA) hZ (hw _ (List.mem_of_getElem? (i := 21) rfl)) (hw _ (List.mem_of_getElem? (i := 3) rfl)) (by decide) (by decide)) (g := (mkF m 11 #[.val (.ref a), .val (.int (Int32.ofNat n)), .unset, .unset, .unset, .unset, .unset, .unset, .unset] [(.ref a)])) rfl (by rw [hml]; rfl) (argsL := [(.ref a)]) (rest := []) (lenOf pd_4 rfl) rfl (by show 2 * 0 + _ ≤ _; exact Nat.le_of_eq rfl) (hb hby d1_11) (fun _ _ => ⟨rfl, e0, (by decide : 0 + 1 ≤ _), (by decide : 0 + 64 ≤ _)⟩)
  dsimp only [Pt.U, Pt.locs, Pt.cells, Pt.slots] at X7 l7 y7 z7 st7 hQ7
  subst l7 y7 z7
  obtain ⟨z, g, rfl, hN7, Zs, VZ, G1, G2⟩ := hQ7
  have N7 := Fr.app N0 hN7
  refine Go.st st7 ?_
  have G : ∀ i, 1 ≤ i → i ≤ n → g i = Int32.ofNat (own_z n q bz i) := fun i h1 h2 => by
    by_cases e : i = n
    · rw [e, G2, own_zn hqn]; rfl
    · obtain ⟨k, hk, ek⟩ := G1 i h1 (by omega)
      rw [ek, own_isz hp h1 (by omega) hk, hq, hbz]
  have hz64 : ∀ i, own_z n q bz i ≤ 64 := own_z64 hn hqn
  show Go p e s below ({ frames := 2, cells := 1, slots := 64, locals := 31 } : Room).cells ({ frames := 2, cells := 1, slots := 64, locals := 31 } : Room).slots (Q1 (if own_steps n p' b ≤ 16 * n then 1 else 0) h0 n0) T7 (mkF m 14 #[.val (.ref a), .val (.int (Int32.ofNat n)), .unset, .unset, .unset, .unset, .unset, .unset, .unset] [(.ref z)])
  refine Go.st (fun _ k_ => XS.astoreN X7.here hx rfl (hb hby d1_14) rfl rfl (l' := #[.val (.ref a), .val (.int (Int32.ofNat n)), .val (.ref z), .unset, .unset, .unset, .unset, .unset, .unset]) rfl k_) ?_
  show Go p e s below ({ frames := 2, cells := 1, slots := 64, locals := 31 } : Room).cells ({ frames := 2, cells := 1, slots := 64, locals := 31 } : Room).slots (Q1 (if own_steps n p' b ≤ 16 * n then 1 else 0) h0 n0) T7 (mkF m 15 #[.val (.ref a), .val (.int (Int32.ofNat n)), .val (.ref z), .unset, .unset, .unset, .unset, .unset, .unset] [])
  refine Go.st (X7.ldc2Long hx hown (mvT hZ (hw _ (List.mem_of_getElem? (i := 25) rfl))) (g := (mkF m 15 #[.val (.ref a), .val (.int (Int32.ofNat n)), .val (.ref z), .unset, .unset, .unset, .unset, .unset, .unset] [])) rfl (hb hby d1_15)) ?_
  show Go p e s below ({ frames := 2, cells := 1, slots := 64, locals := 31 } : Room).cells ({ frames := 2, cells := 1, slots := 64, locals := 31 } : Room).slots (Q1 (if own_steps n p' b ≤ 16 * n then 1 else 0) h0 n0) T7 (mkF m 18 #[.val (.ref a), .val (.int (Int32.ofNat n)), .val (.ref z), .unset, .unset, .unset, .unset, .unset, .unset] [(.long (16 : Int64))])
  refine Go.st (fun _ k_ => XS.iloadN X7.here hx rfl (hb hby d1_18) rfl k_) ?_
  show Go p e s below ({ frames := 2, cells := 1, slots := 64, locals := 31 } : Room).cells ({ frames := 2, cells := 1, slots := 64, locals := 31 } : Room).slots (Q1 (if own_steps n p' b ≤ 16 * n then 1 else 0) h0 n0) T7 (mkF m 19 #[.val (.ref a), .val (.int (Int32.ofNat n)), .val (.ref z), .unset, .unset, .unset, .unset, .unset, .unset] [(.int (Int32.ofNat n)), (.long (16 : Int64))])
  refine Go.st (fun _ k_ => XS.i2l X7.here hx rfl (hb hby d1_19) rfl k_) ?_
  show Go p e s below ({ frames := 2, cells := 1, slots := 64, locals := 31 } : Room).cells ({ frames := 2, cells := 1, slots := 64, locals := 31 } : Room).slots (Q1 (if own_steps n p' b ≤ 16 * n then 1 else 0) h0 n0) T7 (mkF m 20 #[.val (.ref a), .val (.int (Int32.ofNat n)), .val (.ref z), .unset, .unset, .unset, .unset, .unset, .unset] [(.long ((Int32.ofNat n).toInt64)), (.long (16 : Int64))])
  rw [on_i2l (by omega)]
  show Go p e s below ({ frames := 2, cells := 1, slots := 64, locals := 31 } : Room).cells ({ frames := 2, cells := 1, slots := 64, locals := 31 } : Room).slots (Q1 (if own_steps n p' b ≤ 16 * n then 1 else 0) h0 n0) T7 (mkF m 20 #[.val (.ref a), .val (.int (Int32.ofNat n)), .val (.ref z), .unset, .unset, .unset, .unset, .unset, .unset] [(.long (Int64.ofNat n)), (.long (16 : Int64))])
  refine Go.st (fun _ k_ => XS.lmul X7.here hx rfl (hb hby d1_20) rfl k_) ?_
  show Go p e s below ({ frames := 2, cells := 1, slots := 64, locals := 31 } : Room).cells ({ frames := 2, cells := 1, slots := 64, locals := 31 } : Room).slots (Q1 (if own_steps n p' b ≤ 16 * n then 1 else 0) h0 n0) T7 (mkF m 21 #[.val (.ref a), .val (.int (Int32.ofNat n)), .val (.ref z), .unset, .unset, .unset, .unset, .unset, .unset] [(.long ((16 : Int64) * (Int64.ofNat n)))])
  rw [ol_mul16]
  show Go p e s below ({ frames := 2, cells := 1, slots := 64, locals := 31 } : Room).cells ({ frames := 2, cells := 1, slots := 64, locals := 31 } : Room).slots (Q1 (if own_steps n p' b ≤ 16 * n then 1 else 0) h0 n0) T7 (mkF m 21 #[.val (.ref a), .val (.int (Int32.ofNat n)), .val (.ref z), .unset, .unset, .unset, .unset, .unset, .unset] [(.long (Int64.ofNat (16 * n)))])
  refine Go.st (fun _ k_ => XS.lstoreN X7.here hx rfl (hb hby d1_21) rfl (l' := #[.val (.ref a), .val (.int (Int32.ofNat n)), .val (.ref z), .val (.long (Int64.ofNat (16 * n))), .second, .unset, .unset, .unset, .unset]) rfl k_) ?_
  show Go p e s below ({ frames := 2, cells := 1, slots := 64, locals := 31 } : Room).cells ({ frames := 2, cells := 1, slots := 64, locals := 31 } : Room).slots (Q1 (if own_steps n p' b ≤ 16 * n then 1 else 0) h0 n0) T7 (mkF m 22 #[.val (.ref a), .val (.int (Int32.ofNat n)), .val (.ref z), .val (.long (Int64.ofNat (16 * n))), .second, .unset, .unset, .unset, .unset] [])
  refine Go.st (fun _ k_ => XS.iloadN X7.here hx rfl (hb hby d1_22) rfl k_) ?_
  show Go p e s below ({ frames := 2, cells := 1, slots := 64, locals := 31 } : Room).cells ({ frames := 2, cells := 1, slots := 64, locals := 31 } : Room).slots (Q1 (if own_steps n p' b ≤ 16 * n then 1 else 0) h0 n0) T7 (mkF m 23 #[.val (.ref a), .val (.int (Int32.ofNat n)), .val (.ref z), .val (.long (Int64.ofNat (16 * n))), .second, .unset, .unset, .unset, .unset] [(.int (Int32.ofNat n))])
  refine Go.st (fun _ k_ => XS.i2l X7.here hx rfl (hb hby d1_23) rfl k_) ?_
  show Go p e s below ({ frames := 2, cells := 1, slots := 64, locals := 31 } : Room).cells ({ frames := 2, cells := 1, slots := 64, locals := 31 } : Room).slots (Q1 (if own_steps n p' b ≤ 16 * n then 1 else 0) h0 n0) T7 (mkF m 24 #[.val (.ref a), .val (.int (Int32.ofNat n)), .val (.ref z), .val (.long (Int64.ofNat (16 * n))), .second, .unset, .unset, .unset, .unset] [(.long ((Int32.ofNat n).toInt64))])
  rw [on_i2l (by omega)]
  show Go p e s below ({ frames := 2, cells := 1, slots := 64, locals := 31 } : Room).cells ({ frames := 2, cells := 1, slots := 64, locals := 31 } : Room).slots (Q1 (if own_steps n p' b ≤ 16 * n then 1 else 0) h0 n0) T7 (mkF m 24 #[.val (.ref a), .val (.int (Int32.ofNat n)), .val (.ref z), .val (.long (Int64.ofNat (16 * n))), .second, .unset, .unset, .unset, .unset] [(.long (Int64.ofNat n))])
  refine Go.st (fun _ k_ => XS.lstore X7.here hx rfl (hb hby d1_24) rfl (l' := #[.val (.ref a), .val (.int (Int32.ofNat n)), .val (.ref z), .val (.long (Int64.ofNat (16 * n))), .second, .val (.long (Int64.ofNat n)), .second, .unset, .unset]) rfl k_) ?_
  show Go p e s below ({ frames := 2, cells := 1, slots := 64, locals := 31 } : Room).cells ({ frames := 2, cells := 1, slots := 64, locals := 31 } : Room).slots (Q1 (if own_steps n p' b ≤ 16 * n then 1 else 0) h0 n0) T7 (mkF m 26 #[.val (.ref a), .val (.int (Int32.ofNat n)), .val (.ref z), .val (.long (Int64.ofNat (16 * n))), .second, .val (.long (Int64.ofNat n)), .second, .unset, .unset] [])
  refine Go.st (fun _ k_ => XS.iconst X7.here hx rfl (hb hby d1_26) k_) ?_
  show Go p e s below ({ frames := 2, cells := 1, slots := 64, locals := 31 } : Room).cells ({ frames := 2, cells := 1, slots := 64, locals := 31 } : Room).slots (Q1 (if own_steps n p' b ≤ 16 * n then 1 else 0) h0 n0) T7 (mkF m 27 #[.val (.ref a), .val (.int (Int32.ofNat n)), .val (.ref z), .val (.long (Int64.ofNat (16 * n))), .second, .val (.long (Int64.ofNat n)), .second, .unset, .unset] [(.int (1 : Int32))])
  refine Go.st (fun _ k_ => XS.istore X7.here hx rfl (hb hby d1_27) rfl (l' := #[.val (.ref a), .val (.int (Int32.ofNat n)), .val (.ref z), .val (.long (Int64.ofNat (16 * n))), .second, .val (.long (Int64.ofNat n)), .second, .val (.int (1 : Int32)), .unset]) rfl k_) ?_
  have j82 : ∀ (cst : Nat) (iv : Int32) (s8 : Slot), cst < 100000 → (cst ≤ 16 * n ↔ own_steps n p' b ≤ 16 * n) → Go p e s below ({ frames := 2, cells := 1, slots := 64, locals := 31 } : Room).cells ({ frames := 2, cells := 1, slots := 64, locals := 31 } : Room).slots (Q1 (if own_steps n p' b ≤ 16 * n then 1 else 0) h0 n0) T7 (mkF m 82 #[.val (.ref a), .val (.int (Int32.ofNat n)), .val (.ref z), .val (.long (Int64.ofNat (16 * n))), .second, .val (.long (Int64.ofNat cst)), .second, .val (.int iv), s8] []) := by
    intro cst iv s8 hc hiff
    show Go p e s below ({ frames := 2, cells := 1, slots := 64, locals := 31 } : Room).cells ({ frames := 2, cells := 1, slots := 64, locals := 31 } : Room).slots (Q1 (if own_steps n p' b ≤ 16 * n then 1 else 0) h0 n0) T7 (mkF m 82 #[.val (.ref a), .val (.int (Int32.ofNat n)), .val (.ref z), .val (.long (Int64.ofNat (16 * n))), .second, .val (.long (Int64.ofNat cst)), .second, .val (.int iv), s8] [])
    refine Go.st (fun _ k_ => XS.lload X7.here hx rfl (hb hby d1_82) rfl k_) ?_
    show Go p e s below ({ frames := 2, cells := 1, slots := 64, locals := 31 } : Room).cells ({ frames := 2, cells := 1, slots := 64, locals := 31 } : Room).slots (Q1 (if own_steps n p' b ≤ 16 * n then 1 else 0) h0 n0) T7 (mkF m 84 #[.val (.ref a), .val (.int (Int32.ofNat n)), .val (.ref z), .val (.long (Int64.ofNat (16 * n))), .second, .val (.long (Int64.ofNat cst)), .second, .val (.int iv), s8] [(.long (Int64.ofNat cst))])
    refine Go.st (fun _ k_ => XS.lloadN X7.here hx rfl (hb hby d1_84) rfl k_) ?_
    show Go p e s below ({ frames := 2, cells := 1, slots := 64, locals := 31 } : Room).cells ({ frames := 2, cells := 1, slots := 64, locals := 31 } : Room).slots (Q1 (if own_steps n p' b ≤ 16 * n then 1 else 0) h0 n0) T7 (mkF m 85 #[.val (.ref a), .val (.int (Int32.ofNat n)), .val (.ref z), .val (.long (Int64.ofNat (16 * n))), .second, .val (.long (Int64.ofNat cst)), .second, .val (.int iv), s8] [(.long (Int64.ofNat (16 * n))), (.long (Int64.ofNat cst))])
    refine Go.st (fun _ k_ => XS.lcmp X7.here hx rfl (hb hby d1_85) rfl k_) ?_
    by_cases hle : 16 * n < cst
    · skip
      show Go p e s below ({ frames := 2, cells := 1, slots := 64, locals := 31 } : Room).cells ({ frames := 2, cells := 1, slots := 64, locals := 31 } : Room).slots (Q1 (if own_steps n p' b ≤ 16 * n then 1 else 0) h0 n0) T7 (mkF m 86 #[.val (.ref a), .val (.int (Int32.ofNat n)), .val (.ref z), .val (.long (Int64.ofNat (16 * n))), .second, .val (.long (Int64.ofNat cst)), .second, .val (.int iv), s8] [(.int (lcmpW (Int64.ofNat cst) (Int64.ofNat (16 * n))))])
      refine Go.st (fun _ k_ => XS.ifYes X7.here hx rfl (pc0 := 86) (pc' := 93) rfl (hb hby d1_86) rfl (cl_gt ((ol_lt (by omega) (by omega)).mpr hle)).1 (by decide) (by decide) k_) ?_
      show Go p e s below ({ frames := 2, cells := 1, slots := 64, locals := 31 } : Room).cells ({ frames := 2, cells := 1, slots := 64, locals := 31 } : Room).slots (Q1 (if own_steps n p' b ≤ 16 * n then 1 else 0) h0 n0) T7 (mkF m 93 #[.val (.ref a), .val (.int (Int32.ofNat n)), .val (.ref z), .val (.long (Int64.ofNat (16 * n))), .second, .val (.long (Int64.ofNat cst)), .second, .val (.int iv), s8] [])
      refine Go.st (fun _ k_ => XS.iconst X7.here hx rfl (hb hby d1_93) k_) ?_
      show Go p e s below ({ frames := 2, cells := 1, slots := 64, locals := 31 } : Room).cells ({ frames := 2, cells := 1, slots := 64, locals := 31 } : Room).slots (Q1 (if own_steps n p' b ≤ 16 * n then 1 else 0) h0 n0) T7 (mkF m 94 #[.val (.ref a), .val (.int (Int32.ofNat n)), .val (.ref z), .val (.long (Int64.ofNat (16 * n))), .second, .val (.long (Int64.ofNat cst)), .second, .val (.int iv), s8] [(.int (0 : Int32))])
      exact Go.retN X7 hx hlk (t := .boolean) Bd.returns (by simp) (hb hby d1_94) (by decide) (by decide) ⟨by rw [if_neg (fun z => by have := hiff.mpr z; omega)]; rfl, N7⟩
    show Go p e s below ({ frames := 2, cells := 1, slots := 64, locals := 31 } : Room).cells ({ frames := 2, cells := 1, slots := 64, locals := 31 } : Room).slots (Q1 (if own_steps n p' b ≤ 16 * n then 1 else 0) h0 n0) T7 (mkF m 86 #[.val (.ref a), .val (.int (Int32.ofNat n)), .val (.ref z), .val (.long (Int64.ofNat (16 * n))), .second, .val (.long (Int64.ofNat cst)), .second, .val (.int iv), s8] [(.int (lcmpW (Int64.ofNat cst) (Int64.ofNat (16 * n))))])
    refine Go.st (fun _ k_ => XS.ifNo X7.here hx rfl (hb hby d1_86) rfl (cl_gtF (fun z => hle ((ol_lt (by omega) (by omega)).mp z))).1 k_) ?_
    show Go p e s below ({ frames := 2, cells := 1, slots := 64, locals := 31 } : Room).cells ({ frames := 2, cells := 1, slots := 64, locals := 31 } : Room).slots (Q1 (if own_steps n p' b ≤ 16 * n then 1 else 0) h0 n0) T7 (mkF m 89 #[.val (.ref a), .val (.int (Int32.ofNat n)), .val (.ref z), .val (.long (Int64.ofNat (16 * n))), .second, .val (.long (Int64.ofNat cst)), .second, .val (.int iv), s8] [])
    refine Go.st (fun _ k_ => XS.iconst X7.here hx rfl (hb hby d1_89) k_) ?_
    show Go p e s below ({ frames := 2, cells := 1, slots := 64, locals := 31 } : Room).cells ({ frames := 2, cells := 1, slots := 64, locals := 31 } : Room).slots (Q1 (if own_steps n p' b ≤ 16 * n then 1 else 0) h0 n0) T7 (mkF m 90 #[.val (.ref a), .val (.int (Int32.ofNat n)), .val (.ref z), .val (.long (Int64.ofNat (16 * n))), .second, .val (.long (Int64.ofNat cst)), .second, .val (.int iv), s8] [(.int (1 : Int32))])
    refine Go.st (fun _ k_ => XS.goto X7.here hx rfl (pc0 := 90) (pc' := 94) rfl (hb hby d1_90) (by decide) (by decide) k_) ?_
    show Go p e s below ({ frames := 2, cells := 1, slots := 64, locals := 31 } : Room).cells ({ frames := 2, cells := 1, slots := 64, locals := 31 } : Room).slots (Q1 (if own_steps n p' b ≤ 16 * n then 1 else 0) h0 n0) T7 (mkF m 94 #[.val (.ref a), .val (.int (Int32.ofNat n)), .val (.ref z), .val (.long (Int64.ofNat (16 * n))), .second, .val (.long (Int64.ofNat cst)), .second, .val (.int iv), s8] [(.int (1 : Int32))])
    exact Go.retN X7 hx hlk (t := .boolean) Bd.returns (by simp) (hb hby d1_94) (by decide) (by decide) ⟨by rw [if_pos (hiff.mp (by omega))]; rfl, N7⟩
  have loop : ∀ (d i : Nat) (s8 : Slot), i + d = n → (s8 = .unset ∨ ∃ v : Int32, s8 = .val (.int v)) → Go p e s below ({ frames := 2, cells := 1, slots := 64, locals := 31 } : Room).cells ({ frames := 2, cells := 1, slots := 64, locals := 31 } : Room).slots (Q1 (if own_steps n p' b ≤ 16 * n then 1 else 0) h0 n0) T7 (mkF m 29 #[.val (.ref a), .val (.int (Int32.ofNat n)), .val (.ref z), .val (.long (Int64.ofNat (16 * n))), .second, .val (.long (Int64.ofNat (own_tot n q bz i))), .second, .val (.int (Int32.ofNat (i + 1))), s8] []) := by
    intro d
    induction d with
    | zero =>
      intro i s8 hd hs8
      have hin : i = n := by omega
      have hT := own_tot_le (bz := bz) hn hqn i
      show Go p e s below ({ frames := 2, cells := 1, slots := 64, locals := 31 } : Room).cells ({ frames := 2, cells := 1, slots := 64, locals := 31 } : Room).slots (Q1 (if own_steps n p' b ≤ 16 * n then 1 else 0) h0 n0) T7 (mkF m 29 #[.val (.ref a), .val (.int (Int32.ofNat n)), .val (.ref z), .val (.long (Int64.ofNat (16 * n))), .second, .val (.long (Int64.ofNat (own_tot n q bz i))), .second, .val (.int (Int32.ofNat (i + 1))), s8] [])
      refine Go.st (fun _ k_ => XS.iload X7.here hx rfl (hb hby d1_29) rfl k_) ?_
      show Go p e s below ({ frames := 2, cells := 1, slots := 64, locals := 31 } : Room).cells ({ frames := 2, cells := 1, slots := 64, locals := 31 } : Room).slots (Q1 (if own_steps n p' b ≤ 16 * n then 1 else 0) h0 n0) T7 (mkF m 31 #[.val (.ref a), .val (.int (Int32.ofNat n)), .val (.ref z), .val (.long (Int64.ofNat (16 * n))), .second, .val (.long (Int64.ofNat (own_tot n q bz i))), .second, .val (.int (Int32.ofNat (i + 1))), s8] [(.int (Int32.ofNat (i + 1)))])
      refine Go.st (fun _ k_ => XS.iloadN X7.here hx rfl (hb hby d1_31) rfl k_) ?_
      show Go p e s below ({ frames := 2, cells := 1, slots := 64, locals := 31 } : Room).cells ({ frames := 2, cells := 1, slots := 64, locals := 31 } : Room).slots (Q1 (if own_steps n p' b ≤ 16 * n then 1 else 0) h0 n0) T7 (mkF m 32 #[.val (.ref a), .val (.int (Int32.ofNat n)), .val (.ref z), .val (.long (Int64.ofNat (16 * n))), .second, .val (.long (Int64.ofNat (own_tot n q bz i))), .second, .val (.int (Int32.ofNat (i + 1))), s8] [(.int (Int32.ofNat n)), (.int (Int32.ofNat (i + 1)))])
      refine Go.st (fun _ k_ => XS.icmpYes X7.here hx rfl (pc0 := 32) (pc' := 82) rfl (hb hby d1_32) rfl (tlt ((on_lt (by omega) (by omega)).mpr (by omega))).2.2.1 (by decide) (by decide) k_) ?_
      show Go p e s below ({ frames := 2, cells := 1, slots := 64, locals := 31 } : Room).cells ({ frames := 2, cells := 1, slots := 64, locals := 31 } : Room).slots (Q1 (if own_steps n p' b ≤ 16 * n then 1 else 0) h0 n0) T7 (mkF m 82 #[.val (.ref a), .val (.int (Int32.ofNat n)), .val (.ref z), .val (.long (Int64.ofNat (16 * n))), .second, .val (.long (Int64.ofNat (own_tot n q bz i))), .second, .val (.int (Int32.ofNat (i + 1))), s8] [])
      exact j82 _ _ _ (by omega) (by rw [hin, hE])
    | succ d ih =>
      intro i s8 hd hs8
      have hT := own_tot_le (bz := bz) hn hqn i
      have hTm := own_mono (n := n) (q := q) (bz := bz) (i := i) (j := n) (by omega)
      have hz := hz64 (i + 1)
      have hGi := G (i + 1) (by omega) (by omega)
      show Go p e s below ({ frames := 2, cells := 1, slots := 64, locals := 31 } : Room).cells ({ frames := 2, cells := 1, slots := 64, locals := 31 } : Room).slots (Q1 (if own_steps n p' b ≤ 16 * n then 1 else 0) h0 n0) T7 (mkF m 29 #[.val (.ref a), .val (.int (Int32.ofNat n)), .val (.ref z), .val (.long (Int64.ofNat (16 * n))), .second, .val (.long (Int64.ofNat (own_tot n q bz i))), .second, .val (.int (Int32.ofNat (i + 1))), s8] [])
      refine Go.st (fun _ k_ => XS.iload X7.here hx rfl (hb hby d1_29) rfl k_) ?_
      show Go p e s below ({ frames := 2, cells := 1, slots := 64, locals := 31 } : Room).cells ({ frames := 2, cells := 1, slots := 64, locals := 31 } : Room).slots (Q1 (if own_steps n p' b ≤ 16 * n then 1 else 0) h0 n0) T7 (mkF m 31 #[.val (.ref a), .val (.int (Int32.ofNat n)), .val (.ref z), .val (.long (Int64.ofNat (16 * n))), .second, .val (.long (Int64.ofNat (own_tot n q bz i))), .second, .val (.int (Int32.ofNat (i + 1))), s8] [(.int (Int32.ofNat (i + 1)))])
      refine Go.st (fun _ k_ => XS.iloadN X7.here hx rfl (hb hby d1_31) rfl k_) ?_
      show Go p e s below ({ frames := 2, cells := 1, slots := 64, locals := 31 } : Room).cells ({ frames := 2, cells := 1, slots := 64, locals := 31 } : Room).slots (Q1 (if own_steps n p' b ≤ 16 * n then 1 else 0) h0 n0) T7 (mkF m 32 #[.val (.ref a), .val (.int (Int32.ofNat n)), .val (.ref z), .val (.long (Int64.ofNat (16 * n))), .second, .val (.long (Int64.ofNat (own_tot n q bz i))), .second, .val (.int (Int32.ofNat (i + 1))), s8] [(.int (Int32.ofNat n)), (.int (Int32.ofNat (i + 1)))])
      refine Go.st (fun _ k_ => XS.icmpNo X7.here hx rfl (hb hby d1_32) rfl (flt (fun z => by have := (on_lt (by omega) (by omega)).mp z; omega)).2.2.1 k_) ?_
      show Go p e s below ({ frames := 2, cells := 1, slots := 64, locals := 31 } : Room).cells ({ frames := 2, cells := 1, slots := 64, locals := 31 } : Room).slots (Q1 (if own_steps n p' b ≤ 16 * n then 1 else 0) h0 n0) T7 (mkF m 35 #[.val (.ref a), .val (.int (Int32.ofNat n)), .val (.ref z), .val (.long (Int64.ofNat (16 * n))), .second, .val (.long (Int64.ofNat (own_tot n q bz i))), .second, .val (.int (Int32.ofNat (i + 1))), s8] [])
      refine Go.st (fun _ k_ => XS.lload X7.here hx rfl (hb hby d1_35) rfl k_) ?_
      show Go p e s below ({ frames := 2, cells := 1, slots := 64, locals := 31 } : Room).cells ({ frames := 2, cells := 1, slots := 64, locals := 31 } : Room).slots (Q1 (if own_steps n p' b ≤ 16 * n then 1 else 0) h0 n0) T7 (mkF m 37 #[.val (.ref a), .val (.int (Int32.ofNat n)), .val (.ref z), .val (.long (Int64.ofNat (16 * n))), .second, .val (.long (Int64.ofNat (own_tot n q bz i))), .second, .val (.int (Int32.ofNat (i + 1))), s8] [(.long (Int64.ofNat (own_tot n q bz i)))])
      refine Go.st (fun _ k_ => XS.lloadN X7.here hx rfl (hb hby d1_37) rfl k_) ?_
      show Go p e s below ({ frames := 2, cells := 1, slots := 64, locals := 31 } : Room).cells ({ frames := 2, cells := 1, slots := 64, locals := 31 } : Room).slots (Q1 (if own_steps n p' b ≤ 16 * n then 1 else 0) h0 n0) T7 (mkF m 38 #[.val (.ref a), .val (.int (Int32.ofNat n)), .val (.ref z), .val (.long (Int64.ofNat (16 * n))), .second, .val (.long (Int64.ofNat (own_tot n q bz i))), .second, .val (.int (Int32.ofNat (i + 1))), s8] [(.long (Int64.ofNat (16 * n))), (.long (Int64.ofNat (own_tot n q bz i)))])
      refine Go.st (fun _ k_ => XS.lcmp X7.here hx rfl (hb hby d1_38) rfl k_) ?_
      by_cases hbud : 16 * n < own_tot n q bz i
      · skip
        show Go p e s below ({ frames := 2, cells := 1, slots := 64, locals := 31 } : Room).cells ({ frames := 2, cells := 1, slots := 64, locals := 31 } : Room).slots (Q1 (if own_steps n p' b ≤ 16 * n then 1 else 0) h0 n0) T7 (mkF m 39 #[.val (.ref a), .val (.int (Int32.ofNat n)), .val (.ref z), .val (.long (Int64.ofNat (16 * n))), .second, .val (.long (Int64.ofNat (own_tot n q bz i))), .second, .val (.int (Int32.ofNat (i + 1))), s8] [(.int (lcmpW (Int64.ofNat (own_tot n q bz i)) (Int64.ofNat (16 * n))))])
        refine Go.st (fun _ k_ => XS.ifYes X7.here hx rfl (pc0 := 39) (pc' := 82) rfl (hb hby d1_39) rfl (cl_gt ((ol_lt (by omega) (by omega)).mpr hbud)).1 (by decide) (by decide) k_) ?_
        show Go p e s below ({ frames := 2, cells := 1, slots := 64, locals := 31 } : Room).cells ({ frames := 2, cells := 1, slots := 64, locals := 31 } : Room).slots (Q1 (if own_steps n p' b ≤ 16 * n then 1 else 0) h0 n0) T7 (mkF m 82 #[.val (.ref a), .val (.int (Int32.ofNat n)), .val (.ref z), .val (.long (Int64.ofNat (16 * n))), .second, .val (.long (Int64.ofNat (own_tot n q bz i))), .second, .val (.int (Int32.ofNat (i + 1))), s8] [])
        exact j82 _ _ _ (by omega) (by rw [← hE]; omega)
      show Go p e s below ({ frames := 2, cells := 1, slots := 64, locals := 31 } : Room).cells ({ frames := 2, cells := 1, slots := 64, locals := 31 } : Room).slots (Q1 (if own_steps n p' b ≤ 16 * n then 1 else 0) h0 n0) T7 (mkF m 39 #[.val (.ref a), .val (.int (Int32.ofNat n)), .val (.ref z), .val (.long (Int64.ofNat (16 * n))), .second, .val (.long (Int64.ofNat (own_tot n q bz i))), .second, .val (.int (Int32.ofNat (i + 1))), s8] [(.int (lcmpW (Int64.ofNat (own_tot n q bz i)) (Int64.ofNat (16 * n))))])
      refine Go.st (fun _ k_ => XS.ifNo X7.here hx rfl (hb hby d1_39) rfl (cl_gtF (fun z => hbud ((ol_lt (by omega) (by omega)).mp z))).1 k_) ?_
      show Go p e s below ({ frames := 2, cells := 1, slots := 64, locals := 31 } : Room).cells ({ frames := 2, cells := 1, slots := 64, locals := 31 } : Room).slots (Q1 (if own_steps n p' b ≤ 16 * n then 1 else 0) h0 n0) T7 (mkF m 42 #[.val (.ref a), .val (.int (Int32.ofNat n)), .val (.ref z), .val (.long (Int64.ofNat (16 * n))), .second, .val (.long (Int64.ofNat (own_tot n q bz i))), .second, .val (.int (Int32.ofNat (i + 1))), s8] [])
      refine Go.st (fun _ k_ => XS.iloadN X7.here hx rfl (hb hby d1_42) rfl k_) ?_
      show Go p e s below ({ frames := 2, cells := 1, slots := 64, locals := 31 } : Room).cells ({ frames := 2, cells := 1, slots := 64, locals := 31 } : Room).slots (Q1 (if own_steps n p' b ≤ 16 * n then 1 else 0) h0 n0) T7 (mkF m 43 #[.val (.ref a), .val (.int (Int32.ofNat n)), .val (.ref z), .val (.long (Int64.ofNat (16 * n))), .second, .val (.long (Int64.ofNat (own_tot n q bz i))), .second, .val (.int (Int32.ofNat (i + 1))), s8] [(.int (Int32.ofNat n))])
      refine Go.st (fun _ k_ => XS.iload X7.here hx rfl (hb hby d1_43) rfl k_) ?_
      show Go p e s below ({ frames := 2, cells := 1, slots := 64, locals := 31 } : Room).cells ({ frames := 2, cells := 1, slots := 64, locals := 31 } : Room).slots (Q1 (if own_steps n p' b ≤ 16 * n then 1 else 0) h0 n0) T7 (mkF m 45 #[.val (.ref a), .val (.int (Int32.ofNat n)), .val (.ref z), .val (.long (Int64.ofNat (16 * n))), .second, .val (.long (Int64.ofNat (own_tot n q bz i))), .second, .val (.int (Int32.ofNat (i + 1))), s8] [(.int (Int32.ofNat (i + 1))), (.int (Int32.ofNat n))])
      refine Go.st (fun _ k_ => XS.isub X7.here hx rfl (hb hby d1_45) rfl k_) ?_
      show Go p e s below ({ frames := 2, cells := 1, slots := 64, locals := 31 } : Room).cells ({ frames := 2, cells := 1, slots := 64, locals := 31 } : Room).slots (Q1 (if own_steps n p' b ≤ 16 * n then 1 else 0) h0 n0) T7 (mkF m 46 #[.val (.ref a), .val (.int (Int32.ofNat n)), .val (.ref z), .val (.long (Int64.ofNat (16 * n))), .second, .val (.long (Int64.ofNat (own_tot n q bz i))), .second, .val (.int (Int32.ofNat (i + 1))), s8] [(.int ((Int32.ofNat n) - (Int32.ofNat (i + 1))))])
      rw [on_sub (by omega : i + 1 ≤ n)]
      have os : ∀ r8 : Int32, storeLocals #[.val (.ref a), .val (.int (Int32.ofNat n)), .val (.ref z), .val (.long (Int64.ofNat (16 * n))), .second, .val (.long (Int64.ofNat (own_tot n q bz i))), .second, .val (.int (Int32.ofNat (i + 1))), s8] 8 (.int r8) = some #[.val (.ref a), .val (.int (Int32.ofNat n)), .val (.ref z), .val (.long (Int64.ofNat (16 * n))), .second, .val (.long (Int64.ofNat (own_tot n q bz i))), .second, .val (.int (Int32.ofNat (i + 1))), .val (.int r8)] := by
        intro r8
        rcases hs8 with rfl | ⟨v, rfl⟩ <;> rfl
      show Go p e s below ({ frames := 2, cells := 1, slots := 64, locals := 31 } : Room).cells ({ frames := 2, cells := 1, slots := 64, locals := 31 } : Room).slots (Q1 (if own_steps n p' b ≤ 16 * n then 1 else 0) h0 n0) T7 (mkF m 46 #[.val (.ref a), .val (.int (Int32.ofNat n)), .val (.ref z), .val (.long (Int64.ofNat (16 * n))), .second, .val (.long (Int64.ofNat (own_tot n q bz i))), .second, .val (.int (Int32.ofNat (i + 1))), s8] [(.int (Int32.ofNat (n - (i + 1))))])
      refine Go.st (fun _ k_ => XS.istore X7.here hx rfl (hb hby d1_46) rfl (l' := #[.val (.ref a), .val (.int (Int32.ofNat n)), .val (.ref z), .val (.long (Int64.ofNat (16 * n))), .second, .val (.long (Int64.ofNat (own_tot n q bz i))), .second, .val (.int (Int32.ofNat (i + 1))), .val (.int (Int32.ofNat (n - (i + 1))))]) (by first | rfl | exact (os _)) k_) ?_
      show Go p e s below ({ frames := 2, cells := 1, slots := 64, locals := 31 } : Room).cells ({ frames := 2, cells := 1, slots := 64, locals := 31 } : Room).slots (Q1 (if own_steps n p' b ≤ 16 * n then 1 else 0) h0 n0) T7 (mkF m 48 #[.val (.ref a), .val (.int (Int32.ofNat n)), .val (.ref z), .val (.long (Int64.ofNat (16 * n))), .second, .val (.long (Int64.ofNat (own_tot n q bz i))), .second, .val (.int (Int32.ofNat (i + 1))), .val (.int (Int32.ofNat (n - (i + 1))))] [])
      refine Go.st (fun _ k_ => XS.lload X7.here hx rfl (hb hby d1_48) rfl k_) ?_
      show Go p e s below ({ frames := 2, cells := 1, slots := 64, locals := 31 } : Room).cells ({ frames := 2, cells := 1, slots := 64, locals := 31 } : Room).slots (Q1 (if own_steps n p' b ≤ 16 * n then 1 else 0) h0 n0) T7 (mkF m 50 #[.val (.ref a), .val (.int (Int32.ofNat n)), .val (.ref z), .val (.long (Int64.ofNat (16 * n))), .second, .val (.long (Int64.ofNat (own_tot n q bz i))), .second, .val (.int (Int32.ofNat (i + 1))), .val (.int (Int32.ofNat (n - (i + 1))))] [(.long (Int64.ofNat (own_tot n q bz i)))])
      refine Go.st (fun _ k_ => XS.aloadN X7.here hx rfl (hb hby d1_50) rfl rfl k_) ?_
      show Go p e s below ({ frames := 2, cells := 1, slots := 64, locals := 31 } : Room).cells ({ frames := 2, cells := 1, slots := 64, locals := 31 } : Room).slots (Q1 (if own_steps n p' b ≤ 16 * n then 1 else 0) h0 n0) T7 (mkF m 51 #[.val (.ref a), .val (.int (Int32.ofNat n)), .val (.ref z), .val (.long (Int64.ofNat (16 * n))), .second, .val (.long (Int64.ofNat (own_tot n q bz i))), .second, .val (.int (Int32.ofNat (i + 1))), .val (.int (Int32.ofNat (n - (i + 1))))] [(.ref z), (.long (Int64.ofNat (own_tot n q bz i)))])
      refine Go.st (fun _ k_ => XS.iload X7.here hx rfl (hb hby d1_51) rfl k_) ?_
      show Go p e s below ({ frames := 2, cells := 1, slots := 64, locals := 31 } : Room).cells ({ frames := 2, cells := 1, slots := 64, locals := 31 } : Room).slots (Q1 (if own_steps n p' b ≤ 16 * n then 1 else 0) h0 n0) T7 (mkF m 53 #[.val (.ref a), .val (.int (Int32.ofNat n)), .val (.ref z), .val (.long (Int64.ofNat (16 * n))), .second, .val (.long (Int64.ofNat (own_tot n q bz i))), .second, .val (.int (Int32.ofNat (i + 1))), .val (.int (Int32.ofNat (n - (i + 1))))] [(.int (Int32.ofNat (i + 1))), (.ref z), (.long (Int64.ofNat (own_tot n q bz i)))])
      refine Go.st (AV.ldI X7 hx hZ rfl VZ (on_idx (by omega)) (on_nn (by omega)) (by omega) (g := (mkF m 53 #[.val (.ref a), .val (.int (Int32.ofNat n)), .val (.ref z), .val (.long (Int64.ofNat (16 * n))), .second, .val (.long (Int64.ofNat (own_tot n q bz i))), .second, .val (.int (Int32.ofNat (i + 1))), .val (.int (Int32.ofNat (n - (i + 1))))] [(.int (Int32.ofNat (i + 1))), (.ref z), (.long (Int64.ofNat (own_tot n q bz i)))])) rfl rfl (hb hby d1_53)) ?_
      show Go p e s below ({ frames := 2, cells := 1, slots := 64, locals := 31 } : Room).cells ({ frames := 2, cells := 1, slots := 64, locals := 31 } : Room).slots (Q1 (if own_steps n p' b ≤ 16 * n then 1 else 0) h0 n0) T7 (mkF m 54 #[.val (.ref a), .val (.int (Int32.ofNat n)), .val (.ref z), .val (.long (Int64.ofNat (16 * n))), .second, .val (.long (Int64.ofNat (own_tot n q bz i))), .second, .val (.int (Int32.ofNat (i + 1))), .val (.int (Int32.ofNat (n - (i + 1))))] [(.int (g (i + 1))), (.long (Int64.ofNat (own_tot n q bz i)))])
      rw [hGi]
      show Go p e s below ({ frames := 2, cells := 1, slots := 64, locals := 31 } : Room).cells ({ frames := 2, cells := 1, slots := 64, locals := 31 } : Room).slots (Q1 (if own_steps n p' b ≤ 16 * n then 1 else 0) h0 n0) T7 (mkF m 54 #[.val (.ref a), .val (.int (Int32.ofNat n)), .val (.ref z), .val (.long (Int64.ofNat (16 * n))), .second, .val (.long (Int64.ofNat (own_tot n q bz i))), .second, .val (.int (Int32.ofNat (i + 1))), .val (.int (Int32.ofNat (n - (i + 1))))] [(.int (Int32.ofNat (own_z n q bz (i + 1)))), (.long (Int64.ofNat (own_tot n q bz i)))])
      refine Go.st (fun _ k_ => XS.iload X7.here hx rfl (hb hby d1_54) rfl k_) ?_
      by_cases hlt : own_z n q bz (i + 1) < n - (i + 1)
      · skip
        have hinc : own_inc n q bz (i + 1) = own_z n q bz (i + 1) + 1 := by rw [own_inc, if_pos hlt]
        show Go p e s below ({ frames := 2, cells := 1, slots := 64, locals := 31 } : Room).cells ({ frames := 2, cells := 1, slots := 64, locals := 31 } : Room).slots (Q1 (if own_steps n p' b ≤ 16 * n then 1 else 0) h0 n0) T7 (mkF m 56 #[.val (.ref a), .val (.int (Int32.ofNat n)), .val (.ref z), .val (.long (Int64.ofNat (16 * n))), .second, .val (.long (Int64.ofNat (own_tot n q bz i))), .second, .val (.int (Int32.ofNat (i + 1))), .val (.int (Int32.ofNat (n - (i + 1))))] [(.int (Int32.ofNat (n - (i + 1)))), (.int (Int32.ofNat (own_z n q bz (i + 1)))), (.long (Int64.ofNat (own_tot n q bz i)))])
        refine Go.st (fun _ k_ => XS.icmpYes X7.here hx rfl (pc0 := 56) (pc' := 66) rfl (hb hby d1_56) rfl (tlt ((on_lt (by omega) (by omega)).mpr hlt)).1 (by decide) (by decide) k_) ?_
        show Go p e s below ({ frames := 2, cells := 1, slots := 64, locals := 31 } : Room).cells ({ frames := 2, cells := 1, slots := 64, locals := 31 } : Room).slots (Q1 (if own_steps n p' b ≤ 16 * n then 1 else 0) h0 n0) T7 (mkF m 66 #[.val (.ref a), .val (.int (Int32.ofNat n)), .val (.ref z), .val (.long (Int64.ofNat (16 * n))), .second, .val (.long (Int64.ofNat (own_tot n q bz i))), .second, .val (.int (Int32.ofNat (i + 1))), .val (.int (Int32.ofNat (n - (i + 1))))] [(.long (Int64.ofNat (own_tot n q bz i)))])
        refine Go.st (fun _ k_ => XS.aloadN X7.here hx rfl (hb hby d1_66) rfl rfl k_) ?_
        show Go p e s below ({ frames := 2, cells := 1, slots := 64, locals := 31 } : Room).cells ({ frames := 2, cells := 1, slots := 64, locals := 31 } : Room).slots (Q1 (if own_steps n p' b ≤ 16 * n then 1 else 0) h0 n0) T7 (mkF m 67 #[.val (.ref a), .val (.int (Int32.ofNat n)), .val (.ref z), .val (.long (Int64.ofNat (16 * n))), .second, .val (.long (Int64.ofNat (own_tot n q bz i))), .second, .val (.int (Int32.ofNat (i + 1))), .val (.int (Int32.ofNat (n - (i + 1))))] [(.ref z), (.long (Int64.ofNat (own_tot n q bz i)))])
        refine Go.st (fun _ k_ => XS.iload X7.here hx rfl (hb hby d1_67) rfl k_) ?_
        show Go p e s below ({ frames := 2, cells := 1, slots := 64, locals := 31 } : Room).cells ({ frames := 2, cells := 1, slots := 64, locals := 31 } : Room).slots (Q1 (if own_steps n p' b ≤ 16 * n then 1 else 0) h0 n0) T7 (mkF m 69 #[.val (.ref a), .val (.int (Int32.ofNat n)), .val (.ref z), .val (.long (Int64.ofNat (16 * n))), .second, .val (.long (Int64.ofNat (own_tot n q bz i))), .second, .val (.int (Int32.ofNat (i + 1))), .val (.int (Int32.ofNat (n - (i + 1))))] [(.int (Int32.ofNat (i + 1))), (.ref z), (.long (Int64.ofNat (own_tot n q bz i)))])
        refine Go.st (AV.ldI X7 hx hZ rfl VZ (on_idx (by omega)) (on_nn (by omega)) (by omega) (g := (mkF m 69 #[.val (.ref a), .val (.int (Int32.ofNat n)), .val (.ref z), .val (.long (Int64.ofNat (16 * n))), .second, .val (.long (Int64.ofNat (own_tot n q bz i))), .second, .val (.int (Int32.ofNat (i + 1))), .val (.int (Int32.ofNat (n - (i + 1))))] [(.int (Int32.ofNat (i + 1))), (.ref z), (.long (Int64.ofNat (own_tot n q bz i)))])) rfl rfl (hb hby d1_69)) ?_
        show Go p e s below ({ frames := 2, cells := 1, slots := 64, locals := 31 } : Room).cells ({ frames := 2, cells := 1, slots := 64, locals := 31 } : Room).slots (Q1 (if own_steps n p' b ≤ 16 * n then 1 else 0) h0 n0) T7 (mkF m 70 #[.val (.ref a), .val (.int (Int32.ofNat n)), .val (.ref z), .val (.long (Int64.ofNat (16 * n))), .second, .val (.long (Int64.ofNat (own_tot n q bz i))), .second, .val (.int (Int32.ofNat (i + 1))), .val (.int (Int32.ofNat (n - (i + 1))))] [(.int (g (i + 1))), (.long (Int64.ofNat (own_tot n q bz i)))])
        rw [hGi]
        show Go p e s below ({ frames := 2, cells := 1, slots := 64, locals := 31 } : Room).cells ({ frames := 2, cells := 1, slots := 64, locals := 31 } : Room).slots (Q1 (if own_steps n p' b ≤ 16 * n then 1 else 0) h0 n0) T7 (mkF m 70 #[.val (.ref a), .val (.int (Int32.ofNat n)), .val (.ref z), .val (.long (Int64.ofNat (16 * n))), .second, .val (.long (Int64.ofNat (own_tot n q bz i))), .second, .val (.int (Int32.ofNat (i + 1))), .val (.int (Int32.ofNat (n - (i + 1))))] [(.int (Int32.ofNat (own_z n q bz (i + 1)))), (.long (Int64.ofNat (own_tot n q bz i)))])
        refine Go.st (fun _ k_ => XS.iconst X7.here hx rfl (hb hby d1_70) k_) ?_
        show Go p e s below ({ frames := 2, cells := 1, slots := 64, locals := 31 } : Room).cells ({ frames := 2, cells := 1, slots := 64, locals := 31 } : Room).slots (Q1 (if own_steps n p' b ≤ 16 * n then 1 else 0) h0 n0) T7 (mkF m 71 #[.val (.ref a), .val (.int (Int32.ofNat n)), .val (.ref z), .val (.long (Int64.ofNat (16 * n))), .second, .val (.long (Int64.ofNat (own_tot n q bz i))), .second, .val (.int (Int32.ofNat (i + 1))), .val (.int (Int32.ofNat (n - (i + 1))))] [(.int (1 : Int32)), (.int (Int32.ofNat (own_z n q bz (i + 1)))), (.long (Int64.ofNat (own_tot n q bz i)))])
        refine Go.st (fun _ k_ => XS.iadd X7.here hx rfl (hb hby d1_71) rfl k_) ?_
        show Go p e s below ({ frames := 2, cells := 1, slots := 64, locals := 31 } : Room).cells ({ frames := 2, cells := 1, slots := 64, locals := 31 } : Room).slots (Q1 (if own_steps n p' b ≤ 16 * n then 1 else 0) h0 n0) T7 (mkF m 72 #[.val (.ref a), .val (.int (Int32.ofNat n)), .val (.ref z), .val (.long (Int64.ofNat (16 * n))), .second, .val (.long (Int64.ofNat (own_tot n q bz i))), .second, .val (.int (Int32.ofNat (i + 1))), .val (.int (Int32.ofNat (n - (i + 1))))] [(.int ((Int32.ofNat (own_z n q bz (i + 1))) + (1 : Int32))), (.long (Int64.ofNat (own_tot n q bz i)))])
        rw [on_succ]
        show Go p e s below ({ frames := 2, cells := 1, slots := 64, locals := 31 } : Room).cells ({ frames := 2, cells := 1, slots := 64, locals := 31 } : Room).slots (Q1 (if own_steps n p' b ≤ 16 * n then 1 else 0) h0 n0) T7 (mkF m 72 #[.val (.ref a), .val (.int (Int32.ofNat n)), .val (.ref z), .val (.long (Int64.ofNat (16 * n))), .second, .val (.long (Int64.ofNat (own_tot n q bz i))), .second, .val (.int (Int32.ofNat (i + 1))), .val (.int (Int32.ofNat (n - (i + 1))))] [(.int (Int32.ofNat (own_z n q bz (i + 1) + 1))), (.long (Int64.ofNat (own_tot n q bz i)))])
        refine Go.st (fun _ k_ => XS.i2l X7.here hx rfl (hb hby d1_72) rfl k_) ?_
        show Go p e s below ({ frames := 2, cells := 1, slots := 64, locals := 31 } : Room).cells ({ frames := 2, cells := 1, slots := 64, locals := 31 } : Room).slots (Q1 (if own_steps n p' b ≤ 16 * n then 1 else 0) h0 n0) T7 (mkF m 73 #[.val (.ref a), .val (.int (Int32.ofNat n)), .val (.ref z), .val (.long (Int64.ofNat (16 * n))), .second, .val (.long (Int64.ofNat (own_tot n q bz i))), .second, .val (.int (Int32.ofNat (i + 1))), .val (.int (Int32.ofNat (n - (i + 1))))] [(.long ((Int32.ofNat (own_z n q bz (i + 1) + 1)).toInt64)), (.long (Int64.ofNat (own_tot n q bz i)))])
        rw [on_i2l (by omega)]
        show Go p e s below ({ frames := 2, cells := 1, slots := 64, locals := 31 } : Room).cells ({ frames := 2, cells := 1, slots := 64, locals := 31 } : Room).slots (Q1 (if own_steps n p' b ≤ 16 * n then 1 else 0) h0 n0) T7 (mkF m 73 #[.val (.ref a), .val (.int (Int32.ofNat n)), .val (.ref z), .val (.long (Int64.ofNat (16 * n))), .second, .val (.long (Int64.ofNat (own_tot n q bz i))), .second, .val (.int (Int32.ofNat (i + 1))), .val (.int (Int32.ofNat (n - (i + 1))))] [(.long (Int64.ofNat (own_z n q bz (i + 1) + 1))), (.long (Int64.ofNat (own_tot n q bz i)))])
        refine Go.st (fun _ k_ => XS.ladd X7.here hx rfl (hb hby d1_73) rfl k_) ?_
        show Go p e s below ({ frames := 2, cells := 1, slots := 64, locals := 31 } : Room).cells ({ frames := 2, cells := 1, slots := 64, locals := 31 } : Room).slots (Q1 (if own_steps n p' b ≤ 16 * n then 1 else 0) h0 n0) T7 (mkF m 74 #[.val (.ref a), .val (.int (Int32.ofNat n)), .val (.ref z), .val (.long (Int64.ofNat (16 * n))), .second, .val (.long (Int64.ofNat (own_tot n q bz i))), .second, .val (.int (Int32.ofNat (i + 1))), .val (.int (Int32.ofNat (n - (i + 1))))] [(.long ((Int64.ofNat (own_tot n q bz i)) + (Int64.ofNat (own_z n q bz (i + 1) + 1))))])
        rw [ol_add]
        show Go p e s below ({ frames := 2, cells := 1, slots := 64, locals := 31 } : Room).cells ({ frames := 2, cells := 1, slots := 64, locals := 31 } : Room).slots (Q1 (if own_steps n p' b ≤ 16 * n then 1 else 0) h0 n0) T7 (mkF m 74 #[.val (.ref a), .val (.int (Int32.ofNat n)), .val (.ref z), .val (.long (Int64.ofNat (16 * n))), .second, .val (.long (Int64.ofNat (own_tot n q bz i))), .second, .val (.int (Int32.ofNat (i + 1))), .val (.int (Int32.ofNat (n - (i + 1))))] [(.long (Int64.ofNat (own_tot n q bz i + (own_z n q bz (i + 1) + 1))))])
        refine Go.st (fun _ k_ => XS.lstore X7.here hx rfl (hb hby d1_74) rfl (l' := #[.val (.ref a), .val (.int (Int32.ofNat n)), .val (.ref z), .val (.long (Int64.ofNat (16 * n))), .second, .val (.long (Int64.ofNat (own_tot n q bz i + (own_z n q bz (i + 1) + 1)))), .second, .val (.int (Int32.ofNat (i + 1))), .val (.int (Int32.ofNat (n - (i + 1))))]) rfl k_) ?_
        show Go p e s below ({ frames := 2, cells := 1, slots := 64, locals := 31 } : Room).cells ({ frames := 2, cells := 1, slots := 64, locals := 31 } : Room).slots (Q1 (if own_steps n p' b ≤ 16 * n then 1 else 0) h0 n0) T7 (mkF m 76 #[.val (.ref a), .val (.int (Int32.ofNat n)), .val (.ref z), .val (.long (Int64.ofNat (16 * n))), .second, .val (.long (Int64.ofNat (own_tot n q bz i + (own_z n q bz (i + 1) + 1)))), .second, .val (.int (Int32.ofNat (i + 1))), .val (.int (Int32.ofNat (n - (i + 1))))] [])
        refine Go.st (fun _ k_ => XS.iinc X7.here hx rfl (hb hby d1_76) rfl (l' := #[.val (.ref a), .val (.int (Int32.ofNat n)), .val (.ref z), .val (.long (Int64.ofNat (16 * n))), .second, .val (.long (Int64.ofNat (own_tot n q bz i + (own_z n q bz (i + 1) + 1)))), .second, .val (.int ((Int32.ofNat (i + 1)) + (1 : Int32))), .val (.int (Int32.ofNat (n - (i + 1))))]) rfl k_) ?_
        show Go p e s below ({ frames := 2, cells := 1, slots := 64, locals := 31 } : Room).cells ({ frames := 2, cells := 1, slots := 64, locals := 31 } : Room).slots (Q1 (if own_steps n p' b ≤ 16 * n then 1 else 0) h0 n0) T7 (mkF m 79 #[.val (.ref a), .val (.int (Int32.ofNat n)), .val (.ref z), .val (.long (Int64.ofNat (16 * n))), .second, .val (.long (Int64.ofNat (own_tot n q bz i + (own_z n q bz (i + 1) + 1)))), .second, .val (.int ((Int32.ofNat (i + 1)) + (1 : Int32))), .val (.int (Int32.ofNat (n - (i + 1))))] [])
        refine Go.st (fun _ k_ => XS.goto X7.here hx rfl (pc0 := 79) (pc' := 29) rfl (hb hby d1_79) (by decide) (by decide) k_) ?_
        show Go p e s below ({ frames := 2, cells := 1, slots := 64, locals := 31 } : Room).cells ({ frames := 2, cells := 1, slots := 64, locals := 31 } : Room).slots (Q1 (if own_steps n p' b ≤ 16 * n then 1 else 0) h0 n0) T7 (mkF m 29 #[.val (.ref a), .val (.int (Int32.ofNat n)), .val (.ref z), .val (.long (Int64.ofNat (16 * n))), .second, .val (.long (Int64.ofNat (own_tot n q bz i + (own_z n q bz (i + 1) + 1)))), .second, .val (.int ((Int32.ofNat (i + 1)) + (1 : Int32))), .val (.int (Int32.ofNat (n - (i + 1))))] [])
        rw [on_succ]
        have q1 := ih (i + 1) _ (by omega) (Or.inr ⟨Int32.ofNat (n - (i + 1)), rfl⟩)
        rw [own_tot, hinc] at q1
        exact q1
      have hinc : own_inc n q bz (i + 1) = n - 1 := by rw [own_inc, if_neg hlt]
      show Go p e s below ({ frames := 2, cells := 1, slots := 64, locals := 31 } : Room).cells ({ frames := 2, cells := 1, slots := 64, locals := 31 } : Room).slots (Q1 (if own_steps n p' b ≤ 16 * n then 1 else 0) h0 n0) T7 (mkF m 56 #[.val (.ref a), .val (.int (Int32.ofNat n)), .val (.ref z), .val (.long (Int64.ofNat (16 * n))), .second, .val (.long (Int64.ofNat (own_tot n q bz i))), .second, .val (.int (Int32.ofNat (i + 1))), .val (.int (Int32.ofNat (n - (i + 1))))] [(.int (Int32.ofNat (n - (i + 1)))), (.int (Int32.ofNat (own_z n q bz (i + 1)))), (.long (Int64.ofNat (own_tot n q bz i)))])
      refine Go.st (fun _ k_ => XS.icmpNo X7.here hx rfl (hb hby d1_56) rfl (flt (fun z => hlt ((on_lt (by omega) (by omega)).mp z))).1 k_) ?_
      show Go p e s below ({ frames := 2, cells := 1, slots := 64, locals := 31 } : Room).cells ({ frames := 2, cells := 1, slots := 64, locals := 31 } : Room).slots (Q1 (if own_steps n p' b ≤ 16 * n then 1 else 0) h0 n0) T7 (mkF m 59 #[.val (.ref a), .val (.int (Int32.ofNat n)), .val (.ref z), .val (.long (Int64.ofNat (16 * n))), .second, .val (.long (Int64.ofNat (own_tot n q bz i))), .second, .val (.int (Int32.ofNat (i + 1))), .val (.int (Int32.ofNat (n - (i + 1))))] [(.long (Int64.ofNat (own_tot n q bz i)))])
      refine Go.st (fun _ k_ => XS.iloadN X7.here hx rfl (hb hby d1_59) rfl k_) ?_
      show Go p e s below ({ frames := 2, cells := 1, slots := 64, locals := 31 } : Room).cells ({ frames := 2, cells := 1, slots := 64, locals := 31 } : Room).slots (Q1 (if own_steps n p' b ≤ 16 * n then 1 else 0) h0 n0) T7 (mkF m 60 #[.val (.ref a), .val (.int (Int32.ofNat n)), .val (.ref z), .val (.long (Int64.ofNat (16 * n))), .second, .val (.long (Int64.ofNat (own_tot n q bz i))), .second, .val (.int (Int32.ofNat (i + 1))), .val (.int (Int32.ofNat (n - (i + 1))))] [(.int (Int32.ofNat n)), (.long (Int64.ofNat (own_tot n q bz i)))])
      refine Go.st (fun _ k_ => XS.iconst X7.here hx rfl (hb hby d1_60) k_) ?_
      show Go p e s below ({ frames := 2, cells := 1, slots := 64, locals := 31 } : Room).cells ({ frames := 2, cells := 1, slots := 64, locals := 31 } : Room).slots (Q1 (if own_steps n p' b ≤ 16 * n then 1 else 0) h0 n0) T7 (mkF m 61 #[.val (.ref a), .val (.int (Int32.ofNat n)), .val (.ref z), .val (.long (Int64.ofNat (16 * n))), .second, .val (.long (Int64.ofNat (own_tot n q bz i))), .second, .val (.int (Int32.ofNat (i + 1))), .val (.int (Int32.ofNat (n - (i + 1))))] [(.int (1 : Int32)), (.int (Int32.ofNat n)), (.long (Int64.ofNat (own_tot n q bz i)))])
      refine Go.st (fun _ k_ => XS.isub X7.here hx rfl (hb hby d1_61) rfl k_) ?_
      show Go p e s below ({ frames := 2, cells := 1, slots := 64, locals := 31 } : Room).cells ({ frames := 2, cells := 1, slots := 64, locals := 31 } : Room).slots (Q1 (if own_steps n p' b ≤ 16 * n then 1 else 0) h0 n0) T7 (mkF m 62 #[.val (.ref a), .val (.int (Int32.ofNat n)), .val (.ref z), .val (.long (Int64.ofNat (16 * n))), .second, .val (.long (Int64.ofNat (own_tot n q bz i))), .second, .val (.int (Int32.ofNat (i + 1))), .val (.int (Int32.ofNat (n - (i + 1))))] [(.int ((Int32.ofNat n) - (1 : Int32))), (.long (Int64.ofNat (own_tot n q bz i)))])
      rw [on_sub1 (by omega)]
      show Go p e s below ({ frames := 2, cells := 1, slots := 64, locals := 31 } : Room).cells ({ frames := 2, cells := 1, slots := 64, locals := 31 } : Room).slots (Q1 (if own_steps n p' b ≤ 16 * n then 1 else 0) h0 n0) T7 (mkF m 62 #[.val (.ref a), .val (.int (Int32.ofNat n)), .val (.ref z), .val (.long (Int64.ofNat (16 * n))), .second, .val (.long (Int64.ofNat (own_tot n q bz i))), .second, .val (.int (Int32.ofNat (i + 1))), .val (.int (Int32.ofNat (n - (i + 1))))] [(.int (Int32.ofNat (n - 1))), (.long (Int64.ofNat (own_tot n q bz i)))])
      refine Go.st (fun _ k_ => XS.i2l X7.here hx rfl (hb hby d1_62) rfl k_) ?_
      show Go p e s below ({ frames := 2, cells := 1, slots := 64, locals := 31 } : Room).cells ({ frames := 2, cells := 1, slots := 64, locals := 31 } : Room).slots (Q1 (if own_steps n p' b ≤ 16 * n then 1 else 0) h0 n0) T7 (mkF m 63 #[.val (.ref a), .val (.int (Int32.ofNat n)), .val (.ref z), .val (.long (Int64.ofNat (16 * n))), .second, .val (.long (Int64.ofNat (own_tot n q bz i))), .second, .val (.int (Int32.ofNat (i + 1))), .val (.int (Int32.ofNat (n - (i + 1))))] [(.long ((Int32.ofNat (n - 1)).toInt64)), (.long (Int64.ofNat (own_tot n q bz i)))])
      rw [on_i2l (by omega)]
      show Go p e s below ({ frames := 2, cells := 1, slots := 64, locals := 31 } : Room).cells ({ frames := 2, cells := 1, slots := 64, locals := 31 } : Room).slots (Q1 (if own_steps n p' b ≤ 16 * n then 1 else 0) h0 n0) T7 (mkF m 63 #[.val (.ref a), .val (.int (Int32.ofNat n)), .val (.ref z), .val (.long (Int64.ofNat (16 * n))), .second, .val (.long (Int64.ofNat (own_tot n q bz i))), .second, .val (.int (Int32.ofNat (i + 1))), .val (.int (Int32.ofNat (n - (i + 1))))] [(.long (Int64.ofNat (n - 1))), (.long (Int64.ofNat (own_tot n q bz i)))])
      refine Go.st (fun _ k_ => XS.goto X7.here hx rfl (pc0 := 63) (pc' := 73) rfl (hb hby d1_63) (by decide) (by decide) k_) ?_
      show Go p e s below ({ frames := 2, cells := 1, slots := 64, locals := 31 } : Room).cells ({ frames := 2, cells := 1, slots := 64, locals := 31 } : Room).slots (Q1 (if own_steps n p' b ≤ 16 * n then 1 else 0) h0 n0) T7 (mkF m 73 #[.val (.ref a), .val (.int (Int32.ofNat n)), .val (.ref z), .val (.long (Int64.ofNat (16 * n))), .second, .val (.long (Int64.ofNat (own_tot n q bz i))), .second, .val (.int (Int32.ofNat (i + 1))), .val (.int (Int32.ofNat (n - (i + 1))))] [(.long (Int64.ofNat (n - 1))), (.long (Int64.ofNat (own_tot n q bz i)))])
      refine Go.st (fun _ k_ => XS.ladd X7.here hx rfl (hb hby d1_73) rfl k_) ?_
      show Go p e s below ({ frames := 2, cells := 1, slots := 64, locals := 31 } : Room).cells ({ frames := 2, cells := 1, slots := 64, locals := 31 } : Room).slots (Q1 (if own_steps n p' b ≤ 16 * n then 1 else 0) h0 n0) T7 (mkF m 74 #[.val (.ref a), .val (.int (Int32.ofNat n)), .val (.ref z), .val (.long (Int64.ofNat (16 * n))), .second, .val (.long (Int64.ofNat (own_tot n q bz i))), .second, .val (.int (Int32.ofNat (i + 1))), .val (.int (Int32.ofNat (n - (i + 1))))] [(.long ((Int64.ofNat (own_tot n q bz i)) + (Int64.ofNat (n - 1))))])
      rw [ol_add]
      show Go p e s below ({ frames := 2, cells := 1, slots := 64, locals := 31 } : Room).cells ({ frames := 2, cells := 1, slots := 64, locals := 31 } : Room).slots (Q1 (if own_steps n p' b ≤ 16 * n then 1 else 0) h0 n0) T7 (mkF m 74 #[.val (.ref a), .val (.int (Int32.ofNat n)), .val (.ref z), .val (.long (Int64.ofNat (16 * n))), .second, .val (.long (Int64.ofNat (own_tot n q bz i))), .second, .val (.int (Int32.ofNat (i + 1))), .val (.int (Int32.ofNat (n - (i + 1))))] [(.long (Int64.ofNat (own_tot n q bz i + (n - 1))))])
      refine Go.st (fun _ k_ => XS.lstore X7.here hx rfl (hb hby d1_74) rfl (l' := #[.val (.ref a), .val (.int (Int32.ofNat n)), .val (.ref z), .val (.long (Int64.ofNat (16 * n))), .second, .val (.long (Int64.ofNat (own_tot n q bz i + (n - 1)))), .second, .val (.int (Int32.ofNat (i + 1))), .val (.int (Int32.ofNat (n - (i + 1))))]) rfl k_) ?_
      show Go p e s below ({ frames := 2, cells := 1, slots := 64, locals := 31 } : Room).cells ({ frames := 2, cells := 1, slots := 64, locals := 31 } : Room).slots (Q1 (if own_steps n p' b ≤ 16 * n then 1 else 0) h0 n0) T7 (mkF m 76 #[.val (.ref a), .val (.int (Int32.ofNat n)), .val (.ref z), .val (.long (Int64.ofNat (16 * n))), .second, .val (.long (Int64.ofNat (own_tot n q bz i + (n - 1)))), .second, .val (.int (Int32.ofNat (i + 1))), .val (.int (Int32.ofNat (n - (i + 1))))] [])
      refine Go.st (fun _ k_ => XS.iinc X7.here hx rfl (hb hby d1_76) rfl (l' := #[.val (.ref a), .val (.int (Int32.ofNat n)), .val (.ref z), .val (.long (Int64.ofNat (16 * n))), .second, .val (.long (Int64.ofNat (own_tot n q bz i + (n - 1)))), .second, .val (.int ((Int32.ofNat (i + 1)) + (1 : Int32))), .val (.int (Int32.ofNat (n - (i + 1))))]) rfl k_) ?_
      show Go p e s below ({ frames := 2, cells := 1, slots := 64, locals := 31 } : Room).cells ({ frames := 2, cells := 1, slots := 64, locals := 31 } : Room).slots (Q1 (if own_steps n p' b ≤ 16 * n then 1 else 0) h0 n0) T7 (mkF m 79 #[.val (.ref a), .val (.int (Int32.ofNat n)), .val (.ref z), .val (.long (Int64.ofNat (16 * n))), .second, .val (.long (Int64.ofNat (own_tot n q bz i + (n - 1)))), .second, .val (.int ((Int32.ofNat (i + 1)) + (1 : Int32))), .val (.int (Int32.ofNat (n - (i + 1))))] [])
      refine Go.st (fun _ k_ => XS.goto X7.here hx rfl (pc0 := 79) (pc' := 29) rfl (hb hby d1_79) (by decide) (by decide) k_) ?_
      show Go p e s below ({ frames := 2, cells := 1, slots := 64, locals := 31 } : Room).cells ({ frames := 2, cells := 1, slots := 64, locals := 31 } : Room).slots (Q1 (if own_steps n p' b ≤ 16 * n then 1 else 0) h0 n0) T7 (mkF m 29 #[.val (.ref a), .val (.int (Int32.ofNat n)), .val (.ref z), .val (.long (Int64.ofNat (16 * n))), .second, .val (.long (Int64.ofNat (own_tot n q bz i + (n - 1)))), .second, .val (.int ((Int32.ofNat (i + 1)) + (1 : Int32))), .val (.int (Int32.ofNat (n - (i + 1))))] [])
      rw [on_succ]
      have q1 := ih (i + 1) _ (by omega) (Or.inr ⟨Int32.ofNat (n - (i + 1)), rfl⟩)
      rw [own_tot, hinc] at q1
      exact q1
  show Go p e s below ({ frames := 2, cells := 1, slots := 64, locals := 31 } : Room).cells ({ frames := 2, cells := 1, slots := 64, locals := 31 } : Room).slots (Q1 (if own_steps n p' b ≤ 16 * n then 1 else 0) h0 n0) T7 (mkF m 29 #[.val (.ref a), .val (.int (Int32.ofNat n)), .val (.ref z), .val (.long (Int64.ofNat (16 * n))), .second, .val (.long (Int64.ofNat n)), .second, .val (.int (1 : Int32)), .unset] [])
  exact loop n 0 .unset (by omega) (Or.inl rfl)
def Q0 (h0 : Heap) (n0 : Nat) (v : Option Value) (h : Heap) (L : List Loc) : Prop := v = some (.int 1) ∧ Fr n0 L
set_option maxRecDepth 65536 in
set_option maxHeartbeats 40000000 in
theorem rm0 (l : Launch) (Z : State) (a0 : Array Value) (hw : ∀ d ∈ tables_1, d.before a0 Z = true) (ws : List Jvm.Cond) (p1 p2 p3 p4 : Int32) (h0 : Heap) (n0 : Nat) (Z0 : n0 ≤ h0.size)  :
    MetFree l x (head1 (Jvm.Cond.code x code maxLocals ret :: ws) room_1) (fun a_ U_ => a_ = #[(.int p1), (.int p2), (.int p3), (.int p4)] ∧ Z.Warmed39 U_.vm ∧ U_.heap = h0) (fun _ _ _ _ _ => True) (fun _ U_ o_ W_ => ∃ v_ L_, o_ = .returned v_ ∧ (Q0 h0 n0) v_ W_.heap L_ ∧ FrameEnd U_ o_ W_ L_ room_1.cells room_1.slots) := by
  refine MetFree.of_bodySF (plainFor_of_name pn_com_example_switchback_switchback_expression_LiteralSearchIsCheapPinLaw) hisR ?_
  intro p e s m args below meth c s₁ Bd hml0 hP hK
  obtain ⟨rfl, hZ, hh⟩ := hP
  have hx := Bd.exec
  have hby := Bd.bytes
  have hml : c.maxLocals = 9 := hml0
  have hown : s.vm.findClass "com/example/switchback/switchback/expression/LiteralSearchIsCheapPinLaw" = some m.cls := findClass_of_methodNamed Bd.named
  have hnm := (name_of_methodNamed Bd.named Bd.method).1
  have hlk : meth.locks = false := BodyLoose.notSynchronized Bd
  have X0 : Stand p l e room_1 s m #[(.int p1), (.int p2), (.int p3), (.int p4)] below meth c s₁ [] 0 0 := Stand.of_body Bd
  have e0 : s₁.heap = h0 := by rw [← hh, Bd.state]; rfl
  have N0 := Fr.nil n0
  refine Go.enter (ef_0 m p1 p2 p3 p4) ?_
  show Go p e s below room_1.cells room_1.slots (Q0 h0 n0) s₁ (mkF m 0 #[.val (.int p1), .val (.int p2), .val (.int p3), .val (.int p4), .unset, .unset, .unset, .unset, .unset] [])
  refine Go.st (fun _ k_ => XS.iloadN X0.here hx rfl (hb hby at_0) rfl k_) ?_
  show Go p e s below room_1.cells room_1.slots (Q0 h0 n0) s₁ (mkF m 1 #[.val (.int p1), .val (.int p2), .val (.int p3), .val (.int p4), .unset, .unset, .unset, .unset, .unset] [(.int p1)])
  refine Go.st (fun _ k_ => XS.bipush X0.here hx rfl (hb hby at_1) k_) ?_
  show Go p e s below room_1.cells room_1.slots (Q0 h0 n0) s₁ (mkF m 3 #[.val (.int p1), .val (.int p2), .val (.int p3), .val (.int p4), .unset, .unset, .unset, .unset, .unset] [(.int (63 : Int32)), (.int p1)])
  refine Go.st (fun _ k_ => XS.iand X0.here hx rfl (hb hby at_3) rfl k_) ?_
  obtain ⟨n, hn, en⟩ := own_and63 p1
  show Go p e s below room_1.cells room_1.slots (Q0 h0 n0) s₁ (mkF m 4 #[.val (.int p1), .val (.int p2), .val (.int p3), .val (.int p4), .unset, .unset, .unset, .unset, .unset] [(.int (p1 &&& (63 : Int32)))])
  rw [en]
  show Go p e s below room_1.cells room_1.slots (Q0 h0 n0) s₁ (mkF m 4 #[.val (.int p1), .val (.int p2), .val (.int p3), .val (.int p4), .unset, .unset, .unset, .unset, .unset] [(.int (Int32.ofNat n))])
  refine Go.st (fun _ k_ => XS.istore X0.here hx rfl (hb hby at_4) rfl (l' := #[.val (.int p1), .val (.int p2), .val (.int p3), .val (.int p4), .val (.int (Int32.ofNat n)), .unset, .unset, .unset, .unset]) rfl k_) ?_
  show Go p e s below room_1.cells room_1.slots (Q0 h0 n0) s₁ (mkF m 6 #[.val (.int p1), .val (.int p2), .val (.int p3), .val (.int p4), .val (.int (Int32.ofNat n)), .unset, .unset, .unset, .unset] [])
  refine Go.st (fun _ k_ => XS.iloadN X0.here hx rfl (hb hby at_6) rfl k_) ?_
  show Go p e s below room_1.cells room_1.slots (Q0 h0 n0) s₁ (mkF m 7 #[.val (.int p1), .val (.int p2), .val (.int p3), .val (.int p4), .val (.int (Int32.ofNat n)), .unset, .unset, .unset, .unset] [(.int p4)])
  refine Go.st (fun _ k_ => XS.iconst X0.here hx rfl (hb hby at_7) k_) ?_
  show Go p e s below room_1.cells room_1.slots (Q0 h0 n0) s₁ (mkF m 8 #[.val (.int p1), .val (.int p2), .val (.int p3), .val (.int p4), .val (.int (Int32.ofNat n)), .unset, .unset, .unset, .unset] [(.int (1 : Int32)), (.int p4)])
  refine Go.st (fun _ k_ => XS.iand X0.here hx rfl (hb hby at_8) rfl k_) ?_
  have j17 : ∀ b : Int32, Go p e s below room_1.cells room_1.slots (Q0 h0 n0) s₁ (mkF m 17 #[.val (.int p1), .val (.int p2), .val (.int p3), .val (.int p4), .val (.int (Int32.ofNat n)), .unset, .unset, .unset, .unset] [(.int b)]) := by
    intro b
    show Go p e s below room_1.cells room_1.slots (Q0 h0 n0) s₁ (mkF m 17 #[.val (.int p1), .val (.int p2), .val (.int p3), .val (.int p4), .val (.int (Int32.ofNat n)), .unset, .unset, .unset, .unset] [(.int b)])
    refine Go.st (fun _ k_ => XS.istore X0.here hx rfl (hb hby at_17) rfl (l' := #[.val (.int p1), .val (.int p2), .val (.int p3), .val (.int p4), .val (.int (Int32.ofNat n)), .val (.int b), .unset, .unset, .unset]) rfl k_) ?_
    show Go p e s below room_1.cells room_1.slots (Q0 h0 n0) s₁ (mkF m 19 #[.val (.int p1), .val (.int p2), .val (.int p3), .val (.int p4), .val (.int (Int32.ofNat n)), .val (.int b), .unset, .unset, .unset] [])
    refine Go.st (fun _ k_ => XS.iload X0.here hx rfl (hb hby at_19) rfl k_) ?_
    show Go p e s below room_1.cells room_1.slots (Q0 h0 n0) s₁ (mkF m 21 #[.val (.int p1), .val (.int p2), .val (.int p3), .val (.int p4), .val (.int (Int32.ofNat n)), .val (.int b), .unset, .unset, .unset] [(.int (Int32.ofNat n))])
    obtain ⟨T8, h8, k8, X8, e8, E8, A8, st8⟩ := newP X0 hx hZ (hw _ (List.mem_of_getElem? (i := 0) rfl)) e0 (g := (mkF m 21 #[.val (.int p1), .val (.int p2), .val (.int p3), .val (.int p4), .val (.int (Int32.ofNat n)), .val (.int b), .unset, .unset, .unset] [(.int (Int32.ofNat n))])) rfl (hb hby at_21) rfl (on_nn (by omega)) (cap := 63) (by rw [on_idx (by omega)]; omega) (by decide) (by decide) (by decide)
    obtain ⟨ar, g8⟩ : ∃ z, z = h0.size := ⟨_, rfl⟩
    rw [← g8] at A8 st8
    refine Go.st st8 ?_
    have V0 : AV Z h8 ar .int n (fun _ => 0) := by have q := AV.new A8 (on_nn (by omega)) rfl; rw [on_idx (by omega)] at q; exact q
    have gz : n0 ≤ ar := by rw [g8]; exact Z0
    show Go p e s below room_1.cells room_1.slots (Q0 h0 n0) T8 (mkF m 23 #[.val (.int p1), .val (.int p2), .val (.int p3), .val (.int p4), .val (.int (Int32.ofNat n)), .val (.int b), .unset, .unset, .unset] [(.ref ar)])
    refine Go.st (fun _ k_ => XS.astore X8.here hx rfl (hb hby at_23) rfl rfl (l' := #[.val (.int p1), .val (.int p2), .val (.int p3), .val (.int p4), .val (.int (Int32.ofNat n)), .val (.int b), .val (.ref ar), .unset, .unset]) rfl k_) ?_
    show Go p e s below room_1.cells room_1.slots (Q0 h0 n0) T8 (mkF m 25 #[.val (.int p1), .val (.int p2), .val (.int p3), .val (.int p4), .val (.int (Int32.ofNat n)), .val (.int b), .val (.ref ar), .unset, .unset] [])
    refine Go.st (fun _ k_ => XS.iconst X8.here hx rfl (hb hby at_25) k_) ?_
    show Go p e s below room_1.cells room_1.slots (Q0 h0 n0) T8 (mkF m 26 #[.val (.int p1), .val (.int p2), .val (.int p3), .val (.int p4), .val (.int (Int32.ofNat n)), .val (.int b), .val (.ref ar), .unset, .unset] [(.int (0 : Int32))])
    refine Go.st (fun _ k_ => XS.istore X8.here hx rfl (hb hby at_26) rfl (l' := #[.val (.int p1), .val (.int p2), .val (.int p3), .val (.int p4), .val (.int (Int32.ofNat n)), .val (.int b), .val (.ref ar), .val (.int (0 : Int32)), .unset]) rfl k_) ?_
    show Go p e s below room_1.cells room_1.slots (Q0 h0 n0) T8 (mkF m 28 #[.val (.int p1), .val (.int p2), .val (.int p3), .val (.int p4), .val (.int (Int32.ofNat n)), .val (.int b), .val (.ref ar), .val (.int (0 : Int32)), .unset] [])
    refine Go.st (fun _ k_ => XS.iload X8.here hx rfl (hb hby at_28) rfl k_) ?_
    by_cases hn0 : n = 0
    · skip
      show Go p e s below room_1.cells room_1.slots (Q0 h0 n0) T8 (mkF m 30 #[.val (.int p1), .val (.int p2), .val (.int p3), .val (.int p4), .val (.int (Int32.ofNat n)), .val (.int b), .val (.ref ar), .val (.int (0 : Int32)), .unset] [(.int (Int32.ofNat n))])
      refine Go.st (fun _ k_ => XS.ifYes X8.here hx rfl (pc0 := 30) (pc' := 49) rfl (hb hby at_30) rfl ((if0 _ _).trans (flt (fun q => by have := (on_lt (j := 0) (by omega) (by omega)).mp q; omega)).2.2.2) (by decide) (by decide) k_) ?_
      show Go p e s below room_1.cells room_1.slots (Q0 h0 n0) T8 (mkF m 49 #[.val (.int p1), .val (.int p2), .val (.int p3), .val (.int p4), .val (.int (Int32.ofNat n)), .val (.int b), .val (.ref ar), .val (.int (0 : Int32)), .unset] [])
      refine Go.st (fun _ k_ => XS.iload X8.here hx rfl (hb hby at_49) rfl k_) ?_
      show Go p e s below room_1.cells room_1.slots (Q0 h0 n0) T8 (mkF m 51 #[.val (.int p1), .val (.int p2), .val (.int p3), .val (.int p4), .val (.int (Int32.ofNat n)), .val (.int b), .val (.ref ar), .val (.int (0 : Int32)), .unset] [(.int (Int32.ofNat n))])
      refine Go.st (fun _ k_ => XS.iconst X8.here hx rfl (hb hby at_51) k_) ?_
      show Go p e s below room_1.cells room_1.slots (Q0 h0 n0) T8 (mkF m 52 #[.val (.int p1), .val (.int p2), .val (.int p3), .val (.int p4), .val (.int (Int32.ofNat n)), .val (.int b), .val (.ref ar), .val (.int (0 : Int32)), .unset] [(.int (4 : Int32)), (.int (Int32.ofNat n))])
      refine Go.st (fun _ k_ => XS.icmpYes X8.here hx rfl (pc0 := 52) (pc' := 75) rfl (hb hby at_52) rfl (tlt ((on_lt (k := 4) (by omega) (by omega)).mpr (by omega))).1 (by decide) (by decide) k_) ?_
      show Go p e s below room_1.cells room_1.slots (Q0 h0 n0) T8 (mkF m 75 #[.val (.int p1), .val (.int p2), .val (.int p3), .val (.int p4), .val (.int (Int32.ofNat n)), .val (.int b), .val (.ref ar), .val (.int (0 : Int32)), .unset] [])
      refine Go.st (fun _ k_ => XS.iconst X8.here hx rfl (hb hby at_75) k_) ?_
      show Go p e s below room_1.cells room_1.slots (Q0 h0 n0) T8 (mkF m 76 #[.val (.int p1), .val (.int p2), .val (.int p3), .val (.int p4), .val (.int (Int32.ofNat n)), .val (.int b), .val (.ref ar), .val (.int (0 : Int32)), .unset] [(.int (1 : Int32))])
      refine Go.st (fun _ k_ => XS.goto X8.here hx rfl (pc0 := 76) (pc' := 80) rfl (hb hby at_76) (by decide) (by decide) k_) ?_
      show Go p e s below room_1.cells room_1.slots (Q0 h0 n0) T8 (mkF m 80 #[.val (.int p1), .val (.int p2), .val (.int p3), .val (.int p4), .val (.int (Int32.ofNat n)), .val (.int b), .val (.ref ar), .val (.int (0 : Int32)), .unset] [(.int (1 : Int32))])
      refine Go.st (fun _ k_ => XS.istore X8.here hx rfl (hb hby at_80) rfl (l' := #[.val (.int p1), .val (.int p2), .val (.int p3), .val (.int p4), .val (.int (Int32.ofNat n)), .val (.int b), .val (.ref ar), .val (.int (0 : Int32)), .val (.int (1 : Int32))]) rfl k_) ?_
      show Go p e s below room_1.cells room_1.slots (Q0 h0 n0) T8 (mkF m 82 #[.val (.int p1), .val (.int p2), .val (.int p3), .val (.int p4), .val (.int (Int32.ofNat n)), .val (.int b), .val (.ref ar), .val (.int (0 : Int32)), .val (.int (1 : Int32))] [])
      refine Go.st (fun _ k_ => XS.aload X8.here hx rfl (hb hby at_82) rfl rfl k_) ?_
      show Go p e s below room_1.cells room_1.slots (Q0 h0 n0) T8 (mkF m 84 #[.val (.int p1), .val (.int p2), .val (.int p3), .val (.int p4), .val (.int (Int32.ofNat n)), .val (.int b), .val (.ref ar), .val (.int (0 : Int32)), .val (.int (1 : Int32))] [(.ref ar)])
      obtain ⟨_, _, ⟨T9, L9, k9, n9⟩, -, X9, ⟨Lc9, hQ9, l9, y9, z9⟩, st9⟩ := Jvm.LawKit.callS X8 hx (y := (⟨"com/example/switchback/switchback/expression/LiteralSearch", "isCheap", "([I)Z"⟩ : MethodName)) hown (mvT hZ (hw _ (List.mem_of_getElem? (i := 1) rfl))) (mvT hZ (hw _ (List.mem_of_getElem? (i := 2) rfl))) (mvT hZ (hw _ (List.mem_of_getElem? (i := 3) rfl))) (mvT hZ (hw _ (List.mem_of_getElem? (i := 4) rfl))) (by decide) (backOf (W := 0) (rm1a l Z a0 hw [] ar n _ h8 n0 (Nat.le_trans Z0 E8.1) (by omega) V0) hZ (hw _ (List.mem_of_getElem? (i := 4) rfl)) (hw _ (List.mem_of_getElem? (i := 3) rfl)) (by decide) (by decide)) (g := (mkF m 84 #[.val (.int p1), .val (.int p2), .val (.int p3), .val (.int p4), .val (.int (Int32.ofNat n)), .val (.int b), .val (.ref ar), .val (.int (0 : Int32)), .val (.int (1 : Int32))] [(.ref ar)])) rfl (by rw [hml]; rfl) (argsL := [(.ref ar)]) (rest := []) (lenOf pd_3 rfl) rfl (by show 2 * 0 + _ ≤ _; exact Nat.le_of_eq rfl) (hb hby at_84) (fun _ _ => ⟨rfl, e8, (by decide : (0 + 1) + 1 ≤ _), (by decide : (0 + 63) + 64 ≤ _)⟩)
      dsimp only [Pt.U, Pt.locs, Pt.cells, Pt.slots] at X9 l9 y9 z9 st9 hQ9
      subst l9 y9 z9
      obtain ⟨rfl, hN9⟩ := hQ9
      have N9 := Fr.app N0 hN9
      refine Go.st st9 ?_
      show Go p e s below room_1.cells room_1.slots (Q0 h0 n0) T9 (mkF m 87 #[.val (.int p1), .val (.int p2), .val (.int p3), .val (.int p4), .val (.int (Int32.ofNat n)), .val (.int b), .val (.ref ar), .val (.int (0 : Int32)), .val (.int (1 : Int32))] [(.int (1 : Int32))])
      refine Go.st (fun _ k_ => XS.iload X9.here hx rfl (hb hby at_87) rfl k_) ?_
      show Go p e s below room_1.cells room_1.slots (Q0 h0 n0) T9 (mkF m 89 #[.val (.int p1), .val (.int p2), .val (.int p3), .val (.int p4), .val (.int (Int32.ofNat n)), .val (.int b), .val (.ref ar), .val (.int (0 : Int32)), .val (.int (1 : Int32))] [(.int (1 : Int32)), (.int (1 : Int32))])
      refine Go.st (fun _ k_ => XS.icmpNo X9.here hx rfl (hb hby at_89) rfl (teq rfl).2 k_) ?_
      show Go p e s below room_1.cells room_1.slots (Q0 h0 n0) T9 (mkF m 92 #[.val (.int p1), .val (.int p2), .val (.int p3), .val (.int p4), .val (.int (Int32.ofNat n)), .val (.int b), .val (.ref ar), .val (.int (0 : Int32)), .val (.int (1 : Int32))] [])
      refine Go.st (fun _ k_ => XS.iconst X9.here hx rfl (hb hby at_92) k_) ?_
      show Go p e s below room_1.cells room_1.slots (Q0 h0 n0) T9 (mkF m 93 #[.val (.int p1), .val (.int p2), .val (.int p3), .val (.int p4), .val (.int (Int32.ofNat n)), .val (.int b), .val (.ref ar), .val (.int (0 : Int32)), .val (.int (1 : Int32))] [(.int (1 : Int32))])
      refine Go.st (fun _ k_ => XS.goto X9.here hx rfl (pc0 := 93) (pc' := 97) rfl (hb hby at_93) (by decide) (by decide) k_) ?_
      show Go p e s below room_1.cells room_1.slots (Q0 h0 n0) T9 (mkF m 97 #[.val (.int p1), .val (.int p2), .val (.int p3), .val (.int p4), .val (.int (Int32.ofNat n)), .val (.int b), .val (.ref ar), .val (.int (0 : Int32)), .val (.int (1 : Int32))] [(.int (1 : Int32))])
      exact Go.retN X9 hx hlk (t := .boolean) Bd.returns (by simp) (hb hby at_97) (by decide) (by decide) ⟨rfl, N9⟩
    show Go p e s below room_1.cells room_1.slots (Q0 h0 n0) T8 (mkF m 30 #[.val (.int p1), .val (.int p2), .val (.int p3), .val (.int p4), .val (.int (Int32.ofNat n)), .val (.int b), .val (.ref ar), .val (.int (0 : Int32)), .unset] [(.int (Int32.ofNat n))])
    refine Go.st (fun _ k_ => XS.ifNo X8.here hx rfl (hb hby at_30) rfl ((if0 _ _).trans (tlt ((on_lt (j := 0) (by omega) (by omega)).mpr (by omega))).2.2.2) k_) ?_
    show Go p e s below room_1.cells room_1.slots (Q0 h0 n0) T8 (mkF m 33 #[.val (.int p1), .val (.int p2), .val (.int p3), .val (.int p4), .val (.int (Int32.ofNat n)), .val (.int b), .val (.ref ar), .val (.int (0 : Int32)), .unset] [])
    refine Go.st (fun _ k_ => XS.iloadN X8.here hx rfl (hb hby at_33) rfl k_) ?_
    show Go p e s below room_1.cells room_1.slots (Q0 h0 n0) T8 (mkF m 34 #[.val (.int p1), .val (.int p2), .val (.int p3), .val (.int p4), .val (.int (Int32.ofNat n)), .val (.int b), .val (.ref ar), .val (.int (0 : Int32)), .unset] [(.int p2)])
    refine Go.st (X8.ldcInt hx hown (mvT hZ (hw _ (List.mem_of_getElem? (i := 5) rfl))) (g := (mkF m 34 #[.val (.int p1), .val (.int p2), .val (.int p3), .val (.int p4), .val (.int (Int32.ofNat n)), .val (.int b), .val (.ref ar), .val (.int (0 : Int32)), .unset] [(.int p2)])) rfl (hb hby at_34)) ?_
    show Go p e s below room_1.cells room_1.slots (Q0 h0 n0) T8 (mkF m 36 #[.val (.int p1), .val (.int p2), .val (.int p3), .val (.int p4), .val (.int (Int32.ofNat n)), .val (.int b), .val (.ref ar), .val (.int (0 : Int32)), .unset] [(.int (2147483647 : Int32)), (.int p2)])
    refine Go.st (fun _ k_ => XS.iand X8.here hx rfl (hb hby at_36) rfl k_) ?_
    show Go p e s below room_1.cells room_1.slots (Q0 h0 n0) T8 (mkF m 37 #[.val (.int p1), .val (.int p2), .val (.int p3), .val (.int p4), .val (.int (Int32.ofNat n)), .val (.int b), .val (.ref ar), .val (.int (0 : Int32)), .unset] [(.int (p2 &&& (2147483647 : Int32)))])
    refine Go.st (fun _ k_ => XS.iload X8.here hx rfl (hb hby at_37) rfl k_) ?_
    have hnz : ¬ Int32.ofNat n = (0 : Int32) := fun q => hn0 ((on_inj (k := 0) (by omega) (by omega)).mp q)
    show Go p e s below room_1.cells room_1.slots (Q0 h0 n0) T8 (mkF m 39 #[.val (.int p1), .val (.int p2), .val (.int p3), .val (.int p4), .val (.int (Int32.ofNat n)), .val (.int b), .val (.ref ar), .val (.int (0 : Int32)), .unset] [(.int (Int32.ofNat n)), (.int (p2 &&& (2147483647 : Int32)))])
    refine Go.st (fun _ k_ => XS.irem X8.here hx rfl (hb hby at_39) rfl hnz k_) ?_
    obtain ⟨p', hp, ep⟩ := own_p p2 hn (by omega)
    show Go p e s below room_1.cells room_1.slots (Q0 h0 n0) T8 (mkF m 40 #[.val (.int p1), .val (.int p2), .val (.int p3), .val (.int p4), .val (.int (Int32.ofNat n)), .val (.int b), .val (.ref ar), .val (.int (0 : Int32)), .unset] [(.int ((p2 &&& (2147483647 : Int32)) - ((p2 &&& (2147483647 : Int32)) / (Int32.ofNat n)) * (Int32.ofNat n)))])
    rw [ep]
    show Go p e s below room_1.cells room_1.slots (Q0 h0 n0) T8 (mkF m 40 #[.val (.int p1), .val (.int p2), .val (.int p3), .val (.int p4), .val (.int (Int32.ofNat n)), .val (.int b), .val (.ref ar), .val (.int (0 : Int32)), .unset] [(.int (Int32.ofNat p'))])
    refine Go.st (fun _ k_ => XS.istore X8.here hx rfl (hb hby at_40) rfl (l' := #[.val (.int p1), .val (.int p2), .val (.int p3), .val (.int p4), .val (.int (Int32.ofNat n)), .val (.int b), .val (.ref ar), .val (.int (Int32.ofNat p')), .unset]) rfl k_) ?_
    show Go p e s below room_1.cells room_1.slots (Q0 h0 n0) T8 (mkF m 42 #[.val (.int p1), .val (.int p2), .val (.int p3), .val (.int p4), .val (.int (Int32.ofNat n)), .val (.int b), .val (.ref ar), .val (.int (Int32.ofNat p')), .unset] [])
    refine Go.st (fun _ k_ => XS.aload X8.here hx rfl (hb hby at_42) rfl rfl k_) ?_
    show Go p e s below room_1.cells room_1.slots (Q0 h0 n0) T8 (mkF m 44 #[.val (.int p1), .val (.int p2), .val (.int p3), .val (.int p4), .val (.int (Int32.ofNat n)), .val (.int b), .val (.ref ar), .val (.int (Int32.ofNat p')), .unset] [(.ref ar)])
    refine Go.st (fun _ k_ => XS.iload X8.here hx rfl (hb hby at_44) rfl k_) ?_
    show Go p e s below room_1.cells room_1.slots (Q0 h0 n0) T8 (mkF m 46 #[.val (.int p1), .val (.int p2), .val (.int p3), .val (.int p4), .val (.int (Int32.ofNat n)), .val (.int b), .val (.ref ar), .val (.int (Int32.ofNat p')), .unset] [(.int (Int32.ofNat p')), (.ref ar)])
    refine Go.st (fun _ k_ => XS.iload X8.here hx rfl (hb hby at_46) rfl k_) ?_
    show Go p e s below room_1.cells room_1.slots (Q0 h0 n0) T8 (mkF m 48 #[.val (.int p1), .val (.int p2), .val (.int p3), .val (.int p4), .val (.int (Int32.ofNat n)), .val (.int b), .val (.ref ar), .val (.int (Int32.ofNat p')), .unset] [(.int b), (.int (Int32.ofNat p')), (.ref ar)])
    obtain ⟨T10, h10, X10, e10, W10, V10, st10⟩ := AV.stI X8 hx hZ e8 V0 (on_idx (by omega)) (on_nn (by omega)) (by omega) (g := (mkF m 48 #[.val (.int p1), .val (.int p2), .val (.int p3), .val (.int p4), .val (.int (Int32.ofNat n)), .val (.int b), .val (.ref ar), .val (.int (Int32.ofNat p')), .unset] [(.int b), (.int (Int32.ofNat p')), (.ref ar)])) rfl rfl (hb hby at_48)
    refine Go.st st10 ?_
    have N10 := Fr.snoc X10 N0 gz
    have VF : AV Z h10 ar .int n (own_f p' b) := V10.congr (fun j _ => by simp only [upd, own_f])
    have ZF : n0 ≤ h10.size := Nat.le_trans gz (Nat.le_of_lt VF.lt)
    show Go p e s below room_1.cells room_1.slots (Q0 h0 n0) T10 (mkF m 49 #[.val (.int p1), .val (.int p2), .val (.int p3), .val (.int p4), .val (.int (Int32.ofNat n)), .val (.int b), .val (.ref ar), .val (.int (Int32.ofNat p')), .unset] [])
    refine Go.st (fun _ k_ => XS.iload X10.here hx rfl (hb hby at_49) rfl k_) ?_
    show Go p e s below room_1.cells room_1.slots (Q0 h0 n0) T10 (mkF m 51 #[.val (.int p1), .val (.int p2), .val (.int p3), .val (.int p4), .val (.int (Int32.ofNat n)), .val (.int b), .val (.ref ar), .val (.int (Int32.ofNat p')), .unset] [(.int (Int32.ofNat n))])
    refine Go.st (fun _ k_ => XS.iconst X10.here hx rfl (hb hby at_51) k_) ?_
    by_cases hn4 : n < 4
    · skip
      show Go p e s below room_1.cells room_1.slots (Q0 h0 n0) T10 (mkF m 52 #[.val (.int p1), .val (.int p2), .val (.int p3), .val (.int p4), .val (.int (Int32.ofNat n)), .val (.int b), .val (.ref ar), .val (.int (Int32.ofNat p')), .unset] [(.int (4 : Int32)), (.int (Int32.ofNat n))])
      refine Go.st (fun _ k_ => XS.icmpYes X10.here hx rfl (pc0 := 52) (pc' := 75) rfl (hb hby at_52) rfl (tlt ((on_lt (k := 4) (by omega) (by omega)).mpr hn4)).1 (by decide) (by decide) k_) ?_
      show Go p e s below room_1.cells room_1.slots (Q0 h0 n0) T10 (mkF m 75 #[.val (.int p1), .val (.int p2), .val (.int p3), .val (.int p4), .val (.int (Int32.ofNat n)), .val (.int b), .val (.ref ar), .val (.int (Int32.ofNat p')), .unset] [])
      refine Go.st (fun _ k_ => XS.iconst X10.here hx rfl (hb hby at_75) k_) ?_
      show Go p e s below room_1.cells room_1.slots (Q0 h0 n0) T10 (mkF m 76 #[.val (.int p1), .val (.int p2), .val (.int p3), .val (.int p4), .val (.int (Int32.ofNat n)), .val (.int b), .val (.ref ar), .val (.int (Int32.ofNat p')), .unset] [(.int (1 : Int32))])
      refine Go.st (fun _ k_ => XS.goto X10.here hx rfl (pc0 := 76) (pc' := 80) rfl (hb hby at_76) (by decide) (by decide) k_) ?_
      show Go p e s below room_1.cells room_1.slots (Q0 h0 n0) T10 (mkF m 80 #[.val (.int p1), .val (.int p2), .val (.int p3), .val (.int p4), .val (.int (Int32.ofNat n)), .val (.int b), .val (.ref ar), .val (.int (Int32.ofNat p')), .unset] [(.int (1 : Int32))])
      refine Go.st (fun _ k_ => XS.istore X10.here hx rfl (hb hby at_80) rfl (l' := #[.val (.int p1), .val (.int p2), .val (.int p3), .val (.int p4), .val (.int (Int32.ofNat n)), .val (.int b), .val (.ref ar), .val (.int (Int32.ofNat p')), .val (.int (1 : Int32))]) rfl k_) ?_
      show Go p e s below room_1.cells room_1.slots (Q0 h0 n0) T10 (mkF m 82 #[.val (.int p1), .val (.int p2), .val (.int p3), .val (.int p4), .val (.int (Int32.ofNat n)), .val (.int b), .val (.ref ar), .val (.int (Int32.ofNat p')), .val (.int (1 : Int32))] [])
      refine Go.st (fun _ k_ => XS.aload X10.here hx rfl (hb hby at_82) rfl rfl k_) ?_
      show Go p e s below room_1.cells room_1.slots (Q0 h0 n0) T10 (mkF m 84 #[.val (.int p1), .val (.int p2), .val (.int p3), .val (.int p4), .val (.int (Int32.ofNat n)), .val (.int b), .val (.ref ar), .val (.int (Int32.ofNat p')), .val (.int (1 : Int32))] [(.ref ar)])
      obtain ⟨_, _, ⟨T11, L11, k11, n11⟩, -, X11, ⟨Lc11, hQ11, l11, y11, z11⟩, st11⟩ := Jvm.LawKit.callS X10 hx (y := (⟨"com/example/switchback/switchback/expression/LiteralSearch", "isCheap", "([I)Z"⟩ : MethodName)) hown (mvT hZ (hw _ (List.mem_of_getElem? (i := 1) rfl))) (mvT hZ (hw _ (List.mem_of_getElem? (i := 2) rfl))) (mvT hZ (hw _ (List.mem_of_getElem? (i := 3) rfl))) (mvT hZ (hw _ (List.mem_of_getElem? (i := 4) rfl))) (by decide) (backOf (W := 0) (rm1a l Z a0 hw [] ar n _ h10 n0 ZF hn4 VF) hZ (hw _ (List.mem_of_getElem? (i := 4) rfl)) (hw _ (List.mem_of_getElem? (i := 3) rfl)) (by decide) (by decide)) (g := (mkF m 84 #[.val (.int p1), .val (.int p2), .val (.int p3), .val (.int p4), .val (.int (Int32.ofNat n)), .val (.int b), .val (.ref ar), .val (.int (Int32.ofNat p')), .val (.int (1 : Int32))] [(.ref ar)])) rfl (by rw [hml]; rfl) (argsL := [(.ref ar)]) (rest := []) (lenOf pd_3 rfl) rfl (by show 2 * 0 + _ ≤ _; exact Nat.le_of_eq rfl) (hb hby at_84) (fun _ _ => ⟨rfl, e10, (by decide : (0 + 1) + 1 ≤ _), (by decide : (0 + 63) + 64 ≤ _)⟩)
      dsimp only [Pt.U, Pt.locs, Pt.cells, Pt.slots] at X11 l11 y11 z11 st11 hQ11
      subst l11 y11 z11
      obtain ⟨rfl, hN11⟩ := hQ11
      have N11 := Fr.app N10 hN11
      refine Go.st st11 ?_
      show Go p e s below room_1.cells room_1.slots (Q0 h0 n0) T11 (mkF m 87 #[.val (.int p1), .val (.int p2), .val (.int p3), .val (.int p4), .val (.int (Int32.ofNat n)), .val (.int b), .val (.ref ar), .val (.int (Int32.ofNat p')), .val (.int (1 : Int32))] [(.int (1 : Int32))])
      refine Go.st (fun _ k_ => XS.iload X11.here hx rfl (hb hby at_87) rfl k_) ?_
      show Go p e s below room_1.cells room_1.slots (Q0 h0 n0) T11 (mkF m 89 #[.val (.int p1), .val (.int p2), .val (.int p3), .val (.int p4), .val (.int (Int32.ofNat n)), .val (.int b), .val (.ref ar), .val (.int (Int32.ofNat p')), .val (.int (1 : Int32))] [(.int (1 : Int32)), (.int (1 : Int32))])
      refine Go.st (fun _ k_ => XS.icmpNo X11.here hx rfl (hb hby at_89) rfl (teq rfl).2 k_) ?_
      show Go p e s below room_1.cells room_1.slots (Q0 h0 n0) T11 (mkF m 92 #[.val (.int p1), .val (.int p2), .val (.int p3), .val (.int p4), .val (.int (Int32.ofNat n)), .val (.int b), .val (.ref ar), .val (.int (Int32.ofNat p')), .val (.int (1 : Int32))] [])
      refine Go.st (fun _ k_ => XS.iconst X11.here hx rfl (hb hby at_92) k_) ?_
      show Go p e s below room_1.cells room_1.slots (Q0 h0 n0) T11 (mkF m 93 #[.val (.int p1), .val (.int p2), .val (.int p3), .val (.int p4), .val (.int (Int32.ofNat n)), .val (.int b), .val (.ref ar), .val (.int (Int32.ofNat p')), .val (.int (1 : Int32))] [(.int (1 : Int32))])
      refine Go.st (fun _ k_ => XS.goto X11.here hx rfl (pc0 := 93) (pc' := 97) rfl (hb hby at_93) (by decide) (by decide) k_) ?_
      show Go p e s below room_1.cells room_1.slots (Q0 h0 n0) T11 (mkF m 97 #[.val (.int p1), .val (.int p2), .val (.int p3), .val (.int p4), .val (.int (Int32.ofNat n)), .val (.int b), .val (.ref ar), .val (.int (Int32.ofNat p')), .val (.int (1 : Int32))] [(.int (1 : Int32))])
      exact Go.retN X11 hx hlk (t := .boolean) Bd.returns (by simp) (hb hby at_97) (by decide) (by decide) ⟨rfl, N11⟩
    show Go p e s below room_1.cells room_1.slots (Q0 h0 n0) T10 (mkF m 52 #[.val (.int p1), .val (.int p2), .val (.int p3), .val (.int p4), .val (.int (Int32.ofNat n)), .val (.int b), .val (.ref ar), .val (.int (Int32.ofNat p')), .unset] [(.int (4 : Int32)), (.int (Int32.ofNat n))])
    refine Go.st (fun _ k_ => XS.icmpNo X10.here hx rfl (hb hby at_52) rfl (flt (fun q => hn4 ((on_lt (k := 4) (by omega) (by omega)).mp q))).1 k_) ?_
    show Go p e s below room_1.cells room_1.slots (Q0 h0 n0) T10 (mkF m 55 #[.val (.int p1), .val (.int p2), .val (.int p3), .val (.int p4), .val (.int (Int32.ofNat n)), .val (.int b), .val (.ref ar), .val (.int (Int32.ofNat p')), .unset] [])
    refine Go.st (fun _ k_ => XS.iload X10.here hx rfl (hb hby at_55) rfl k_) ?_
    show Go p e s below room_1.cells room_1.slots (Q0 h0 n0) T10 (mkF m 57 #[.val (.int p1), .val (.int p2), .val (.int p3), .val (.int p4), .val (.int (Int32.ofNat n)), .val (.int b), .val (.ref ar), .val (.int (Int32.ofNat p')), .unset] [(.int (Int32.ofNat n))])
    refine Go.st (fun _ k_ => XS.iload X10.here hx rfl (hb hby at_57) rfl k_) ?_
    show Go p e s below room_1.cells room_1.slots (Q0 h0 n0) T10 (mkF m 59 #[.val (.int p1), .val (.int p2), .val (.int p3), .val (.int p4), .val (.int (Int32.ofNat n)), .val (.int b), .val (.ref ar), .val (.int (Int32.ofNat p')), .unset] [(.int (Int32.ofNat p')), (.int (Int32.ofNat n))])
    refine Go.st (fun _ k_ => XS.iload X10.here hx rfl (hb hby at_59) rfl k_) ?_
    show Go p e s below room_1.cells room_1.slots (Q0 h0 n0) T10 (mkF m 61 #[.val (.int p1), .val (.int p2), .val (.int p3), .val (.int p4), .val (.int (Int32.ofNat n)), .val (.int b), .val (.ref ar), .val (.int (Int32.ofNat p')), .unset] [(.int b), (.int (Int32.ofNat p')), (.int (Int32.ofNat n))])
    obtain ⟨_, _, ⟨T12, L12, k12, n12⟩, -, X12, ⟨Lc12, hQ12, l12, y12, z12⟩, st12⟩ := Jvm.LawKit.callS X10 hx (y := (⟨"com/example/switchback/switchback/expression/LiteralSearchIsCheapPinLaw", "steps", "(III)J"⟩ : MethodName)) hown (mvT hZ (hw _ (List.mem_of_getElem? (i := 6) rfl))) (mvT hZ (hw _ (List.mem_of_getElem? (i := 7) rfl))) (mvT hZ (hw _ (List.mem_of_getElem? (i := 8) rfl))) (mvT hZ (hw _ (List.mem_of_getElem? (i := 9) rfl))) (by decide) (backOf (W := 0) (rm2 l Z a0 hw [] n p' b h10 n0 ZF hn hp) hZ (hw _ (List.mem_of_getElem? (i := 9) rfl)) (hw _ (List.mem_of_getElem? (i := 8) rfl)) (by decide) (by decide)) (g := (mkF m 61 #[.val (.int p1), .val (.int p2), .val (.int p3), .val (.int p4), .val (.int (Int32.ofNat n)), .val (.int b), .val (.ref ar), .val (.int (Int32.ofNat p')), .unset] [(.int b), (.int (Int32.ofNat p')), (.int (Int32.ofNat n))])) rfl (by rw [hml]; rfl) (argsL := [(.int (Int32.ofNat n)), (.int (Int32.ofNat p')), (.int b)]) (rest := []) (lenOf pd_1 rfl) rfl (by show 2 * 0 + _ ≤ _; exact Nat.le_of_eq rfl) (hb hby at_61) (fun _ _ => ⟨rfl, e10, (by decide : (0 + 1) + 0 ≤ _), (by decide : (0 + 63) + 0 ≤ _)⟩)
    dsimp only [Pt.U, Pt.locs, Pt.cells, Pt.slots] at X12 l12 y12 z12 st12 hQ12
    subst l12 y12 z12
    obtain ⟨rfl, hN12, eS⟩ := hQ12
    have N12 := Fr.app N10 hN12
    refine Go.st st12 ?_
    rw [← eS] at VF ZF
    have hSl := own_steps_le (b := b) hn hp
    show Go p e s below room_1.cells room_1.slots (Q0 h0 n0) T12 (mkF m 64 #[.val (.int p1), .val (.int p2), .val (.int p3), .val (.int p4), .val (.int (Int32.ofNat n)), .val (.int b), .val (.ref ar), .val (.int (Int32.ofNat p')), .unset] [(.long (Int64.ofNat (own_steps n p' b)))])
    refine Go.st (X12.ldc2Long hx hown (mvT hZ (hw _ (List.mem_of_getElem? (i := 18) rfl))) (g := (mkF m 64 #[.val (.int p1), .val (.int p2), .val (.int p3), .val (.int p4), .val (.int (Int32.ofNat n)), .val (.int b), .val (.ref ar), .val (.int (Int32.ofNat p')), .unset] [(.long (Int64.ofNat (own_steps n p' b)))])) rfl (hb hby at_64)) ?_
    show Go p e s below room_1.cells room_1.slots (Q0 h0 n0) T12 (mkF m 67 #[.val (.int p1), .val (.int p2), .val (.int p3), .val (.int p4), .val (.int (Int32.ofNat n)), .val (.int b), .val (.ref ar), .val (.int (Int32.ofNat p')), .unset] [(.long (16 : Int64)), (.long (Int64.ofNat (own_steps n p' b)))])
    refine Go.st (fun _ k_ => XS.iload X12.here hx rfl (hb hby at_67) rfl k_) ?_
    show Go p e s below room_1.cells room_1.slots (Q0 h0 n0) T12 (mkF m 69 #[.val (.int p1), .val (.int p2), .val (.int p3), .val (.int p4), .val (.int (Int32.ofNat n)), .val (.int b), .val (.ref ar), .val (.int (Int32.ofNat p')), .unset] [(.int (Int32.ofNat n)), (.long (16 : Int64)), (.long (Int64.ofNat (own_steps n p' b)))])
    refine Go.st (fun _ k_ => XS.i2l X12.here hx rfl (hb hby at_69) rfl k_) ?_
    show Go p e s below room_1.cells room_1.slots (Q0 h0 n0) T12 (mkF m 70 #[.val (.int p1), .val (.int p2), .val (.int p3), .val (.int p4), .val (.int (Int32.ofNat n)), .val (.int b), .val (.ref ar), .val (.int (Int32.ofNat p')), .unset] [(.long ((Int32.ofNat n).toInt64)), (.long (16 : Int64)), (.long (Int64.ofNat (own_steps n p' b)))])
    rw [on_i2l (by omega)]
    show Go p e s below room_1.cells room_1.slots (Q0 h0 n0) T12 (mkF m 70 #[.val (.int p1), .val (.int p2), .val (.int p3), .val (.int p4), .val (.int (Int32.ofNat n)), .val (.int b), .val (.ref ar), .val (.int (Int32.ofNat p')), .unset] [(.long (Int64.ofNat n)), (.long (16 : Int64)), (.long (Int64.ofNat (own_steps n p' b)))])
    refine Go.st (fun _ k_ => XS.lmul X12.here hx rfl (hb hby at_70) rfl k_) ?_
    show Go p e s below room_1.cells room_1.slots (Q0 h0 n0) T12 (mkF m 71 #[.val (.int p1), .val (.int p2), .val (.int p3), .val (.int p4), .val (.int (Int32.ofNat n)), .val (.int b), .val (.ref ar), .val (.int (Int32.ofNat p')), .unset] [(.long ((16 : Int64) * (Int64.ofNat n))), (.long (Int64.ofNat (own_steps n p' b)))])
    rw [ol_mul16]
    show Go p e s below room_1.cells room_1.slots (Q0 h0 n0) T12 (mkF m 71 #[.val (.int p1), .val (.int p2), .val (.int p3), .val (.int p4), .val (.int (Int32.ofNat n)), .val (.int b), .val (.ref ar), .val (.int (Int32.ofNat p')), .unset] [(.long (Int64.ofNat (16 * n))), (.long (Int64.ofNat (own_steps n p' b)))])
    refine Go.st (fun _ k_ => XS.lcmp X12.here hx rfl (hb hby at_71) rfl k_) ?_
    by_cases hbud : 16 * n < own_steps n p' b
    · skip
      show Go p e s below room_1.cells room_1.slots (Q0 h0 n0) T12 (mkF m 72 #[.val (.int p1), .val (.int p2), .val (.int p3), .val (.int p4), .val (.int (Int32.ofNat n)), .val (.int b), .val (.ref ar), .val (.int (Int32.ofNat p')), .unset] [(.int (lcmpW (Int64.ofNat (own_steps n p' b)) (Int64.ofNat (16 * n))))])
      refine Go.st (fun _ k_ => XS.ifYes X12.here hx rfl (pc0 := 72) (pc' := 79) rfl (hb hby at_72) rfl (cl_gt ((ol_lt (by omega) (by omega)).mpr hbud)).1 (by decide) (by decide) k_) ?_
      show Go p e s below room_1.cells room_1.slots (Q0 h0 n0) T12 (mkF m 79 #[.val (.int p1), .val (.int p2), .val (.int p3), .val (.int p4), .val (.int (Int32.ofNat n)), .val (.int b), .val (.ref ar), .val (.int (Int32.ofNat p')), .unset] [])
      refine Go.st (fun _ k_ => XS.iconst X12.here hx rfl (hb hby at_79) k_) ?_
      show Go p e s below room_1.cells room_1.slots (Q0 h0 n0) T12 (mkF m 80 #[.val (.int p1), .val (.int p2), .val (.int p3), .val (.int p4), .val (.int (Int32.ofNat n)), .val (.int b), .val (.ref ar), .val (.int (Int32.ofNat p')), .unset] [(.int (0 : Int32))])
      refine Go.st (fun _ k_ => XS.istore X12.here hx rfl (hb hby at_80) rfl (l' := #[.val (.int p1), .val (.int p2), .val (.int p3), .val (.int p4), .val (.int (Int32.ofNat n)), .val (.int b), .val (.ref ar), .val (.int (Int32.ofNat p')), .val (.int (0 : Int32))]) rfl k_) ?_
      show Go p e s below room_1.cells room_1.slots (Q0 h0 n0) T12 (mkF m 82 #[.val (.int p1), .val (.int p2), .val (.int p3), .val (.int p4), .val (.int (Int32.ofNat n)), .val (.int b), .val (.ref ar), .val (.int (Int32.ofNat p')), .val (.int (0 : Int32))] [])
      refine Go.st (fun _ k_ => XS.aload X12.here hx rfl (hb hby at_82) rfl rfl k_) ?_
      show Go p e s below room_1.cells room_1.slots (Q0 h0 n0) T12 (mkF m 84 #[.val (.int p1), .val (.int p2), .val (.int p3), .val (.int p4), .val (.int (Int32.ofNat n)), .val (.int b), .val (.ref ar), .val (.int (Int32.ofNat p')), .val (.int (0 : Int32))] [(.ref ar)])
      obtain ⟨_, _, ⟨T13, L13, k13, n13⟩, -, X13, ⟨Lc13, hQ13, l13, y13, z13⟩, st13⟩ := Jvm.LawKit.callS X12 hx (y := (⟨"com/example/switchback/switchback/expression/LiteralSearch", "isCheap", "([I)Z"⟩ : MethodName)) hown (mvT hZ (hw _ (List.mem_of_getElem? (i := 1) rfl))) (mvT hZ (hw _ (List.mem_of_getElem? (i := 2) rfl))) (mvT hZ (hw _ (List.mem_of_getElem? (i := 3) rfl))) (mvT hZ (hw _ (List.mem_of_getElem? (i := 4) rfl))) (by decide) (backOf (W := 0) (rm1b l Z a0 hw [] ar n p' b T12.heap n0 ZF hn (by omega) hp VF) hZ (hw _ (List.mem_of_getElem? (i := 4) rfl)) (hw _ (List.mem_of_getElem? (i := 3) rfl)) (by decide) (by decide)) (g := (mkF m 84 #[.val (.int p1), .val (.int p2), .val (.int p3), .val (.int p4), .val (.int (Int32.ofNat n)), .val (.int b), .val (.ref ar), .val (.int (Int32.ofNat p')), .val (.int (0 : Int32))] [(.ref ar)])) rfl (by rw [hml]; rfl) (argsL := [(.ref ar)]) (rest := []) (lenOf pd_3 rfl) rfl (by show 2 * 0 + _ ≤ _; exact Nat.le_of_eq rfl) (hb hby at_84) (fun _ _ => ⟨rfl, rfl, (by decide : (0 + 1) + 1 ≤ _), (by decide : (0 + 63) + 64 ≤ _)⟩)
      dsimp only [Pt.U, Pt.locs, Pt.cells, Pt.slots] at X13 l13 y13 z13 st13 hQ13
      subst l13 y13 z13
      obtain ⟨rfl, hN13⟩ := hQ13
      have N13 := Fr.app N12 hN13
      refine Go.st st13 ?_
      show Go p e s below room_1.cells room_1.slots (Q0 h0 n0) T13 (mkF m 87 #[.val (.int p1), .val (.int p2), .val (.int p3), .val (.int p4), .val (.int (Int32.ofNat n)), .val (.int b), .val (.ref ar), .val (.int (Int32.ofNat p')), .val (.int (0 : Int32))] [(.int (if own_steps n p' b ≤ 16 * n then (1 : Int32) else 0))])
      refine Go.st (fun _ k_ => XS.iload X13.here hx rfl (hb hby at_87) rfl k_) ?_
      show Go p e s below room_1.cells room_1.slots (Q0 h0 n0) T13 (mkF m 89 #[.val (.int p1), .val (.int p2), .val (.int p3), .val (.int p4), .val (.int (Int32.ofNat n)), .val (.int b), .val (.ref ar), .val (.int (Int32.ofNat p')), .val (.int (0 : Int32))] [(.int (0 : Int32)), (.int (if own_steps n p' b ≤ 16 * n then (1 : Int32) else 0))])
      refine Go.st (fun _ k_ => XS.icmpNo X13.here hx rfl (hb hby at_89) rfl (teq (if_neg (by omega))).2 k_) ?_
      show Go p e s below room_1.cells room_1.slots (Q0 h0 n0) T13 (mkF m 92 #[.val (.int p1), .val (.int p2), .val (.int p3), .val (.int p4), .val (.int (Int32.ofNat n)), .val (.int b), .val (.ref ar), .val (.int (Int32.ofNat p')), .val (.int (0 : Int32))] [])
      refine Go.st (fun _ k_ => XS.iconst X13.here hx rfl (hb hby at_92) k_) ?_
      show Go p e s below room_1.cells room_1.slots (Q0 h0 n0) T13 (mkF m 93 #[.val (.int p1), .val (.int p2), .val (.int p3), .val (.int p4), .val (.int (Int32.ofNat n)), .val (.int b), .val (.ref ar), .val (.int (Int32.ofNat p')), .val (.int (0 : Int32))] [(.int (1 : Int32))])
      refine Go.st (fun _ k_ => XS.goto X13.here hx rfl (pc0 := 93) (pc' := 97) rfl (hb hby at_93) (by decide) (by decide) k_) ?_
      show Go p e s below room_1.cells room_1.slots (Q0 h0 n0) T13 (mkF m 97 #[.val (.int p1), .val (.int p2), .val (.int p3), .val (.int p4), .val (.int (Int32.ofNat n)), .val (.int b), .val (.ref ar), .val (.int (Int32.ofNat p')), .val (.int (0 : Int32))] [(.int (1 : Int32))])
      exact Go.retN X13 hx hlk (t := .boolean) Bd.returns (by simp) (hb hby at_97) (by decide) (by decide) ⟨rfl, N13⟩
    show Go p e s below room_1.cells room_1.slots (Q0 h0 n0) T12 (mkF m 72 #[.val (.int p1), .val (.int p2), .val (.int p3), .val (.int p4), .val (.int (Int32.ofNat n)), .val (.int b), .val (.ref ar), .val (.int (Int32.ofNat p')), .unset] [(.int (lcmpW (Int64.ofNat (own_steps n p' b)) (Int64.ofNat (16 * n))))])
    refine Go.st (fun _ k_ => XS.ifNo X12.here hx rfl (hb hby at_72) rfl (cl_gtF (fun z => hbud ((ol_lt (by omega) (by omega)).mp z))).1 k_) ?_
    show Go p e s below room_1.cells room_1.slots (Q0 h0 n0) T12 (mkF m 75 #[.val (.int p1), .val (.int p2), .val (.int p3), .val (.int p4), .val (.int (Int32.ofNat n)), .val (.int b), .val (.ref ar), .val (.int (Int32.ofNat p')), .unset] [])
    refine Go.st (fun _ k_ => XS.iconst X12.here hx rfl (hb hby at_75) k_) ?_
    show Go p e s below room_1.cells room_1.slots (Q0 h0 n0) T12 (mkF m 76 #[.val (.int p1), .val (.int p2), .val (.int p3), .val (.int p4), .val (.int (Int32.ofNat n)), .val (.int b), .val (.ref ar), .val (.int (Int32.ofNat p')), .unset] [(.int (1 : Int32))])
    refine Go.st (fun _ k_ => XS.goto X12.here hx rfl (pc0 := 76) (pc' := 80) rfl (hb hby at_76) (by decide) (by decide) k_) ?_
    show Go p e s below room_1.cells room_1.slots (Q0 h0 n0) T12 (mkF m 80 #[.val (.int p1), .val (.int p2), .val (.int p3), .val (.int p4), .val (.int (Int32.ofNat n)), .val (.int b), .val (.ref ar), .val (.int (Int32.ofNat p')), .unset] [(.int (1 : Int32))])
    refine Go.st (fun _ k_ => XS.istore X12.here hx rfl (hb hby at_80) rfl (l' := #[.val (.int p1), .val (.int p2), .val (.int p3), .val (.int p4), .val (.int (Int32.ofNat n)), .val (.int b), .val (.ref ar), .val (.int (Int32.ofNat p')), .val (.int (1 : Int32))]) rfl k_) ?_
    show Go p e s below room_1.cells room_1.slots (Q0 h0 n0) T12 (mkF m 82 #[.val (.int p1), .val (.int p2), .val (.int p3), .val (.int p4), .val (.int (Int32.ofNat n)), .val (.int b), .val (.ref ar), .val (.int (Int32.ofNat p')), .val (.int (1 : Int32))] [])
    refine Go.st (fun _ k_ => XS.aload X12.here hx rfl (hb hby at_82) rfl rfl k_) ?_
    show Go p e s below room_1.cells room_1.slots (Q0 h0 n0) T12 (mkF m 84 #[.val (.int p1), .val (.int p2), .val (.int p3), .val (.int p4), .val (.int (Int32.ofNat n)), .val (.int b), .val (.ref ar), .val (.int (Int32.ofNat p')), .val (.int (1 : Int32))] [(.ref ar)])
    obtain ⟨_, _, ⟨T14, L14, k14, n14⟩, -, X14, ⟨Lc14, hQ14, l14, y14, z14⟩, st14⟩ := Jvm.LawKit.callS X12 hx (y := (⟨"com/example/switchback/switchback/expression/LiteralSearch", "isCheap", "([I)Z"⟩ : MethodName)) hown (mvT hZ (hw _ (List.mem_of_getElem? (i := 1) rfl))) (mvT hZ (hw _ (List.mem_of_getElem? (i := 2) rfl))) (mvT hZ (hw _ (List.mem_of_getElem? (i := 3) rfl))) (mvT hZ (hw _ (List.mem_of_getElem? (i := 4) rfl))) (by decide) (backOf (W := 0) (rm1b l Z a0 hw [] ar n p' b T12.heap n0 ZF hn (by omega) hp VF) hZ (hw _ (List.mem_of_getElem? (i := 4) rfl)) (hw _ (List.mem_of_getElem? (i := 3) rfl)) (by decide) (by decide)) (g := (mkF m 84 #[.val (.int p1), .val (.int p2), .val (.int p3), .val (.int p4), .val (.int (Int32.ofNat n)), .val (.int b), .val (.ref ar), .val (.int (Int32.ofNat p')), .val (.int (1 : Int32))] [(.ref ar)])) rfl (by rw [hml]; rfl) (argsL := [(.ref ar)]) (rest := []) (lenOf pd_3 rfl) rfl (by show 2 * 0 + _ ≤ _; exact Nat.le_of_eq rfl) (hb hby at_84) (fun _ _ => ⟨rfl, rfl, (by decide : (0 + 1) + 1 ≤ _), (by decide : (0 + 63) + 64 ≤ _)⟩)
    dsimp only [Pt.U, Pt.locs, Pt.cells, Pt.slots] at X14 l14 y14 z14 st14 hQ14
    subst l14 y14 z14
    obtain ⟨rfl, hN14⟩ := hQ14
    have N14 := Fr.app N12 hN14
    refine Go.st st14 ?_
    show Go p e s below room_1.cells room_1.slots (Q0 h0 n0) T14 (mkF m 87 #[.val (.int p1), .val (.int p2), .val (.int p3), .val (.int p4), .val (.int (Int32.ofNat n)), .val (.int b), .val (.ref ar), .val (.int (Int32.ofNat p')), .val (.int (1 : Int32))] [(.int (if own_steps n p' b ≤ 16 * n then (1 : Int32) else 0))])
    refine Go.st (fun _ k_ => XS.iload X14.here hx rfl (hb hby at_87) rfl k_) ?_
    show Go p e s below room_1.cells room_1.slots (Q0 h0 n0) T14 (mkF m 89 #[.val (.int p1), .val (.int p2), .val (.int p3), .val (.int p4), .val (.int (Int32.ofNat n)), .val (.int b), .val (.ref ar), .val (.int (Int32.ofNat p')), .val (.int (1 : Int32))] [(.int (1 : Int32)), (.int (if own_steps n p' b ≤ 16 * n then (1 : Int32) else 0))])
    refine Go.st (fun _ k_ => XS.icmpNo X14.here hx rfl (hb hby at_89) rfl (teq (if_pos (by omega))).2 k_) ?_
    show Go p e s below room_1.cells room_1.slots (Q0 h0 n0) T14 (mkF m 92 #[.val (.int p1), .val (.int p2), .val (.int p3), .val (.int p4), .val (.int (Int32.ofNat n)), .val (.int b), .val (.ref ar), .val (.int (Int32.ofNat p')), .val (.int (1 : Int32))] [])
    refine Go.st (fun _ k_ => XS.iconst X14.here hx rfl (hb hby at_92) k_) ?_
    show Go p e s below room_1.cells room_1.slots (Q0 h0 n0) T14 (mkF m 93 #[.val (.int p1), .val (.int p2), .val (.int p3), .val (.int p4), .val (.int (Int32.ofNat n)), .val (.int b), .val (.ref ar), .val (.int (Int32.ofNat p')), .val (.int (1 : Int32))] [(.int (1 : Int32))])
    refine Go.st (fun _ k_ => XS.goto X14.here hx rfl (pc0 := 93) (pc' := 97) rfl (hb hby at_93) (by decide) (by decide) k_) ?_
    show Go p e s below room_1.cells room_1.slots (Q0 h0 n0) T14 (mkF m 97 #[.val (.int p1), .val (.int p2), .val (.int p3), .val (.int p4), .val (.int (Int32.ofNat n)), .val (.int b), .val (.ref ar), .val (.int (Int32.ofNat p')), .val (.int (1 : Int32))] [(.int (1 : Int32))])
    exact Go.retN X14 hx hlk (t := .boolean) Bd.returns (by simp) (hb hby at_97) (by decide) (by decide) ⟨rfl, N14⟩
  skip
  by_cases hfl : (p4 &&& (1 : Int32)) = (0 : Int32)
  · skip
    show Go p e s below room_1.cells room_1.slots (Q0 h0 n0) s₁ (mkF m 9 #[.val (.int p1), .val (.int p2), .val (.int p3), .val (.int p4), .val (.int (Int32.ofNat n)), .unset, .unset, .unset, .unset] [(.int (p4 &&& (1 : Int32)))])
    refine Go.st (fun _ k_ => XS.ifYes X0.here hx rfl (pc0 := 9) (pc' := 16) rfl (hb hby at_9) rfl ((if0 _ _).trans (teq hfl).1) (by decide) (by decide) k_) ?_
    show Go p e s below room_1.cells room_1.slots (Q0 h0 n0) s₁ (mkF m 16 #[.val (.int p1), .val (.int p2), .val (.int p3), .val (.int p4), .val (.int (Int32.ofNat n)), .unset, .unset, .unset, .unset] [])
    refine Go.st (fun _ k_ => XS.iloadN X0.here hx rfl (hb hby at_16) rfl k_) ?_
    show Go p e s below room_1.cells room_1.slots (Q0 h0 n0) s₁ (mkF m 17 #[.val (.int p1), .val (.int p2), .val (.int p3), .val (.int p4), .val (.int (Int32.ofNat n)), .unset, .unset, .unset, .unset] [(.int p3)])
    exact j17 _
  · skip
    show Go p e s below room_1.cells room_1.slots (Q0 h0 n0) s₁ (mkF m 9 #[.val (.int p1), .val (.int p2), .val (.int p3), .val (.int p4), .val (.int (Int32.ofNat n)), .unset, .unset, .unset, .unset] [(.int (p4 &&& (1 : Int32)))])
    refine Go.st (fun _ k_ => XS.ifNo X0.here hx rfl (hb hby at_9) rfl ((if0 _ _).trans (feq hfl).1) k_) ?_
    show Go p e s below room_1.cells room_1.slots (Q0 h0 n0) s₁ (mkF m 12 #[.val (.int p1), .val (.int p2), .val (.int p3), .val (.int p4), .val (.int (Int32.ofNat n)), .unset, .unset, .unset, .unset] [])
    refine Go.st (fun _ k_ => XS.iconst X0.here hx rfl (hb hby at_12) k_) ?_
    show Go p e s below room_1.cells room_1.slots (Q0 h0 n0) s₁ (mkF m 13 #[.val (.int p1), .val (.int p2), .val (.int p3), .val (.int p4), .val (.int (Int32.ofNat n)), .unset, .unset, .unset, .unset] [(.int (0 : Int32))])
    refine Go.st (fun _ k_ => XS.goto X0.here hx rfl (pc0 := 13) (pc' := 17) rfl (hb hby at_13) (by decide) (by decide) k_) ?_
    show Go p e s below room_1.cells room_1.slots (Q0 h0 n0) s₁ (mkF m 17 #[.val (.int p1), .val (.int p2), .val (.int p3), .val (.int p4), .val (.int (Int32.ofNat n)), .unset, .unset, .unset, .unset] [(.int (0 : Int32))])
    exact j17 _
set_option maxRecDepth 65536 in
set_option maxHeartbeats 40000000 in
theorem comes_1 {Post : Tables → Env → Array Value → State → Outcome → State → Prop} (hpost : ∀ tb e args s v u, (limb_1_1.after args s (.returned v) u = true ∧ limb_1_2.after args s (.returned v) u = true ∧ True) → FrameEnd s (.returned v) u (Jvm.fieldLocs frame_1_writes args s ++ Jvm.arrayLocs frame_1_arrays args s ++ Jvm.staticLocs frame_1_statics s) 16 320 → Post tb e args s (.returned v) u) :
    ArmFor flags0 classFile x code maxLocals ret World_1 tables_1 room_1 Calls_1 rest_1 Pre_1 Post := by
  intro l hfl _ _ p e ha hc hk s m args below hf hA hF happ hP
  obtain ⟨hcalls, hrest, hpre⟩ := hP
  obtain ⟨-, -, -, hnamed, -, -, -, hat⟩ := (Spec.applies_iff hf).mp happ
  obtain ⟨hg, hn⟩ := and_e (Cond.before_iff.mp (show (Jvm.Cond.and given_1 narrow_1).before args s = true from hpre))
  obtain ⟨hcnt, hk0⟩ := and_e hg
  obtain ⟨ha0, hk1⟩ := and_e hk0
  obtain ⟨ha1, hk2⟩ := and_e hk1
  obtain ⟨ha2, hk3⟩ := and_e hk2
  obtain ⟨w0, w1, w2, w3, rfl⟩ : ∃ w0 w1 w2 w3 : Value, args = #[w0, w1, w2, w3] := by
    have hs : args.size = 4 := by simpa [Cond.value, given_1] using hcnt
    obtain ⟨L⟩ := args
    match L, hs with
    | [w0, w1, w2, w3], _ => exact ⟨w0, w1, w2, w3, rfl⟩
  have hw := fun d (hd : d ∈ tables_1) => atoms_spec (ws := Jvm.Cond.code x code maxLocals ret :: tables_1) hat d (List.mem_cons_of_mem _ hd)
  obtain ⟨i0, ei0⟩ := is_v ha0
  obtain rfl : w0 = (.int i0) := Option.some.inj ei0
  obtain ⟨i1, ei1⟩ := is_v ha1
  obtain rfl : w1 = (.int i1) := Option.some.inj ei1
  obtain ⟨i2, ei2⟩ := is_v ha2
  obtain rfl : w2 = (.int i2) := Option.some.inj ei2
  obtain ⟨i3, ei3⟩ := is_v hk3
  obtain rfl : w3 = (.int i3) := Option.some.inj ei3
  obtain ⟨n, o, h1, h2, h3, _, L, rfl, ⟨rfl, N⟩, hq⟩ := rm0 l s _ hw tables_1 i0 i1 i2 i3 s.heap s.heap.size (Nat.le_refl _) p e ha hc hk s m _ below hf ((Spec.applies_iff_loose hf).mp happ).1 ⟨rfl, State.Warmed39.refl s, rfl⟩ trivial
  refine ⟨n, _, h1, h2, h3, hpost _ _ _ _ _ _ ⟨Cond.after_iff.mpr rfl, Cond.after_iff.mpr (eq_i res_at (Term.int_eval (1)) rfl), trivial⟩ ⟨hq.1, hq.2.1, (hq.2.2.sift fun y hy => Or.inr (N y hy)).mono (by decide) (by decide)⟩⟩
theorem main_1_1 : Claimed_1_1 := comes_1 fun _ _ _ _ _ _ h hF => ⟨h.1, hF⟩
theorem main_1_2 : Claimed_1_2 := comes_1 fun _ _ _ _ _ _ h hF => ⟨h.2.1, hF⟩
end Jvm.Pilot.@@N@@
namespace Jvm.Pilot.@@N@@
open Jvm Jvm.ClassFile Sem Op Lib Jvm.Free Jvm.Stand Jvm.Pilot.@@N@@.Jvm.D
/-! MADE BY PROGRAM (witnessworld.py) out of the Statement's table words and the real class files: 10 classes; the members and pool entries that the words name. The judged class is class 1, her method 1. -/
namespace start1
open Jvm.ClassFile
def u (s : String) : CpInfo := .utf8 (stringToUtf16 s)
/-- a pool by its gaps: so many unusable entries, then the entry; so many at the end -/
def gap : Nat → List CpInfo → List CpInfo
  | 0, r => r
  | n + 1, r => .unusable :: gap n r
def poolList (es : List (Nat × CpInfo)) (last : Nat) : List CpInfo := es.foldr (fun e r => gap e.1 (e.2 :: r)) (gap last [])
def pool (es : List (Nat × CpInfo)) (last : Nat) : Array CpInfo := ⟨poolList es last⟩
def fileOf (pool : Array CpInfo) (this : Nat) (attrs : Array Attribute := #[]) (ms : Array MethodInfo := #[]) (fl : Nat := 33) (sup : Nat := 0) (ifs : Array Nat := #[]) (fds : Array FieldInfo := #[]) : ClassFile where
  minorVersion := 0
  majorVersion := 65
  constantPool := pool
  accessFlags := fl
  thisClass := this
  superClass := sup
  interfaces := ifs
  fields := fds
  methods := ms
  attributes := attrs
def plain (name : String) (sup : Option ClassId) : Class where
  name := name
  kind := .ordinary
  loader := none
  accessFlags := 33
  super := sup
  interfaces := #[]
  cf := none
  fields := #[]
  methods := #[]
  instanceTypes := #[]
  staticTypes := #[]
  resolved := #[]
  callSites := []
  init := .initialized
  statics := none
  mirror := none

def pool0 : Array CpInfo := pool [(5, u "<init>"), (0, u "()V"), (1, .class_ 10), (1, u "java/lang/Object")] 113

def k0m0 : Method := { name := "<init>", desc := "()V", sig := { parameters := [], returnType := none }, accessFlags := 1, code := none }
/-- java/lang/Object -/
def k0 : Class := { plain "java/lang/Object" none with
  accessFlags := 33
  interfaces := #[]
  cf := some (fileOf pool0 8 #[] #[{ accessFlags := 1, nameIndex := 5, descriptorIndex := 6, attributes := #[] }] 33 0 #[] #[])
  fields := #[]
  methods := #[k0m0]
  instanceTypes := #[]
  staticTypes := #[]
  resolved := Array.replicate 124 none
  statics := none }

def pool1 : Array CpInfo := pool [(2, .class_ 4), (1, u "java/lang/Object"), (0, u "<init>"), (0, u "()V"), (0, .integer 2147483647), (0, .methodref 9 10), (0, .class_ 11), (0, .nameAndType 12 13), (0, u "com/example/switchback/switchback/expression/LiteralSearchIsCheapPinLaw"), (0, u "steps"), (0, u "(III)J"), (0, .long 16), (1, .methodref 17 18), (0, .class_ 19), (0, .nameAndType 20 21), (0, u "com/example/switchback/switchback/expression/LiteralSearch"), (0, u "isCheap"), (0, u "([I)Z"), (0, .long 2), (1, .methodref 25 26), (0, .class_ 27), (0, .nameAndType 28 29), (0, u "java/lang/Math"), (0, u "max"), (0, u "(JJ)J"), (0, .methodref 25 31), (0, .nameAndType 32 29), (0, u "min"), (2, u "law"), (0, u "(IIII)Z")] 5

def k1m0 : Method := { name := "<init>", desc := "()V", sig := { parameters := [], returnType := none }, accessFlags := 2, code := none }
def k1c1 : Code := { maxStack := 6, maxLocals := 9, code := code, exceptionTable := #[], attributes := #[] }
def k1m1 : Method := { name := "law", desc := "(IIII)Z", sig := { parameters := [.int, .int, .int, .int], returnType := some .boolean }, accessFlags := 9, code := some k1c1 }
def k1c2 : Code := { maxStack := 8, maxLocals := 9, code := method_3_code, exceptionTable := #[], attributes := #[] }
def k1m2 : Method := { name := "steps", desc := "(III)J", sig := { parameters := [.int, .int, .int], returnType := some .long }, accessFlags := 10, code := some k1c2 }
/-- com/example/switchback/switchback/expression/LiteralSearchIsCheapPinLaw -/
def k1 : Class := { plain "com/example/switchback/switchback/expression/LiteralSearchIsCheapPinLaw" (some 0) with
  accessFlags := 49
  interfaces := #[]
  cf := some (fileOf pool1 9 #[] #[{ accessFlags := 2, nameIndex := 5, descriptorIndex := 6, attributes := #[] }, { accessFlags := 9, nameIndex := 35, descriptorIndex := 36, attributes := #[] }, { accessFlags := 10, nameIndex := 12, descriptorIndex := 13, attributes := #[] }] 49 2 #[] #[])
  fields := #[]
  methods := #[k1m0, k1m1, k1m2]
  instanceTypes := #[]
  staticTypes := #[]
  resolved := Array.replicate 42 none
  statics := none }

def pool2 : Array CpInfo := pool [(2, .class_ 4), (1, u "java/lang/Object"), (0, u "<init>"), (0, u "()V"), (0, .class_ 8), (0, u "com/example/switchback/switchback/expression/LiteralSearch"), (0, .methodref 7 10), (0, .nameAndType 11 12), (0, u "sharedSuffixes"), (0, u "([I)[I"), (0, .long 16), (1, .methodref 16 17), (0, .class_ 18), (0, .nameAndType 19 20), (0, u "java/lang/Math"), (0, u "min"), (0, u "(II)I"), (0, u "STEPS_PER_CHARACTER"), (0, u "I"), (2, u "SHORTEST_SEARCHED"), (3, u "isCheap"), (0, u "([I)Z")] 5

def k2m0 : Method := { name := "<init>", desc := "()V", sig := { parameters := [], returnType := none }, accessFlags := 2, code := none }
def k2c1 : Code := { maxStack := 4, maxLocals := 9, code := prog_27_method_2_code, exceptionTable := #[], attributes := #[] }
def k2m1 : Method := { name := "isCheap", desc := "([I)Z", sig := { parameters := [(.array .int)], returnType := some .boolean }, accessFlags := 8, code := some k2c1 }
def k2c2 : Code := { maxStack := 4, maxLocals := 7, code := prog_27_method_3_code, exceptionTable := #[], attributes := #[] }
def k2m2 : Method := { name := "sharedSuffixes", desc := "([I)[I", sig := { parameters := [(.array .int)], returnType := some (.array .int) }, accessFlags := 10, code := some k2c2 }
/-- com/example/switchback/switchback/expression/LiteralSearch -/
def k2 : Class := { plain "com/example/switchback/switchback/expression/LiteralSearch" (some 0) with
  accessFlags := 48
  interfaces := #[]
  cf := some (fileOf pool2 7 #[] #[{ accessFlags := 2, nameIndex := 5, descriptorIndex := 6, attributes := #[] }, { accessFlags := 8, nameIndex := 29, descriptorIndex := 30, attributes := #[] }, { accessFlags := 10, nameIndex := 11, descriptorIndex := 12, attributes := #[] }] 48 2 #[] #[{ accessFlags := 24, nameIndex := 21, descriptorIndex := 22, attributes := #[] }, { accessFlags := 26, nameIndex := 25, descriptorIndex := 22, attributes := #[] }])
  fields := #[{ name := "STEPS_PER_CHARACTER", type := .int, accessFlags := 24, slot := 0, constantValue := 0 }, { name := "SHORTEST_SEARCHED", type := .int, accessFlags := 26, slot := 1, constantValue := 0 }]
  methods := #[k2m0, k2m1, k2m2]
  instanceTypes := #[]
  staticTypes := #[.int, .int]
  resolved := Array.replicate 36 none
  statics := none }

def pool3 : Array CpInfo := pool [(1, .class_ 2), (0, u "java/lang/Math"), (1, .class_ 6), (1, u "java/lang/Object"), (0, u "<init>"), (0, u "()V"), (89, .class_ 100), (1, u "java/lang/Math$RandomNumberGeneratorHolder"), (20, u "(JJ)J"), (50, u "negativeZeroFloatBits"), (0, u "J"), (2, u "negativeZeroDoubleBits"), (21, u "max"), (2, u "min"), (43, u "$assertionsDisabled"), (0, u "Z"), (88, u "(II)I"), (2, u "twoToTheDoubleScaleDown"), (0, u "D"), (4, u "twoToTheDoubleScaleUp"), (9, u "E"), (3, u "PI"), (2, u "TAU"), (2, u "DEGREES_TO_RADIANS"), (0, u "RADIANS_TO_DEGREES")] 94

def k3m0 : Method := { name := "<init>", desc := "()V", sig := { parameters := [], returnType := none }, accessFlags := 2, code := none }
def k3c1 : Code := { maxStack := 4, maxLocals := 4, code := jdk_29_method_66_code, exceptionTable := #[], attributes := #[] }
def k3m1 : Method := { name := "max", desc := "(JJ)J", sig := { parameters := [.long, .long], returnType := some .long }, accessFlags := 9, code := some k3c1 }
def k3c2 : Code := { maxStack := 2, maxLocals := 2, code := jdk_29_method_69_code, exceptionTable := #[], attributes := #[] }
def k3m2 : Method := { name := "min", desc := "(II)I", sig := { parameters := [.int, .int], returnType := some .int }, accessFlags := 9, code := some k3c2 }
def k3c3 : Code := { maxStack := 4, maxLocals := 4, code := jdk_29_method_70_code, exceptionTable := #[], attributes := #[] }
def k3m3 : Method := { name := "min", desc := "(JJ)J", sig := { parameters := [.long, .long], returnType := some .long }, accessFlags := 9, code := some k3c3 }
/-- java/lang/Math -/
def k3 : Class := { plain "java/lang/Math" (some 0) with
  accessFlags := 49
  interfaces := #[]
  cf := some (fileOf pool3 1 #[.nestMembers #[98]] #[{ accessFlags := 2, nameIndex := 7, descriptorIndex := 8, attributes := #[] }, { accessFlags := 9, nameIndex := 198, descriptorIndex := 121, attributes := #[] }, { accessFlags := 9, nameIndex := 201, descriptorIndex := 335, attributes := #[] }, { accessFlags := 9, nameIndex := 201, descriptorIndex := 121, attributes := #[] }] 49 4 #[] #[{ accessFlags := 25, nameIndex := 354, descriptorIndex := 339, attributes := #[] }, { accessFlags := 25, nameIndex := 358, descriptorIndex := 339, attributes := #[] }, { accessFlags := 25, nameIndex := 361, descriptorIndex := 339, attributes := #[] }, { accessFlags := 26, nameIndex := 364, descriptorIndex := 339, attributes := #[] }, { accessFlags := 26, nameIndex := 365, descriptorIndex := 339, attributes := #[] }, { accessFlags := 26, nameIndex := 172, descriptorIndex := 173, attributes := #[] }, { accessFlags := 26, nameIndex := 176, descriptorIndex := 173, attributes := #[] }, { accessFlags := 8, nameIndex := 344, descriptorIndex := 339, attributes := #[] }, { accessFlags := 8, nameIndex := 338, descriptorIndex := 339, attributes := #[] }, { accessFlags := 4120, nameIndex := 245, descriptorIndex := 246, attributes := #[] }])
  fields := #[{ name := "E", type := .double, accessFlags := 25, slot := 0, constantValue := 0 }, { name := "PI", type := .double, accessFlags := 25, slot := 1, constantValue := 0 }, { name := "TAU", type := .double, accessFlags := 25, slot := 2, constantValue := 0 }, { name := "DEGREES_TO_RADIANS", type := .double, accessFlags := 26, slot := 3, constantValue := 0 }, { name := "RADIANS_TO_DEGREES", type := .double, accessFlags := 26, slot := 4, constantValue := 0 }, { name := "negativeZeroFloatBits", type := .long, accessFlags := 26, slot := 5, constantValue := 0 }, { name := "negativeZeroDoubleBits", type := .long, accessFlags := 26, slot := 6, constantValue := 0 }, { name := "twoToTheDoubleScaleUp", type := .double, accessFlags := 8, slot := 7, constantValue := 0 }, { name := "twoToTheDoubleScaleDown", type := .double, accessFlags := 8, slot := 8, constantValue := 0 }, { name := "$assertionsDisabled", type := .boolean, accessFlags := 4120, slot := 9, constantValue := 0 }]
  methods := #[k3m0, k3m1, k3m2, k3m3]
  instanceTypes := #[]
  staticTypes := #[.double, .double, .double, .double, .double, .long, .long, .double, .double, .boolean]
  resolved := Array.replicate 460 none
  statics := none }

def pool4 : Array CpInfo := pool [(1, u "java/lang/Cloneable"), (0, .class_ 1), (0, u "java/lang/Object"), (0, .class_ 3)] 3

/-- java/lang/Cloneable -/
def k4 : Class := { plain "java/lang/Cloneable" (some 0) with
  accessFlags := 1537
  interfaces := #[]
  cf := some (fileOf pool4 2 #[] #[] 1537 4 #[] #[])
  fields := #[]
  methods := #[]
  instanceTypes := #[]
  staticTypes := #[]
  resolved := Array.replicate 8 none
  statics := none }

def pool5 : Array CpInfo := pool [(1, u "java/io/Serializable"), (0, .class_ 1), (0, u "java/lang/Object"), (0, .class_ 3)] 3

/-- java/io/Serializable -/
def k5 : Class := { plain "java/io/Serializable" (some 0) with
  accessFlags := 1537
  interfaces := #[]
  cf := some (fileOf pool5 2 #[] #[] 1537 4 #[] #[])
  fields := #[]
  methods := #[]
  instanceTypes := #[]
  staticTypes := #[]
  resolved := Array.replicate 8 none
  statics := none }

/-- the primitive byte -/
def k6 : Class := { plain "byte" none with kind := .primitive 'B', accessFlags := 0x411 }
/-- [B -/
def k7 : Class := { plain "[B" (some 0) with kind := .array 6 .byte, interfaces := #[4, 5], accessFlags := 1041 }

/-- the primitive int -/
def k8 : Class := { plain "int" none with kind := .primitive 'I', accessFlags := 0x411 }
/-- [I -/
def k9 : Class := { plain "[I" (some 0) with kind := .array 8 .int, interfaces := #[4, 5], accessFlags := 1041 }

def heap : Heap := #[]
def classes : Array Class := #[k0, k1, k2, k3, k4, k5, k6, k7, k8, k9]
def interned : List (Array UInt16 × Addr) := []
def slotsUsed : Nat := 0
def theMethod : MethodId := ⟨1, 1⟩
def args0 : Array Value := #[.int 5, .int 2, .int 1, .int 0]
def aboutOver (below : List Frame) : State where
  vm := { classes := classes, interned := interned.toArray }
  heap := heap
  slotsUsed := slotsUsed
  threads := #[{ frames := .invoking theMethod args0 :: below }]
def below0 : List Frame := [.native { method := ⟨0, 0⟩, args := #[] }]
def about1 : State := aboutOver below0
def p0 : Program := .bare "" "" ""
def e0 : Env := launch0.env 0 0 0
theorem w_frames : about1.frames = Frame.invoking theMethod args0 :: below0 := rfl
set_option maxRecDepth 65536 in
theorem w_args : argsFit about1.vm theMethod args0 = true := by decide +kernel
set_option maxRecDepth 65536 in
theorem w_heap : heapFits about1 = true := by decide +kernel
set_option maxRecDepth 65536 in
theorem w_runnable : about1.curStatus? = some .runnable := by decide +kernel
set_option maxRecDepth 65536 in
theorem w_alone : about1.alone = true := by decide +kernel
set_option maxRecDepth 65536 in
theorem w_named : about1.methodNamed? x = some theMethod := by decide +kernel
set_option maxRecDepth 65536 in
theorem w_hears : about1.hears theMethod below0 = true := by decide +kernel
set_option maxRecDepth 65536 in
theorem w_ripe : about1.ripe theMethod args0 below0 = true := by decide +kernel
theorem w_running : about1.status = .running := rfl
set_option maxRecDepth 65536 in
theorem w_room : about1.hasRoom e0.platform room_1 = true :=
  launch0.hasRoom_least _ room_1 (by decide +kernel) (by decide +kernel) (by decide +kernel) (by decide +kernel) (by decide +kernel) (by decide +kernel)
theorem allAtoms_all (ts : List Jvm.Cond) (a : Array Jvm.Value) (st : Jvm.State) : (allAtoms ts).before a st = ts.all (fun c => c.before a st) := by
  induction ts with
  | nil => rfl
  | cons c t ih =>
    show (Jvm.Cond.and c (allAtoms t)).before a st = _
    rw [Jvm.Cond.before_and, ih, List.all_cons]
def words1 : List Jvm.Cond := Jvm.Cond.code x code maxLocals ret :: tables_1
/-- a 'code' word, met by the world's own term for the bytes: nothing is compared byte by byte -/
theorem code_word {y : MethodName} {bytes : ByteArray} {mx : Nat} {rt : Option FieldType} {a : Array Value} {s : State} {m : MethodId} {meth : Method} {c : Code} (h1 : s.methodNamed? y = some m) (h2 : s.vm.method? m = some meth) (h3 : meth.code = some c) (h4 : c.code = bytes)
    (h5 : (c.maxLocals == mx && c.exceptionTable.isEmpty && decide (c.maxStack ≤ mostOperands) && decide (meth.sig.returnType = rt) && !meth.locks && decide (parseMethodDescriptor y.desc = some meth.sig)) = true) : (Jvm.Cond.code y bytes mx rt).before a s = true := by
  simp only [Bool.and_eq_true, beq_iff_eq, Bool.not_eq_true', decide_eq_true_eq] at h5
  obtain ⟨⟨⟨⟨⟨g1, g2⟩, g3⟩, g4⟩, g5⟩, g6⟩ := h5
  simp [Cond.before, Cond.holds, Cond.value, h1, h2, h3, h4, g1, g2, g3, g4, g5, g6]
def isCode : Jvm.Cond → Bool
  | .code _ _ _ _ => true
  | _ => false
theorem all_split {L : List Jvm.Cond} {P : Jvm.Cond → Bool} (h1 : L.all (fun c => isCode c || P c) = true) (h2 : ∀ c ∈ L.filter isCode, P c = true) : L.all P = true := by
  refine List.all_eq_true.mpr fun c hc => ?_
  have h := List.all_eq_true.mp h1 c hc
  rcases Bool.eq_false_or_eq_true (isCode c) with hi | hi
  · exact h2 c (List.mem_filter.mpr ⟨hc, hi⟩)
  · simpa [hi] using h
set_option maxRecDepth 65536 in
theorem w_c0 : (Jvm.Cond.code x code maxLocals ret).before args0 about1 = true := code_word (m := ⟨1, 1⟩) (meth := k1m1) (c := k1c1) (by decide +kernel) rfl rfl rfl (by decide +kernel)
set_option maxRecDepth 65536 in
theorem w_c1 : (Jvm.Cond.code ({ cls := "com/example/switchback/switchback/expression/LiteralSearch", name := "isCheap", desc := "([I)Z" } : Jvm.MethodName) prog_27_method_2_code (9 : Nat) (Option.some Jvm.ClassFile.FieldType.boolean)).before args0 about1 = true := code_word (m := ⟨2, 1⟩) (meth := k2m1) (c := k2c1) (by decide +kernel) rfl rfl rfl (by decide +kernel)
set_option maxRecDepth 65536 in
theorem w_c2 : (Jvm.Cond.code ({ cls := "com/example/switchback/switchback/expression/LiteralSearchIsCheapPinLaw", name := "steps", desc := "(III)J" } : Jvm.MethodName) method_3_code (9 : Nat) (Option.some Jvm.ClassFile.FieldType.long)).before args0 about1 = true := code_word (m := ⟨1, 2⟩) (meth := k1m2) (c := k1c2) (by decide +kernel) rfl rfl rfl (by decide +kernel)
set_option maxRecDepth 65536 in
theorem w_c3 : (Jvm.Cond.code ({ cls := "java/lang/Math", name := "max", desc := "(JJ)J" } : Jvm.MethodName) jdk_29_method_66_code (4 : Nat) (Option.some Jvm.ClassFile.FieldType.long)).before args0 about1 = true := code_word (m := ⟨3, 1⟩) (meth := k3m1) (c := k3c1) (by decide +kernel) rfl rfl rfl (by decide +kernel)
set_option maxRecDepth 65536 in
theorem w_c4 : (Jvm.Cond.code ({ cls := "java/lang/Math", name := "min", desc := "(JJ)J" } : Jvm.MethodName) jdk_29_method_70_code (4 : Nat) (Option.some Jvm.ClassFile.FieldType.long)).before args0 about1 = true := code_word (m := ⟨3, 3⟩) (meth := k3m3) (c := k3c3) (by decide +kernel) rfl rfl rfl (by decide +kernel)
set_option maxRecDepth 65536 in
theorem w_c5 : (Jvm.Cond.code ({ cls := "com/example/switchback/switchback/expression/LiteralSearch", name := "sharedSuffixes", desc := "([I)[I" } : Jvm.MethodName) prog_27_method_3_code (7 : Nat) (Option.some (Jvm.ClassFile.FieldType.array Jvm.ClassFile.FieldType.int))).before args0 about1 = true := code_word (m := ⟨2, 2⟩) (meth := k2m2) (c := k2c2) (by decide +kernel) rfl rfl rfl (by decide +kernel)
set_option maxRecDepth 65536 in
theorem w_c6 : (Jvm.Cond.code ({ cls := "java/lang/Math", name := "min", desc := "(II)I" } : Jvm.MethodName) jdk_29_method_69_code (2 : Nat) (Option.some Jvm.ClassFile.FieldType.int)).before args0 about1 = true := code_word (m := ⟨3, 2⟩) (meth := k3m2) (c := k3c2) (by decide +kernel) rfl rfl rfl (by decide +kernel)
def codes1 : List Jvm.Cond := [Jvm.Cond.code x code maxLocals ret, Jvm.Cond.code ({ cls := "com/example/switchback/switchback/expression/LiteralSearch", name := "isCheap", desc := "([I)Z" } : Jvm.MethodName) prog_27_method_2_code (9 : Nat) (Option.some Jvm.ClassFile.FieldType.boolean), Jvm.Cond.code ({ cls := "com/example/switchback/switchback/expression/LiteralSearchIsCheapPinLaw", name := "steps", desc := "(III)J" } : Jvm.MethodName) method_3_code (9 : Nat) (Option.some Jvm.ClassFile.FieldType.long), Jvm.Cond.code ({ cls := "java/lang/Math", name := "max", desc := "(JJ)J" } : Jvm.MethodName) jdk_29_method_66_code (4 : Nat) (Option.some Jvm.ClassFile.FieldType.long), Jvm.Cond.code ({ cls := "java/lang/Math", name := "min", desc := "(JJ)J" } : Jvm.MethodName) jdk_29_method_70_code (4 : Nat) (Option.some Jvm.ClassFile.FieldType.long), Jvm.Cond.code ({ cls := "com/example/switchback/switchback/expression/LiteralSearch", name := "sharedSuffixes", desc := "([I)[I" } : Jvm.MethodName) prog_27_method_3_code (7 : Nat) (Option.some (Jvm.ClassFile.FieldType.array Jvm.ClassFile.FieldType.int)), Jvm.Cond.code ({ cls := "java/lang/Math", name := "min", desc := "(II)I" } : Jvm.MethodName) jdk_29_method_69_code (2 : Nat) (Option.some Jvm.ClassFile.FieldType.int)]
set_option maxRecDepth 65536 in
theorem codes_eq : words1.filter isCode = codes1 := rfl
theorem w_codes : ∀ c ∈ words1.filter isCode, c.before args0 about1 = true := by
  rw [codes_eq]
  intro c hc
  simp only [codes1, List.mem_cons, List.not_mem_nil, or_false] at hc
  rcases hc with rfl | rfl | rfl | rfl | rfl | rfl | rfl
  · exact w_c0
  · exact w_c1
  · exact w_c2
  · exact w_c3
  · exact w_c4
  · exact w_c5
  · exact w_c6
set_option maxRecDepth 65536 in
theorem w_t1 : (words1.take 24).all (fun c => isCode c || c.before args0 about1) = true := by decide +kernel
set_option maxRecDepth 65536 in
theorem w_t2 : (words1.drop 24).all (fun c => isCode c || c.before args0 about1) = true := by decide +kernel
theorem w_tables : (allAtoms (Jvm.Cond.code x code maxLocals ret :: tables_1)).before args0 about1 = true := by
  rw [allAtoms_all]
  show words1.all (fun c => c.before args0 about1) = true
  refine all_split ?_ w_codes
  rw [← List.take_append_drop 24 words1, List.all_append, w_t1, w_t2]
  rfl
set_option maxRecDepth 65536 in
theorem w_case : (Jvm.Cond.and given_1 narrow_1).before args0 about1 = true := by decide +kernel
theorem w_applies : (headSpec (Jvm.Cond.code x code maxLocals ret :: tables_1) room_1).applies x e0.platform about1 = true :=
  (Spec.applies_iff w_frames).mpr ⟨w_running, w_runnable, w_alone, w_named, w_hears, w_ripe, w_room, w_tables⟩
theorem atStart : AtStart classFile x code maxLocals ret World_1 tables_1 room_1 Calls_1 rest_1 Pre_1 launch0 p0 e0 about1 theMethod args0 below0 :=
  ⟨lists_1, trivial, launch0.admits_env _ _ _, launch0.least_env, fairChoices_fair.cas, fairChoices_fair.clock, w_frames, w_args, w_heap, w_applies, trivial, trivial, w_case⟩
end start1
theorem witness_1 : WitnessClaimed_1 := ⟨start1.p0, start1.e0, start1.about1, start1.theMethod, start1.args0, start1.below0, start1.atStart⟩
end Jvm.Pilot.@@N@@
