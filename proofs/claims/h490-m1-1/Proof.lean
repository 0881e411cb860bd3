import JvmDerived
import JvmDerived.Pilot.@@N@@Statement
import JvmDerived.Pilot.@@N@@Code
set_option linter.unusedVariables false
set_option linter.unusedSimpArgs false
@@BLOCK:NumsL.lean.txt@@
namespace Jvm.Pilot.@@N@@
open Jvm Jvm.ClassFile Sem Op Lib Jvm.Free Jvm.Stand Jvm.LawKit Jvm.RoadKit Bundle Jvm.Pilot.@@N@@.Jvm.D
/-! own kit: a walk's goal as one predicate, so that laws, branches and loops stand in the order of the run -/
def Go (p : Program) (e : Env) (s : State) (below : List Frame) (C S : Nat) (Q : Option Value → Heap → List Loc → Prop) (T : State) (g : JFrame) : Prop :=
  ∃ s₂ o, Steps p.tables e below (T.setTop g) s₂ ∧ s₂.status = .running ∧ Ended s₂ below o ∧ ∃ v L, o = .returned v ∧ Q v s₂.heap L ∧ FrameEnd s o s₂ L C S
section OwnKit
variable {p : Program} {l : Launch} {e : Env} {R : Room} {s : State} {m : MethodId} {args : Array Value} {below : List Frame} {meth : Method} {c : Code} {T T' : State} {locs : List Loc} {cells slots : Nat} {C S : Nat} {Q : Option Value → Heap → List Loc → Prop} {g g' : JFrame} {Z : State} {h h' : Heap} {a b : Addr}
theorem Go.st (k1 : ∀ t, Steps p.tables e below (T'.setTop g') t → Steps p.tables e below (T.setTop g) t) (k : Go p e s below C S Q T' g') : Go p e s below C S Q T g := by
  obtain ⟨s₂, o, h1, h2⟩ := k
  exact ⟨s₂, o, k1 _ h1, h2⟩
theorem Go.tr (k1 : Steps p.tables e below (T.setTop g) (T'.setTop g')) (k : Go p e s below C S Q T' g') : Go p e s below C S Q T g := by
  obtain ⟨s₂, o, h1, h2⟩ := k
  exact ⟨s₂, o, k1.trans h1, h2⟩
theorem Go.enter {gE : JFrame} (q : gE = g) (k : Go p e s below C S Q T g) : ∃ s₂ o, Steps p.tables e below (T.setTop gE) s₂ ∧ s₂.status = .running ∧ Ended s₂ below o ∧ ∃ v L, o = .returned v ∧ Q v s₂.heap L ∧ FrameEnd s o s₂ L C S := by
  subst q
  exact k
theorem Go.retO (X : Stand p l e R s m args below meth c T locs cells slots) (hx : p.tables.exec = Jvm.exec) (hlk : meth.locks = false) {pc : Nat} {Ls : Array Slot} {w : Value} {t : FieldType} {i : Instr} {rest : List Value} (hret : meth.sig.returnType = some t) (hn : narrow t w = w)
    (hi : (i = .ireturn ∧ (t = .int ∨ t = .boolean ∨ t = .byte ∨ t = .char ∨ t = .short) ∧ ∃ z, w = .int z) ∨ (i = .lreturn ∧ t = .long ∧ ∃ z, w = .long z) ∨ (i = .dreturn ∧ t = .double ∧ ∃ z, w = .double z) ∨ (i = .freturn ∧ t = .float ∧ ∃ z, w = .float z) ∨ (i = .areturn ∧ t.isReference = true ∧ w.isRef = true))
    (hd : decode c.code pc = .ok (i, 1)) (hc : cells ≤ C) (hs : slots ≤ S) (hQ : Q (some w) T.heap locs) : Go p e s below C S Q T (mkF m pc Ls (w :: rest)) := by
  obtain ⟨fs, hr, hrun, hended, hW, hsame⟩ := X.leave (v := some w) (fun q => by rw [hret] at q; cases q) hlk
  exact ⟨_, _, retOut X hx hret hn hi hd hr, hrun, hended, _, _, rfl, hQ, ⟨_, rfl⟩, hW, hsame.mono hc hs⟩
theorem Go.retI (X : Stand p l e R s m args below meth c T locs cells slots) (hx : p.tables.exec = Jvm.exec) (hlk : meth.locks = false) {pc : Nat} {Ls : Array Slot} {z : Int32} {rest : List Value} (hret : meth.sig.returnType = some .int)
    (hd : decode c.code pc = .ok (.ireturn, 1)) (hc : cells ≤ C) (hs : slots ≤ S) (hQ : Q (some (.int z)) T.heap locs) : Go p e s below C S Q T (mkF m pc Ls (.int z :: rest)) :=
  Go.retO X hx hlk hret rfl (Or.inl ⟨rfl, Or.inl rfl, _, rfl⟩) hd hc hs hQ
theorem Go.retJ (X : Stand p l e R s m args below meth c T locs cells slots) (hx : p.tables.exec = Jvm.exec) (hlk : meth.locks = false) {pc : Nat} {Ls : Array Slot} {z : Int64} {rest : List Value} (hret : meth.sig.returnType = some .long)
    (hd : decode c.code pc = .ok (.lreturn, 1)) (hc : cells ≤ C) (hs : slots ≤ S) (hQ : Q (some (.long z)) T.heap locs) : Go p e s below C S Q T (mkF m pc Ls (.long z :: rest)) :=
  Go.retO X hx hlk hret rfl (Or.inr (Or.inl ⟨rfl, rfl, _, rfl⟩)) hd hc hs hQ
theorem Go.retA (X : Stand p l e R s m args below meth c T locs cells slots) (hx : p.tables.exec = Jvm.exec) (hlk : meth.locks = false) {pc : Nat} {Ls : Array Slot} {z : Addr} {t : FieldType} {rest : List Value} (hret : meth.sig.returnType = some t) (ht : t.isReference = true)
    (hd : decode c.code pc = .ok (.areturn, 1)) (hc : cells ≤ C) (hs : slots ≤ S) (hQ : Q (some (.ref z)) T.heap locs) : Go p e s below C S Q T (mkF m pc Ls (.ref z :: rest)) :=
  Go.retO X hx hlk hret (by cases t <;> first | rfl | (simp [FieldType.isReference] at ht)) (Or.inr (Or.inr (Or.inr (Or.inr ⟨rfl, ht, rfl⟩)))) hd hc hs hQ
theorem Go.retN (X : Stand p l e R s m args below meth c T locs cells slots) (hx : p.tables.exec = Jvm.exec) (hlk : meth.locks = false) {pc : Nat} {Ls : Array Slot} {z : Int32} {t : FieldType} {rest : List Value} (hret : meth.sig.returnType = some t) (ht : t = .boolean ∨ t = .byte ∨ t = .char ∨ t = .short)
    (hd : decode c.code pc = .ok (.ireturn, 1)) (hc : cells ≤ C) (hs : slots ≤ S) (hQ : Q (some (.int (nar t z))) T.heap locs) : Go p e s below C S Q T (mkF m pc Ls (.int z :: rest)) := by
  obtain ⟨fs, hr, hrun, hended, hW, hsame⟩ := X.leave (v := some (.int (nar t z))) (fun q => by rw [hret] at q; cases q) hlk
  exact ⟨_, _, Jvm.RoadKit.retN X hx hret ht hd hr, hrun, hended, _, _, rfl, hQ, ⟨_, rfl⟩, hW, hsame.mono hc hs⟩
theorem Go.retV (X : Stand p l e R s m args below meth c T locs cells slots) (hx : p.tables.exec = Jvm.exec) (hlk : meth.locks = false) {pc : Nat} {Ls : Array Slot} (hret : meth.sig.returnType = none)
    (hd : decode c.code pc = .ok (.return_, 1)) (hc : cells ≤ C) (hs : slots ≤ S) (hQ : Q none T.heap locs) : Go p e s below C S Q T (mkF m pc Ls []) := by
  obtain ⟨fs, hr, hrun, hended, hW, hsame⟩ := X.leave (v := none) (fun _ => rfl) hlk
  exact ⟨_, _, X.returnOut hx hret hd hr, hrun, hended, _, _, rfl, hQ, ⟨_, rfl⟩, hW, hsame.mono hc hs⟩
/-! an array of ints (or bytes) by a function of its places -/
def AV (Z : State) (h : Heap) (a : Addr) (ty : FieldType) (n : Nat) (f : Nat → Int32) : Prop := ∃ c : Cell, Arr Z h a c ty ∧ c.slots.size = n ∧ n < 2147483648 ∧ ∀ j, j < n → c.slots[j]? = some (.int (f j))
variable {ty : FieldType} {n : Nat} {f : Nat → Int32}
theorem AV.lt (F : AV Z h a ty n f) : a < h.size := by obtain ⟨c, A, -⟩ := F; exact A.lt
theorem AV.small (F : AV Z h a ty n f) : n < 2147483648 := by obtain ⟨c, A, -, r, -⟩ := F; exact r
theorem AV.ext (F : AV Z h a ty n f) (E : Ext h h') : AV Z h' a ty n f := by obtain ⟨c, A, r⟩ := F; exact ⟨c, A.ext E, r⟩
theorem AV.other {sl : Nat} {v : Value} (F : AV Z h b ty n f) (W : Wr h h' a sl v) (q : b ≠ a) : AV Z h' b ty n f := by obtain ⟨c, A, r⟩ := F; exact ⟨c, A.other W q, r⟩
theorem AV.keep {ws : List Addr} (F : AV Z h a ty n f) (K : Keep h h' ws) (q : a ∉ ws) : AV Z h' a ty n f := by obtain ⟨c, A, r⟩ := F; exact ⟨c, ⟨K.2.1 a c A.1 q, A.2⟩, r⟩
theorem AV.congr {f' : Nat → Int32} (F : AV Z h a ty n f) (q : ∀ j, j < n → f j = f' j) : AV Z h a ty n f' := by
  obtain ⟨c, A, r1, r2, r3⟩ := F
  exact ⟨c, A, r1, r2, fun j hj => by rw [← q j hj]; exact r3 j hj⟩
theorem AV.new {k : ClassId} {z : Int32} (A : Arr Z h a (newA k ty z) ty) (hz : ¬ z < 0) (hd : defaultValue ty = .int 0) : AV Z h a ty z.toNatClampNeg (fun _ => 0) := by
  obtain ⟨c, A', -, S, -, H, -⟩ := Arv.new A hz
  refine ⟨c, A', S, ?_, fun j hj => ?_⟩
  · have h1 := z.toInt_lt
    have h2 : z.toNatClampNeg = z.toInt.toNat := rfl
    omega
  · have := H j (by omega)
    rw [this, hd]
    rfl
theorem AV.set {i : Nat} {x : Int32} (F : AV Z h a ty n f) (W : Wr h h' a i (.int x)) : AV Z h' a ty n (upd f i x) := by
  obtain ⟨c, A, r1, r2, r3⟩ := F
  refine ⟨_, A.same W, ?_, r2, fun j hj => ?_⟩
  · simp [Cell.setSlot, r1]
  · simp only [Cell.setSlot, upd]
    rw [Array.getElem?_setIfInBounds]
    by_cases q : i = j
    · subst q; simp [r1, hj]
    · simp [q, Ne.symm q, r3 j hj]
theorem AV.ldI (X : Stand p l e R s m args below meth c T locs cells slots) (hx : p.tables.exec = Jvm.exec) (hZ : Z.Warmed39 s.vm) (eT : T.heap = h) (F : AV Z h a .int n f) {j : Int32} {i : Nat} (hj : j.toNatClampNeg = i) (h0 : ¬ j < 0) (hi : i < n)
    {g : JFrame} (hg : g.method = m) {rest : List Value} (hs : g.stack = .int j :: .ref a :: rest) (hd : decode c.code g.pc = .ok (.iaload, 1)) : ∀ t, Steps p.tables e below (T.setTop { g with pc := g.pc + 1, stack := .int (f i) :: rest }) t → Steps p.tables e below (T.setTop g) t := by
  obtain ⟨cl, A, r1, r2, r3⟩ := F
  intro t k
  exact X.iaload hx (by rw [eT]; exact A.1) (State.isArrayOf_alike hZ.alike A.2.1) A.2.2 (by rw [r1, hj]; intro q; rcases q with q | q; exact h0 q; omega) (by rw [hj]; exact r3 i hi) hg hs hd _ k
theorem AV.ldB (X : Stand p l e R s m args below meth c T locs cells slots) (hx : p.tables.exec = Jvm.exec) (hZ : Z.Warmed39 s.vm) (eT : T.heap = h) (F : AV Z h a .byte n f) {j : Int32} {i : Nat} (hj : j.toNatClampNeg = i) (h0 : ¬ j < 0) (hi : i < n)
    {g : JFrame} (hg : g.method = m) {rest : List Value} (hs : g.stack = .int j :: .ref a :: rest) (hd : decode c.code g.pc = .ok (.baload, 1)) : ∀ t, Steps p.tables e below (T.setTop { g with pc := g.pc + 1, stack := .int (f i) :: rest }) t → Steps p.tables e below (T.setTop g) t := by
  obtain ⟨cl, A, r1, r2, r3⟩ := F
  intro t k
  exact X.baloadBytes hx (by rw [eT]; exact A.1) (State.isArrayOf_alike hZ.alike A.2.1) A.2.2 (by rw [r1, hj]; intro q; rcases q with q | q; exact h0 q; omega) (by rw [hj]; exact r3 i hi) hg hs hd _ k
theorem AV.stI (X : Stand p l e R s m args below meth c T locs cells slots) (hx : p.tables.exec = Jvm.exec) (hZ : Z.Warmed39 s.vm) (eT : T.heap = h) (F : AV Z h a .int n f) {j x : Int32} {i : Nat} (hj : j.toNatClampNeg = i) (h0 : ¬ j < 0) (hi : i < n)
    {g : JFrame} (hg : g.method = m) {rest : List Value} (hs : g.stack = .int x :: .int j :: .ref a :: rest) (hd : decode c.code g.pc = .ok (.iastore, 1)) :
    ∃ T' h', Stand p l e R s m args below meth c T' (locs ++ [⟨a, i⟩]) cells slots ∧ T'.heap = h' ∧ Wr h h' a i (.int x) ∧ AV Z h' a .int n (upd f i x) ∧ ∀ t, Steps p.tables e below (T'.setTop { g with pc := g.pc + 1, stack := rest }) t → Steps p.tables e below (T.setTop g) t := by
  have F' := F
  obtain ⟨cl, A, r1, r2, r3⟩ := F
  obtain ⟨T', h', X', e', W, st⟩ := Jvm.RoadKit.stI X hx hZ eT A (j := j) (x := x) (by rw [r1, hj]; intro q; rcases q with q | q; exact h0 q; omega) hg hs hd
  rw [hj] at X' W
  exact ⟨T', h', X', e', W, F'.set W, st⟩
theorem AV.stB (X : Stand p l e R s m args below meth c T locs cells slots) (hx : p.tables.exec = Jvm.exec) (hZ : Z.Warmed39 s.vm) (eT : T.heap = h) (F : AV Z h a .byte n f) {j x : Int32} {i : Nat} (hj : j.toNatClampNeg = i) (h0 : ¬ j < 0) (hi : i < n)
    {g : JFrame} (hg : g.method = m) {rest : List Value} (hs : g.stack = .int x :: .int j :: .ref a :: rest) (hd : decode c.code g.pc = .ok (.bastore, 1)) :
    ∃ T' h', Stand p l e R s m args below meth c T' (locs ++ [⟨a, i⟩]) cells slots ∧ T'.heap = h' ∧ Wr h h' a i (.int (nar .byte x)) ∧ AV Z h' a .byte n (upd f i (nar .byte x)) ∧ ∀ t, Steps p.tables e below (T'.setTop { g with pc := g.pc + 1, stack := rest }) t → Steps p.tables e below (T.setTop g) t := by
  have F' := F
  obtain ⟨cl, A, r1, r2, r3⟩ := F
  obtain ⟨T', h', X', e', W, st⟩ := Jvm.RoadKit.stB X hx hZ eT A (j := j) (x := x) (by rw [r1, hj]; intro q; rcases q with q | q; exact h0 q; omega) hg hs hd
  rw [hj] at X' W
  exact ⟨T', h', X', e', W, F'.set W, st⟩
theorem AV.len (X : Stand p l e R s m args below meth c T locs cells slots) (hx : p.tables.exec = Jvm.exec) (hZ : Z.Warmed39 s.vm) (eT : T.heap = h) (F : AV Z h a ty n f)
    {g : JFrame} (hg : g.method = m) {rest : List Value} (hs : g.stack = .ref a :: rest) (hd : decode c.code g.pc = .ok (.arraylength, 1)) : ∀ t, Steps p.tables e below (T.setTop { g with pc := g.pc + 1, stack := .int (Int32.ofNat n) :: rest }) t → Steps p.tables e below (T.setTop g) t := by
  obtain ⟨cl, A, r1, r2, r3⟩ := F
  subst r1
  intro t k
  exact X.arraylength hx (by rw [eT]; exact A.1) (State.isArrayOf_alike hZ.alike A.2.1) hg hs hd _ k
end OwnKit
theorem cl_eq {x y : Int64} (h : x = y) : ifCond.holds .eq (lcmpW x y) = true ∧ ifCond.holds .ne (lcmpW x y) = false := by
  have q := (lw_eq x y).mpr h
  exact ⟨(if0 _ _).trans (teq q).1, (if0 _ _).trans (teq q).2⟩
theorem cl_eqF {x y : Int64} (h : ¬ x = y) : ifCond.holds .eq (lcmpW x y) = false ∧ ifCond.holds .ne (lcmpW x y) = true := by
  have q := fun z => h ((lw_eq x y).mp z)
  exact ⟨(if0 _ _).trans (feq q).1, (if0 _ _).trans (feq q).2⟩
theorem cl_lt {x y : Int64} (h : x < y) : ifCond.holds .lt (lcmpW x y) = true ∧ ifCond.holds .ge (lcmpW x y) = false := by
  have q := (lw_lt x y).mpr h
  exact ⟨(if0 _ _).trans (tlt q).1, (if0 _ _).trans (tlt q).2.1⟩
theorem cl_ltF {x y : Int64} (h : ¬ x < y) : ifCond.holds .lt (lcmpW x y) = false ∧ ifCond.holds .ge (lcmpW x y) = true := by
  have q := fun z => h ((lw_lt x y).mp z)
  exact ⟨(if0 _ _).trans (flt q).1, (if0 _ _).trans (flt q).2.1⟩
theorem cl_gt {x y : Int64} (h : y < x) : ifCond.holds .gt (lcmpW x y) = true ∧ ifCond.holds .le (lcmpW x y) = false := by
  have q := (lw_gt x y).mpr h
  exact ⟨(if0 _ _).trans (tlt q).2.2.1, (if0 _ _).trans (tlt q).2.2.2⟩
theorem cl_gtF {x y : Int64} (h : ¬ y < x) : ifCond.holds .gt (lcmpW x y) = false ∧ ifCond.holds .le (lcmpW x y) = true := by
  have q := fun z => h ((lw_gt x y).mp z)
  exact ⟨(if0 _ _).trans (flt q).2.2.1, (if0 _ _).trans (flt q).2.2.2⟩
/-! small naturals as ints -/
theorem on_toInt {k : Nat} (h : k < 2147483648) : (Int32.ofNat k).toInt = (k : Int) := Int32.toInt_ofNat_of_lt h
theorem on_idx {k : Nat} (h : k < 2147483648) : (Int32.ofNat k).toNatClampNeg = k := by
  show (Int32.ofNat k).toInt.toNat = k
  rw [on_toInt h]; rfl
theorem on_nn {k : Nat} (h : k < 2147483648) : ¬ Int32.ofNat k < 0 := by
  rw [Int32.lt_iff_toInt_lt, on_toInt h]
  have : (0 : Int32).toInt = 0 := rfl
  omega
theorem on_lt {j k : Nat} (hj : j < 2147483648) (hk : k < 2147483648) : Int32.ofNat j < Int32.ofNat k ↔ j < k := by
  rw [Int32.lt_iff_toInt_lt, on_toInt hj, on_toInt hk]; omega
theorem on_inj {j k : Nat} (hj : j < 2147483648) (hk : k < 2147483648) : Int32.ofNat j = Int32.ofNat k ↔ j = k := by
  constructor
  · intro q
    have := congrArg Int32.toInt q
    rw [on_toInt hj, on_toInt hk] at this; omega
  · intro q; rw [q]
theorem on_add (j k : Nat) : Int32.ofNat j + Int32.ofNat k = Int32.ofNat (j + k) := (Int32.ofNat_add j k).symm
theorem on_succ (j : Nat) : Int32.ofNat j + (1 : Int32) = Int32.ofNat (j + 1) := on_add j 1
theorem on_sub {j k : Nat} (h : k ≤ j) : Int32.ofNat j - Int32.ofNat k = Int32.ofNat (j - k) := by
  have : Int32.ofNat j = Int32.ofNat (j - k) + Int32.ofNat k := by rw [on_add]; congr 1; omega
  rw [this]; simp
theorem on_sub1 {j : Nat} (h : 1 ≤ j) : Int32.ofNat j - (1 : Int32) = Int32.ofNat (j - 1) := on_sub (k := 1) h
theorem ol_toInt {k : Nat} (h : k < 9223372036854775808) : (Int64.ofNat k).toInt = (k : Int) := Int64.toInt_ofNat_of_lt h
theorem ol_eq {x : Int64} {k : Nat} (hk : k < 9223372036854775808) (h : x.toInt = k) : x = Int64.ofNat k := Int64.toInt_inj.mp (by rw [h, ol_toInt hk])
theorem on_eq {x : Int32} {k : Nat} (hk : k < 2147483648) (h : x.toInt = k) : x = Int32.ofNat k := Int32.toInt_inj.mp (by rw [h, on_toInt hk])
theorem ol_nn {k : Nat} (h : k < 9223372036854775808) : (0 : Int64) ≤ Int64.ofNat k := by
  rw [Jvm.Kit.i64_nonneg, ol_toInt h]; omega
theorem ol_shr {N k : Nat} (hN : N < 9223372036854775808) {n : UInt64} (hn : n.toNat = k) (hk : k < 64) : ((Int64.ofNat N).toUInt64 >>> n).toInt64 = Int64.ofNat (N / 2 ^ k) := by
  have hl : N / 2 ^ k ≤ N := Nat.div_le_self _ _
  refine ol_eq (by omega) ?_
  rw [Jvm.Kit.i64_lushr (ol_nn hN) hn hk, ol_toInt hN]
  simp
theorem ol_and127 {N : Nat} (hN : N < 9223372036854775808) : (Int64.ofNat N &&& (127 : Int64)) = Int64.ofNat (N % 128) := by
  refine ol_eq (by omega) ?_
  rw [Jvm.Kit.i64_mask (Int64.ofNat N) 127 (k := 7) (by decide) (by decide), ol_toInt hN]
  omega
theorem ol_split (x : Int64) : x = (x &&& (127 : Int64)) ||| (x &&& (-128 : Int64)) := by
  apply Int64.toBitVec_inj.mp
  simp only [Int64.toBitVec_or, Int64.toBitVec_and]
  rw [← BitVec.and_or_distrib_left]
  have : (127 : Int64).toBitVec ||| (-128 : Int64).toBitVec = BitVec.allOnes 64 := by decide +kernel
  rw [this, BitVec.and_allOnes]
theorem ol_small {N : Nat} (h : N < 128) : (Int64.ofNat N &&& (-128 : Int64)) = (0 : Int64) := by
  have : ∀ N, N < 128 → (Int64.ofNat N &&& (-128 : Int64)) = (0 : Int64) := by decide +kernel
  exact this N h
theorem ol_big {N : Nat} (hN : N < 9223372036854775808) (h : ¬ N < 128) : ¬ (Int64.ofNat N &&& (-128 : Int64)) = (0 : Int64) := by
  intro q
  have e := ol_split (Int64.ofNat N)
  rw [q, ol_and127 hN] at e
  simp only [Int64.or_zero] at e
  have := congrArg Int64.toInt e
  rw [ol_toInt hN, ol_toInt (by omega)] at this
  omega
def own_hi (N k : Nat) : Int32 := Int32.ofInt ((N / 128 ^ k % 128 : Nat) - 128 : Int)
def own_lo (N k : Nat) : Int32 := Int32.ofNat (N / 128 ^ k % 128)
def own_m (N A : Nat) (f : Int32) (k j : Nat) : Int32 := if A ≤ j ∧ j < A + k then own_hi N (j - A) else f
def own_e (N A Ln : Nat) (f : Int32) (i : Nat) : Int32 := if i < A ∨ A + Ln ≤ i then f else if i - A + 1 < Ln then own_hi N (i - A) else own_lo N (i - A)
def own_nz (N k : Nat) : Nat := if N / 2 ^ k = 0 then 0 else 1
def own_len (N : Nat) : Nat := 1 + own_nz N 7 + own_nz N 14 + own_nz N 21 + own_nz N 28 + own_nz N 35 + own_nz N 42 + own_nz N 49 + own_nz N 56
theorem own_hiE {m : Nat} (h : m < 128) : nar .byte ((Int64.ofNat m ||| (128 : Int64)).toInt32.toInt8.toInt32) = Int32.ofInt ((m : Nat) - 128 : Int) := by
  have : ∀ m : Nat, m < 128 → nar .byte ((Int64.ofNat m ||| (128 : Int64)).toInt32.toInt8.toInt32) = Int32.ofInt ((m : Nat) - 128 : Int) := by decide +kernel
  exact this m h
theorem own_loE {m : Nat} (h : m < 128) : nar .byte ((Int64.ofNat m).toInt32.toInt8.toInt32) = Int32.ofNat m := by
  have : ∀ m : Nat, m < 128 → nar .byte ((Int64.ofNat m).toInt32.toInt8.toInt32) = Int32.ofNat m := by decide +kernel
  exact this m h
theorem own_hiO {m : Nat} (h : m < 128) : ((Int64.ofNat m).toInt32 ||| (128 : Int32)).toInt8.toInt32 = Int32.ofInt ((m : Nat) - 128 : Int) := by
  have : ∀ m : Nat, m < 128 → ((Int64.ofNat m).toInt32 ||| (128 : Int32)).toInt8.toInt32 = Int32.ofInt ((m : Nat) - 128 : Int) := by decide +kernel
  exact this m h
theorem own_loO {m : Nat} (h : m < 128) : ((Int64.ofNat m).toInt32).toInt8.toInt32 = Int32.ofNat m := by
  have : ∀ m : Nat, m < 128 → ((Int64.ofNat m).toInt32).toInt8.toInt32 = Int32.ofNat m := by decide +kernel
  exact this m h
theorem own_sh7k {k : Nat} (h : k < 9) : (((7 : Int32) * Int32.ofNat k) &&& 0x3f).toInt64.toUInt64.toNat = 7 * k := by
  have : ∀ k : Nat, k < 9 → (((7 : Int32) * Int32.ofNat k) &&& 0x3f).toInt64.toUInt64.toNat = 7 * k := by decide +kernel
  exact this k h
theorem own_pow (k : Nat) : (2 : Nat) ^ (7 * k) = 128 ^ k := by rw [Nat.pow_mul]
/-- where the loop is left at k, the length is k + 1 -/
theorem own_lenK {N k : Nat} (hN : N < 9223372036854775808) (hk : k ≤ 8) (h1 : k = 0 ∨ 128 ^ k ≤ N) (h2 : N / 128 ^ k < 128) : own_len N = k + 1 := by
  have e : ∀ j, own_nz N j = if N < 2 ^ j then 0 else 1 := fun j => by
    simp only [own_nz, Nat.div_eq_zero_iff]
    have : (2 : Nat) ^ j ≠ 0 := Nat.pos_iff_ne_zero.mp (Nat.two_pow_pos j)
    simp [this]
  have h3 : N < 128 ^ k * 128 := (Nat.div_lt_iff_lt_mul (Nat.pow_pos (by decide))).mp h2 |> fun q => by rw [Nat.mul_comm]; exact q
  simp only [own_len, e]
  rcases (by omega : k = 0 ∨ k = 1 ∨ k = 2 ∨ k = 3 ∨ k = 4 ∨ k = 5 ∨ k = 6 ∨ k = 7 ∨ k = 8) with rfl | rfl | rfl | rfl | rfl | rfl | rfl | rfl | rfl <;> simp at h1 h3 ⊢ <;> (repeat' split) <;> omega
theorem own_more {N k : Nat} (h : ¬ N / 128 ^ k < 128) : 128 ^ (k + 1) ≤ N := by
  have : 128 ≤ N / 128 ^ k := Nat.le_of_not_lt h
  have := (Nat.le_div_iff_mul_le (Nat.pow_pos (by decide))).mp this
  rw [Nat.pow_succ, Nat.mul_comm]; exact this
theorem own_8 {N : Nat} (hN : N < 9223372036854775808) : N / 128 ^ 8 < 128 := by
  have : (128 : Nat) ^ 8 = 72057594037927936 := by decide +kernel
  rw [this]; omega
theorem own_step {N A k : Nat} {f x : Int32} (hx : x = own_hi N k) (j : Nat) : upd (own_m N A f k) (A + k) x j = own_m N A f (k + 1) j := by
  simp only [upd, own_m, hx]
  by_cases q : j = A + k
  · subst q; simp
  · by_cases q2 : A ≤ j ∧ j < A + k
    · have : A ≤ j ∧ j < A + (k + 1) := by omega
      simp [q, q2, this]
    · have : ¬ (A ≤ j ∧ j < A + (k + 1)) := by omega
      simp [q, q2, this]
theorem own_end {N A k : Nat} {f x : Int32} (hx : x = own_lo N k) (j : Nat) : upd (own_m N A f k) (A + k) x j = own_e N A (k + 1) f j := by
  simp only [upd, own_m, own_e, hx]
  by_cases q : j = A + k
  · subst q; simp; omega
  · by_cases q2 : A ≤ j ∧ j < A + k
    · have e1 : ¬ (j < A ∨ A + (k + 1) ≤ j) := by omega
      have e2 : j - A + 1 < k + 1 := by omega
      simp [q, q2, e1, e2]
    · have e1 : j < A ∨ A + (k + 1) ≤ j := by omega
      simp [q, q2, e1]
theorem own_v (x : Int64) (n : UInt64) : ∃ N, N < 9223372036854775808 ∧ ((x &&& (9223372036854775807 : Int64)).toUInt64 >>> n).toInt64 = Int64.ofNat N := by
  refine ⟨((x &&& (9223372036854775807 : Int64)).toUInt64 >>> n).toNat, ?_, ?_⟩
  · have h1 : (x &&& (9223372036854775807 : Int64)).toUInt64.toNat < 9223372036854775808 := by
      have e : (x &&& (9223372036854775807 : Int64)).toUInt64.toNat = x.toBitVec.toNat &&& 9223372036854775807 := by
        show (x &&& (9223372036854775807 : Int64)).toBitVec.toNat = _
        rw [Int64.toBitVec_and, BitVec.toNat_and]
        rfl
      rw [e]
      have := @Nat.and_le_right x.toBitVec.toNat 9223372036854775807
      omega
    rw [UInt64.toNat_shiftRight, Nat.shiftRight_eq_div_pow]
    have := Nat.div_le_self (x &&& (9223372036854775807 : Int64)).toUInt64.toNat (2 ^ (n.toNat % 64))
    omega
  · apply Int64.toBitVec_inj.mp
    generalize (x &&& (9223372036854775807 : Int64)).toUInt64 >>> n = u
    show u.toBitVec = BitVec.ofNat 64 u.toBitVec.toNat
    simp
theorem own_at (x : Int32) : ∃ A, A < 4 ∧ (x &&& (3 : Int32)) = Int32.ofNat A := by
  have e1 : (x &&& 3).toInt = x.toInt % 2 ^ 2 := Jvm.Kit.i32_mask x 3 (k := 2) (by decide) (by decide)
  refine ⟨(x.toInt % 2 ^ 2).toNat, by omega, on_eq (by omega) (by rw [e1]; omega)⟩
theorem own_by (x : Int32) : nar .byte (x.toInt8.toInt32) = x.toInt8.toInt32 := by
  show (x.toInt8.toInt32).toInt8.toInt32 = _
  simp
theorem own_nzI (N k : Nat) : (if N / 2 ^ k = 0 then (0 : Int32) else 1) = Int32.ofNat (own_nz N k) := by
  simp only [own_nz]; split <;> rfl
theorem own_len9 (N : Nat) : own_len N ≤ 9 := by
  have : ∀ k, own_nz N k ≤ 1 := fun k => by simp only [own_nz]; split <;> omega
  have h7 := this 7; have h14 := this 14; have h21 := this 21; have h28 := this 28; have h35 := this 35; have h42 := this 42; have h49 := this 49; have h56 := this 56
  simp only [own_len]; omega
theorem own_lenI (N : Nat) : (((((((((1 : Int32) + Int32.ofNat (own_nz N 7)) + Int32.ofNat (own_nz N 14)) + Int32.ofNat (own_nz N 21)) + Int32.ofNat (own_nz N 28)) + Int32.ofNat (own_nz N 35)) + Int32.ofNat (own_nz N 42)) + Int32.ofNat (own_nz N 49)) + Int32.ofNat (own_nz N 56)) = Int32.ofNat (own_len N) := by
  show Int32.ofNat 1 + _ + _ + _ + _ + _ + _ + _ + _ = _
  simp only [on_add, own_len]
theorem own_zz {M : Nat} (hl : M < 9223372036854775808) (hz : Int64.ofNat M = (0 : Int64)) : M = 0 := by
  have q := congrArg Int64.toInt hz
  rw [ol_toInt hl] at q
  have e : (0 : Int64).toInt = 0 := by decide
  omega
def own_p (fb : Int32) (k j : Nat) : Int32 := if j < k then fb else 0
theorem own_pS {fb : Int32} {k j : Nat} : upd (own_p fb k) k fb j = own_p fb (k + 1) j := by
  simp only [upd, own_p]
  by_cases q : j = k
  · subst q; simp
  · by_cases q2 : j < k
    · have : j < k + 1 := by omega
      simp [q, q2, this]
    · have : ¬ j < k + 1 := by omega
      simp [q, q2, this]
theorem own_dd (N k : Nat) : N / 128 ^ k / 2 ^ 7 = N / 128 ^ (k + 1) := by
  show N / 128 ^ k / 128 = N / 128 ^ (k + 1)
  rw [Nat.div_div_eq_div_mul, Nat.pow_succ]
theorem ef_0 (m : MethodId) (x0 : Int64) (x1 : Int32) (x2 : Int32) (x3 : Int32) : entryFrame m #[(.long x0), (.int x1), (.int x2), (.int x3)] maxLocals = mkF m 0 #[.val (.long x0), .second, .val (.int x1), .val (.int x2), .val (.int x3), .unset, .unset, .unset, .unset, .unset, .unset, .unset] [] := by first | (simp [entryFrame, mkF, argsToLocals, Value.category, maxLocals]; done) | rfl
theorem ef_1 (m : MethodId) (x0 : Int64) (x1 : Int32) : entryFrame m #[(.long x0), (.int x1)] 3 = mkF m 0 #[.val (.long x0), .second, .val (.int x1)] [] := by first | (simp [entryFrame, mkF, argsToLocals, Value.category]; done) | rfl
theorem ef_2 (m : MethodId) (x0 : Int64) (x1 : Addr) (x2 : Int32) : entryFrame m #[(.long x0), (.ref x1), (.int x2)] 7 = mkF m 0 #[.val (.long x0), .second, .val (.ref x1), .val (.int x2), .unset, .unset, .unset] [] := by first | (simp [entryFrame, mkF, argsToLocals, Value.category]; done) | rfl
theorem ef_3 (m : MethodId) (x0 : Addr) (x1 : Int32) (x2 : Int32) (x3 : Int64) (x4 : Int32) (x5 : Int32) : entryFrame m #[(.ref x0), (.int x1), (.int x2), (.long x3), (.int x4), (.int x5)] 10 = mkF m 0 #[.val (.ref x0), .val (.int x1), .val (.int x2), .val (.long x3), .second, .val (.int x4), .val (.int x5), .unset, .unset, .unset] [] := by first | (simp [entryFrame, mkF, argsToLocals, Value.category]; done) | rfl
theorem pd_0 : parseMethodDescriptor "(JI)I" = some ⟨[.long, .int], some .int⟩ := by decide +kernel
theorem pd_1 : parseMethodDescriptor "(J[BI)I" = some ⟨[.long, (.array .byte), .int], some .int⟩ := by decide +kernel
theorem pd_2 : parseMethodDescriptor "([BIIJIB)Z" = some ⟨[(.array .byte), .int, .int, .long, .int, .byte], some .boolean⟩ := by decide +kernel
theorem pn_com_example_vernal_stem_vernalstem_index_IndexFormat : plainName "com/example/vernal_stem/vernalstem/index/IndexFormat" = true := by first | (simp [plainName, overriddenIn]; done) | decide +kernel
theorem pn_com_example_vernal_stem_vernalstem_index_IndexFormatEncodeVarintPinLaw : plainName "com/example/vernal_stem/vernalstem/index/IndexFormatEncodeVarintPinLaw" = true := by first | (simp [plainName, overriddenIn]; done) | decide +kernel
theorem d1_0 : decode method_3_code 0 = .ok (.lload_n 0, 1) := by decide +kernel
theorem d1_1 : decode method_3_code 1 = .ok (.iload_n 2, 1) := by decide +kernel
theorem d1_12 : decode method_3_code 12 = .ok (.iconst 0, 1) := by decide +kernel
theorem d1_13 : decode method_3_code 13 = .ok (.ireturn, 1) := by decide +kernel
theorem d1_2 : decode method_3_code 2 = .ok (.lushr, 1) := by decide +kernel
theorem d1_3 : decode method_3_code 3 = .ok (.lconst 0, 1) := by decide +kernel
theorem d1_4 : decode method_3_code 4 = .ok (.lcmp, 1) := by decide +kernel
theorem d1_5 : decode method_3_code 5 = .ok (.ifCond .eq 7, 3) := by decide +kernel
theorem d1_8 : decode method_3_code 8 = .ok (.iconst 1, 1) := by decide +kernel
theorem d1_9 : decode method_3_code 9 = .ok (.goto 4, 3) := by decide +kernel
theorem d2_0 : decode prog_45_method_2_code 0 = .ok (.lload_n 0, 1) := by decide +kernel
theorem d2_1 : decode prog_45_method_2_code 1 = .ok (.lstore 4, 2) := by decide +kernel
theorem d2_11 : decode prog_45_method_2_code 11 = .ok (.land, 1) := by decide +kernel
theorem d2_12 : decode prog_45_method_2_code 12 = .ok (.lconst 0, 1) := by decide +kernel
theorem d2_13 : decode prog_45_method_2_code 13 = .ok (.lcmp, 1) := by decide +kernel
theorem d2_14 : decode prog_45_method_2_code 14 = .ok (.ifCond .eq 32, 3) := by decide +kernel
theorem d2_17 : decode prog_45_method_2_code 17 = .ok (.aload_n 2, 1) := by decide +kernel
theorem d2_18 : decode prog_45_method_2_code 18 = .ok (.iload 6, 2) := by decide +kernel
theorem d2_20 : decode prog_45_method_2_code 20 = .ok (.iinc 6 1, 3) := by decide +kernel
theorem d2_23 : decode prog_45_method_2_code 23 = .ok (.lload 4, 2) := by decide +kernel
theorem d2_25 : decode prog_45_method_2_code 25 = .ok (.ldc2_w 11, 3) := by decide +kernel
theorem d2_28 : decode prog_45_method_2_code 28 = .ok (.land, 1) := by decide +kernel
theorem d2_29 : decode prog_45_method_2_code 29 = .ok (.ldc2_w 13, 3) := by decide +kernel
theorem d2_3 : decode prog_45_method_2_code 3 = .ok (.iload_n 3, 1) := by decide +kernel
theorem d2_32 : decode prog_45_method_2_code 32 = .ok (.lor, 1) := by decide +kernel
theorem d2_33 : decode prog_45_method_2_code 33 = .ok (.l2i, 1) := by decide +kernel
theorem d2_34 : decode prog_45_method_2_code 34 = .ok (.i2b, 1) := by decide +kernel
theorem d2_35 : decode prog_45_method_2_code 35 = .ok (.bastore, 1) := by decide +kernel
theorem d2_36 : decode prog_45_method_2_code 36 = .ok (.lload 4, 2) := by decide +kernel
theorem d2_38 : decode prog_45_method_2_code 38 = .ok (.bipush 7, 2) := by decide +kernel
theorem d2_4 : decode prog_45_method_2_code 4 = .ok (.istore 6, 2) := by decide +kernel
theorem d2_40 : decode prog_45_method_2_code 40 = .ok (.lushr, 1) := by decide +kernel
theorem d2_41 : decode prog_45_method_2_code 41 = .ok (.lstore 4, 2) := by decide +kernel
theorem d2_43 : decode prog_45_method_2_code 43 = .ok (.goto (-37), 3) := by decide +kernel
theorem d2_46 : decode prog_45_method_2_code 46 = .ok (.aload_n 2, 1) := by decide +kernel
theorem d2_47 : decode prog_45_method_2_code 47 = .ok (.iload 6, 2) := by decide +kernel
theorem d2_49 : decode prog_45_method_2_code 49 = .ok (.iinc 6 1, 3) := by decide +kernel
theorem d2_52 : decode prog_45_method_2_code 52 = .ok (.lload 4, 2) := by decide +kernel
theorem d2_54 : decode prog_45_method_2_code 54 = .ok (.l2i, 1) := by decide +kernel
theorem d2_55 : decode prog_45_method_2_code 55 = .ok (.i2b, 1) := by decide +kernel
theorem d2_56 : decode prog_45_method_2_code 56 = .ok (.bastore, 1) := by decide +kernel
theorem d2_57 : decode prog_45_method_2_code 57 = .ok (.iload 6, 2) := by decide +kernel
theorem d2_59 : decode prog_45_method_2_code 59 = .ok (.ireturn, 1) := by decide +kernel
theorem d2_6 : decode prog_45_method_2_code 6 = .ok (.lload 4, 2) := by decide +kernel
theorem d2_8 : decode prog_45_method_2_code 8 = .ok (.ldc2_w 9, 3) := by decide +kernel
theorem d3_0 : decode method_4_code 0 = .ok (.iload_n 1, 1) := by decide +kernel
theorem d3_1 : decode method_4_code 1 = .ok (.iload_n 2, 1) := by decide +kernel
theorem d3_10 : decode method_4_code 10 = .ok (.iload 7, 2) := by decide +kernel
theorem d3_12 : decode method_4_code 12 = .ok (.iload 5, 2) := by decide +kernel
theorem d3_14 : decode method_4_code 14 = .ok (.if_icmp .lt 10, 3) := by decide +kernel
theorem d3_17 : decode method_4_code 17 = .ok (.iload 6, 2) := by decide +kernel
theorem d3_19 : decode method_4_code 19 = .ok (.istore 8, 2) := by decide +kernel
theorem d3_2 : decode method_4_code 2 = .ok (.isub, 1) := by decide +kernel
theorem d3_21 : decode method_4_code 21 = .ok (.goto 40, 3) := by decide +kernel
theorem d3_24 : decode method_4_code 24 = .ok (.lload_n 3, 1) := by decide +kernel
theorem d3_25 : decode method_4_code 25 = .ok (.bipush 7, 2) := by decide +kernel
theorem d3_27 : decode method_4_code 27 = .ok (.iload 7, 2) := by decide +kernel
theorem d3_29 : decode method_4_code 29 = .ok (.imul, 1) := by decide +kernel
theorem d3_3 : decode method_4_code 3 = .ok (.istore 7, 2) := by decide +kernel
theorem d3_30 : decode method_4_code 30 = .ok (.lushr, 1) := by decide +kernel
theorem d3_31 : decode method_4_code 31 = .ok (.ldc2_w 28, 3) := by decide +kernel
theorem d3_34 : decode method_4_code 34 = .ok (.land, 1) := by decide +kernel
theorem d3_35 : decode method_4_code 35 = .ok (.l2i, 1) := by decide +kernel
theorem d3_36 : decode method_4_code 36 = .ok (.istore 9, 2) := by decide +kernel
theorem d3_38 : decode method_4_code 38 = .ok (.iload 7, 2) := by decide +kernel
theorem d3_40 : decode method_4_code 40 = .ok (.iconst 1, 1) := by decide +kernel
theorem d3_41 : decode method_4_code 41 = .ok (.iadd, 1) := by decide +kernel
theorem d3_42 : decode method_4_code 42 = .ok (.iload 5, 2) := by decide +kernel
theorem d3_44 : decode method_4_code 44 = .ok (.if_icmp .ge 12, 3) := by decide +kernel
theorem d3_47 : decode method_4_code 47 = .ok (.iload 9, 2) := by decide +kernel
theorem d3_49 : decode method_4_code 49 = .ok (.sipush 128, 3) := by decide +kernel
theorem d3_5 : decode method_4_code 5 = .ok (.iload 7, 2) := by decide +kernel
theorem d3_52 : decode method_4_code 52 = .ok (.ior, 1) := by decide +kernel
theorem d3_53 : decode method_4_code 53 = .ok (.goto 5, 3) := by decide +kernel
theorem d3_56 : decode method_4_code 56 = .ok (.iload 9, 2) := by decide +kernel
theorem d3_58 : decode method_4_code 58 = .ok (.i2b, 1) := by decide +kernel
theorem d3_59 : decode method_4_code 59 = .ok (.istore 8, 2) := by decide +kernel
theorem d3_61 : decode method_4_code 61 = .ok (.aload_n 0, 1) := by decide +kernel
theorem d3_62 : decode method_4_code 62 = .ok (.iload_n 1, 1) := by decide +kernel
theorem d3_63 : decode method_4_code 63 = .ok (.baload, 1) := by decide +kernel
theorem d3_64 : decode method_4_code 64 = .ok (.iload 8, 2) := by decide +kernel
theorem d3_66 : decode method_4_code 66 = .ok (.if_icmp .ne 7, 3) := by decide +kernel
theorem d3_69 : decode method_4_code 69 = .ok (.iconst 1, 1) := by decide +kernel
theorem d3_7 : decode method_4_code 7 = .ok (.ifCond .lt 10, 3) := by decide +kernel
theorem d3_70 : decode method_4_code 70 = .ok (.goto 4, 3) := by decide +kernel
theorem d3_74 : decode method_4_code 74 = .ok (.ireturn, 1) := by decide +kernel
def Q1 (N k : Nat) (h0 : Heap) (n0 : Nat) (v : Option Value) (h : Heap) (L : List Loc) : Prop := v = some (.int (Int32.ofNat (own_nz N k))) ∧ Fr n0 L ∧ h = h0
set_option maxRecDepth 65536 in
set_option maxHeartbeats 40000000 in
theorem rm1 (l : Launch) (Z : State) (a0 : Array Value) (hw : ∀ d ∈ tables_1, d.before a0 Z = true) (ws : List Jvm.Cond) (N k : Nat) (h0 : Heap) (n0 : Nat) (Z0 : n0 ≤ h0.size) (hN : N < 9223372036854775808) (hk : (Int32.ofNat k &&& 0x3f).toInt64.toUInt64.toNat = k) (hk64 : k < 64) :
    MetFree l (⟨"com/example/vernal_stem/vernalstem/index/IndexFormatEncodeVarintPinLaw", "nz", "(JI)I"⟩ : MethodName) (head1 (Jvm.Cond.code (⟨"com/example/vernal_stem/vernalstem/index/IndexFormatEncodeVarintPinLaw", "nz", "(JI)I"⟩ : MethodName) method_3_code 3 (some .int) :: ws) ({ frames := 0, cells := 0, slots := 0, locals := 0 } : Room)) (fun a_ U_ => a_ = #[(.long (Int64.ofNat N)), (.int (Int32.ofNat k))] ∧ Z.Warmed39 U_.vm ∧ U_.heap = h0) (fun _ _ _ _ _ => True) (fun _ U_ o_ W_ => ∃ v_ L_, o_ = .returned v_ ∧ (Q1 N k h0 n0) v_ W_.heap L_ ∧ FrameEnd U_ o_ W_ L_ ({ frames := 0, cells := 0, slots := 0, locals := 0 } : Room).cells ({ frames := 0, cells := 0, slots := 0, locals := 0 } : Room).slots) := by
  refine MetFree.of_bodySF (plainFor_of_name pn_com_example_vernal_stem_vernalstem_index_IndexFormatEncodeVarintPinLaw) hisR ?_
  intro p e s m args below meth c s₁ Bd hml0 hP hK
  obtain ⟨rfl, hZ, hh⟩ := hP
  have hx := Bd.exec
  have hby := Bd.bytes
  have hml : c.maxLocals = 3 := hml0
  have hown : s.vm.findClass "com/example/vernal_stem/vernalstem/index/IndexFormatEncodeVarintPinLaw" = some m.cls := findClass_of_methodNamed Bd.named
  have hnm := (name_of_methodNamed Bd.named Bd.method).1
  have hlk : meth.locks = false := BodyLoose.notSynchronized Bd
  have X0 : Stand p l e ({ frames := 0, cells := 0, slots := 0, locals := 0 } : Room) s m #[(.long (Int64.ofNat N)), (.int (Int32.ofNat k))] below meth c s₁ [] 0 0 := Stand.of_body Bd
  have e0 : s₁.heap = h0 := by rw [← hh, Bd.state]; rfl
  have N0 := Fr.nil n0
  refine Go.enter (ef_1 m (Int64.ofNat N) (Int32.ofNat k)) ?_
  show Go p e s below ({ frames := 0, cells := 0, slots := 0, locals := 0 } : Room).cells ({ frames := 0, cells := 0, slots := 0, locals := 0 } : Room).slots (Q1 N k h0 n0) s₁ (mkF m 0 #[.val (.long (Int64.ofNat N)), .second, .val (.int (Int32.ofNat k))] [])
  refine Go.st (fun _ k_ => XS.lloadN X0.here hx rfl (hb hby d1_0) rfl k_) ?_
  show Go p e s below ({ frames := 0, cells := 0, slots := 0, locals := 0 } : Room).cells ({ frames := 0, cells := 0, slots := 0, locals := 0 } : Room).slots (Q1 N k h0 n0) s₁ (mkF m 1 #[.val (.long (Int64.ofNat N)), .second, .val (.int (Int32.ofNat k))] [(.long (Int64.ofNat N))])
  refine Go.st (fun _ k_ => XS.iloadN X0.here hx rfl (hb hby d1_1) rfl k_) ?_
  show Go p e s below ({ frames := 0, cells := 0, slots := 0, locals := 0 } : Room).cells ({ frames := 0, cells := 0, slots := 0, locals := 0 } : Room).slots (Q1 N k h0 n0) s₁ (mkF m 2 #[.val (.long (Int64.ofNat N)), .second, .val (.int (Int32.ofNat k))] [(.int (Int32.ofNat k)), (.long (Int64.ofNat N))])
  refine Go.st (fun _ k_ => XS.lushr X0.here hx rfl (hb hby d1_2) rfl k_) ?_
  show Go p e s below ({ frames := 0, cells := 0, slots := 0, locals := 0 } : Room).cells ({ frames := 0, cells := 0, slots := 0, locals := 0 } : Room).slots (Q1 N k h0 n0) s₁ (mkF m 3 #[.val (.long (Int64.ofNat N)), .second, .val (.int (Int32.ofNat k))] [(.long (((Int64.ofNat N).toUInt64 >>> ((Int32.ofNat k) &&& 0x3f).toInt64.toUInt64).toInt64))])
  rw [ol_shr hN hk hk64]
  show Go p e s below ({ frames := 0, cells := 0, slots := 0, locals := 0 } : Room).cells ({ frames := 0, cells := 0, slots := 0, locals := 0 } : Room).slots (Q1 N k h0 n0) s₁ (mkF m 3 #[.val (.long (Int64.ofNat N)), .second, .val (.int (Int32.ofNat k))] [(.long (Int64.ofNat (N / 2 ^ k)))])
  refine Go.st (fun _ k_ => XS.lconst X0.here hx rfl (hb hby d1_3) k_) ?_
  show Go p e s below ({ frames := 0, cells := 0, slots := 0, locals := 0 } : Room).cells ({ frames := 0, cells := 0, slots := 0, locals := 0 } : Room).slots (Q1 N k h0 n0) s₁ (mkF m 4 #[.val (.long (Int64.ofNat N)), .second, .val (.int (Int32.ofNat k))] [(.long (0 : Int64)), (.long (Int64.ofNat (N / 2 ^ k)))])
  refine Go.st (fun _ k_ => XS.lcmp X0.here hx rfl (hb hby d1_4) rfl k_) ?_
  have hl : N / 2 ^ k < 9223372036854775808 := Nat.lt_of_le_of_lt (Nat.div_le_self _ _) hN
  by_cases hz : (Int64.ofNat (N / 2 ^ k)) = (0 : Int64)
  · skip
    show Go p e s below ({ frames := 0, cells := 0, slots := 0, locals := 0 } : Room).cells ({ frames := 0, cells := 0, slots := 0, locals := 0 } : Room).slots (Q1 N k h0 n0) s₁ (mkF m 5 #[.val (.long (Int64.ofNat N)), .second, .val (.int (Int32.ofNat k))] [(.int (lcmpW (Int64.ofNat (N / 2 ^ k)) (0 : Int64)))])
    refine Go.st (fun _ k_ => XS.ifYes X0.here hx rfl (pc0 := 5) (pc' := 12) rfl (hb hby d1_5) rfl (cl_eq hz).1 (by decide) (by decide) k_) ?_
    show Go p e s below ({ frames := 0, cells := 0, slots := 0, locals := 0 } : Room).cells ({ frames := 0, cells := 0, slots := 0, locals := 0 } : Room).slots (Q1 N k h0 n0) s₁ (mkF m 12 #[.val (.long (Int64.ofNat N)), .second, .val (.int (Int32.ofNat k))] [])
    refine Go.st (fun _ k_ => XS.iconst X0.here hx rfl (hb hby d1_12) k_) ?_
    have h0z : N / 2 ^ k = 0 := own_zz hl hz
    show Go p e s below ({ frames := 0, cells := 0, slots := 0, locals := 0 } : Room).cells ({ frames := 0, cells := 0, slots := 0, locals := 0 } : Room).slots (Q1 N k h0 n0) s₁ (mkF m 13 #[.val (.long (Int64.ofNat N)), .second, .val (.int (Int32.ofNat k))] [(.int (0 : Int32))])
    exact Go.retI X0 hx hlk Bd.returns (hb hby d1_13) (by decide) (by decide) ⟨by simp only [own_nz, h0z, if_true]; rfl, N0, e0⟩
  · skip
    show Go p e s below ({ frames := 0, cells := 0, slots := 0, locals := 0 } : Room).cells ({ frames := 0, cells := 0, slots := 0, locals := 0 } : Room).slots (Q1 N k h0 n0) s₁ (mkF m 5 #[.val (.long (Int64.ofNat N)), .second, .val (.int (Int32.ofNat k))] [(.int (lcmpW (Int64.ofNat (N / 2 ^ k)) (0 : Int64)))])
    refine Go.st (fun _ k_ => XS.ifNo X0.here hx rfl (hb hby d1_5) rfl (cl_eqF hz).1 k_) ?_
    show Go p e s below ({ frames := 0, cells := 0, slots := 0, locals := 0 } : Room).cells ({ frames := 0, cells := 0, slots := 0, locals := 0 } : Room).slots (Q1 N k h0 n0) s₁ (mkF m 8 #[.val (.long (Int64.ofNat N)), .second, .val (.int (Int32.ofNat k))] [])
    refine Go.st (fun _ k_ => XS.iconst X0.here hx rfl (hb hby d1_8) k_) ?_
    show Go p e s below ({ frames := 0, cells := 0, slots := 0, locals := 0 } : Room).cells ({ frames := 0, cells := 0, slots := 0, locals := 0 } : Room).slots (Q1 N k h0 n0) s₁ (mkF m 9 #[.val (.long (Int64.ofNat N)), .second, .val (.int (Int32.ofNat k))] [(.int (1 : Int32))])
    refine Go.st (fun _ k_ => XS.goto X0.here hx rfl (pc0 := 9) (pc' := 13) rfl (hb hby d1_9) (by decide) (by decide) k_) ?_
    have h0z : ¬ N / 2 ^ k = 0 := fun q => hz (by rw [q]; rfl)
    show Go p e s below ({ frames := 0, cells := 0, slots := 0, locals := 0 } : Room).cells ({ frames := 0, cells := 0, slots := 0, locals := 0 } : Room).slots (Q1 N k h0 n0) s₁ (mkF m 13 #[.val (.long (Int64.ofNat N)), .second, .val (.int (Int32.ofNat k))] [(.int (1 : Int32))])
    exact Go.retI X0 hx hlk Bd.returns (hb hby d1_13) (by decide) (by decide) ⟨by simp only [own_nz, h0z, if_false]; rfl, N0, e0⟩
def Q2 (Z : State) (N A : Nat) (fb : Int32) (a : Addr) (h0 : Heap) (n0 : Nat) (v : Option Value) (h : Heap) (L : List Loc) : Prop := v = some (.int (Int32.ofNat (A + own_len N))) ∧ Fr n0 L ∧ n0 ≤ h.size ∧ AV Z h a .byte 12 (own_e N A (own_len N) fb)
set_option maxRecDepth 65536 in
set_option maxHeartbeats 40000000 in
theorem rm2 (l : Launch) (Z : State) (a0 : Array Value) (hw : ∀ d ∈ tables_1, d.before a0 Z = true) (ws : List Jvm.Cond) (N A : Nat) (fb : Int32) (a : Addr) (h0 : Heap) (n0 : Nat) (Z0 : n0 ≤ h0.size) (hN : N < 9223372036854775808) (hA : A < 4) (ga : n0 ≤ a) (V : AV Z h0 a .byte 12 (fun _ => fb)) :
    MetFree l (⟨"com/example/vernal_stem/vernalstem/index/IndexFormat", "encodeVarint", "(J[BI)I"⟩ : MethodName) (head1 (Jvm.Cond.code (⟨"com/example/vernal_stem/vernalstem/index/IndexFormat", "encodeVarint", "(J[BI)I"⟩ : MethodName) prog_45_method_2_code 7 (some .int) :: ws) ({ frames := 0, cells := 0, slots := 0, locals := 0 } : Room)) (fun a_ U_ => a_ = #[(.long (Int64.ofNat N)), (.ref a), (.int (Int32.ofNat A))] ∧ Z.Warmed39 U_.vm ∧ U_.heap = h0) (fun _ _ _ _ _ => True) (fun _ U_ o_ W_ => ∃ v_ L_, o_ = .returned v_ ∧ (Q2 Z N A fb a h0 n0) v_ W_.heap L_ ∧ FrameEnd U_ o_ W_ L_ ({ frames := 0, cells := 0, slots := 0, locals := 0 } : Room).cells ({ frames := 0, cells := 0, slots := 0, locals := 0 } : Room).slots) := by
  refine MetFree.of_bodySF (plainFor_of_name pn_com_example_vernal_stem_vernalstem_index_IndexFormat) hisR ?_
  intro p e s m args below meth c s₁ Bd hml0 hP hK
  obtain ⟨rfl, hZ, hh⟩ := hP
  have hx := Bd.exec
  have hby := Bd.bytes
  have hml : c.maxLocals = 7 := hml0
  have hown : s.vm.findClass "com/example/vernal_stem/vernalstem/index/IndexFormat" = some m.cls := findClass_of_methodNamed Bd.named
  have hnm := (name_of_methodNamed Bd.named Bd.method).1
  have hlk : meth.locks = false := BodyLoose.notSynchronized Bd
  have X0 : Stand p l e ({ frames := 0, cells := 0, slots := 0, locals := 0 } : Room) s m #[(.long (Int64.ofNat N)), (.ref a), (.int (Int32.ofNat A))] below meth c s₁ [] 0 0 := Stand.of_body Bd
  have e0 : s₁.heap = h0 := by rw [← hh, Bd.state]; rfl
  have N0 := Fr.nil n0
  refine Go.enter (ef_2 m (Int64.ofNat N) a (Int32.ofNat A)) ?_
  have leave : ∀ (k : Nat), k ≤ 8 → (k = 0 ∨ 128 ^ k ≤ N) → N / 128 ^ k < 128 → ∀ (T : State) (h : Heap) (locs : List Loc) (X : Stand p l e ({ frames := 0, cells := 0, slots := 0, locals := 0 } : Room) s m #[(.long (Int64.ofNat N)), (.ref a), (.int (Int32.ofNat A))] below meth c T locs 0 0) (eT : T.heap = h) (Nf : Fr n0 locs) (VV : AV Z h a .byte 12 (own_m N A fb k)), Go p e s below ({ frames := 0, cells := 0, slots := 0, locals := 0 } : Room).cells ({ frames := 0, cells := 0, slots := 0, locals := 0 } : Room).slots (Q2 Z N A fb a h0 n0) T (mkF m 6 #[.val (.long (Int64.ofNat N)), .second, .val (.ref a), .val (.int (Int32.ofNat A)), .val (.long (Int64.ofNat (N / 128 ^ k))), .second, .val (.int (Int32.ofNat (A + k)))] []) := by
    intro k hk8 hk1 hW T h locs X eT Nf VV
    have hlen := own_lenK hN hk8 hk1 hW
    show Go p e s below ({ frames := 0, cells := 0, slots := 0, locals := 0 } : Room).cells ({ frames := 0, cells := 0, slots := 0, locals := 0 } : Room).slots (Q2 Z N A fb a h0 n0) T (mkF m 6 #[.val (.long (Int64.ofNat N)), .second, .val (.ref a), .val (.int (Int32.ofNat A)), .val (.long (Int64.ofNat (N / 128 ^ k))), .second, .val (.int (Int32.ofNat (A + k)))] [])
    refine Go.st (fun _ k_ => XS.lload X.here hx rfl (hb hby d2_6) rfl k_) ?_
    show Go p e s below ({ frames := 0, cells := 0, slots := 0, locals := 0 } : Room).cells ({ frames := 0, cells := 0, slots := 0, locals := 0 } : Room).slots (Q2 Z N A fb a h0 n0) T (mkF m 8 #[.val (.long (Int64.ofNat N)), .second, .val (.ref a), .val (.int (Int32.ofNat A)), .val (.long (Int64.ofNat (N / 128 ^ k))), .second, .val (.int (Int32.ofNat (A + k)))] [(.long (Int64.ofNat (N / 128 ^ k)))])
    refine Go.st (X.ldc2Long hx hown (mvT hZ (hw _ (List.mem_of_getElem? (i := 11) rfl))) (g := (mkF m 8 #[.val (.long (Int64.ofNat N)), .second, .val (.ref a), .val (.int (Int32.ofNat A)), .val (.long (Int64.ofNat (N / 128 ^ k))), .second, .val (.int (Int32.ofNat (A + k)))] [(.long (Int64.ofNat (N / 128 ^ k)))])) rfl (hb hby d2_8)) ?_
    show Go p e s below ({ frames := 0, cells := 0, slots := 0, locals := 0 } : Room).cells ({ frames := 0, cells := 0, slots := 0, locals := 0 } : Room).slots (Q2 Z N A fb a h0 n0) T (mkF m 11 #[.val (.long (Int64.ofNat N)), .second, .val (.ref a), .val (.int (Int32.ofNat A)), .val (.long (Int64.ofNat (N / 128 ^ k))), .second, .val (.int (Int32.ofNat (A + k)))] [(.long (-128 : Int64)), (.long (Int64.ofNat (N / 128 ^ k)))])
    refine Go.st (fun _ k_ => XS.land X.here hx rfl (hb hby d2_11) rfl k_) ?_
    show Go p e s below ({ frames := 0, cells := 0, slots := 0, locals := 0 } : Room).cells ({ frames := 0, cells := 0, slots := 0, locals := 0 } : Room).slots (Q2 Z N A fb a h0 n0) T (mkF m 12 #[.val (.long (Int64.ofNat N)), .second, .val (.ref a), .val (.int (Int32.ofNat A)), .val (.long (Int64.ofNat (N / 128 ^ k))), .second, .val (.int (Int32.ofNat (A + k)))] [(.long ((Int64.ofNat (N / 128 ^ k)) &&& (-128 : Int64)))])
    refine Go.st (fun _ k_ => XS.lconst X.here hx rfl (hb hby d2_12) k_) ?_
    show Go p e s below ({ frames := 0, cells := 0, slots := 0, locals := 0 } : Room).cells ({ frames := 0, cells := 0, slots := 0, locals := 0 } : Room).slots (Q2 Z N A fb a h0 n0) T (mkF m 13 #[.val (.long (Int64.ofNat N)), .second, .val (.ref a), .val (.int (Int32.ofNat A)), .val (.long (Int64.ofNat (N / 128 ^ k))), .second, .val (.int (Int32.ofNat (A + k)))] [(.long (0 : Int64)), (.long ((Int64.ofNat (N / 128 ^ k)) &&& (-128 : Int64)))])
    refine Go.st (fun _ k_ => XS.lcmp X.here hx rfl (hb hby d2_13) rfl k_) ?_
    show Go p e s below ({ frames := 0, cells := 0, slots := 0, locals := 0 } : Room).cells ({ frames := 0, cells := 0, slots := 0, locals := 0 } : Room).slots (Q2 Z N A fb a h0 n0) T (mkF m 14 #[.val (.long (Int64.ofNat N)), .second, .val (.ref a), .val (.int (Int32.ofNat A)), .val (.long (Int64.ofNat (N / 128 ^ k))), .second, .val (.int (Int32.ofNat (A + k)))] [(.int (lcmpW ((Int64.ofNat (N / 128 ^ k)) &&& (-128 : Int64)) (0 : Int64)))])
    refine Go.st (fun _ k_ => XS.ifYes X.here hx rfl (pc0 := 14) (pc' := 46) rfl (hb hby d2_14) rfl (cl_eq (ol_small hW)).1 (by decide) (by decide) k_) ?_
    show Go p e s below ({ frames := 0, cells := 0, slots := 0, locals := 0 } : Room).cells ({ frames := 0, cells := 0, slots := 0, locals := 0 } : Room).slots (Q2 Z N A fb a h0 n0) T (mkF m 46 #[.val (.long (Int64.ofNat N)), .second, .val (.ref a), .val (.int (Int32.ofNat A)), .val (.long (Int64.ofNat (N / 128 ^ k))), .second, .val (.int (Int32.ofNat (A + k)))] [])
    refine Go.st (fun _ k_ => XS.aloadN X.here hx rfl (hb hby d2_46) rfl rfl k_) ?_
    show Go p e s below ({ frames := 0, cells := 0, slots := 0, locals := 0 } : Room).cells ({ frames := 0, cells := 0, slots := 0, locals := 0 } : Room).slots (Q2 Z N A fb a h0 n0) T (mkF m 47 #[.val (.long (Int64.ofNat N)), .second, .val (.ref a), .val (.int (Int32.ofNat A)), .val (.long (Int64.ofNat (N / 128 ^ k))), .second, .val (.int (Int32.ofNat (A + k)))] [(.ref a)])
    refine Go.st (fun _ k_ => XS.iload X.here hx rfl (hb hby d2_47) rfl k_) ?_
    show Go p e s below ({ frames := 0, cells := 0, slots := 0, locals := 0 } : Room).cells ({ frames := 0, cells := 0, slots := 0, locals := 0 } : Room).slots (Q2 Z N A fb a h0 n0) T (mkF m 49 #[.val (.long (Int64.ofNat N)), .second, .val (.ref a), .val (.int (Int32.ofNat A)), .val (.long (Int64.ofNat (N / 128 ^ k))), .second, .val (.int (Int32.ofNat (A + k)))] [(.int (Int32.ofNat (A + k))), (.ref a)])
    refine Go.st (fun _ k_ => XS.iinc X.here hx rfl (hb hby d2_49) rfl (l' := #[.val (.long (Int64.ofNat N)), .second, .val (.ref a), .val (.int (Int32.ofNat A)), .val (.long (Int64.ofNat (N / 128 ^ k))), .second, .val (.int ((Int32.ofNat (A + k)) + (1 : Int32)))]) rfl k_) ?_
    show Go p e s below ({ frames := 0, cells := 0, slots := 0, locals := 0 } : Room).cells ({ frames := 0, cells := 0, slots := 0, locals := 0 } : Room).slots (Q2 Z N A fb a h0 n0) T (mkF m 52 #[.val (.long (Int64.ofNat N)), .second, .val (.ref a), .val (.int (Int32.ofNat A)), .val (.long (Int64.ofNat (N / 128 ^ k))), .second, .val (.int ((Int32.ofNat (A + k)) + (1 : Int32)))] [(.int (Int32.ofNat (A + k))), (.ref a)])
    refine Go.st (fun _ k_ => XS.lload X.here hx rfl (hb hby d2_52) rfl k_) ?_
    show Go p e s below ({ frames := 0, cells := 0, slots := 0, locals := 0 } : Room).cells ({ frames := 0, cells := 0, slots := 0, locals := 0 } : Room).slots (Q2 Z N A fb a h0 n0) T (mkF m 54 #[.val (.long (Int64.ofNat N)), .second, .val (.ref a), .val (.int (Int32.ofNat A)), .val (.long (Int64.ofNat (N / 128 ^ k))), .second, .val (.int ((Int32.ofNat (A + k)) + (1 : Int32)))] [(.long (Int64.ofNat (N / 128 ^ k))), (.int (Int32.ofNat (A + k))), (.ref a)])
    refine Go.st (fun _ k_ => XS.l2i X.here hx rfl (hb hby d2_54) rfl k_) ?_
    show Go p e s below ({ frames := 0, cells := 0, slots := 0, locals := 0 } : Room).cells ({ frames := 0, cells := 0, slots := 0, locals := 0 } : Room).slots (Q2 Z N A fb a h0 n0) T (mkF m 55 #[.val (.long (Int64.ofNat N)), .second, .val (.ref a), .val (.int (Int32.ofNat A)), .val (.long (Int64.ofNat (N / 128 ^ k))), .second, .val (.int ((Int32.ofNat (A + k)) + (1 : Int32)))] [(.int ((Int64.ofNat (N / 128 ^ k)).toInt32)), (.int (Int32.ofNat (A + k))), (.ref a)])
    refine Go.st (fun _ k_ => XS.i2b X.here hx rfl (hb hby d2_55) rfl k_) ?_
    show Go p e s below ({ frames := 0, cells := 0, slots := 0, locals := 0 } : Room).cells ({ frames := 0, cells := 0, slots := 0, locals := 0 } : Room).slots (Q2 Z N A fb a h0 n0) T (mkF m 56 #[.val (.long (Int64.ofNat N)), .second, .val (.ref a), .val (.int (Int32.ofNat A)), .val (.long (Int64.ofNat (N / 128 ^ k))), .second, .val (.int ((Int32.ofNat (A + k)) + (1 : Int32)))] [(.int (((Int64.ofNat (N / 128 ^ k)).toInt32).toInt8.toInt32)), (.int (Int32.ofNat (A + k))), (.ref a)])
    obtain ⟨T1, h1, X1, e1, W1, V1, st1⟩ := AV.stB X hx hZ eT VV (on_idx (by omega)) (on_nn (by omega)) (by omega) (g := (mkF m 56 #[.val (.long (Int64.ofNat N)), .second, .val (.ref a), .val (.int (Int32.ofNat A)), .val (.long (Int64.ofNat (N / 128 ^ k))), .second, .val (.int ((Int32.ofNat (A + k)) + (1 : Int32)))] [(.int (((Int64.ofNat (N / 128 ^ k)).toInt32).toInt8.toInt32)), (.int (Int32.ofNat (A + k))), (.ref a)])) rfl rfl (hb hby d2_56)
    refine Go.st st1 ?_
    have N1 := Fr.snoc X1 Nf ga
    have hv : nar .byte ((Int64.ofNat (N / 128 ^ k)).toInt32.toInt8.toInt32) = own_lo N k := by rw [own_loE hW, own_lo, Nat.mod_eq_of_lt hW]
    have VE : AV Z h1 a .byte 12 (own_e N A (own_len N) fb) := by rw [hlen]; exact V1.congr (fun j _ => own_end hv j)
    show Go p e s below ({ frames := 0, cells := 0, slots := 0, locals := 0 } : Room).cells ({ frames := 0, cells := 0, slots := 0, locals := 0 } : Room).slots (Q2 Z N A fb a h0 n0) T1 (mkF m 57 #[.val (.long (Int64.ofNat N)), .second, .val (.ref a), .val (.int (Int32.ofNat A)), .val (.long (Int64.ofNat (N / 128 ^ k))), .second, .val (.int ((Int32.ofNat (A + k)) + (1 : Int32)))] [])
    refine Go.st (fun _ k_ => XS.iload X1.here hx rfl (hb hby d2_57) rfl k_) ?_
    show Go p e s below ({ frames := 0, cells := 0, slots := 0, locals := 0 } : Room).cells ({ frames := 0, cells := 0, slots := 0, locals := 0 } : Room).slots (Q2 Z N A fb a h0 n0) T1 (mkF m 59 #[.val (.long (Int64.ofNat N)), .second, .val (.ref a), .val (.int (Int32.ofNat A)), .val (.long (Int64.ofNat (N / 128 ^ k))), .second, .val (.int ((Int32.ofNat (A + k)) + (1 : Int32)))] [(.int ((Int32.ofNat (A + k)) + (1 : Int32)))])
    rw [on_succ]
    show Go p e s below ({ frames := 0, cells := 0, slots := 0, locals := 0 } : Room).cells ({ frames := 0, cells := 0, slots := 0, locals := 0 } : Room).slots (Q2 Z N A fb a h0 n0) T1 (mkF m 59 #[.val (.long (Int64.ofNat N)), .second, .val (.ref a), .val (.int (Int32.ofNat A)), .val (.long (Int64.ofNat (N / 128 ^ k))), .second, .val (.int (Int32.ofNat (A + k + 1)))] [(.int (Int32.ofNat (A + k + 1)))])
    exact Go.retI X1 hx hlk Bd.returns (hb hby d2_59) (by decide) (by decide) ⟨by rw [hlen, Nat.add_assoc], N1, by rw [e1]; exact Nat.le_trans ga (Nat.le_of_lt VE.lt), by rw [e1]; exact VE⟩
  have loop : ∀ (d k : Nat), k + d = 8 → (k = 0 ∨ 128 ^ k ≤ N) → ∀ (T : State) (h : Heap) (locs : List Loc) (X : Stand p l e ({ frames := 0, cells := 0, slots := 0, locals := 0 } : Room) s m #[(.long (Int64.ofNat N)), (.ref a), (.int (Int32.ofNat A))] below meth c T locs 0 0) (eT : T.heap = h) (Nf : Fr n0 locs) (VV : AV Z h a .byte 12 (own_m N A fb k)), Go p e s below ({ frames := 0, cells := 0, slots := 0, locals := 0 } : Room).cells ({ frames := 0, cells := 0, slots := 0, locals := 0 } : Room).slots (Q2 Z N A fb a h0 n0) T (mkF m 6 #[.val (.long (Int64.ofNat N)), .second, .val (.ref a), .val (.int (Int32.ofNat A)), .val (.long (Int64.ofNat (N / 128 ^ k))), .second, .val (.int (Int32.ofNat (A + k)))] []) := by
    intro d
    induction d with
    | zero =>
      intro k hk hk1 T h locs X eT Nf VV
      have hk8 : k = 8 := by omega
      exact leave k (by omega) hk1 (by rw [hk8]; exact own_8 hN) T h locs X eT Nf VV
    | succ d ih =>
      intro k hk hk1 T h locs X eT Nf VV
      by_cases hW : N / 128 ^ k < 128
      · exact leave k (by omega) hk1 hW T h locs X eT Nf VV
      have hWs : N / 128 ^ k < 9223372036854775808 := Nat.lt_of_le_of_lt (Nat.div_le_self _ _) hN
      show Go p e s below ({ frames := 0, cells := 0, slots := 0, locals := 0 } : Room).cells ({ frames := 0, cells := 0, slots := 0, locals := 0 } : Room).slots (Q2 Z N A fb a h0 n0) T (mkF m 6 #[.val (.long (Int64.ofNat N)), .second, .val (.ref a), .val (.int (Int32.ofNat A)), .val (.long (Int64.ofNat (N / 128 ^ k))), .second, .val (.int (Int32.ofNat (A + k)))] [])
      refine Go.st (fun _ k_ => XS.lload X.here hx rfl (hb hby d2_6) rfl k_) ?_
      show Go p e s below ({ frames := 0, cells := 0, slots := 0, locals := 0 } : Room).cells ({ frames := 0, cells := 0, slots := 0, locals := 0 } : Room).slots (Q2 Z N A fb a h0 n0) T (mkF m 8 #[.val (.long (Int64.ofNat N)), .second, .val (.ref a), .val (.int (Int32.ofNat A)), .val (.long (Int64.ofNat (N / 128 ^ k))), .second, .val (.int (Int32.ofNat (A + k)))] [(.long (Int64.ofNat (N / 128 ^ k)))])
      refine Go.st (X.ldc2Long hx hown (mvT hZ (hw _ (List.mem_of_getElem? (i := 11) rfl))) (g := (mkF m 8 #[.val (.long (Int64.ofNat N)), .second, .val (.ref a), .val (.int (Int32.ofNat A)), .val (.long (Int64.ofNat (N / 128 ^ k))), .second, .val (.int (Int32.ofNat (A + k)))] [(.long (Int64.ofNat (N / 128 ^ k)))])) rfl (hb hby d2_8)) ?_
      show Go p e s below ({ frames := 0, cells := 0, slots := 0, locals := 0 } : Room).cells ({ frames := 0, cells := 0, slots := 0, locals := 0 } : Room).slots (Q2 Z N A fb a h0 n0) T (mkF m 11 #[.val (.long (Int64.ofNat N)), .second, .val (.ref a), .val (.int (Int32.ofNat A)), .val (.long (Int64.ofNat (N / 128 ^ k))), .second, .val (.int (Int32.ofNat (A + k)))] [(.long (-128 : Int64)), (.long (Int64.ofNat (N / 128 ^ k)))])
      refine Go.st (fun _ k_ => XS.land X.here hx rfl (hb hby d2_11) rfl k_) ?_
      show Go p e s below ({ frames := 0, cells := 0, slots := 0, locals := 0 } : Room).cells ({ frames := 0, cells := 0, slots := 0, locals := 0 } : Room).slots (Q2 Z N A fb a h0 n0) T (mkF m 12 #[.val (.long (Int64.ofNat N)), .second, .val (.ref a), .val (.int (Int32.ofNat A)), .val (.long (Int64.ofNat (N / 128 ^ k))), .second, .val (.int (Int32.ofNat (A + k)))] [(.long ((Int64.ofNat (N / 128 ^ k)) &&& (-128 : Int64)))])
      refine Go.st (fun _ k_ => XS.lconst X.here hx rfl (hb hby d2_12) k_) ?_
      show Go p e s below ({ frames := 0, cells := 0, slots := 0, locals := 0 } : Room).cells ({ frames := 0, cells := 0, slots := 0, locals := 0 } : Room).slots (Q2 Z N A fb a h0 n0) T (mkF m 13 #[.val (.long (Int64.ofNat N)), .second, .val (.ref a), .val (.int (Int32.ofNat A)), .val (.long (Int64.ofNat (N / 128 ^ k))), .second, .val (.int (Int32.ofNat (A + k)))] [(.long (0 : Int64)), (.long ((Int64.ofNat (N / 128 ^ k)) &&& (-128 : Int64)))])
      refine Go.st (fun _ k_ => XS.lcmp X.here hx rfl (hb hby d2_13) rfl k_) ?_
      show Go p e s below ({ frames := 0, cells := 0, slots := 0, locals := 0 } : Room).cells ({ frames := 0, cells := 0, slots := 0, locals := 0 } : Room).slots (Q2 Z N A fb a h0 n0) T (mkF m 14 #[.val (.long (Int64.ofNat N)), .second, .val (.ref a), .val (.int (Int32.ofNat A)), .val (.long (Int64.ofNat (N / 128 ^ k))), .second, .val (.int (Int32.ofNat (A + k)))] [(.int (lcmpW ((Int64.ofNat (N / 128 ^ k)) &&& (-128 : Int64)) (0 : Int64)))])
      refine Go.st (fun _ k_ => XS.ifNo X.here hx rfl (hb hby d2_14) rfl (cl_eqF (ol_big hWs hW)).1 k_) ?_
      show Go p e s below ({ frames := 0, cells := 0, slots := 0, locals := 0 } : Room).cells ({ frames := 0, cells := 0, slots := 0, locals := 0 } : Room).slots (Q2 Z N A fb a h0 n0) T (mkF m 17 #[.val (.long (Int64.ofNat N)), .second, .val (.ref a), .val (.int (Int32.ofNat A)), .val (.long (Int64.ofNat (N / 128 ^ k))), .second, .val (.int (Int32.ofNat (A + k)))] [])
      refine Go.st (fun _ k_ => XS.aloadN X.here hx rfl (hb hby d2_17) rfl rfl k_) ?_
      show Go p e s below ({ frames := 0, cells := 0, slots := 0, locals := 0 } : Room).cells ({ frames := 0, cells := 0, slots := 0, locals := 0 } : Room).slots (Q2 Z N A fb a h0 n0) T (mkF m 18 #[.val (.long (Int64.ofNat N)), .second, .val (.ref a), .val (.int (Int32.ofNat A)), .val (.long (Int64.ofNat (N / 128 ^ k))), .second, .val (.int (Int32.ofNat (A + k)))] [(.ref a)])
      refine Go.st (fun _ k_ => XS.iload X.here hx rfl (hb hby d2_18) rfl k_) ?_
      show Go p e s below ({ frames := 0, cells := 0, slots := 0, locals := 0 } : Room).cells ({ frames := 0, cells := 0, slots := 0, locals := 0 } : Room).slots (Q2 Z N A fb a h0 n0) T (mkF m 20 #[.val (.long (Int64.ofNat N)), .second, .val (.ref a), .val (.int (Int32.ofNat A)), .val (.long (Int64.ofNat (N / 128 ^ k))), .second, .val (.int (Int32.ofNat (A + k)))] [(.int (Int32.ofNat (A + k))), (.ref a)])
      refine Go.st (fun _ k_ => XS.iinc X.here hx rfl (hb hby d2_20) rfl (l' := #[.val (.long (Int64.ofNat N)), .second, .val (.ref a), .val (.int (Int32.ofNat A)), .val (.long (Int64.ofNat (N / 128 ^ k))), .second, .val (.int ((Int32.ofNat (A + k)) + (1 : Int32)))]) rfl k_) ?_
      show Go p e s below ({ frames := 0, cells := 0, slots := 0, locals := 0 } : Room).cells ({ frames := 0, cells := 0, slots := 0, locals := 0 } : Room).slots (Q2 Z N A fb a h0 n0) T (mkF m 23 #[.val (.long (Int64.ofNat N)), .second, .val (.ref a), .val (.int (Int32.ofNat A)), .val (.long (Int64.ofNat (N / 128 ^ k))), .second, .val (.int ((Int32.ofNat (A + k)) + (1 : Int32)))] [(.int (Int32.ofNat (A + k))), (.ref a)])
      refine Go.st (fun _ k_ => XS.lload X.here hx rfl (hb hby d2_23) rfl k_) ?_
      show Go p e s below ({ frames := 0, cells := 0, slots := 0, locals := 0 } : Room).cells ({ frames := 0, cells := 0, slots := 0, locals := 0 } : Room).slots (Q2 Z N A fb a h0 n0) T (mkF m 25 #[.val (.long (Int64.ofNat N)), .second, .val (.ref a), .val (.int (Int32.ofNat A)), .val (.long (Int64.ofNat (N / 128 ^ k))), .second, .val (.int ((Int32.ofNat (A + k)) + (1 : Int32)))] [(.long (Int64.ofNat (N / 128 ^ k))), (.int (Int32.ofNat (A + k))), (.ref a)])
      refine Go.st (X.ldc2Long hx hown (mvT hZ (hw _ (List.mem_of_getElem? (i := 16) rfl))) (g := (mkF m 25 #[.val (.long (Int64.ofNat N)), .second, .val (.ref a), .val (.int (Int32.ofNat A)), .val (.long (Int64.ofNat (N / 128 ^ k))), .second, .val (.int ((Int32.ofNat (A + k)) + (1 : Int32)))] [(.long (Int64.ofNat (N / 128 ^ k))), (.int (Int32.ofNat (A + k))), (.ref a)])) rfl (hb hby d2_25)) ?_
      show Go p e s below ({ frames := 0, cells := 0, slots := 0, locals := 0 } : Room).cells ({ frames := 0, cells := 0, slots := 0, locals := 0 } : Room).slots (Q2 Z N A fb a h0 n0) T (mkF m 28 #[.val (.long (Int64.ofNat N)), .second, .val (.ref a), .val (.int (Int32.ofNat A)), .val (.long (Int64.ofNat (N / 128 ^ k))), .second, .val (.int ((Int32.ofNat (A + k)) + (1 : Int32)))] [(.long (127 : Int64)), (.long (Int64.ofNat (N / 128 ^ k))), (.int (Int32.ofNat (A + k))), (.ref a)])
      refine Go.st (fun _ k_ => XS.land X.here hx rfl (hb hby d2_28) rfl k_) ?_
      show Go p e s below ({ frames := 0, cells := 0, slots := 0, locals := 0 } : Room).cells ({ frames := 0, cells := 0, slots := 0, locals := 0 } : Room).slots (Q2 Z N A fb a h0 n0) T (mkF m 29 #[.val (.long (Int64.ofNat N)), .second, .val (.ref a), .val (.int (Int32.ofNat A)), .val (.long (Int64.ofNat (N / 128 ^ k))), .second, .val (.int ((Int32.ofNat (A + k)) + (1 : Int32)))] [(.long ((Int64.ofNat (N / 128 ^ k)) &&& (127 : Int64))), (.int (Int32.ofNat (A + k))), (.ref a)])
      refine Go.st (X.ldc2Long hx hown (mvT hZ (hw _ (List.mem_of_getElem? (i := 17) rfl))) (g := (mkF m 29 #[.val (.long (Int64.ofNat N)), .second, .val (.ref a), .val (.int (Int32.ofNat A)), .val (.long (Int64.ofNat (N / 128 ^ k))), .second, .val (.int ((Int32.ofNat (A + k)) + (1 : Int32)))] [(.long ((Int64.ofNat (N / 128 ^ k)) &&& (127 : Int64))), (.int (Int32.ofNat (A + k))), (.ref a)])) rfl (hb hby d2_29)) ?_
      show Go p e s below ({ frames := 0, cells := 0, slots := 0, locals := 0 } : Room).cells ({ frames := 0, cells := 0, slots := 0, locals := 0 } : Room).slots (Q2 Z N A fb a h0 n0) T (mkF m 32 #[.val (.long (Int64.ofNat N)), .second, .val (.ref a), .val (.int (Int32.ofNat A)), .val (.long (Int64.ofNat (N / 128 ^ k))), .second, .val (.int ((Int32.ofNat (A + k)) + (1 : Int32)))] [(.long (128 : Int64)), (.long ((Int64.ofNat (N / 128 ^ k)) &&& (127 : Int64))), (.int (Int32.ofNat (A + k))), (.ref a)])
      refine Go.st (fun _ k_ => XS.lor X.here hx rfl (hb hby d2_32) rfl k_) ?_
      show Go p e s below ({ frames := 0, cells := 0, slots := 0, locals := 0 } : Room).cells ({ frames := 0, cells := 0, slots := 0, locals := 0 } : Room).slots (Q2 Z N A fb a h0 n0) T (mkF m 33 #[.val (.long (Int64.ofNat N)), .second, .val (.ref a), .val (.int (Int32.ofNat A)), .val (.long (Int64.ofNat (N / 128 ^ k))), .second, .val (.int ((Int32.ofNat (A + k)) + (1 : Int32)))] [(.long (((Int64.ofNat (N / 128 ^ k)) &&& (127 : Int64)) ||| (128 : Int64))), (.int (Int32.ofNat (A + k))), (.ref a)])
      refine Go.st (fun _ k_ => XS.l2i X.here hx rfl (hb hby d2_33) rfl k_) ?_
      show Go p e s below ({ frames := 0, cells := 0, slots := 0, locals := 0 } : Room).cells ({ frames := 0, cells := 0, slots := 0, locals := 0 } : Room).slots (Q2 Z N A fb a h0 n0) T (mkF m 34 #[.val (.long (Int64.ofNat N)), .second, .val (.ref a), .val (.int (Int32.ofNat A)), .val (.long (Int64.ofNat (N / 128 ^ k))), .second, .val (.int ((Int32.ofNat (A + k)) + (1 : Int32)))] [(.int ((((Int64.ofNat (N / 128 ^ k)) &&& (127 : Int64)) ||| (128 : Int64)).toInt32)), (.int (Int32.ofNat (A + k))), (.ref a)])
      refine Go.st (fun _ k_ => XS.i2b X.here hx rfl (hb hby d2_34) rfl k_) ?_
      show Go p e s below ({ frames := 0, cells := 0, slots := 0, locals := 0 } : Room).cells ({ frames := 0, cells := 0, slots := 0, locals := 0 } : Room).slots (Q2 Z N A fb a h0 n0) T (mkF m 35 #[.val (.long (Int64.ofNat N)), .second, .val (.ref a), .val (.int (Int32.ofNat A)), .val (.long (Int64.ofNat (N / 128 ^ k))), .second, .val (.int ((Int32.ofNat (A + k)) + (1 : Int32)))] [(.int (((((Int64.ofNat (N / 128 ^ k)) &&& (127 : Int64)) ||| (128 : Int64)).toInt32).toInt8.toInt32)), (.int (Int32.ofNat (A + k))), (.ref a)])
      obtain ⟨T2, h2, X2, e2, W2, V2, st2⟩ := AV.stB X hx hZ eT VV (on_idx (by omega)) (on_nn (by omega)) (by omega) (g := (mkF m 35 #[.val (.long (Int64.ofNat N)), .second, .val (.ref a), .val (.int (Int32.ofNat A)), .val (.long (Int64.ofNat (N / 128 ^ k))), .second, .val (.int ((Int32.ofNat (A + k)) + (1 : Int32)))] [(.int (((((Int64.ofNat (N / 128 ^ k)) &&& (127 : Int64)) ||| (128 : Int64)).toInt32).toInt8.toInt32)), (.int (Int32.ofNat (A + k))), (.ref a)])) rfl rfl (hb hby d2_35)
      refine Go.st st2 ?_
      have N2 := Fr.snoc X2 Nf ga
      have hv : nar .byte ((((Int64.ofNat (N / 128 ^ k)) &&& (127 : Int64)) ||| (128 : Int64)).toInt32.toInt8.toInt32) = own_hi N k := by rw [ol_and127 hWs, own_hiE (by omega), own_hi]
      have VE : AV Z h2 a .byte 12 (own_m N A fb (k + 1)) := V2.congr (fun j _ => own_step hv j)
      show Go p e s below ({ frames := 0, cells := 0, slots := 0, locals := 0 } : Room).cells ({ frames := 0, cells := 0, slots := 0, locals := 0 } : Room).slots (Q2 Z N A fb a h0 n0) T2 (mkF m 36 #[.val (.long (Int64.ofNat N)), .second, .val (.ref a), .val (.int (Int32.ofNat A)), .val (.long (Int64.ofNat (N / 128 ^ k))), .second, .val (.int ((Int32.ofNat (A + k)) + (1 : Int32)))] [])
      refine Go.st (fun _ k_ => XS.lload X2.here hx rfl (hb hby d2_36) rfl k_) ?_
      show Go p e s below ({ frames := 0, cells := 0, slots := 0, locals := 0 } : Room).cells ({ frames := 0, cells := 0, slots := 0, locals := 0 } : Room).slots (Q2 Z N A fb a h0 n0) T2 (mkF m 38 #[.val (.long (Int64.ofNat N)), .second, .val (.ref a), .val (.int (Int32.ofNat A)), .val (.long (Int64.ofNat (N / 128 ^ k))), .second, .val (.int ((Int32.ofNat (A + k)) + (1 : Int32)))] [(.long (Int64.ofNat (N / 128 ^ k)))])
      refine Go.st (fun _ k_ => XS.bipush X2.here hx rfl (hb hby d2_38) k_) ?_
      show Go p e s below ({ frames := 0, cells := 0, slots := 0, locals := 0 } : Room).cells ({ frames := 0, cells := 0, slots := 0, locals := 0 } : Room).slots (Q2 Z N A fb a h0 n0) T2 (mkF m 40 #[.val (.long (Int64.ofNat N)), .second, .val (.ref a), .val (.int (Int32.ofNat A)), .val (.long (Int64.ofNat (N / 128 ^ k))), .second, .val (.int ((Int32.ofNat (A + k)) + (1 : Int32)))] [(.int (7 : Int32)), (.long (Int64.ofNat (N / 128 ^ k)))])
      refine Go.st (fun _ k_ => XS.lushr X2.here hx rfl (hb hby d2_40) rfl k_) ?_
      show Go p e s below ({ frames := 0, cells := 0, slots := 0, locals := 0 } : Room).cells ({ frames := 0, cells := 0, slots := 0, locals := 0 } : Room).slots (Q2 Z N A fb a h0 n0) T2 (mkF m 41 #[.val (.long (Int64.ofNat N)), .second, .val (.ref a), .val (.int (Int32.ofNat A)), .val (.long (Int64.ofNat (N / 128 ^ k))), .second, .val (.int ((Int32.ofNat (A + k)) + (1 : Int32)))] [(.long (((Int64.ofNat (N / 128 ^ k)).toUInt64 >>> ((7 : Int32) &&& 0x3f).toInt64.toUInt64).toInt64))])
      rw [ol_shr hWs (k := 7) (by decide) (by decide)]
      show Go p e s below ({ frames := 0, cells := 0, slots := 0, locals := 0 } : Room).cells ({ frames := 0, cells := 0, slots := 0, locals := 0 } : Room).slots (Q2 Z N A fb a h0 n0) T2 (mkF m 41 #[.val (.long (Int64.ofNat N)), .second, .val (.ref a), .val (.int (Int32.ofNat A)), .val (.long (Int64.ofNat (N / 128 ^ k))), .second, .val (.int ((Int32.ofNat (A + k)) + (1 : Int32)))] [(.long (Int64.ofNat (N / 128 ^ k / 2 ^ 7)))])
      refine Go.st (fun _ k_ => XS.lstore X2.here hx rfl (hb hby d2_41) rfl (l' := #[.val (.long (Int64.ofNat N)), .second, .val (.ref a), .val (.int (Int32.ofNat A)), .val (.long (Int64.ofNat (N / 128 ^ k / 2 ^ 7))), .second, .val (.int ((Int32.ofNat (A + k)) + (1 : Int32)))]) rfl k_) ?_
      show Go p e s below ({ frames := 0, cells := 0, slots := 0, locals := 0 } : Room).cells ({ frames := 0, cells := 0, slots := 0, locals := 0 } : Room).slots (Q2 Z N A fb a h0 n0) T2 (mkF m 43 #[.val (.long (Int64.ofNat N)), .second, .val (.ref a), .val (.int (Int32.ofNat A)), .val (.long (Int64.ofNat (N / 128 ^ k / 2 ^ 7))), .second, .val (.int ((Int32.ofNat (A + k)) + (1 : Int32)))] [])
      refine Go.st (fun _ k_ => XS.goto X2.here hx rfl (pc0 := 43) (pc' := 6) rfl (hb hby d2_43) (by decide) (by decide) k_) ?_
      show Go p e s below ({ frames := 0, cells := 0, slots := 0, locals := 0 } : Room).cells ({ frames := 0, cells := 0, slots := 0, locals := 0 } : Room).slots (Q2 Z N A fb a h0 n0) T2 (mkF m 6 #[.val (.long (Int64.ofNat N)), .second, .val (.ref a), .val (.int (Int32.ofNat A)), .val (.long (Int64.ofNat (N / 128 ^ k / 2 ^ 7))), .second, .val (.int ((Int32.ofNat (A + k)) + (1 : Int32)))] [])
      have eD : N / 128 ^ k / 2 ^ 7 = N / 128 ^ (k + 1) := own_dd N k
      rw [eD, on_succ]
      exact ih (k + 1) (by omega) (Or.inr (own_more hW)) T2 _ _ X2 e2 N2 VE
  show Go p e s below ({ frames := 0, cells := 0, slots := 0, locals := 0 } : Room).cells ({ frames := 0, cells := 0, slots := 0, locals := 0 } : Room).slots (Q2 Z N A fb a h0 n0) s₁ (mkF m 0 #[.val (.long (Int64.ofNat N)), .second, .val (.ref a), .val (.int (Int32.ofNat A)), .unset, .unset, .unset] [])
  refine Go.st (fun _ k_ => XS.lloadN X0.here hx rfl (hb hby d2_0) rfl k_) ?_
  show Go p e s below ({ frames := 0, cells := 0, slots := 0, locals := 0 } : Room).cells ({ frames := 0, cells := 0, slots := 0, locals := 0 } : Room).slots (Q2 Z N A fb a h0 n0) s₁ (mkF m 1 #[.val (.long (Int64.ofNat N)), .second, .val (.ref a), .val (.int (Int32.ofNat A)), .unset, .unset, .unset] [(.long (Int64.ofNat N))])
  refine Go.st (fun _ k_ => XS.lstore X0.here hx rfl (hb hby d2_1) rfl (l' := #[.val (.long (Int64.ofNat N)), .second, .val (.ref a), .val (.int (Int32.ofNat A)), .val (.long (Int64.ofNat N)), .second, .unset]) rfl k_) ?_
  show Go p e s below ({ frames := 0, cells := 0, slots := 0, locals := 0 } : Room).cells ({ frames := 0, cells := 0, slots := 0, locals := 0 } : Room).slots (Q2 Z N A fb a h0 n0) s₁ (mkF m 3 #[.val (.long (Int64.ofNat N)), .second, .val (.ref a), .val (.int (Int32.ofNat A)), .val (.long (Int64.ofNat N)), .second, .unset] [])
  refine Go.st (fun _ k_ => XS.iloadN X0.here hx rfl (hb hby d2_3) rfl k_) ?_
  show Go p e s below ({ frames := 0, cells := 0, slots := 0, locals := 0 } : Room).cells ({ frames := 0, cells := 0, slots := 0, locals := 0 } : Room).slots (Q2 Z N A fb a h0 n0) s₁ (mkF m 4 #[.val (.long (Int64.ofNat N)), .second, .val (.ref a), .val (.int (Int32.ofNat A)), .val (.long (Int64.ofNat N)), .second, .unset] [(.int (Int32.ofNat A))])
  refine Go.st (fun _ k_ => XS.istore X0.here hx rfl (hb hby d2_4) rfl (l' := #[.val (.long (Int64.ofNat N)), .second, .val (.ref a), .val (.int (Int32.ofNat A)), .val (.long (Int64.ofNat N)), .second, .val (.int (Int32.ofNat A))]) rfl k_) ?_
  show Go p e s below ({ frames := 0, cells := 0, slots := 0, locals := 0 } : Room).cells ({ frames := 0, cells := 0, slots := 0, locals := 0 } : Room).slots (Q2 Z N A fb a h0 n0) s₁ (mkF m 6 #[.val (.long (Int64.ofNat N)), .second, .val (.ref a), .val (.int (Int32.ofNat A)), .val (.long (Int64.ofNat N)), .second, .val (.int (Int32.ofNat A))] [])
  have e1 : Int64.ofNat N = Int64.ofNat (N / 128 ^ 0) := by simp
  have VV0 : AV Z h0 a .byte 12 (own_m N A fb 0) := V.congr (fun j _ => by simp only [own_m]; rw [if_neg (by omega)])
  have q := loop 8 0 (by decide) (Or.inl rfl) s₁ h0 [] X0 e0 N0 VV0
  rw [← e1] at q
  exact q
def Q3 (h0 : Heap) (n0 : Nat) (v : Option Value) (h : Heap) (L : List Loc) : Prop := v = some (.int 1) ∧ Fr n0 L ∧ h = h0
set_option maxRecDepth 65536 in
set_option maxHeartbeats 40000000 in
theorem rm3 (l : Launch) (Z : State) (a0 : Array Value) (hw : ∀ d ∈ tables_1, d.before a0 Z = true) (ws : List Jvm.Cond) (a : Addr) (i A N Ln : Nat) (fb : Int32) (h0 : Heap) (n0 : Nat) (Z0 : n0 ≤ h0.size) (hi : i < 12) (hA : A < 4) (hN : N < 9223372036854775808) (hL : Ln ≤ 9) (V : AV Z h0 a .byte 12 (own_e N A Ln fb)) :
    MetFree l (⟨"com/example/vernal_stem/vernalstem/index/IndexFormatEncodeVarintPinLaw", "ok", "([BIIJIB)Z"⟩ : MethodName) (head1 (Jvm.Cond.code (⟨"com/example/vernal_stem/vernalstem/index/IndexFormatEncodeVarintPinLaw", "ok", "([BIIJIB)Z"⟩ : MethodName) method_4_code 10 (some .boolean) :: ws) ({ frames := 0, cells := 0, slots := 0, locals := 0 } : Room)) (fun a_ U_ => a_ = #[(.ref a), (.int (Int32.ofNat i)), (.int (Int32.ofNat A)), (.long (Int64.ofNat N)), (.int (Int32.ofNat Ln)), (.int fb)] ∧ Z.Warmed39 U_.vm ∧ U_.heap = h0) (fun _ _ _ _ _ => True) (fun _ U_ o_ W_ => ∃ v_ L_, o_ = .returned v_ ∧ (Q3 h0 n0) v_ W_.heap L_ ∧ FrameEnd U_ o_ W_ L_ ({ frames := 0, cells := 0, slots := 0, locals := 0 } : Room).cells ({ frames := 0, cells := 0, slots := 0, locals := 0 } : Room).slots) := by
  refine MetFree.of_bodySF (plainFor_of_name pn_com_example_vernal_stem_vernalstem_index_IndexFormatEncodeVarintPinLaw) hisR ?_
  intro p e s m args below meth c s₁ Bd hml0 hP hK
  obtain ⟨rfl, hZ, hh⟩ := hP
  have hx := Bd.exec
  have hby := Bd.bytes
  have hml : c.maxLocals = 10 := hml0
  have hown : s.vm.findClass "com/example/vernal_stem/vernalstem/index/IndexFormatEncodeVarintPinLaw" = some m.cls := findClass_of_methodNamed Bd.named
  have hnm := (name_of_methodNamed Bd.named Bd.method).1
  have hlk : meth.locks = false := BodyLoose.notSynchronized Bd
  have X0 : Stand p l e ({ frames := 0, cells := 0, slots := 0, locals := 0 } : Room) s m #[(.ref a), (.int (Int32.ofNat i)), (.int (Int32.ofNat A)), (.long (Int64.ofNat N)), (.int (Int32.ofNat Ln)), (.int fb)] below meth c s₁ [] 0 0 := Stand.of_body Bd
  have e0 : s₁.heap = h0 := by rw [← hh, Bd.state]; rfl
  have N0 := Fr.nil n0
  refine Go.enter (ef_3 m a (Int32.ofNat i) (Int32.ofNat A) (Int64.ofNat N) (Int32.ofNat Ln) fb) ?_
  have join : ∀ (kk ee : Int32) (sl : Slot), own_e N A Ln fb i = ee → Go p e s below ({ frames := 0, cells := 0, slots := 0, locals := 0 } : Room).cells ({ frames := 0, cells := 0, slots := 0, locals := 0 } : Room).slots (Q3 h0 n0) s₁ (mkF m 61 #[.val (.ref a), .val (.int (Int32.ofNat i)), .val (.int (Int32.ofNat A)), .val (.long (Int64.ofNat N)), .second, .val (.int (Int32.ofNat Ln)), .val (.int fb), .val (.int kk), .val (.int ee), sl] []) := by
    intro kk ee sl he
    show Go p e s below ({ frames := 0, cells := 0, slots := 0, locals := 0 } : Room).cells ({ frames := 0, cells := 0, slots := 0, locals := 0 } : Room).slots (Q3 h0 n0) s₁ (mkF m 61 #[.val (.ref a), .val (.int (Int32.ofNat i)), .val (.int (Int32.ofNat A)), .val (.long (Int64.ofNat N)), .second, .val (.int (Int32.ofNat Ln)), .val (.int fb), .val (.int kk), .val (.int ee), sl] [])
    refine Go.st (fun _ k_ => XS.aloadN X0.here hx rfl (hb hby d3_61) rfl rfl k_) ?_
    show Go p e s below ({ frames := 0, cells := 0, slots := 0, locals := 0 } : Room).cells ({ frames := 0, cells := 0, slots := 0, locals := 0 } : Room).slots (Q3 h0 n0) s₁ (mkF m 62 #[.val (.ref a), .val (.int (Int32.ofNat i)), .val (.int (Int32.ofNat A)), .val (.long (Int64.ofNat N)), .second, .val (.int (Int32.ofNat Ln)), .val (.int fb), .val (.int kk), .val (.int ee), sl] [(.ref a)])
    refine Go.st (fun _ k_ => XS.iloadN X0.here hx rfl (hb hby d3_62) rfl k_) ?_
    show Go p e s below ({ frames := 0, cells := 0, slots := 0, locals := 0 } : Room).cells ({ frames := 0, cells := 0, slots := 0, locals := 0 } : Room).slots (Q3 h0 n0) s₁ (mkF m 63 #[.val (.ref a), .val (.int (Int32.ofNat i)), .val (.int (Int32.ofNat A)), .val (.long (Int64.ofNat N)), .second, .val (.int (Int32.ofNat Ln)), .val (.int fb), .val (.int kk), .val (.int ee), sl] [(.int (Int32.ofNat i)), (.ref a)])
    refine Go.st (AV.ldB X0 hx hZ e0 V (on_idx (by omega)) (on_nn (by omega)) hi (g := (mkF m 63 #[.val (.ref a), .val (.int (Int32.ofNat i)), .val (.int (Int32.ofNat A)), .val (.long (Int64.ofNat N)), .second, .val (.int (Int32.ofNat Ln)), .val (.int fb), .val (.int kk), .val (.int ee), sl] [(.int (Int32.ofNat i)), (.ref a)])) rfl rfl (hb hby d3_63)) ?_
    show Go p e s below ({ frames := 0, cells := 0, slots := 0, locals := 0 } : Room).cells ({ frames := 0, cells := 0, slots := 0, locals := 0 } : Room).slots (Q3 h0 n0) s₁ (mkF m 64 #[.val (.ref a), .val (.int (Int32.ofNat i)), .val (.int (Int32.ofNat A)), .val (.long (Int64.ofNat N)), .second, .val (.int (Int32.ofNat Ln)), .val (.int fb), .val (.int kk), .val (.int ee), sl] [(.int (own_e N A Ln fb i))])
    refine Go.st (fun _ k_ => XS.iload X0.here hx rfl (hb hby d3_64) rfl k_) ?_
    show Go p e s below ({ frames := 0, cells := 0, slots := 0, locals := 0 } : Room).cells ({ frames := 0, cells := 0, slots := 0, locals := 0 } : Room).slots (Q3 h0 n0) s₁ (mkF m 66 #[.val (.ref a), .val (.int (Int32.ofNat i)), .val (.int (Int32.ofNat A)), .val (.long (Int64.ofNat N)), .second, .val (.int (Int32.ofNat Ln)), .val (.int fb), .val (.int kk), .val (.int ee), sl] [(.int ee), (.int (own_e N A Ln fb i))])
    refine Go.st (fun _ k_ => XS.icmpNo X0.here hx rfl (hb hby d3_66) rfl (teq he).2 k_) ?_
    show Go p e s below ({ frames := 0, cells := 0, slots := 0, locals := 0 } : Room).cells ({ frames := 0, cells := 0, slots := 0, locals := 0 } : Room).slots (Q3 h0 n0) s₁ (mkF m 69 #[.val (.ref a), .val (.int (Int32.ofNat i)), .val (.int (Int32.ofNat A)), .val (.long (Int64.ofNat N)), .second, .val (.int (Int32.ofNat Ln)), .val (.int fb), .val (.int kk), .val (.int ee), sl] [])
    refine Go.st (fun _ k_ => XS.iconst X0.here hx rfl (hb hby d3_69) k_) ?_
    show Go p e s below ({ frames := 0, cells := 0, slots := 0, locals := 0 } : Room).cells ({ frames := 0, cells := 0, slots := 0, locals := 0 } : Room).slots (Q3 h0 n0) s₁ (mkF m 70 #[.val (.ref a), .val (.int (Int32.ofNat i)), .val (.int (Int32.ofNat A)), .val (.long (Int64.ofNat N)), .second, .val (.int (Int32.ofNat Ln)), .val (.int fb), .val (.int kk), .val (.int ee), sl] [(.int (1 : Int32))])
    refine Go.st (fun _ k_ => XS.goto X0.here hx rfl (pc0 := 70) (pc' := 74) rfl (hb hby d3_70) (by decide) (by decide) k_) ?_
    show Go p e s below ({ frames := 0, cells := 0, slots := 0, locals := 0 } : Room).cells ({ frames := 0, cells := 0, slots := 0, locals := 0 } : Room).slots (Q3 h0 n0) s₁ (mkF m 74 #[.val (.ref a), .val (.int (Int32.ofNat i)), .val (.int (Int32.ofNat A)), .val (.long (Int64.ofNat N)), .second, .val (.int (Int32.ofNat Ln)), .val (.int fb), .val (.int kk), .val (.int ee), sl] [(.int (1 : Int32))])
    exact Go.retN X0 hx hlk (t := .boolean) Bd.returns (by simp) (hb hby d3_74) (by decide) (by decide) ⟨rfl, N0, e0⟩
  show Go p e s below ({ frames := 0, cells := 0, slots := 0, locals := 0 } : Room).cells ({ frames := 0, cells := 0, slots := 0, locals := 0 } : Room).slots (Q3 h0 n0) s₁ (mkF m 0 #[.val (.ref a), .val (.int (Int32.ofNat i)), .val (.int (Int32.ofNat A)), .val (.long (Int64.ofNat N)), .second, .val (.int (Int32.ofNat Ln)), .val (.int fb), .unset, .unset, .unset] [])
  refine Go.st (fun _ k_ => XS.iloadN X0.here hx rfl (hb hby d3_0) rfl k_) ?_
  show Go p e s below ({ frames := 0, cells := 0, slots := 0, locals := 0 } : Room).cells ({ frames := 0, cells := 0, slots := 0, locals := 0 } : Room).slots (Q3 h0 n0) s₁ (mkF m 1 #[.val (.ref a), .val (.int (Int32.ofNat i)), .val (.int (Int32.ofNat A)), .val (.long (Int64.ofNat N)), .second, .val (.int (Int32.ofNat Ln)), .val (.int fb), .unset, .unset, .unset] [(.int (Int32.ofNat i))])
  refine Go.st (fun _ k_ => XS.iloadN X0.here hx rfl (hb hby d3_1) rfl k_) ?_
  show Go p e s below ({ frames := 0, cells := 0, slots := 0, locals := 0 } : Room).cells ({ frames := 0, cells := 0, slots := 0, locals := 0 } : Room).slots (Q3 h0 n0) s₁ (mkF m 2 #[.val (.ref a), .val (.int (Int32.ofNat i)), .val (.int (Int32.ofNat A)), .val (.long (Int64.ofNat N)), .second, .val (.int (Int32.ofNat Ln)), .val (.int fb), .unset, .unset, .unset] [(.int (Int32.ofNat A)), (.int (Int32.ofNat i))])
  refine Go.st (fun _ k_ => XS.isub X0.here hx rfl (hb hby d3_2) rfl k_) ?_
  by_cases hiA : i < A
  · skip
    have hneg : (Int32.ofNat i - Int32.ofNat A) < (0 : Int32) := by
      rw [Int32.lt_iff_toInt_lt, Jvm.Kit.i32_sub (by rw [on_toInt (by omega), on_toInt (by omega)]; omega) (by rw [on_toInt (by omega), on_toInt (by omega)]; omega), on_toInt (by omega), on_toInt (by omega)]
      have : (0 : Int32).toInt = 0 := by decide
      omega
    show Go p e s below ({ frames := 0, cells := 0, slots := 0, locals := 0 } : Room).cells ({ frames := 0, cells := 0, slots := 0, locals := 0 } : Room).slots (Q3 h0 n0) s₁ (mkF m 3 #[.val (.ref a), .val (.int (Int32.ofNat i)), .val (.int (Int32.ofNat A)), .val (.long (Int64.ofNat N)), .second, .val (.int (Int32.ofNat Ln)), .val (.int fb), .unset, .unset, .unset] [(.int ((Int32.ofNat i) - (Int32.ofNat A)))])
    refine Go.st (fun _ k_ => XS.istore X0.here hx rfl (hb hby d3_3) rfl (l' := #[.val (.ref a), .val (.int (Int32.ofNat i)), .val (.int (Int32.ofNat A)), .val (.long (Int64.ofNat N)), .second, .val (.int (Int32.ofNat Ln)), .val (.int fb), .val (.int ((Int32.ofNat i) - (Int32.ofNat A))), .unset, .unset]) rfl k_) ?_
    show Go p e s below ({ frames := 0, cells := 0, slots := 0, locals := 0 } : Room).cells ({ frames := 0, cells := 0, slots := 0, locals := 0 } : Room).slots (Q3 h0 n0) s₁ (mkF m 5 #[.val (.ref a), .val (.int (Int32.ofNat i)), .val (.int (Int32.ofNat A)), .val (.long (Int64.ofNat N)), .second, .val (.int (Int32.ofNat Ln)), .val (.int fb), .val (.int ((Int32.ofNat i) - (Int32.ofNat A))), .unset, .unset] [])
    refine Go.st (fun _ k_ => XS.iload X0.here hx rfl (hb hby d3_5) rfl k_) ?_
    show Go p e s below ({ frames := 0, cells := 0, slots := 0, locals := 0 } : Room).cells ({ frames := 0, cells := 0, slots := 0, locals := 0 } : Room).slots (Q3 h0 n0) s₁ (mkF m 7 #[.val (.ref a), .val (.int (Int32.ofNat i)), .val (.int (Int32.ofNat A)), .val (.long (Int64.ofNat N)), .second, .val (.int (Int32.ofNat Ln)), .val (.int fb), .val (.int ((Int32.ofNat i) - (Int32.ofNat A))), .unset, .unset] [(.int ((Int32.ofNat i) - (Int32.ofNat A)))])
    refine Go.st (fun _ k_ => XS.ifYes X0.here hx rfl (pc0 := 7) (pc' := 17) rfl (hb hby d3_7) rfl ((if0 _ _).trans (tlt hneg).1) (by decide) (by decide) k_) ?_
    show Go p e s below ({ frames := 0, cells := 0, slots := 0, locals := 0 } : Room).cells ({ frames := 0, cells := 0, slots := 0, locals := 0 } : Room).slots (Q3 h0 n0) s₁ (mkF m 17 #[.val (.ref a), .val (.int (Int32.ofNat i)), .val (.int (Int32.ofNat A)), .val (.long (Int64.ofNat N)), .second, .val (.int (Int32.ofNat Ln)), .val (.int fb), .val (.int ((Int32.ofNat i) - (Int32.ofNat A))), .unset, .unset] [])
    refine Go.st (fun _ k_ => XS.iload X0.here hx rfl (hb hby d3_17) rfl k_) ?_
    show Go p e s below ({ frames := 0, cells := 0, slots := 0, locals := 0 } : Room).cells ({ frames := 0, cells := 0, slots := 0, locals := 0 } : Room).slots (Q3 h0 n0) s₁ (mkF m 19 #[.val (.ref a), .val (.int (Int32.ofNat i)), .val (.int (Int32.ofNat A)), .val (.long (Int64.ofNat N)), .second, .val (.int (Int32.ofNat Ln)), .val (.int fb), .val (.int ((Int32.ofNat i) - (Int32.ofNat A))), .unset, .unset] [(.int fb)])
    refine Go.st (fun _ k_ => XS.istore X0.here hx rfl (hb hby d3_19) rfl (l' := #[.val (.ref a), .val (.int (Int32.ofNat i)), .val (.int (Int32.ofNat A)), .val (.long (Int64.ofNat N)), .second, .val (.int (Int32.ofNat Ln)), .val (.int fb), .val (.int ((Int32.ofNat i) - (Int32.ofNat A))), .val (.int fb), .unset]) rfl k_) ?_
    show Go p e s below ({ frames := 0, cells := 0, slots := 0, locals := 0 } : Room).cells ({ frames := 0, cells := 0, slots := 0, locals := 0 } : Room).slots (Q3 h0 n0) s₁ (mkF m 21 #[.val (.ref a), .val (.int (Int32.ofNat i)), .val (.int (Int32.ofNat A)), .val (.long (Int64.ofNat N)), .second, .val (.int (Int32.ofNat Ln)), .val (.int fb), .val (.int ((Int32.ofNat i) - (Int32.ofNat A))), .val (.int fb), .unset] [])
    refine Go.st (fun _ k_ => XS.goto X0.here hx rfl (pc0 := 21) (pc' := 61) rfl (hb hby d3_21) (by decide) (by decide) k_) ?_
    show Go p e s below ({ frames := 0, cells := 0, slots := 0, locals := 0 } : Room).cells ({ frames := 0, cells := 0, slots := 0, locals := 0 } : Room).slots (Q3 h0 n0) s₁ (mkF m 61 #[.val (.ref a), .val (.int (Int32.ofNat i)), .val (.int (Int32.ofNat A)), .val (.long (Int64.ofNat N)), .second, .val (.int (Int32.ofNat Ln)), .val (.int fb), .val (.int ((Int32.ofNat i) - (Int32.ofNat A))), .val (.int fb), .unset] [])
    exact join _ _ _ (by simp only [own_e]; rw [if_pos (Or.inl hiA)])
  show Go p e s below ({ frames := 0, cells := 0, slots := 0, locals := 0 } : Room).cells ({ frames := 0, cells := 0, slots := 0, locals := 0 } : Room).slots (Q3 h0 n0) s₁ (mkF m 3 #[.val (.ref a), .val (.int (Int32.ofNat i)), .val (.int (Int32.ofNat A)), .val (.long (Int64.ofNat N)), .second, .val (.int (Int32.ofNat Ln)), .val (.int fb), .unset, .unset, .unset] [(.int ((Int32.ofNat i) - (Int32.ofNat A)))])
  rw [on_sub (by omega : A ≤ i)]
  show Go p e s below ({ frames := 0, cells := 0, slots := 0, locals := 0 } : Room).cells ({ frames := 0, cells := 0, slots := 0, locals := 0 } : Room).slots (Q3 h0 n0) s₁ (mkF m 3 #[.val (.ref a), .val (.int (Int32.ofNat i)), .val (.int (Int32.ofNat A)), .val (.long (Int64.ofNat N)), .second, .val (.int (Int32.ofNat Ln)), .val (.int fb), .unset, .unset, .unset] [(.int (Int32.ofNat (i - A)))])
  refine Go.st (fun _ k_ => XS.istore X0.here hx rfl (hb hby d3_3) rfl (l' := #[.val (.ref a), .val (.int (Int32.ofNat i)), .val (.int (Int32.ofNat A)), .val (.long (Int64.ofNat N)), .second, .val (.int (Int32.ofNat Ln)), .val (.int fb), .val (.int (Int32.ofNat (i - A))), .unset, .unset]) rfl k_) ?_
  show Go p e s below ({ frames := 0, cells := 0, slots := 0, locals := 0 } : Room).cells ({ frames := 0, cells := 0, slots := 0, locals := 0 } : Room).slots (Q3 h0 n0) s₁ (mkF m 5 #[.val (.ref a), .val (.int (Int32.ofNat i)), .val (.int (Int32.ofNat A)), .val (.long (Int64.ofNat N)), .second, .val (.int (Int32.ofNat Ln)), .val (.int fb), .val (.int (Int32.ofNat (i - A))), .unset, .unset] [])
  refine Go.st (fun _ k_ => XS.iload X0.here hx rfl (hb hby d3_5) rfl k_) ?_
  show Go p e s below ({ frames := 0, cells := 0, slots := 0, locals := 0 } : Room).cells ({ frames := 0, cells := 0, slots := 0, locals := 0 } : Room).slots (Q3 h0 n0) s₁ (mkF m 7 #[.val (.ref a), .val (.int (Int32.ofNat i)), .val (.int (Int32.ofNat A)), .val (.long (Int64.ofNat N)), .second, .val (.int (Int32.ofNat Ln)), .val (.int fb), .val (.int (Int32.ofNat (i - A))), .unset, .unset] [(.int (Int32.ofNat (i - A)))])
  refine Go.st (fun _ k_ => XS.ifNo X0.here hx rfl (hb hby d3_7) rfl ((if0 _ _).trans (flt (on_nn (by omega))).1) k_) ?_
  show Go p e s below ({ frames := 0, cells := 0, slots := 0, locals := 0 } : Room).cells ({ frames := 0, cells := 0, slots := 0, locals := 0 } : Room).slots (Q3 h0 n0) s₁ (mkF m 10 #[.val (.ref a), .val (.int (Int32.ofNat i)), .val (.int (Int32.ofNat A)), .val (.long (Int64.ofNat N)), .second, .val (.int (Int32.ofNat Ln)), .val (.int fb), .val (.int (Int32.ofNat (i - A))), .unset, .unset] [])
  refine Go.st (fun _ k_ => XS.iload X0.here hx rfl (hb hby d3_10) rfl k_) ?_
  show Go p e s below ({ frames := 0, cells := 0, slots := 0, locals := 0 } : Room).cells ({ frames := 0, cells := 0, slots := 0, locals := 0 } : Room).slots (Q3 h0 n0) s₁ (mkF m 12 #[.val (.ref a), .val (.int (Int32.ofNat i)), .val (.int (Int32.ofNat A)), .val (.long (Int64.ofNat N)), .second, .val (.int (Int32.ofNat Ln)), .val (.int fb), .val (.int (Int32.ofNat (i - A))), .unset, .unset] [(.int (Int32.ofNat (i - A)))])
  refine Go.st (fun _ k_ => XS.iload X0.here hx rfl (hb hby d3_12) rfl k_) ?_
  by_cases hiL : i - A < Ln
  · skip
    show Go p e s below ({ frames := 0, cells := 0, slots := 0, locals := 0 } : Room).cells ({ frames := 0, cells := 0, slots := 0, locals := 0 } : Room).slots (Q3 h0 n0) s₁ (mkF m 14 #[.val (.ref a), .val (.int (Int32.ofNat i)), .val (.int (Int32.ofNat A)), .val (.long (Int64.ofNat N)), .second, .val (.int (Int32.ofNat Ln)), .val (.int fb), .val (.int (Int32.ofNat (i - A))), .unset, .unset] [(.int (Int32.ofNat Ln)), (.int (Int32.ofNat (i - A)))])
    refine Go.st (fun _ k_ => XS.icmpYes X0.here hx rfl (pc0 := 14) (pc' := 24) rfl (hb hby d3_14) rfl (tlt ((on_lt (by omega) (by omega)).mpr hiL)).1 (by decide) (by decide) k_) ?_
    show Go p e s below ({ frames := 0, cells := 0, slots := 0, locals := 0 } : Room).cells ({ frames := 0, cells := 0, slots := 0, locals := 0 } : Room).slots (Q3 h0 n0) s₁ (mkF m 24 #[.val (.ref a), .val (.int (Int32.ofNat i)), .val (.int (Int32.ofNat A)), .val (.long (Int64.ofNat N)), .second, .val (.int (Int32.ofNat Ln)), .val (.int fb), .val (.int (Int32.ofNat (i - A))), .unset, .unset] [])
    refine Go.st (fun _ k_ => XS.lloadN X0.here hx rfl (hb hby d3_24) rfl k_) ?_
    show Go p e s below ({ frames := 0, cells := 0, slots := 0, locals := 0 } : Room).cells ({ frames := 0, cells := 0, slots := 0, locals := 0 } : Room).slots (Q3 h0 n0) s₁ (mkF m 25 #[.val (.ref a), .val (.int (Int32.ofNat i)), .val (.int (Int32.ofNat A)), .val (.long (Int64.ofNat N)), .second, .val (.int (Int32.ofNat Ln)), .val (.int fb), .val (.int (Int32.ofNat (i - A))), .unset, .unset] [(.long (Int64.ofNat N))])
    refine Go.st (fun _ k_ => XS.bipush X0.here hx rfl (hb hby d3_25) k_) ?_
    show Go p e s below ({ frames := 0, cells := 0, slots := 0, locals := 0 } : Room).cells ({ frames := 0, cells := 0, slots := 0, locals := 0 } : Room).slots (Q3 h0 n0) s₁ (mkF m 27 #[.val (.ref a), .val (.int (Int32.ofNat i)), .val (.int (Int32.ofNat A)), .val (.long (Int64.ofNat N)), .second, .val (.int (Int32.ofNat Ln)), .val (.int fb), .val (.int (Int32.ofNat (i - A))), .unset, .unset] [(.int (7 : Int32)), (.long (Int64.ofNat N))])
    refine Go.st (fun _ k_ => XS.iload X0.here hx rfl (hb hby d3_27) rfl k_) ?_
    show Go p e s below ({ frames := 0, cells := 0, slots := 0, locals := 0 } : Room).cells ({ frames := 0, cells := 0, slots := 0, locals := 0 } : Room).slots (Q3 h0 n0) s₁ (mkF m 29 #[.val (.ref a), .val (.int (Int32.ofNat i)), .val (.int (Int32.ofNat A)), .val (.long (Int64.ofNat N)), .second, .val (.int (Int32.ofNat Ln)), .val (.int fb), .val (.int (Int32.ofNat (i - A))), .unset, .unset] [(.int (Int32.ofNat (i - A))), (.int (7 : Int32)), (.long (Int64.ofNat N))])
    refine Go.st (fun _ k_ => XS.imul X0.here hx rfl (hb hby d3_29) rfl k_) ?_
    show Go p e s below ({ frames := 0, cells := 0, slots := 0, locals := 0 } : Room).cells ({ frames := 0, cells := 0, slots := 0, locals := 0 } : Room).slots (Q3 h0 n0) s₁ (mkF m 30 #[.val (.ref a), .val (.int (Int32.ofNat i)), .val (.int (Int32.ofNat A)), .val (.long (Int64.ofNat N)), .second, .val (.int (Int32.ofNat Ln)), .val (.int fb), .val (.int (Int32.ofNat (i - A))), .unset, .unset] [(.int ((7 : Int32) * (Int32.ofNat (i - A)))), (.long (Int64.ofNat N))])
    refine Go.st (fun _ k_ => XS.lushr X0.here hx rfl (hb hby d3_30) rfl k_) ?_
    show Go p e s below ({ frames := 0, cells := 0, slots := 0, locals := 0 } : Room).cells ({ frames := 0, cells := 0, slots := 0, locals := 0 } : Room).slots (Q3 h0 n0) s₁ (mkF m 31 #[.val (.ref a), .val (.int (Int32.ofNat i)), .val (.int (Int32.ofNat A)), .val (.long (Int64.ofNat N)), .second, .val (.int (Int32.ofNat Ln)), .val (.int fb), .val (.int (Int32.ofNat (i - A))), .unset, .unset] [(.long (((Int64.ofNat N).toUInt64 >>> (((7 : Int32) * (Int32.ofNat (i - A))) &&& 0x3f).toInt64.toUInt64).toInt64))])
    rw [ol_shr hN (own_sh7k (by omega)) (by omega), own_pow]
    show Go p e s below ({ frames := 0, cells := 0, slots := 0, locals := 0 } : Room).cells ({ frames := 0, cells := 0, slots := 0, locals := 0 } : Room).slots (Q3 h0 n0) s₁ (mkF m 31 #[.val (.ref a), .val (.int (Int32.ofNat i)), .val (.int (Int32.ofNat A)), .val (.long (Int64.ofNat N)), .second, .val (.int (Int32.ofNat Ln)), .val (.int fb), .val (.int (Int32.ofNat (i - A))), .unset, .unset] [(.long (Int64.ofNat (N / 128 ^ (i - A))))])
    refine Go.st (X0.ldc2Long hx hown (mvT hZ (hw _ (List.mem_of_getElem? (i := 15) rfl))) (g := (mkF m 31 #[.val (.ref a), .val (.int (Int32.ofNat i)), .val (.int (Int32.ofNat A)), .val (.long (Int64.ofNat N)), .second, .val (.int (Int32.ofNat Ln)), .val (.int fb), .val (.int (Int32.ofNat (i - A))), .unset, .unset] [(.long (Int64.ofNat (N / 128 ^ (i - A))))])) rfl (hb hby d3_31)) ?_
    show Go p e s below ({ frames := 0, cells := 0, slots := 0, locals := 0 } : Room).cells ({ frames := 0, cells := 0, slots := 0, locals := 0 } : Room).slots (Q3 h0 n0) s₁ (mkF m 34 #[.val (.ref a), .val (.int (Int32.ofNat i)), .val (.int (Int32.ofNat A)), .val (.long (Int64.ofNat N)), .second, .val (.int (Int32.ofNat Ln)), .val (.int fb), .val (.int (Int32.ofNat (i - A))), .unset, .unset] [(.long (127 : Int64)), (.long (Int64.ofNat (N / 128 ^ (i - A))))])
    refine Go.st (fun _ k_ => XS.land X0.here hx rfl (hb hby d3_34) rfl k_) ?_
    have hWs : N / 128 ^ (i - A) < 9223372036854775808 := Nat.lt_of_le_of_lt (Nat.div_le_self _ _) hN
    show Go p e s below ({ frames := 0, cells := 0, slots := 0, locals := 0 } : Room).cells ({ frames := 0, cells := 0, slots := 0, locals := 0 } : Room).slots (Q3 h0 n0) s₁ (mkF m 35 #[.val (.ref a), .val (.int (Int32.ofNat i)), .val (.int (Int32.ofNat A)), .val (.long (Int64.ofNat N)), .second, .val (.int (Int32.ofNat Ln)), .val (.int fb), .val (.int (Int32.ofNat (i - A))), .unset, .unset] [(.long ((Int64.ofNat (N / 128 ^ (i - A))) &&& (127 : Int64)))])
    rw [ol_and127 hWs]
    show Go p e s below ({ frames := 0, cells := 0, slots := 0, locals := 0 } : Room).cells ({ frames := 0, cells := 0, slots := 0, locals := 0 } : Room).slots (Q3 h0 n0) s₁ (mkF m 35 #[.val (.ref a), .val (.int (Int32.ofNat i)), .val (.int (Int32.ofNat A)), .val (.long (Int64.ofNat N)), .second, .val (.int (Int32.ofNat Ln)), .val (.int fb), .val (.int (Int32.ofNat (i - A))), .unset, .unset] [(.long (Int64.ofNat (N / 128 ^ (i - A) % 128)))])
    refine Go.st (fun _ k_ => XS.l2i X0.here hx rfl (hb hby d3_35) rfl k_) ?_
    show Go p e s below ({ frames := 0, cells := 0, slots := 0, locals := 0 } : Room).cells ({ frames := 0, cells := 0, slots := 0, locals := 0 } : Room).slots (Q3 h0 n0) s₁ (mkF m 36 #[.val (.ref a), .val (.int (Int32.ofNat i)), .val (.int (Int32.ofNat A)), .val (.long (Int64.ofNat N)), .second, .val (.int (Int32.ofNat Ln)), .val (.int fb), .val (.int (Int32.ofNat (i - A))), .unset, .unset] [(.int ((Int64.ofNat (N / 128 ^ (i - A) % 128)).toInt32))])
    refine Go.st (fun _ k_ => XS.istore X0.here hx rfl (hb hby d3_36) rfl (l' := #[.val (.ref a), .val (.int (Int32.ofNat i)), .val (.int (Int32.ofNat A)), .val (.long (Int64.ofNat N)), .second, .val (.int (Int32.ofNat Ln)), .val (.int fb), .val (.int (Int32.ofNat (i - A))), .unset, .val (.int ((Int64.ofNat (N / 128 ^ (i - A) % 128)).toInt32))]) rfl k_) ?_
    show Go p e s below ({ frames := 0, cells := 0, slots := 0, locals := 0 } : Room).cells ({ frames := 0, cells := 0, slots := 0, locals := 0 } : Room).slots (Q3 h0 n0) s₁ (mkF m 38 #[.val (.ref a), .val (.int (Int32.ofNat i)), .val (.int (Int32.ofNat A)), .val (.long (Int64.ofNat N)), .second, .val (.int (Int32.ofNat Ln)), .val (.int fb), .val (.int (Int32.ofNat (i - A))), .unset, .val (.int ((Int64.ofNat (N / 128 ^ (i - A) % 128)).toInt32))] [])
    refine Go.st (fun _ k_ => XS.iload X0.here hx rfl (hb hby d3_38) rfl k_) ?_
    show Go p e s below ({ frames := 0, cells := 0, slots := 0, locals := 0 } : Room).cells ({ frames := 0, cells := 0, slots := 0, locals := 0 } : Room).slots (Q3 h0 n0) s₁ (mkF m 40 #[.val (.ref a), .val (.int (Int32.ofNat i)), .val (.int (Int32.ofNat A)), .val (.long (Int64.ofNat N)), .second, .val (.int (Int32.ofNat Ln)), .val (.int fb), .val (.int (Int32.ofNat (i - A))), .unset, .val (.int ((Int64.ofNat (N / 128 ^ (i - A) % 128)).toInt32))] [(.int (Int32.ofNat (i - A)))])
    refine Go.st (fun _ k_ => XS.iconst X0.here hx rfl (hb hby d3_40) k_) ?_
    show Go p e s below ({ frames := 0, cells := 0, slots := 0, locals := 0 } : Room).cells ({ frames := 0, cells := 0, slots := 0, locals := 0 } : Room).slots (Q3 h0 n0) s₁ (mkF m 41 #[.val (.ref a), .val (.int (Int32.ofNat i)), .val (.int (Int32.ofNat A)), .val (.long (Int64.ofNat N)), .second, .val (.int (Int32.ofNat Ln)), .val (.int fb), .val (.int (Int32.ofNat (i - A))), .unset, .val (.int ((Int64.ofNat (N / 128 ^ (i - A) % 128)).toInt32))] [(.int (1 : Int32)), (.int (Int32.ofNat (i - A)))])
    refine Go.st (fun _ k_ => XS.iadd X0.here hx rfl (hb hby d3_41) rfl k_) ?_
    show Go p e s below ({ frames := 0, cells := 0, slots := 0, locals := 0 } : Room).cells ({ frames := 0, cells := 0, slots := 0, locals := 0 } : Room).slots (Q3 h0 n0) s₁ (mkF m 42 #[.val (.ref a), .val (.int (Int32.ofNat i)), .val (.int (Int32.ofNat A)), .val (.long (Int64.ofNat N)), .second, .val (.int (Int32.ofNat Ln)), .val (.int fb), .val (.int (Int32.ofNat (i - A))), .unset, .val (.int ((Int64.ofNat (N / 128 ^ (i - A) % 128)).toInt32))] [(.int ((Int32.ofNat (i - A)) + (1 : Int32)))])
    rw [on_succ]
    show Go p e s below ({ frames := 0, cells := 0, slots := 0, locals := 0 } : Room).cells ({ frames := 0, cells := 0, slots := 0, locals := 0 } : Room).slots (Q3 h0 n0) s₁ (mkF m 42 #[.val (.ref a), .val (.int (Int32.ofNat i)), .val (.int (Int32.ofNat A)), .val (.long (Int64.ofNat N)), .second, .val (.int (Int32.ofNat Ln)), .val (.int fb), .val (.int (Int32.ofNat (i - A))), .unset, .val (.int ((Int64.ofNat (N / 128 ^ (i - A) % 128)).toInt32))] [(.int (Int32.ofNat (i - A + 1)))])
    refine Go.st (fun _ k_ => XS.iload X0.here hx rfl (hb hby d3_42) rfl k_) ?_
    by_cases hil : i - A + 1 < Ln
    · skip
      show Go p e s below ({ frames := 0, cells := 0, slots := 0, locals := 0 } : Room).cells ({ frames := 0, cells := 0, slots := 0, locals := 0 } : Room).slots (Q3 h0 n0) s₁ (mkF m 44 #[.val (.ref a), .val (.int (Int32.ofNat i)), .val (.int (Int32.ofNat A)), .val (.long (Int64.ofNat N)), .second, .val (.int (Int32.ofNat Ln)), .val (.int fb), .val (.int (Int32.ofNat (i - A))), .unset, .val (.int ((Int64.ofNat (N / 128 ^ (i - A) % 128)).toInt32))] [(.int (Int32.ofNat Ln)), (.int (Int32.ofNat (i - A + 1)))])
      refine Go.st (fun _ k_ => XS.icmpNo X0.here hx rfl (hb hby d3_44) rfl (tlt ((on_lt (by omega) (by omega)).mpr hil)).2.1 k_) ?_
      show Go p e s below ({ frames := 0, cells := 0, slots := 0, locals := 0 } : Room).cells ({ frames := 0, cells := 0, slots := 0, locals := 0 } : Room).slots (Q3 h0 n0) s₁ (mkF m 47 #[.val (.ref a), .val (.int (Int32.ofNat i)), .val (.int (Int32.ofNat A)), .val (.long (Int64.ofNat N)), .second, .val (.int (Int32.ofNat Ln)), .val (.int fb), .val (.int (Int32.ofNat (i - A))), .unset, .val (.int ((Int64.ofNat (N / 128 ^ (i - A) % 128)).toInt32))] [])
      refine Go.st (fun _ k_ => XS.iload X0.here hx rfl (hb hby d3_47) rfl k_) ?_
      show Go p e s below ({ frames := 0, cells := 0, slots := 0, locals := 0 } : Room).cells ({ frames := 0, cells := 0, slots := 0, locals := 0 } : Room).slots (Q3 h0 n0) s₁ (mkF m 49 #[.val (.ref a), .val (.int (Int32.ofNat i)), .val (.int (Int32.ofNat A)), .val (.long (Int64.ofNat N)), .second, .val (.int (Int32.ofNat Ln)), .val (.int fb), .val (.int (Int32.ofNat (i - A))), .unset, .val (.int ((Int64.ofNat (N / 128 ^ (i - A) % 128)).toInt32))] [(.int ((Int64.ofNat (N / 128 ^ (i - A) % 128)).toInt32))])
      refine Go.st (fun _ k_ => XS.sipush X0.here hx rfl (hb hby d3_49) k_) ?_
      show Go p e s below ({ frames := 0, cells := 0, slots := 0, locals := 0 } : Room).cells ({ frames := 0, cells := 0, slots := 0, locals := 0 } : Room).slots (Q3 h0 n0) s₁ (mkF m 52 #[.val (.ref a), .val (.int (Int32.ofNat i)), .val (.int (Int32.ofNat A)), .val (.long (Int64.ofNat N)), .second, .val (.int (Int32.ofNat Ln)), .val (.int fb), .val (.int (Int32.ofNat (i - A))), .unset, .val (.int ((Int64.ofNat (N / 128 ^ (i - A) % 128)).toInt32))] [(.int (128 : Int32)), (.int ((Int64.ofNat (N / 128 ^ (i - A) % 128)).toInt32))])
      refine Go.st (fun _ k_ => XS.ior X0.here hx rfl (hb hby d3_52) rfl k_) ?_
      show Go p e s below ({ frames := 0, cells := 0, slots := 0, locals := 0 } : Room).cells ({ frames := 0, cells := 0, slots := 0, locals := 0 } : Room).slots (Q3 h0 n0) s₁ (mkF m 53 #[.val (.ref a), .val (.int (Int32.ofNat i)), .val (.int (Int32.ofNat A)), .val (.long (Int64.ofNat N)), .second, .val (.int (Int32.ofNat Ln)), .val (.int fb), .val (.int (Int32.ofNat (i - A))), .unset, .val (.int ((Int64.ofNat (N / 128 ^ (i - A) % 128)).toInt32))] [(.int (((Int64.ofNat (N / 128 ^ (i - A) % 128)).toInt32) ||| (128 : Int32)))])
      refine Go.st (fun _ k_ => XS.goto X0.here hx rfl (pc0 := 53) (pc' := 58) rfl (hb hby d3_53) (by decide) (by decide) k_) ?_
      show Go p e s below ({ frames := 0, cells := 0, slots := 0, locals := 0 } : Room).cells ({ frames := 0, cells := 0, slots := 0, locals := 0 } : Room).slots (Q3 h0 n0) s₁ (mkF m 58 #[.val (.ref a), .val (.int (Int32.ofNat i)), .val (.int (Int32.ofNat A)), .val (.long (Int64.ofNat N)), .second, .val (.int (Int32.ofNat Ln)), .val (.int fb), .val (.int (Int32.ofNat (i - A))), .unset, .val (.int ((Int64.ofNat (N / 128 ^ (i - A) % 128)).toInt32))] [(.int (((Int64.ofNat (N / 128 ^ (i - A) % 128)).toInt32) ||| (128 : Int32)))])
      refine Go.st (fun _ k_ => XS.i2b X0.here hx rfl (hb hby d3_58) rfl k_) ?_
      show Go p e s below ({ frames := 0, cells := 0, slots := 0, locals := 0 } : Room).cells ({ frames := 0, cells := 0, slots := 0, locals := 0 } : Room).slots (Q3 h0 n0) s₁ (mkF m 59 #[.val (.ref a), .val (.int (Int32.ofNat i)), .val (.int (Int32.ofNat A)), .val (.long (Int64.ofNat N)), .second, .val (.int (Int32.ofNat Ln)), .val (.int fb), .val (.int (Int32.ofNat (i - A))), .unset, .val (.int ((Int64.ofNat (N / 128 ^ (i - A) % 128)).toInt32))] [(.int ((((Int64.ofNat (N / 128 ^ (i - A) % 128)).toInt32) ||| (128 : Int32)).toInt8.toInt32))])
      refine Go.st (fun _ k_ => XS.istore X0.here hx rfl (hb hby d3_59) rfl (l' := #[.val (.ref a), .val (.int (Int32.ofNat i)), .val (.int (Int32.ofNat A)), .val (.long (Int64.ofNat N)), .second, .val (.int (Int32.ofNat Ln)), .val (.int fb), .val (.int (Int32.ofNat (i - A))), .val (.int ((((Int64.ofNat (N / 128 ^ (i - A) % 128)).toInt32) ||| (128 : Int32)).toInt8.toInt32)), .val (.int ((Int64.ofNat (N / 128 ^ (i - A) % 128)).toInt32))]) rfl k_) ?_
      show Go p e s below ({ frames := 0, cells := 0, slots := 0, locals := 0 } : Room).cells ({ frames := 0, cells := 0, slots := 0, locals := 0 } : Room).slots (Q3 h0 n0) s₁ (mkF m 61 #[.val (.ref a), .val (.int (Int32.ofNat i)), .val (.int (Int32.ofNat A)), .val (.long (Int64.ofNat N)), .second, .val (.int (Int32.ofNat Ln)), .val (.int fb), .val (.int (Int32.ofNat (i - A))), .val (.int ((((Int64.ofNat (N / 128 ^ (i - A) % 128)).toInt32) ||| (128 : Int32)).toInt8.toInt32)), .val (.int ((Int64.ofNat (N / 128 ^ (i - A) % 128)).toInt32))] [])
      exact join _ _ _ (by simp only [own_e]; rw [if_neg (by omega), if_pos hil, own_hiO (by omega), own_hi])
    show Go p e s below ({ frames := 0, cells := 0, slots := 0, locals := 0 } : Room).cells ({ frames := 0, cells := 0, slots := 0, locals := 0 } : Room).slots (Q3 h0 n0) s₁ (mkF m 44 #[.val (.ref a), .val (.int (Int32.ofNat i)), .val (.int (Int32.ofNat A)), .val (.long (Int64.ofNat N)), .second, .val (.int (Int32.ofNat Ln)), .val (.int fb), .val (.int (Int32.ofNat (i - A))), .unset, .val (.int ((Int64.ofNat (N / 128 ^ (i - A) % 128)).toInt32))] [(.int (Int32.ofNat Ln)), (.int (Int32.ofNat (i - A + 1)))])
    refine Go.st (fun _ k_ => XS.icmpYes X0.here hx rfl (pc0 := 44) (pc' := 56) rfl (hb hby d3_44) rfl (flt (fun q => hil ((on_lt (by omega) (by omega)).mp q))).2.1 (by decide) (by decide) k_) ?_
    show Go p e s below ({ frames := 0, cells := 0, slots := 0, locals := 0 } : Room).cells ({ frames := 0, cells := 0, slots := 0, locals := 0 } : Room).slots (Q3 h0 n0) s₁ (mkF m 56 #[.val (.ref a), .val (.int (Int32.ofNat i)), .val (.int (Int32.ofNat A)), .val (.long (Int64.ofNat N)), .second, .val (.int (Int32.ofNat Ln)), .val (.int fb), .val (.int (Int32.ofNat (i - A))), .unset, .val (.int ((Int64.ofNat (N / 128 ^ (i - A) % 128)).toInt32))] [])
    refine Go.st (fun _ k_ => XS.iload X0.here hx rfl (hb hby d3_56) rfl k_) ?_
    show Go p e s below ({ frames := 0, cells := 0, slots := 0, locals := 0 } : Room).cells ({ frames := 0, cells := 0, slots := 0, locals := 0 } : Room).slots (Q3 h0 n0) s₁ (mkF m 58 #[.val (.ref a), .val (.int (Int32.ofNat i)), .val (.int (Int32.ofNat A)), .val (.long (Int64.ofNat N)), .second, .val (.int (Int32.ofNat Ln)), .val (.int fb), .val (.int (Int32.ofNat (i - A))), .unset, .val (.int ((Int64.ofNat (N / 128 ^ (i - A) % 128)).toInt32))] [(.int ((Int64.ofNat (N / 128 ^ (i - A) % 128)).toInt32))])
    refine Go.st (fun _ k_ => XS.i2b X0.here hx rfl (hb hby d3_58) rfl k_) ?_
    show Go p e s below ({ frames := 0, cells := 0, slots := 0, locals := 0 } : Room).cells ({ frames := 0, cells := 0, slots := 0, locals := 0 } : Room).slots (Q3 h0 n0) s₁ (mkF m 59 #[.val (.ref a), .val (.int (Int32.ofNat i)), .val (.int (Int32.ofNat A)), .val (.long (Int64.ofNat N)), .second, .val (.int (Int32.ofNat Ln)), .val (.int fb), .val (.int (Int32.ofNat (i - A))), .unset, .val (.int ((Int64.ofNat (N / 128 ^ (i - A) % 128)).toInt32))] [(.int (((Int64.ofNat (N / 128 ^ (i - A) % 128)).toInt32).toInt8.toInt32))])
    refine Go.st (fun _ k_ => XS.istore X0.here hx rfl (hb hby d3_59) rfl (l' := #[.val (.ref a), .val (.int (Int32.ofNat i)), .val (.int (Int32.ofNat A)), .val (.long (Int64.ofNat N)), .second, .val (.int (Int32.ofNat Ln)), .val (.int fb), .val (.int (Int32.ofNat (i - A))), .val (.int (((Int64.ofNat (N / 128 ^ (i - A) % 128)).toInt32).toInt8.toInt32)), .val (.int ((Int64.ofNat (N / 128 ^ (i - A) % 128)).toInt32))]) rfl k_) ?_
    show Go p e s below ({ frames := 0, cells := 0, slots := 0, locals := 0 } : Room).cells ({ frames := 0, cells := 0, slots := 0, locals := 0 } : Room).slots (Q3 h0 n0) s₁ (mkF m 61 #[.val (.ref a), .val (.int (Int32.ofNat i)), .val (.int (Int32.ofNat A)), .val (.long (Int64.ofNat N)), .second, .val (.int (Int32.ofNat Ln)), .val (.int fb), .val (.int (Int32.ofNat (i - A))), .val (.int (((Int64.ofNat (N / 128 ^ (i - A) % 128)).toInt32).toInt8.toInt32)), .val (.int ((Int64.ofNat (N / 128 ^ (i - A) % 128)).toInt32))] [])
    exact join _ _ _ (by simp only [own_e]; rw [if_neg (by omega), if_neg hil, own_loO (by omega), own_lo])
  show Go p e s below ({ frames := 0, cells := 0, slots := 0, locals := 0 } : Room).cells ({ frames := 0, cells := 0, slots := 0, locals := 0 } : Room).slots (Q3 h0 n0) s₁ (mkF m 14 #[.val (.ref a), .val (.int (Int32.ofNat i)), .val (.int (Int32.ofNat A)), .val (.long (Int64.ofNat N)), .second, .val (.int (Int32.ofNat Ln)), .val (.int fb), .val (.int (Int32.ofNat (i - A))), .unset, .unset] [(.int (Int32.ofNat Ln)), (.int (Int32.ofNat (i - A)))])
  refine Go.st (fun _ k_ => XS.icmpNo X0.here hx rfl (hb hby d3_14) rfl (flt (fun q => hiL ((on_lt (by omega) (by omega)).mp q))).1 k_) ?_
  show Go p e s below ({ frames := 0, cells := 0, slots := 0, locals := 0 } : Room).cells ({ frames := 0, cells := 0, slots := 0, locals := 0 } : Room).slots (Q3 h0 n0) s₁ (mkF m 17 #[.val (.ref a), .val (.int (Int32.ofNat i)), .val (.int (Int32.ofNat A)), .val (.long (Int64.ofNat N)), .second, .val (.int (Int32.ofNat Ln)), .val (.int fb), .val (.int (Int32.ofNat (i - A))), .unset, .unset] [])
  refine Go.st (fun _ k_ => XS.iload X0.here hx rfl (hb hby d3_17) rfl k_) ?_
  show Go p e s below ({ frames := 0, cells := 0, slots := 0, locals := 0 } : Room).cells ({ frames := 0, cells := 0, slots := 0, locals := 0 } : Room).slots (Q3 h0 n0) s₁ (mkF m 19 #[.val (.ref a), .val (.int (Int32.ofNat i)), .val (.int (Int32.ofNat A)), .val (.long (Int64.ofNat N)), .second, .val (.int (Int32.ofNat Ln)), .val (.int fb), .val (.int (Int32.ofNat (i - A))), .unset, .unset] [(.int fb)])
  refine Go.st (fun _ k_ => XS.istore X0.here hx rfl (hb hby d3_19) rfl (l' := #[.val (.ref a), .val (.int (Int32.ofNat i)), .val (.int (Int32.ofNat A)), .val (.long (Int64.ofNat N)), .second, .val (.int (Int32.ofNat Ln)), .val (.int fb), .val (.int (Int32.ofNat (i - A))), .val (.int fb), .unset]) rfl k_) ?_
  show Go p e s below ({ frames := 0, cells := 0, slots := 0, locals := 0 } : Room).cells ({ frames := 0, cells := 0, slots := 0, locals := 0 } : Room).slots (Q3 h0 n0) s₁ (mkF m 21 #[.val (.ref a), .val (.int (Int32.ofNat i)), .val (.int (Int32.ofNat A)), .val (.long (Int64.ofNat N)), .second, .val (.int (Int32.ofNat Ln)), .val (.int fb), .val (.int (Int32.ofNat (i - A))), .val (.int fb), .unset] [])
  refine Go.st (fun _ k_ => XS.goto X0.here hx rfl (pc0 := 21) (pc' := 61) rfl (hb hby d3_21) (by decide) (by decide) k_) ?_
  show Go p e s below ({ frames := 0, cells := 0, slots := 0, locals := 0 } : Room).cells ({ frames := 0, cells := 0, slots := 0, locals := 0 } : Room).slots (Q3 h0 n0) s₁ (mkF m 61 #[.val (.ref a), .val (.int (Int32.ofNat i)), .val (.int (Int32.ofNat A)), .val (.long (Int64.ofNat N)), .second, .val (.int (Int32.ofNat Ln)), .val (.int fb), .val (.int (Int32.ofNat (i - A))), .val (.int fb), .unset] [])
  exact join _ _ _ (by simp only [own_e]; rw [if_pos (by omega)])
def Q0 (h0 : Heap) (n0 : Nat) (v : Option Value) (h : Heap) (L : List Loc) : Prop := v = some (.int 1) ∧ Fr n0 L
set_option maxRecDepth 65536 in
set_option maxHeartbeats 40000000 in
theorem rm0 (l : Launch) (Z : State) (a0 : Array Value) (hw : ∀ d ∈ tables_1, d.before a0 Z = true) (ws : List Jvm.Cond) (p1 : Int64) (p2 p3 p4 : Int32) (h0 : Heap) (n0 : Nat) (Z0 : n0 ≤ h0.size)  :
    MetFree l x (head1 (Jvm.Cond.code x code maxLocals ret :: ws) room_1) (fun a_ U_ => a_ = #[(.long p1), (.int p2), (.int p3), (.int p4)] ∧ Z.Warmed39 U_.vm ∧ U_.heap = h0) (fun _ _ _ _ _ => True) (fun _ U_ o_ W_ => ∃ v_ L_, o_ = .returned v_ ∧ (Q0 h0 n0) v_ W_.heap L_ ∧ FrameEnd U_ o_ W_ L_ room_1.cells room_1.slots) := by
  refine MetFree.of_bodySF (plainFor_of_name pn_com_example_vernal_stem_vernalstem_index_IndexFormatEncodeVarintPinLaw) hisR ?_
  intro p e s m args below meth c s₁ Bd hml0 hP hK
  obtain ⟨rfl, hZ, hh⟩ := hP
  have hx := Bd.exec
  have hby := Bd.bytes
  have hml : c.maxLocals = 12 := hml0
  have hown : s.vm.findClass "com/example/vernal_stem/vernalstem/index/IndexFormatEncodeVarintPinLaw" = some m.cls := findClass_of_methodNamed Bd.named
  have hnm := (name_of_methodNamed Bd.named Bd.method).1
  have hlk : meth.locks = false := BodyLoose.notSynchronized Bd
  have X0 : Stand p l e room_1 s m #[(.long p1), (.int p2), (.int p3), (.int p4)] below meth c s₁ [] 0 0 := Stand.of_body Bd
  have e0 : s₁.heap = h0 := by rw [← hh, Bd.state]; rfl
  have N0 := Fr.nil n0
  refine Go.enter (ef_0 m p1 p2 p3 p4) ?_
  show Go p e s below room_1.cells room_1.slots (Q0 h0 n0) s₁ (mkF m 0 #[.val (.long p1), .second, .val (.int p2), .val (.int p3), .val (.int p4), .unset, .unset, .unset, .unset, .unset, .unset, .unset] [])
  refine Go.st (fun _ k_ => XS.lloadN X0.here hx rfl (hb hby at_0) rfl k_) ?_
  show Go p e s below room_1.cells room_1.slots (Q0 h0 n0) s₁ (mkF m 1 #[.val (.long p1), .second, .val (.int p2), .val (.int p3), .val (.int p4), .unset, .unset, .unset, .unset, .unset, .unset, .unset] [(.long p1)])
  refine Go.st (X0.ldc2Long hx hown (mvT hZ (hw _ (List.mem_of_getElem? (i := 0) rfl))) (g := (mkF m 1 #[.val (.long p1), .second, .val (.int p2), .val (.int p3), .val (.int p4), .unset, .unset, .unset, .unset, .unset, .unset, .unset] [(.long p1)])) rfl (hb hby at_1)) ?_
  show Go p e s below room_1.cells room_1.slots (Q0 h0 n0) s₁ (mkF m 4 #[.val (.long p1), .second, .val (.int p2), .val (.int p3), .val (.int p4), .unset, .unset, .unset, .unset, .unset, .unset, .unset] [(.long (9223372036854775807 : Int64)), (.long p1)])
  refine Go.st (fun _ k_ => XS.land X0.here hx rfl (hb hby at_4) rfl k_) ?_
  show Go p e s below room_1.cells room_1.slots (Q0 h0 n0) s₁ (mkF m 5 #[.val (.long p1), .second, .val (.int p2), .val (.int p3), .val (.int p4), .unset, .unset, .unset, .unset, .unset, .unset, .unset] [(.long (p1 &&& (9223372036854775807 : Int64)))])
  refine Go.st (fun _ k_ => XS.iloadN X0.here hx rfl (hb hby at_5) rfl k_) ?_
  show Go p e s below room_1.cells room_1.slots (Q0 h0 n0) s₁ (mkF m 6 #[.val (.long p1), .second, .val (.int p2), .val (.int p3), .val (.int p4), .unset, .unset, .unset, .unset, .unset, .unset, .unset] [(.int p2), (.long (p1 &&& (9223372036854775807 : Int64)))])
  refine Go.st (X0.ldcInt hx hown (mvT hZ (hw _ (List.mem_of_getElem? (i := 1) rfl))) (g := (mkF m 6 #[.val (.long p1), .second, .val (.int p2), .val (.int p3), .val (.int p4), .unset, .unset, .unset, .unset, .unset, .unset, .unset] [(.int p2), (.long (p1 &&& (9223372036854775807 : Int64)))])) rfl (hb hby at_6)) ?_
  show Go p e s below room_1.cells room_1.slots (Q0 h0 n0) s₁ (mkF m 8 #[.val (.long p1), .second, .val (.int p2), .val (.int p3), .val (.int p4), .unset, .unset, .unset, .unset, .unset, .unset, .unset] [(.int (2147483647 : Int32)), (.int p2), (.long (p1 &&& (9223372036854775807 : Int64)))])
  refine Go.st (fun _ k_ => XS.iand X0.here hx rfl (hb hby at_8) rfl k_) ?_
  show Go p e s below room_1.cells room_1.slots (Q0 h0 n0) s₁ (mkF m 9 #[.val (.long p1), .second, .val (.int p2), .val (.int p3), .val (.int p4), .unset, .unset, .unset, .unset, .unset, .unset, .unset] [(.int (p2 &&& (2147483647 : Int32))), (.long (p1 &&& (9223372036854775807 : Int64)))])
  refine Go.st (fun _ k_ => XS.bipush X0.here hx rfl (hb hby at_9) k_) ?_
  show Go p e s below room_1.cells room_1.slots (Q0 h0 n0) s₁ (mkF m 11 #[.val (.long p1), .second, .val (.int p2), .val (.int p3), .val (.int p4), .unset, .unset, .unset, .unset, .unset, .unset, .unset] [(.int (64 : Int32)), (.int (p2 &&& (2147483647 : Int32))), (.long (p1 &&& (9223372036854775807 : Int64)))])
  refine Go.st (fun _ k_ => XS.irem X0.here hx rfl (hb hby at_11) rfl (by decide) k_) ?_
  show Go p e s below room_1.cells room_1.slots (Q0 h0 n0) s₁ (mkF m 12 #[.val (.long p1), .second, .val (.int p2), .val (.int p3), .val (.int p4), .unset, .unset, .unset, .unset, .unset, .unset, .unset] [(.int ((p2 &&& (2147483647 : Int32)) - ((p2 &&& (2147483647 : Int32)) / (64 : Int32)) * (64 : Int32))), (.long (p1 &&& (9223372036854775807 : Int64)))])
  refine Go.st (fun _ k_ => XS.lushr X0.here hx rfl (hb hby at_12) rfl k_) ?_
  obtain ⟨N, hN, eN⟩ := own_v p1 (((p2 &&& (2147483647 : Int32)) - ((p2 &&& (2147483647 : Int32)) / (64 : Int32)) * (64 : Int32)) &&& 0x3f).toInt64.toUInt64
  show Go p e s below room_1.cells room_1.slots (Q0 h0 n0) s₁ (mkF m 13 #[.val (.long p1), .second, .val (.int p2), .val (.int p3), .val (.int p4), .unset, .unset, .unset, .unset, .unset, .unset, .unset] [(.long (((p1 &&& (9223372036854775807 : Int64)).toUInt64 >>> (((p2 &&& (2147483647 : Int32)) - ((p2 &&& (2147483647 : Int32)) / (64 : Int32)) * (64 : Int32)) &&& 0x3f).toInt64.toUInt64).toInt64))])
  rw [eN]
  show Go p e s below room_1.cells room_1.slots (Q0 h0 n0) s₁ (mkF m 13 #[.val (.long p1), .second, .val (.int p2), .val (.int p3), .val (.int p4), .unset, .unset, .unset, .unset, .unset, .unset, .unset] [(.long (Int64.ofNat N))])
  refine Go.st (fun _ k_ => XS.lstore X0.here hx rfl (hb hby at_13) rfl (l' := #[.val (.long p1), .second, .val (.int p2), .val (.int p3), .val (.int p4), .val (.long (Int64.ofNat N)), .second, .unset, .unset, .unset, .unset, .unset]) rfl k_) ?_
  show Go p e s below room_1.cells room_1.slots (Q0 h0 n0) s₁ (mkF m 15 #[.val (.long p1), .second, .val (.int p2), .val (.int p3), .val (.int p4), .val (.long (Int64.ofNat N)), .second, .unset, .unset, .unset, .unset, .unset] [])
  refine Go.st (fun _ k_ => XS.iloadN X0.here hx rfl (hb hby at_15) rfl k_) ?_
  show Go p e s below room_1.cells room_1.slots (Q0 h0 n0) s₁ (mkF m 16 #[.val (.long p1), .second, .val (.int p2), .val (.int p3), .val (.int p4), .val (.long (Int64.ofNat N)), .second, .unset, .unset, .unset, .unset, .unset] [(.int p3)])
  refine Go.st (fun _ k_ => XS.iconst X0.here hx rfl (hb hby at_16) k_) ?_
  show Go p e s below room_1.cells room_1.slots (Q0 h0 n0) s₁ (mkF m 17 #[.val (.long p1), .second, .val (.int p2), .val (.int p3), .val (.int p4), .val (.long (Int64.ofNat N)), .second, .unset, .unset, .unset, .unset, .unset] [(.int (3 : Int32)), (.int p3)])
  refine Go.st (fun _ k_ => XS.iand X0.here hx rfl (hb hby at_17) rfl k_) ?_
  obtain ⟨A, hA, eA⟩ := own_at p3
  show Go p e s below room_1.cells room_1.slots (Q0 h0 n0) s₁ (mkF m 18 #[.val (.long p1), .second, .val (.int p2), .val (.int p3), .val (.int p4), .val (.long (Int64.ofNat N)), .second, .unset, .unset, .unset, .unset, .unset] [(.int (p3 &&& (3 : Int32)))])
  rw [eA]
  show Go p e s below room_1.cells room_1.slots (Q0 h0 n0) s₁ (mkF m 18 #[.val (.long p1), .second, .val (.int p2), .val (.int p3), .val (.int p4), .val (.long (Int64.ofNat N)), .second, .unset, .unset, .unset, .unset, .unset] [(.int (Int32.ofNat A))])
  refine Go.st (fun _ k_ => XS.istore X0.here hx rfl (hb hby at_18) rfl (l' := #[.val (.long p1), .second, .val (.int p2), .val (.int p3), .val (.int p4), .val (.long (Int64.ofNat N)), .second, .val (.int (Int32.ofNat A)), .unset, .unset, .unset, .unset]) rfl k_) ?_
  show Go p e s below room_1.cells room_1.slots (Q0 h0 n0) s₁ (mkF m 20 #[.val (.long p1), .second, .val (.int p2), .val (.int p3), .val (.int p4), .val (.long (Int64.ofNat N)), .second, .val (.int (Int32.ofNat A)), .unset, .unset, .unset, .unset] [])
  refine Go.st (fun _ k_ => XS.iload X0.here hx rfl (hb hby at_20) rfl k_) ?_
  show Go p e s below room_1.cells room_1.slots (Q0 h0 n0) s₁ (mkF m 22 #[.val (.long p1), .second, .val (.int p2), .val (.int p3), .val (.int p4), .val (.long (Int64.ofNat N)), .second, .val (.int (Int32.ofNat A)), .unset, .unset, .unset, .unset] [(.int p4)])
  refine Go.st (fun _ k_ => XS.i2b X0.here hx rfl (hb hby at_22) rfl k_) ?_
  have hfb0 := own_by p4
  show Go p e s below room_1.cells room_1.slots (Q0 h0 n0) s₁ (mkF m 23 #[.val (.long p1), .second, .val (.int p2), .val (.int p3), .val (.int p4), .val (.long (Int64.ofNat N)), .second, .val (.int (Int32.ofNat A)), .unset, .unset, .unset, .unset] [(.int (p4.toInt8.toInt32))])
  obtain ⟨fb, hfb⟩ : ∃ z : Int32, z = p4.toInt8.toInt32 := ⟨_, rfl⟩
  rw [← hfb] at hfb0
  rw [← hfb]
  show Go p e s below room_1.cells room_1.slots (Q0 h0 n0) s₁ (mkF m 23 #[.val (.long p1), .second, .val (.int p2), .val (.int p3), .val (.int p4), .val (.long (Int64.ofNat N)), .second, .val (.int (Int32.ofNat A)), .unset, .unset, .unset, .unset] [(.int fb)])
  refine Go.st (fun _ k_ => XS.istore X0.here hx rfl (hb hby at_23) rfl (l' := #[.val (.long p1), .second, .val (.int p2), .val (.int p3), .val (.int p4), .val (.long (Int64.ofNat N)), .second, .val (.int (Int32.ofNat A)), .val (.int fb), .unset, .unset, .unset]) rfl k_) ?_
  show Go p e s below room_1.cells room_1.slots (Q0 h0 n0) s₁ (mkF m 25 #[.val (.long p1), .second, .val (.int p2), .val (.int p3), .val (.int p4), .val (.long (Int64.ofNat N)), .second, .val (.int (Int32.ofNat A)), .val (.int fb), .unset, .unset, .unset] [])
  refine Go.st (fun _ k_ => XS.bipush X0.here hx rfl (hb hby at_25) k_) ?_
  show Go p e s below room_1.cells room_1.slots (Q0 h0 n0) s₁ (mkF m 27 #[.val (.long p1), .second, .val (.int p2), .val (.int p3), .val (.int p4), .val (.long (Int64.ofNat N)), .second, .val (.int (Int32.ofNat A)), .val (.int fb), .unset, .unset, .unset] [(.int (12 : Int32))])
  obtain ⟨T3, h3, k3, X3, e3, E3, A3, st3⟩ := newP X0 hx hZ (hw _ (List.mem_of_getElem? (i := 2) rfl)) e0 (g := (mkF m 27 #[.val (.long p1), .second, .val (.int p2), .val (.int p3), .val (.int p4), .val (.long (Int64.ofNat N)), .second, .val (.int (Int32.ofNat A)), .val (.int fb), .unset, .unset, .unset] [(.int (12 : Int32))])) rfl (hb hby at_27) rfl (by decide) (cap := 12) (by decide) (by decide) (by decide) (by decide)
  obtain ⟨b, g3⟩ : ∃ z, z = h0.size := ⟨_, rfl⟩
  rw [← g3] at A3 st3
  refine Go.st st3 ?_
  have V0 : AV Z h3 b .byte 12 (fun _ => 0) := AV.new A3 (by decide) rfl
  have gb : n0 ≤ b := by rw [g3]; exact Z0
  have hL9 := own_len9 N
  have ok12 : ∀ (T : State) (locs : List Loc) (X : Stand p l e room_1 s m #[(.long p1), (.int p2), (.int p3), (.int p4)] below meth c T locs (0 + 1) (0 + 12)) (N' : Fr n0 locs) (VG : AV Z T.heap b .byte 12 (own_e N A (own_len N) fb)) (ZG : n0 ≤ T.heap.size), Go p e s below room_1.cells room_1.slots (Q0 h0 n0) T (mkF m 395 #[.val (.long p1), .second, .val (.int p2), .val (.int p3), .val (.int p4), .val (.long (Int64.ofNat N)), .second, .val (.int (Int32.ofNat A)), .val (.int fb), .val (.ref b), .val (.int (Int32.ofNat (own_len N))), .val (.int (Int32.ofNat (A + own_len N)))] []) := by
    intro T locs X N' VG ZG
    show Go p e s below room_1.cells room_1.slots (Q0 h0 n0) T (mkF m 395 #[.val (.long p1), .second, .val (.int p2), .val (.int p3), .val (.int p4), .val (.long (Int64.ofNat N)), .second, .val (.int (Int32.ofNat A)), .val (.int fb), .val (.ref b), .val (.int (Int32.ofNat (own_len N))), .val (.int (Int32.ofNat (A + own_len N)))] [])
    refine Go.st (fun _ k_ => XS.iconst X.here hx rfl (hb hby at_395) k_) ?_
    show Go p e s below room_1.cells room_1.slots (Q0 h0 n0) T (mkF m 396 #[.val (.long p1), .second, .val (.int p2), .val (.int p3), .val (.int p4), .val (.long (Int64.ofNat N)), .second, .val (.int (Int32.ofNat A)), .val (.int fb), .val (.ref b), .val (.int (Int32.ofNat (own_len N))), .val (.int (Int32.ofNat (A + own_len N)))] [(.int (1 : Int32))])
    refine Go.st (fun _ k_ => XS.goto X.here hx rfl (pc0 := 396) (pc' := 400) rfl (hb hby at_396) (by decide) (by decide) k_) ?_
    show Go p e s below room_1.cells room_1.slots (Q0 h0 n0) T (mkF m 400 #[.val (.long p1), .second, .val (.int p2), .val (.int p3), .val (.int p4), .val (.long (Int64.ofNat N)), .second, .val (.int (Int32.ofNat A)), .val (.int fb), .val (.ref b), .val (.int (Int32.ofNat (own_len N))), .val (.int (Int32.ofNat (A + own_len N)))] [(.int (1 : Int32))])
    exact Go.retN X hx hlk (t := .boolean) Bd.returns (by simp) (hb hby at_400) (by decide) (by decide) ⟨rfl, N'⟩
  have ok11 : ∀ (T : State) (locs : List Loc) (X : Stand p l e room_1 s m #[(.long p1), (.int p2), (.int p3), (.int p4)] below meth c T locs (0 + 1) (0 + 12)) (N' : Fr n0 locs) (VG : AV Z T.heap b .byte 12 (own_e N A (own_len N) fb)) (ZG : n0 ≤ T.heap.size), Go p e s below room_1.cells room_1.slots (Q0 h0 n0) T (mkF m 377 #[.val (.long p1), .second, .val (.int p2), .val (.int p3), .val (.int p4), .val (.long (Int64.ofNat N)), .second, .val (.int (Int32.ofNat A)), .val (.int fb), .val (.ref b), .val (.int (Int32.ofNat (own_len N))), .val (.int (Int32.ofNat (A + own_len N)))] []) := by
    intro T locs X N' VG ZG
    show Go p e s below room_1.cells room_1.slots (Q0 h0 n0) T (mkF m 377 #[.val (.long p1), .second, .val (.int p2), .val (.int p3), .val (.int p4), .val (.long (Int64.ofNat N)), .second, .val (.int (Int32.ofNat A)), .val (.int fb), .val (.ref b), .val (.int (Int32.ofNat (own_len N))), .val (.int (Int32.ofNat (A + own_len N)))] [])
    refine Go.st (fun _ k_ => XS.aload X.here hx rfl (hb hby at_377) rfl rfl k_) ?_
    show Go p e s below room_1.cells room_1.slots (Q0 h0 n0) T (mkF m 379 #[.val (.long p1), .second, .val (.int p2), .val (.int p3), .val (.int p4), .val (.long (Int64.ofNat N)), .second, .val (.int (Int32.ofNat A)), .val (.int fb), .val (.ref b), .val (.int (Int32.ofNat (own_len N))), .val (.int (Int32.ofNat (A + own_len N)))] [(.ref b)])
    refine Go.st (fun _ k_ => XS.bipush X.here hx rfl (hb hby at_379) k_) ?_
    show Go p e s below room_1.cells room_1.slots (Q0 h0 n0) T (mkF m 381 #[.val (.long p1), .second, .val (.int p2), .val (.int p3), .val (.int p4), .val (.long (Int64.ofNat N)), .second, .val (.int (Int32.ofNat A)), .val (.int fb), .val (.ref b), .val (.int (Int32.ofNat (own_len N))), .val (.int (Int32.ofNat (A + own_len N)))] [(.int (11 : Int32)), (.ref b)])
    refine Go.st (fun _ k_ => XS.iload X.here hx rfl (hb hby at_381) rfl k_) ?_
    show Go p e s below room_1.cells room_1.slots (Q0 h0 n0) T (mkF m 383 #[.val (.long p1), .second, .val (.int p2), .val (.int p3), .val (.int p4), .val (.long (Int64.ofNat N)), .second, .val (.int (Int32.ofNat A)), .val (.int fb), .val (.ref b), .val (.int (Int32.ofNat (own_len N))), .val (.int (Int32.ofNat (A + own_len N)))] [(.int (Int32.ofNat A)), (.int (11 : Int32)), (.ref b)])
    refine Go.st (fun _ k_ => XS.lload X.here hx rfl (hb hby at_383) rfl k_) ?_
    show Go p e s below room_1.cells room_1.slots (Q0 h0 n0) T (mkF m 385 #[.val (.long p1), .second, .val (.int p2), .val (.int p3), .val (.int p4), .val (.long (Int64.ofNat N)), .second, .val (.int (Int32.ofNat A)), .val (.int fb), .val (.ref b), .val (.int (Int32.ofNat (own_len N))), .val (.int (Int32.ofNat (A + own_len N)))] [(.long (Int64.ofNat N)), (.int (Int32.ofNat A)), (.int (11 : Int32)), (.ref b)])
    refine Go.st (fun _ k_ => XS.iload X.here hx rfl (hb hby at_385) rfl k_) ?_
    show Go p e s below room_1.cells room_1.slots (Q0 h0 n0) T (mkF m 387 #[.val (.long p1), .second, .val (.int p2), .val (.int p3), .val (.int p4), .val (.long (Int64.ofNat N)), .second, .val (.int (Int32.ofNat A)), .val (.int fb), .val (.ref b), .val (.int (Int32.ofNat (own_len N))), .val (.int (Int32.ofNat (A + own_len N)))] [(.int (Int32.ofNat (own_len N))), (.long (Int64.ofNat N)), (.int (Int32.ofNat A)), (.int (11 : Int32)), (.ref b)])
    refine Go.st (fun _ k_ => XS.iload X.here hx rfl (hb hby at_387) rfl k_) ?_
    show Go p e s below room_1.cells room_1.slots (Q0 h0 n0) T (mkF m 389 #[.val (.long p1), .second, .val (.int p2), .val (.int p3), .val (.int p4), .val (.long (Int64.ofNat N)), .second, .val (.int (Int32.ofNat A)), .val (.int fb), .val (.ref b), .val (.int (Int32.ofNat (own_len N))), .val (.int (Int32.ofNat (A + own_len N)))] [(.int fb), (.int (Int32.ofNat (own_len N))), (.long (Int64.ofNat N)), (.int (Int32.ofNat A)), (.int (11 : Int32)), (.ref b)])
    obtain ⟨_, _, ⟨T4, L4, k4, n4⟩, -, X4, ⟨Lc4, hQ4, l4, y4, z4⟩, st4⟩ := Jvm.LawKit.callS X hx (y := (⟨"com/example/vernal_stem/vernalstem/index/IndexFormatEncodeVarintPinLaw", "ok", "([BIIJIB)Z"⟩ : MethodName)) hown (mvT hZ (hw _ (List.mem_of_getElem? (i := 12) rfl))) (mvT hZ (hw _ (List.mem_of_getElem? (i := 13) rfl))) (mvT hZ (hw _ (List.mem_of_getElem? (i := 5) rfl))) (mvT hZ (hw _ (List.mem_of_getElem? (i := 14) rfl))) (by decide) (backOf (W := 0) (rm3 l Z a0 hw [] b 11 A N (own_len N) fb T.heap n0 ZG (by decide) hA hN hL9 VG) hZ (hw _ (List.mem_of_getElem? (i := 14) rfl)) (hw _ (List.mem_of_getElem? (i := 5) rfl)) (by decide) (by decide)) (g := (mkF m 389 #[.val (.long p1), .second, .val (.int p2), .val (.int p3), .val (.int p4), .val (.long (Int64.ofNat N)), .second, .val (.int (Int32.ofNat A)), .val (.int fb), .val (.ref b), .val (.int (Int32.ofNat (own_len N))), .val (.int (Int32.ofNat (A + own_len N)))] [(.int fb), (.int (Int32.ofNat (own_len N))), (.long (Int64.ofNat N)), (.int (Int32.ofNat A)), (.int (11 : Int32)), (.ref b)])) rfl (by rw [hml]; rfl) (argsL := [(.ref b), (.int (11 : Int32)), (.int (Int32.ofNat A)), (.long (Int64.ofNat N)), (.int (Int32.ofNat (own_len N))), (.int fb)]) (rest := []) (lenOf pd_2 rfl) rfl (by show 2 * 0 + _ ≤ _; exact Nat.le_of_eq rfl) (hb hby at_389) (fun _ _ => ⟨rfl, rfl, (by decide : (0 + 1) + 0 ≤ _), (by decide : (0 + 12) + 0 ≤ _)⟩)
    dsimp only [Pt.U, Pt.locs, Pt.cells, Pt.slots] at X4 l4 y4 z4 st4 hQ4
    subst l4 y4 z4
    obtain ⟨rfl, hN4, ek⟩ := hQ4
    have N4 := Fr.app N' hN4
    refine Go.st st4 ?_
    show Go p e s below room_1.cells room_1.slots (Q0 h0 n0) T4 (mkF m 392 #[.val (.long p1), .second, .val (.int p2), .val (.int p3), .val (.int p4), .val (.long (Int64.ofNat N)), .second, .val (.int (Int32.ofNat A)), .val (.int fb), .val (.ref b), .val (.int (Int32.ofNat (own_len N))), .val (.int (Int32.ofNat (A + own_len N)))] [(.int (1 : Int32))])
    refine Go.st (fun _ k_ => XS.ifNo X4.here hx rfl (hb hby at_392) rfl ((if0 _ _).trans (feq (by decide)).1) k_) ?_
    show Go p e s below room_1.cells room_1.slots (Q0 h0 n0) T4 (mkF m 395 #[.val (.long p1), .second, .val (.int p2), .val (.int p3), .val (.int p4), .val (.long (Int64.ofNat N)), .second, .val (.int (Int32.ofNat A)), .val (.int fb), .val (.ref b), .val (.int (Int32.ofNat (own_len N))), .val (.int (Int32.ofNat (A + own_len N)))] [])
    exact ok12 _ _ X4 N4 (by rw [ek]; exact VG) (by rw [ek]; exact ZG)
  have ok10 : ∀ (T : State) (locs : List Loc) (X : Stand p l e room_1 s m #[(.long p1), (.int p2), (.int p3), (.int p4)] below meth c T locs (0 + 1) (0 + 12)) (N' : Fr n0 locs) (VG : AV Z T.heap b .byte 12 (own_e N A (own_len N) fb)) (ZG : n0 ≤ T.heap.size), Go p e s below room_1.cells room_1.slots (Q0 h0 n0) T (mkF m 359 #[.val (.long p1), .second, .val (.int p2), .val (.int p3), .val (.int p4), .val (.long (Int64.ofNat N)), .second, .val (.int (Int32.ofNat A)), .val (.int fb), .val (.ref b), .val (.int (Int32.ofNat (own_len N))), .val (.int (Int32.ofNat (A + own_len N)))] []) := by
    intro T locs X N' VG ZG
    show Go p e s below room_1.cells room_1.slots (Q0 h0 n0) T (mkF m 359 #[.val (.long p1), .second, .val (.int p2), .val (.int p3), .val (.int p4), .val (.long (Int64.ofNat N)), .second, .val (.int (Int32.ofNat A)), .val (.int fb), .val (.ref b), .val (.int (Int32.ofNat (own_len N))), .val (.int (Int32.ofNat (A + own_len N)))] [])
    refine Go.st (fun _ k_ => XS.aload X.here hx rfl (hb hby at_359) rfl rfl k_) ?_
    show Go p e s below room_1.cells room_1.slots (Q0 h0 n0) T (mkF m 361 #[.val (.long p1), .second, .val (.int p2), .val (.int p3), .val (.int p4), .val (.long (Int64.ofNat N)), .second, .val (.int (Int32.ofNat A)), .val (.int fb), .val (.ref b), .val (.int (Int32.ofNat (own_len N))), .val (.int (Int32.ofNat (A + own_len N)))] [(.ref b)])
    refine Go.st (fun _ k_ => XS.bipush X.here hx rfl (hb hby at_361) k_) ?_
    show Go p e s below room_1.cells room_1.slots (Q0 h0 n0) T (mkF m 363 #[.val (.long p1), .second, .val (.int p2), .val (.int p3), .val (.int p4), .val (.long (Int64.ofNat N)), .second, .val (.int (Int32.ofNat A)), .val (.int fb), .val (.ref b), .val (.int (Int32.ofNat (own_len N))), .val (.int (Int32.ofNat (A + own_len N)))] [(.int (10 : Int32)), (.ref b)])
    refine Go.st (fun _ k_ => XS.iload X.here hx rfl (hb hby at_363) rfl k_) ?_
    show Go p e s below room_1.cells room_1.slots (Q0 h0 n0) T (mkF m 365 #[.val (.long p1), .second, .val (.int p2), .val (.int p3), .val (.int p4), .val (.long (Int64.ofNat N)), .second, .val (.int (Int32.ofNat A)), .val (.int fb), .val (.ref b), .val (.int (Int32.ofNat (own_len N))), .val (.int (Int32.ofNat (A + own_len N)))] [(.int (Int32.ofNat A)), (.int (10 : Int32)), (.ref b)])
    refine Go.st (fun _ k_ => XS.lload X.here hx rfl (hb hby at_365) rfl k_) ?_
    show Go p e s below room_1.cells room_1.slots (Q0 h0 n0) T (mkF m 367 #[.val (.long p1), .second, .val (.int p2), .val (.int p3), .val (.int p4), .val (.long (Int64.ofNat N)), .second, .val (.int (Int32.ofNat A)), .val (.int fb), .val (.ref b), .val (.int (Int32.ofNat (own_len N))), .val (.int (Int32.ofNat (A + own_len N)))] [(.long (Int64.ofNat N)), (.int (Int32.ofNat A)), (.int (10 : Int32)), (.ref b)])
    refine Go.st (fun _ k_ => XS.iload X.here hx rfl (hb hby at_367) rfl k_) ?_
    show Go p e s below room_1.cells room_1.slots (Q0 h0 n0) T (mkF m 369 #[.val (.long p1), .second, .val (.int p2), .val (.int p3), .val (.int p4), .val (.long (Int64.ofNat N)), .second, .val (.int (Int32.ofNat A)), .val (.int fb), .val (.ref b), .val (.int (Int32.ofNat (own_len N))), .val (.int (Int32.ofNat (A + own_len N)))] [(.int (Int32.ofNat (own_len N))), (.long (Int64.ofNat N)), (.int (Int32.ofNat A)), (.int (10 : Int32)), (.ref b)])
    refine Go.st (fun _ k_ => XS.iload X.here hx rfl (hb hby at_369) rfl k_) ?_
    show Go p e s below room_1.cells room_1.slots (Q0 h0 n0) T (mkF m 371 #[.val (.long p1), .second, .val (.int p2), .val (.int p3), .val (.int p4), .val (.long (Int64.ofNat N)), .second, .val (.int (Int32.ofNat A)), .val (.int fb), .val (.ref b), .val (.int (Int32.ofNat (own_len N))), .val (.int (Int32.ofNat (A + own_len N)))] [(.int fb), (.int (Int32.ofNat (own_len N))), (.long (Int64.ofNat N)), (.int (Int32.ofNat A)), (.int (10 : Int32)), (.ref b)])
    obtain ⟨_, _, ⟨T5, L5, k5, n5⟩, -, X5, ⟨Lc5, hQ5, l5, y5, z5⟩, st5⟩ := Jvm.LawKit.callS X hx (y := (⟨"com/example/vernal_stem/vernalstem/index/IndexFormatEncodeVarintPinLaw", "ok", "([BIIJIB)Z"⟩ : MethodName)) hown (mvT hZ (hw _ (List.mem_of_getElem? (i := 12) rfl))) (mvT hZ (hw _ (List.mem_of_getElem? (i := 13) rfl))) (mvT hZ (hw _ (List.mem_of_getElem? (i := 5) rfl))) (mvT hZ (hw _ (List.mem_of_getElem? (i := 14) rfl))) (by decide) (backOf (W := 0) (rm3 l Z a0 hw [] b 10 A N (own_len N) fb T.heap n0 ZG (by decide) hA hN hL9 VG) hZ (hw _ (List.mem_of_getElem? (i := 14) rfl)) (hw _ (List.mem_of_getElem? (i := 5) rfl)) (by decide) (by decide)) (g := (mkF m 371 #[.val (.long p1), .second, .val (.int p2), .val (.int p3), .val (.int p4), .val (.long (Int64.ofNat N)), .second, .val (.int (Int32.ofNat A)), .val (.int fb), .val (.ref b), .val (.int (Int32.ofNat (own_len N))), .val (.int (Int32.ofNat (A + own_len N)))] [(.int fb), (.int (Int32.ofNat (own_len N))), (.long (Int64.ofNat N)), (.int (Int32.ofNat A)), (.int (10 : Int32)), (.ref b)])) rfl (by rw [hml]; rfl) (argsL := [(.ref b), (.int (10 : Int32)), (.int (Int32.ofNat A)), (.long (Int64.ofNat N)), (.int (Int32.ofNat (own_len N))), (.int fb)]) (rest := []) (lenOf pd_2 rfl) rfl (by show 2 * 0 + _ ≤ _; exact Nat.le_of_eq rfl) (hb hby at_371) (fun _ _ => ⟨rfl, rfl, (by decide : (0 + 1) + 0 ≤ _), (by decide : (0 + 12) + 0 ≤ _)⟩)
    dsimp only [Pt.U, Pt.locs, Pt.cells, Pt.slots] at X5 l5 y5 z5 st5 hQ5
    subst l5 y5 z5
    obtain ⟨rfl, hN5, ek⟩ := hQ5
    have N5 := Fr.app N' hN5
    refine Go.st st5 ?_
    show Go p e s below room_1.cells room_1.slots (Q0 h0 n0) T5 (mkF m 374 #[.val (.long p1), .second, .val (.int p2), .val (.int p3), .val (.int p4), .val (.long (Int64.ofNat N)), .second, .val (.int (Int32.ofNat A)), .val (.int fb), .val (.ref b), .val (.int (Int32.ofNat (own_len N))), .val (.int (Int32.ofNat (A + own_len N)))] [(.int (1 : Int32))])
    refine Go.st (fun _ k_ => XS.ifNo X5.here hx rfl (hb hby at_374) rfl ((if0 _ _).trans (feq (by decide)).1) k_) ?_
    show Go p e s below room_1.cells room_1.slots (Q0 h0 n0) T5 (mkF m 377 #[.val (.long p1), .second, .val (.int p2), .val (.int p3), .val (.int p4), .val (.long (Int64.ofNat N)), .second, .val (.int (Int32.ofNat A)), .val (.int fb), .val (.ref b), .val (.int (Int32.ofNat (own_len N))), .val (.int (Int32.ofNat (A + own_len N)))] [])
    exact ok11 _ _ X5 N5 (by rw [ek]; exact VG) (by rw [ek]; exact ZG)
  have ok9 : ∀ (T : State) (locs : List Loc) (X : Stand p l e room_1 s m #[(.long p1), (.int p2), (.int p3), (.int p4)] below meth c T locs (0 + 1) (0 + 12)) (N' : Fr n0 locs) (VG : AV Z T.heap b .byte 12 (own_e N A (own_len N) fb)) (ZG : n0 ≤ T.heap.size), Go p e s below room_1.cells room_1.slots (Q0 h0 n0) T (mkF m 341 #[.val (.long p1), .second, .val (.int p2), .val (.int p3), .val (.int p4), .val (.long (Int64.ofNat N)), .second, .val (.int (Int32.ofNat A)), .val (.int fb), .val (.ref b), .val (.int (Int32.ofNat (own_len N))), .val (.int (Int32.ofNat (A + own_len N)))] []) := by
    intro T locs X N' VG ZG
    show Go p e s below room_1.cells room_1.slots (Q0 h0 n0) T (mkF m 341 #[.val (.long p1), .second, .val (.int p2), .val (.int p3), .val (.int p4), .val (.long (Int64.ofNat N)), .second, .val (.int (Int32.ofNat A)), .val (.int fb), .val (.ref b), .val (.int (Int32.ofNat (own_len N))), .val (.int (Int32.ofNat (A + own_len N)))] [])
    refine Go.st (fun _ k_ => XS.aload X.here hx rfl (hb hby at_341) rfl rfl k_) ?_
    show Go p e s below room_1.cells room_1.slots (Q0 h0 n0) T (mkF m 343 #[.val (.long p1), .second, .val (.int p2), .val (.int p3), .val (.int p4), .val (.long (Int64.ofNat N)), .second, .val (.int (Int32.ofNat A)), .val (.int fb), .val (.ref b), .val (.int (Int32.ofNat (own_len N))), .val (.int (Int32.ofNat (A + own_len N)))] [(.ref b)])
    refine Go.st (fun _ k_ => XS.bipush X.here hx rfl (hb hby at_343) k_) ?_
    show Go p e s below room_1.cells room_1.slots (Q0 h0 n0) T (mkF m 345 #[.val (.long p1), .second, .val (.int p2), .val (.int p3), .val (.int p4), .val (.long (Int64.ofNat N)), .second, .val (.int (Int32.ofNat A)), .val (.int fb), .val (.ref b), .val (.int (Int32.ofNat (own_len N))), .val (.int (Int32.ofNat (A + own_len N)))] [(.int (9 : Int32)), (.ref b)])
    refine Go.st (fun _ k_ => XS.iload X.here hx rfl (hb hby at_345) rfl k_) ?_
    show Go p e s below room_1.cells room_1.slots (Q0 h0 n0) T (mkF m 347 #[.val (.long p1), .second, .val (.int p2), .val (.int p3), .val (.int p4), .val (.long (Int64.ofNat N)), .second, .val (.int (Int32.ofNat A)), .val (.int fb), .val (.ref b), .val (.int (Int32.ofNat (own_len N))), .val (.int (Int32.ofNat (A + own_len N)))] [(.int (Int32.ofNat A)), (.int (9 : Int32)), (.ref b)])
    refine Go.st (fun _ k_ => XS.lload X.here hx rfl (hb hby at_347) rfl k_) ?_
    show Go p e s below room_1.cells room_1.slots (Q0 h0 n0) T (mkF m 349 #[.val (.long p1), .second, .val (.int p2), .val (.int p3), .val (.int p4), .val (.long (Int64.ofNat N)), .second, .val (.int (Int32.ofNat A)), .val (.int fb), .val (.ref b), .val (.int (Int32.ofNat (own_len N))), .val (.int (Int32.ofNat (A + own_len N)))] [(.long (Int64.ofNat N)), (.int (Int32.ofNat A)), (.int (9 : Int32)), (.ref b)])
    refine Go.st (fun _ k_ => XS.iload X.here hx rfl (hb hby at_349) rfl k_) ?_
    show Go p e s below room_1.cells room_1.slots (Q0 h0 n0) T (mkF m 351 #[.val (.long p1), .second, .val (.int p2), .val (.int p3), .val (.int p4), .val (.long (Int64.ofNat N)), .second, .val (.int (Int32.ofNat A)), .val (.int fb), .val (.ref b), .val (.int (Int32.ofNat (own_len N))), .val (.int (Int32.ofNat (A + own_len N)))] [(.int (Int32.ofNat (own_len N))), (.long (Int64.ofNat N)), (.int (Int32.ofNat A)), (.int (9 : Int32)), (.ref b)])
    refine Go.st (fun _ k_ => XS.iload X.here hx rfl (hb hby at_351) rfl k_) ?_
    show Go p e s below room_1.cells room_1.slots (Q0 h0 n0) T (mkF m 353 #[.val (.long p1), .second, .val (.int p2), .val (.int p3), .val (.int p4), .val (.long (Int64.ofNat N)), .second, .val (.int (Int32.ofNat A)), .val (.int fb), .val (.ref b), .val (.int (Int32.ofNat (own_len N))), .val (.int (Int32.ofNat (A + own_len N)))] [(.int fb), (.int (Int32.ofNat (own_len N))), (.long (Int64.ofNat N)), (.int (Int32.ofNat A)), (.int (9 : Int32)), (.ref b)])
    obtain ⟨_, _, ⟨T6, L6, k6, n6⟩, -, X6, ⟨Lc6, hQ6, l6, y6, z6⟩, st6⟩ := Jvm.LawKit.callS X hx (y := (⟨"com/example/vernal_stem/vernalstem/index/IndexFormatEncodeVarintPinLaw", "ok", "([BIIJIB)Z"⟩ : MethodName)) hown (mvT hZ (hw _ (List.mem_of_getElem? (i := 12) rfl))) (mvT hZ (hw _ (List.mem_of_getElem? (i := 13) rfl))) (mvT hZ (hw _ (List.mem_of_getElem? (i := 5) rfl))) (mvT hZ (hw _ (List.mem_of_getElem? (i := 14) rfl))) (by decide) (backOf (W := 0) (rm3 l Z a0 hw [] b 9 A N (own_len N) fb T.heap n0 ZG (by decide) hA hN hL9 VG) hZ (hw _ (List.mem_of_getElem? (i := 14) rfl)) (hw _ (List.mem_of_getElem? (i := 5) rfl)) (by decide) (by decide)) (g := (mkF m 353 #[.val (.long p1), .second, .val (.int p2), .val (.int p3), .val (.int p4), .val (.long (Int64.ofNat N)), .second, .val (.int (Int32.ofNat A)), .val (.int fb), .val (.ref b), .val (.int (Int32.ofNat (own_len N))), .val (.int (Int32.ofNat (A + own_len N)))] [(.int fb), (.int (Int32.ofNat (own_len N))), (.long (Int64.ofNat N)), (.int (Int32.ofNat A)), (.int (9 : Int32)), (.ref b)])) rfl (by rw [hml]; rfl) (argsL := [(.ref b), (.int (9 : Int32)), (.int (Int32.ofNat A)), (.long (Int64.ofNat N)), (.int (Int32.ofNat (own_len N))), (.int fb)]) (rest := []) (lenOf pd_2 rfl) rfl (by show 2 * 0 + _ ≤ _; exact Nat.le_of_eq rfl) (hb hby at_353) (fun _ _ => ⟨rfl, rfl, (by decide : (0 + 1) + 0 ≤ _), (by decide : (0 + 12) + 0 ≤ _)⟩)
    dsimp only [Pt.U, Pt.locs, Pt.cells, Pt.slots] at X6 l6 y6 z6 st6 hQ6
    subst l6 y6 z6
    obtain ⟨rfl, hN6, ek⟩ := hQ6
    have N6 := Fr.app N' hN6
    refine Go.st st6 ?_
    show Go p e s below room_1.cells room_1.slots (Q0 h0 n0) T6 (mkF m 356 #[.val (.long p1), .second, .val (.int p2), .val (.int p3), .val (.int p4), .val (.long (Int64.ofNat N)), .second, .val (.int (Int32.ofNat A)), .val (.int fb), .val (.ref b), .val (.int (Int32.ofNat (own_len N))), .val (.int (Int32.ofNat (A + own_len N)))] [(.int (1 : Int32))])
    refine Go.st (fun _ k_ => XS.ifNo X6.here hx rfl (hb hby at_356) rfl ((if0 _ _).trans (feq (by decide)).1) k_) ?_
    show Go p e s below room_1.cells room_1.slots (Q0 h0 n0) T6 (mkF m 359 #[.val (.long p1), .second, .val (.int p2), .val (.int p3), .val (.int p4), .val (.long (Int64.ofNat N)), .second, .val (.int (Int32.ofNat A)), .val (.int fb), .val (.ref b), .val (.int (Int32.ofNat (own_len N))), .val (.int (Int32.ofNat (A + own_len N)))] [])
    exact ok10 _ _ X6 N6 (by rw [ek]; exact VG) (by rw [ek]; exact ZG)
  have ok8 : ∀ (T : State) (locs : List Loc) (X : Stand p l e room_1 s m #[(.long p1), (.int p2), (.int p3), (.int p4)] below meth c T locs (0 + 1) (0 + 12)) (N' : Fr n0 locs) (VG : AV Z T.heap b .byte 12 (own_e N A (own_len N) fb)) (ZG : n0 ≤ T.heap.size), Go p e s below room_1.cells room_1.slots (Q0 h0 n0) T (mkF m 323 #[.val (.long p1), .second, .val (.int p2), .val (.int p3), .val (.int p4), .val (.long (Int64.ofNat N)), .second, .val (.int (Int32.ofNat A)), .val (.int fb), .val (.ref b), .val (.int (Int32.ofNat (own_len N))), .val (.int (Int32.ofNat (A + own_len N)))] []) := by
    intro T locs X N' VG ZG
    show Go p e s below room_1.cells room_1.slots (Q0 h0 n0) T (mkF m 323 #[.val (.long p1), .second, .val (.int p2), .val (.int p3), .val (.int p4), .val (.long (Int64.ofNat N)), .second, .val (.int (Int32.ofNat A)), .val (.int fb), .val (.ref b), .val (.int (Int32.ofNat (own_len N))), .val (.int (Int32.ofNat (A + own_len N)))] [])
    refine Go.st (fun _ k_ => XS.aload X.here hx rfl (hb hby at_323) rfl rfl k_) ?_
    show Go p e s below room_1.cells room_1.slots (Q0 h0 n0) T (mkF m 325 #[.val (.long p1), .second, .val (.int p2), .val (.int p3), .val (.int p4), .val (.long (Int64.ofNat N)), .second, .val (.int (Int32.ofNat A)), .val (.int fb), .val (.ref b), .val (.int (Int32.ofNat (own_len N))), .val (.int (Int32.ofNat (A + own_len N)))] [(.ref b)])
    refine Go.st (fun _ k_ => XS.bipush X.here hx rfl (hb hby at_325) k_) ?_
    show Go p e s below room_1.cells room_1.slots (Q0 h0 n0) T (mkF m 327 #[.val (.long p1), .second, .val (.int p2), .val (.int p3), .val (.int p4), .val (.long (Int64.ofNat N)), .second, .val (.int (Int32.ofNat A)), .val (.int fb), .val (.ref b), .val (.int (Int32.ofNat (own_len N))), .val (.int (Int32.ofNat (A + own_len N)))] [(.int (8 : Int32)), (.ref b)])
    refine Go.st (fun _ k_ => XS.iload X.here hx rfl (hb hby at_327) rfl k_) ?_
    show Go p e s below room_1.cells room_1.slots (Q0 h0 n0) T (mkF m 329 #[.val (.long p1), .second, .val (.int p2), .val (.int p3), .val (.int p4), .val (.long (Int64.ofNat N)), .second, .val (.int (Int32.ofNat A)), .val (.int fb), .val (.ref b), .val (.int (Int32.ofNat (own_len N))), .val (.int (Int32.ofNat (A + own_len N)))] [(.int (Int32.ofNat A)), (.int (8 : Int32)), (.ref b)])
    refine Go.st (fun _ k_ => XS.lload X.here hx rfl (hb hby at_329) rfl k_) ?_
    show Go p e s below room_1.cells room_1.slots (Q0 h0 n0) T (mkF m 331 #[.val (.long p1), .second, .val (.int p2), .val (.int p3), .val (.int p4), .val (.long (Int64.ofNat N)), .second, .val (.int (Int32.ofNat A)), .val (.int fb), .val (.ref b), .val (.int (Int32.ofNat (own_len N))), .val (.int (Int32.ofNat (A + own_len N)))] [(.long (Int64.ofNat N)), (.int (Int32.ofNat A)), (.int (8 : Int32)), (.ref b)])
    refine Go.st (fun _ k_ => XS.iload X.here hx rfl (hb hby at_331) rfl k_) ?_
    show Go p e s below room_1.cells room_1.slots (Q0 h0 n0) T (mkF m 333 #[.val (.long p1), .second, .val (.int p2), .val (.int p3), .val (.int p4), .val (.long (Int64.ofNat N)), .second, .val (.int (Int32.ofNat A)), .val (.int fb), .val (.ref b), .val (.int (Int32.ofNat (own_len N))), .val (.int (Int32.ofNat (A + own_len N)))] [(.int (Int32.ofNat (own_len N))), (.long (Int64.ofNat N)), (.int (Int32.ofNat A)), (.int (8 : Int32)), (.ref b)])
    refine Go.st (fun _ k_ => XS.iload X.here hx rfl (hb hby at_333) rfl k_) ?_
    show Go p e s below room_1.cells room_1.slots (Q0 h0 n0) T (mkF m 335 #[.val (.long p1), .second, .val (.int p2), .val (.int p3), .val (.int p4), .val (.long (Int64.ofNat N)), .second, .val (.int (Int32.ofNat A)), .val (.int fb), .val (.ref b), .val (.int (Int32.ofNat (own_len N))), .val (.int (Int32.ofNat (A + own_len N)))] [(.int fb), (.int (Int32.ofNat (own_len N))), (.long (Int64.ofNat N)), (.int (Int32.ofNat A)), (.int (8 : Int32)), (.ref b)])
    obtain ⟨_, _, ⟨T7, L7, k7, n7⟩, -, X7, ⟨Lc7, hQ7, l7, y7, z7⟩, st7⟩ := Jvm.LawKit.callS X hx (y := (⟨"com/example/vernal_stem/vernalstem/index/IndexFormatEncodeVarintPinLaw", "ok", "([BIIJIB)Z"⟩ : MethodName)) hown (mvT hZ (hw _ (List.mem_of_getElem? (i := 12) rfl))) (mvT hZ (hw _ (List.mem_of_getElem? (i := 13) rfl))) (mvT hZ (hw _ (List.mem_of_getElem? (i := 5) rfl))) (mvT hZ (hw _ (List.mem_of_getElem? (i := 14) rfl))) (by decide) (backOf (W := 0) (rm3 l Z a0 hw [] b 8 A N (own_len N) fb T.heap n0 ZG (by decide) hA hN hL9 VG) hZ (hw _ (List.mem_of_getElem? (i := 14) rfl)) (hw _ (List.mem_of_getElem? (i := 5) rfl)) (by decide) (by decide)) (g := (mkF m 335 #[.val (.long p1), .second, .val (.int p2), .val (.int p3), .val (.int p4), .val (.long (Int64.ofNat N)), .second, .val (.int (Int32.ofNat A)), .val (.int fb), .val (.ref b), .val (.int (Int32.ofNat (own_len N))), .val (.int (Int32.ofNat (A + own_len N)))] [(.int fb), (.int (Int32.ofNat (own_len N))), (.long (Int64.ofNat N)), (.int (Int32.ofNat A)), (.int (8 : Int32)), (.ref b)])) rfl (by rw [hml]; rfl) (argsL := [(.ref b), (.int (8 : Int32)), (.int (Int32.ofNat A)), (.long (Int64.ofNat N)), (.int (Int32.ofNat (own_len N))), (.int fb)]) (rest := []) (lenOf pd_2 rfl) rfl (by show 2 * 0 + _ ≤ _; exact Nat.le_of_eq rfl) (hb hby at_335) (fun _ _ => ⟨rfl, rfl, (by decide : (0 + 1) + 0 ≤ _), (by decide : (0 + 12) + 0 ≤ _)⟩)
    dsimp only [Pt.U, Pt.locs, Pt.cells, Pt.slots] at X7 l7 y7 z7 st7 hQ7
    subst l7 y7 z7
    obtain ⟨rfl, hN7, ek⟩ := hQ7
    have N7 := Fr.app N' hN7
    refine Go.st st7 ?_
    show Go p e s below room_1.cells room_1.slots (Q0 h0 n0) T7 (mkF m 338 #[.val (.long p1), .second, .val (.int p2), .val (.int p3), .val (.int p4), .val (.long (Int64.ofNat N)), .second, .val (.int (Int32.ofNat A)), .val (.int fb), .val (.ref b), .val (.int (Int32.ofNat (own_len N))), .val (.int (Int32.ofNat (A + own_len N)))] [(.int (1 : Int32))])
    refine Go.st (fun _ k_ => XS.ifNo X7.here hx rfl (hb hby at_338) rfl ((if0 _ _).trans (feq (by decide)).1) k_) ?_
    show Go p e s below room_1.cells room_1.slots (Q0 h0 n0) T7 (mkF m 341 #[.val (.long p1), .second, .val (.int p2), .val (.int p3), .val (.int p4), .val (.long (Int64.ofNat N)), .second, .val (.int (Int32.ofNat A)), .val (.int fb), .val (.ref b), .val (.int (Int32.ofNat (own_len N))), .val (.int (Int32.ofNat (A + own_len N)))] [])
    exact ok9 _ _ X7 N7 (by rw [ek]; exact VG) (by rw [ek]; exact ZG)
  have ok7 : ∀ (T : State) (locs : List Loc) (X : Stand p l e room_1 s m #[(.long p1), (.int p2), (.int p3), (.int p4)] below meth c T locs (0 + 1) (0 + 12)) (N' : Fr n0 locs) (VG : AV Z T.heap b .byte 12 (own_e N A (own_len N) fb)) (ZG : n0 ≤ T.heap.size), Go p e s below room_1.cells room_1.slots (Q0 h0 n0) T (mkF m 305 #[.val (.long p1), .second, .val (.int p2), .val (.int p3), .val (.int p4), .val (.long (Int64.ofNat N)), .second, .val (.int (Int32.ofNat A)), .val (.int fb), .val (.ref b), .val (.int (Int32.ofNat (own_len N))), .val (.int (Int32.ofNat (A + own_len N)))] []) := by
    intro T locs X N' VG ZG
    show Go p e s below room_1.cells room_1.slots (Q0 h0 n0) T (mkF m 305 #[.val (.long p1), .second, .val (.int p2), .val (.int p3), .val (.int p4), .val (.long (Int64.ofNat N)), .second, .val (.int (Int32.ofNat A)), .val (.int fb), .val (.ref b), .val (.int (Int32.ofNat (own_len N))), .val (.int (Int32.ofNat (A + own_len N)))] [])
    refine Go.st (fun _ k_ => XS.aload X.here hx rfl (hb hby at_305) rfl rfl k_) ?_
    show Go p e s below room_1.cells room_1.slots (Q0 h0 n0) T (mkF m 307 #[.val (.long p1), .second, .val (.int p2), .val (.int p3), .val (.int p4), .val (.long (Int64.ofNat N)), .second, .val (.int (Int32.ofNat A)), .val (.int fb), .val (.ref b), .val (.int (Int32.ofNat (own_len N))), .val (.int (Int32.ofNat (A + own_len N)))] [(.ref b)])
    refine Go.st (fun _ k_ => XS.bipush X.here hx rfl (hb hby at_307) k_) ?_
    show Go p e s below room_1.cells room_1.slots (Q0 h0 n0) T (mkF m 309 #[.val (.long p1), .second, .val (.int p2), .val (.int p3), .val (.int p4), .val (.long (Int64.ofNat N)), .second, .val (.int (Int32.ofNat A)), .val (.int fb), .val (.ref b), .val (.int (Int32.ofNat (own_len N))), .val (.int (Int32.ofNat (A + own_len N)))] [(.int (7 : Int32)), (.ref b)])
    refine Go.st (fun _ k_ => XS.iload X.here hx rfl (hb hby at_309) rfl k_) ?_
    show Go p e s below room_1.cells room_1.slots (Q0 h0 n0) T (mkF m 311 #[.val (.long p1), .second, .val (.int p2), .val (.int p3), .val (.int p4), .val (.long (Int64.ofNat N)), .second, .val (.int (Int32.ofNat A)), .val (.int fb), .val (.ref b), .val (.int (Int32.ofNat (own_len N))), .val (.int (Int32.ofNat (A + own_len N)))] [(.int (Int32.ofNat A)), (.int (7 : Int32)), (.ref b)])
    refine Go.st (fun _ k_ => XS.lload X.here hx rfl (hb hby at_311) rfl k_) ?_
    show Go p e s below room_1.cells room_1.slots (Q0 h0 n0) T (mkF m 313 #[.val (.long p1), .second, .val (.int p2), .val (.int p3), .val (.int p4), .val (.long (Int64.ofNat N)), .second, .val (.int (Int32.ofNat A)), .val (.int fb), .val (.ref b), .val (.int (Int32.ofNat (own_len N))), .val (.int (Int32.ofNat (A + own_len N)))] [(.long (Int64.ofNat N)), (.int (Int32.ofNat A)), (.int (7 : Int32)), (.ref b)])
    refine Go.st (fun _ k_ => XS.iload X.here hx rfl (hb hby at_313) rfl k_) ?_
    show Go p e s below room_1.cells room_1.slots (Q0 h0 n0) T (mkF m 315 #[.val (.long p1), .second, .val (.int p2), .val (.int p3), .val (.int p4), .val (.long (Int64.ofNat N)), .second, .val (.int (Int32.ofNat A)), .val (.int fb), .val (.ref b), .val (.int (Int32.ofNat (own_len N))), .val (.int (Int32.ofNat (A + own_len N)))] [(.int (Int32.ofNat (own_len N))), (.long (Int64.ofNat N)), (.int (Int32.ofNat A)), (.int (7 : Int32)), (.ref b)])
    refine Go.st (fun _ k_ => XS.iload X.here hx rfl (hb hby at_315) rfl k_) ?_
    show Go p e s below room_1.cells room_1.slots (Q0 h0 n0) T (mkF m 317 #[.val (.long p1), .second, .val (.int p2), .val (.int p3), .val (.int p4), .val (.long (Int64.ofNat N)), .second, .val (.int (Int32.ofNat A)), .val (.int fb), .val (.ref b), .val (.int (Int32.ofNat (own_len N))), .val (.int (Int32.ofNat (A + own_len N)))] [(.int fb), (.int (Int32.ofNat (own_len N))), (.long (Int64.ofNat N)), (.int (Int32.ofNat A)), (.int (7 : Int32)), (.ref b)])
    obtain ⟨_, _, ⟨T8, L8, k8, n8⟩, -, X8, ⟨Lc8, hQ8, l8, y8, z8⟩, st8⟩ := Jvm.LawKit.callS X hx (y := (⟨"com/example/vernal_stem/vernalstem/index/IndexFormatEncodeVarintPinLaw", "ok", "([BIIJIB)Z"⟩ : MethodName)) hown (mvT hZ (hw _ (List.mem_of_getElem? (i := 12) rfl))) (mvT hZ (hw _ (List.mem_of_getElem? (i := 13) rfl))) (mvT hZ (hw _ (List.mem_of_getElem? (i := 5) rfl))) (mvT hZ (hw _ (List.mem_of_getElem? (i := 14) rfl))) (by decide) (backOf (W := 0) (rm3 l Z a0 hw [] b 7 A N (own_len N) fb T.heap n0 ZG (by decide) hA hN hL9 VG) hZ (hw _ (List.mem_of_getElem? (i := 14) rfl)) (hw _ (List.mem_of_getElem? (i := 5) rfl)) (by decide) (by decide)) (g := (mkF m 317 #[.val (.long p1), .second, .val (.int p2), .val (.int p3), .val (.int p4), .val (.long (Int64.ofNat N)), .second, .val (.int (Int32.ofNat A)), .val (.int fb), .val (.ref b), .val (.int (Int32.ofNat (own_len N))), .val (.int (Int32.ofNat (A + own_len N)))] [(.int fb), (.int (Int32.ofNat (own_len N))), (.long (Int64.ofNat N)), (.int (Int32.ofNat A)), (.int (7 : Int32)), (.ref b)])) rfl (by rw [hml]; rfl) (argsL := [(.ref b), (.int (7 : Int32)), (.int (Int32.ofNat A)), (.long (Int64.ofNat N)), (.int (Int32.ofNat (own_len N))), (.int fb)]) (rest := []) (lenOf pd_2 rfl) rfl (by show 2 * 0 + _ ≤ _; exact Nat.le_of_eq rfl) (hb hby at_317) (fun _ _ => ⟨rfl, rfl, (by decide : (0 + 1) + 0 ≤ _), (by decide : (0 + 12) + 0 ≤ _)⟩)
    dsimp only [Pt.U, Pt.locs, Pt.cells, Pt.slots] at X8 l8 y8 z8 st8 hQ8
    subst l8 y8 z8
    obtain ⟨rfl, hN8, ek⟩ := hQ8
    have N8 := Fr.app N' hN8
    refine Go.st st8 ?_
    show Go p e s below room_1.cells room_1.slots (Q0 h0 n0) T8 (mkF m 320 #[.val (.long p1), .second, .val (.int p2), .val (.int p3), .val (.int p4), .val (.long (Int64.ofNat N)), .second, .val (.int (Int32.ofNat A)), .val (.int fb), .val (.ref b), .val (.int (Int32.ofNat (own_len N))), .val (.int (Int32.ofNat (A + own_len N)))] [(.int (1 : Int32))])
    refine Go.st (fun _ k_ => XS.ifNo X8.here hx rfl (hb hby at_320) rfl ((if0 _ _).trans (feq (by decide)).1) k_) ?_
    show Go p e s below room_1.cells room_1.slots (Q0 h0 n0) T8 (mkF m 323 #[.val (.long p1), .second, .val (.int p2), .val (.int p3), .val (.int p4), .val (.long (Int64.ofNat N)), .second, .val (.int (Int32.ofNat A)), .val (.int fb), .val (.ref b), .val (.int (Int32.ofNat (own_len N))), .val (.int (Int32.ofNat (A + own_len N)))] [])
    exact ok8 _ _ X8 N8 (by rw [ek]; exact VG) (by rw [ek]; exact ZG)
  have ok6 : ∀ (T : State) (locs : List Loc) (X : Stand p l e room_1 s m #[(.long p1), (.int p2), (.int p3), (.int p4)] below meth c T locs (0 + 1) (0 + 12)) (N' : Fr n0 locs) (VG : AV Z T.heap b .byte 12 (own_e N A (own_len N) fb)) (ZG : n0 ≤ T.heap.size), Go p e s below room_1.cells room_1.slots (Q0 h0 n0) T (mkF m 287 #[.val (.long p1), .second, .val (.int p2), .val (.int p3), .val (.int p4), .val (.long (Int64.ofNat N)), .second, .val (.int (Int32.ofNat A)), .val (.int fb), .val (.ref b), .val (.int (Int32.ofNat (own_len N))), .val (.int (Int32.ofNat (A + own_len N)))] []) := by
    intro T locs X N' VG ZG
    show Go p e s below room_1.cells room_1.slots (Q0 h0 n0) T (mkF m 287 #[.val (.long p1), .second, .val (.int p2), .val (.int p3), .val (.int p4), .val (.long (Int64.ofNat N)), .second, .val (.int (Int32.ofNat A)), .val (.int fb), .val (.ref b), .val (.int (Int32.ofNat (own_len N))), .val (.int (Int32.ofNat (A + own_len N)))] [])
    refine Go.st (fun _ k_ => XS.aload X.here hx rfl (hb hby at_287) rfl rfl k_) ?_
    show Go p e s below room_1.cells room_1.slots (Q0 h0 n0) T (mkF m 289 #[.val (.long p1), .second, .val (.int p2), .val (.int p3), .val (.int p4), .val (.long (Int64.ofNat N)), .second, .val (.int (Int32.ofNat A)), .val (.int fb), .val (.ref b), .val (.int (Int32.ofNat (own_len N))), .val (.int (Int32.ofNat (A + own_len N)))] [(.ref b)])
    refine Go.st (fun _ k_ => XS.bipush X.here hx rfl (hb hby at_289) k_) ?_
    show Go p e s below room_1.cells room_1.slots (Q0 h0 n0) T (mkF m 291 #[.val (.long p1), .second, .val (.int p2), .val (.int p3), .val (.int p4), .val (.long (Int64.ofNat N)), .second, .val (.int (Int32.ofNat A)), .val (.int fb), .val (.ref b), .val (.int (Int32.ofNat (own_len N))), .val (.int (Int32.ofNat (A + own_len N)))] [(.int (6 : Int32)), (.ref b)])
    refine Go.st (fun _ k_ => XS.iload X.here hx rfl (hb hby at_291) rfl k_) ?_
    show Go p e s below room_1.cells room_1.slots (Q0 h0 n0) T (mkF m 293 #[.val (.long p1), .second, .val (.int p2), .val (.int p3), .val (.int p4), .val (.long (Int64.ofNat N)), .second, .val (.int (Int32.ofNat A)), .val (.int fb), .val (.ref b), .val (.int (Int32.ofNat (own_len N))), .val (.int (Int32.ofNat (A + own_len N)))] [(.int (Int32.ofNat A)), (.int (6 : Int32)), (.ref b)])
    refine Go.st (fun _ k_ => XS.lload X.here hx rfl (hb hby at_293) rfl k_) ?_
    show Go p e s below room_1.cells room_1.slots (Q0 h0 n0) T (mkF m 295 #[.val (.long p1), .second, .val (.int p2), .val (.int p3), .val (.int p4), .val (.long (Int64.ofNat N)), .second, .val (.int (Int32.ofNat A)), .val (.int fb), .val (.ref b), .val (.int (Int32.ofNat (own_len N))), .val (.int (Int32.ofNat (A + own_len N)))] [(.long (Int64.ofNat N)), (.int (Int32.ofNat A)), (.int (6 : Int32)), (.ref b)])
    refine Go.st (fun _ k_ => XS.iload X.here hx rfl (hb hby at_295) rfl k_) ?_
    show Go p e s below room_1.cells room_1.slots (Q0 h0 n0) T (mkF m 297 #[.val (.long p1), .second, .val (.int p2), .val (.int p3), .val (.int p4), .val (.long (Int64.ofNat N)), .second, .val (.int (Int32.ofNat A)), .val (.int fb), .val (.ref b), .val (.int (Int32.ofNat (own_len N))), .val (.int (Int32.ofNat (A + own_len N)))] [(.int (Int32.ofNat (own_len N))), (.long (Int64.ofNat N)), (.int (Int32.ofNat A)), (.int (6 : Int32)), (.ref b)])
    refine Go.st (fun _ k_ => XS.iload X.here hx rfl (hb hby at_297) rfl k_) ?_
    show Go p e s below room_1.cells room_1.slots (Q0 h0 n0) T (mkF m 299 #[.val (.long p1), .second, .val (.int p2), .val (.int p3), .val (.int p4), .val (.long (Int64.ofNat N)), .second, .val (.int (Int32.ofNat A)), .val (.int fb), .val (.ref b), .val (.int (Int32.ofNat (own_len N))), .val (.int (Int32.ofNat (A + own_len N)))] [(.int fb), (.int (Int32.ofNat (own_len N))), (.long (Int64.ofNat N)), (.int (Int32.ofNat A)), (.int (6 : Int32)), (.ref b)])
    obtain ⟨_, _, ⟨T9, L9, k9, n9⟩, -, X9, ⟨Lc9, hQ9, l9, y9, z9⟩, st9⟩ := Jvm.LawKit.callS X hx (y := (⟨"com/example/vernal_stem/vernalstem/index/IndexFormatEncodeVarintPinLaw", "ok", "([BIIJIB)Z"⟩ : MethodName)) hown (mvT hZ (hw _ (List.mem_of_getElem? (i := 12) rfl))) (mvT hZ (hw _ (List.mem_of_getElem? (i := 13) rfl))) (mvT hZ (hw _ (List.mem_of_getElem? (i := 5) rfl))) (mvT hZ (hw _ (List.mem_of_getElem? (i := 14) rfl))) (by decide) (backOf (W := 0) (rm3 l Z a0 hw [] b 6 A N (own_len N) fb T.heap n0 ZG (by decide) hA hN hL9 VG) hZ (hw _ (List.mem_of_getElem? (i := 14) rfl)) (hw _ (List.mem_of_getElem? (i := 5) rfl)) (by decide) (by decide)) (g := (mkF m 299 #[.val (.long p1), .second, .val (.int p2), .val (.int p3), .val (.int p4), .val (.long (Int64.ofNat N)), .second, .val (.int (Int32.ofNat A)), .val (.int fb), .val (.ref b), .val (.int (Int32.ofNat (own_len N))), .val (.int (Int32.ofNat (A + own_len N)))] [(.int fb), (.int (Int32.ofNat (own_len N))), (.long (Int64.ofNat N)), (.int (Int32.ofNat A)), (.int (6 : Int32)), (.ref b)])) rfl (by rw [hml]; rfl) (argsL := [(.ref b), (.int (6 : Int32)), (.int (Int32.ofNat A)), (.long (Int64.ofNat N)), (.int (Int32.ofNat (own_len N))), (.int fb)]) (rest := []) (lenOf pd_2 rfl) rfl (by show 2 * 0 + _ ≤ _; exact Nat.le_of_eq rfl) (hb hby at_299) (fun _ _ => ⟨rfl, rfl, (by decide : (0 + 1) + 0 ≤ _), (by decide : (0 + 12) + 0 ≤ _)⟩)
    dsimp only [Pt.U, Pt.locs, Pt.cells, Pt.slots] at X9 l9 y9 z9 st9 hQ9
    subst l9 y9 z9
    obtain ⟨rfl, hN9, ek⟩ := hQ9
    have N9 := Fr.app N' hN9
    refine Go.st st9 ?_
    show Go p e s below room_1.cells room_1.slots (Q0 h0 n0) T9 (mkF m 302 #[.val (.long p1), .second, .val (.int p2), .val (.int p3), .val (.int p4), .val (.long (Int64.ofNat N)), .second, .val (.int (Int32.ofNat A)), .val (.int fb), .val (.ref b), .val (.int (Int32.ofNat (own_len N))), .val (.int (Int32.ofNat (A + own_len N)))] [(.int (1 : Int32))])
    refine Go.st (fun _ k_ => XS.ifNo X9.here hx rfl (hb hby at_302) rfl ((if0 _ _).trans (feq (by decide)).1) k_) ?_
    show Go p e s below room_1.cells room_1.slots (Q0 h0 n0) T9 (mkF m 305 #[.val (.long p1), .second, .val (.int p2), .val (.int p3), .val (.int p4), .val (.long (Int64.ofNat N)), .second, .val (.int (Int32.ofNat A)), .val (.int fb), .val (.ref b), .val (.int (Int32.ofNat (own_len N))), .val (.int (Int32.ofNat (A + own_len N)))] [])
    exact ok7 _ _ X9 N9 (by rw [ek]; exact VG) (by rw [ek]; exact ZG)
  have ok5 : ∀ (T : State) (locs : List Loc) (X : Stand p l e room_1 s m #[(.long p1), (.int p2), (.int p3), (.int p4)] below meth c T locs (0 + 1) (0 + 12)) (N' : Fr n0 locs) (VG : AV Z T.heap b .byte 12 (own_e N A (own_len N) fb)) (ZG : n0 ≤ T.heap.size), Go p e s below room_1.cells room_1.slots (Q0 h0 n0) T (mkF m 270 #[.val (.long p1), .second, .val (.int p2), .val (.int p3), .val (.int p4), .val (.long (Int64.ofNat N)), .second, .val (.int (Int32.ofNat A)), .val (.int fb), .val (.ref b), .val (.int (Int32.ofNat (own_len N))), .val (.int (Int32.ofNat (A + own_len N)))] []) := by
    intro T locs X N' VG ZG
    show Go p e s below room_1.cells room_1.slots (Q0 h0 n0) T (mkF m 270 #[.val (.long p1), .second, .val (.int p2), .val (.int p3), .val (.int p4), .val (.long (Int64.ofNat N)), .second, .val (.int (Int32.ofNat A)), .val (.int fb), .val (.ref b), .val (.int (Int32.ofNat (own_len N))), .val (.int (Int32.ofNat (A + own_len N)))] [])
    refine Go.st (fun _ k_ => XS.aload X.here hx rfl (hb hby at_270) rfl rfl k_) ?_
    show Go p e s below room_1.cells room_1.slots (Q0 h0 n0) T (mkF m 272 #[.val (.long p1), .second, .val (.int p2), .val (.int p3), .val (.int p4), .val (.long (Int64.ofNat N)), .second, .val (.int (Int32.ofNat A)), .val (.int fb), .val (.ref b), .val (.int (Int32.ofNat (own_len N))), .val (.int (Int32.ofNat (A + own_len N)))] [(.ref b)])
    refine Go.st (fun _ k_ => XS.iconst X.here hx rfl (hb hby at_272) k_) ?_
    show Go p e s below room_1.cells room_1.slots (Q0 h0 n0) T (mkF m 273 #[.val (.long p1), .second, .val (.int p2), .val (.int p3), .val (.int p4), .val (.long (Int64.ofNat N)), .second, .val (.int (Int32.ofNat A)), .val (.int fb), .val (.ref b), .val (.int (Int32.ofNat (own_len N))), .val (.int (Int32.ofNat (A + own_len N)))] [(.int (5 : Int32)), (.ref b)])
    refine Go.st (fun _ k_ => XS.iload X.here hx rfl (hb hby at_273) rfl k_) ?_
    show Go p e s below room_1.cells room_1.slots (Q0 h0 n0) T (mkF m 275 #[.val (.long p1), .second, .val (.int p2), .val (.int p3), .val (.int p4), .val (.long (Int64.ofNat N)), .second, .val (.int (Int32.ofNat A)), .val (.int fb), .val (.ref b), .val (.int (Int32.ofNat (own_len N))), .val (.int (Int32.ofNat (A + own_len N)))] [(.int (Int32.ofNat A)), (.int (5 : Int32)), (.ref b)])
    refine Go.st (fun _ k_ => XS.lload X.here hx rfl (hb hby at_275) rfl k_) ?_
    show Go p e s below room_1.cells room_1.slots (Q0 h0 n0) T (mkF m 277 #[.val (.long p1), .second, .val (.int p2), .val (.int p3), .val (.int p4), .val (.long (Int64.ofNat N)), .second, .val (.int (Int32.ofNat A)), .val (.int fb), .val (.ref b), .val (.int (Int32.ofNat (own_len N))), .val (.int (Int32.ofNat (A + own_len N)))] [(.long (Int64.ofNat N)), (.int (Int32.ofNat A)), (.int (5 : Int32)), (.ref b)])
    refine Go.st (fun _ k_ => XS.iload X.here hx rfl (hb hby at_277) rfl k_) ?_
    show Go p e s below room_1.cells room_1.slots (Q0 h0 n0) T (mkF m 279 #[.val (.long p1), .second, .val (.int p2), .val (.int p3), .val (.int p4), .val (.long (Int64.ofNat N)), .second, .val (.int (Int32.ofNat A)), .val (.int fb), .val (.ref b), .val (.int (Int32.ofNat (own_len N))), .val (.int (Int32.ofNat (A + own_len N)))] [(.int (Int32.ofNat (own_len N))), (.long (Int64.ofNat N)), (.int (Int32.ofNat A)), (.int (5 : Int32)), (.ref b)])
    refine Go.st (fun _ k_ => XS.iload X.here hx rfl (hb hby at_279) rfl k_) ?_
    show Go p e s below room_1.cells room_1.slots (Q0 h0 n0) T (mkF m 281 #[.val (.long p1), .second, .val (.int p2), .val (.int p3), .val (.int p4), .val (.long (Int64.ofNat N)), .second, .val (.int (Int32.ofNat A)), .val (.int fb), .val (.ref b), .val (.int (Int32.ofNat (own_len N))), .val (.int (Int32.ofNat (A + own_len N)))] [(.int fb), (.int (Int32.ofNat (own_len N))), (.long (Int64.ofNat N)), (.int (Int32.ofNat A)), (.int (5 : Int32)), (.ref b)])
    obtain ⟨_, _, ⟨T10, L10, k10, n10⟩, -, X10, ⟨Lc10, hQ10, l10, y10, z10⟩, st10⟩ := Jvm.LawKit.callS X hx (y := (⟨"com/example/vernal_stem/vernalstem/index/IndexFormatEncodeVarintPinLaw", "ok", "([BIIJIB)Z"⟩ : MethodName)) hown (mvT hZ (hw _ (List.mem_of_getElem? (i := 12) rfl))) (mvT hZ (hw _ (List.mem_of_getElem? (i := 13) rfl))) (mvT hZ (hw _ (List.mem_of_getElem? (i := 5) rfl))) (mvT hZ (hw _ (List.mem_of_getElem? (i := 14) rfl))) (by decide) (backOf (W := 0) (rm3 l Z a0 hw [] b 5 A N (own_len N) fb T.heap n0 ZG (by decide) hA hN hL9 VG) hZ (hw _ (List.mem_of_getElem? (i := 14) rfl)) (hw _ (List.mem_of_getElem? (i := 5) rfl)) (by decide) (by decide)) (g := (mkF m 281 #[.val (.long p1), .second, .val (.int p2), .val (.int p3), .val (.int p4), .val (.long (Int64.ofNat N)), .second, .val (.int (Int32.ofNat A)), .val (.int fb), .val (.ref b), .val (.int (Int32.ofNat (own_len N))), .val (.int (Int32.ofNat (A + own_len N)))] [(.int fb), (.int (Int32.ofNat (own_len N))), (.long (Int64.ofNat N)), (.int (Int32.ofNat A)), (.int (5 : Int32)), (.ref b)])) rfl (by rw [hml]; rfl) (argsL := [(.ref b), (.int (5 : Int32)), (.int (Int32.ofNat A)), (.long (Int64.ofNat N)), (.int (Int32.ofNat (own_len N))), (.int fb)]) (rest := []) (lenOf pd_2 rfl) rfl (by show 2 * 0 + _ ≤ _; exact Nat.le_of_eq rfl) (hb hby at_281) (fun _ _ => ⟨rfl, rfl, (by decide : (0 + 1) + 0 ≤ _), (by decide : (0 + 12) + 0 ≤ _)⟩)
    dsimp only [Pt.U, Pt.locs, Pt.cells, Pt.slots] at X10 l10 y10 z10 st10 hQ10
    subst l10 y10 z10
    obtain ⟨rfl, hN10, ek⟩ := hQ10
    have N10 := Fr.app N' hN10
    refine Go.st st10 ?_
    show Go p e s below room_1.cells room_1.slots (Q0 h0 n0) T10 (mkF m 284 #[.val (.long p1), .second, .val (.int p2), .val (.int p3), .val (.int p4), .val (.long (Int64.ofNat N)), .second, .val (.int (Int32.ofNat A)), .val (.int fb), .val (.ref b), .val (.int (Int32.ofNat (own_len N))), .val (.int (Int32.ofNat (A + own_len N)))] [(.int (1 : Int32))])
    refine Go.st (fun _ k_ => XS.ifNo X10.here hx rfl (hb hby at_284) rfl ((if0 _ _).trans (feq (by decide)).1) k_) ?_
    show Go p e s below room_1.cells room_1.slots (Q0 h0 n0) T10 (mkF m 287 #[.val (.long p1), .second, .val (.int p2), .val (.int p3), .val (.int p4), .val (.long (Int64.ofNat N)), .second, .val (.int (Int32.ofNat A)), .val (.int fb), .val (.ref b), .val (.int (Int32.ofNat (own_len N))), .val (.int (Int32.ofNat (A + own_len N)))] [])
    exact ok6 _ _ X10 N10 (by rw [ek]; exact VG) (by rw [ek]; exact ZG)
  have ok4 : ∀ (T : State) (locs : List Loc) (X : Stand p l e room_1 s m #[(.long p1), (.int p2), (.int p3), (.int p4)] below meth c T locs (0 + 1) (0 + 12)) (N' : Fr n0 locs) (VG : AV Z T.heap b .byte 12 (own_e N A (own_len N) fb)) (ZG : n0 ≤ T.heap.size), Go p e s below room_1.cells room_1.slots (Q0 h0 n0) T (mkF m 253 #[.val (.long p1), .second, .val (.int p2), .val (.int p3), .val (.int p4), .val (.long (Int64.ofNat N)), .second, .val (.int (Int32.ofNat A)), .val (.int fb), .val (.ref b), .val (.int (Int32.ofNat (own_len N))), .val (.int (Int32.ofNat (A + own_len N)))] []) := by
    intro T locs X N' VG ZG
    show Go p e s below room_1.cells room_1.slots (Q0 h0 n0) T (mkF m 253 #[.val (.long p1), .second, .val (.int p2), .val (.int p3), .val (.int p4), .val (.long (Int64.ofNat N)), .second, .val (.int (Int32.ofNat A)), .val (.int fb), .val (.ref b), .val (.int (Int32.ofNat (own_len N))), .val (.int (Int32.ofNat (A + own_len N)))] [])
    refine Go.st (fun _ k_ => XS.aload X.here hx rfl (hb hby at_253) rfl rfl k_) ?_
    show Go p e s below room_1.cells room_1.slots (Q0 h0 n0) T (mkF m 255 #[.val (.long p1), .second, .val (.int p2), .val (.int p3), .val (.int p4), .val (.long (Int64.ofNat N)), .second, .val (.int (Int32.ofNat A)), .val (.int fb), .val (.ref b), .val (.int (Int32.ofNat (own_len N))), .val (.int (Int32.ofNat (A + own_len N)))] [(.ref b)])
    refine Go.st (fun _ k_ => XS.iconst X.here hx rfl (hb hby at_255) k_) ?_
    show Go p e s below room_1.cells room_1.slots (Q0 h0 n0) T (mkF m 256 #[.val (.long p1), .second, .val (.int p2), .val (.int p3), .val (.int p4), .val (.long (Int64.ofNat N)), .second, .val (.int (Int32.ofNat A)), .val (.int fb), .val (.ref b), .val (.int (Int32.ofNat (own_len N))), .val (.int (Int32.ofNat (A + own_len N)))] [(.int (4 : Int32)), (.ref b)])
    refine Go.st (fun _ k_ => XS.iload X.here hx rfl (hb hby at_256) rfl k_) ?_
    show Go p e s below room_1.cells room_1.slots (Q0 h0 n0) T (mkF m 258 #[.val (.long p1), .second, .val (.int p2), .val (.int p3), .val (.int p4), .val (.long (Int64.ofNat N)), .second, .val (.int (Int32.ofNat A)), .val (.int fb), .val (.ref b), .val (.int (Int32.ofNat (own_len N))), .val (.int (Int32.ofNat (A + own_len N)))] [(.int (Int32.ofNat A)), (.int (4 : Int32)), (.ref b)])
    refine Go.st (fun _ k_ => XS.lload X.here hx rfl (hb hby at_258) rfl k_) ?_
    show Go p e s below room_1.cells room_1.slots (Q0 h0 n0) T (mkF m 260 #[.val (.long p1), .second, .val (.int p2), .val (.int p3), .val (.int p4), .val (.long (Int64.ofNat N)), .second, .val (.int (Int32.ofNat A)), .val (.int fb), .val (.ref b), .val (.int (Int32.ofNat (own_len N))), .val (.int (Int32.ofNat (A + own_len N)))] [(.long (Int64.ofNat N)), (.int (Int32.ofNat A)), (.int (4 : Int32)), (.ref b)])
    refine Go.st (fun _ k_ => XS.iload X.here hx rfl (hb hby at_260) rfl k_) ?_
    show Go p e s below room_1.cells room_1.slots (Q0 h0 n0) T (mkF m 262 #[.val (.long p1), .second, .val (.int p2), .val (.int p3), .val (.int p4), .val (.long (Int64.ofNat N)), .second, .val (.int (Int32.ofNat A)), .val (.int fb), .val (.ref b), .val (.int (Int32.ofNat (own_len N))), .val (.int (Int32.ofNat (A + own_len N)))] [(.int (Int32.ofNat (own_len N))), (.long (Int64.ofNat N)), (.int (Int32.ofNat A)), (.int (4 : Int32)), (.ref b)])
    refine Go.st (fun _ k_ => XS.iload X.here hx rfl (hb hby at_262) rfl k_) ?_
    show Go p e s below room_1.cells room_1.slots (Q0 h0 n0) T (mkF m 264 #[.val (.long p1), .second, .val (.int p2), .val (.int p3), .val (.int p4), .val (.long (Int64.ofNat N)), .second, .val (.int (Int32.ofNat A)), .val (.int fb), .val (.ref b), .val (.int (Int32.ofNat (own_len N))), .val (.int (Int32.ofNat (A + own_len N)))] [(.int fb), (.int (Int32.ofNat (own_len N))), (.long (Int64.ofNat N)), (.int (Int32.ofNat A)), (.int (4 : Int32)), (.ref b)])
    obtain ⟨_, _, ⟨T11, L11, k11, n11⟩, -, X11, ⟨Lc11, hQ11, l11, y11, z11⟩, st11⟩ := Jvm.LawKit.callS X hx (y := (⟨"com/example/vernal_stem/vernalstem/index/IndexFormatEncodeVarintPinLaw", "ok", "([BIIJIB)Z"⟩ : MethodName)) hown (mvT hZ (hw _ (List.mem_of_getElem? (i := 12) rfl))) (mvT hZ (hw _ (List.mem_of_getElem? (i := 13) rfl))) (mvT hZ (hw _ (List.mem_of_getElem? (i := 5) rfl))) (mvT hZ (hw _ (List.mem_of_getElem? (i := 14) rfl))) (by decide) (backOf (W := 0) (rm3 l Z a0 hw [] b 4 A N (own_len N) fb T.heap n0 ZG (by decide) hA hN hL9 VG) hZ (hw _ (List.mem_of_getElem? (i := 14) rfl)) (hw _ (List.mem_of_getElem? (i := 5) rfl)) (by decide) (by decide)) (g := (mkF m 264 #[.val (.long p1), .second, .val (.int p2), .val (.int p3), .val (.int p4), .val (.long (Int64.ofNat N)), .second, .val (.int (Int32.ofNat A)), .val (.int fb), .val (.ref b), .val (.int (Int32.ofNat (own_len N))), .val (.int (Int32.ofNat (A + own_len N)))] [(.int fb), (.int (Int32.ofNat (own_len N))), (.long (Int64.ofNat N)), (.int (Int32.ofNat A)), (.int (4 : Int32)), (.ref b)])) rfl (by rw [hml]; rfl) (argsL := [(.ref b), (.int (4 : Int32)), (.int (Int32.ofNat A)), (.long (Int64.ofNat N)), (.int (Int32.ofNat (own_len N))), (.int fb)]) (rest := []) (lenOf pd_2 rfl) rfl (by show 2 * 0 + _ ≤ _; exact Nat.le_of_eq rfl) (hb hby at_264) (fun _ _ => ⟨rfl, rfl, (by decide : (0 + 1) + 0 ≤ _), (by decide : (0 + 12) + 0 ≤ _)⟩)
    dsimp only [Pt.U, Pt.locs, Pt.cells, Pt.slots] at X11 l11 y11 z11 st11 hQ11
    subst l11 y11 z11
    obtain ⟨rfl, hN11, ek⟩ := hQ11
    have N11 := Fr.app N' hN11
    refine Go.st st11 ?_
    show Go p e s below room_1.cells room_1.slots (Q0 h0 n0) T11 (mkF m 267 #[.val (.long p1), .second, .val (.int p2), .val (.int p3), .val (.int p4), .val (.long (Int64.ofNat N)), .second, .val (.int (Int32.ofNat A)), .val (.int fb), .val (.ref b), .val (.int (Int32.ofNat (own_len N))), .val (.int (Int32.ofNat (A + own_len N)))] [(.int (1 : Int32))])
    refine Go.st (fun _ k_ => XS.ifNo X11.here hx rfl (hb hby at_267) rfl ((if0 _ _).trans (feq (by decide)).1) k_) ?_
    show Go p e s below room_1.cells room_1.slots (Q0 h0 n0) T11 (mkF m 270 #[.val (.long p1), .second, .val (.int p2), .val (.int p3), .val (.int p4), .val (.long (Int64.ofNat N)), .second, .val (.int (Int32.ofNat A)), .val (.int fb), .val (.ref b), .val (.int (Int32.ofNat (own_len N))), .val (.int (Int32.ofNat (A + own_len N)))] [])
    exact ok5 _ _ X11 N11 (by rw [ek]; exact VG) (by rw [ek]; exact ZG)
  have ok3 : ∀ (T : State) (locs : List Loc) (X : Stand p l e room_1 s m #[(.long p1), (.int p2), (.int p3), (.int p4)] below meth c T locs (0 + 1) (0 + 12)) (N' : Fr n0 locs) (VG : AV Z T.heap b .byte 12 (own_e N A (own_len N) fb)) (ZG : n0 ≤ T.heap.size), Go p e s below room_1.cells room_1.slots (Q0 h0 n0) T (mkF m 236 #[.val (.long p1), .second, .val (.int p2), .val (.int p3), .val (.int p4), .val (.long (Int64.ofNat N)), .second, .val (.int (Int32.ofNat A)), .val (.int fb), .val (.ref b), .val (.int (Int32.ofNat (own_len N))), .val (.int (Int32.ofNat (A + own_len N)))] []) := by
    intro T locs X N' VG ZG
    show Go p e s below room_1.cells room_1.slots (Q0 h0 n0) T (mkF m 236 #[.val (.long p1), .second, .val (.int p2), .val (.int p3), .val (.int p4), .val (.long (Int64.ofNat N)), .second, .val (.int (Int32.ofNat A)), .val (.int fb), .val (.ref b), .val (.int (Int32.ofNat (own_len N))), .val (.int (Int32.ofNat (A + own_len N)))] [])
    refine Go.st (fun _ k_ => XS.aload X.here hx rfl (hb hby at_236) rfl rfl k_) ?_
    show Go p e s below room_1.cells room_1.slots (Q0 h0 n0) T (mkF m 238 #[.val (.long p1), .second, .val (.int p2), .val (.int p3), .val (.int p4), .val (.long (Int64.ofNat N)), .second, .val (.int (Int32.ofNat A)), .val (.int fb), .val (.ref b), .val (.int (Int32.ofNat (own_len N))), .val (.int (Int32.ofNat (A + own_len N)))] [(.ref b)])
    refine Go.st (fun _ k_ => XS.iconst X.here hx rfl (hb hby at_238) k_) ?_
    show Go p e s below room_1.cells room_1.slots (Q0 h0 n0) T (mkF m 239 #[.val (.long p1), .second, .val (.int p2), .val (.int p3), .val (.int p4), .val (.long (Int64.ofNat N)), .second, .val (.int (Int32.ofNat A)), .val (.int fb), .val (.ref b), .val (.int (Int32.ofNat (own_len N))), .val (.int (Int32.ofNat (A + own_len N)))] [(.int (3 : Int32)), (.ref b)])
    refine Go.st (fun _ k_ => XS.iload X.here hx rfl (hb hby at_239) rfl k_) ?_
    show Go p e s below room_1.cells room_1.slots (Q0 h0 n0) T (mkF m 241 #[.val (.long p1), .second, .val (.int p2), .val (.int p3), .val (.int p4), .val (.long (Int64.ofNat N)), .second, .val (.int (Int32.ofNat A)), .val (.int fb), .val (.ref b), .val (.int (Int32.ofNat (own_len N))), .val (.int (Int32.ofNat (A + own_len N)))] [(.int (Int32.ofNat A)), (.int (3 : Int32)), (.ref b)])
    refine Go.st (fun _ k_ => XS.lload X.here hx rfl (hb hby at_241) rfl k_) ?_
    show Go p e s below room_1.cells room_1.slots (Q0 h0 n0) T (mkF m 243 #[.val (.long p1), .second, .val (.int p2), .val (.int p3), .val (.int p4), .val (.long (Int64.ofNat N)), .second, .val (.int (Int32.ofNat A)), .val (.int fb), .val (.ref b), .val (.int (Int32.ofNat (own_len N))), .val (.int (Int32.ofNat (A + own_len N)))] [(.long (Int64.ofNat N)), (.int (Int32.ofNat A)), (.int (3 : Int32)), (.ref b)])
    refine Go.st (fun _ k_ => XS.iload X.here hx rfl (hb hby at_243) rfl k_) ?_
    show Go p e s below room_1.cells room_1.slots (Q0 h0 n0) T (mkF m 245 #[.val (.long p1), .second, .val (.int p2), .val (.int p3), .val (.int p4), .val (.long (Int64.ofNat N)), .second, .val (.int (Int32.ofNat A)), .val (.int fb), .val (.ref b), .val (.int (Int32.ofNat (own_len N))), .val (.int (Int32.ofNat (A + own_len N)))] [(.int (Int32.ofNat (own_len N))), (.long (Int64.ofNat N)), (.int (Int32.ofNat A)), (.int (3 : Int32)), (.ref b)])
    refine Go.st (fun _ k_ => XS.iload X.here hx rfl (hb hby at_245) rfl k_) ?_
    show Go p e s below room_1.cells room_1.slots (Q0 h0 n0) T (mkF m 247 #[.val (.long p1), .second, .val (.int p2), .val (.int p3), .val (.int p4), .val (.long (Int64.ofNat N)), .second, .val (.int (Int32.ofNat A)), .val (.int fb), .val (.ref b), .val (.int (Int32.ofNat (own_len N))), .val (.int (Int32.ofNat (A + own_len N)))] [(.int fb), (.int (Int32.ofNat (own_len N))), (.long (Int64.ofNat N)), (.int (Int32.ofNat A)), (.int (3 : Int32)), (.ref b)])
    obtain ⟨_, _, ⟨T12, L12, k12, n12⟩, -, X12, ⟨Lc12, hQ12, l12, y12, z12⟩, st12⟩ := Jvm.LawKit.callS X hx (y := (⟨"com/example/vernal_stem/vernalstem/index/IndexFormatEncodeVarintPinLaw", "ok", "([BIIJIB)Z"⟩ : MethodName)) hown (mvT hZ (hw _ (List.mem_of_getElem? (i := 12) rfl))) (mvT hZ (hw _ (List.mem_of_getElem? (i := 13) rfl))) (mvT hZ (hw _ (List.mem_of_getElem? (i := 5) rfl))) (mvT hZ (hw _ (List.mem_of_getElem? (i := 14) rfl))) (by decide) (backOf (W := 0) (rm3 l Z a0 hw [] b 3 A N (own_len N) fb T.heap n0 ZG (by decide) hA hN hL9 VG) hZ (hw _ (List.mem_of_getElem? (i := 14) rfl)) (hw _ (List.mem_of_getElem? (i := 5) rfl)) (by decide) (by decide)) (g := (mkF m 247 #[.val (.long p1), .second, .val (.int p2), .val (.int p3), .val (.int p4), .val (.long (Int64.ofNat N)), .second, .val (.int (Int32.ofNat A)), .val (.int fb), .val (.ref b), .val (.int (Int32.ofNat (own_len N))), .val (.int (Int32.ofNat (A + own_len N)))] [(.int fb), (.int (Int32.ofNat (own_len N))), (.long (Int64.ofNat N)), (.int (Int32.ofNat A)), (.int (3 : Int32)), (.ref b)])) rfl (by rw [hml]; rfl) (argsL := [(.ref b), (.int (3 : Int32)), (.int (Int32.ofNat A)), (.long (Int64.ofNat N)), (.int (Int32.ofNat (own_len N))), (.int fb)]) (rest := []) (lenOf pd_2 rfl) rfl (by show 2 * 0 + _ ≤ _; exact Nat.le_of_eq rfl) (hb hby at_247) (fun _ _ => ⟨rfl, rfl, (by decide : (0 + 1) + 0 ≤ _), (by decide : (0 + 12) + 0 ≤ _)⟩)
    dsimp only [Pt.U, Pt.locs, Pt.cells, Pt.slots] at X12 l12 y12 z12 st12 hQ12
    subst l12 y12 z12
    obtain ⟨rfl, hN12, ek⟩ := hQ12
    have N12 := Fr.app N' hN12
    refine Go.st st12 ?_
    show Go p e s below room_1.cells room_1.slots (Q0 h0 n0) T12 (mkF m 250 #[.val (.long p1), .second, .val (.int p2), .val (.int p3), .val (.int p4), .val (.long (Int64.ofNat N)), .second, .val (.int (Int32.ofNat A)), .val (.int fb), .val (.ref b), .val (.int (Int32.ofNat (own_len N))), .val (.int (Int32.ofNat (A + own_len N)))] [(.int (1 : Int32))])
    refine Go.st (fun _ k_ => XS.ifNo X12.here hx rfl (hb hby at_250) rfl ((if0 _ _).trans (feq (by decide)).1) k_) ?_
    show Go p e s below room_1.cells room_1.slots (Q0 h0 n0) T12 (mkF m 253 #[.val (.long p1), .second, .val (.int p2), .val (.int p3), .val (.int p4), .val (.long (Int64.ofNat N)), .second, .val (.int (Int32.ofNat A)), .val (.int fb), .val (.ref b), .val (.int (Int32.ofNat (own_len N))), .val (.int (Int32.ofNat (A + own_len N)))] [])
    exact ok4 _ _ X12 N12 (by rw [ek]; exact VG) (by rw [ek]; exact ZG)
  have ok2 : ∀ (T : State) (locs : List Loc) (X : Stand p l e room_1 s m #[(.long p1), (.int p2), (.int p3), (.int p4)] below meth c T locs (0 + 1) (0 + 12)) (N' : Fr n0 locs) (VG : AV Z T.heap b .byte 12 (own_e N A (own_len N) fb)) (ZG : n0 ≤ T.heap.size), Go p e s below room_1.cells room_1.slots (Q0 h0 n0) T (mkF m 219 #[.val (.long p1), .second, .val (.int p2), .val (.int p3), .val (.int p4), .val (.long (Int64.ofNat N)), .second, .val (.int (Int32.ofNat A)), .val (.int fb), .val (.ref b), .val (.int (Int32.ofNat (own_len N))), .val (.int (Int32.ofNat (A + own_len N)))] []) := by
    intro T locs X N' VG ZG
    show Go p e s below room_1.cells room_1.slots (Q0 h0 n0) T (mkF m 219 #[.val (.long p1), .second, .val (.int p2), .val (.int p3), .val (.int p4), .val (.long (Int64.ofNat N)), .second, .val (.int (Int32.ofNat A)), .val (.int fb), .val (.ref b), .val (.int (Int32.ofNat (own_len N))), .val (.int (Int32.ofNat (A + own_len N)))] [])
    refine Go.st (fun _ k_ => XS.aload X.here hx rfl (hb hby at_219) rfl rfl k_) ?_
    show Go p e s below room_1.cells room_1.slots (Q0 h0 n0) T (mkF m 221 #[.val (.long p1), .second, .val (.int p2), .val (.int p3), .val (.int p4), .val (.long (Int64.ofNat N)), .second, .val (.int (Int32.ofNat A)), .val (.int fb), .val (.ref b), .val (.int (Int32.ofNat (own_len N))), .val (.int (Int32.ofNat (A + own_len N)))] [(.ref b)])
    refine Go.st (fun _ k_ => XS.iconst X.here hx rfl (hb hby at_221) k_) ?_
    show Go p e s below room_1.cells room_1.slots (Q0 h0 n0) T (mkF m 222 #[.val (.long p1), .second, .val (.int p2), .val (.int p3), .val (.int p4), .val (.long (Int64.ofNat N)), .second, .val (.int (Int32.ofNat A)), .val (.int fb), .val (.ref b), .val (.int (Int32.ofNat (own_len N))), .val (.int (Int32.ofNat (A + own_len N)))] [(.int (2 : Int32)), (.ref b)])
    refine Go.st (fun _ k_ => XS.iload X.here hx rfl (hb hby at_222) rfl k_) ?_
    show Go p e s below room_1.cells room_1.slots (Q0 h0 n0) T (mkF m 224 #[.val (.long p1), .second, .val (.int p2), .val (.int p3), .val (.int p4), .val (.long (Int64.ofNat N)), .second, .val (.int (Int32.ofNat A)), .val (.int fb), .val (.ref b), .val (.int (Int32.ofNat (own_len N))), .val (.int (Int32.ofNat (A + own_len N)))] [(.int (Int32.ofNat A)), (.int (2 : Int32)), (.ref b)])
    refine Go.st (fun _ k_ => XS.lload X.here hx rfl (hb hby at_224) rfl k_) ?_
    show Go p e s below room_1.cells room_1.slots (Q0 h0 n0) T (mkF m 226 #[.val (.long p1), .second, .val (.int p2), .val (.int p3), .val (.int p4), .val (.long (Int64.ofNat N)), .second, .val (.int (Int32.ofNat A)), .val (.int fb), .val (.ref b), .val (.int (Int32.ofNat (own_len N))), .val (.int (Int32.ofNat (A + own_len N)))] [(.long (Int64.ofNat N)), (.int (Int32.ofNat A)), (.int (2 : Int32)), (.ref b)])
    refine Go.st (fun _ k_ => XS.iload X.here hx rfl (hb hby at_226) rfl k_) ?_
    show Go p e s below room_1.cells room_1.slots (Q0 h0 n0) T (mkF m 228 #[.val (.long p1), .second, .val (.int p2), .val (.int p3), .val (.int p4), .val (.long (Int64.ofNat N)), .second, .val (.int (Int32.ofNat A)), .val (.int fb), .val (.ref b), .val (.int (Int32.ofNat (own_len N))), .val (.int (Int32.ofNat (A + own_len N)))] [(.int (Int32.ofNat (own_len N))), (.long (Int64.ofNat N)), (.int (Int32.ofNat A)), (.int (2 : Int32)), (.ref b)])
    refine Go.st (fun _ k_ => XS.iload X.here hx rfl (hb hby at_228) rfl k_) ?_
    show Go p e s below room_1.cells room_1.slots (Q0 h0 n0) T (mkF m 230 #[.val (.long p1), .second, .val (.int p2), .val (.int p3), .val (.int p4), .val (.long (Int64.ofNat N)), .second, .val (.int (Int32.ofNat A)), .val (.int fb), .val (.ref b), .val (.int (Int32.ofNat (own_len N))), .val (.int (Int32.ofNat (A + own_len N)))] [(.int fb), (.int (Int32.ofNat (own_len N))), (.long (Int64.ofNat N)), (.int (Int32.ofNat A)), (.int (2 : Int32)), (.ref b)])
    obtain ⟨_, _, ⟨T13, L13, k13, n13⟩, -, X13, ⟨Lc13, hQ13, l13, y13, z13⟩, st13⟩ := Jvm.LawKit.callS X hx (y := (⟨"com/example/vernal_stem/vernalstem/index/IndexFormatEncodeVarintPinLaw", "ok", "([BIIJIB)Z"⟩ : MethodName)) hown (mvT hZ (hw _ (List.mem_of_getElem? (i := 12) rfl))) (mvT hZ (hw _ (List.mem_of_getElem? (i := 13) rfl))) (mvT hZ (hw _ (List.mem_of_getElem? (i := 5) rfl))) (mvT hZ (hw _ (List.mem_of_getElem? (i := 14) rfl))) (by decide) (backOf (W := 0) (rm3 l Z a0 hw [] b 2 A N (own_len N) fb T.heap n0 ZG (by decide) hA hN hL9 VG) hZ (hw _ (List.mem_of_getElem? (i := 14) rfl)) (hw _ (List.mem_of_getElem? (i := 5) rfl)) (by decide) (by decide)) (g := (mkF m 230 #[.val (.long p1), .second, .val (.int p2), .val (.int p3), .val (.int p4), .val (.long (Int64.ofNat N)), .second, .val (.int (Int32.ofNat A)), .val (.int fb), .val (.ref b), .val (.int (Int32.ofNat (own_len N))), .val (.int (Int32.ofNat (A + own_len N)))] [(.int fb), (.int (Int32.ofNat (own_len N))), (.long (Int64.ofNat N)), (.int (Int32.ofNat A)), (.int (2 : Int32)), (.ref b)])) rfl (by rw [hml]; rfl) (argsL := [(.ref b), (.int (2 : Int32)), (.int (Int32.ofNat A)), (.long (Int64.ofNat N)), (.int (Int32.ofNat (own_len N))), (.int fb)]) (rest := []) (lenOf pd_2 rfl) rfl (by show 2 * 0 + _ ≤ _; exact Nat.le_of_eq rfl) (hb hby at_230) (fun _ _ => ⟨rfl, rfl, (by decide : (0 + 1) + 0 ≤ _), (by decide : (0 + 12) + 0 ≤ _)⟩)
    dsimp only [Pt.U, Pt.locs, Pt.cells, Pt.slots] at X13 l13 y13 z13 st13 hQ13
    subst l13 y13 z13
    obtain ⟨rfl, hN13, ek⟩ := hQ13
    have N13 := Fr.app N' hN13
    refine Go.st st13 ?_
    show Go p e s below room_1.cells room_1.slots (Q0 h0 n0) T13 (mkF m 233 #[.val (.long p1), .second, .val (.int p2), .val (.int p3), .val (.int p4), .val (.long (Int64.ofNat N)), .second, .val (.int (Int32.ofNat A)), .val (.int fb), .val (.ref b), .val (.int (Int32.ofNat (own_len N))), .val (.int (Int32.ofNat (A + own_len N)))] [(.int (1 : Int32))])
    refine Go.st (fun _ k_ => XS.ifNo X13.here hx rfl (hb hby at_233) rfl ((if0 _ _).trans (feq (by decide)).1) k_) ?_
    show Go p e s below room_1.cells room_1.slots (Q0 h0 n0) T13 (mkF m 236 #[.val (.long p1), .second, .val (.int p2), .val (.int p3), .val (.int p4), .val (.long (Int64.ofNat N)), .second, .val (.int (Int32.ofNat A)), .val (.int fb), .val (.ref b), .val (.int (Int32.ofNat (own_len N))), .val (.int (Int32.ofNat (A + own_len N)))] [])
    exact ok3 _ _ X13 N13 (by rw [ek]; exact VG) (by rw [ek]; exact ZG)
  have ok1 : ∀ (T : State) (locs : List Loc) (X : Stand p l e room_1 s m #[(.long p1), (.int p2), (.int p3), (.int p4)] below meth c T locs (0 + 1) (0 + 12)) (N' : Fr n0 locs) (VG : AV Z T.heap b .byte 12 (own_e N A (own_len N) fb)) (ZG : n0 ≤ T.heap.size), Go p e s below room_1.cells room_1.slots (Q0 h0 n0) T (mkF m 202 #[.val (.long p1), .second, .val (.int p2), .val (.int p3), .val (.int p4), .val (.long (Int64.ofNat N)), .second, .val (.int (Int32.ofNat A)), .val (.int fb), .val (.ref b), .val (.int (Int32.ofNat (own_len N))), .val (.int (Int32.ofNat (A + own_len N)))] []) := by
    intro T locs X N' VG ZG
    show Go p e s below room_1.cells room_1.slots (Q0 h0 n0) T (mkF m 202 #[.val (.long p1), .second, .val (.int p2), .val (.int p3), .val (.int p4), .val (.long (Int64.ofNat N)), .second, .val (.int (Int32.ofNat A)), .val (.int fb), .val (.ref b), .val (.int (Int32.ofNat (own_len N))), .val (.int (Int32.ofNat (A + own_len N)))] [])
    refine Go.st (fun _ k_ => XS.aload X.here hx rfl (hb hby at_202) rfl rfl k_) ?_
    show Go p e s below room_1.cells room_1.slots (Q0 h0 n0) T (mkF m 204 #[.val (.long p1), .second, .val (.int p2), .val (.int p3), .val (.int p4), .val (.long (Int64.ofNat N)), .second, .val (.int (Int32.ofNat A)), .val (.int fb), .val (.ref b), .val (.int (Int32.ofNat (own_len N))), .val (.int (Int32.ofNat (A + own_len N)))] [(.ref b)])
    refine Go.st (fun _ k_ => XS.iconst X.here hx rfl (hb hby at_204) k_) ?_
    show Go p e s below room_1.cells room_1.slots (Q0 h0 n0) T (mkF m 205 #[.val (.long p1), .second, .val (.int p2), .val (.int p3), .val (.int p4), .val (.long (Int64.ofNat N)), .second, .val (.int (Int32.ofNat A)), .val (.int fb), .val (.ref b), .val (.int (Int32.ofNat (own_len N))), .val (.int (Int32.ofNat (A + own_len N)))] [(.int (1 : Int32)), (.ref b)])
    refine Go.st (fun _ k_ => XS.iload X.here hx rfl (hb hby at_205) rfl k_) ?_
    show Go p e s below room_1.cells room_1.slots (Q0 h0 n0) T (mkF m 207 #[.val (.long p1), .second, .val (.int p2), .val (.int p3), .val (.int p4), .val (.long (Int64.ofNat N)), .second, .val (.int (Int32.ofNat A)), .val (.int fb), .val (.ref b), .val (.int (Int32.ofNat (own_len N))), .val (.int (Int32.ofNat (A + own_len N)))] [(.int (Int32.ofNat A)), (.int (1 : Int32)), (.ref b)])
    refine Go.st (fun _ k_ => XS.lload X.here hx rfl (hb hby at_207) rfl k_) ?_
    show Go p e s below room_1.cells room_1.slots (Q0 h0 n0) T (mkF m 209 #[.val (.long p1), .second, .val (.int p2), .val (.int p3), .val (.int p4), .val (.long (Int64.ofNat N)), .second, .val (.int (Int32.ofNat A)), .val (.int fb), .val (.ref b), .val (.int (Int32.ofNat (own_len N))), .val (.int (Int32.ofNat (A + own_len N)))] [(.long (Int64.ofNat N)), (.int (Int32.ofNat A)), (.int (1 : Int32)), (.ref b)])
    refine Go.st (fun _ k_ => XS.iload X.here hx rfl (hb hby at_209) rfl k_) ?_
    show Go p e s below room_1.cells room_1.slots (Q0 h0 n0) T (mkF m 211 #[.val (.long p1), .second, .val (.int p2), .val (.int p3), .val (.int p4), .val (.long (Int64.ofNat N)), .second, .val (.int (Int32.ofNat A)), .val (.int fb), .val (.ref b), .val (.int (Int32.ofNat (own_len N))), .val (.int (Int32.ofNat (A + own_len N)))] [(.int (Int32.ofNat (own_len N))), (.long (Int64.ofNat N)), (.int (Int32.ofNat A)), (.int (1 : Int32)), (.ref b)])
    refine Go.st (fun _ k_ => XS.iload X.here hx rfl (hb hby at_211) rfl k_) ?_
    show Go p e s below room_1.cells room_1.slots (Q0 h0 n0) T (mkF m 213 #[.val (.long p1), .second, .val (.int p2), .val (.int p3), .val (.int p4), .val (.long (Int64.ofNat N)), .second, .val (.int (Int32.ofNat A)), .val (.int fb), .val (.ref b), .val (.int (Int32.ofNat (own_len N))), .val (.int (Int32.ofNat (A + own_len N)))] [(.int fb), (.int (Int32.ofNat (own_len N))), (.long (Int64.ofNat N)), (.int (Int32.ofNat A)), (.int (1 : Int32)), (.ref b)])
    obtain ⟨_, _, ⟨T14, L14, k14, n14⟩, -, X14, ⟨Lc14, hQ14, l14, y14, z14⟩, st14⟩ := Jvm.LawKit.callS X hx (y := (⟨"com/example/vernal_stem/vernalstem/index/IndexFormatEncodeVarintPinLaw", "ok", "([BIIJIB)Z"⟩ : MethodName)) hown (mvT hZ (hw _ (List.mem_of_getElem? (i := 12) rfl))) (mvT hZ (hw _ (List.mem_of_getElem? (i := 13) rfl))) (mvT hZ (hw _ (List.mem_of_getElem? (i := 5) rfl))) (mvT hZ (hw _ (List.mem_of_getElem? (i := 14) rfl))) (by decide) (backOf (W := 0) (rm3 l Z a0 hw [] b 1 A N (own_len N) fb T.heap n0 ZG (by decide) hA hN hL9 VG) hZ (hw _ (List.mem_of_getElem? (i := 14) rfl)) (hw _ (List.mem_of_getElem? (i := 5) rfl)) (by decide) (by decide)) (g := (mkF m 213 #[.val (.long p1), .second, .val (.int p2), .val (.int p3), .val (.int p4), .val (.long (Int64.ofNat N)), .second, .val (.int (Int32.ofNat A)), .val (.int fb), .val (.ref b), .val (.int (Int32.ofNat (own_len N))), .val (.int (Int32.ofNat (A + own_len N)))] [(.int fb), (.int (Int32.ofNat (own_len N))), (.long (Int64.ofNat N)), (.int (Int32.ofNat A)), (.int (1 : Int32)), (.ref b)])) rfl (by rw [hml]; rfl) (argsL := [(.ref b), (.int (1 : Int32)), (.int (Int32.ofNat A)), (.long (Int64.ofNat N)), (.int (Int32.ofNat (own_len N))), (.int fb)]) (rest := []) (lenOf pd_2 rfl) rfl (by show 2 * 0 + _ ≤ _; exact Nat.le_of_eq rfl) (hb hby at_213) (fun _ _ => ⟨rfl, rfl, (by decide : (0 + 1) + 0 ≤ _), (by decide : (0 + 12) + 0 ≤ _)⟩)
    dsimp only [Pt.U, Pt.locs, Pt.cells, Pt.slots] at X14 l14 y14 z14 st14 hQ14
    subst l14 y14 z14
    obtain ⟨rfl, hN14, ek⟩ := hQ14
    have N14 := Fr.app N' hN14
    refine Go.st st14 ?_
    show Go p e s below room_1.cells room_1.slots (Q0 h0 n0) T14 (mkF m 216 #[.val (.long p1), .second, .val (.int p2), .val (.int p3), .val (.int p4), .val (.long (Int64.ofNat N)), .second, .val (.int (Int32.ofNat A)), .val (.int fb), .val (.ref b), .val (.int (Int32.ofNat (own_len N))), .val (.int (Int32.ofNat (A + own_len N)))] [(.int (1 : Int32))])
    refine Go.st (fun _ k_ => XS.ifNo X14.here hx rfl (hb hby at_216) rfl ((if0 _ _).trans (feq (by decide)).1) k_) ?_
    show Go p e s below room_1.cells room_1.slots (Q0 h0 n0) T14 (mkF m 219 #[.val (.long p1), .second, .val (.int p2), .val (.int p3), .val (.int p4), .val (.long (Int64.ofNat N)), .second, .val (.int (Int32.ofNat A)), .val (.int fb), .val (.ref b), .val (.int (Int32.ofNat (own_len N))), .val (.int (Int32.ofNat (A + own_len N)))] [])
    exact ok2 _ _ X14 N14 (by rw [ek]; exact VG) (by rw [ek]; exact ZG)
  have ok0 : ∀ (T : State) (locs : List Loc) (X : Stand p l e room_1 s m #[(.long p1), (.int p2), (.int p3), (.int p4)] below meth c T locs (0 + 1) (0 + 12)) (N' : Fr n0 locs) (VG : AV Z T.heap b .byte 12 (own_e N A (own_len N) fb)) (ZG : n0 ≤ T.heap.size), Go p e s below room_1.cells room_1.slots (Q0 h0 n0) T (mkF m 185 #[.val (.long p1), .second, .val (.int p2), .val (.int p3), .val (.int p4), .val (.long (Int64.ofNat N)), .second, .val (.int (Int32.ofNat A)), .val (.int fb), .val (.ref b), .val (.int (Int32.ofNat (own_len N))), .val (.int (Int32.ofNat (A + own_len N)))] []) := by
    intro T locs X N' VG ZG
    show Go p e s below room_1.cells room_1.slots (Q0 h0 n0) T (mkF m 185 #[.val (.long p1), .second, .val (.int p2), .val (.int p3), .val (.int p4), .val (.long (Int64.ofNat N)), .second, .val (.int (Int32.ofNat A)), .val (.int fb), .val (.ref b), .val (.int (Int32.ofNat (own_len N))), .val (.int (Int32.ofNat (A + own_len N)))] [])
    refine Go.st (fun _ k_ => XS.aload X.here hx rfl (hb hby at_185) rfl rfl k_) ?_
    show Go p e s below room_1.cells room_1.slots (Q0 h0 n0) T (mkF m 187 #[.val (.long p1), .second, .val (.int p2), .val (.int p3), .val (.int p4), .val (.long (Int64.ofNat N)), .second, .val (.int (Int32.ofNat A)), .val (.int fb), .val (.ref b), .val (.int (Int32.ofNat (own_len N))), .val (.int (Int32.ofNat (A + own_len N)))] [(.ref b)])
    refine Go.st (fun _ k_ => XS.iconst X.here hx rfl (hb hby at_187) k_) ?_
    show Go p e s below room_1.cells room_1.slots (Q0 h0 n0) T (mkF m 188 #[.val (.long p1), .second, .val (.int p2), .val (.int p3), .val (.int p4), .val (.long (Int64.ofNat N)), .second, .val (.int (Int32.ofNat A)), .val (.int fb), .val (.ref b), .val (.int (Int32.ofNat (own_len N))), .val (.int (Int32.ofNat (A + own_len N)))] [(.int (0 : Int32)), (.ref b)])
    refine Go.st (fun _ k_ => XS.iload X.here hx rfl (hb hby at_188) rfl k_) ?_
    show Go p e s below room_1.cells room_1.slots (Q0 h0 n0) T (mkF m 190 #[.val (.long p1), .second, .val (.int p2), .val (.int p3), .val (.int p4), .val (.long (Int64.ofNat N)), .second, .val (.int (Int32.ofNat A)), .val (.int fb), .val (.ref b), .val (.int (Int32.ofNat (own_len N))), .val (.int (Int32.ofNat (A + own_len N)))] [(.int (Int32.ofNat A)), (.int (0 : Int32)), (.ref b)])
    refine Go.st (fun _ k_ => XS.lload X.here hx rfl (hb hby at_190) rfl k_) ?_
    show Go p e s below room_1.cells room_1.slots (Q0 h0 n0) T (mkF m 192 #[.val (.long p1), .second, .val (.int p2), .val (.int p3), .val (.int p4), .val (.long (Int64.ofNat N)), .second, .val (.int (Int32.ofNat A)), .val (.int fb), .val (.ref b), .val (.int (Int32.ofNat (own_len N))), .val (.int (Int32.ofNat (A + own_len N)))] [(.long (Int64.ofNat N)), (.int (Int32.ofNat A)), (.int (0 : Int32)), (.ref b)])
    refine Go.st (fun _ k_ => XS.iload X.here hx rfl (hb hby at_192) rfl k_) ?_
    show Go p e s below room_1.cells room_1.slots (Q0 h0 n0) T (mkF m 194 #[.val (.long p1), .second, .val (.int p2), .val (.int p3), .val (.int p4), .val (.long (Int64.ofNat N)), .second, .val (.int (Int32.ofNat A)), .val (.int fb), .val (.ref b), .val (.int (Int32.ofNat (own_len N))), .val (.int (Int32.ofNat (A + own_len N)))] [(.int (Int32.ofNat (own_len N))), (.long (Int64.ofNat N)), (.int (Int32.ofNat A)), (.int (0 : Int32)), (.ref b)])
    refine Go.st (fun _ k_ => XS.iload X.here hx rfl (hb hby at_194) rfl k_) ?_
    show Go p e s below room_1.cells room_1.slots (Q0 h0 n0) T (mkF m 196 #[.val (.long p1), .second, .val (.int p2), .val (.int p3), .val (.int p4), .val (.long (Int64.ofNat N)), .second, .val (.int (Int32.ofNat A)), .val (.int fb), .val (.ref b), .val (.int (Int32.ofNat (own_len N))), .val (.int (Int32.ofNat (A + own_len N)))] [(.int fb), (.int (Int32.ofNat (own_len N))), (.long (Int64.ofNat N)), (.int (Int32.ofNat A)), (.int (0 : Int32)), (.ref b)])
    obtain ⟨_, _, ⟨T15, L15, k15, n15⟩, -, X15, ⟨Lc15, hQ15, l15, y15, z15⟩, st15⟩ := Jvm.LawKit.callS X hx (y := (⟨"com/example/vernal_stem/vernalstem/index/IndexFormatEncodeVarintPinLaw", "ok", "([BIIJIB)Z"⟩ : MethodName)) hown (mvT hZ (hw _ (List.mem_of_getElem? (i := 12) rfl))) (mvT hZ (hw _ (List.mem_of_getElem? (i := 13) rfl))) (mvT hZ (hw _ (List.mem_of_getElem? (i := 5) rfl))) (mvT hZ (hw _ (List.mem_of_getElem? (i := 14) rfl))) (by decide) (backOf (W := 0) (rm3 l Z a0 hw [] b 0 A N (own_len N) fb T.heap n0 ZG (by decide) hA hN hL9 VG) hZ (hw _ (List.mem_of_getElem? (i := 14) rfl)) (hw _ (List.mem_of_getElem? (i := 5) rfl)) (by decide) (by decide)) (g := (mkF m 196 #[.val (.long p1), .second, .val (.int p2), .val (.int p3), .val (.int p4), .val (.long (Int64.ofNat N)), .second, .val (.int (Int32.ofNat A)), .val (.int fb), .val (.ref b), .val (.int (Int32.ofNat (own_len N))), .val (.int (Int32.ofNat (A + own_len N)))] [(.int fb), (.int (Int32.ofNat (own_len N))), (.long (Int64.ofNat N)), (.int (Int32.ofNat A)), (.int (0 : Int32)), (.ref b)])) rfl (by rw [hml]; rfl) (argsL := [(.ref b), (.int (0 : Int32)), (.int (Int32.ofNat A)), (.long (Int64.ofNat N)), (.int (Int32.ofNat (own_len N))), (.int fb)]) (rest := []) (lenOf pd_2 rfl) rfl (by show 2 * 0 + _ ≤ _; exact Nat.le_of_eq rfl) (hb hby at_196) (fun _ _ => ⟨rfl, rfl, (by decide : (0 + 1) + 0 ≤ _), (by decide : (0 + 12) + 0 ≤ _)⟩)
    dsimp only [Pt.U, Pt.locs, Pt.cells, Pt.slots] at X15 l15 y15 z15 st15 hQ15
    subst l15 y15 z15
    obtain ⟨rfl, hN15, ek⟩ := hQ15
    have N15 := Fr.app N' hN15
    refine Go.st st15 ?_
    show Go p e s below room_1.cells room_1.slots (Q0 h0 n0) T15 (mkF m 199 #[.val (.long p1), .second, .val (.int p2), .val (.int p3), .val (.int p4), .val (.long (Int64.ofNat N)), .second, .val (.int (Int32.ofNat A)), .val (.int fb), .val (.ref b), .val (.int (Int32.ofNat (own_len N))), .val (.int (Int32.ofNat (A + own_len N)))] [(.int (1 : Int32))])
    refine Go.st (fun _ k_ => XS.ifNo X15.here hx rfl (hb hby at_199) rfl ((if0 _ _).trans (feq (by decide)).1) k_) ?_
    show Go p e s below room_1.cells room_1.slots (Q0 h0 n0) T15 (mkF m 202 #[.val (.long p1), .second, .val (.int p2), .val (.int p3), .val (.int p4), .val (.long (Int64.ofNat N)), .second, .val (.int (Int32.ofNat A)), .val (.int fb), .val (.ref b), .val (.int (Int32.ofNat (own_len N))), .val (.int (Int32.ofNat (A + own_len N)))] [])
    exact ok1 _ _ X15 N15 (by rw [ek]; exact VG) (by rw [ek]; exact ZG)
  have enc : ∀ (T : State) (locs : List Loc) (X : Stand p l e room_1 s m #[(.long p1), (.int p2), (.int p3), (.int p4)] below meth c T locs (0 + 1) (0 + 12)) (N' : Fr n0 locs) (VG : AV Z T.heap b .byte 12 (fun _ => fb)) (ZG : n0 ≤ T.heap.size), Go p e s below room_1.cells room_1.slots (Q0 h0 n0) T (mkF m 164 #[.val (.long p1), .second, .val (.int p2), .val (.int p3), .val (.int p4), .val (.long (Int64.ofNat N)), .second, .val (.int (Int32.ofNat A)), .val (.int fb), .val (.ref b), .val (.int (Int32.ofNat (own_len N))), .unset] []) := by
    intro T locs X N' VG ZG
    show Go p e s below room_1.cells room_1.slots (Q0 h0 n0) T (mkF m 164 #[.val (.long p1), .second, .val (.int p2), .val (.int p3), .val (.int p4), .val (.long (Int64.ofNat N)), .second, .val (.int (Int32.ofNat A)), .val (.int fb), .val (.ref b), .val (.int (Int32.ofNat (own_len N))), .unset] [])
    refine Go.st (fun _ k_ => XS.lload X.here hx rfl (hb hby at_164) rfl k_) ?_
    show Go p e s below room_1.cells room_1.slots (Q0 h0 n0) T (mkF m 166 #[.val (.long p1), .second, .val (.int p2), .val (.int p3), .val (.int p4), .val (.long (Int64.ofNat N)), .second, .val (.int (Int32.ofNat A)), .val (.int fb), .val (.ref b), .val (.int (Int32.ofNat (own_len N))), .unset] [(.long (Int64.ofNat N))])
    refine Go.st (fun _ k_ => XS.aload X.here hx rfl (hb hby at_166) rfl rfl k_) ?_
    show Go p e s below room_1.cells room_1.slots (Q0 h0 n0) T (mkF m 168 #[.val (.long p1), .second, .val (.int p2), .val (.int p3), .val (.int p4), .val (.long (Int64.ofNat N)), .second, .val (.int (Int32.ofNat A)), .val (.int fb), .val (.ref b), .val (.int (Int32.ofNat (own_len N))), .unset] [(.ref b), (.long (Int64.ofNat N))])
    refine Go.st (fun _ k_ => XS.iload X.here hx rfl (hb hby at_168) rfl k_) ?_
    show Go p e s below room_1.cells room_1.slots (Q0 h0 n0) T (mkF m 170 #[.val (.long p1), .second, .val (.int p2), .val (.int p3), .val (.int p4), .val (.long (Int64.ofNat N)), .second, .val (.int (Int32.ofNat A)), .val (.int fb), .val (.ref b), .val (.int (Int32.ofNat (own_len N))), .unset] [(.int (Int32.ofNat A)), (.ref b), (.long (Int64.ofNat N))])
    obtain ⟨_, _, ⟨T16, L16, k16, n16⟩, -, X16, ⟨Lc16, hQ16, l16, y16, z16⟩, st16⟩ := Jvm.LawKit.callS X hx (y := (⟨"com/example/vernal_stem/vernalstem/index/IndexFormat", "encodeVarint", "(J[BI)I"⟩ : MethodName)) hown (mvT hZ (hw _ (List.mem_of_getElem? (i := 7) rfl))) (mvT hZ (hw _ (List.mem_of_getElem? (i := 8) rfl))) (mvT hZ (hw _ (List.mem_of_getElem? (i := 9) rfl))) (mvT hZ (hw _ (List.mem_of_getElem? (i := 10) rfl))) (by decide) (backOf (W := 0) (rm2 l Z a0 hw [] N A fb b T.heap n0 ZG hN hA gb VG) hZ (hw _ (List.mem_of_getElem? (i := 10) rfl)) (hw _ (List.mem_of_getElem? (i := 9) rfl)) (by decide) (by decide)) (g := (mkF m 170 #[.val (.long p1), .second, .val (.int p2), .val (.int p3), .val (.int p4), .val (.long (Int64.ofNat N)), .second, .val (.int (Int32.ofNat A)), .val (.int fb), .val (.ref b), .val (.int (Int32.ofNat (own_len N))), .unset] [(.int (Int32.ofNat A)), (.ref b), (.long (Int64.ofNat N))])) rfl (by rw [hml]; rfl) (argsL := [(.long (Int64.ofNat N)), (.ref b), (.int (Int32.ofNat A))]) (rest := []) (lenOf pd_1 rfl) rfl (by show 2 * 0 + _ ≤ _; exact Nat.le_of_eq rfl) (hb hby at_170) (fun _ _ => ⟨rfl, rfl, (by decide : (0 + 1) + 0 ≤ _), (by decide : (0 + 12) + 0 ≤ _)⟩)
    dsimp only [Pt.U, Pt.locs, Pt.cells, Pt.slots] at X16 l16 y16 z16 st16 hQ16
    subst l16 y16 z16
    obtain ⟨rfl, hN16, ZH, VH⟩ := hQ16
    have N16 := Fr.app N' hN16
    refine Go.st st16 ?_
    show Go p e s below room_1.cells room_1.slots (Q0 h0 n0) T16 (mkF m 173 #[.val (.long p1), .second, .val (.int p2), .val (.int p3), .val (.int p4), .val (.long (Int64.ofNat N)), .second, .val (.int (Int32.ofNat A)), .val (.int fb), .val (.ref b), .val (.int (Int32.ofNat (own_len N))), .unset] [(.int (Int32.ofNat (A + own_len N)))])
    refine Go.st (fun _ k_ => XS.istore X16.here hx rfl (hb hby at_173) rfl (l' := #[.val (.long p1), .second, .val (.int p2), .val (.int p3), .val (.int p4), .val (.long (Int64.ofNat N)), .second, .val (.int (Int32.ofNat A)), .val (.int fb), .val (.ref b), .val (.int (Int32.ofNat (own_len N))), .val (.int (Int32.ofNat (A + own_len N)))]) rfl k_) ?_
    show Go p e s below room_1.cells room_1.slots (Q0 h0 n0) T16 (mkF m 175 #[.val (.long p1), .second, .val (.int p2), .val (.int p3), .val (.int p4), .val (.long (Int64.ofNat N)), .second, .val (.int (Int32.ofNat A)), .val (.int fb), .val (.ref b), .val (.int (Int32.ofNat (own_len N))), .val (.int (Int32.ofNat (A + own_len N)))] [])
    refine Go.st (fun _ k_ => XS.iload X16.here hx rfl (hb hby at_175) rfl k_) ?_
    show Go p e s below room_1.cells room_1.slots (Q0 h0 n0) T16 (mkF m 177 #[.val (.long p1), .second, .val (.int p2), .val (.int p3), .val (.int p4), .val (.long (Int64.ofNat N)), .second, .val (.int (Int32.ofNat A)), .val (.int fb), .val (.ref b), .val (.int (Int32.ofNat (own_len N))), .val (.int (Int32.ofNat (A + own_len N)))] [(.int (Int32.ofNat (A + own_len N)))])
    refine Go.st (fun _ k_ => XS.iload X16.here hx rfl (hb hby at_177) rfl k_) ?_
    show Go p e s below room_1.cells room_1.slots (Q0 h0 n0) T16 (mkF m 179 #[.val (.long p1), .second, .val (.int p2), .val (.int p3), .val (.int p4), .val (.long (Int64.ofNat N)), .second, .val (.int (Int32.ofNat A)), .val (.int fb), .val (.ref b), .val (.int (Int32.ofNat (own_len N))), .val (.int (Int32.ofNat (A + own_len N)))] [(.int (Int32.ofNat A)), (.int (Int32.ofNat (A + own_len N)))])
    refine Go.st (fun _ k_ => XS.iload X16.here hx rfl (hb hby at_179) rfl k_) ?_
    show Go p e s below room_1.cells room_1.slots (Q0 h0 n0) T16 (mkF m 181 #[.val (.long p1), .second, .val (.int p2), .val (.int p3), .val (.int p4), .val (.long (Int64.ofNat N)), .second, .val (.int (Int32.ofNat A)), .val (.int fb), .val (.ref b), .val (.int (Int32.ofNat (own_len N))), .val (.int (Int32.ofNat (A + own_len N)))] [(.int (Int32.ofNat (own_len N))), (.int (Int32.ofNat A)), (.int (Int32.ofNat (A + own_len N)))])
    refine Go.st (fun _ k_ => XS.iadd X16.here hx rfl (hb hby at_181) rfl k_) ?_
    show Go p e s below room_1.cells room_1.slots (Q0 h0 n0) T16 (mkF m 182 #[.val (.long p1), .second, .val (.int p2), .val (.int p3), .val (.int p4), .val (.long (Int64.ofNat N)), .second, .val (.int (Int32.ofNat A)), .val (.int fb), .val (.ref b), .val (.int (Int32.ofNat (own_len N))), .val (.int (Int32.ofNat (A + own_len N)))] [(.int ((Int32.ofNat A) + (Int32.ofNat (own_len N)))), (.int (Int32.ofNat (A + own_len N)))])
    refine Go.st (fun _ k_ => XS.icmpNo X16.here hx rfl (hb hby at_182) rfl (teq (on_add _ _).symm).2 k_) ?_
    show Go p e s below room_1.cells room_1.slots (Q0 h0 n0) T16 (mkF m 185 #[.val (.long p1), .second, .val (.int p2), .val (.int p3), .val (.int p4), .val (.long (Int64.ofNat N)), .second, .val (.int (Int32.ofNat A)), .val (.int fb), .val (.ref b), .val (.int (Int32.ofNat (own_len N))), .val (.int (Int32.ofNat (A + own_len N)))] [])
    exact ok0 _ _ X16 N16 VH ZH
  have nz56 : ∀ (T : State) (locs : List Loc) (X : Stand p l e room_1 s m #[(.long p1), (.int p2), (.int p3), (.int p4)] below meth c T locs (0 + 1) (0 + 12)) (N' : Fr n0 locs) (VG : AV Z T.heap b .byte 12 (fun _ => fb)) (ZG : n0 ≤ T.heap.size), Go p e s below room_1.cells room_1.slots (Q0 h0 n0) T (mkF m 154 #[.val (.long p1), .second, .val (.int p2), .val (.int p3), .val (.int p4), .val (.long (Int64.ofNat N)), .second, .val (.int (Int32.ofNat A)), .val (.int fb), .val (.ref b), .unset, .unset] [(.int ((((((((1 : Int32) + (Int32.ofNat (own_nz N 7))) + (Int32.ofNat (own_nz N 14))) + (Int32.ofNat (own_nz N 21))) + (Int32.ofNat (own_nz N 28))) + (Int32.ofNat (own_nz N 35))) + (Int32.ofNat (own_nz N 42))) + (Int32.ofNat (own_nz N 49))))]) := by
    intro T locs X N' VG ZG
    show Go p e s below room_1.cells room_1.slots (Q0 h0 n0) T (mkF m 154 #[.val (.long p1), .second, .val (.int p2), .val (.int p3), .val (.int p4), .val (.long (Int64.ofNat N)), .second, .val (.int (Int32.ofNat A)), .val (.int fb), .val (.ref b), .unset, .unset] [(.int ((((((((1 : Int32) + (Int32.ofNat (own_nz N 7))) + (Int32.ofNat (own_nz N 14))) + (Int32.ofNat (own_nz N 21))) + (Int32.ofNat (own_nz N 28))) + (Int32.ofNat (own_nz N 35))) + (Int32.ofNat (own_nz N 42))) + (Int32.ofNat (own_nz N 49))))])
    refine Go.st (fun _ k_ => XS.lload X.here hx rfl (hb hby at_154) rfl k_) ?_
    show Go p e s below room_1.cells room_1.slots (Q0 h0 n0) T (mkF m 156 #[.val (.long p1), .second, .val (.int p2), .val (.int p3), .val (.int p4), .val (.long (Int64.ofNat N)), .second, .val (.int (Int32.ofNat A)), .val (.int fb), .val (.ref b), .unset, .unset] [(.long (Int64.ofNat N)), (.int ((((((((1 : Int32) + (Int32.ofNat (own_nz N 7))) + (Int32.ofNat (own_nz N 14))) + (Int32.ofNat (own_nz N 21))) + (Int32.ofNat (own_nz N 28))) + (Int32.ofNat (own_nz N 35))) + (Int32.ofNat (own_nz N 42))) + (Int32.ofNat (own_nz N 49))))])
    refine Go.st (fun _ k_ => XS.bipush X.here hx rfl (hb hby at_156) k_) ?_
    show Go p e s below room_1.cells room_1.slots (Q0 h0 n0) T (mkF m 158 #[.val (.long p1), .second, .val (.int p2), .val (.int p3), .val (.int p4), .val (.long (Int64.ofNat N)), .second, .val (.int (Int32.ofNat A)), .val (.int fb), .val (.ref b), .unset, .unset] [(.int (56 : Int32)), (.long (Int64.ofNat N)), (.int ((((((((1 : Int32) + (Int32.ofNat (own_nz N 7))) + (Int32.ofNat (own_nz N 14))) + (Int32.ofNat (own_nz N 21))) + (Int32.ofNat (own_nz N 28))) + (Int32.ofNat (own_nz N 35))) + (Int32.ofNat (own_nz N 42))) + (Int32.ofNat (own_nz N 49))))])
    obtain ⟨_, _, ⟨T17, L17, k17, n17⟩, -, X17, ⟨Lc17, hQ17, l17, y17, z17⟩, st17⟩ := Jvm.LawKit.callS X hx (y := (⟨"com/example/vernal_stem/vernalstem/index/IndexFormatEncodeVarintPinLaw", "nz", "(JI)I"⟩ : MethodName)) hown (mvT hZ (hw _ (List.mem_of_getElem? (i := 3) rfl))) (mvT hZ (hw _ (List.mem_of_getElem? (i := 4) rfl))) (mvT hZ (hw _ (List.mem_of_getElem? (i := 5) rfl))) (mvT hZ (hw _ (List.mem_of_getElem? (i := 6) rfl))) (by decide) (backOf (W := 1) (rm1 l Z a0 hw [] N 56 T.heap n0 ZG hN (by decide) (by decide)) hZ (hw _ (List.mem_of_getElem? (i := 6) rfl)) (hw _ (List.mem_of_getElem? (i := 5) rfl)) (by decide) (by decide)) (g := (mkF m 158 #[.val (.long p1), .second, .val (.int p2), .val (.int p3), .val (.int p4), .val (.long (Int64.ofNat N)), .second, .val (.int (Int32.ofNat A)), .val (.int fb), .val (.ref b), .unset, .unset] [(.int (56 : Int32)), (.long (Int64.ofNat N)), (.int ((((((((1 : Int32) + (Int32.ofNat (own_nz N 7))) + (Int32.ofNat (own_nz N 14))) + (Int32.ofNat (own_nz N 21))) + (Int32.ofNat (own_nz N 28))) + (Int32.ofNat (own_nz N 35))) + (Int32.ofNat (own_nz N 42))) + (Int32.ofNat (own_nz N 49))))])) rfl (by rw [hml]; rfl) (argsL := [(.long (Int64.ofNat N)), (.int (56 : Int32))]) (rest := [(.int ((((((((1 : Int32) + (Int32.ofNat (own_nz N 7))) + (Int32.ofNat (own_nz N 14))) + (Int32.ofNat (own_nz N 21))) + (Int32.ofNat (own_nz N 28))) + (Int32.ofNat (own_nz N 35))) + (Int32.ofNat (own_nz N 42))) + (Int32.ofNat (own_nz N 49))))]) (lenOf pd_0 rfl) rfl (by show 2 * 0 + _ ≤ _; exact Nat.le_of_eq rfl) (hb hby at_158) (fun _ _ => ⟨rfl, rfl, (by decide : (0 + 1) + 0 ≤ _), (by decide : (0 + 12) + 0 ≤ _)⟩)
    dsimp only [Pt.U, Pt.locs, Pt.cells, Pt.slots] at X17 l17 y17 z17 st17 hQ17
    subst l17 y17 z17
    obtain ⟨rfl, hN17, eh⟩ := hQ17
    have N17 := Fr.app N' hN17
    refine Go.st st17 ?_
    show Go p e s below room_1.cells room_1.slots (Q0 h0 n0) T17 (mkF m 161 #[.val (.long p1), .second, .val (.int p2), .val (.int p3), .val (.int p4), .val (.long (Int64.ofNat N)), .second, .val (.int (Int32.ofNat A)), .val (.int fb), .val (.ref b), .unset, .unset] [(.int (Int32.ofNat (own_nz N 56))), (.int ((((((((1 : Int32) + (Int32.ofNat (own_nz N 7))) + (Int32.ofNat (own_nz N 14))) + (Int32.ofNat (own_nz N 21))) + (Int32.ofNat (own_nz N 28))) + (Int32.ofNat (own_nz N 35))) + (Int32.ofNat (own_nz N 42))) + (Int32.ofNat (own_nz N 49))))])
    refine Go.st (fun _ k_ => XS.iadd X17.here hx rfl (hb hby at_161) rfl k_) ?_
    show Go p e s below room_1.cells room_1.slots (Q0 h0 n0) T17 (mkF m 162 #[.val (.long p1), .second, .val (.int p2), .val (.int p3), .val (.int p4), .val (.long (Int64.ofNat N)), .second, .val (.int (Int32.ofNat A)), .val (.int fb), .val (.ref b), .unset, .unset] [(.int (((((((((1 : Int32) + (Int32.ofNat (own_nz N 7))) + (Int32.ofNat (own_nz N 14))) + (Int32.ofNat (own_nz N 21))) + (Int32.ofNat (own_nz N 28))) + (Int32.ofNat (own_nz N 35))) + (Int32.ofNat (own_nz N 42))) + (Int32.ofNat (own_nz N 49))) + (Int32.ofNat (own_nz N 56))))])
    rw [own_lenI]
    show Go p e s below room_1.cells room_1.slots (Q0 h0 n0) T17 (mkF m 162 #[.val (.long p1), .second, .val (.int p2), .val (.int p3), .val (.int p4), .val (.long (Int64.ofNat N)), .second, .val (.int (Int32.ofNat A)), .val (.int fb), .val (.ref b), .unset, .unset] [(.int (Int32.ofNat (own_len N)))])
    refine Go.st (fun _ k_ => XS.istore X17.here hx rfl (hb hby at_162) rfl (l' := #[.val (.long p1), .second, .val (.int p2), .val (.int p3), .val (.int p4), .val (.long (Int64.ofNat N)), .second, .val (.int (Int32.ofNat A)), .val (.int fb), .val (.ref b), .val (.int (Int32.ofNat (own_len N))), .unset]) rfl k_) ?_
    show Go p e s below room_1.cells room_1.slots (Q0 h0 n0) T17 (mkF m 164 #[.val (.long p1), .second, .val (.int p2), .val (.int p3), .val (.int p4), .val (.long (Int64.ofNat N)), .second, .val (.int (Int32.ofNat A)), .val (.int fb), .val (.ref b), .val (.int (Int32.ofNat (own_len N))), .unset] [])
    exact enc _ _ X17 N17 (by rw [eh]; exact VG) (by rw [eh]; exact ZG)
  have nz49 : ∀ (T : State) (locs : List Loc) (X : Stand p l e room_1 s m #[(.long p1), (.int p2), (.int p3), (.int p4)] below meth c T locs (0 + 1) (0 + 12)) (N' : Fr n0 locs) (VG : AV Z T.heap b .byte 12 (fun _ => fb)) (ZG : n0 ≤ T.heap.size), Go p e s below room_1.cells room_1.slots (Q0 h0 n0) T (mkF m 146 #[.val (.long p1), .second, .val (.int p2), .val (.int p3), .val (.int p4), .val (.long (Int64.ofNat N)), .second, .val (.int (Int32.ofNat A)), .val (.int fb), .val (.ref b), .unset, .unset] [(.int (((((((1 : Int32) + (Int32.ofNat (own_nz N 7))) + (Int32.ofNat (own_nz N 14))) + (Int32.ofNat (own_nz N 21))) + (Int32.ofNat (own_nz N 28))) + (Int32.ofNat (own_nz N 35))) + (Int32.ofNat (own_nz N 42))))]) := by
    intro T locs X N' VG ZG
    show Go p e s below room_1.cells room_1.slots (Q0 h0 n0) T (mkF m 146 #[.val (.long p1), .second, .val (.int p2), .val (.int p3), .val (.int p4), .val (.long (Int64.ofNat N)), .second, .val (.int (Int32.ofNat A)), .val (.int fb), .val (.ref b), .unset, .unset] [(.int (((((((1 : Int32) + (Int32.ofNat (own_nz N 7))) + (Int32.ofNat (own_nz N 14))) + (Int32.ofNat (own_nz N 21))) + (Int32.ofNat (own_nz N 28))) + (Int32.ofNat (own_nz N 35))) + (Int32.ofNat (own_nz N 42))))])
    refine Go.st (fun _ k_ => XS.lload X.here hx rfl (hb hby at_146) rfl k_) ?_
    show Go p e s below room_1.cells room_1.slots (Q0 h0 n0) T (mkF m 148 #[.val (.long p1), .second, .val (.int p2), .val (.int p3), .val (.int p4), .val (.long (Int64.ofNat N)), .second, .val (.int (Int32.ofNat A)), .val (.int fb), .val (.ref b), .unset, .unset] [(.long (Int64.ofNat N)), (.int (((((((1 : Int32) + (Int32.ofNat (own_nz N 7))) + (Int32.ofNat (own_nz N 14))) + (Int32.ofNat (own_nz N 21))) + (Int32.ofNat (own_nz N 28))) + (Int32.ofNat (own_nz N 35))) + (Int32.ofNat (own_nz N 42))))])
    refine Go.st (fun _ k_ => XS.bipush X.here hx rfl (hb hby at_148) k_) ?_
    show Go p e s below room_1.cells room_1.slots (Q0 h0 n0) T (mkF m 150 #[.val (.long p1), .second, .val (.int p2), .val (.int p3), .val (.int p4), .val (.long (Int64.ofNat N)), .second, .val (.int (Int32.ofNat A)), .val (.int fb), .val (.ref b), .unset, .unset] [(.int (49 : Int32)), (.long (Int64.ofNat N)), (.int (((((((1 : Int32) + (Int32.ofNat (own_nz N 7))) + (Int32.ofNat (own_nz N 14))) + (Int32.ofNat (own_nz N 21))) + (Int32.ofNat (own_nz N 28))) + (Int32.ofNat (own_nz N 35))) + (Int32.ofNat (own_nz N 42))))])
    obtain ⟨_, _, ⟨T18, L18, k18, n18⟩, -, X18, ⟨Lc18, hQ18, l18, y18, z18⟩, st18⟩ := Jvm.LawKit.callS X hx (y := (⟨"com/example/vernal_stem/vernalstem/index/IndexFormatEncodeVarintPinLaw", "nz", "(JI)I"⟩ : MethodName)) hown (mvT hZ (hw _ (List.mem_of_getElem? (i := 3) rfl))) (mvT hZ (hw _ (List.mem_of_getElem? (i := 4) rfl))) (mvT hZ (hw _ (List.mem_of_getElem? (i := 5) rfl))) (mvT hZ (hw _ (List.mem_of_getElem? (i := 6) rfl))) (by decide) (backOf (W := 1) (rm1 l Z a0 hw [] N 49 T.heap n0 ZG hN (by decide) (by decide)) hZ (hw _ (List.mem_of_getElem? (i := 6) rfl)) (hw _ (List.mem_of_getElem? (i := 5) rfl)) (by decide) (by decide)) (g := (mkF m 150 #[.val (.long p1), .second, .val (.int p2), .val (.int p3), .val (.int p4), .val (.long (Int64.ofNat N)), .second, .val (.int (Int32.ofNat A)), .val (.int fb), .val (.ref b), .unset, .unset] [(.int (49 : Int32)), (.long (Int64.ofNat N)), (.int (((((((1 : Int32) + (Int32.ofNat (own_nz N 7))) + (Int32.ofNat (own_nz N 14))) + (Int32.ofNat (own_nz N 21))) + (Int32.ofNat (own_nz N 28))) + (Int32.ofNat (own_nz N 35))) + (Int32.ofNat (own_nz N 42))))])) rfl (by rw [hml]; rfl) (argsL := [(.long (Int64.ofNat N)), (.int (49 : Int32))]) (rest := [(.int (((((((1 : Int32) + (Int32.ofNat (own_nz N 7))) + (Int32.ofNat (own_nz N 14))) + (Int32.ofNat (own_nz N 21))) + (Int32.ofNat (own_nz N 28))) + (Int32.ofNat (own_nz N 35))) + (Int32.ofNat (own_nz N 42))))]) (lenOf pd_0 rfl) rfl (by show 2 * 0 + _ ≤ _; exact Nat.le_of_eq rfl) (hb hby at_150) (fun _ _ => ⟨rfl, rfl, (by decide : (0 + 1) + 0 ≤ _), (by decide : (0 + 12) + 0 ≤ _)⟩)
    dsimp only [Pt.U, Pt.locs, Pt.cells, Pt.slots] at X18 l18 y18 z18 st18 hQ18
    subst l18 y18 z18
    obtain ⟨rfl, hN18, eh⟩ := hQ18
    have N18 := Fr.app N' hN18
    refine Go.st st18 ?_
    show Go p e s below room_1.cells room_1.slots (Q0 h0 n0) T18 (mkF m 153 #[.val (.long p1), .second, .val (.int p2), .val (.int p3), .val (.int p4), .val (.long (Int64.ofNat N)), .second, .val (.int (Int32.ofNat A)), .val (.int fb), .val (.ref b), .unset, .unset] [(.int (Int32.ofNat (own_nz N 49))), (.int (((((((1 : Int32) + (Int32.ofNat (own_nz N 7))) + (Int32.ofNat (own_nz N 14))) + (Int32.ofNat (own_nz N 21))) + (Int32.ofNat (own_nz N 28))) + (Int32.ofNat (own_nz N 35))) + (Int32.ofNat (own_nz N 42))))])
    refine Go.st (fun _ k_ => XS.iadd X18.here hx rfl (hb hby at_153) rfl k_) ?_
    show Go p e s below room_1.cells room_1.slots (Q0 h0 n0) T18 (mkF m 154 #[.val (.long p1), .second, .val (.int p2), .val (.int p3), .val (.int p4), .val (.long (Int64.ofNat N)), .second, .val (.int (Int32.ofNat A)), .val (.int fb), .val (.ref b), .unset, .unset] [(.int ((((((((1 : Int32) + (Int32.ofNat (own_nz N 7))) + (Int32.ofNat (own_nz N 14))) + (Int32.ofNat (own_nz N 21))) + (Int32.ofNat (own_nz N 28))) + (Int32.ofNat (own_nz N 35))) + (Int32.ofNat (own_nz N 42))) + (Int32.ofNat (own_nz N 49))))])
    exact nz56 _ _ X18 N18 (by rw [eh]; exact VG) (by rw [eh]; exact ZG)
  have nz42 : ∀ (T : State) (locs : List Loc) (X : Stand p l e room_1 s m #[(.long p1), (.int p2), (.int p3), (.int p4)] below meth c T locs (0 + 1) (0 + 12)) (N' : Fr n0 locs) (VG : AV Z T.heap b .byte 12 (fun _ => fb)) (ZG : n0 ≤ T.heap.size), Go p e s below room_1.cells room_1.slots (Q0 h0 n0) T (mkF m 138 #[.val (.long p1), .second, .val (.int p2), .val (.int p3), .val (.int p4), .val (.long (Int64.ofNat N)), .second, .val (.int (Int32.ofNat A)), .val (.int fb), .val (.ref b), .unset, .unset] [(.int ((((((1 : Int32) + (Int32.ofNat (own_nz N 7))) + (Int32.ofNat (own_nz N 14))) + (Int32.ofNat (own_nz N 21))) + (Int32.ofNat (own_nz N 28))) + (Int32.ofNat (own_nz N 35))))]) := by
    intro T locs X N' VG ZG
    show Go p e s below room_1.cells room_1.slots (Q0 h0 n0) T (mkF m 138 #[.val (.long p1), .second, .val (.int p2), .val (.int p3), .val (.int p4), .val (.long (Int64.ofNat N)), .second, .val (.int (Int32.ofNat A)), .val (.int fb), .val (.ref b), .unset, .unset] [(.int ((((((1 : Int32) + (Int32.ofNat (own_nz N 7))) + (Int32.ofNat (own_nz N 14))) + (Int32.ofNat (own_nz N 21))) + (Int32.ofNat (own_nz N 28))) + (Int32.ofNat (own_nz N 35))))])
    refine Go.st (fun _ k_ => XS.lload X.here hx rfl (hb hby at_138) rfl k_) ?_
    show Go p e s below room_1.cells room_1.slots (Q0 h0 n0) T (mkF m 140 #[.val (.long p1), .second, .val (.int p2), .val (.int p3), .val (.int p4), .val (.long (Int64.ofNat N)), .second, .val (.int (Int32.ofNat A)), .val (.int fb), .val (.ref b), .unset, .unset] [(.long (Int64.ofNat N)), (.int ((((((1 : Int32) + (Int32.ofNat (own_nz N 7))) + (Int32.ofNat (own_nz N 14))) + (Int32.ofNat (own_nz N 21))) + (Int32.ofNat (own_nz N 28))) + (Int32.ofNat (own_nz N 35))))])
    refine Go.st (fun _ k_ => XS.bipush X.here hx rfl (hb hby at_140) k_) ?_
    show Go p e s below room_1.cells room_1.slots (Q0 h0 n0) T (mkF m 142 #[.val (.long p1), .second, .val (.int p2), .val (.int p3), .val (.int p4), .val (.long (Int64.ofNat N)), .second, .val (.int (Int32.ofNat A)), .val (.int fb), .val (.ref b), .unset, .unset] [(.int (42 : Int32)), (.long (Int64.ofNat N)), (.int ((((((1 : Int32) + (Int32.ofNat (own_nz N 7))) + (Int32.ofNat (own_nz N 14))) + (Int32.ofNat (own_nz N 21))) + (Int32.ofNat (own_nz N 28))) + (Int32.ofNat (own_nz N 35))))])
    obtain ⟨_, _, ⟨T19, L19, k19, n19⟩, -, X19, ⟨Lc19, hQ19, l19, y19, z19⟩, st19⟩ := Jvm.LawKit.callS X hx (y := (⟨"com/example/vernal_stem/vernalstem/index/IndexFormatEncodeVarintPinLaw", "nz", "(JI)I"⟩ : MethodName)) hown (mvT hZ (hw _ (List.mem_of_getElem? (i := 3) rfl))) (mvT hZ (hw _ (List.mem_of_getElem? (i := 4) rfl))) (mvT hZ (hw _ (List.mem_of_getElem? (i := 5) rfl))) (mvT hZ (hw _ (List.mem_of_getElem? (i := 6) rfl))) (by decide) (backOf (W := 1) (rm1 l Z a0 hw [] N 42 T.heap n0 ZG hN (by decide) (by decide)) hZ (hw _ (List.mem_of_getElem? (i := 6) rfl)) (hw _ (List.mem_of_getElem? (i := 5) rfl)) (by decide) (by decide)) (g := (mkF m 142 #[.val (.long p1), .second, .val (.int p2), .val (.int p3), .val (.int p4), .val (.long (Int64.ofNat N)), .second, .val (.int (Int32.ofNat A)), .val (.int fb), .val (.ref b), .unset, .unset] [(.int (42 : Int32)), (.long (Int64.ofNat N)), (.int ((((((1 : Int32) + (Int32.ofNat (own_nz N 7))) + (Int32.ofNat (own_nz N 14))) + (Int32.ofNat (own_nz N 21))) + (Int32.ofNat (own_nz N 28))) + (Int32.ofNat (own_nz N 35))))])) rfl (by rw [hml]; rfl) (argsL := [(.long (Int64.ofNat N)), (.int (42 : Int32))]) (rest := [(.int ((((((1 : Int32) + (Int32.ofNat (own_nz N 7))) + (Int32.ofNat (own_nz N 14))) + (Int32.ofNat (own_nz N 21))) + (Int32.ofNat (own_nz N 28))) + (Int32.ofNat (own_nz N 35))))]) (lenOf pd_0 rfl) rfl (by show 2 * 0 + _ ≤ _; exact Nat.le_of_eq rfl) (hb hby at_142) (fun _ _ => ⟨rfl, rfl, (by decide : (0 + 1) + 0 ≤ _), (by decide : (0 + 12) + 0 ≤ _)⟩)
    dsimp only [Pt.U, Pt.locs, Pt.cells, Pt.slots] at X19 l19 y19 z19 st19 hQ19
    subst l19 y19 z19
    obtain ⟨rfl, hN19, eh⟩ := hQ19
    have N19 := Fr.app N' hN19
    refine Go.st st19 ?_
    show Go p e s below room_1.cells room_1.slots (Q0 h0 n0) T19 (mkF m 145 #[.val (.long p1), .second, .val (.int p2), .val (.int p3), .val (.int p4), .val (.long (Int64.ofNat N)), .second, .val (.int (Int32.ofNat A)), .val (.int fb), .val (.ref b), .unset, .unset] [(.int (Int32.ofNat (own_nz N 42))), (.int ((((((1 : Int32) + (Int32.ofNat (own_nz N 7))) + (Int32.ofNat (own_nz N 14))) + (Int32.ofNat (own_nz N 21))) + (Int32.ofNat (own_nz N 28))) + (Int32.ofNat (own_nz N 35))))])
    refine Go.st (fun _ k_ => XS.iadd X19.here hx rfl (hb hby at_145) rfl k_) ?_
    show Go p e s below room_1.cells room_1.slots (Q0 h0 n0) T19 (mkF m 146 #[.val (.long p1), .second, .val (.int p2), .val (.int p3), .val (.int p4), .val (.long (Int64.ofNat N)), .second, .val (.int (Int32.ofNat A)), .val (.int fb), .val (.ref b), .unset, .unset] [(.int (((((((1 : Int32) + (Int32.ofNat (own_nz N 7))) + (Int32.ofNat (own_nz N 14))) + (Int32.ofNat (own_nz N 21))) + (Int32.ofNat (own_nz N 28))) + (Int32.ofNat (own_nz N 35))) + (Int32.ofNat (own_nz N 42))))])
    exact nz49 _ _ X19 N19 (by rw [eh]; exact VG) (by rw [eh]; exact ZG)
  have nz35 : ∀ (T : State) (locs : List Loc) (X : Stand p l e room_1 s m #[(.long p1), (.int p2), (.int p3), (.int p4)] below meth c T locs (0 + 1) (0 + 12)) (N' : Fr n0 locs) (VG : AV Z T.heap b .byte 12 (fun _ => fb)) (ZG : n0 ≤ T.heap.size), Go p e s below room_1.cells room_1.slots (Q0 h0 n0) T (mkF m 130 #[.val (.long p1), .second, .val (.int p2), .val (.int p3), .val (.int p4), .val (.long (Int64.ofNat N)), .second, .val (.int (Int32.ofNat A)), .val (.int fb), .val (.ref b), .unset, .unset] [(.int (((((1 : Int32) + (Int32.ofNat (own_nz N 7))) + (Int32.ofNat (own_nz N 14))) + (Int32.ofNat (own_nz N 21))) + (Int32.ofNat (own_nz N 28))))]) := by
    intro T locs X N' VG ZG
    show Go p e s below room_1.cells room_1.slots (Q0 h0 n0) T (mkF m 130 #[.val (.long p1), .second, .val (.int p2), .val (.int p3), .val (.int p4), .val (.long (Int64.ofNat N)), .second, .val (.int (Int32.ofNat A)), .val (.int fb), .val (.ref b), .unset, .unset] [(.int (((((1 : Int32) + (Int32.ofNat (own_nz N 7))) + (Int32.ofNat (own_nz N 14))) + (Int32.ofNat (own_nz N 21))) + (Int32.ofNat (own_nz N 28))))])
    refine Go.st (fun _ k_ => XS.lload X.here hx rfl (hb hby at_130) rfl k_) ?_
    show Go p e s below room_1.cells room_1.slots (Q0 h0 n0) T (mkF m 132 #[.val (.long p1), .second, .val (.int p2), .val (.int p3), .val (.int p4), .val (.long (Int64.ofNat N)), .second, .val (.int (Int32.ofNat A)), .val (.int fb), .val (.ref b), .unset, .unset] [(.long (Int64.ofNat N)), (.int (((((1 : Int32) + (Int32.ofNat (own_nz N 7))) + (Int32.ofNat (own_nz N 14))) + (Int32.ofNat (own_nz N 21))) + (Int32.ofNat (own_nz N 28))))])
    refine Go.st (fun _ k_ => XS.bipush X.here hx rfl (hb hby at_132) k_) ?_
    show Go p e s below room_1.cells room_1.slots (Q0 h0 n0) T (mkF m 134 #[.val (.long p1), .second, .val (.int p2), .val (.int p3), .val (.int p4), .val (.long (Int64.ofNat N)), .second, .val (.int (Int32.ofNat A)), .val (.int fb), .val (.ref b), .unset, .unset] [(.int (35 : Int32)), (.long (Int64.ofNat N)), (.int (((((1 : Int32) + (Int32.ofNat (own_nz N 7))) + (Int32.ofNat (own_nz N 14))) + (Int32.ofNat (own_nz N 21))) + (Int32.ofNat (own_nz N 28))))])
    obtain ⟨_, _, ⟨T20, L20, k20, n20⟩, -, X20, ⟨Lc20, hQ20, l20, y20, z20⟩, st20⟩ := Jvm.LawKit.callS X hx (y := (⟨"com/example/vernal_stem/vernalstem/index/IndexFormatEncodeVarintPinLaw", "nz", "(JI)I"⟩ : MethodName)) hown (mvT hZ (hw _ (List.mem_of_getElem? (i := 3) rfl))) (mvT hZ (hw _ (List.mem_of_getElem? (i := 4) rfl))) (mvT hZ (hw _ (List.mem_of_getElem? (i := 5) rfl))) (mvT hZ (hw _ (List.mem_of_getElem? (i := 6) rfl))) (by decide) (backOf (W := 1) (rm1 l Z a0 hw [] N 35 T.heap n0 ZG hN (by decide) (by decide)) hZ (hw _ (List.mem_of_getElem? (i := 6) rfl)) (hw _ (List.mem_of_getElem? (i := 5) rfl)) (by decide) (by decide)) (g := (mkF m 134 #[.val (.long p1), .second, .val (.int p2), .val (.int p3), .val (.int p4), .val (.long (Int64.ofNat N)), .second, .val (.int (Int32.ofNat A)), .val (.int fb), .val (.ref b), .unset, .unset] [(.int (35 : Int32)), (.long (Int64.ofNat N)), (.int (((((1 : Int32) + (Int32.ofNat (own_nz N 7))) + (Int32.ofNat (own_nz N 14))) + (Int32.ofNat (own_nz N 21))) + (Int32.ofNat (own_nz N 28))))])) rfl (by rw [hml]; rfl) (argsL := [(.long (Int64.ofNat N)), (.int (35 : Int32))]) (rest := [(.int (((((1 : Int32) + (Int32.ofNat (own_nz N 7))) + (Int32.ofNat (own_nz N 14))) + (Int32.ofNat (own_nz N 21))) + (Int32.ofNat (own_nz N 28))))]) (lenOf pd_0 rfl) rfl (by show 2 * 0 + _ ≤ _; exact Nat.le_of_eq rfl) (hb hby at_134) (fun _ _ => ⟨rfl, rfl, (by decide : (0 + 1) + 0 ≤ _), (by decide : (0 + 12) + 0 ≤ _)⟩)
    dsimp only [Pt.U, Pt.locs, Pt.cells, Pt.slots] at X20 l20 y20 z20 st20 hQ20
    subst l20 y20 z20
    obtain ⟨rfl, hN20, eh⟩ := hQ20
    have N20 := Fr.app N' hN20
    refine Go.st st20 ?_
    show Go p e s below room_1.cells room_1.slots (Q0 h0 n0) T20 (mkF m 137 #[.val (.long p1), .second, .val (.int p2), .val (.int p3), .val (.int p4), .val (.long (Int64.ofNat N)), .second, .val (.int (Int32.ofNat A)), .val (.int fb), .val (.ref b), .unset, .unset] [(.int (Int32.ofNat (own_nz N 35))), (.int (((((1 : Int32) + (Int32.ofNat (own_nz N 7))) + (Int32.ofNat (own_nz N 14))) + (Int32.ofNat (own_nz N 21))) + (Int32.ofNat (own_nz N 28))))])
    refine Go.st (fun _ k_ => XS.iadd X20.here hx rfl (hb hby at_137) rfl k_) ?_
    show Go p e s below room_1.cells room_1.slots (Q0 h0 n0) T20 (mkF m 138 #[.val (.long p1), .second, .val (.int p2), .val (.int p3), .val (.int p4), .val (.long (Int64.ofNat N)), .second, .val (.int (Int32.ofNat A)), .val (.int fb), .val (.ref b), .unset, .unset] [(.int ((((((1 : Int32) + (Int32.ofNat (own_nz N 7))) + (Int32.ofNat (own_nz N 14))) + (Int32.ofNat (own_nz N 21))) + (Int32.ofNat (own_nz N 28))) + (Int32.ofNat (own_nz N 35))))])
    exact nz42 _ _ X20 N20 (by rw [eh]; exact VG) (by rw [eh]; exact ZG)
  have nz28 : ∀ (T : State) (locs : List Loc) (X : Stand p l e room_1 s m #[(.long p1), (.int p2), (.int p3), (.int p4)] below meth c T locs (0 + 1) (0 + 12)) (N' : Fr n0 locs) (VG : AV Z T.heap b .byte 12 (fun _ => fb)) (ZG : n0 ≤ T.heap.size), Go p e s below room_1.cells room_1.slots (Q0 h0 n0) T (mkF m 122 #[.val (.long p1), .second, .val (.int p2), .val (.int p3), .val (.int p4), .val (.long (Int64.ofNat N)), .second, .val (.int (Int32.ofNat A)), .val (.int fb), .val (.ref b), .unset, .unset] [(.int ((((1 : Int32) + (Int32.ofNat (own_nz N 7))) + (Int32.ofNat (own_nz N 14))) + (Int32.ofNat (own_nz N 21))))]) := by
    intro T locs X N' VG ZG
    show Go p e s below room_1.cells room_1.slots (Q0 h0 n0) T (mkF m 122 #[.val (.long p1), .second, .val (.int p2), .val (.int p3), .val (.int p4), .val (.long (Int64.ofNat N)), .second, .val (.int (Int32.ofNat A)), .val (.int fb), .val (.ref b), .unset, .unset] [(.int ((((1 : Int32) + (Int32.ofNat (own_nz N 7))) + (Int32.ofNat (own_nz N 14))) + (Int32.ofNat (own_nz N 21))))])
    refine Go.st (fun _ k_ => XS.lload X.here hx rfl (hb hby at_122) rfl k_) ?_
    show Go p e s below room_1.cells room_1.slots (Q0 h0 n0) T (mkF m 124 #[.val (.long p1), .second, .val (.int p2), .val (.int p3), .val (.int p4), .val (.long (Int64.ofNat N)), .second, .val (.int (Int32.ofNat A)), .val (.int fb), .val (.ref b), .unset, .unset] [(.long (Int64.ofNat N)), (.int ((((1 : Int32) + (Int32.ofNat (own_nz N 7))) + (Int32.ofNat (own_nz N 14))) + (Int32.ofNat (own_nz N 21))))])
    refine Go.st (fun _ k_ => XS.bipush X.here hx rfl (hb hby at_124) k_) ?_
    show Go p e s below room_1.cells room_1.slots (Q0 h0 n0) T (mkF m 126 #[.val (.long p1), .second, .val (.int p2), .val (.int p3), .val (.int p4), .val (.long (Int64.ofNat N)), .second, .val (.int (Int32.ofNat A)), .val (.int fb), .val (.ref b), .unset, .unset] [(.int (28 : Int32)), (.long (Int64.ofNat N)), (.int ((((1 : Int32) + (Int32.ofNat (own_nz N 7))) + (Int32.ofNat (own_nz N 14))) + (Int32.ofNat (own_nz N 21))))])
    obtain ⟨_, _, ⟨T21, L21, k21, n21⟩, -, X21, ⟨Lc21, hQ21, l21, y21, z21⟩, st21⟩ := Jvm.LawKit.callS X hx (y := (⟨"com/example/vernal_stem/vernalstem/index/IndexFormatEncodeVarintPinLaw", "nz", "(JI)I"⟩ : MethodName)) hown (mvT hZ (hw _ (List.mem_of_getElem? (i := 3) rfl))) (mvT hZ (hw _ (List.mem_of_getElem? (i := 4) rfl))) (mvT hZ (hw _ (List.mem_of_getElem? (i := 5) rfl))) (mvT hZ (hw _ (List.mem_of_getElem? (i := 6) rfl))) (by decide) (backOf (W := 1) (rm1 l Z a0 hw [] N 28 T.heap n0 ZG hN (by decide) (by decide)) hZ (hw _ (List.mem_of_getElem? (i := 6) rfl)) (hw _ (List.mem_of_getElem? (i := 5) rfl)) (by decide) (by decide)) (g := (mkF m 126 #[.val (.long p1), .second, .val (.int p2), .val (.int p3), .val (.int p4), .val (.long (Int64.ofNat N)), .second, .val (.int (Int32.ofNat A)), .val (.int fb), .val (.ref b), .unset, .unset] [(.int (28 : Int32)), (.long (Int64.ofNat N)), (.int ((((1 : Int32) + (Int32.ofNat (own_nz N 7))) + (Int32.ofNat (own_nz N 14))) + (Int32.ofNat (own_nz N 21))))])) rfl (by rw [hml]; rfl) (argsL := [(.long (Int64.ofNat N)), (.int (28 : Int32))]) (rest := [(.int ((((1 : Int32) + (Int32.ofNat (own_nz N 7))) + (Int32.ofNat (own_nz N 14))) + (Int32.ofNat (own_nz N 21))))]) (lenOf pd_0 rfl) rfl (by show 2 * 0 + _ ≤ _; exact Nat.le_of_eq rfl) (hb hby at_126) (fun _ _ => ⟨rfl, rfl, (by decide : (0 + 1) + 0 ≤ _), (by decide : (0 + 12) + 0 ≤ _)⟩)
    dsimp only [Pt.U, Pt.locs, Pt.cells, Pt.slots] at X21 l21 y21 z21 st21 hQ21
    subst l21 y21 z21
    obtain ⟨rfl, hN21, eh⟩ := hQ21
    have N21 := Fr.app N' hN21
    refine Go.st st21 ?_
    show Go p e s below room_1.cells room_1.slots (Q0 h0 n0) T21 (mkF m 129 #[.val (.long p1), .second, .val (.int p2), .val (.int p3), .val (.int p4), .val (.long (Int64.ofNat N)), .second, .val (.int (Int32.ofNat A)), .val (.int fb), .val (.ref b), .unset, .unset] [(.int (Int32.ofNat (own_nz N 28))), (.int ((((1 : Int32) + (Int32.ofNat (own_nz N 7))) + (Int32.ofNat (own_nz N 14))) + (Int32.ofNat (own_nz N 21))))])
    refine Go.st (fun _ k_ => XS.iadd X21.here hx rfl (hb hby at_129) rfl k_) ?_
    show Go p e s below room_1.cells room_1.slots (Q0 h0 n0) T21 (mkF m 130 #[.val (.long p1), .second, .val (.int p2), .val (.int p3), .val (.int p4), .val (.long (Int64.ofNat N)), .second, .val (.int (Int32.ofNat A)), .val (.int fb), .val (.ref b), .unset, .unset] [(.int (((((1 : Int32) + (Int32.ofNat (own_nz N 7))) + (Int32.ofNat (own_nz N 14))) + (Int32.ofNat (own_nz N 21))) + (Int32.ofNat (own_nz N 28))))])
    exact nz35 _ _ X21 N21 (by rw [eh]; exact VG) (by rw [eh]; exact ZG)
  have nz21 : ∀ (T : State) (locs : List Loc) (X : Stand p l e room_1 s m #[(.long p1), (.int p2), (.int p3), (.int p4)] below meth c T locs (0 + 1) (0 + 12)) (N' : Fr n0 locs) (VG : AV Z T.heap b .byte 12 (fun _ => fb)) (ZG : n0 ≤ T.heap.size), Go p e s below room_1.cells room_1.slots (Q0 h0 n0) T (mkF m 114 #[.val (.long p1), .second, .val (.int p2), .val (.int p3), .val (.int p4), .val (.long (Int64.ofNat N)), .second, .val (.int (Int32.ofNat A)), .val (.int fb), .val (.ref b), .unset, .unset] [(.int (((1 : Int32) + (Int32.ofNat (own_nz N 7))) + (Int32.ofNat (own_nz N 14))))]) := by
    intro T locs X N' VG ZG
    show Go p e s below room_1.cells room_1.slots (Q0 h0 n0) T (mkF m 114 #[.val (.long p1), .second, .val (.int p2), .val (.int p3), .val (.int p4), .val (.long (Int64.ofNat N)), .second, .val (.int (Int32.ofNat A)), .val (.int fb), .val (.ref b), .unset, .unset] [(.int (((1 : Int32) + (Int32.ofNat (own_nz N 7))) + (Int32.ofNat (own_nz N 14))))])
    refine Go.st (fun _ k_ => XS.lload X.here hx rfl (hb hby at_114) rfl k_) ?_
    show Go p e s below room_1.cells room_1.slots (Q0 h0 n0) T (mkF m 116 #[.val (.long p1), .second, .val (.int p2), .val (.int p3), .val (.int p4), .val (.long (Int64.ofNat N)), .second, .val (.int (Int32.ofNat A)), .val (.int fb), .val (.ref b), .unset, .unset] [(.long (Int64.ofNat N)), (.int (((1 : Int32) + (Int32.ofNat (own_nz N 7))) + (Int32.ofNat (own_nz N 14))))])
    refine Go.st (fun _ k_ => XS.bipush X.here hx rfl (hb hby at_116) k_) ?_
    show Go p e s below room_1.cells room_1.slots (Q0 h0 n0) T (mkF m 118 #[.val (.long p1), .second, .val (.int p2), .val (.int p3), .val (.int p4), .val (.long (Int64.ofNat N)), .second, .val (.int (Int32.ofNat A)), .val (.int fb), .val (.ref b), .unset, .unset] [(.int (21 : Int32)), (.long (Int64.ofNat N)), (.int (((1 : Int32) + (Int32.ofNat (own_nz N 7))) + (Int32.ofNat (own_nz N 14))))])
    obtain ⟨_, _, ⟨T22, L22, k22, n22⟩, -, X22, ⟨Lc22, hQ22, l22, y22, z22⟩, st22⟩ := Jvm.LawKit.callS X hx (y := (⟨"com/example/vernal_stem/vernalstem/index/IndexFormatEncodeVarintPinLaw", "nz", "(JI)I"⟩ : MethodName)) hown (mvT hZ (hw _ (List.mem_of_getElem? (i := 3) rfl))) (mvT hZ (hw _ (List.mem_of_getElem? (i := 4) rfl))) (mvT hZ (hw _ (List.mem_of_getElem? (i := 5) rfl))) (mvT hZ (hw _ (List.mem_of_getElem? (i := 6) rfl))) (by decide) (backOf (W := 1) (rm1 l Z a0 hw [] N 21 T.heap n0 ZG hN (by decide) (by decide)) hZ (hw _ (List.mem_of_getElem? (i := 6) rfl)) (hw _ (List.mem_of_getElem? (i := 5) rfl)) (by decide) (by decide)) (g := (mkF m 118 #[.val (.long p1), .second, .val (.int p2), .val (.int p3), .val (.int p4), .val (.long (Int64.ofNat N)), .second, .val (.int (Int32.ofNat A)), .val (.int fb), .val (.ref b), .unset, .unset] [(.int (21 : Int32)), (.long (Int64.ofNat N)), (.int (((1 : Int32) + (Int32.ofNat (own_nz N 7))) + (Int32.ofNat (own_nz N 14))))])) rfl (by rw [hml]; rfl) (argsL := [(.long (Int64.ofNat N)), (.int (21 : Int32))]) (rest := [(.int (((1 : Int32) + (Int32.ofNat (own_nz N 7))) + (Int32.ofNat (own_nz N 14))))]) (lenOf pd_0 rfl) rfl (by show 2 * 0 + _ ≤ _; exact Nat.le_of_eq rfl) (hb hby at_118) (fun _ _ => ⟨rfl, rfl, (by decide : (0 + 1) + 0 ≤ _), (by decide : (0 + 12) + 0 ≤ _)⟩)
    dsimp only [Pt.U, Pt.locs, Pt.cells, Pt.slots] at X22 l22 y22 z22 st22 hQ22
    subst l22 y22 z22
    obtain ⟨rfl, hN22, eh⟩ := hQ22
    have N22 := Fr.app N' hN22
    refine Go.st st22 ?_
    show Go p e s below room_1.cells room_1.slots (Q0 h0 n0) T22 (mkF m 121 #[.val (.long p1), .second, .val (.int p2), .val (.int p3), .val (.int p4), .val (.long (Int64.ofNat N)), .second, .val (.int (Int32.ofNat A)), .val (.int fb), .val (.ref b), .unset, .unset] [(.int (Int32.ofNat (own_nz N 21))), (.int (((1 : Int32) + (Int32.ofNat (own_nz N 7))) + (Int32.ofNat (own_nz N 14))))])
    refine Go.st (fun _ k_ => XS.iadd X22.here hx rfl (hb hby at_121) rfl k_) ?_
    show Go p e s below room_1.cells room_1.slots (Q0 h0 n0) T22 (mkF m 122 #[.val (.long p1), .second, .val (.int p2), .val (.int p3), .val (.int p4), .val (.long (Int64.ofNat N)), .second, .val (.int (Int32.ofNat A)), .val (.int fb), .val (.ref b), .unset, .unset] [(.int ((((1 : Int32) + (Int32.ofNat (own_nz N 7))) + (Int32.ofNat (own_nz N 14))) + (Int32.ofNat (own_nz N 21))))])
    exact nz28 _ _ X22 N22 (by rw [eh]; exact VG) (by rw [eh]; exact ZG)
  have nz14 : ∀ (T : State) (locs : List Loc) (X : Stand p l e room_1 s m #[(.long p1), (.int p2), (.int p3), (.int p4)] below meth c T locs (0 + 1) (0 + 12)) (N' : Fr n0 locs) (VG : AV Z T.heap b .byte 12 (fun _ => fb)) (ZG : n0 ≤ T.heap.size), Go p e s below room_1.cells room_1.slots (Q0 h0 n0) T (mkF m 106 #[.val (.long p1), .second, .val (.int p2), .val (.int p3), .val (.int p4), .val (.long (Int64.ofNat N)), .second, .val (.int (Int32.ofNat A)), .val (.int fb), .val (.ref b), .unset, .unset] [(.int ((1 : Int32) + (Int32.ofNat (own_nz N 7))))]) := by
    intro T locs X N' VG ZG
    show Go p e s below room_1.cells room_1.slots (Q0 h0 n0) T (mkF m 106 #[.val (.long p1), .second, .val (.int p2), .val (.int p3), .val (.int p4), .val (.long (Int64.ofNat N)), .second, .val (.int (Int32.ofNat A)), .val (.int fb), .val (.ref b), .unset, .unset] [(.int ((1 : Int32) + (Int32.ofNat (own_nz N 7))))])
    refine Go.st (fun _ k_ => XS.lload X.here hx rfl (hb hby at_106) rfl k_) ?_
    show Go p e s below room_1.cells room_1.slots (Q0 h0 n0) T (mkF m 108 #[.val (.long p1), .second, .val (.int p2), .val (.int p3), .val (.int p4), .val (.long (Int64.ofNat N)), .second, .val (.int (Int32.ofNat A)), .val (.int fb), .val (.ref b), .unset, .unset] [(.long (Int64.ofNat N)), (.int ((1 : Int32) + (Int32.ofNat (own_nz N 7))))])
    refine Go.st (fun _ k_ => XS.bipush X.here hx rfl (hb hby at_108) k_) ?_
    show Go p e s below room_1.cells room_1.slots (Q0 h0 n0) T (mkF m 110 #[.val (.long p1), .second, .val (.int p2), .val (.int p3), .val (.int p4), .val (.long (Int64.ofNat N)), .second, .val (.int (Int32.ofNat A)), .val (.int fb), .val (.ref b), .unset, .unset] [(.int (14 : Int32)), (.long (Int64.ofNat N)), (.int ((1 : Int32) + (Int32.ofNat (own_nz N 7))))])
    obtain ⟨_, _, ⟨T23, L23, k23, n23⟩, -, X23, ⟨Lc23, hQ23, l23, y23, z23⟩, st23⟩ := Jvm.LawKit.callS X hx (y := (⟨"com/example/vernal_stem/vernalstem/index/IndexFormatEncodeVarintPinLaw", "nz", "(JI)I"⟩ : MethodName)) hown (mvT hZ (hw _ (List.mem_of_getElem? (i := 3) rfl))) (mvT hZ (hw _ (List.mem_of_getElem? (i := 4) rfl))) (mvT hZ (hw _ (List.mem_of_getElem? (i := 5) rfl))) (mvT hZ (hw _ (List.mem_of_getElem? (i := 6) rfl))) (by decide) (backOf (W := 1) (rm1 l Z a0 hw [] N 14 T.heap n0 ZG hN (by decide) (by decide)) hZ (hw _ (List.mem_of_getElem? (i := 6) rfl)) (hw _ (List.mem_of_getElem? (i := 5) rfl)) (by decide) (by decide)) (g := (mkF m 110 #[.val (.long p1), .second, .val (.int p2), .val (.int p3), .val (.int p4), .val (.long (Int64.ofNat N)), .second, .val (.int (Int32.ofNat A)), .val (.int fb), .val (.ref b), .unset, .unset] [(.int (14 : Int32)), (.long (Int64.ofNat N)), (.int ((1 : Int32) + (Int32.ofNat (own_nz N 7))))])) rfl (by rw [hml]; rfl) (argsL := [(.long (Int64.ofNat N)), (.int (14 : Int32))]) (rest := [(.int ((1 : Int32) + (Int32.ofNat (own_nz N 7))))]) (lenOf pd_0 rfl) rfl (by show 2 * 0 + _ ≤ _; exact Nat.le_of_eq rfl) (hb hby at_110) (fun _ _ => ⟨rfl, rfl, (by decide : (0 + 1) + 0 ≤ _), (by decide : (0 + 12) + 0 ≤ _)⟩)
    dsimp only [Pt.U, Pt.locs, Pt.cells, Pt.slots] at X23 l23 y23 z23 st23 hQ23
    subst l23 y23 z23
    obtain ⟨rfl, hN23, eh⟩ := hQ23
    have N23 := Fr.app N' hN23
    refine Go.st st23 ?_
    show Go p e s below room_1.cells room_1.slots (Q0 h0 n0) T23 (mkF m 113 #[.val (.long p1), .second, .val (.int p2), .val (.int p3), .val (.int p4), .val (.long (Int64.ofNat N)), .second, .val (.int (Int32.ofNat A)), .val (.int fb), .val (.ref b), .unset, .unset] [(.int (Int32.ofNat (own_nz N 14))), (.int ((1 : Int32) + (Int32.ofNat (own_nz N 7))))])
    refine Go.st (fun _ k_ => XS.iadd X23.here hx rfl (hb hby at_113) rfl k_) ?_
    show Go p e s below room_1.cells room_1.slots (Q0 h0 n0) T23 (mkF m 114 #[.val (.long p1), .second, .val (.int p2), .val (.int p3), .val (.int p4), .val (.long (Int64.ofNat N)), .second, .val (.int (Int32.ofNat A)), .val (.int fb), .val (.ref b), .unset, .unset] [(.int (((1 : Int32) + (Int32.ofNat (own_nz N 7))) + (Int32.ofNat (own_nz N 14))))])
    exact nz21 _ _ X23 N23 (by rw [eh]; exact VG) (by rw [eh]; exact ZG)
  have nz7 : ∀ (T : State) (locs : List Loc) (X : Stand p l e room_1 s m #[(.long p1), (.int p2), (.int p3), (.int p4)] below meth c T locs (0 + 1) (0 + 12)) (N' : Fr n0 locs) (VG : AV Z T.heap b .byte 12 (fun _ => fb)) (ZG : n0 ≤ T.heap.size), Go p e s below room_1.cells room_1.slots (Q0 h0 n0) T (mkF m 98 #[.val (.long p1), .second, .val (.int p2), .val (.int p3), .val (.int p4), .val (.long (Int64.ofNat N)), .second, .val (.int (Int32.ofNat A)), .val (.int fb), .val (.ref b), .unset, .unset] [(.int (1 : Int32))]) := by
    intro T locs X N' VG ZG
    show Go p e s below room_1.cells room_1.slots (Q0 h0 n0) T (mkF m 98 #[.val (.long p1), .second, .val (.int p2), .val (.int p3), .val (.int p4), .val (.long (Int64.ofNat N)), .second, .val (.int (Int32.ofNat A)), .val (.int fb), .val (.ref b), .unset, .unset] [(.int (1 : Int32))])
    refine Go.st (fun _ k_ => XS.lload X.here hx rfl (hb hby at_98) rfl k_) ?_
    show Go p e s below room_1.cells room_1.slots (Q0 h0 n0) T (mkF m 100 #[.val (.long p1), .second, .val (.int p2), .val (.int p3), .val (.int p4), .val (.long (Int64.ofNat N)), .second, .val (.int (Int32.ofNat A)), .val (.int fb), .val (.ref b), .unset, .unset] [(.long (Int64.ofNat N)), (.int (1 : Int32))])
    refine Go.st (fun _ k_ => XS.bipush X.here hx rfl (hb hby at_100) k_) ?_
    show Go p e s below room_1.cells room_1.slots (Q0 h0 n0) T (mkF m 102 #[.val (.long p1), .second, .val (.int p2), .val (.int p3), .val (.int p4), .val (.long (Int64.ofNat N)), .second, .val (.int (Int32.ofNat A)), .val (.int fb), .val (.ref b), .unset, .unset] [(.int (7 : Int32)), (.long (Int64.ofNat N)), (.int (1 : Int32))])
    obtain ⟨_, _, ⟨T24, L24, k24, n24⟩, -, X24, ⟨Lc24, hQ24, l24, y24, z24⟩, st24⟩ := Jvm.LawKit.callS X hx (y := (⟨"com/example/vernal_stem/vernalstem/index/IndexFormatEncodeVarintPinLaw", "nz", "(JI)I"⟩ : MethodName)) hown (mvT hZ (hw _ (List.mem_of_getElem? (i := 3) rfl))) (mvT hZ (hw _ (List.mem_of_getElem? (i := 4) rfl))) (mvT hZ (hw _ (List.mem_of_getElem? (i := 5) rfl))) (mvT hZ (hw _ (List.mem_of_getElem? (i := 6) rfl))) (by decide) (backOf (W := 1) (rm1 l Z a0 hw [] N 7 T.heap n0 ZG hN (by decide) (by decide)) hZ (hw _ (List.mem_of_getElem? (i := 6) rfl)) (hw _ (List.mem_of_getElem? (i := 5) rfl)) (by decide) (by decide)) (g := (mkF m 102 #[.val (.long p1), .second, .val (.int p2), .val (.int p3), .val (.int p4), .val (.long (Int64.ofNat N)), .second, .val (.int (Int32.ofNat A)), .val (.int fb), .val (.ref b), .unset, .unset] [(.int (7 : Int32)), (.long (Int64.ofNat N)), (.int (1 : Int32))])) rfl (by rw [hml]; rfl) (argsL := [(.long (Int64.ofNat N)), (.int (7 : Int32))]) (rest := [(.int (1 : Int32))]) (lenOf pd_0 rfl) rfl (by show 2 * 0 + _ ≤ _; exact Nat.le_of_eq rfl) (hb hby at_102) (fun _ _ => ⟨rfl, rfl, (by decide : (0 + 1) + 0 ≤ _), (by decide : (0 + 12) + 0 ≤ _)⟩)
    dsimp only [Pt.U, Pt.locs, Pt.cells, Pt.slots] at X24 l24 y24 z24 st24 hQ24
    subst l24 y24 z24
    obtain ⟨rfl, hN24, eh⟩ := hQ24
    have N24 := Fr.app N' hN24
    refine Go.st st24 ?_
    show Go p e s below room_1.cells room_1.slots (Q0 h0 n0) T24 (mkF m 105 #[.val (.long p1), .second, .val (.int p2), .val (.int p3), .val (.int p4), .val (.long (Int64.ofNat N)), .second, .val (.int (Int32.ofNat A)), .val (.int fb), .val (.ref b), .unset, .unset] [(.int (Int32.ofNat (own_nz N 7))), (.int (1 : Int32))])
    refine Go.st (fun _ k_ => XS.iadd X24.here hx rfl (hb hby at_105) rfl k_) ?_
    show Go p e s below room_1.cells room_1.slots (Q0 h0 n0) T24 (mkF m 106 #[.val (.long p1), .second, .val (.int p2), .val (.int p3), .val (.int p4), .val (.long (Int64.ofNat N)), .second, .val (.int (Int32.ofNat A)), .val (.int fb), .val (.ref b), .unset, .unset] [(.int ((1 : Int32) + (Int32.ofNat (own_nz N 7))))])
    exact nz14 _ _ X24 N24 (by rw [eh]; exact VG) (by rw [eh]; exact ZG)
  have P0 : AV Z h3 b .byte 12 (own_p fb 0) := V0.congr (fun j _ => rfl)
  show Go p e s below room_1.cells room_1.slots (Q0 h0 n0) T3 (mkF m 29 #[.val (.long p1), .second, .val (.int p2), .val (.int p3), .val (.int p4), .val (.long (Int64.ofNat N)), .second, .val (.int (Int32.ofNat A)), .val (.int fb), .unset, .unset, .unset] [(.ref b)])
  refine Go.st (fun _ k_ => XS.dup X3.here hx rfl (hb hby at_29) rfl rfl k_) ?_
  show Go p e s below room_1.cells room_1.slots (Q0 h0 n0) T3 (mkF m 30 #[.val (.long p1), .second, .val (.int p2), .val (.int p3), .val (.int p4), .val (.long (Int64.ofNat N)), .second, .val (.int (Int32.ofNat A)), .val (.int fb), .unset, .unset, .unset] [(.ref b), (.ref b)])
  refine Go.st (fun _ k_ => XS.iconst X3.here hx rfl (hb hby at_30) k_) ?_
  show Go p e s below room_1.cells room_1.slots (Q0 h0 n0) T3 (mkF m 31 #[.val (.long p1), .second, .val (.int p2), .val (.int p3), .val (.int p4), .val (.long (Int64.ofNat N)), .second, .val (.int (Int32.ofNat A)), .val (.int fb), .unset, .unset, .unset] [(.int (0 : Int32)), (.ref b), (.ref b)])
  refine Go.st (fun _ k_ => XS.iload X3.here hx rfl (hb hby at_31) rfl k_) ?_
  show Go p e s below room_1.cells room_1.slots (Q0 h0 n0) T3 (mkF m 33 #[.val (.long p1), .second, .val (.int p2), .val (.int p3), .val (.int p4), .val (.long (Int64.ofNat N)), .second, .val (.int (Int32.ofNat A)), .val (.int fb), .unset, .unset, .unset] [(.int fb), (.int (0 : Int32)), (.ref b), (.ref b)])
  obtain ⟨T25, h25, X25, e25, W25, V25, st25⟩ := AV.stB X3 hx hZ e3 P0 (i := 0) rfl (by decide) (by decide) (g := (mkF m 33 #[.val (.long p1), .second, .val (.int p2), .val (.int p3), .val (.int p4), .val (.long (Int64.ofNat N)), .second, .val (.int (Int32.ofNat A)), .val (.int fb), .unset, .unset, .unset] [(.int fb), (.int (0 : Int32)), (.ref b), (.ref b)])) rfl rfl (hb hby at_33)
  refine Go.st st25 ?_
  have N25 := Fr.snoc X25 N0 gb
  have P1 : AV Z h25 b .byte 12 (own_p fb 1) := V25.congr (fun j _ => by rw [hfb0]; exact own_pS)
  show Go p e s below room_1.cells room_1.slots (Q0 h0 n0) T25 (mkF m 34 #[.val (.long p1), .second, .val (.int p2), .val (.int p3), .val (.int p4), .val (.long (Int64.ofNat N)), .second, .val (.int (Int32.ofNat A)), .val (.int fb), .unset, .unset, .unset] [(.ref b)])
  refine Go.st (fun _ k_ => XS.dup X25.here hx rfl (hb hby at_34) rfl rfl k_) ?_
  show Go p e s below room_1.cells room_1.slots (Q0 h0 n0) T25 (mkF m 35 #[.val (.long p1), .second, .val (.int p2), .val (.int p3), .val (.int p4), .val (.long (Int64.ofNat N)), .second, .val (.int (Int32.ofNat A)), .val (.int fb), .unset, .unset, .unset] [(.ref b), (.ref b)])
  refine Go.st (fun _ k_ => XS.iconst X25.here hx rfl (hb hby at_35) k_) ?_
  show Go p e s below room_1.cells room_1.slots (Q0 h0 n0) T25 (mkF m 36 #[.val (.long p1), .second, .val (.int p2), .val (.int p3), .val (.int p4), .val (.long (Int64.ofNat N)), .second, .val (.int (Int32.ofNat A)), .val (.int fb), .unset, .unset, .unset] [(.int (1 : Int32)), (.ref b), (.ref b)])
  refine Go.st (fun _ k_ => XS.iload X25.here hx rfl (hb hby at_36) rfl k_) ?_
  show Go p e s below room_1.cells room_1.slots (Q0 h0 n0) T25 (mkF m 38 #[.val (.long p1), .second, .val (.int p2), .val (.int p3), .val (.int p4), .val (.long (Int64.ofNat N)), .second, .val (.int (Int32.ofNat A)), .val (.int fb), .unset, .unset, .unset] [(.int fb), (.int (1 : Int32)), (.ref b), (.ref b)])
  obtain ⟨T26, h26, X26, e26, W26, V26, st26⟩ := AV.stB X25 hx hZ e25 P1 (i := 1) rfl (by decide) (by decide) (g := (mkF m 38 #[.val (.long p1), .second, .val (.int p2), .val (.int p3), .val (.int p4), .val (.long (Int64.ofNat N)), .second, .val (.int (Int32.ofNat A)), .val (.int fb), .unset, .unset, .unset] [(.int fb), (.int (1 : Int32)), (.ref b), (.ref b)])) rfl rfl (hb hby at_38)
  refine Go.st st26 ?_
  have N26 := Fr.snoc X26 N25 gb
  have P2 : AV Z h26 b .byte 12 (own_p fb 2) := V26.congr (fun j _ => by rw [hfb0]; exact own_pS)
  show Go p e s below room_1.cells room_1.slots (Q0 h0 n0) T26 (mkF m 39 #[.val (.long p1), .second, .val (.int p2), .val (.int p3), .val (.int p4), .val (.long (Int64.ofNat N)), .second, .val (.int (Int32.ofNat A)), .val (.int fb), .unset, .unset, .unset] [(.ref b)])
  refine Go.st (fun _ k_ => XS.dup X26.here hx rfl (hb hby at_39) rfl rfl k_) ?_
  show Go p e s below room_1.cells room_1.slots (Q0 h0 n0) T26 (mkF m 40 #[.val (.long p1), .second, .val (.int p2), .val (.int p3), .val (.int p4), .val (.long (Int64.ofNat N)), .second, .val (.int (Int32.ofNat A)), .val (.int fb), .unset, .unset, .unset] [(.ref b), (.ref b)])
  refine Go.st (fun _ k_ => XS.iconst X26.here hx rfl (hb hby at_40) k_) ?_
  show Go p e s below room_1.cells room_1.slots (Q0 h0 n0) T26 (mkF m 41 #[.val (.long p1), .second, .val (.int p2), .val (.int p3), .val (.int p4), .val (.long (Int64.ofNat N)), .second, .val (.int (Int32.ofNat A)), .val (.int fb), .unset, .unset, .unset] [(.int (2 : Int32)), (.ref b), (.ref b)])
  refine Go.st (fun _ k_ => XS.iload X26.here hx rfl (hb hby at_41) rfl k_) ?_
  show Go p e s below room_1.cells room_1.slots (Q0 h0 n0) T26 (mkF m 43 #[.val (.long p1), .second, .val (.int p2), .val (.int p3), .val (.int p4), .val (.long (Int64.ofNat N)), .second, .val (.int (Int32.ofNat A)), .val (.int fb), .unset, .unset, .unset] [(.int fb), (.int (2 : Int32)), (.ref b), (.ref b)])
  obtain ⟨T27, h27, X27, e27, W27, V27, st27⟩ := AV.stB X26 hx hZ e26 P2 (i := 2) rfl (by decide) (by decide) (g := (mkF m 43 #[.val (.long p1), .second, .val (.int p2), .val (.int p3), .val (.int p4), .val (.long (Int64.ofNat N)), .second, .val (.int (Int32.ofNat A)), .val (.int fb), .unset, .unset, .unset] [(.int fb), (.int (2 : Int32)), (.ref b), (.ref b)])) rfl rfl (hb hby at_43)
  refine Go.st st27 ?_
  have N27 := Fr.snoc X27 N26 gb
  have P3 : AV Z h27 b .byte 12 (own_p fb 3) := V27.congr (fun j _ => by rw [hfb0]; exact own_pS)
  show Go p e s below room_1.cells room_1.slots (Q0 h0 n0) T27 (mkF m 44 #[.val (.long p1), .second, .val (.int p2), .val (.int p3), .val (.int p4), .val (.long (Int64.ofNat N)), .second, .val (.int (Int32.ofNat A)), .val (.int fb), .unset, .unset, .unset] [(.ref b)])
  refine Go.st (fun _ k_ => XS.dup X27.here hx rfl (hb hby at_44) rfl rfl k_) ?_
  show Go p e s below room_1.cells room_1.slots (Q0 h0 n0) T27 (mkF m 45 #[.val (.long p1), .second, .val (.int p2), .val (.int p3), .val (.int p4), .val (.long (Int64.ofNat N)), .second, .val (.int (Int32.ofNat A)), .val (.int fb), .unset, .unset, .unset] [(.ref b), (.ref b)])
  refine Go.st (fun _ k_ => XS.iconst X27.here hx rfl (hb hby at_45) k_) ?_
  show Go p e s below room_1.cells room_1.slots (Q0 h0 n0) T27 (mkF m 46 #[.val (.long p1), .second, .val (.int p2), .val (.int p3), .val (.int p4), .val (.long (Int64.ofNat N)), .second, .val (.int (Int32.ofNat A)), .val (.int fb), .unset, .unset, .unset] [(.int (3 : Int32)), (.ref b), (.ref b)])
  refine Go.st (fun _ k_ => XS.iload X27.here hx rfl (hb hby at_46) rfl k_) ?_
  show Go p e s below room_1.cells room_1.slots (Q0 h0 n0) T27 (mkF m 48 #[.val (.long p1), .second, .val (.int p2), .val (.int p3), .val (.int p4), .val (.long (Int64.ofNat N)), .second, .val (.int (Int32.ofNat A)), .val (.int fb), .unset, .unset, .unset] [(.int fb), (.int (3 : Int32)), (.ref b), (.ref b)])
  obtain ⟨T28, h28, X28, e28, W28, V28, st28⟩ := AV.stB X27 hx hZ e27 P3 (i := 3) rfl (by decide) (by decide) (g := (mkF m 48 #[.val (.long p1), .second, .val (.int p2), .val (.int p3), .val (.int p4), .val (.long (Int64.ofNat N)), .second, .val (.int (Int32.ofNat A)), .val (.int fb), .unset, .unset, .unset] [(.int fb), (.int (3 : Int32)), (.ref b), (.ref b)])) rfl rfl (hb hby at_48)
  refine Go.st st28 ?_
  have N28 := Fr.snoc X28 N27 gb
  have P4 : AV Z h28 b .byte 12 (own_p fb 4) := V28.congr (fun j _ => by rw [hfb0]; exact own_pS)
  show Go p e s below room_1.cells room_1.slots (Q0 h0 n0) T28 (mkF m 49 #[.val (.long p1), .second, .val (.int p2), .val (.int p3), .val (.int p4), .val (.long (Int64.ofNat N)), .second, .val (.int (Int32.ofNat A)), .val (.int fb), .unset, .unset, .unset] [(.ref b)])
  refine Go.st (fun _ k_ => XS.dup X28.here hx rfl (hb hby at_49) rfl rfl k_) ?_
  show Go p e s below room_1.cells room_1.slots (Q0 h0 n0) T28 (mkF m 50 #[.val (.long p1), .second, .val (.int p2), .val (.int p3), .val (.int p4), .val (.long (Int64.ofNat N)), .second, .val (.int (Int32.ofNat A)), .val (.int fb), .unset, .unset, .unset] [(.ref b), (.ref b)])
  refine Go.st (fun _ k_ => XS.iconst X28.here hx rfl (hb hby at_50) k_) ?_
  show Go p e s below room_1.cells room_1.slots (Q0 h0 n0) T28 (mkF m 51 #[.val (.long p1), .second, .val (.int p2), .val (.int p3), .val (.int p4), .val (.long (Int64.ofNat N)), .second, .val (.int (Int32.ofNat A)), .val (.int fb), .unset, .unset, .unset] [(.int (4 : Int32)), (.ref b), (.ref b)])
  refine Go.st (fun _ k_ => XS.iload X28.here hx rfl (hb hby at_51) rfl k_) ?_
  show Go p e s below room_1.cells room_1.slots (Q0 h0 n0) T28 (mkF m 53 #[.val (.long p1), .second, .val (.int p2), .val (.int p3), .val (.int p4), .val (.long (Int64.ofNat N)), .second, .val (.int (Int32.ofNat A)), .val (.int fb), .unset, .unset, .unset] [(.int fb), (.int (4 : Int32)), (.ref b), (.ref b)])
  obtain ⟨T29, h29, X29, e29, W29, V29, st29⟩ := AV.stB X28 hx hZ e28 P4 (i := 4) rfl (by decide) (by decide) (g := (mkF m 53 #[.val (.long p1), .second, .val (.int p2), .val (.int p3), .val (.int p4), .val (.long (Int64.ofNat N)), .second, .val (.int (Int32.ofNat A)), .val (.int fb), .unset, .unset, .unset] [(.int fb), (.int (4 : Int32)), (.ref b), (.ref b)])) rfl rfl (hb hby at_53)
  refine Go.st st29 ?_
  have N29 := Fr.snoc X29 N28 gb
  have P5 : AV Z h29 b .byte 12 (own_p fb 5) := V29.congr (fun j _ => by rw [hfb0]; exact own_pS)
  show Go p e s below room_1.cells room_1.slots (Q0 h0 n0) T29 (mkF m 54 #[.val (.long p1), .second, .val (.int p2), .val (.int p3), .val (.int p4), .val (.long (Int64.ofNat N)), .second, .val (.int (Int32.ofNat A)), .val (.int fb), .unset, .unset, .unset] [(.ref b)])
  refine Go.st (fun _ k_ => XS.dup X29.here hx rfl (hb hby at_54) rfl rfl k_) ?_
  show Go p e s below room_1.cells room_1.slots (Q0 h0 n0) T29 (mkF m 55 #[.val (.long p1), .second, .val (.int p2), .val (.int p3), .val (.int p4), .val (.long (Int64.ofNat N)), .second, .val (.int (Int32.ofNat A)), .val (.int fb), .unset, .unset, .unset] [(.ref b), (.ref b)])
  refine Go.st (fun _ k_ => XS.iconst X29.here hx rfl (hb hby at_55) k_) ?_
  show Go p e s below room_1.cells room_1.slots (Q0 h0 n0) T29 (mkF m 56 #[.val (.long p1), .second, .val (.int p2), .val (.int p3), .val (.int p4), .val (.long (Int64.ofNat N)), .second, .val (.int (Int32.ofNat A)), .val (.int fb), .unset, .unset, .unset] [(.int (5 : Int32)), (.ref b), (.ref b)])
  refine Go.st (fun _ k_ => XS.iload X29.here hx rfl (hb hby at_56) rfl k_) ?_
  show Go p e s below room_1.cells room_1.slots (Q0 h0 n0) T29 (mkF m 58 #[.val (.long p1), .second, .val (.int p2), .val (.int p3), .val (.int p4), .val (.long (Int64.ofNat N)), .second, .val (.int (Int32.ofNat A)), .val (.int fb), .unset, .unset, .unset] [(.int fb), (.int (5 : Int32)), (.ref b), (.ref b)])
  obtain ⟨T30, h30, X30, e30, W30, V30, st30⟩ := AV.stB X29 hx hZ e29 P5 (i := 5) rfl (by decide) (by decide) (g := (mkF m 58 #[.val (.long p1), .second, .val (.int p2), .val (.int p3), .val (.int p4), .val (.long (Int64.ofNat N)), .second, .val (.int (Int32.ofNat A)), .val (.int fb), .unset, .unset, .unset] [(.int fb), (.int (5 : Int32)), (.ref b), (.ref b)])) rfl rfl (hb hby at_58)
  refine Go.st st30 ?_
  have N30 := Fr.snoc X30 N29 gb
  have P6 : AV Z h30 b .byte 12 (own_p fb 6) := V30.congr (fun j _ => by rw [hfb0]; exact own_pS)
  show Go p e s below room_1.cells room_1.slots (Q0 h0 n0) T30 (mkF m 59 #[.val (.long p1), .second, .val (.int p2), .val (.int p3), .val (.int p4), .val (.long (Int64.ofNat N)), .second, .val (.int (Int32.ofNat A)), .val (.int fb), .unset, .unset, .unset] [(.ref b)])
  refine Go.st (fun _ k_ => XS.dup X30.here hx rfl (hb hby at_59) rfl rfl k_) ?_
  show Go p e s below room_1.cells room_1.slots (Q0 h0 n0) T30 (mkF m 60 #[.val (.long p1), .second, .val (.int p2), .val (.int p3), .val (.int p4), .val (.long (Int64.ofNat N)), .second, .val (.int (Int32.ofNat A)), .val (.int fb), .unset, .unset, .unset] [(.ref b), (.ref b)])
  refine Go.st (fun _ k_ => XS.bipush X30.here hx rfl (hb hby at_60) k_) ?_
  show Go p e s below room_1.cells room_1.slots (Q0 h0 n0) T30 (mkF m 62 #[.val (.long p1), .second, .val (.int p2), .val (.int p3), .val (.int p4), .val (.long (Int64.ofNat N)), .second, .val (.int (Int32.ofNat A)), .val (.int fb), .unset, .unset, .unset] [(.int (6 : Int32)), (.ref b), (.ref b)])
  refine Go.st (fun _ k_ => XS.iload X30.here hx rfl (hb hby at_62) rfl k_) ?_
  show Go p e s below room_1.cells room_1.slots (Q0 h0 n0) T30 (mkF m 64 #[.val (.long p1), .second, .val (.int p2), .val (.int p3), .val (.int p4), .val (.long (Int64.ofNat N)), .second, .val (.int (Int32.ofNat A)), .val (.int fb), .unset, .unset, .unset] [(.int fb), (.int (6 : Int32)), (.ref b), (.ref b)])
  obtain ⟨T31, h31, X31, e31, W31, V31, st31⟩ := AV.stB X30 hx hZ e30 P6 (i := 6) rfl (by decide) (by decide) (g := (mkF m 64 #[.val (.long p1), .second, .val (.int p2), .val (.int p3), .val (.int p4), .val (.long (Int64.ofNat N)), .second, .val (.int (Int32.ofNat A)), .val (.int fb), .unset, .unset, .unset] [(.int fb), (.int (6 : Int32)), (.ref b), (.ref b)])) rfl rfl (hb hby at_64)
  refine Go.st st31 ?_
  have N31 := Fr.snoc X31 N30 gb
  have P7 : AV Z h31 b .byte 12 (own_p fb 7) := V31.congr (fun j _ => by rw [hfb0]; exact own_pS)
  show Go p e s below room_1.cells room_1.slots (Q0 h0 n0) T31 (mkF m 65 #[.val (.long p1), .second, .val (.int p2), .val (.int p3), .val (.int p4), .val (.long (Int64.ofNat N)), .second, .val (.int (Int32.ofNat A)), .val (.int fb), .unset, .unset, .unset] [(.ref b)])
  refine Go.st (fun _ k_ => XS.dup X31.here hx rfl (hb hby at_65) rfl rfl k_) ?_
  show Go p e s below room_1.cells room_1.slots (Q0 h0 n0) T31 (mkF m 66 #[.val (.long p1), .second, .val (.int p2), .val (.int p3), .val (.int p4), .val (.long (Int64.ofNat N)), .second, .val (.int (Int32.ofNat A)), .val (.int fb), .unset, .unset, .unset] [(.ref b), (.ref b)])
  refine Go.st (fun _ k_ => XS.bipush X31.here hx rfl (hb hby at_66) k_) ?_
  show Go p e s below room_1.cells room_1.slots (Q0 h0 n0) T31 (mkF m 68 #[.val (.long p1), .second, .val (.int p2), .val (.int p3), .val (.int p4), .val (.long (Int64.ofNat N)), .second, .val (.int (Int32.ofNat A)), .val (.int fb), .unset, .unset, .unset] [(.int (7 : Int32)), (.ref b), (.ref b)])
  refine Go.st (fun _ k_ => XS.iload X31.here hx rfl (hb hby at_68) rfl k_) ?_
  show Go p e s below room_1.cells room_1.slots (Q0 h0 n0) T31 (mkF m 70 #[.val (.long p1), .second, .val (.int p2), .val (.int p3), .val (.int p4), .val (.long (Int64.ofNat N)), .second, .val (.int (Int32.ofNat A)), .val (.int fb), .unset, .unset, .unset] [(.int fb), (.int (7 : Int32)), (.ref b), (.ref b)])
  obtain ⟨T32, h32, X32, e32, W32, V32, st32⟩ := AV.stB X31 hx hZ e31 P7 (i := 7) rfl (by decide) (by decide) (g := (mkF m 70 #[.val (.long p1), .second, .val (.int p2), .val (.int p3), .val (.int p4), .val (.long (Int64.ofNat N)), .second, .val (.int (Int32.ofNat A)), .val (.int fb), .unset, .unset, .unset] [(.int fb), (.int (7 : Int32)), (.ref b), (.ref b)])) rfl rfl (hb hby at_70)
  refine Go.st st32 ?_
  have N32 := Fr.snoc X32 N31 gb
  have P8 : AV Z h32 b .byte 12 (own_p fb 8) := V32.congr (fun j _ => by rw [hfb0]; exact own_pS)
  show Go p e s below room_1.cells room_1.slots (Q0 h0 n0) T32 (mkF m 71 #[.val (.long p1), .second, .val (.int p2), .val (.int p3), .val (.int p4), .val (.long (Int64.ofNat N)), .second, .val (.int (Int32.ofNat A)), .val (.int fb), .unset, .unset, .unset] [(.ref b)])
  refine Go.st (fun _ k_ => XS.dup X32.here hx rfl (hb hby at_71) rfl rfl k_) ?_
  show Go p e s below room_1.cells room_1.slots (Q0 h0 n0) T32 (mkF m 72 #[.val (.long p1), .second, .val (.int p2), .val (.int p3), .val (.int p4), .val (.long (Int64.ofNat N)), .second, .val (.int (Int32.ofNat A)), .val (.int fb), .unset, .unset, .unset] [(.ref b), (.ref b)])
  refine Go.st (fun _ k_ => XS.bipush X32.here hx rfl (hb hby at_72) k_) ?_
  show Go p e s below room_1.cells room_1.slots (Q0 h0 n0) T32 (mkF m 74 #[.val (.long p1), .second, .val (.int p2), .val (.int p3), .val (.int p4), .val (.long (Int64.ofNat N)), .second, .val (.int (Int32.ofNat A)), .val (.int fb), .unset, .unset, .unset] [(.int (8 : Int32)), (.ref b), (.ref b)])
  refine Go.st (fun _ k_ => XS.iload X32.here hx rfl (hb hby at_74) rfl k_) ?_
  show Go p e s below room_1.cells room_1.slots (Q0 h0 n0) T32 (mkF m 76 #[.val (.long p1), .second, .val (.int p2), .val (.int p3), .val (.int p4), .val (.long (Int64.ofNat N)), .second, .val (.int (Int32.ofNat A)), .val (.int fb), .unset, .unset, .unset] [(.int fb), (.int (8 : Int32)), (.ref b), (.ref b)])
  obtain ⟨T33, h33, X33, e33, W33, V33, st33⟩ := AV.stB X32 hx hZ e32 P8 (i := 8) rfl (by decide) (by decide) (g := (mkF m 76 #[.val (.long p1), .second, .val (.int p2), .val (.int p3), .val (.int p4), .val (.long (Int64.ofNat N)), .second, .val (.int (Int32.ofNat A)), .val (.int fb), .unset, .unset, .unset] [(.int fb), (.int (8 : Int32)), (.ref b), (.ref b)])) rfl rfl (hb hby at_76)
  refine Go.st st33 ?_
  have N33 := Fr.snoc X33 N32 gb
  have P9 : AV Z h33 b .byte 12 (own_p fb 9) := V33.congr (fun j _ => by rw [hfb0]; exact own_pS)
  show Go p e s below room_1.cells room_1.slots (Q0 h0 n0) T33 (mkF m 77 #[.val (.long p1), .second, .val (.int p2), .val (.int p3), .val (.int p4), .val (.long (Int64.ofNat N)), .second, .val (.int (Int32.ofNat A)), .val (.int fb), .unset, .unset, .unset] [(.ref b)])
  refine Go.st (fun _ k_ => XS.dup X33.here hx rfl (hb hby at_77) rfl rfl k_) ?_
  show Go p e s below room_1.cells room_1.slots (Q0 h0 n0) T33 (mkF m 78 #[.val (.long p1), .second, .val (.int p2), .val (.int p3), .val (.int p4), .val (.long (Int64.ofNat N)), .second, .val (.int (Int32.ofNat A)), .val (.int fb), .unset, .unset, .unset] [(.ref b), (.ref b)])
  refine Go.st (fun _ k_ => XS.bipush X33.here hx rfl (hb hby at_78) k_) ?_
  show Go p e s below room_1.cells room_1.slots (Q0 h0 n0) T33 (mkF m 80 #[.val (.long p1), .second, .val (.int p2), .val (.int p3), .val (.int p4), .val (.long (Int64.ofNat N)), .second, .val (.int (Int32.ofNat A)), .val (.int fb), .unset, .unset, .unset] [(.int (9 : Int32)), (.ref b), (.ref b)])
  refine Go.st (fun _ k_ => XS.iload X33.here hx rfl (hb hby at_80) rfl k_) ?_
  show Go p e s below room_1.cells room_1.slots (Q0 h0 n0) T33 (mkF m 82 #[.val (.long p1), .second, .val (.int p2), .val (.int p3), .val (.int p4), .val (.long (Int64.ofNat N)), .second, .val (.int (Int32.ofNat A)), .val (.int fb), .unset, .unset, .unset] [(.int fb), (.int (9 : Int32)), (.ref b), (.ref b)])
  obtain ⟨T34, h34, X34, e34, W34, V34, st34⟩ := AV.stB X33 hx hZ e33 P9 (i := 9) rfl (by decide) (by decide) (g := (mkF m 82 #[.val (.long p1), .second, .val (.int p2), .val (.int p3), .val (.int p4), .val (.long (Int64.ofNat N)), .second, .val (.int (Int32.ofNat A)), .val (.int fb), .unset, .unset, .unset] [(.int fb), (.int (9 : Int32)), (.ref b), (.ref b)])) rfl rfl (hb hby at_82)
  refine Go.st st34 ?_
  have N34 := Fr.snoc X34 N33 gb
  have P10 : AV Z h34 b .byte 12 (own_p fb 10) := V34.congr (fun j _ => by rw [hfb0]; exact own_pS)
  show Go p e s below room_1.cells room_1.slots (Q0 h0 n0) T34 (mkF m 83 #[.val (.long p1), .second, .val (.int p2), .val (.int p3), .val (.int p4), .val (.long (Int64.ofNat N)), .second, .val (.int (Int32.ofNat A)), .val (.int fb), .unset, .unset, .unset] [(.ref b)])
  refine Go.st (fun _ k_ => XS.dup X34.here hx rfl (hb hby at_83) rfl rfl k_) ?_
  show Go p e s below room_1.cells room_1.slots (Q0 h0 n0) T34 (mkF m 84 #[.val (.long p1), .second, .val (.int p2), .val (.int p3), .val (.int p4), .val (.long (Int64.ofNat N)), .second, .val (.int (Int32.ofNat A)), .val (.int fb), .unset, .unset, .unset] [(.ref b), (.ref b)])
  refine Go.st (fun _ k_ => XS.bipush X34.here hx rfl (hb hby at_84) k_) ?_
  show Go p e s below room_1.cells room_1.slots (Q0 h0 n0) T34 (mkF m 86 #[.val (.long p1), .second, .val (.int p2), .val (.int p3), .val (.int p4), .val (.long (Int64.ofNat N)), .second, .val (.int (Int32.ofNat A)), .val (.int fb), .unset, .unset, .unset] [(.int (10 : Int32)), (.ref b), (.ref b)])
  refine Go.st (fun _ k_ => XS.iload X34.here hx rfl (hb hby at_86) rfl k_) ?_
  show Go p e s below room_1.cells room_1.slots (Q0 h0 n0) T34 (mkF m 88 #[.val (.long p1), .second, .val (.int p2), .val (.int p3), .val (.int p4), .val (.long (Int64.ofNat N)), .second, .val (.int (Int32.ofNat A)), .val (.int fb), .unset, .unset, .unset] [(.int fb), (.int (10 : Int32)), (.ref b), (.ref b)])
  obtain ⟨T35, h35, X35, e35, W35, V35, st35⟩ := AV.stB X34 hx hZ e34 P10 (i := 10) rfl (by decide) (by decide) (g := (mkF m 88 #[.val (.long p1), .second, .val (.int p2), .val (.int p3), .val (.int p4), .val (.long (Int64.ofNat N)), .second, .val (.int (Int32.ofNat A)), .val (.int fb), .unset, .unset, .unset] [(.int fb), (.int (10 : Int32)), (.ref b), (.ref b)])) rfl rfl (hb hby at_88)
  refine Go.st st35 ?_
  have N35 := Fr.snoc X35 N34 gb
  have P11 : AV Z h35 b .byte 12 (own_p fb 11) := V35.congr (fun j _ => by rw [hfb0]; exact own_pS)
  show Go p e s below room_1.cells room_1.slots (Q0 h0 n0) T35 (mkF m 89 #[.val (.long p1), .second, .val (.int p2), .val (.int p3), .val (.int p4), .val (.long (Int64.ofNat N)), .second, .val (.int (Int32.ofNat A)), .val (.int fb), .unset, .unset, .unset] [(.ref b)])
  refine Go.st (fun _ k_ => XS.dup X35.here hx rfl (hb hby at_89) rfl rfl k_) ?_
  show Go p e s below room_1.cells room_1.slots (Q0 h0 n0) T35 (mkF m 90 #[.val (.long p1), .second, .val (.int p2), .val (.int p3), .val (.int p4), .val (.long (Int64.ofNat N)), .second, .val (.int (Int32.ofNat A)), .val (.int fb), .unset, .unset, .unset] [(.ref b), (.ref b)])
  refine Go.st (fun _ k_ => XS.bipush X35.here hx rfl (hb hby at_90) k_) ?_
  show Go p e s below room_1.cells room_1.slots (Q0 h0 n0) T35 (mkF m 92 #[.val (.long p1), .second, .val (.int p2), .val (.int p3), .val (.int p4), .val (.long (Int64.ofNat N)), .second, .val (.int (Int32.ofNat A)), .val (.int fb), .unset, .unset, .unset] [(.int (11 : Int32)), (.ref b), (.ref b)])
  refine Go.st (fun _ k_ => XS.iload X35.here hx rfl (hb hby at_92) rfl k_) ?_
  show Go p e s below room_1.cells room_1.slots (Q0 h0 n0) T35 (mkF m 94 #[.val (.long p1), .second, .val (.int p2), .val (.int p3), .val (.int p4), .val (.long (Int64.ofNat N)), .second, .val (.int (Int32.ofNat A)), .val (.int fb), .unset, .unset, .unset] [(.int fb), (.int (11 : Int32)), (.ref b), (.ref b)])
  obtain ⟨T36, h36, X36, e36, W36, V36, st36⟩ := AV.stB X35 hx hZ e35 P11 (i := 11) rfl (by decide) (by decide) (g := (mkF m 94 #[.val (.long p1), .second, .val (.int p2), .val (.int p3), .val (.int p4), .val (.long (Int64.ofNat N)), .second, .val (.int (Int32.ofNat A)), .val (.int fb), .unset, .unset, .unset] [(.int fb), (.int (11 : Int32)), (.ref b), (.ref b)])) rfl rfl (hb hby at_94)
  refine Go.st st36 ?_
  have N36 := Fr.snoc X36 N35 gb
  have P12 : AV Z h36 b .byte 12 (own_p fb 12) := V36.congr (fun j _ => by rw [hfb0]; exact own_pS)
  have VF : AV Z h36 b .byte 12 (fun _ => fb) := P12.congr (fun j hj => if_pos hj)
  have ZF : n0 ≤ h36.size := Nat.le_trans gb (Nat.le_of_lt VF.lt)
  show Go p e s below room_1.cells room_1.slots (Q0 h0 n0) T36 (mkF m 95 #[.val (.long p1), .second, .val (.int p2), .val (.int p3), .val (.int p4), .val (.long (Int64.ofNat N)), .second, .val (.int (Int32.ofNat A)), .val (.int fb), .unset, .unset, .unset] [(.ref b)])
  refine Go.st (fun _ k_ => XS.astore X36.here hx rfl (hb hby at_95) rfl rfl (l' := #[.val (.long p1), .second, .val (.int p2), .val (.int p3), .val (.int p4), .val (.long (Int64.ofNat N)), .second, .val (.int (Int32.ofNat A)), .val (.int fb), .val (.ref b), .unset, .unset]) rfl k_) ?_
  show Go p e s below room_1.cells room_1.slots (Q0 h0 n0) T36 (mkF m 97 #[.val (.long p1), .second, .val (.int p2), .val (.int p3), .val (.int p4), .val (.long (Int64.ofNat N)), .second, .val (.int (Int32.ofNat A)), .val (.int fb), .val (.ref b), .unset, .unset] [])
  refine Go.st (fun _ k_ => XS.iconst X36.here hx rfl (hb hby at_97) k_) ?_
  show Go p e s below room_1.cells room_1.slots (Q0 h0 n0) T36 (mkF m 98 #[.val (.long p1), .second, .val (.int p2), .val (.int p3), .val (.int p4), .val (.long (Int64.ofNat N)), .second, .val (.int (Int32.ofNat A)), .val (.int fb), .val (.ref b), .unset, .unset] [(.int (1 : Int32))])
  exact nz7 T36 _ X36 N36 (by rw [e36]; exact VF) (by rw [e36]; exact ZF)
set_option maxRecDepth 65536 in
set_option maxHeartbeats 40000000 in
theorem comes_1 {Post : Tables → Env → Array Value → State → Outcome → State → Prop} (hpost : ∀ tb e args s v u, (limb_1_1.after args s (.returned v) u = true ∧ limb_1_2.after args s (.returned v) u = true ∧ True) → FrameEnd s (.returned v) u (Jvm.fieldLocs frame_1_writes args s ++ Jvm.arrayLocs frame_1_arrays args s ++ Jvm.staticLocs frame_1_statics s) 16 128 → Post tb e args s (.returned v) u) :
    ArmFor flags0 classFile x code maxLocals ret World_1 tables_1 room_1 Calls_1 rest_1 Pre_1 Post := by
  intro l hfl _ _ p e ha hc hk s m args below hf hA hF happ hP
  obtain ⟨hcalls, hrest, hpre⟩ := hP
  obtain ⟨-, -, -, hnamed, -, -, -, hat⟩ := (Spec.applies_iff hf).mp happ
  obtain ⟨hg, hn⟩ := and_e (Cond.before_iff.mp (show (Jvm.Cond.and given_1 narrow_1).before args s = true from hpre))
  obtain ⟨hcnt, hk0⟩ := and_e hg
  obtain ⟨ha0, hk1⟩ := and_e hk0
  obtain ⟨ha1, hk2⟩ := and_e hk1
  obtain ⟨ha2, hk3⟩ := and_e hk2
  obtain ⟨w0, w1, w2, w3, rfl⟩ : ∃ w0 w1 w2 w3 : Value, args = #[w0, w1, w2, w3] := by
    have hs : args.size = 4 := by simpa [Cond.value, given_1] using hcnt
    obtain ⟨L⟩ := args
    match L, hs with
    | [w0, w1, w2, w3], _ => exact ⟨w0, w1, w2, w3, rfl⟩
  have hw := fun d (hd : d ∈ tables_1) => atoms_spec (ws := Jvm.Cond.code x code maxLocals ret :: tables_1) hat d (List.mem_cons_of_mem _ hd)
  obtain ⟨i0, ei0⟩ := isL_v ha0
  obtain rfl : w0 = (.long i0) := Option.some.inj ei0
  obtain ⟨i1, ei1⟩ := is_v ha1
  obtain rfl : w1 = (.int i1) := Option.some.inj ei1
  obtain ⟨i2, ei2⟩ := is_v ha2
  obtain rfl : w2 = (.int i2) := Option.some.inj ei2
  obtain ⟨i3, ei3⟩ := is_v hk3
  obtain rfl : w3 = (.int i3) := Option.some.inj ei3
  obtain ⟨n, o, h1, h2, h3, _, L, rfl, ⟨rfl, N⟩, hq⟩ := rm0 l s _ hw tables_1 i0 i1 i2 i3 s.heap s.heap.size (Nat.le_refl _) p e ha hc hk s m _ below hf ((Spec.applies_iff_loose hf).mp happ).1 ⟨rfl, State.Warmed39.refl s, rfl⟩ trivial
  refine ⟨n, _, h1, h2, h3, hpost _ _ _ _ _ _ ⟨Cond.after_iff.mpr rfl, Cond.after_iff.mpr (eq_i res_at (Term.int_eval (1)) rfl), trivial⟩ ⟨hq.1, hq.2.1, (hq.2.2.sift fun y hy => Or.inr (N y hy)).mono (by decide) (by decide)⟩⟩
theorem main_1_1 : Claimed_1_1 := comes_1 fun _ _ _ _ _ _ h hF => ⟨h.1, hF⟩
theorem main_1_2 : Claimed_1_2 := comes_1 fun _ _ _ _ _ _ h hF => ⟨h.2.1, hF⟩
end Jvm.Pilot.@@N@@
namespace Jvm.Pilot.@@N@@
open Jvm Jvm.ClassFile Sem Op Lib Jvm.Free Jvm.Stand Jvm.Pilot.@@N@@.Jvm.D
/-! MADE BY PROGRAM (witnessworld.py) out of the Statement's table words and the real class files: 9 classes; the members and pool entries that the words name. The judged class is class 1, her method 1. -/
namespace start1
open Jvm.ClassFile
def u (s : String) : CpInfo := .utf8 (stringToUtf16 s)
/-- a pool by its gaps: so many unusable entries, then the entry; so many at the end -/
def gap : Nat → List CpInfo → List CpInfo
  | 0, r => r
  | n + 1, r => .unusable :: gap n r
def poolList (es : List (Nat × CpInfo)) (last : Nat) : List CpInfo := es.foldr (fun e r => gap e.1 (e.2 :: r)) (gap last [])
def pool (es : List (Nat × CpInfo)) (last : Nat) : Array CpInfo := ⟨poolList es last⟩
def fileOf (pool : Array CpInfo) (this : Nat) (attrs : Array Attribute := #[]) (ms : Array MethodInfo := #[]) (fl : Nat := 33) (sup : Nat := 0) (ifs : Array Nat := #[]) (fds : Array FieldInfo := #[]) : ClassFile where
  minorVersion := 0
  majorVersion := 65
  constantPool := pool
  accessFlags := fl
  thisClass := this
  superClass := sup
  interfaces := ifs
  fields := fds
  methods := ms
  attributes := attrs
def plain (name : String) (sup : Option ClassId) : Class where
  name := name
  kind := .ordinary
  loader := none
  accessFlags := 33
  super := sup
  interfaces := #[]
  cf := none
  fields := #[]
  methods := #[]
  instanceTypes := #[]
  staticTypes := #[]
  resolved := #[]
  callSites := []
  init := .initialized
  statics := none
  mirror := none

def pool0 : Array CpInfo := pool [(5, u "<init>"), (0, u "()V"), (1, .class_ 10), (1, u "java/lang/Object")] 113

def k0m0 : Method := { name := "<init>", desc := "()V", sig := { parameters := [], returnType := none }, accessFlags := 1, code := none }
/-- java/lang/Object -/
def k0 : Class := { plain "java/lang/Object" none with
  accessFlags := 33
  interfaces := #[]
  cf := some (fileOf pool0 8 #[] #[{ accessFlags := 1, nameIndex := 5, descriptorIndex := 6, attributes := #[] }] 33 0 #[] #[])
  fields := #[]
  methods := #[k0m0]
  instanceTypes := #[]
  staticTypes := #[]
  resolved := Array.replicate 124 none
  statics := none }

def pool1 : Array CpInfo := pool [(2, .class_ 4), (1, u "java/lang/Object"), (0, u "<init>"), (0, u "()V"), (2, .long 9223372036854775807), (1, .integer 2147483647), (0, .methodref 13 14), (0, .class_ 15), (0, .nameAndType 16 17), (0, u "com/example/vernal_stem/vernalstem/index/IndexFormatEncodeVarintPinLaw"), (0, u "nz"), (0, u "(JI)I"), (0, .methodref 19 20), (0, .class_ 21), (0, .nameAndType 22 23), (0, u "com/example/vernal_stem/vernalstem/index/IndexFormat"), (0, u "encodeVarint"), (0, u "(J[BI)I"), (0, .methodref 13 25), (0, .nameAndType 26 27), (0, u "ok"), (0, u "([BIIJIB)Z"), (0, .long 127), (3, u "law"), (0, u "(JIII)Z")] 5

def k1m0 : Method := { name := "<init>", desc := "()V", sig := { parameters := [], returnType := none }, accessFlags := 1, code := none }
def k1c1 : Code := { maxStack := 7, maxLocals := 12, code := code, exceptionTable := #[], attributes := #[] }
def k1m1 : Method := { name := "law", desc := "(JIII)Z", sig := { parameters := [.long, .int, .int, .int], returnType := some .boolean }, accessFlags := 9, code := some k1c1 }
def k1c2 : Code := { maxStack := 4, maxLocals := 3, code := method_3_code, exceptionTable := #[], attributes := #[] }
def k1m2 : Method := { name := "nz", desc := "(JI)I", sig := { parameters := [.long, .int], returnType := some .int }, accessFlags := 10, code := some k1c2 }
def k1c3 : Code := { maxStack := 4, maxLocals := 10, code := method_4_code, exceptionTable := #[], attributes := #[] }
def k1m3 : Method := { name := "ok", desc := "([BIIJIB)Z", sig := { parameters := [(.array .byte), .int, .int, .long, .int, .byte], returnType := some .boolean }, accessFlags := 10, code := some k1c3 }
/-- com/example/vernal_stem/vernalstem/index/IndexFormatEncodeVarintPinLaw -/
def k1 : Class := { plain "com/example/vernal_stem/vernalstem/index/IndexFormatEncodeVarintPinLaw" (some 0) with
  accessFlags := 49
  interfaces := #[]
  cf := some (fileOf pool1 13 #[] #[{ accessFlags := 1, nameIndex := 5, descriptorIndex := 6, attributes := #[] }, { accessFlags := 9, nameIndex := 32, descriptorIndex := 33, attributes := #[] }, { accessFlags := 10, nameIndex := 16, descriptorIndex := 17, attributes := #[] }, { accessFlags := 10, nameIndex := 26, descriptorIndex := 27, attributes := #[] }] 49 2 #[] #[])
  fields := #[]
  methods := #[k1m0, k1m1, k1m2, k1m3]
  instanceTypes := #[]
  staticTypes := #[]
  resolved := Array.replicate 39 none
  statics := none }

def pool2 : Array CpInfo := pool [(2, .class_ 4), (1, u "java/lang/Object"), (0, u "<init>"), (0, u "()V"), (0, .class_ 8), (0, u "com/example/vernal_stem/vernalstem/index/IndexFormat"), (0, .long 18446744073709551488), (1, .long 127), (1, .long 128), (37, u "MAGIC"), (0, u "[B"), (0, u "FILE_NAME"), (0, u "Ljava/lang/String;"), (3, u "VERSION"), (0, u "I"), (1, u "CHECKSUM_SIZE"), (1, u "LONGEST_VARINT"), (1, u "LONGEST_LONG_VARINT"), (1, u "DAMAGED"), (2, u "PAYLOAD"), (1, u "MORE"), (1, u "SHIFT"), (3, u "encodeVarint"), (0, u "(J[BI)I")] 7

def k2m0 : Method := { name := "<init>", desc := "()V", sig := { parameters := [], returnType := none }, accessFlags := 2, code := none }
def k2c1 : Code := { maxStack := 6, maxLocals := 7, code := prog_45_method_2_code, exceptionTable := #[], attributes := #[] }
def k2m1 : Method := { name := "encodeVarint", desc := "(J[BI)I", sig := { parameters := [.long, (.array .byte), .int], returnType := some .int }, accessFlags := 8, code := some k2c1 }
/-- com/example/vernal_stem/vernalstem/index/IndexFormat -/
def k2 : Class := { plain "com/example/vernal_stem/vernalstem/index/IndexFormat" (some 0) with
  accessFlags := 32
  interfaces := #[]
  cf := some (fileOf pool2 7 #[] #[{ accessFlags := 2, nameIndex := 5, descriptorIndex := 6, attributes := #[] }, { accessFlags := 8, nameIndex := 78, descriptorIndex := 79, attributes := #[] }] 32 2 #[] #[{ accessFlags := 24, nameIndex := 53, descriptorIndex := 54, attributes := #[] }, { accessFlags := 24, nameIndex := 51, descriptorIndex := 52, attributes := #[] }, { accessFlags := 24, nameIndex := 58, descriptorIndex := 59, attributes := #[] }, { accessFlags := 24, nameIndex := 61, descriptorIndex := 59, attributes := #[] }, { accessFlags := 24, nameIndex := 63, descriptorIndex := 59, attributes := #[] }, { accessFlags := 24, nameIndex := 65, descriptorIndex := 59, attributes := #[] }, { accessFlags := 24, nameIndex := 67, descriptorIndex := 54, attributes := #[] }, { accessFlags := 26, nameIndex := 70, descriptorIndex := 59, attributes := #[] }, { accessFlags := 26, nameIndex := 72, descriptorIndex := 59, attributes := #[] }, { accessFlags := 26, nameIndex := 74, descriptorIndex := 59, attributes := #[] }])
  fields := #[{ name := "FILE_NAME", type := (.object "java/lang/String"), accessFlags := 24, slot := 0, constantValue := 0 }, { name := "MAGIC", type := (.array .byte), accessFlags := 24, slot := 1, constantValue := 0 }, { name := "VERSION", type := .int, accessFlags := 24, slot := 2, constantValue := 0 }, { name := "CHECKSUM_SIZE", type := .int, accessFlags := 24, slot := 3, constantValue := 0 }, { name := "LONGEST_VARINT", type := .int, accessFlags := 24, slot := 4, constantValue := 0 }, { name := "LONGEST_LONG_VARINT", type := .int, accessFlags := 24, slot := 5, constantValue := 0 }, { name := "DAMAGED", type := (.object "java/lang/String"), accessFlags := 24, slot := 6, constantValue := 0 }, { name := "PAYLOAD", type := .int, accessFlags := 26, slot := 7, constantValue := 0 }, { name := "MORE", type := .int, accessFlags := 26, slot := 8, constantValue := 0 }, { name := "SHIFT", type := .int, accessFlags := 26, slot := 9, constantValue := 0 }]
  methods := #[k2m0, k2m1]
  instanceTypes := #[]
  staticTypes := #[(.object "java/lang/String"), (.array .byte), .int, .int, .int, .int, (.object "java/lang/String"), .int, .int, .int]
  resolved := Array.replicate 87 none
  statics := none }

def pool3 : Array CpInfo := pool [(1, u "java/lang/Cloneable"), (0, .class_ 1), (0, u "java/lang/Object"), (0, .class_ 3)] 3

/-- java/lang/Cloneable -/
def k3 : Class := { plain "java/lang/Cloneable" (some 0) with
  accessFlags := 1537
  interfaces := #[]
  cf := some (fileOf pool3 2 #[] #[] 1537 4 #[] #[])
  fields := #[]
  methods := #[]
  instanceTypes := #[]
  staticTypes := #[]
  resolved := Array.replicate 8 none
  statics := none }

def pool4 : Array CpInfo := pool [(1, u "java/io/Serializable"), (0, .class_ 1), (0, u "java/lang/Object"), (0, .class_ 3)] 3

/-- java/io/Serializable -/
def k4 : Class := { plain "java/io/Serializable" (some 0) with
  accessFlags := 1537
  interfaces := #[]
  cf := some (fileOf pool4 2 #[] #[] 1537 4 #[] #[])
  fields := #[]
  methods := #[]
  instanceTypes := #[]
  staticTypes := #[]
  resolved := Array.replicate 8 none
  statics := none }

/-- the primitive byte -/
def k5 : Class := { plain "byte" none with kind := .primitive 'B', accessFlags := 0x411 }
/-- [B -/
def k6 : Class := { plain "[B" (some 0) with kind := .array 5 .byte, interfaces := #[3, 4], accessFlags := 1041 }

/-- the primitive int -/
def k7 : Class := { plain "int" none with kind := .primitive 'I', accessFlags := 0x411 }
/-- [I -/
def k8 : Class := { plain "[I" (some 0) with kind := .array 7 .int, interfaces := #[3, 4], accessFlags := 1041 }

def heap : Heap := #[]
def classes : Array Class := #[k0, k1, k2, k3, k4, k5, k6, k7, k8]
def interned : List (Array UInt16 × Addr) := []
def slotsUsed : Nat := 0
def theMethod : MethodId := ⟨1, 1⟩
def args0 : Array Value := #[.long 300, .int 3, .int 2, .int 7]
def aboutOver (below : List Frame) : State where
  vm := { classes := classes, interned := interned.toArray }
  heap := heap
  slotsUsed := slotsUsed
  threads := #[{ frames := .invoking theMethod args0 :: below }]
def below0 : List Frame := [.native { method := ⟨0, 0⟩, args := #[] }]
def about1 : State := aboutOver below0
def p0 : Program := .bare "" "" ""
def e0 : Env := launch0.env 0 0 0
theorem w_frames : about1.frames = Frame.invoking theMethod args0 :: below0 := rfl
set_option maxRecDepth 65536 in
theorem w_args : argsFit about1.vm theMethod args0 = true := by decide +kernel
set_option maxRecDepth 65536 in
theorem w_heap : heapFits about1 = true := by decide +kernel
set_option maxRecDepth 65536 in
theorem w_runnable : about1.curStatus? = some .runnable := by decide +kernel
set_option maxRecDepth 65536 in
theorem w_alone : about1.alone = true := by decide +kernel
set_option maxRecDepth 65536 in
theorem w_named : about1.methodNamed? x = some theMethod := by decide +kernel
set_option maxRecDepth 65536 in
theorem w_hears : about1.hears theMethod below0 = true := by decide +kernel
set_option maxRecDepth 65536 in
theorem w_ripe : about1.ripe theMethod args0 below0 = true := by decide +kernel
theorem w_running : about1.status = .running := rfl
set_option maxRecDepth 65536 in
theorem w_room : about1.hasRoom e0.platform room_1 = true :=
  launch0.hasRoom_least _ room_1 (by decide +kernel) (by decide +kernel) (by decide +kernel) (by decide +kernel) (by decide +kernel) (by decide +kernel)
theorem allAtoms_all (ts : List Jvm.Cond) (a : Array Jvm.Value) (st : Jvm.State) : (allAtoms ts).before a st = ts.all (fun c => c.before a st) := by
  induction ts with
  | nil => rfl
  | cons c t ih =>
    show (Jvm.Cond.and c (allAtoms t)).before a st = _
    rw [Jvm.Cond.before_and, ih, List.all_cons]
def words1 : List Jvm.Cond := Jvm.Cond.code x code maxLocals ret :: tables_1
/-- a 'code' word, met by the world's own term for the bytes: nothing is compared byte by byte -/
theorem code_word {y : MethodName} {bytes : ByteArray} {mx : Nat} {rt : Option FieldType} {a : Array Value} {s : State} {m : MethodId} {meth : Method} {c : Code} (h1 : s.methodNamed? y = some m) (h2 : s.vm.method? m = some meth) (h3 : meth.code = some c) (h4 : c.code = bytes)
    (h5 : (c.maxLocals == mx && c.exceptionTable.isEmpty && decide (c.maxStack ≤ mostOperands) && decide (meth.sig.returnType = rt) && !meth.locks && decide (parseMethodDescriptor y.desc = some meth.sig)) = true) : (Jvm.Cond.code y bytes mx rt).before a s = true := by
  simp only [Bool.and_eq_true, beq_iff_eq, Bool.not_eq_true', decide_eq_true_eq] at h5
  obtain ⟨⟨⟨⟨⟨g1, g2⟩, g3⟩, g4⟩, g5⟩, g6⟩ := h5
  simp [Cond.before, Cond.holds, Cond.value, h1, h2, h3, h4, g1, g2, g3, g4, g5, g6]
def isCode : Jvm.Cond → Bool
  | .code _ _ _ _ => true
  | _ => false
theorem all_split {L : List Jvm.Cond} {P : Jvm.Cond → Bool} (h1 : L.all (fun c => isCode c || P c) = true) (h2 : ∀ c ∈ L.filter isCode, P c = true) : L.all P = true := by
  refine List.all_eq_true.mpr fun c hc => ?_
  have h := List.all_eq_true.mp h1 c hc
  rcases Bool.eq_false_or_eq_true (isCode c) with hi | hi
  · exact h2 c (List.mem_filter.mpr ⟨hc, hi⟩)
  · simpa [hi] using h
set_option maxRecDepth 65536 in
theorem w_c0 : (Jvm.Cond.code x code maxLocals ret).before args0 about1 = true := code_word (m := ⟨1, 1⟩) (meth := k1m1) (c := k1c1) (by decide +kernel) rfl rfl rfl (by decide +kernel)
set_option maxRecDepth 65536 in
theorem w_c1 : (Jvm.Cond.code ({ cls := "com/example/vernal_stem/vernalstem/index/IndexFormatEncodeVarintPinLaw", name := "nz", desc := "(JI)I" } : Jvm.MethodName) method_3_code (3 : Nat) (Option.some Jvm.ClassFile.FieldType.int)).before args0 about1 = true := code_word (m := ⟨1, 2⟩) (meth := k1m2) (c := k1c2) (by decide +kernel) rfl rfl rfl (by decide +kernel)
set_option maxRecDepth 65536 in
theorem w_c2 : (Jvm.Cond.code ({ cls := "com/example/vernal_stem/vernalstem/index/IndexFormat", name := "encodeVarint", desc := "(J[BI)I" } : Jvm.MethodName) prog_45_method_2_code (7 : Nat) (Option.some Jvm.ClassFile.FieldType.int)).before args0 about1 = true := code_word (m := ⟨2, 1⟩) (meth := k2m1) (c := k2c1) (by decide +kernel) rfl rfl rfl (by decide +kernel)
set_option maxRecDepth 65536 in
theorem w_c3 : (Jvm.Cond.code ({ cls := "com/example/vernal_stem/vernalstem/index/IndexFormatEncodeVarintPinLaw", name := "ok", desc := "([BIIJIB)Z" } : Jvm.MethodName) method_4_code (10 : Nat) (Option.some Jvm.ClassFile.FieldType.boolean)).before args0 about1 = true := code_word (m := ⟨1, 3⟩) (meth := k1m3) (c := k1c3) (by decide +kernel) rfl rfl rfl (by decide +kernel)
def codes1 : List Jvm.Cond := [Jvm.Cond.code x code maxLocals ret, Jvm.Cond.code ({ cls := "com/example/vernal_stem/vernalstem/index/IndexFormatEncodeVarintPinLaw", name := "nz", desc := "(JI)I" } : Jvm.MethodName) method_3_code (3 : Nat) (Option.some Jvm.ClassFile.FieldType.int), Jvm.Cond.code ({ cls := "com/example/vernal_stem/vernalstem/index/IndexFormat", name := "encodeVarint", desc := "(J[BI)I" } : Jvm.MethodName) prog_45_method_2_code (7 : Nat) (Option.some Jvm.ClassFile.FieldType.int), Jvm.Cond.code ({ cls := "com/example/vernal_stem/vernalstem/index/IndexFormatEncodeVarintPinLaw", name := "ok", desc := "([BIIJIB)Z" } : Jvm.MethodName) method_4_code (10 : Nat) (Option.some Jvm.ClassFile.FieldType.boolean)]
set_option maxRecDepth 65536 in
theorem codes_eq : words1.filter isCode = codes1 := rfl
theorem w_codes : ∀ c ∈ words1.filter isCode, c.before args0 about1 = true := by
  rw [codes_eq]
  intro c hc
  simp only [codes1, List.mem_cons, List.not_mem_nil, or_false] at hc
  rcases hc with rfl | rfl | rfl | rfl
  · exact w_c0
  · exact w_c1
  · exact w_c2
  · exact w_c3
set_option maxRecDepth 65536 in
theorem w_t1 : words1.all (fun c => isCode c || c.before args0 about1) = true := by decide +kernel
theorem w_tables : (allAtoms (Jvm.Cond.code x code maxLocals ret :: tables_1)).before args0 about1 = true := by
  rw [allAtoms_all]
  show words1.all (fun c => c.before args0 about1) = true
  refine all_split ?_ w_codes
  rw [w_t1]
set_option maxRecDepth 65536 in
theorem w_case : (Jvm.Cond.and given_1 narrow_1).before args0 about1 = true := by decide +kernel
theorem w_applies : (headSpec (Jvm.Cond.code x code maxLocals ret :: tables_1) room_1).applies x e0.platform about1 = true :=
  (Spec.applies_iff w_frames).mpr ⟨w_running, w_runnable, w_alone, w_named, w_hears, w_ripe, w_room, w_tables⟩
theorem atStart : AtStart classFile x code maxLocals ret World_1 tables_1 room_1 Calls_1 rest_1 Pre_1 launch0 p0 e0 about1 theMethod args0 below0 :=
  ⟨lists_1, trivial, launch0.admits_env _ _ _, launch0.least_env, fairChoices_fair.cas, fairChoices_fair.clock, w_frames, w_args, w_heap, w_applies, trivial, trivial, w_case⟩
end start1
theorem witness_1 : WitnessClaimed_1 := ⟨start1.p0, start1.e0, start1.about1, start1.theMethod, start1.args0, start1.below0, start1.atStart⟩
end Jvm.Pilot.@@N@@
