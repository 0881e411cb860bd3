import JvmDerived
import JvmDerived.Pilot.@@N@@Statement
import JvmDerived.Pilot.@@N@@Code
set_option linter.unusedVariables false
set_option linter.unusedSimpArgs false
@@BLOCK:NumsL.lean.txt@@
namespace Jvm.Pilot.@@N@@
open Jvm Jvm.ClassFile Sem Op Lib Jvm.Free Jvm.Stand Jvm.LawKit Jvm.RoadKit Bundle Jvm.Pilot.@@N@@.Jvm.D
/-! own kit: a walk's goal as one predicate, so that laws, branches and loops stand in the order of the run -/
def Go (p : Program) (e : Env) (s : State) (below : List Frame) (C S : Nat) (Q : Option Value → Heap → List Loc → Prop) (T : State) (g : JFrame) : Prop :=
  ∃ s₂ o, Steps p.tables e below (T.setTop g) s₂ ∧ s₂.status = .running ∧ Ended s₂ below o ∧ ∃ v L, o = .returned v ∧ Q v s₂.heap L ∧ FrameEnd s o s₂ L C S
section OwnKit
variable {p : Program} {l : Launch} {e : Env} {R : Room} {s : State} {m : MethodId} {args : Array Value} {below : List Frame} {meth : Method} {c : Code} {T T' : State} {locs : List Loc} {cells slots : Nat} {C S : Nat} {Q : Option Value → Heap → List Loc → Prop} {g g' : JFrame} {Z : State} {h h' : Heap} {a b : Addr}
theorem Go.st (k1 : ∀ t, Steps p.tables e below (T'.setTop g') t → Steps p.tables e below (T.setTop g) t) (k : Go p e s below C S Q T' g') : Go p e s below C S Q T g := by
  obtain ⟨s₂, o, h1, h2⟩ := k
  exact ⟨s₂, o, k1 _ h1, h2⟩
theorem Go.tr (k1 : Steps p.tables e below (T.setTop g) (T'.setTop g')) (k : Go p e s below C S Q T' g') : Go p e s below C S Q T g := by
  obtain ⟨s₂, o, h1, h2⟩ := k
  exact ⟨s₂, o, k1.trans h1, h2⟩
theorem Go.enter {gE : JFrame} (q : gE = g) (k : Go p e s below C S Q T g) : ∃ s₂ o, Steps p.tables e below (T.setTop gE) s₂ ∧ s₂.status = .running ∧ Ended s₂ below o ∧ ∃ v L, o = .returned v ∧ Q v s₂.heap L ∧ FrameEnd s o s₂ L C S := by
  subst q
  exact k
theorem Go.retO (X : Stand p l e R s m args below meth c T locs cells slots) (hx : p.tables.exec = Jvm.exec) (hlk : meth.locks = false) {pc : Nat} {Ls : Array Slot} {w : Value} {t : FieldType} {i : Instr} {rest : List Value} (hret : meth.sig.returnType = some t) (hn : narrow t w = w)
    (hi : (i = .ireturn ∧ (t = .int ∨ t = .boolean ∨ t = .byte ∨ t = .char ∨ t = .short) ∧ ∃ z, w = .int z) ∨ (i = .lreturn ∧ t = .long ∧ ∃ z, w = .long z) ∨ (i = .dreturn ∧ t = .double ∧ ∃ z, w = .double z) ∨ (i = .freturn ∧ t = .float ∧ ∃ z, w = .float z) ∨ (i = .areturn ∧ t.isReference = true ∧ w.isRef = true))
    (hd : decode c.code pc = .ok (i, 1)) (hc : cells ≤ C) (hs : slots ≤ S) (hQ : Q (some w) T.heap locs) : Go p e s below C S Q T (mkF m pc Ls (w :: rest)) := by
  obtain ⟨fs, hr, hrun, hended, hW, hsame⟩ := X.leave (v := some w) (fun q => by rw [hret] at q; cases q) hlk
  exact ⟨_, _, retOut X hx hret hn hi hd hr, hrun, hended, _, _, rfl, hQ, ⟨_, rfl⟩, hW, hsame.mono hc hs⟩
theorem Go.retI (X : Stand p l e R s m args below meth c T locs cells slots) (hx : p.tables.exec = Jvm.exec) (hlk : meth.locks = false) {pc : Nat} {Ls : Array Slot} {z : Int32} {rest : List Value} (hret : meth.sig.returnType = some .int)
    (hd : decode c.code pc = .ok (.ireturn, 1)) (hc : cells ≤ C) (hs : slots ≤ S) (hQ : Q (some (.int z)) T.heap locs) : Go p e s below C S Q T (mkF m pc Ls (.int z :: rest)) :=
  Go.retO X hx hlk hret rfl (Or.inl ⟨rfl, Or.inl rfl, _, rfl⟩) hd hc hs hQ
theorem Go.retJ (X : Stand p l e R s m args below meth c T locs cells slots) (hx : p.tables.exec = Jvm.exec) (hlk : meth.locks = false) {pc : Nat} {Ls : Array Slot} {z : Int64} {rest : List Value} (hret : meth.sig.returnType = some .long)
    (hd : decode c.code pc = .ok (.lreturn, 1)) (hc : cells ≤ C) (hs : slots ≤ S) (hQ : Q (some (.long z)) T.heap locs) : Go p e s below C S Q T (mkF m pc Ls (.long z :: rest)) :=
  Go.retO X hx hlk hret rfl (Or.inr (Or.inl ⟨rfl, rfl, _, rfl⟩)) hd hc hs hQ
theorem Go.retA (X : Stand p l e R s m args below meth c T locs cells slots) (hx : p.tables.exec = Jvm.exec) (hlk : meth.locks = false) {pc : Nat} {Ls : Array Slot} {z : Addr} {t : FieldType} {rest : List Value} (hret : meth.sig.returnType = some t) (ht : t.isReference = true)
    (hd : decode c.code pc = .ok (.areturn, 1)) (hc : cells ≤ C) (hs : slots ≤ S) (hQ : Q (some (.ref z)) T.heap locs) : Go p e s below C S Q T (mkF m pc Ls (.ref z :: rest)) :=
  Go.retO X hx hlk hret (by cases t <;> first | rfl | (simp [FieldType.isReference] at ht)) (Or.inr (Or.inr (Or.inr (Or.inr ⟨rfl, ht, rfl⟩)))) hd hc hs hQ
theorem Go.retN (X : Stand p l e R s m args below meth c T locs cells slots) (hx : p.tables.exec = Jvm.exec) (hlk : meth.locks = false) {pc : Nat} {Ls : Array Slot} {z : Int32} {t : FieldType} {rest : List Value} (hret : meth.sig.returnType = some t) (ht : t = .boolean ∨ t = .byte ∨ t = .char ∨ t = .short)
    (hd : decode c.code pc = .ok (.ireturn, 1)) (hc : cells ≤ C) (hs : slots ≤ S) (hQ : Q (some (.int (nar t z))) T.heap locs) : Go p e s below C S Q T (mkF m pc Ls (.int z :: rest)) := by
  obtain ⟨fs, hr, hrun, hended, hW, hsame⟩ := X.leave (v := some (.int (nar t z))) (fun q => by rw [hret] at q; cases q) hlk
  exact ⟨_, _, Jvm.RoadKit.retN X hx hret ht hd hr, hrun, hended, _, _, rfl, hQ, ⟨_, rfl⟩, hW, hsame.mono hc hs⟩
theorem Go.retV (X : Stand p l e R s m args below meth c T locs cells slots) (hx : p.tables.exec = Jvm.exec) (hlk : meth.locks = false) {pc : Nat} {Ls : Array Slot} (hret : meth.sig.returnType = none)
    (hd : decode c.code pc = .ok (.return_, 1)) (hc : cells ≤ C) (hs : slots ≤ S) (hQ : Q none T.heap locs) : Go p e s below C S Q T (mkF m pc Ls []) := by
  obtain ⟨fs, hr, hrun, hended, hW, hsame⟩ := X.leave (v := none) (fun _ => rfl) hlk
  exact ⟨_, _, X.returnOut hx hret hd hr, hrun, hended, _, _, rfl, hQ, ⟨_, rfl⟩, hW, hsame.mono hc hs⟩
/-! an array of ints (or bytes) by a function of its places -/
def AV (Z : State) (h : Heap) (a : Addr) (ty : FieldType) (n : Nat) (f : Nat → Int32) : Prop := ∃ c : Cell, Arr Z h a c ty ∧ c.slots.size = n ∧ n < 2147483648 ∧ ∀ j, j < n → c.slots[j]? = some (.int (f j))
variable {ty : FieldType} {n : Nat} {f : Nat → Int32}
theorem AV.lt (F : AV Z h a ty n f) : a < h.size := by obtain ⟨c, A, -⟩ := F; exact A.lt
theorem AV.small (F : AV Z h a ty n f) : n < 2147483648 := by obtain ⟨c, A, -, r, -⟩ := F; exact r
theorem AV.ext (F : AV Z h a ty n f) (E : Ext h h') : AV Z h' a ty n f := by obtain ⟨c, A, r⟩ := F; exact ⟨c, A.ext E, r⟩
theorem AV.other {sl : Nat} {v : Value} (F : AV Z h b ty n f) (W : Wr h h' a sl v) (q : b ≠ a) : AV Z h' b ty n f := by obtain ⟨c, A, r⟩ := F; exact ⟨c, A.other W q, r⟩
theorem AV.keep {ws : List Addr} (F : AV Z h a ty n f) (K : Keep h h' ws) (q : a ∉ ws) : AV Z h' a ty n f := by obtain ⟨c, A, r⟩ := F; exact ⟨c, ⟨K.2.1 a c A.1 q, A.2⟩, r⟩
theorem AV.congr {f' : Nat → Int32} (F : AV Z h a ty n f) (q : ∀ j, j < n → f j = f' j) : AV Z h a ty n f' := by
  obtain ⟨c, A, r1, r2, r3⟩ := F
  exact ⟨c, A, r1, r2, fun j hj => by rw [← q j hj]; exact r3 j hj⟩
theorem AV.new {k : ClassId} {z : Int32} (A : Arr Z h a (newA k ty z) ty) (hz : ¬ z < 0) (hd : defaultValue ty = .int 0) : AV Z h a ty z.toNatClampNeg (fun _ => 0) := by
  obtain ⟨c, A', -, S, -, H, -⟩ := Arv.new A hz
  refine ⟨c, A', S, ?_, fun j hj => ?_⟩
  · have h1 := z.toInt_lt
    have h2 : z.toNatClampNeg = z.toInt.toNat := rfl
    omega
  · have := H j (by omega)
    rw [this, hd]
    rfl
theorem AV.set {i : Nat} {x : Int32} (F : AV Z h a ty n f) (W : Wr h h' a i (.int x)) : AV Z h' a ty n (upd f i x) := by
  obtain ⟨c, A, r1, r2, r3⟩ := F
  refine ⟨_, A.same W, ?_, r2, fun j hj => ?_⟩
  · simp [Cell.setSlot, r1]
  · simp only [Cell.setSlot, upd]
    rw [Array.getElem?_setIfInBounds]
    by_cases q : i = j
    · subst q; simp [r1, hj]
    · simp [q, Ne.symm q, r3 j hj]
theorem AV.ldI (X : Stand p l e R s m args below meth c T locs cells slots) (hx : p.tables.exec = Jvm.exec) (hZ : Z.Warmed39 s.vm) (eT : T.heap = h) (F : AV Z h a .int n f) {j : Int32} {i : Nat} (hj : j.toNatClampNeg = i) (h0 : ¬ j < 0) (hi : i < n)
    {g : JFrame} (hg : g.method = m) {rest : List Value} (hs : g.stack = .int j :: .ref a :: rest) (hd : decode c.code g.pc = .ok (.iaload, 1)) : ∀ t, Steps p.tables e below (T.setTop { g with pc := g.pc + 1, stack := .int (f i) :: rest }) t → Steps p.tables e below (T.setTop g) t := by
  obtain ⟨cl, A, r1, r2, r3⟩ := F
  intro t k
  exact X.iaload hx (by rw [eT]; exact A.1) (State.isArrayOf_alike hZ.alike A.2.1) A.2.2 (by rw [r1, hj]; intro q; rcases q with q | q; exact h0 q; omega) (by rw [hj]; exact r3 i hi) hg hs hd _ k
theorem AV.ldB (X : Stand p l e R s m args below meth c T locs cells slots) (hx : p.tables.exec = Jvm.exec) (hZ : Z.Warmed39 s.vm) (eT : T.heap = h) (F : AV Z h a .byte n f) {j : Int32} {i : Nat} (hj : j.toNatClampNeg = i) (h0 : ¬ j < 0) (hi : i < n)
    {g : JFrame} (hg : g.method = m) {rest : List Value} (hs : g.stack = .int j :: .ref a :: rest) (hd : decode c.code g.pc = .ok (.baload, 1)) : ∀ t, Steps p.tables e below (T.setTop { g with pc := g.pc + 1, stack := .int (f i) :: rest }) t → Steps p.tables e below (T.setTop g) t := by
  obtain ⟨cl, A, r1, r2, r3⟩ := F
  intro t k
  exact X.baloadBytes hx (by rw [eT]; exact A.1) (State.isArrayOf_alike hZ.alike A.2.1) A.2.2 (by rw [r1, hj]; intro q; rcases q with q | q; exact h0 q; omega) (by rw [hj]; exact r3 i hi) hg hs hd _ k
theorem AV.stI (X : Stand p l e R s m args below meth c T locs cells slots) (hx : p.tables.exec = Jvm.exec) (hZ : Z.Warmed39 s.vm) (eT : T.heap = h) (F : AV Z h a .int n f) {j x : Int32} {i : Nat} (hj : j.toNatClampNeg = i) (h0 : ¬ j < 0) (hi : i < n)
    {g : JFrame} (hg : g.method = m) {rest : List Value} (hs : g.stack = .int x :: .int j :: .ref a :: rest) (hd : decode c.code g.pc = .ok (.iastore, 1)) :
    ∃ T' h', Stand p l e R s m args below meth c T' (locs ++ [⟨a, i⟩]) cells slots ∧ T'.heap = h' ∧ Wr h h' a i (.int x) ∧ AV Z h' a .int n (upd f i x) ∧ ∀ t, Steps p.tables e below (T'.setTop { g with pc := g.pc + 1, stack := rest }) t → Steps p.tables e below (T.setTop g) t := by
  have F' := F
  obtain ⟨cl, A, r1, r2, r3⟩ := F
  obtain ⟨T', h', X', e', W, st⟩ := Jvm.RoadKit.stI X hx hZ eT A (j := j) (x := x) (by rw [r1, hj]; intro q; rcases q with q | q; exact h0 q; omega) hg hs hd
  rw [hj] at X' W
  exact ⟨T', h', X', e', W, F'.set W, st⟩
theorem AV.stB (X : Stand p l e R s m args below meth c T locs cells slots) (hx : p.tables.exec = Jvm.exec) (hZ : Z.Warmed39 s.vm) (eT : T.heap = h) (F : AV Z h a .byte n f) {j x : Int32} {i : Nat} (hj : j.toNatClampNeg = i) (h0 : ¬ j < 0) (hi : i < n)
    {g : JFrame} (hg : g.method = m) {rest : List Value} (hs : g.stack = .int x :: .int j :: .ref a :: rest) (hd : decode c.code g.pc = .ok (.bastore, 1)) :
    ∃ T' h', Stand p l e R s m args below meth c T' (locs ++ [⟨a, i⟩]) cells slots ∧ T'.heap = h' ∧ Wr h h' a i (.int (nar .byte x)) ∧ AV Z h' a .byte n (upd f i (nar .byte x)) ∧ ∀ t, Steps p.tables e below (T'.setTop { g with pc := g.pc + 1, stack := rest }) t → Steps p.tables e below (T.setTop g) t := by
  have F' := F
  obtain ⟨cl, A, r1, r2, r3⟩ := F
  obtain ⟨T', h', X', e', W, st⟩ := Jvm.RoadKit.stB X hx hZ eT A (j := j) (x := x) (by rw [r1, hj]; intro q; rcases q with q | q; exact h0 q; omega) hg hs hd
  rw [hj] at X' W
  exact ⟨T', h', X', e', W, F'.set W, st⟩
theorem AV.len (X : Stand p l e R s m args below meth c T locs cells slots) (hx : p.tables.exec = Jvm.exec) (hZ : Z.Warmed39 s.vm) (eT : T.heap = h) (F : AV Z h a ty n f)
    {g : JFrame} (hg : g.method = m) {rest : List Value} (hs : g.stack = .ref a :: rest) (hd : decode c.code g.pc = .ok (.arraylength, 1)) : ∀ t, Steps p.tables e below (T.setTop { g with pc := g.pc + 1, stack := .int (Int32.ofNat n) :: rest }) t → Steps p.tables e below (T.setTop g) t := by
  obtain ⟨cl, A, r1, r2, r3⟩ := F
  subst r1
  intro t k
  exact X.arraylength hx (by rw [eT]; exact A.1) (State.isArrayOf_alike hZ.alike A.2.1) hg hs hd _ k
end OwnKit
theorem cl_eq {x y : Int64} (h : x = y) : ifCond.holds .eq (lcmpW x y) = true ∧ ifCond.holds .ne (lcmpW x y) = false := by
  have q := (lw_eq x y).mpr h
  exact ⟨(if0 _ _).trans (teq q).1, (if0 _ _).trans (teq q).2⟩
theorem cl_eqF {x y : Int64} (h : ¬ x = y) : ifCond.holds .eq (lcmpW x y) = false ∧ ifCond.holds .ne (lcmpW x y) = true := by
  have q := fun z => h ((lw_eq x y).mp z)
  exact ⟨(if0 _ _).trans (feq q).1, (if0 _ _).trans (feq q).2⟩
theorem cl_lt {x y : Int64} (h : x < y) : ifCond.holds .lt (lcmpW x y) = true ∧ ifCond.holds .ge (lcmpW x y) = false := by
  have q := (lw_lt x y).mpr h
  exact ⟨(if0 _ _).trans (tlt q).1, (if0 _ _).trans (tlt q).2.1⟩
theorem cl_ltF {x y : Int64} (h : ¬ x < y) : ifCond.holds .lt (lcmpW x y) = false ∧ ifCond.holds .ge (lcmpW x y) = true := by
  have q := fun z => h ((lw_lt x y).mp z)
  exact ⟨(if0 _ _).trans (flt q).1, (if0 _ _).trans (flt q).2.1⟩
theorem cl_gt {x y : Int64} (h : y < x) : ifCond.holds .gt (lcmpW x y) = true ∧ ifCond.holds .le (lcmpW x y) = false := by
  have q := (lw_gt x y).mpr h
  exact ⟨(if0 _ _).trans (tlt q).2.2.1, (if0 _ _).trans (tlt q).2.2.2⟩
theorem cl_gtF {x y : Int64} (h : ¬ y < x) : ifCond.holds .gt (lcmpW x y) = false ∧ ifCond.holds .le (lcmpW x y) = true := by
  have q := fun z => h ((lw_gt x y).mp z)
  exact ⟨(if0 _ _).trans (flt q).2.2.1, (if0 _ _).trans (flt q).2.2.2⟩
/-! small naturals as ints -/
theorem on_toInt {k : Nat} (h : k < 2147483648) : (Int32.ofNat k).toInt = (k : Int) := Int32.toInt_ofNat_of_lt h
theorem on_idx {k : Nat} (h : k < 2147483648) : (Int32.ofNat k).toNatClampNeg = k := by
  show (Int32.ofNat k).toInt.toNat = k
  rw [on_toInt h]; rfl
theorem on_nn {k : Nat} (h : k < 2147483648) : ¬ Int32.ofNat k < 0 := by
  rw [Int32.lt_iff_toInt_lt, on_toInt h]
  have : (0 : Int32).toInt = 0 := rfl
  omega
theorem on_lt {j k : Nat} (hj : j < 2147483648) (hk : k < 2147483648) : Int32.ofNat j < Int32.ofNat k ↔ j < k := by
  rw [Int32.lt_iff_toInt_lt, on_toInt hj, on_toInt hk]; omega
theorem on_inj {j k : Nat} (hj : j < 2147483648) (hk : k < 2147483648) : Int32.ofNat j = Int32.ofNat k ↔ j = k := by
  constructor
  · intro q
    have := congrArg Int32.toInt q
    rw [on_toInt hj, on_toInt hk] at this; omega
  · intro q; rw [q]
theorem on_add (j k : Nat) : Int32.ofNat j + Int32.ofNat k = Int32.ofNat (j + k) := (Int32.ofNat_add j k).symm
theorem on_succ (j : Nat) : Int32.ofNat j + (1 : Int32) = Int32.ofNat (j + 1) := on_add j 1
theorem on_sub {j k : Nat} (h : k ≤ j) : Int32.ofNat j - Int32.ofNat k = Int32.ofNat (j - k) := by
  have : Int32.ofNat j = Int32.ofNat (j - k) + Int32.ofNat k := by rw [on_add]; congr 1; omega
  rw [this]; simp
def own_bl (c : Int32) : Int32 := if c = 32 ∨ c = 9 ∨ c = 10 ∨ c = 13 then 1 else 0
theorem own_bl1 {c : Int32} (h : c = 32 ∨ c = 9 ∨ c = 10 ∨ c = 13) : own_bl c = 1 := if_pos h
theorem own_bl0 {c : Int32} (h : ¬ (c = 32 ∨ c = 9 ∨ c = 10 ∨ c = 13)) : own_bl c = 0 := if_neg h
theorem own_lo {c : Int32} (h0 : ¬ c = 32) (h : c < 9) : own_bl c = 0 := by
  refine own_bl0 ?_
  rw [Int32.lt_iff_toInt_lt] at h
  have e9 : (9 : Int32).toInt = 9 := by decide
  rintro (q | q | q | q)
  · exact h0 q
  all_goals (subst q; revert h; decide)
theorem own_hi {c : Int32} (h0 : ¬ c = 32) (h : 13 < c) : own_bl c = 0 := by
  refine own_bl0 ?_
  rintro (q | q | q | q)
  · exact h0 q
  all_goals (subst q; revert h; decide)
theorem own_mid {c : Int32} (h1 : ¬ c < 9) (h2 : ¬ 13 < c) (h3 : ¬ c = 11) (h4 : ¬ c = 12) : own_bl c = 1 := by
  refine own_bl1 ?_
  rw [Int32.lt_iff_toInt_lt] at h1 h2
  rw [← Int32.toInt_inj] at h3 h4
  have e9 : (9 : Int32).toInt = 9 := by decide
  have e10 : (10 : Int32).toInt = 10 := by decide
  have e11 : (11 : Int32).toInt = 11 := by decide
  have e12 : (12 : Int32).toInt = 12 := by decide
  have e13 : (13 : Int32).toInt = 13 := by decide
  rw [← Int32.toInt_inj, ← Int32.toInt_inj, ← Int32.toInt_inj, ← Int32.toInt_inj]
  rw [e9, e10, e13]
  omega
theorem own_and15 (x : Int32) : (x &&& (15 : Int32)).toNatClampNeg < 16 ∧ ¬ (x &&& (15 : Int32)) < 0 := by
  have e1 : (x &&& 15).toInt = x.toInt % 2 ^ 4 := Jvm.Kit.i32_mask x 15 (k := 4) (by decide) (by decide)
  have e0 : (0 : Int32).toInt = 0 := by decide
  rw [Int32.lt_iff_toInt_lt]
  show (x &&& 15).toInt.toNat < 16 ∧ _
  omega
theorem ef_0 (m : MethodId) (x0 : Int32) (x1 : Int32) : entryFrame m #[(.int x0), (.int x1)] maxLocals = mkF m 0 #[.val (.int x0), .val (.int x1), .unset, .unset] [] := by first | (simp [entryFrame, mkF, argsToLocals, Value.category, maxLocals]; done) | rfl
theorem ef_1 (m : MethodId) (x0 : Int32) : entryFrame m #[(.int x0)] 2 = mkF m 0 #[.val (.int x0), .unset] [] := by first | (simp [entryFrame, mkF, argsToLocals, Value.category]; done) | rfl
theorem ef_2 (m : MethodId) (x0 : Int32) : entryFrame m #[(.int x0)] 1 = mkF m 0 #[.val (.int x0)] [] := by first | (simp [entryFrame, mkF, argsToLocals, Value.category]; done) | rfl
theorem pd_0 : parseMethodDescriptor "(I)I" = some ⟨[.int], some .int⟩ := by decide +kernel
theorem pd_1 : parseMethodDescriptor "(I)Z" = some ⟨[.int], some .boolean⟩ := by decide +kernel
theorem pn_com_example_eccenter_eccenter_io_TextInput : plainName "com/example/eccenter/eccenter/io/TextInput" = true := by first | (simp [plainName, overriddenIn]; done) | decide +kernel
theorem pn_com_example_eccenter_eccenter_io_TextInputIsBlankPinLaw : plainName "com/example/eccenter/eccenter/io/TextInputIsBlankPinLaw" = true := by first | (simp [plainName, overriddenIn]; done) | decide +kernel
theorem d1_0 : decode method_3_code 0 = .ok (.bipush 16, 2) := by decide +kernel
theorem d1_10 : decode method_3_code 10 = .ok (.iconst 1, 1) := by decide +kernel
theorem d1_11 : decode method_3_code 11 = .ok (.bipush 10, 2) := by decide +kernel
theorem d1_13 : decode method_3_code 13 = .ok (.iastore, 1) := by decide +kernel
theorem d1_14 : decode method_3_code 14 = .ok (.dup, 1) := by decide +kernel
theorem d1_15 : decode method_3_code 15 = .ok (.iconst 2, 1) := by decide +kernel
theorem d1_16 : decode method_3_code 16 = .ok (.bipush 13, 2) := by decide +kernel
theorem d1_18 : decode method_3_code 18 = .ok (.iastore, 1) := by decide +kernel
theorem d1_19 : decode method_3_code 19 = .ok (.dup, 1) := by decide +kernel
theorem d1_2 : decode method_3_code 2 = .ok (.newarray .int, 2) := by decide +kernel
theorem d1_20 : decode method_3_code 20 = .ok (.iconst 3, 1) := by decide +kernel
theorem d1_21 : decode method_3_code 21 = .ok (.bipush 32, 2) := by decide +kernel
theorem d1_23 : decode method_3_code 23 = .ok (.iastore, 1) := by decide +kernel
theorem d1_24 : decode method_3_code 24 = .ok (.dup, 1) := by decide +kernel
theorem d1_25 : decode method_3_code 25 = .ok (.iconst 4, 1) := by decide +kernel
theorem d1_26 : decode method_3_code 26 = .ok (.bipush 8, 2) := by decide +kernel
theorem d1_28 : decode method_3_code 28 = .ok (.iastore, 1) := by decide +kernel
theorem d1_29 : decode method_3_code 29 = .ok (.dup, 1) := by decide +kernel
theorem d1_30 : decode method_3_code 30 = .ok (.iconst 5, 1) := by decide +kernel
theorem d1_31 : decode method_3_code 31 = .ok (.bipush 11, 2) := by decide +kernel
theorem d1_33 : decode method_3_code 33 = .ok (.iastore, 1) := by decide +kernel
theorem d1_34 : decode method_3_code 34 = .ok (.dup, 1) := by decide +kernel
theorem d1_35 : decode method_3_code 35 = .ok (.bipush 6, 2) := by decide +kernel
theorem d1_37 : decode method_3_code 37 = .ok (.bipush 12, 2) := by decide +kernel
theorem d1_39 : decode method_3_code 39 = .ok (.iastore, 1) := by decide +kernel
theorem d1_4 : decode method_3_code 4 = .ok (.dup, 1) := by decide +kernel
theorem d1_40 : decode method_3_code 40 = .ok (.dup, 1) := by decide +kernel
theorem d1_41 : decode method_3_code 41 = .ok (.bipush 7, 2) := by decide +kernel
theorem d1_43 : decode method_3_code 43 = .ok (.bipush 14, 2) := by decide +kernel
theorem d1_45 : decode method_3_code 45 = .ok (.iastore, 1) := by decide +kernel
theorem d1_46 : decode method_3_code 46 = .ok (.dup, 1) := by decide +kernel
theorem d1_47 : decode method_3_code 47 = .ok (.bipush 8, 2) := by decide +kernel
theorem d1_49 : decode method_3_code 49 = .ok (.bipush 31, 2) := by decide +kernel
theorem d1_5 : decode method_3_code 5 = .ok (.iconst 0, 1) := by decide +kernel
theorem d1_51 : decode method_3_code 51 = .ok (.iastore, 1) := by decide +kernel
theorem d1_52 : decode method_3_code 52 = .ok (.dup, 1) := by decide +kernel
theorem d1_53 : decode method_3_code 53 = .ok (.bipush 9, 2) := by decide +kernel
theorem d1_55 : decode method_3_code 55 = .ok (.bipush 33, 2) := by decide +kernel
theorem d1_57 : decode method_3_code 57 = .ok (.iastore, 1) := by decide +kernel
theorem d1_58 : decode method_3_code 58 = .ok (.dup, 1) := by decide +kernel
theorem d1_59 : decode method_3_code 59 = .ok (.bipush 10, 2) := by decide +kernel
theorem d1_6 : decode method_3_code 6 = .ok (.bipush 9, 2) := by decide +kernel
theorem d1_61 : decode method_3_code 61 = .ok (.iconst 0, 1) := by decide +kernel
theorem d1_62 : decode method_3_code 62 = .ok (.iastore, 1) := by decide +kernel
theorem d1_63 : decode method_3_code 63 = .ok (.dup, 1) := by decide +kernel
theorem d1_64 : decode method_3_code 64 = .ok (.bipush 11, 2) := by decide +kernel
theorem d1_66 : decode method_3_code 66 = .ok (.iconst (-1), 1) := by decide +kernel
theorem d1_67 : decode method_3_code 67 = .ok (.iastore, 1) := by decide +kernel
theorem d1_68 : decode method_3_code 68 = .ok (.dup, 1) := by decide +kernel
theorem d1_69 : decode method_3_code 69 = .ok (.bipush 12, 2) := by decide +kernel
theorem d1_71 : decode method_3_code 71 = .ok (.sipush 160, 3) := by decide +kernel
theorem d1_74 : decode method_3_code 74 = .ok (.iastore, 1) := by decide +kernel
theorem d1_75 : decode method_3_code 75 = .ok (.dup, 1) := by decide +kernel
theorem d1_76 : decode method_3_code 76 = .ok (.bipush 13, 2) := by decide +kernel
theorem d1_78 : decode method_3_code 78 = .ok (.ldc 19, 2) := by decide +kernel
theorem d1_8 : decode method_3_code 8 = .ok (.iastore, 1) := by decide +kernel
theorem d1_80 : decode method_3_code 80 = .ok (.iastore, 1) := by decide +kernel
theorem d1_81 : decode method_3_code 81 = .ok (.dup, 1) := by decide +kernel
theorem d1_82 : decode method_3_code 82 = .ok (.bipush 14, 2) := by decide +kernel
theorem d1_84 : decode method_3_code 84 = .ok (.sipush 8232, 3) := by decide +kernel
theorem d1_87 : decode method_3_code 87 = .ok (.iastore, 1) := by decide +kernel
theorem d1_88 : decode method_3_code 88 = .ok (.dup, 1) := by decide +kernel
theorem d1_89 : decode method_3_code 89 = .ok (.bipush 15, 2) := by decide +kernel
theorem d1_9 : decode method_3_code 9 = .ok (.dup, 1) := by decide +kernel
theorem d1_91 : decode method_3_code 91 = .ok (.ldc 22, 2) := by decide +kernel
theorem d1_93 : decode method_3_code 93 = .ok (.iastore, 1) := by decide +kernel
theorem d1_94 : decode method_3_code 94 = .ok (.astore_n 1, 1) := by decide +kernel
theorem d1_95 : decode method_3_code 95 = .ok (.aload_n 1, 1) := by decide +kernel
theorem d1_96 : decode method_3_code 96 = .ok (.iload_n 0, 1) := by decide +kernel
theorem d1_97 : decode method_3_code 97 = .ok (.iaload, 1) := by decide +kernel
theorem d1_98 : decode method_3_code 98 = .ok (.ireturn, 1) := by decide +kernel
theorem d2_0 : decode prog_44_method_5_code 0 = .ok (.iload_n 0, 1) := by decide +kernel
theorem d2_1 : decode prog_44_method_5_code 1 = .ok (.bipush 32, 2) := by decide +kernel
theorem d2_12 : decode prog_44_method_5_code 12 = .ok (.iload_n 0, 1) := by decide +kernel
theorem d2_13 : decode prog_44_method_5_code 13 = .ok (.bipush 10, 2) := by decide +kernel
theorem d2_15 : decode prog_44_method_5_code 15 = .ok (.if_icmp .eq 9, 3) := by decide +kernel
theorem d2_18 : decode prog_44_method_5_code 18 = .ok (.iload_n 0, 1) := by decide +kernel
theorem d2_19 : decode prog_44_method_5_code 19 = .ok (.bipush 13, 2) := by decide +kernel
theorem d2_21 : decode prog_44_method_5_code 21 = .ok (.if_icmp .ne 7, 3) := by decide +kernel
theorem d2_24 : decode prog_44_method_5_code 24 = .ok (.iconst 1, 1) := by decide +kernel
theorem d2_25 : decode prog_44_method_5_code 25 = .ok (.goto 4, 3) := by decide +kernel
theorem d2_28 : decode prog_44_method_5_code 28 = .ok (.iconst 0, 1) := by decide +kernel
theorem d2_29 : decode prog_44_method_5_code 29 = .ok (.ireturn, 1) := by decide +kernel
theorem d2_3 : decode prog_44_method_5_code 3 = .ok (.if_icmp .eq 21, 3) := by decide +kernel
theorem d2_6 : decode prog_44_method_5_code 6 = .ok (.iload_n 0, 1) := by decide +kernel
theorem d2_7 : decode prog_44_method_5_code 7 = .ok (.bipush 9, 2) := by decide +kernel
theorem d2_9 : decode prog_44_method_5_code 9 = .ok (.if_icmp .eq 15, 3) := by decide +kernel
def Q1 (h0 : Heap) (n0 : Nat) (v : Option Value) (h : Heap) (L : List Loc) : Prop := ∃ z : Int32, v = some (.int z) ∧ Fr n0 L ∧ n0 ≤ h.size
set_option maxRecDepth 65536 in
set_option maxHeartbeats 40000000 in
theorem rm1 (l : Launch) (Z : State) (a0 : Array Value) (hw : ∀ d ∈ tables_1, d.before a0 Z = true) (ws : List Jvm.Cond) (p1 : Int32) (h0 : Heap) (n0 : Nat) (Z0 : n0 ≤ h0.size) (hi : p1.toNatClampNeg < 16) (hn : ¬ p1 < 0) :
    MetFree l (⟨"com/example/eccenter/eccenter/io/TextInputIsBlankPinLaw", "pick", "(I)I"⟩ : MethodName) (head1 (Jvm.Cond.code (⟨"com/example/eccenter/eccenter/io/TextInputIsBlankPinLaw", "pick", "(I)I"⟩ : MethodName) method_3_code 2 (some .int) :: ws) ({ frames := 0, cells := 1, slots := 16, locals := 0 } : Room)) (fun a_ U_ => a_ = #[(.int p1)] ∧ Z.Warmed39 U_.vm ∧ U_.heap = h0) (fun _ _ _ _ _ => True) (fun _ U_ o_ W_ => ∃ v_ L_, o_ = .returned v_ ∧ (Q1 h0 n0) v_ W_.heap L_ ∧ FrameEnd U_ o_ W_ L_ ({ frames := 0, cells := 1, slots := 16, locals := 0 } : Room).cells ({ frames := 0, cells := 1, slots := 16, locals := 0 } : Room).slots) := by
  refine MetFree.of_bodySF (plainFor_of_name pn_com_example_eccenter_eccenter_io_TextInputIsBlankPinLaw) hisR ?_
  intro p e s m args below meth c s₁ Bd hml0 hP hK
  obtain ⟨rfl, hZ, hh⟩ := hP
  have hx := Bd.exec
  have hby := Bd.bytes
  have hml : c.maxLocals = 2 := hml0
  have hown : s.vm.findClass "com/example/eccenter/eccenter/io/TextInputIsBlankPinLaw" = some m.cls := findClass_of_methodNamed Bd.named
  have hnm := (name_of_methodNamed Bd.named Bd.method).1
  have hlk : meth.locks = false := BodyLoose.notSynchronized Bd
  have X0 : Stand p l e ({ frames := 0, cells := 1, slots := 16, locals := 0 } : Room) s m #[(.int p1)] below meth c s₁ [] 0 0 := Stand.of_body Bd
  have e0 : s₁.heap = h0 := by rw [← hh, Bd.state]; rfl
  have N0 := Fr.nil n0
  refine Go.enter (ef_1 m p1) ?_
  show Go p e s below ({ frames := 0, cells := 1, slots := 16, locals := 0 } : Room).cells ({ frames := 0, cells := 1, slots := 16, locals := 0 } : Room).slots (Q1 h0 n0) s₁ (mkF m 0 #[.val (.int p1), .unset] [])
  refine Go.st (fun _ k => XS.bipush X0.here hx rfl (hb hby d1_0) k) ?_
  show Go p e s below ({ frames := 0, cells := 1, slots := 16, locals := 0 } : Room).cells ({ frames := 0, cells := 1, slots := 16, locals := 0 } : Room).slots (Q1 h0 n0) s₁ (mkF m 2 #[.val (.int p1), .unset] [(.int (16 : Int32))])
  obtain ⟨T1, h1, k1, X1, e1, E1, A1, st1⟩ := newP X0 hx hZ (hw _ (List.mem_of_getElem? (i := 4) rfl)) e0 (g := (mkF m 2 #[.val (.int p1), .unset] [(.int (16 : Int32))])) rfl (hb hby d1_2) rfl (by decide) (cap := 16) (by decide) (by decide) (by decide) (by decide)
  obtain ⟨b, g1⟩ : ∃ z, z = h0.size := ⟨_, rfl⟩
  rw [← g1] at A1 st1
  refine Go.st st1 ?_
  have V0 : AV Z h1 b .int 16 (fun _ => 0) := AV.new A1 (by decide) rfl
  have gb : n0 ≤ b := by rw [g1]; exact Z0
  show Go p e s below ({ frames := 0, cells := 1, slots := 16, locals := 0 } : Room).cells ({ frames := 0, cells := 1, slots := 16, locals := 0 } : Room).slots (Q1 h0 n0) T1 (mkF m 4 #[.val (.int p1), .unset] [(.ref b)])
  refine Go.st (fun _ k => XS.dup X1.here hx rfl (hb hby d1_4) rfl rfl k) ?_
  show Go p e s below ({ frames := 0, cells := 1, slots := 16, locals := 0 } : Room).cells ({ frames := 0, cells := 1, slots := 16, locals := 0 } : Room).slots (Q1 h0 n0) T1 (mkF m 5 #[.val (.int p1), .unset] [(.ref b), (.ref b)])
  refine Go.st (fun _ k => XS.iconst X1.here hx rfl (hb hby d1_5) k) ?_
  show Go p e s below ({ frames := 0, cells := 1, slots := 16, locals := 0 } : Room).cells ({ frames := 0, cells := 1, slots := 16, locals := 0 } : Room).slots (Q1 h0 n0) T1 (mkF m 6 #[.val (.int p1), .unset] [(.int (0 : Int32)), (.ref b), (.ref b)])
  refine Go.st (fun _ k => XS.bipush X1.here hx rfl (hb hby d1_6) k) ?_
  show Go p e s below ({ frames := 0, cells := 1, slots := 16, locals := 0 } : Room).cells ({ frames := 0, cells := 1, slots := 16, locals := 0 } : Room).slots (Q1 h0 n0) T1 (mkF m 8 #[.val (.int p1), .unset] [(.int (9 : Int32)), (.int (0 : Int32)), (.ref b), (.ref b)])
  obtain ⟨T2, h2, X2, e2, W2, V2, st2⟩ := AV.stI X1 hx hZ e1 V0 (i := 0) rfl (by decide) (by decide) (g := (mkF m 8 #[.val (.int p1), .unset] [(.int (9 : Int32)), (.int (0 : Int32)), (.ref b), (.ref b)])) rfl rfl (hb hby d1_8)
  refine Go.st st2 ?_
  have N2 := Fr.snoc X2 N0 gb
  show Go p e s below ({ frames := 0, cells := 1, slots := 16, locals := 0 } : Room).cells ({ frames := 0, cells := 1, slots := 16, locals := 0 } : Room).slots (Q1 h0 n0) T2 (mkF m 9 #[.val (.int p1), .unset] [(.ref b)])
  refine Go.st (fun _ k => XS.dup X2.here hx rfl (hb hby d1_9) rfl rfl k) ?_
  show Go p e s below ({ frames := 0, cells := 1, slots := 16, locals := 0 } : Room).cells ({ frames := 0, cells := 1, slots := 16, locals := 0 } : Room).slots (Q1 h0 n0) T2 (mkF m 10 #[.val (.int p1), .unset] [(.ref b), (.ref b)])
  refine Go.st (fun _ k => XS.iconst X2.here hx rfl (hb hby d1_10) k) ?_
  show Go p e s below ({ frames := 0, cells := 1, slots := 16, locals := 0 } : Room).cells ({ frames := 0, cells := 1, slots := 16, locals := 0 } : Room).slots (Q1 h0 n0) T2 (mkF m 11 #[.val (.int p1), .unset] [(.int (1 : Int32)), (.ref b), (.ref b)])
  refine Go.st (fun _ k => XS.bipush X2.here hx rfl (hb hby d1_11) k) ?_
  show Go p e s below ({ frames := 0, cells := 1, slots := 16, locals := 0 } : Room).cells ({ frames := 0, cells := 1, slots := 16, locals := 0 } : Room).slots (Q1 h0 n0) T2 (mkF m 13 #[.val (.int p1), .unset] [(.int (10 : Int32)), (.int (1 : Int32)), (.ref b), (.ref b)])
  obtain ⟨T3, h3, X3, e3, W3, V3, st3⟩ := AV.stI X2 hx hZ e2 V2 (i := 1) rfl (by decide) (by decide) (g := (mkF m 13 #[.val (.int p1), .unset] [(.int (10 : Int32)), (.int (1 : Int32)), (.ref b), (.ref b)])) rfl rfl (hb hby d1_13)
  refine Go.st st3 ?_
  have N3 := Fr.snoc X3 N2 gb
  show Go p e s below ({ frames := 0, cells := 1, slots := 16, locals := 0 } : Room).cells ({ frames := 0, cells := 1, slots := 16, locals := 0 } : Room).slots (Q1 h0 n0) T3 (mkF m 14 #[.val (.int p1), .unset] [(.ref b)])
  refine Go.st (fun _ k => XS.dup X3.here hx rfl (hb hby d1_14) rfl rfl k) ?_
  show Go p e s below ({ frames := 0, cells := 1, slots := 16, locals := 0 } : Room).cells ({ frames := 0, cells := 1, slots := 16, locals := 0 } : Room).slots (Q1 h0 n0) T3 (mkF m 15 #[.val (.int p1), .unset] [(.ref b), (.ref b)])
  refine Go.st (fun _ k => XS.iconst X3.here hx rfl (hb hby d1_15) k) ?_
  show Go p e s below ({ frames := 0, cells := 1, slots := 16, locals := 0 } : Room).cells ({ frames := 0, cells := 1, slots := 16, locals := 0 } : Room).slots (Q1 h0 n0) T3 (mkF m 16 #[.val (.int p1), .unset] [(.int (2 : Int32)), (.ref b), (.ref b)])
  refine Go.st (fun _ k => XS.bipush X3.here hx rfl (hb hby d1_16) k) ?_
  show Go p e s below ({ frames := 0, cells := 1, slots := 16, locals := 0 } : Room).cells ({ frames := 0, cells := 1, slots := 16, locals := 0 } : Room).slots (Q1 h0 n0) T3 (mkF m 18 #[.val (.int p1), .unset] [(.int (13 : Int32)), (.int (2 : Int32)), (.ref b), (.ref b)])
  obtain ⟨T4, h4, X4, e4, W4, V4, st4⟩ := AV.stI X3 hx hZ e3 V3 (i := 2) rfl (by decide) (by decide) (g := (mkF m 18 #[.val (.int p1), .unset] [(.int (13 : Int32)), (.int (2 : Int32)), (.ref b), (.ref b)])) rfl rfl (hb hby d1_18)
  refine Go.st st4 ?_
  have N4 := Fr.snoc X4 N3 gb
  show Go p e s below ({ frames := 0, cells := 1, slots := 16, locals := 0 } : Room).cells ({ frames := 0, cells := 1, slots := 16, locals := 0 } : Room).slots (Q1 h0 n0) T4 (mkF m 19 #[.val (.int p1), .unset] [(.ref b)])
  refine Go.st (fun _ k => XS.dup X4.here hx rfl (hb hby d1_19) rfl rfl k) ?_
  show Go p e s below ({ frames := 0, cells := 1, slots := 16, locals := 0 } : Room).cells ({ frames := 0, cells := 1, slots := 16, locals := 0 } : Room).slots (Q1 h0 n0) T4 (mkF m 20 #[.val (.int p1), .unset] [(.ref b), (.ref b)])
  refine Go.st (fun _ k => XS.iconst X4.here hx rfl (hb hby d1_20) k) ?_
  show Go p e s below ({ frames := 0, cells := 1, slots := 16, locals := 0 } : Room).cells ({ frames := 0, cells := 1, slots := 16, locals := 0 } : Room).slots (Q1 h0 n0) T4 (mkF m 21 #[.val (.int p1), .unset] [(.int (3 : Int32)), (.ref b), (.ref b)])
  refine Go.st (fun _ k => XS.bipush X4.here hx rfl (hb hby d1_21) k) ?_
  show Go p e s below ({ frames := 0, cells := 1, slots := 16, locals := 0 } : Room).cells ({ frames := 0, cells := 1, slots := 16, locals := 0 } : Room).slots (Q1 h0 n0) T4 (mkF m 23 #[.val (.int p1), .unset] [(.int (32 : Int32)), (.int (3 : Int32)), (.ref b), (.ref b)])
  obtain ⟨T5, h5, X5, e5, W5, V5, st5⟩ := AV.stI X4 hx hZ e4 V4 (i := 3) rfl (by decide) (by decide) (g := (mkF m 23 #[.val (.int p1), .unset] [(.int (32 : Int32)), (.int (3 : Int32)), (.ref b), (.ref b)])) rfl rfl (hb hby d1_23)
  refine Go.st st5 ?_
  have N5 := Fr.snoc X5 N4 gb
  show Go p e s below ({ frames := 0, cells := 1, slots := 16, locals := 0 } : Room).cells ({ frames := 0, cells := 1, slots := 16, locals := 0 } : Room).slots (Q1 h0 n0) T5 (mkF m 24 #[.val (.int p1), .unset] [(.ref b)])
  refine Go.st (fun _ k => XS.dup X5.here hx rfl (hb hby d1_24) rfl rfl k) ?_
  show Go p e s below ({ frames := 0, cells := 1, slots := 16, locals := 0 } : Room).cells ({ frames := 0, cells := 1, slots := 16, locals := 0 } : Room).slots (Q1 h0 n0) T5 (mkF m 25 #[.val (.int p1), .unset] [(.ref b), (.ref b)])
  refine Go.st (fun _ k => XS.iconst X5.here hx rfl (hb hby d1_25) k) ?_
  show Go p e s below ({ frames := 0, cells := 1, slots := 16, locals := 0 } : Room).cells ({ frames := 0, cells := 1, slots := 16, locals := 0 } : Room).slots (Q1 h0 n0) T5 (mkF m 26 #[.val (.int p1), .unset] [(.int (4 : Int32)), (.ref b), (.ref b)])
  refine Go.st (fun _ k => XS.bipush X5.here hx rfl (hb hby d1_26) k) ?_
  show Go p e s below ({ frames := 0, cells := 1, slots := 16, locals := 0 } : Room).cells ({ frames := 0, cells := 1, slots := 16, locals := 0 } : Room).slots (Q1 h0 n0) T5 (mkF m 28 #[.val (.int p1), .unset] [(.int (8 : Int32)), (.int (4 : Int32)), (.ref b), (.ref b)])
  obtain ⟨T6, h6, X6, e6, W6, V6, st6⟩ := AV.stI X5 hx hZ e5 V5 (i := 4) rfl (by decide) (by decide) (g := (mkF m 28 #[.val (.int p1), .unset] [(.int (8 : Int32)), (.int (4 : Int32)), (.ref b), (.ref b)])) rfl rfl (hb hby d1_28)
  refine Go.st st6 ?_
  have N6 := Fr.snoc X6 N5 gb
  show Go p e s below ({ frames := 0, cells := 1, slots := 16, locals := 0 } : Room).cells ({ frames := 0, cells := 1, slots := 16, locals := 0 } : Room).slots (Q1 h0 n0) T6 (mkF m 29 #[.val (.int p1), .unset] [(.ref b)])
  refine Go.st (fun _ k => XS.dup X6.here hx rfl (hb hby d1_29) rfl rfl k) ?_
  show Go p e s below ({ frames := 0, cells := 1, slots := 16, locals := 0 } : Room).cells ({ frames := 0, cells := 1, slots := 16, locals := 0 } : Room).slots (Q1 h0 n0) T6 (mkF m 30 #[.val (.int p1), .unset] [(.ref b), (.ref b)])
  refine Go.st (fun _ k => XS.iconst X6.here hx rfl (hb hby d1_30) k) ?_
  show Go p e s below ({ frames := 0, cells := 1, slots := 16, locals := 0 } : Room).cells ({ frames := 0, cells := 1, slots := 16, locals := 0 } : Room).slots (Q1 h0 n0) T6 (mkF m 31 #[.val (.int p1), .unset] [(.int (5 : Int32)), (.ref b), (.ref b)])
  refine Go.st (fun _ k => XS.bipush X6.here hx rfl (hb hby d1_31) k) ?_
  show Go p e s below ({ frames := 0, cells := 1, slots := 16, locals := 0 } : Room).cells ({ frames := 0, cells := 1, slots := 16, locals := 0 } : Room).slots (Q1 h0 n0) T6 (mkF m 33 #[.val (.int p1), .unset] [(.int (11 : Int32)), (.int (5 : Int32)), (.ref b), (.ref b)])
  obtain ⟨T7, h7, X7, e7, W7, V7, st7⟩ := AV.stI X6 hx hZ e6 V6 (i := 5) rfl (by decide) (by decide) (g := (mkF m 33 #[.val (.int p1), .unset] [(.int (11 : Int32)), (.int (5 : Int32)), (.ref b), (.ref b)])) rfl rfl (hb hby d1_33)
  refine Go.st st7 ?_
  have N7 := Fr.snoc X7 N6 gb
  show Go p e s below ({ frames := 0, cells := 1, slots := 16, locals := 0 } : Room).cells ({ frames := 0, cells := 1, slots := 16, locals := 0 } : Room).slots (Q1 h0 n0) T7 (mkF m 34 #[.val (.int p1), .unset] [(.ref b)])
  refine Go.st (fun _ k => XS.dup X7.here hx rfl (hb hby d1_34) rfl rfl k) ?_
  show Go p e s below ({ frames := 0, cells := 1, slots := 16, locals := 0 } : Room).cells ({ frames := 0, cells := 1, slots := 16, locals := 0 } : Room).slots (Q1 h0 n0) T7 (mkF m 35 #[.val (.int p1), .unset] [(.ref b), (.ref b)])
  refine Go.st (fun _ k => XS.bipush X7.here hx rfl (hb hby d1_35) k) ?_
  show Go p e s below ({ frames := 0, cells := 1, slots := 16, locals := 0 } : Room).cells ({ frames := 0, cells := 1, slots := 16, locals := 0 } : Room).slots (Q1 h0 n0) T7 (mkF m 37 #[.val (.int p1), .unset] [(.int (6 : Int32)), (.ref b), (.ref b)])
  refine Go.st (fun _ k => XS.bipush X7.here hx rfl (hb hby d1_37) k) ?_
  show Go p e s below ({ frames := 0, cells := 1, slots := 16, locals := 0 } : Room).cells ({ frames := 0, cells := 1, slots := 16, locals := 0 } : Room).slots (Q1 h0 n0) T7 (mkF m 39 #[.val (.int p1), .unset] [(.int (12 : Int32)), (.int (6 : Int32)), (.ref b), (.ref b)])
  obtain ⟨T8, h8, X8, e8, W8, V8, st8⟩ := AV.stI X7 hx hZ e7 V7 (i := 6) rfl (by decide) (by decide) (g := (mkF m 39 #[.val (.int p1), .unset] [(.int (12 : Int32)), (.int (6 : Int32)), (.ref b), (.ref b)])) rfl rfl (hb hby d1_39)
  refine Go.st st8 ?_
  have N8 := Fr.snoc X8 N7 gb
  show Go p e s below ({ frames := 0, cells := 1, slots := 16, locals := 0 } : Room).cells ({ frames := 0, cells := 1, slots := 16, locals := 0 } : Room).slots (Q1 h0 n0) T8 (mkF m 40 #[.val (.int p1), .unset] [(.ref b)])
  refine Go.st (fun _ k => XS.dup X8.here hx rfl (hb hby d1_40) rfl rfl k) ?_
  show Go p e s below ({ frames := 0, cells := 1, slots := 16, locals := 0 } : Room).cells ({ frames := 0, cells := 1, slots := 16, locals := 0 } : Room).slots (Q1 h0 n0) T8 (mkF m 41 #[.val (.int p1), .unset] [(.ref b), (.ref b)])
  refine Go.st (fun _ k => XS.bipush X8.here hx rfl (hb hby d1_41) k) ?_
  show Go p e s below ({ frames := 0, cells := 1, slots := 16, locals := 0 } : Room).cells ({ frames := 0, cells := 1, slots := 16, locals := 0 } : Room).slots (Q1 h0 n0) T8 (mkF m 43 #[.val (.int p1), .unset] [(.int (7 : Int32)), (.ref b), (.ref b)])
  refine Go.st (fun _ k => XS.bipush X8.here hx rfl (hb hby d1_43) k) ?_
  show Go p e s below ({ frames := 0, cells := 1, slots := 16, locals := 0 } : Room).cells ({ frames := 0, cells := 1, slots := 16, locals := 0 } : Room).slots (Q1 h0 n0) T8 (mkF m 45 #[.val (.int p1), .unset] [(.int (14 : Int32)), (.int (7 : Int32)), (.ref b), (.ref b)])
  obtain ⟨T9, h9, X9, e9, W9, V9, st9⟩ := AV.stI X8 hx hZ e8 V8 (i := 7) rfl (by decide) (by decide) (g := (mkF m 45 #[.val (.int p1), .unset] [(.int (14 : Int32)), (.int (7 : Int32)), (.ref b), (.ref b)])) rfl rfl (hb hby d1_45)
  refine Go.st st9 ?_
  have N9 := Fr.snoc X9 N8 gb
  show Go p e s below ({ frames := 0, cells := 1, slots := 16, locals := 0 } : Room).cells ({ frames := 0, cells := 1, slots := 16, locals := 0 } : Room).slots (Q1 h0 n0) T9 (mkF m 46 #[.val (.int p1), .unset] [(.ref b)])
  refine Go.st (fun _ k => XS.dup X9.here hx rfl (hb hby d1_46) rfl rfl k) ?_
  show Go p e s below ({ frames := 0, cells := 1, slots := 16, locals := 0 } : Room).cells ({ frames := 0, cells := 1, slots := 16, locals := 0 } : Room).slots (Q1 h0 n0) T9 (mkF m 47 #[.val (.int p1), .unset] [(.ref b), (.ref b)])
  refine Go.st (fun _ k => XS.bipush X9.here hx rfl (hb hby d1_47) k) ?_
  show Go p e s below ({ frames := 0, cells := 1, slots := 16, locals := 0 } : Room).cells ({ frames := 0, cells := 1, slots := 16, locals := 0 } : Room).slots (Q1 h0 n0) T9 (mkF m 49 #[.val (.int p1), .unset] [(.int (8 : Int32)), (.ref b), (.ref b)])
  refine Go.st (fun _ k => XS.bipush X9.here hx rfl (hb hby d1_49) k) ?_
  show Go p e s below ({ frames := 0, cells := 1, slots := 16, locals := 0 } : Room).cells ({ frames := 0, cells := 1, slots := 16, locals := 0 } : Room).slots (Q1 h0 n0) T9 (mkF m 51 #[.val (.int p1), .unset] [(.int (31 : Int32)), (.int (8 : Int32)), (.ref b), (.ref b)])
  obtain ⟨T10, h10, X10, e10, W10, V10, st10⟩ := AV.stI X9 hx hZ e9 V9 (i := 8) rfl (by decide) (by decide) (g := (mkF m 51 #[.val (.int p1), .unset] [(.int (31 : Int32)), (.int (8 : Int32)), (.ref b), (.ref b)])) rfl rfl (hb hby d1_51)
  refine Go.st st10 ?_
  have N10 := Fr.snoc X10 N9 gb
  show Go p e s below ({ frames := 0, cells := 1, slots := 16, locals := 0 } : Room).cells ({ frames := 0, cells := 1, slots := 16, locals := 0 } : Room).slots (Q1 h0 n0) T10 (mkF m 52 #[.val (.int p1), .unset] [(.ref b)])
  refine Go.st (fun _ k => XS.dup X10.here hx rfl (hb hby d1_52) rfl rfl k) ?_
  show Go p e s below ({ frames := 0, cells := 1, slots := 16, locals := 0 } : Room).cells ({ frames := 0, cells := 1, slots := 16, locals := 0 } : Room).slots (Q1 h0 n0) T10 (mkF m 53 #[.val (.int p1), .unset] [(.ref b), (.ref b)])
  refine Go.st (fun _ k => XS.bipush X10.here hx rfl (hb hby d1_53) k) ?_
  show Go p e s below ({ frames := 0, cells := 1, slots := 16, locals := 0 } : Room).cells ({ frames := 0, cells := 1, slots := 16, locals := 0 } : Room).slots (Q1 h0 n0) T10 (mkF m 55 #[.val (.int p1), .unset] [(.int (9 : Int32)), (.ref b), (.ref b)])
  refine Go.st (fun _ k => XS.bipush X10.here hx rfl (hb hby d1_55) k) ?_
  show Go p e s below ({ frames := 0, cells := 1, slots := 16, locals := 0 } : Room).cells ({ frames := 0, cells := 1, slots := 16, locals := 0 } : Room).slots (Q1 h0 n0) T10 (mkF m 57 #[.val (.int p1), .unset] [(.int (33 : Int32)), (.int (9 : Int32)), (.ref b), (.ref b)])
  obtain ⟨T11, h11, X11, e11, W11, V11, st11⟩ := AV.stI X10 hx hZ e10 V10 (i := 9) rfl (by decide) (by decide) (g := (mkF m 57 #[.val (.int p1), .unset] [(.int (33 : Int32)), (.int (9 : Int32)), (.ref b), (.ref b)])) rfl rfl (hb hby d1_57)
  refine Go.st st11 ?_
  have N11 := Fr.snoc X11 N10 gb
  show Go p e s below ({ frames := 0, cells := 1, slots := 16, locals := 0 } : Room).cells ({ frames := 0, cells := 1, slots := 16, locals := 0 } : Room).slots (Q1 h0 n0) T11 (mkF m 58 #[.val (.int p1), .unset] [(.ref b)])
  refine Go.st (fun _ k => XS.dup X11.here hx rfl (hb hby d1_58) rfl rfl k) ?_
  show Go p e s below ({ frames := 0, cells := 1, slots := 16, locals := 0 } : Room).cells ({ frames := 0, cells := 1, slots := 16, locals := 0 } : Room).slots (Q1 h0 n0) T11 (mkF m 59 #[.val (.int p1), .unset] [(.ref b), (.ref b)])
  refine Go.st (fun _ k => XS.bipush X11.here hx rfl (hb hby d1_59) k) ?_
  show Go p e s below ({ frames := 0, cells := 1, slots := 16, locals := 0 } : Room).cells ({ frames := 0, cells := 1, slots := 16, locals := 0 } : Room).slots (Q1 h0 n0) T11 (mkF m 61 #[.val (.int p1), .unset] [(.int (10 : Int32)), (.ref b), (.ref b)])
  refine Go.st (fun _ k => XS.iconst X11.here hx rfl (hb hby d1_61) k) ?_
  show Go p e s below ({ frames := 0, cells := 1, slots := 16, locals := 0 } : Room).cells ({ frames := 0, cells := 1, slots := 16, locals := 0 } : Room).slots (Q1 h0 n0) T11 (mkF m 62 #[.val (.int p1), .unset] [(.int (0 : Int32)), (.int (10 : Int32)), (.ref b), (.ref b)])
  obtain ⟨T12, h12, X12, e12, W12, V12, st12⟩ := AV.stI X11 hx hZ e11 V11 (i := 10) rfl (by decide) (by decide) (g := (mkF m 62 #[.val (.int p1), .unset] [(.int (0 : Int32)), (.int (10 : Int32)), (.ref b), (.ref b)])) rfl rfl (hb hby d1_62)
  refine Go.st st12 ?_
  have N12 := Fr.snoc X12 N11 gb
  show Go p e s below ({ frames := 0, cells := 1, slots := 16, locals := 0 } : Room).cells ({ frames := 0, cells := 1, slots := 16, locals := 0 } : Room).slots (Q1 h0 n0) T12 (mkF m 63 #[.val (.int p1), .unset] [(.ref b)])
  refine Go.st (fun _ k => XS.dup X12.here hx rfl (hb hby d1_63) rfl rfl k) ?_
  show Go p e s below ({ frames := 0, cells := 1, slots := 16, locals := 0 } : Room).cells ({ frames := 0, cells := 1, slots := 16, locals := 0 } : Room).slots (Q1 h0 n0) T12 (mkF m 64 #[.val (.int p1), .unset] [(.ref b), (.ref b)])
  refine Go.st (fun _ k => XS.bipush X12.here hx rfl (hb hby d1_64) k) ?_
  show Go p e s below ({ frames := 0, cells := 1, slots := 16, locals := 0 } : Room).cells ({ frames := 0, cells := 1, slots := 16, locals := 0 } : Room).slots (Q1 h0 n0) T12 (mkF m 66 #[.val (.int p1), .unset] [(.int (11 : Int32)), (.ref b), (.ref b)])
  refine Go.st (fun _ k => XS.iconst X12.here hx rfl (hb hby d1_66) k) ?_
  show Go p e s below ({ frames := 0, cells := 1, slots := 16, locals := 0 } : Room).cells ({ frames := 0, cells := 1, slots := 16, locals := 0 } : Room).slots (Q1 h0 n0) T12 (mkF m 67 #[.val (.int p1), .unset] [(.int (-1 : Int32)), (.int (11 : Int32)), (.ref b), (.ref b)])
  obtain ⟨T13, h13, X13, e13, W13, V13, st13⟩ := AV.stI X12 hx hZ e12 V12 (i := 11) rfl (by decide) (by decide) (g := (mkF m 67 #[.val (.int p1), .unset] [(.int (-1 : Int32)), (.int (11 : Int32)), (.ref b), (.ref b)])) rfl rfl (hb hby d1_67)
  refine Go.st st13 ?_
  have N13 := Fr.snoc X13 N12 gb
  show Go p e s below ({ frames := 0, cells := 1, slots := 16, locals := 0 } : Room).cells ({ frames := 0, cells := 1, slots := 16, locals := 0 } : Room).slots (Q1 h0 n0) T13 (mkF m 68 #[.val (.int p1), .unset] [(.ref b)])
  refine Go.st (fun _ k => XS.dup X13.here hx rfl (hb hby d1_68) rfl rfl k) ?_
  show Go p e s below ({ frames := 0, cells := 1, slots := 16, locals := 0 } : Room).cells ({ frames := 0, cells := 1, slots := 16, locals := 0 } : Room).slots (Q1 h0 n0) T13 (mkF m 69 #[.val (.int p1), .unset] [(.ref b), (.ref b)])
  refine Go.st (fun _ k => XS.bipush X13.here hx rfl (hb hby d1_69) k) ?_
  show Go p e s below ({ frames := 0, cells := 1, slots := 16, locals := 0 } : Room).cells ({ frames := 0, cells := 1, slots := 16, locals := 0 } : Room).slots (Q1 h0 n0) T13 (mkF m 71 #[.val (.int p1), .unset] [(.int (12 : Int32)), (.ref b), (.ref b)])
  refine Go.st (fun _ k => XS.sipush X13.here hx rfl (hb hby d1_71) k) ?_
  show Go p e s below ({ frames := 0, cells := 1, slots := 16, locals := 0 } : Room).cells ({ frames := 0, cells := 1, slots := 16, locals := 0 } : Room).slots (Q1 h0 n0) T13 (mkF m 74 #[.val (.int p1), .unset] [(.int (160 : Int32)), (.int (12 : Int32)), (.ref b), (.ref b)])
  obtain ⟨T14, h14, X14, e14, W14, V14, st14⟩ := AV.stI X13 hx hZ e13 V13 (i := 12) rfl (by decide) (by decide) (g := (mkF m 74 #[.val (.int p1), .unset] [(.int (160 : Int32)), (.int (12 : Int32)), (.ref b), (.ref b)])) rfl rfl (hb hby d1_74)
  refine Go.st st14 ?_
  have N14 := Fr.snoc X14 N13 gb
  show Go p e s below ({ frames := 0, cells := 1, slots := 16, locals := 0 } : Room).cells ({ frames := 0, cells := 1, slots := 16, locals := 0 } : Room).slots (Q1 h0 n0) T14 (mkF m 75 #[.val (.int p1), .unset] [(.ref b)])
  refine Go.st (fun _ k => XS.dup X14.here hx rfl (hb hby d1_75) rfl rfl k) ?_
  show Go p e s below ({ frames := 0, cells := 1, slots := 16, locals := 0 } : Room).cells ({ frames := 0, cells := 1, slots := 16, locals := 0 } : Room).slots (Q1 h0 n0) T14 (mkF m 76 #[.val (.int p1), .unset] [(.ref b), (.ref b)])
  refine Go.st (fun _ k => XS.bipush X14.here hx rfl (hb hby d1_76) k) ?_
  show Go p e s below ({ frames := 0, cells := 1, slots := 16, locals := 0 } : Room).cells ({ frames := 0, cells := 1, slots := 16, locals := 0 } : Room).slots (Q1 h0 n0) T14 (mkF m 78 #[.val (.int p1), .unset] [(.int (13 : Int32)), (.ref b), (.ref b)])
  refine Go.st (X14.ldcInt hx hown (mvT hZ (hw _ (List.mem_of_getElem? (i := 5) rfl))) (g := (mkF m 78 #[.val (.int p1), .unset] [(.int (13 : Int32)), (.ref b), (.ref b)])) rfl (hb hby d1_78)) ?_
  show Go p e s below ({ frames := 0, cells := 1, slots := 16, locals := 0 } : Room).cells ({ frames := 0, cells := 1, slots := 16, locals := 0 } : Room).slots (Q1 h0 n0) T14 (mkF m 80 #[.val (.int p1), .unset] [(.int (65568 : Int32)), (.int (13 : Int32)), (.ref b), (.ref b)])
  obtain ⟨T15, h15, X15, e15, W15, V15, st15⟩ := AV.stI X14 hx hZ e14 V14 (i := 13) rfl (by decide) (by decide) (g := (mkF m 80 #[.val (.int p1), .unset] [(.int (65568 : Int32)), (.int (13 : Int32)), (.ref b), (.ref b)])) rfl rfl (hb hby d1_80)
  refine Go.st st15 ?_
  have N15 := Fr.snoc X15 N14 gb
  show Go p e s below ({ frames := 0, cells := 1, slots := 16, locals := 0 } : Room).cells ({ frames := 0, cells := 1, slots := 16, locals := 0 } : Room).slots (Q1 h0 n0) T15 (mkF m 81 #[.val (.int p1), .unset] [(.ref b)])
  refine Go.st (fun _ k => XS.dup X15.here hx rfl (hb hby d1_81) rfl rfl k) ?_
  show Go p e s below ({ frames := 0, cells := 1, slots := 16, locals := 0 } : Room).cells ({ frames := 0, cells := 1, slots := 16, locals := 0 } : Room).slots (Q1 h0 n0) T15 (mkF m 82 #[.val (.int p1), .unset] [(.ref b), (.ref b)])
  refine Go.st (fun _ k => XS.bipush X15.here hx rfl (hb hby d1_82) k) ?_
  show Go p e s below ({ frames := 0, cells := 1, slots := 16, locals := 0 } : Room).cells ({ frames := 0, cells := 1, slots := 16, locals := 0 } : Room).slots (Q1 h0 n0) T15 (mkF m 84 #[.val (.int p1), .unset] [(.int (14 : Int32)), (.ref b), (.ref b)])
  refine Go.st (fun _ k => XS.sipush X15.here hx rfl (hb hby d1_84) k) ?_
  show Go p e s below ({ frames := 0, cells := 1, slots := 16, locals := 0 } : Room).cells ({ frames := 0, cells := 1, slots := 16, locals := 0 } : Room).slots (Q1 h0 n0) T15 (mkF m 87 #[.val (.int p1), .unset] [(.int (8232 : Int32)), (.int (14 : Int32)), (.ref b), (.ref b)])
  obtain ⟨T16, h16, X16, e16, W16, V16, st16⟩ := AV.stI X15 hx hZ e15 V15 (i := 14) rfl (by decide) (by decide) (g := (mkF m 87 #[.val (.int p1), .unset] [(.int (8232 : Int32)), (.int (14 : Int32)), (.ref b), (.ref b)])) rfl rfl (hb hby d1_87)
  refine Go.st st16 ?_
  have N16 := Fr.snoc X16 N15 gb
  show Go p e s below ({ frames := 0, cells := 1, slots := 16, locals := 0 } : Room).cells ({ frames := 0, cells := 1, slots := 16, locals := 0 } : Room).slots (Q1 h0 n0) T16 (mkF m 88 #[.val (.int p1), .unset] [(.ref b)])
  refine Go.st (fun _ k => XS.dup X16.here hx rfl (hb hby d1_88) rfl rfl k) ?_
  show Go p e s below ({ frames := 0, cells := 1, slots := 16, locals := 0 } : Room).cells ({ frames := 0, cells := 1, slots := 16, locals := 0 } : Room).slots (Q1 h0 n0) T16 (mkF m 89 #[.val (.int p1), .unset] [(.ref b), (.ref b)])
  refine Go.st (fun _ k => XS.bipush X16.here hx rfl (hb hby d1_89) k) ?_
  show Go p e s below ({ frames := 0, cells := 1, slots := 16, locals := 0 } : Room).cells ({ frames := 0, cells := 1, slots := 16, locals := 0 } : Room).slots (Q1 h0 n0) T16 (mkF m 91 #[.val (.int p1), .unset] [(.int (15 : Int32)), (.ref b), (.ref b)])
  refine Go.st (X16.ldcInt hx hown (mvT hZ (hw _ (List.mem_of_getElem? (i := 6) rfl))) (g := (mkF m 91 #[.val (.int p1), .unset] [(.int (15 : Int32)), (.ref b), (.ref b)])) rfl (hb hby d1_91)) ?_
  show Go p e s below ({ frames := 0, cells := 1, slots := 16, locals := 0 } : Room).cells ({ frames := 0, cells := 1, slots := 16, locals := 0 } : Room).slots (Q1 h0 n0) T16 (mkF m 93 #[.val (.int p1), .unset] [(.int (-2147483648 : Int32)), (.int (15 : Int32)), (.ref b), (.ref b)])
  obtain ⟨T17, h17, X17, e17, W17, V17, st17⟩ := AV.stI X16 hx hZ e16 V16 (i := 15) rfl (by decide) (by decide) (g := (mkF m 93 #[.val (.int p1), .unset] [(.int (-2147483648 : Int32)), (.int (15 : Int32)), (.ref b), (.ref b)])) rfl rfl (hb hby d1_93)
  refine Go.st st17 ?_
  have N17 := Fr.snoc X17 N16 gb
  show Go p e s below ({ frames := 0, cells := 1, slots := 16, locals := 0 } : Room).cells ({ frames := 0, cells := 1, slots := 16, locals := 0 } : Room).slots (Q1 h0 n0) T17 (mkF m 94 #[.val (.int p1), .unset] [(.ref b)])
  refine Go.st (fun _ k => XS.astoreN X17.here hx rfl (hb hby d1_94) rfl rfl (l' := #[.val (.int p1), .val (.ref b)]) rfl k) ?_
  show Go p e s below ({ frames := 0, cells := 1, slots := 16, locals := 0 } : Room).cells ({ frames := 0, cells := 1, slots := 16, locals := 0 } : Room).slots (Q1 h0 n0) T17 (mkF m 95 #[.val (.int p1), .val (.ref b)] [])
  refine Go.st (fun _ k => XS.aloadN X17.here hx rfl (hb hby d1_95) rfl rfl k) ?_
  show Go p e s below ({ frames := 0, cells := 1, slots := 16, locals := 0 } : Room).cells ({ frames := 0, cells := 1, slots := 16, locals := 0 } : Room).slots (Q1 h0 n0) T17 (mkF m 96 #[.val (.int p1), .val (.ref b)] [(.ref b)])
  refine Go.st (fun _ k => XS.iloadN X17.here hx rfl (hb hby d1_96) rfl k) ?_
  obtain ⟨ff, VV⟩ : ∃ ff, AV Z h17 b .int 16 ff := ⟨_, V17⟩
  show Go p e s below ({ frames := 0, cells := 1, slots := 16, locals := 0 } : Room).cells ({ frames := 0, cells := 1, slots := 16, locals := 0 } : Room).slots (Q1 h0 n0) T17 (mkF m 97 #[.val (.int p1), .val (.ref b)] [(.int p1), (.ref b)])
  refine Go.st (AV.ldI X17 hx hZ e17 VV rfl hn hi (g := (mkF m 97 #[.val (.int p1), .val (.ref b)] [(.int p1), (.ref b)])) rfl rfl (hb hby d1_97)) ?_
  show Go p e s below ({ frames := 0, cells := 1, slots := 16, locals := 0 } : Room).cells ({ frames := 0, cells := 1, slots := 16, locals := 0 } : Room).slots (Q1 h0 n0) T17 (mkF m 98 #[.val (.int p1), .val (.ref b)] [(.int (ff p1.toNatClampNeg))])
  exact Go.retI X17 hx hlk Bd.returns (hb hby d1_98) (by decide) (by decide) ⟨_, rfl, N17, by rw [e17]; exact Nat.le_trans gb (Nat.le_of_lt VV.lt)⟩
def Q2 (p1 : Int32) (h0 : Heap) (n0 : Nat) (v : Option Value) (h : Heap) (L : List Loc) : Prop := v = some (.int (own_bl p1)) ∧ Fr n0 L ∧ h = h0
set_option maxRecDepth 65536 in
set_option maxHeartbeats 40000000 in
theorem rm2 (l : Launch) (Z : State) (a0 : Array Value) (hw : ∀ d ∈ tables_1, d.before a0 Z = true) (ws : List Jvm.Cond) (p1 : Int32) (h0 : Heap) (n0 : Nat) (Z0 : n0 ≤ h0.size)  :
    MetFree l (⟨"com/example/eccenter/eccenter/io/TextInput", "isBlank", "(I)Z"⟩ : MethodName) (head1 (Jvm.Cond.code (⟨"com/example/eccenter/eccenter/io/TextInput", "isBlank", "(I)Z"⟩ : MethodName) prog_44_method_5_code 1 (some .boolean) :: ws) ({ frames := 0, cells := 0, slots := 0, locals := 0 } : Room)) (fun a_ U_ => a_ = #[(.int p1)] ∧ Z.Warmed39 U_.vm ∧ U_.heap = h0) (fun _ _ _ _ _ => True) (fun _ U_ o_ W_ => ∃ v_ L_, o_ = .returned v_ ∧ (Q2 p1 h0 n0) v_ W_.heap L_ ∧ FrameEnd U_ o_ W_ L_ ({ frames := 0, cells := 0, slots := 0, locals := 0 } : Room).cells ({ frames := 0, cells := 0, slots := 0, locals := 0 } : Room).slots) := by
  refine MetFree.of_bodySF (plainFor_of_name pn_com_example_eccenter_eccenter_io_TextInput) hisR ?_
  intro p e s m args below meth c s₁ Bd hml0 hP hK
  obtain ⟨rfl, hZ, hh⟩ := hP
  have hx := Bd.exec
  have hby := Bd.bytes
  have hml : c.maxLocals = 1 := hml0
  have hown : s.vm.findClass "com/example/eccenter/eccenter/io/TextInput" = some m.cls := findClass_of_methodNamed Bd.named
  have hnm := (name_of_methodNamed Bd.named Bd.method).1
  have hlk : meth.locks = false := BodyLoose.notSynchronized Bd
  have X0 : Stand p l e ({ frames := 0, cells := 0, slots := 0, locals := 0 } : Room) s m #[(.int p1)] below meth c s₁ [] 0 0 := Stand.of_body Bd
  have e0 : s₁.heap = h0 := by rw [← hh, Bd.state]; rfl
  have N0 := Fr.nil n0
  refine Go.enter (ef_2 m p1) ?_
  have yes : (p1 = 32 ∨ p1 = 9 ∨ p1 = 10 ∨ p1 = 13) → Go p e s below ({ frames := 0, cells := 0, slots := 0, locals := 0 } : Room).cells ({ frames := 0, cells := 0, slots := 0, locals := 0 } : Room).slots (Q2 p1 h0 n0) s₁ (mkF m 24 #[.val (.int p1)] []) := by
    intro q
    show Go p e s below ({ frames := 0, cells := 0, slots := 0, locals := 0 } : Room).cells ({ frames := 0, cells := 0, slots := 0, locals := 0 } : Room).slots (Q2 p1 h0 n0) s₁ (mkF m 24 #[.val (.int p1)] [])
    refine Go.st (fun _ k => XS.iconst X0.here hx rfl (hb hby d2_24) k) ?_
    show Go p e s below ({ frames := 0, cells := 0, slots := 0, locals := 0 } : Room).cells ({ frames := 0, cells := 0, slots := 0, locals := 0 } : Room).slots (Q2 p1 h0 n0) s₁ (mkF m 25 #[.val (.int p1)] [(.int (1 : Int32))])
    refine Go.st (fun _ k => XS.goto X0.here hx rfl (pc0 := 25) (pc' := 29) rfl (hb hby d2_25) (by decide) (by decide) k) ?_
    show Go p e s below ({ frames := 0, cells := 0, slots := 0, locals := 0 } : Room).cells ({ frames := 0, cells := 0, slots := 0, locals := 0 } : Room).slots (Q2 p1 h0 n0) s₁ (mkF m 29 #[.val (.int p1)] [(.int (1 : Int32))])
    exact Go.retN X0 hx hlk (t := .boolean) Bd.returns (by simp) (hb hby d2_29) (by decide) (by decide) ⟨by rw [own_bl1 q]; rfl, N0, e0⟩
  show Go p e s below ({ frames := 0, cells := 0, slots := 0, locals := 0 } : Room).cells ({ frames := 0, cells := 0, slots := 0, locals := 0 } : Room).slots (Q2 p1 h0 n0) s₁ (mkF m 0 #[.val (.int p1)] [])
  refine Go.st (fun _ k => XS.iloadN X0.here hx rfl (hb hby d2_0) rfl k) ?_
  show Go p e s below ({ frames := 0, cells := 0, slots := 0, locals := 0 } : Room).cells ({ frames := 0, cells := 0, slots := 0, locals := 0 } : Room).slots (Q2 p1 h0 n0) s₁ (mkF m 1 #[.val (.int p1)] [(.int p1)])
  refine Go.st (fun _ k => XS.bipush X0.here hx rfl (hb hby d2_1) k) ?_
  by_cases q32 : p1 = (32 : Int32)
  · skip
    show Go p e s below ({ frames := 0, cells := 0, slots := 0, locals := 0 } : Room).cells ({ frames := 0, cells := 0, slots := 0, locals := 0 } : Room).slots (Q2 p1 h0 n0) s₁ (mkF m 3 #[.val (.int p1)] [(.int (32 : Int32)), (.int p1)])
    refine Go.st (fun _ k => XS.icmpYes X0.here hx rfl (pc0 := 3) (pc' := 24) rfl (hb hby d2_3) rfl (teq q32).1 (by decide) (by decide) k) ?_
    exact yes (Or.inl q32)
  · skip
    show Go p e s below ({ frames := 0, cells := 0, slots := 0, locals := 0 } : Room).cells ({ frames := 0, cells := 0, slots := 0, locals := 0 } : Room).slots (Q2 p1 h0 n0) s₁ (mkF m 3 #[.val (.int p1)] [(.int (32 : Int32)), (.int p1)])
    refine Go.st (fun _ k => XS.icmpNo X0.here hx rfl (hb hby d2_3) rfl (feq q32).1 k) ?_
    show Go p e s below ({ frames := 0, cells := 0, slots := 0, locals := 0 } : Room).cells ({ frames := 0, cells := 0, slots := 0, locals := 0 } : Room).slots (Q2 p1 h0 n0) s₁ (mkF m 6 #[.val (.int p1)] [])
    refine Go.st (fun _ k => XS.iloadN X0.here hx rfl (hb hby d2_6) rfl k) ?_
    show Go p e s below ({ frames := 0, cells := 0, slots := 0, locals := 0 } : Room).cells ({ frames := 0, cells := 0, slots := 0, locals := 0 } : Room).slots (Q2 p1 h0 n0) s₁ (mkF m 7 #[.val (.int p1)] [(.int p1)])
    refine Go.st (fun _ k => XS.bipush X0.here hx rfl (hb hby d2_7) k) ?_
    by_cases q9 : p1 = (9 : Int32)
    · skip
      show Go p e s below ({ frames := 0, cells := 0, slots := 0, locals := 0 } : Room).cells ({ frames := 0, cells := 0, slots := 0, locals := 0 } : Room).slots (Q2 p1 h0 n0) s₁ (mkF m 9 #[.val (.int p1)] [(.int (9 : Int32)), (.int p1)])
      refine Go.st (fun _ k => XS.icmpYes X0.here hx rfl (pc0 := 9) (pc' := 24) rfl (hb hby d2_9) rfl (teq q9).1 (by decide) (by decide) k) ?_
      exact yes (Or.inr (Or.inl q9))
    · skip
      show Go p e s below ({ frames := 0, cells := 0, slots := 0, locals := 0 } : Room).cells ({ frames := 0, cells := 0, slots := 0, locals := 0 } : Room).slots (Q2 p1 h0 n0) s₁ (mkF m 9 #[.val (.int p1)] [(.int (9 : Int32)), (.int p1)])
      refine Go.st (fun _ k => XS.icmpNo X0.here hx rfl (hb hby d2_9) rfl (feq q9).1 k) ?_
      show Go p e s below ({ frames := 0, cells := 0, slots := 0, locals := 0 } : Room).cells ({ frames := 0, cells := 0, slots := 0, locals := 0 } : Room).slots (Q2 p1 h0 n0) s₁ (mkF m 12 #[.val (.int p1)] [])
      refine Go.st (fun _ k => XS.iloadN X0.here hx rfl (hb hby d2_12) rfl k) ?_
      show Go p e s below ({ frames := 0, cells := 0, slots := 0, locals := 0 } : Room).cells ({ frames := 0, cells := 0, slots := 0, locals := 0 } : Room).slots (Q2 p1 h0 n0) s₁ (mkF m 13 #[.val (.int p1)] [(.int p1)])
      refine Go.st (fun _ k => XS.bipush X0.here hx rfl (hb hby d2_13) k) ?_
      by_cases q10 : p1 = (10 : Int32)
      · skip
        show Go p e s below ({ frames := 0, cells := 0, slots := 0, locals := 0 } : Room).cells ({ frames := 0, cells := 0, slots := 0, locals := 0 } : Room).slots (Q2 p1 h0 n0) s₁ (mkF m 15 #[.val (.int p1)] [(.int (10 : Int32)), (.int p1)])
        refine Go.st (fun _ k => XS.icmpYes X0.here hx rfl (pc0 := 15) (pc' := 24) rfl (hb hby d2_15) rfl (teq q10).1 (by decide) (by decide) k) ?_
        exact yes (Or.inr (Or.inr (Or.inl q10)))
      · skip
        show Go p e s below ({ frames := 0, cells := 0, slots := 0, locals := 0 } : Room).cells ({ frames := 0, cells := 0, slots := 0, locals := 0 } : Room).slots (Q2 p1 h0 n0) s₁ (mkF m 15 #[.val (.int p1)] [(.int (10 : Int32)), (.int p1)])
        refine Go.st (fun _ k => XS.icmpNo X0.here hx rfl (hb hby d2_15) rfl (feq q10).1 k) ?_
        show Go p e s below ({ frames := 0, cells := 0, slots := 0, locals := 0 } : Room).cells ({ frames := 0, cells := 0, slots := 0, locals := 0 } : Room).slots (Q2 p1 h0 n0) s₁ (mkF m 18 #[.val (.int p1)] [])
        refine Go.st (fun _ k => XS.iloadN X0.here hx rfl (hb hby d2_18) rfl k) ?_
        show Go p e s below ({ frames := 0, cells := 0, slots := 0, locals := 0 } : Room).cells ({ frames := 0, cells := 0, slots := 0, locals := 0 } : Room).slots (Q2 p1 h0 n0) s₁ (mkF m 19 #[.val (.int p1)] [(.int p1)])
        refine Go.st (fun _ k => XS.bipush X0.here hx rfl (hb hby d2_19) k) ?_
        by_cases q13 : p1 = (13 : Int32)
        · skip
          show Go p e s below ({ frames := 0, cells := 0, slots := 0, locals := 0 } : Room).cells ({ frames := 0, cells := 0, slots := 0, locals := 0 } : Room).slots (Q2 p1 h0 n0) s₁ (mkF m 21 #[.val (.int p1)] [(.int (13 : Int32)), (.int p1)])
          refine Go.st (fun _ k => XS.icmpNo X0.here hx rfl (hb hby d2_21) rfl (teq q13).2 k) ?_
          exact yes (Or.inr (Or.inr (Or.inr q13)))
        · skip
          show Go p e s below ({ frames := 0, cells := 0, slots := 0, locals := 0 } : Room).cells ({ frames := 0, cells := 0, slots := 0, locals := 0 } : Room).slots (Q2 p1 h0 n0) s₁ (mkF m 21 #[.val (.int p1)] [(.int (13 : Int32)), (.int p1)])
          refine Go.st (fun _ k => XS.icmpYes X0.here hx rfl (pc0 := 21) (pc' := 28) rfl (hb hby d2_21) rfl (feq q13).2 (by decide) (by decide) k) ?_
          show Go p e s below ({ frames := 0, cells := 0, slots := 0, locals := 0 } : Room).cells ({ frames := 0, cells := 0, slots := 0, locals := 0 } : Room).slots (Q2 p1 h0 n0) s₁ (mkF m 28 #[.val (.int p1)] [])
          refine Go.st (fun _ k => XS.iconst X0.here hx rfl (hb hby d2_28) k) ?_
          show Go p e s below ({ frames := 0, cells := 0, slots := 0, locals := 0 } : Room).cells ({ frames := 0, cells := 0, slots := 0, locals := 0 } : Room).slots (Q2 p1 h0 n0) s₁ (mkF m 29 #[.val (.int p1)] [(.int (0 : Int32))])
          exact Go.retN X0 hx hlk (t := .boolean) Bd.returns (by simp) (hb hby d2_29) (by decide) (by decide) ⟨by rw [own_bl0 (by rintro (q | q | q | q) <;> contradiction)]; rfl, N0, e0⟩
def Q0 (h0 : Heap) (n0 : Nat) (v : Option Value) (h : Heap) (L : List Loc) : Prop := v = some (.int 1) ∧ Fr n0 L
set_option maxRecDepth 65536 in
set_option maxHeartbeats 40000000 in
theorem rm0 (l : Launch) (Z : State) (a0 : Array Value) (hw : ∀ d ∈ tables_1, d.before a0 Z = true) (ws : List Jvm.Cond) (p1 : Int32) (p2 : Int32) (h0 : Heap) (n0 : Nat) (Z0 : n0 ≤ h0.size)  :
    MetFree l x (head1 (Jvm.Cond.code x code maxLocals ret :: ws) room_1) (fun a_ U_ => a_ = #[(.int p1), (.int p2)] ∧ Z.Warmed39 U_.vm ∧ U_.heap = h0) (fun _ _ _ _ _ => True) (fun _ U_ o_ W_ => ∃ v_ L_, o_ = .returned v_ ∧ (Q0 h0 n0) v_ W_.heap L_ ∧ FrameEnd U_ o_ W_ L_ room_1.cells room_1.slots) := by
  refine MetFree.of_bodySF (plainFor_of_name pn_com_example_eccenter_eccenter_io_TextInputIsBlankPinLaw) hisR ?_
  intro p e s m args below meth c s₁ Bd hml0 hP hK
  obtain ⟨rfl, hZ, hh⟩ := hP
  have hx := Bd.exec
  have hby := Bd.bytes
  have hml : c.maxLocals = 4 := hml0
  have hown : s.vm.findClass "com/example/eccenter/eccenter/io/TextInputIsBlankPinLaw" = some m.cls := findClass_of_methodNamed Bd.named
  have hnm := (name_of_methodNamed Bd.named Bd.method).1
  have hlk : meth.locks = false := BodyLoose.notSynchronized Bd
  have X0 : Stand p l e room_1 s m #[(.int p1), (.int p2)] below meth c s₁ [] 0 0 := Stand.of_body Bd
  have e0 : s₁.heap = h0 := by rw [← hh, Bd.state]; rfl
  have N0 := Fr.nil n0
  refine Go.enter (ef_0 m p1 p2) ?_
  have join : ∀ (T : State) (locs : List Loc) (kc ks : Nat) (X : Stand p l e room_1 s m #[(.int p1), (.int p2)] below meth c T locs kc ks) (N : Fr n0 locs) (hkc : kc ≤ 1) (hks : ks ≤ 16) (hz : n0 ≤ T.heap.size) (cc : Int32), Go p e s below room_1.cells room_1.slots (Q0 h0 n0) T (mkF m 17 #[.val (.int p1), .val (.int p2), .unset, .unset] [(.int cc)]) := by
    intro T locs kc ks X N hkc hks hz cc
    show Go p e s below room_1.cells room_1.slots (Q0 h0 n0) T (mkF m 17 #[.val (.int p1), .val (.int p2), .unset, .unset] [(.int cc)])
    refine Go.st (fun _ k => XS.istoreN X.here hx rfl (hb hby at_17) rfl (l' := #[.val (.int p1), .val (.int p2), .val (.int cc), .unset]) rfl k) ?_
    show Go p e s below room_1.cells room_1.slots (Q0 h0 n0) T (mkF m 18 #[.val (.int p1), .val (.int p2), .val (.int cc), .unset] [])
    refine Go.st (fun _ k => XS.iloadN X.here hx rfl (hb hby at_18) rfl k) ?_
    show Go p e s below room_1.cells room_1.slots (Q0 h0 n0) T (mkF m 19 #[.val (.int p1), .val (.int p2), .val (.int cc), .unset] [(.int cc)])
    refine Go.st (fun _ k => XS.bipush X.here hx rfl (hb hby at_19) k) ?_
    have join2 : ∀ (ex : Int32), own_bl cc = ex → Go p e s below room_1.cells room_1.slots (Q0 h0 n0) T (mkF m 53 #[.val (.int p1), .val (.int p2), .val (.int cc), .unset] [(.int ex)]) := by
      intro ex hex
      show Go p e s below room_1.cells room_1.slots (Q0 h0 n0) T (mkF m 53 #[.val (.int p1), .val (.int p2), .val (.int cc), .unset] [(.int ex)])
      refine Go.st (fun _ k => XS.istoreN X.here hx rfl (hb hby at_53) rfl (l' := #[.val (.int p1), .val (.int p2), .val (.int cc), .val (.int ex)]) rfl k) ?_
      show Go p e s below room_1.cells room_1.slots (Q0 h0 n0) T (mkF m 54 #[.val (.int p1), .val (.int p2), .val (.int cc), .val (.int ex)] [])
      refine Go.st (fun _ k => XS.iloadN X.here hx rfl (hb hby at_54) rfl k) ?_
      show Go p e s below room_1.cells room_1.slots (Q0 h0 n0) T (mkF m 55 #[.val (.int p1), .val (.int p2), .val (.int cc), .val (.int ex)] [(.int cc)])
      obtain ⟨_, _, ⟨T18, L18, k18, n18⟩, -, X18, ⟨Lc18, hQ18, l18, y18, z18⟩, st18⟩ := Jvm.LawKit.callS X hx (y := (⟨"com/example/eccenter/eccenter/io/TextInput", "isBlank", "(I)Z"⟩ : MethodName)) hown (mvT hZ (hw _ (List.mem_of_getElem? (i := 7) rfl))) (mvT hZ (hw _ (List.mem_of_getElem? (i := 8) rfl))) (mvT hZ (hw _ (List.mem_of_getElem? (i := 9) rfl))) (mvT hZ (hw _ (List.mem_of_getElem? (i := 10) rfl))) (by decide) (backOf (W := 0) (rm2 l Z a0 hw [] cc T.heap n0 hz) hZ (hw _ (List.mem_of_getElem? (i := 10) rfl)) (hw _ (List.mem_of_getElem? (i := 9) rfl)) (by decide) (by decide)) (g := (mkF m 55 #[.val (.int p1), .val (.int p2), .val (.int cc), .val (.int ex)] [(.int cc)])) rfl (by rw [hml]; rfl) (argsL := [(.int cc)]) (rest := []) (lenOf pd_1 rfl) rfl (by show 2 * 0 + _ ≤ _; exact Nat.le_of_eq rfl) (hb hby at_55) (fun _ _ => ⟨rfl, rfl, (by show kc + 0 ≤ 16; omega), (by show ks + 0 ≤ 128; omega)⟩)
      dsimp only [Pt.U, Pt.locs, Pt.cells, Pt.slots] at X18 l18 y18 z18 st18 hQ18
      subst l18 y18 z18
      obtain ⟨rfl, hN18, eh⟩ := hQ18
      have N18 := Fr.app N hN18
      refine Go.st st18 ?_
      show Go p e s below room_1.cells room_1.slots (Q0 h0 n0) T18 (mkF m 58 #[.val (.int p1), .val (.int p2), .val (.int cc), .val (.int ex)] [(.int (own_bl cc))])
      refine Go.st (fun _ k => XS.iloadN X18.here hx rfl (hb hby at_58) rfl k) ?_
      show Go p e s below room_1.cells room_1.slots (Q0 h0 n0) T18 (mkF m 59 #[.val (.int p1), .val (.int p2), .val (.int cc), .val (.int ex)] [(.int ex), (.int (own_bl cc))])
      refine Go.st (fun _ k => XS.icmpNo X18.here hx rfl (hb hby at_59) rfl (teq hex).2 k) ?_
      show Go p e s below room_1.cells room_1.slots (Q0 h0 n0) T18 (mkF m 62 #[.val (.int p1), .val (.int p2), .val (.int cc), .val (.int ex)] [])
      refine Go.st (fun _ k => XS.iconst X18.here hx rfl (hb hby at_62) k) ?_
      show Go p e s below room_1.cells room_1.slots (Q0 h0 n0) T18 (mkF m 63 #[.val (.int p1), .val (.int p2), .val (.int cc), .val (.int ex)] [(.int (1 : Int32))])
      refine Go.st (fun _ k => XS.goto X18.here hx rfl (pc0 := 63) (pc' := 67) rfl (hb hby at_63) (by decide) (by decide) k) ?_
      show Go p e s below room_1.cells room_1.slots (Q0 h0 n0) T18 (mkF m 67 #[.val (.int p1), .val (.int p2), .val (.int cc), .val (.int ex)] [(.int (1 : Int32))])
      exact Go.retN X18 hx hlk (t := .boolean) Bd.returns (by simp) (hb hby at_67) (Nat.le_trans hkc (by decide)) (Nat.le_trans hks (by decide)) ⟨rfl, N18⟩
    by_cases c32 : cc = (32 : Int32)
    · skip
      show Go p e s below room_1.cells room_1.slots (Q0 h0 n0) T (mkF m 21 #[.val (.int p1), .val (.int p2), .val (.int cc), .unset] [(.int (32 : Int32)), (.int cc)])
      refine Go.st (fun _ k => XS.icmpYes X.here hx rfl (pc0 := 21) (pc' := 48) rfl (hb hby at_21) rfl (teq c32).1 (by decide) (by decide) k) ?_
      show Go p e s below room_1.cells room_1.slots (Q0 h0 n0) T (mkF m 48 #[.val (.int p1), .val (.int p2), .val (.int cc), .unset] [])
      refine Go.st (fun _ k => XS.iconst X.here hx rfl (hb hby at_48) k) ?_
      show Go p e s below room_1.cells room_1.slots (Q0 h0 n0) T (mkF m 49 #[.val (.int p1), .val (.int p2), .val (.int cc), .unset] [(.int (1 : Int32))])
      refine Go.st (fun _ k => XS.goto X.here hx rfl (pc0 := 49) (pc' := 53) rfl (hb hby at_49) (by decide) (by decide) k) ?_
      exact join2 _ (own_bl1 (Or.inl c32))
    · skip
      show Go p e s below room_1.cells room_1.slots (Q0 h0 n0) T (mkF m 21 #[.val (.int p1), .val (.int p2), .val (.int cc), .unset] [(.int (32 : Int32)), (.int cc)])
      refine Go.st (fun _ k => XS.icmpNo X.here hx rfl (hb hby at_21) rfl (feq c32).1 k) ?_
      show Go p e s below room_1.cells room_1.slots (Q0 h0 n0) T (mkF m 24 #[.val (.int p1), .val (.int p2), .val (.int cc), .unset] [])
      refine Go.st (fun _ k => XS.iloadN X.here hx rfl (hb hby at_24) rfl k) ?_
      show Go p e s below room_1.cells room_1.slots (Q0 h0 n0) T (mkF m 25 #[.val (.int p1), .val (.int p2), .val (.int cc), .unset] [(.int cc)])
      refine Go.st (fun _ k => XS.bipush X.here hx rfl (hb hby at_25) k) ?_
      by_cases c9 : cc < (9 : Int32)
      · skip
        show Go p e s below room_1.cells room_1.slots (Q0 h0 n0) T (mkF m 27 #[.val (.int p1), .val (.int p2), .val (.int cc), .unset] [(.int (9 : Int32)), (.int cc)])
        refine Go.st (fun _ k => XS.icmpYes X.here hx rfl (pc0 := 27) (pc' := 52) rfl (hb hby at_27) rfl (tlt c9).1 (by decide) (by decide) k) ?_
        show Go p e s below room_1.cells room_1.slots (Q0 h0 n0) T (mkF m 52 #[.val (.int p1), .val (.int p2), .val (.int cc), .unset] [])
        refine Go.st (fun _ k => XS.iconst X.here hx rfl (hb hby at_52) k) ?_
        exact join2 _ (own_lo c32 c9)
      · skip
        show Go p e s below room_1.cells room_1.slots (Q0 h0 n0) T (mkF m 27 #[.val (.int p1), .val (.int p2), .val (.int cc), .unset] [(.int (9 : Int32)), (.int cc)])
        refine Go.st (fun _ k => XS.icmpNo X.here hx rfl (hb hby at_27) rfl (flt c9).1 k) ?_
        show Go p e s below room_1.cells room_1.slots (Q0 h0 n0) T (mkF m 30 #[.val (.int p1), .val (.int p2), .val (.int cc), .unset] [])
        refine Go.st (fun _ k => XS.iloadN X.here hx rfl (hb hby at_30) rfl k) ?_
        show Go p e s below room_1.cells room_1.slots (Q0 h0 n0) T (mkF m 31 #[.val (.int p1), .val (.int p2), .val (.int cc), .unset] [(.int cc)])
        refine Go.st (fun _ k => XS.bipush X.here hx rfl (hb hby at_31) k) ?_
        by_cases c13 : (13 : Int32) < cc
        · skip
          show Go p e s below room_1.cells room_1.slots (Q0 h0 n0) T (mkF m 33 #[.val (.int p1), .val (.int p2), .val (.int cc), .unset] [(.int (13 : Int32)), (.int cc)])
          refine Go.st (fun _ k => XS.icmpYes X.here hx rfl (pc0 := 33) (pc' := 52) rfl (hb hby at_33) rfl (tlt c13).2.2.1 (by decide) (by decide) k) ?_
          show Go p e s below room_1.cells room_1.slots (Q0 h0 n0) T (mkF m 52 #[.val (.int p1), .val (.int p2), .val (.int cc), .unset] [])
          refine Go.st (fun _ k => XS.iconst X.here hx rfl (hb hby at_52) k) ?_
          exact join2 _ (own_hi c32 c13)
        · skip
          show Go p e s below room_1.cells room_1.slots (Q0 h0 n0) T (mkF m 33 #[.val (.int p1), .val (.int p2), .val (.int cc), .unset] [(.int (13 : Int32)), (.int cc)])
          refine Go.st (fun _ k => XS.icmpNo X.here hx rfl (hb hby at_33) rfl (flt c13).2.2.1 k) ?_
          show Go p e s below room_1.cells room_1.slots (Q0 h0 n0) T (mkF m 36 #[.val (.int p1), .val (.int p2), .val (.int cc), .unset] [])
          refine Go.st (fun _ k => XS.iloadN X.here hx rfl (hb hby at_36) rfl k) ?_
          show Go p e s below room_1.cells room_1.slots (Q0 h0 n0) T (mkF m 37 #[.val (.int p1), .val (.int p2), .val (.int cc), .unset] [(.int cc)])
          refine Go.st (fun _ k => XS.bipush X.here hx rfl (hb hby at_37) k) ?_
          by_cases c11 : cc = (11 : Int32)
          · skip
            show Go p e s below room_1.cells room_1.slots (Q0 h0 n0) T (mkF m 39 #[.val (.int p1), .val (.int p2), .val (.int cc), .unset] [(.int (11 : Int32)), (.int cc)])
            refine Go.st (fun _ k => XS.icmpYes X.here hx rfl (pc0 := 39) (pc' := 52) rfl (hb hby at_39) rfl (teq c11).1 (by decide) (by decide) k) ?_
            show Go p e s below room_1.cells room_1.slots (Q0 h0 n0) T (mkF m 52 #[.val (.int p1), .val (.int p2), .val (.int cc), .unset] [])
            refine Go.st (fun _ k => XS.iconst X.here hx rfl (hb hby at_52) k) ?_
            exact join2 _ (own_bl0 (by subst c11; decide))
          · skip
            show Go p e s below room_1.cells room_1.slots (Q0 h0 n0) T (mkF m 39 #[.val (.int p1), .val (.int p2), .val (.int cc), .unset] [(.int (11 : Int32)), (.int cc)])
            refine Go.st (fun _ k => XS.icmpNo X.here hx rfl (hb hby at_39) rfl (feq c11).1 k) ?_
            show Go p e s below room_1.cells room_1.slots (Q0 h0 n0) T (mkF m 42 #[.val (.int p1), .val (.int p2), .val (.int cc), .unset] [])
            refine Go.st (fun _ k => XS.iloadN X.here hx rfl (hb hby at_42) rfl k) ?_
            show Go p e s below room_1.cells room_1.slots (Q0 h0 n0) T (mkF m 43 #[.val (.int p1), .val (.int p2), .val (.int cc), .unset] [(.int cc)])
            refine Go.st (fun _ k => XS.bipush X.here hx rfl (hb hby at_43) k) ?_
            by_cases c12 : cc = (12 : Int32)
            · skip
              show Go p e s below room_1.cells room_1.slots (Q0 h0 n0) T (mkF m 45 #[.val (.int p1), .val (.int p2), .val (.int cc), .unset] [(.int (12 : Int32)), (.int cc)])
              refine Go.st (fun _ k => XS.icmpYes X.here hx rfl (pc0 := 45) (pc' := 52) rfl (hb hby at_45) rfl (teq c12).1 (by decide) (by decide) k) ?_
              show Go p e s below room_1.cells room_1.slots (Q0 h0 n0) T (mkF m 52 #[.val (.int p1), .val (.int p2), .val (.int cc), .unset] [])
              refine Go.st (fun _ k => XS.iconst X.here hx rfl (hb hby at_52) k) ?_
              exact join2 _ (own_bl0 (by subst c12; decide))
            · skip
              show Go p e s below room_1.cells room_1.slots (Q0 h0 n0) T (mkF m 45 #[.val (.int p1), .val (.int p2), .val (.int cc), .unset] [(.int (12 : Int32)), (.int cc)])
              refine Go.st (fun _ k => XS.icmpNo X.here hx rfl (hb hby at_45) rfl (feq c12).1 k) ?_
              show Go p e s below room_1.cells room_1.slots (Q0 h0 n0) T (mkF m 48 #[.val (.int p1), .val (.int p2), .val (.int cc), .unset] [])
              refine Go.st (fun _ k => XS.iconst X.here hx rfl (hb hby at_48) k) ?_
              show Go p e s below room_1.cells room_1.slots (Q0 h0 n0) T (mkF m 49 #[.val (.int p1), .val (.int p2), .val (.int cc), .unset] [(.int (1 : Int32))])
              refine Go.st (fun _ k => XS.goto X.here hx rfl (pc0 := 49) (pc' := 53) rfl (hb hby at_49) (by decide) (by decide) k) ?_
              exact join2 _ (own_mid c9 c13 c11 c12)
  show Go p e s below room_1.cells room_1.slots (Q0 h0 n0) s₁ (mkF m 0 #[.val (.int p1), .val (.int p2), .unset, .unset] [])
  refine Go.st (fun _ k => XS.iloadN X0.here hx rfl (hb hby at_0) rfl k) ?_
  show Go p e s below room_1.cells room_1.slots (Q0 h0 n0) s₁ (mkF m 1 #[.val (.int p1), .val (.int p2), .unset, .unset] [(.int p2)])
  refine Go.st (fun _ k => XS.iconst X0.here hx rfl (hb hby at_1) k) ?_
  show Go p e s below room_1.cells room_1.slots (Q0 h0 n0) s₁ (mkF m 2 #[.val (.int p1), .val (.int p2), .unset, .unset] [(.int (1 : Int32)), (.int p2)])
  refine Go.st (fun _ k => XS.iand X0.here hx rfl (hb hby at_2) rfl k) ?_
  by_cases hk : (p2 &&& (1 : Int32)) = (0 : Int32)
  · skip
    show Go p e s below room_1.cells room_1.slots (Q0 h0 n0) s₁ (mkF m 3 #[.val (.int p1), .val (.int p2), .unset, .unset] [(.int (p2 &&& (1 : Int32)))])
    refine Go.st (fun _ k => XS.ifNo X0.here hx rfl (hb hby at_3) rfl ((if0 _ _).trans (teq hk).2) k) ?_
    show Go p e s below room_1.cells room_1.slots (Q0 h0 n0) s₁ (mkF m 6 #[.val (.int p1), .val (.int p2), .unset, .unset] [])
    refine Go.st (fun _ k => XS.iloadN X0.here hx rfl (hb hby at_6) rfl k) ?_
    show Go p e s below room_1.cells room_1.slots (Q0 h0 n0) s₁ (mkF m 7 #[.val (.int p1), .val (.int p2), .unset, .unset] [(.int p1)])
    refine Go.st (fun _ k => XS.goto X0.here hx rfl (pc0 := 7) (pc' := 17) rfl (hb hby at_7) (by decide) (by decide) k) ?_
    exact join s₁ [] 0 0 X0 N0 (by decide) (by decide) (by rw [e0]; exact Z0) p1
  · skip
    show Go p e s below room_1.cells room_1.slots (Q0 h0 n0) s₁ (mkF m 3 #[.val (.int p1), .val (.int p2), .unset, .unset] [(.int (p2 &&& (1 : Int32)))])
    refine Go.st (fun _ k => XS.ifYes X0.here hx rfl (pc0 := 3) (pc' := 10) rfl (hb hby at_3) rfl ((if0 _ _).trans (feq hk).2) (by decide) (by decide) k) ?_
    show Go p e s below room_1.cells room_1.slots (Q0 h0 n0) s₁ (mkF m 10 #[.val (.int p1), .val (.int p2), .unset, .unset] [])
    refine Go.st (fun _ k => XS.iloadN X0.here hx rfl (hb hby at_10) rfl k) ?_
    show Go p e s below room_1.cells room_1.slots (Q0 h0 n0) s₁ (mkF m 11 #[.val (.int p1), .val (.int p2), .unset, .unset] [(.int p1)])
    refine Go.st (fun _ k => XS.bipush X0.here hx rfl (hb hby at_11) k) ?_
    show Go p e s below room_1.cells room_1.slots (Q0 h0 n0) s₁ (mkF m 13 #[.val (.int p1), .val (.int p2), .unset, .unset] [(.int (15 : Int32)), (.int p1)])
    refine Go.st (fun _ k => XS.iand X0.here hx rfl (hb hby at_13) rfl k) ?_
    show Go p e s below room_1.cells room_1.slots (Q0 h0 n0) s₁ (mkF m 14 #[.val (.int p1), .val (.int p2), .unset, .unset] [(.int (p1 &&& (15 : Int32)))])
    obtain ⟨_, _, ⟨T19, L19, k19, n19⟩, -, X19, ⟨Lc19, hQ19, l19, y19, z19⟩, st19⟩ := Jvm.LawKit.callS X0 hx (y := (⟨"com/example/eccenter/eccenter/io/TextInputIsBlankPinLaw", "pick", "(I)I"⟩ : MethodName)) hown (mvT hZ (hw _ (List.mem_of_getElem? (i := 0) rfl))) (mvT hZ (hw _ (List.mem_of_getElem? (i := 1) rfl))) (mvT hZ (hw _ (List.mem_of_getElem? (i := 2) rfl))) (mvT hZ (hw _ (List.mem_of_getElem? (i := 3) rfl))) (by decide) (backOf (W := 0) (rm1 l Z a0 hw [] (p1 &&& (15 : Int32)) h0 n0 Z0 (own_and15 p1).1 (own_and15 p1).2) hZ (hw _ (List.mem_of_getElem? (i := 3) rfl)) (hw _ (List.mem_of_getElem? (i := 2) rfl)) (by decide) (by decide)) (g := (mkF m 14 #[.val (.int p1), .val (.int p2), .unset, .unset] [(.int (p1 &&& (15 : Int32)))])) rfl (by rw [hml]; rfl) (argsL := [(.int (p1 &&& (15 : Int32)))]) (rest := []) (lenOf pd_0 rfl) rfl (by show 2 * 0 + _ ≤ _; exact Nat.le_of_eq rfl) (hb hby at_14) (fun _ _ => ⟨rfl, e0, (by decide : 0 + 1 ≤ _), (by decide : 0 + 16 ≤ _)⟩)
    dsimp only [Pt.U, Pt.locs, Pt.cells, Pt.slots] at X19 l19 y19 z19 st19 hQ19
    subst l19 y19 z19
    obtain ⟨zz, rfl, hN19, hz1⟩ := hQ19
    have N19 := Fr.app N0 hN19
    refine Go.st st19 ?_
    show Go p e s below room_1.cells room_1.slots (Q0 h0 n0) T19 (mkF m 17 #[.val (.int p1), .val (.int p2), .unset, .unset] [(.int zz)])
    exact join _ _ _ _ X19 N19 (by decide) (by decide) hz1 zz
set_option maxRecDepth 65536 in
set_option maxHeartbeats 40000000 in
theorem comes_1 {Post : Tables → Env → Array Value → State → Outcome → State → Prop} (hpost : ∀ tb e args s v u, (limb_1_1.after args s (.returned v) u = true ∧ limb_1_2.after args s (.returned v) u = true ∧ True) → FrameEnd s (.returned v) u (Jvm.fieldLocs frame_1_writes args s ++ Jvm.arrayLocs frame_1_arrays args s ++ Jvm.staticLocs frame_1_statics s) 16 128 → Post tb e args s (.returned v) u) :
    ArmFor flags0 classFile x code maxLocals ret World_1 tables_1 room_1 Calls_1 rest_1 Pre_1 Post := by
  intro l hfl _ _ p e ha hc hk s m args below hf hA hF happ hP
  obtain ⟨hcalls, hrest, hpre⟩ := hP
  obtain ⟨-, -, -, hnamed, -, -, -, hat⟩ := (Spec.applies_iff hf).mp happ
  obtain ⟨hg, hn⟩ := and_e (Cond.before_iff.mp (show (Jvm.Cond.and given_1 narrow_1).before args s = true from hpre))
  obtain ⟨hcnt, hk0⟩ := and_e hg
  obtain ⟨ha0, hk1⟩ := and_e hk0
  obtain ⟨w0, w1, rfl⟩ : ∃ w0 w1 : Value, args = #[w0, w1] := by
    have hs : args.size = 2 := by simpa [Cond.value, given_1] using hcnt
    obtain ⟨L⟩ := args
    match L, hs with
    | [w0, w1], _ => exact ⟨w0, w1, rfl⟩
  have hw := fun d (hd : d ∈ tables_1) => atoms_spec (ws := Jvm.Cond.code x code maxLocals ret :: tables_1) hat d (List.mem_cons_of_mem _ hd)
  obtain ⟨i0, ei0⟩ := is_v ha0
  obtain rfl : w0 = (.int i0) := Option.some.inj ei0
  obtain ⟨i1, ei1⟩ := is_v hk1
  obtain rfl : w1 = (.int i1) := Option.some.inj ei1
  obtain ⟨n, o, h1, h2, h3, _, L, rfl, ⟨rfl, N⟩, hq⟩ := rm0 l s _ hw tables_1 i0 i1 s.heap s.heap.size (Nat.le_refl _) p e ha hc hk s m _ below hf ((Spec.applies_iff_loose hf).mp happ).1 ⟨rfl, State.Warmed39.refl s, rfl⟩ trivial
  refine ⟨n, _, h1, h2, h3, hpost _ _ _ _ _ _ ⟨Cond.after_iff.mpr rfl, Cond.after_iff.mpr (eq_i res_at (Term.int_eval (1)) rfl), trivial⟩ ⟨hq.1, hq.2.1, (hq.2.2.sift fun y hy => Or.inr (N y hy)).mono (by decide) (by decide)⟩⟩
theorem main_1_1 : Claimed_1_1 := comes_1 fun _ _ _ _ _ _ h hF => ⟨h.1, hF⟩
theorem main_1_2 : Claimed_1_2 := comes_1 fun _ _ _ _ _ _ h hF => ⟨h.2.1, hF⟩
end Jvm.Pilot.@@N@@
namespace Jvm.Pilot.@@N@@
open Jvm Jvm.ClassFile Sem Op Lib Jvm.Free Jvm.Stand Jvm.Pilot.@@N@@.Jvm.D
/-! MADE BY PROGRAM (witnessworld.py) out of the Statement's table words and the real class files: 10 classes; the members and pool entries that the words name. The judged class is class 1, her method 1. -/
namespace start1
open Jvm.ClassFile
def u (s : String) : CpInfo := .utf8 (stringToUtf16 s)
/-- a pool by its gaps: so many unusable entries, then the entry; so many at the end -/
def gap : Nat → List CpInfo → List CpInfo
  | 0, r => r
  | n + 1, r => .unusable :: gap n r
def poolList (es : List (Nat × CpInfo)) (last : Nat) : List CpInfo := es.foldr (fun e r => gap e.1 (e.2 :: r)) (gap last [])
def pool (es : List (Nat × CpInfo)) (last : Nat) : Array CpInfo := ⟨poolList es last⟩
def fileOf (pool : Array CpInfo) (this : Nat) (attrs : Array Attribute := #[]) (ms : Array MethodInfo := #[]) (fl : Nat := 33) (sup : Nat := 0) (ifs : Array Nat := #[]) (fds : Array FieldInfo := #[]) : ClassFile where
  minorVersion := 0
  majorVersion := 65
  constantPool := pool
  accessFlags := fl
  thisClass := this
  superClass := sup
  interfaces := ifs
  fields := fds
  methods := ms
  attributes := attrs
def plain (name : String) (sup : Option ClassId) : Class where
  name := name
  kind := .ordinary
  loader := none
  accessFlags := 33
  super := sup
  interfaces := #[]
  cf := none
  fields := #[]
  methods := #[]
  instanceTypes := #[]
  staticTypes := #[]
  resolved := #[]
  callSites := []
  init := .initialized
  statics := none
  mirror := none

def pool0 : Array CpInfo := pool [(5, u "<init>"), (0, u "()V"), (1, .class_ 10), (1, u "java/lang/Object")] 113

def k0m0 : Method := { name := "<init>", desc := "()V", sig := { parameters := [], returnType := none }, accessFlags := 1, code := none }
/-- java/lang/Object -/
def k0 : Class := { plain "java/lang/Object" none with
  accessFlags := 33
  interfaces := #[]
  cf := some (fileOf pool0 8 #[] #[{ accessFlags := 1, nameIndex := 5, descriptorIndex := 6, attributes := #[] }] 33 0 #[] #[])
  fields := #[]
  methods := #[k0m0]
  instanceTypes := #[]
  staticTypes := #[]
  resolved := Array.replicate 124 none
  statics := none }

def pool1 : Array CpInfo := pool [(2, .class_ 4), (1, u "java/lang/Object"), (0, u "<init>"), (0, u "()V"), (0, .methodref 8 9), (0, .class_ 10), (0, .nameAndType 11 12), (0, u "com/example/eccenter/eccenter/io/TextInputIsBlankPinLaw"), (0, u "pick"), (0, u "(I)I"), (0, .methodref 14 15), (0, .class_ 16), (0, .nameAndType 17 18), (0, u "com/example/eccenter/eccenter/io/TextInput"), (0, u "isBlank"), (0, u "(I)Z"), (0, .integer 65568), (2, .integer 2147483648), (2, u "law"), (0, u "(II)Z")] 3

def k1m0 : Method := { name := "<init>", desc := "()V", sig := { parameters := [], returnType := none }, accessFlags := 2, code := none }
def k1c1 : Code := { maxStack := 2, maxLocals := 4, code := code, exceptionTable := #[], attributes := #[] }
def k1m1 : Method := { name := "law", desc := "(II)Z", sig := { parameters := [.int, .int], returnType := some .boolean }, accessFlags := 9, code := some k1c1 }
def k1c2 : Code := { maxStack := 4, maxLocals := 2, code := method_3_code, exceptionTable := #[], attributes := #[] }
def k1m2 : Method := { name := "pick", desc := "(I)I", sig := { parameters := [.int], returnType := some .int }, accessFlags := 10, code := some k1c2 }
/-- com/example/eccenter/eccenter/io/TextInputIsBlankPinLaw -/
def k1 : Class := { plain "com/example/eccenter/eccenter/io/TextInputIsBlankPinLaw" (some 0) with
  accessFlags := 49
  interfaces := #[]
  cf := some (fileOf pool1 8 #[] #[{ accessFlags := 2, nameIndex := 5, descriptorIndex := 6, attributes := #[] }, { accessFlags := 9, nameIndex := 25, descriptorIndex := 26, attributes := #[] }, { accessFlags := 10, nameIndex := 11, descriptorIndex := 12, attributes := #[] }] 49 2 #[] #[])
  fields := #[]
  methods := #[k1m0, k1m1, k1m2]
  instanceTypes := #[]
  staticTypes := #[]
  resolved := Array.replicate 30 none
  statics := none }

def pool2 : Array CpInfo := pool [(2, .class_ 4), (1, u "java/lang/Object"), (0, u "<init>"), (0, u "()V"), (0, .class_ 8), (0, u "java/lang/Record")] 13

def k2m0 : Method := { name := "<init>", desc := "()V", sig := { parameters := [], returnType := none }, accessFlags := 4, code := none }
/-- java/lang/Record -/
def k2 : Class := { plain "java/lang/Record" (some 0) with
  accessFlags := 1057
  interfaces := #[]
  cf := some (fileOf pool2 7 #[] #[{ accessFlags := 4, nameIndex := 5, descriptorIndex := 6, attributes := #[] }] 1057 2 #[] #[])
  fields := #[]
  methods := #[k2m0]
  instanceTypes := #[]
  staticTypes := #[]
  resolved := Array.replicate 22 none
  statics := none }

def pool3 : Array CpInfo := pool [(2, .class_ 4), (1, u "java/lang/Record"), (3, .class_ 10), (1, u "com/example/eccenter/eccenter/io/TextInput"), (0, u "file"), (0, u "Ljava/lang/String;"), (2, u "text"), (107, u "isBlank"), (0, u "(I)Z")] 47

def k3c0 : Code := { maxStack := 2, maxLocals := 1, code := prog_44_method_5_code, exceptionTable := #[], attributes := #[] }
def k3m0 : Method := { name := "isBlank", desc := "(I)Z", sig := { parameters := [.int], returnType := some .boolean }, accessFlags := 8, code := some k3c0 }
/-- com/example/eccenter/eccenter/io/TextInput -/
def k3 : Class := { plain "com/example/eccenter/eccenter/io/TextInput" (some 2) with
  accessFlags := 48
  interfaces := #[]
  cf := some (fileOf pool3 8 #[] #[{ accessFlags := 8, nameIndex := 123, descriptorIndex := 124, attributes := #[] }] 48 2 #[] #[{ accessFlags := 18, nameIndex := 11, descriptorIndex := 12, attributes := #[] }, { accessFlags := 18, nameIndex := 15, descriptorIndex := 12, attributes := #[] }])
  fields := #[{ name := "file", type := (.object "java/lang/String"), accessFlags := 18, slot := 0, constantValue := 0 }, { name := "text", type := (.object "java/lang/String"), accessFlags := 18, slot := 1, constantValue := 0 }]
  methods := #[k3m0]
  instanceTypes := #[(.object "java/lang/String"), (.object "java/lang/String")]
  staticTypes := #[]
  resolved := Array.replicate 172 none
  statics := none }

def pool4 : Array CpInfo := pool [(1, u "java/lang/Cloneable"), (0, .class_ 1), (0, u "java/lang/Object"), (0, .class_ 3)] 3

/-- java/lang/Cloneable -/
def k4 : Class := { plain "java/lang/Cloneable" (some 0) with
  accessFlags := 1537
  interfaces := #[]
  cf := some (fileOf pool4 2 #[] #[] 1537 4 #[] #[])
  fields := #[]
  methods := #[]
  instanceTypes := #[]
  staticTypes := #[]
  resolved := Array.replicate 8 none
  statics := none }

def pool5 : Array CpInfo := pool [(1, u "java/io/Serializable"), (0, .class_ 1), (0, u "java/lang/Object"), (0, .class_ 3)] 3

/-- java/io/Serializable -/
def k5 : Class := { plain "java/io/Serializable" (some 0) with
  accessFlags := 1537
  interfaces := #[]
  cf := some (fileOf pool5 2 #[] #[] 1537 4 #[] #[])
  fields := #[]
  methods := #[]
  instanceTypes := #[]
  staticTypes := #[]
  resolved := Array.replicate 8 none
  statics := none }

/-- the primitive byte -/
def k6 : Class := { plain "byte" none with kind := .primitive 'B', accessFlags := 0x411 }
/-- [B -/
def k7 : Class := { plain "[B" (some 0) with kind := .array 6 .byte, interfaces := #[4, 5], accessFlags := 1041 }

/-- the primitive int -/
def k8 : Class := { plain "int" none with kind := .primitive 'I', accessFlags := 0x411 }
/-- [I -/
def k9 : Class := { plain "[I" (some 0) with kind := .array 8 .int, interfaces := #[4, 5], accessFlags := 1041 }

def heap : Heap := #[]
def classes : Array Class := #[k0, k1, k2, k3, k4, k5, k6, k7, k8, k9]
def interned : List (Array UInt16 × Addr) := []
def slotsUsed : Nat := 0
def theMethod : MethodId := ⟨1, 1⟩
def args0 : Array Value := #[.int 5, .int 2]
def aboutOver (below : List Frame) : State where
  vm := { classes := classes, interned := interned.toArray }
  heap := heap
  slotsUsed := slotsUsed
  threads := #[{ frames := .invoking theMethod args0 :: below }]
def below0 : List Frame := [.native { method := ⟨0, 0⟩, args := #[] }]
def about1 : State := aboutOver below0
def p0 : Program := .bare "" "" ""
def e0 : Env := launch0.env 0 0 0
theorem w_frames : about1.frames = Frame.invoking theMethod args0 :: below0 := rfl
set_option maxRecDepth 65536 in
theorem w_args : argsFit about1.vm theMethod args0 = true := by decide +kernel
set_option maxRecDepth 65536 in
theorem w_heap : heapFits about1 = true := by decide +kernel
set_option maxRecDepth 65536 in
theorem w_runnable : about1.curStatus? = some .runnable := by decide +kernel
set_option maxRecDepth 65536 in
theorem w_alone : about1.alone = true := by decide +kernel
set_option maxRecDepth 65536 in
theorem w_named : about1.methodNamed? x = some theMethod := by decide +kernel
set_option maxRecDepth 65536 in
theorem w_hears : about1.hears theMethod below0 = true := by decide +kernel
set_option maxRecDepth 65536 in
theorem w_ripe : about1.ripe theMethod args0 below0 = true := by decide +kernel
theorem w_running : about1.status = .running := rfl
set_option maxRecDepth 65536 in
theorem w_room : about1.hasRoom e0.platform room_1 = true :=
  launch0.hasRoom_least _ room_1 (by decide +kernel) (by decide +kernel) (by decide +kernel) (by decide +kernel) (by decide +kernel) (by decide +kernel)
theorem allAtoms_all (ts : List Jvm.Cond) (a : Array Jvm.Value) (st : Jvm.State) : (allAtoms ts).before a st = ts.all (fun c => c.before a st) := by
  induction ts with
  | nil => rfl
  | cons c t ih =>
    show (Jvm.Cond.and c (allAtoms t)).before a st = _
    rw [Jvm.Cond.before_and, ih, List.all_cons]
def words1 : List Jvm.Cond := Jvm.Cond.code x code maxLocals ret :: tables_1
/-- a 'code' word, met by the world's own term for the bytes: nothing is compared byte by byte -/
theorem code_word {y : MethodName} {bytes : ByteArray} {mx : Nat} {rt : Option FieldType} {a : Array Value} {s : State} {m : MethodId} {meth : Method} {c : Code} (h1 : s.methodNamed? y = some m) (h2 : s.vm.method? m = some meth) (h3 : meth.code = some c) (h4 : c.code = bytes)
    (h5 : (c.maxLocals == mx && c.exceptionTable.isEmpty && decide (c.maxStack ≤ mostOperands) && decide (meth.sig.returnType = rt) && !meth.locks && decide (parseMethodDescriptor y.desc = some meth.sig)) = true) : (Jvm.Cond.code y bytes mx rt).before a s = true := by
  simp only [Bool.and_eq_true, beq_iff_eq, Bool.not_eq_true', decide_eq_true_eq] at h5
  obtain ⟨⟨⟨⟨⟨g1, g2⟩, g3⟩, g4⟩, g5⟩, g6⟩ := h5
  simp [Cond.before, Cond.holds, Cond.value, h1, h2, h3, h4, g1, g2, g3, g4, g5, g6]
def isCode : Jvm.Cond → Bool
  | .code _ _ _ _ => true
  | _ => false
theorem all_split {L : List Jvm.Cond} {P : Jvm.Cond → Bool} (h1 : L.all (fun c => isCode c || P c) = true) (h2 : ∀ c ∈ L.filter isCode, P c = true) : L.all P = true := by
  refine List.all_eq_true.mpr fun c hc => ?_
  have h := List.all_eq_true.mp h1 c hc
  rcases Bool.eq_false_or_eq_true (isCode c) with hi | hi
  · exact h2 c (List.mem_filter.mpr ⟨hc, hi⟩)
  · simpa [hi] using h
set_option maxRecDepth 65536 in
theorem w_c0 : (Jvm.Cond.code x code maxLocals ret).before args0 about1 = true := code_word (m := ⟨1, 1⟩) (meth := k1m1) (c := k1c1) (by decide +kernel) rfl rfl rfl (by decide +kernel)
set_option maxRecDepth 65536 in
theorem w_c1 : (Jvm.Cond.code ({ cls := "com/example/eccenter/eccenter/io/TextInputIsBlankPinLaw", name := "pick", desc := "(I)I" } : Jvm.MethodName) method_3_code (2 : Nat) (Option.some Jvm.ClassFile.FieldType.int)).before args0 about1 = true := code_word (m := ⟨1, 2⟩) (meth := k1m2) (c := k1c2) (by decide +kernel) rfl rfl rfl (by decide +kernel)
set_option maxRecDepth 65536 in
theorem w_c2 : (Jvm.Cond.code ({ cls := "com/example/eccenter/eccenter/io/TextInput", name := "isBlank", desc := "(I)Z" } : Jvm.MethodName) prog_44_method_5_code (1 : Nat) (Option.some Jvm.ClassFile.FieldType.boolean)).before args0 about1 = true := code_word (m := ⟨3, 0⟩) (meth := k3m0) (c := k3c0) (by decide +kernel) rfl rfl rfl (by decide +kernel)
def codes1 : List Jvm.Cond := [Jvm.Cond.code x code maxLocals ret, Jvm.Cond.code ({ cls := "com/example/eccenter/eccenter/io/TextInputIsBlankPinLaw", name := "pick", desc := "(I)I" } : Jvm.MethodName) method_3_code (2 : Nat) (Option.some Jvm.ClassFile.FieldType.int), Jvm.Cond.code ({ cls := "com/example/eccenter/eccenter/io/TextInput", name := "isBlank", desc := "(I)Z" } : Jvm.MethodName) prog_44_method_5_code (1 : Nat) (Option.some Jvm.ClassFile.FieldType.boolean)]
set_option maxRecDepth 65536 in
theorem codes_eq : words1.filter isCode = codes1 := rfl
theorem w_codes : ∀ c ∈ words1.filter isCode, c.before args0 about1 = true := by
  rw [codes_eq]
  intro c hc
  simp only [codes1, List.mem_cons, List.not_mem_nil, or_false] at hc
  rcases hc with rfl | rfl | rfl
  · exact w_c0
  · exact w_c1
  · exact w_c2
set_option maxRecDepth 65536 in
theorem w_t1 : words1.all (fun c => isCode c || c.before args0 about1) = true := by decide +kernel
theorem w_tables : (allAtoms (Jvm.Cond.code x code maxLocals ret :: tables_1)).before args0 about1 = true := by
  rw [allAtoms_all]
  show words1.all (fun c => c.before args0 about1) = true
  refine all_split ?_ w_codes
  rw [w_t1]
set_option maxRecDepth 65536 in
theorem w_case : (Jvm.Cond.and given_1 narrow_1).before args0 about1 = true := by decide +kernel
theorem w_applies : (headSpec (Jvm.Cond.code x code maxLocals ret :: tables_1) room_1).applies x e0.platform about1 = true :=
  (Spec.applies_iff w_frames).mpr ⟨w_running, w_runnable, w_alone, w_named, w_hears, w_ripe, w_room, w_tables⟩
theorem atStart : AtStart classFile x code maxLocals ret World_1 tables_1 room_1 Calls_1 rest_1 Pre_1 launch0 p0 e0 about1 theMethod args0 below0 :=
  ⟨lists_1, trivial, launch0.admits_env _ _ _, launch0.least_env, fairChoices_fair.cas, fairChoices_fair.clock, w_frames, w_args, w_heap, w_applies, trivial, trivial, w_case⟩
end start1
theorem witness_1 : WitnessClaimed_1 := ⟨start1.p0, start1.e0, start1.about1, start1.theMethod, start1.args0, start1.below0, start1.atStart⟩
end Jvm.Pilot.@@N@@
