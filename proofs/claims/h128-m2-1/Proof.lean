import JvmDerived
import JvmDerived.Pilot.@@N@@Statement
import JvmDerived.Pilot.@@N@@Code
set_option linter.unusedVariables false
set_option linter.unusedSimpArgs false
@@BLOCK:NumsL.lean.txt@@
namespace Jvm.Pilot.@@N@@
open Jvm Jvm.ClassFile Sem Op Lib Jvm.Free Jvm.Stand Jvm.LawKit Jvm.RoadKit Bundle Jvm.Pilot.@@N@@.Jvm.D
/-! own kit: a walk's goal as one predicate, so that laws, branches and loops stand in the order of the run -/
def Go (p : Program) (e : Env) (s : State) (below : List Frame) (C S : Nat) (Q : Option Value → Heap → List Loc → Prop) (T : State) (g : JFrame) : Prop :=
  ∃ s₂ o, Steps p.tables e below (T.setTop g) s₂ ∧ s₂.status = .running ∧ Ended s₂ below o ∧ ∃ v L, o = .returned v ∧ Q v s₂.heap L ∧ FrameEnd s o s₂ L C S
section OwnKit
variable {p : Program} {l : Launch} {e : Env} {R : Room} {s : State} {m : MethodId} {args : Array Value} {below : List Frame} {meth : Method} {c : Code} {T T' : State} {locs : List Loc} {cells slots : Nat} {C S : Nat} {Q : Option Value → Heap → List Loc → Prop} {g g' : JFrame} {Z : State} {h h' : Heap} {a b : Addr}
theorem Go.st (k1 : ∀ t, Steps p.tables e below (T'.setTop g') t → Steps p.tables e below (T.setTop g) t) (k : Go p e s below C S Q T' g') : Go p e s below C S Q T g := by
  obtain ⟨s₂, o, h1, h2⟩ := k
  exact ⟨s₂, o, k1 _ h1, h2⟩
theorem Go.tr (k1 : Steps p.tables e below (T.setTop g) (T'.setTop g')) (k : Go p e s below C S Q T' g') : Go p e s below C S Q T g := by
  obtain ⟨s₂, o, h1, h2⟩ := k
  exact ⟨s₂, o, k1.trans h1, h2⟩
theorem Go.enter {gE : JFrame} (q : gE = g) (k : Go p e s below C S Q T g) : ∃ s₂ o, Steps p.tables e below (T.setTop gE) s₂ ∧ s₂.status = .running ∧ Ended s₂ below o ∧ ∃ v L, o = .returned v ∧ Q v s₂.heap L ∧ FrameEnd s o s₂ L C S := by
  subst q
  exact k
theorem Go.retO (X : Stand p l e R s m args below meth c T locs cells slots) (hx : p.tables.exec = Jvm.exec) (hlk : meth.locks = false) {pc : Nat} {Ls : Array Slot} {w : Value} {t : FieldType} {i : Instr} {rest : List Value} (hret : meth.sig.returnType = some t) (hn : narrow t w = w)
    (hi : (i = .ireturn ∧ (t = .int ∨ t = .boolean ∨ t = .byte ∨ t = .char ∨ t = .short) ∧ ∃ z, w = .int z) ∨ (i = .lreturn ∧ t = .long ∧ ∃ z, w = .long z) ∨ (i = .dreturn ∧ t = .double ∧ ∃ z, w = .double z) ∨ (i = .freturn ∧ t = .float ∧ ∃ z, w = .float z) ∨ (i = .areturn ∧ t.isReference = true ∧ w.isRef = true))
    (hd : decode c.code pc = .ok (i, 1)) (hc : cells ≤ C) (hs : slots ≤ S) (hQ : Q (some w) T.heap locs) : Go p e s below C S Q T (mkF m pc Ls (w :: rest)) := by
  obtain ⟨fs, hr, hrun, hended, hW, hsame⟩ := X.leave (v := some w) (fun q => by rw [hret] at q; cases q) hlk
  exact ⟨_, _, retOut X hx hret hn hi hd hr, hrun, hended, _, _, rfl, hQ, ⟨_, rfl⟩, hW, hsame.mono hc hs⟩
theorem Go.retI (X : Stand p l e R s m args below meth c T locs cells slots) (hx : p.tables.exec = Jvm.exec) (hlk : meth.locks = false) {pc : Nat} {Ls : Array Slot} {z : Int32} {rest : List Value} (hret : meth.sig.returnType = some .int)
    (hd : decode c.code pc = .ok (.ireturn, 1)) (hc : cells ≤ C) (hs : slots ≤ S) (hQ : Q (some (.int z)) T.heap locs) : Go p e s below C S Q T (mkF m pc Ls (.int z :: rest)) :=
  Go.retO X hx hlk hret rfl (Or.inl ⟨rfl, Or.inl rfl, _, rfl⟩) hd hc hs hQ
theorem Go.retJ (X : Stand p l e R s m args below meth c T locs cells slots) (hx : p.tables.exec = Jvm.exec) (hlk : meth.locks = false) {pc : Nat} {Ls : Array Slot} {z : Int64} {rest : List Value} (hret : meth.sig.returnType = some .long)
    (hd : decode c.code pc = .ok (.lreturn, 1)) (hc : cells ≤ C) (hs : slots ≤ S) (hQ : Q (some (.long z)) T.heap locs) : Go p e s below C S Q T (mkF m pc Ls (.long z :: rest)) :=
  Go.retO X hx hlk hret rfl (Or.inr (Or.inl ⟨rfl, rfl, _, rfl⟩)) hd hc hs hQ
theorem Go.retA (X : Stand p l e R s m args below meth c T locs cells slots) (hx : p.tables.exec = Jvm.exec) (hlk : meth.locks = false) {pc : Nat} {Ls : Array Slot} {z : Addr} {t : FieldType} {rest : List Value} (hret : meth.sig.returnType = some t) (ht : t.isReference = true)
    (hd : decode c.code pc = .ok (.areturn, 1)) (hc : cells ≤ C) (hs : slots ≤ S) (hQ : Q (some (.ref z)) T.heap locs) : Go p e s below C S Q T (mkF m pc Ls (.ref z :: rest)) :=
  Go.retO X hx hlk hret (by cases t <;> first | rfl | (simp [FieldType.isReference] at ht)) (Or.inr (Or.inr (Or.inr (Or.inr ⟨rfl, ht, rfl⟩)))) hd hc hs hQ
theorem Go.retN (X : Stand p l e R s m args below meth c T locs cells slots) (hx : p.tables.exec = Jvm.exec) (hlk : meth.locks = false) {pc : Nat} {Ls : Array Slot} {z : Int32} {t : FieldType} {rest : List Value} (hret : meth.sig.returnType = some t) (ht : t = .boolean ∨ t = .byte ∨ t = .char ∨ t = .short)
    (hd : decode c.code pc = .ok (.ireturn, 1)) (hc : cells ≤ C) (hs : slots ≤ S) (hQ : Q (some (.int (nar t z))) T.heap locs) : Go p e s below C S Q T (mkF m pc Ls (.int z :: rest)) := by
  obtain ⟨fs, hr, hrun, hended, hW, hsame⟩ := X.leave (v := some (.int (nar t z))) (fun q => by rw [hret] at q; cases q) hlk
  exact ⟨_, _, Jvm.RoadKit.retN X hx hret ht hd hr, hrun, hended, _, _, rfl, hQ, ⟨_, rfl⟩, hW, hsame.mono hc hs⟩
theorem Go.retV (X : Stand p l e R s m args below meth c T locs cells slots) (hx : p.tables.exec = Jvm.exec) (hlk : meth.locks = false) {pc : Nat} {Ls : Array Slot} (hret : meth.sig.returnType = none)
    (hd : decode c.code pc = .ok (.return_, 1)) (hc : cells ≤ C) (hs : slots ≤ S) (hQ : Q none T.heap locs) : Go p e s below C S Q T (mkF m pc Ls []) := by
  obtain ⟨fs, hr, hrun, hended, hW, hsame⟩ := X.leave (v := none) (fun _ => rfl) hlk
  exact ⟨_, _, X.returnOut hx hret hd hr, hrun, hended, _, _, rfl, hQ, ⟨_, rfl⟩, hW, hsame.mono hc hs⟩
/-! an array of ints (or bytes) by a function of its places -/
def AV (Z : State) (h : Heap) (a : Addr) (ty : FieldType) (n : Nat) (f : Nat → Int32) : Prop := ∃ c : Cell, Arr Z h a c ty ∧ c.slots.size = n ∧ n < 2147483648 ∧ ∀ j, j < n → c.slots[j]? = some (.int (f j))
variable {ty : FieldType} {n : Nat} {f : Nat → Int32}
theorem AV.lt (F : AV Z h a ty n f) : a < h.size := by obtain ⟨c, A, -⟩ := F; exact A.lt
theorem AV.small (F : AV Z h a ty n f) : n < 2147483648 := by obtain ⟨c, A, -, r, -⟩ := F; exact r
theorem AV.ext (F : AV Z h a ty n f) (E : Ext h h') : AV Z h' a ty n f := by obtain ⟨c, A, r⟩ := F; exact ⟨c, A.ext E, r⟩
theorem AV.other {sl : Nat} {v : Value} (F : AV Z h b ty n f) (W : Wr h h' a sl v) (q : b ≠ a) : AV Z h' b ty n f := by obtain ⟨c, A, r⟩ := F; exact ⟨c, A.other W q, r⟩
theorem AV.keep {ws : List Addr} (F : AV Z h a ty n f) (K : Keep h h' ws) (q : a ∉ ws) : AV Z h' a ty n f := by obtain ⟨c, A, r⟩ := F; exact ⟨c, ⟨K.2.1 a c A.1 q, A.2⟩, r⟩
theorem AV.congr {f' : Nat → Int32} (F : AV Z h a ty n f) (q : ∀ j, j < n → f j = f' j) : AV Z h a ty n f' := by
  obtain ⟨c, A, r1, r2, r3⟩ := F
  exact ⟨c, A, r1, r2, fun j hj => by rw [← q j hj]; exact r3 j hj⟩
theorem AV.new {k : ClassId} {z : Int32} (A : Arr Z h a (newA k ty z) ty) (hz : ¬ z < 0) (hd : defaultValue ty = .int 0) : AV Z h a ty z.toNatClampNeg (fun _ => 0) := by
  obtain ⟨c, A', -, S, -, H, -⟩ := Arv.new A hz
  refine ⟨c, A', S, ?_, fun j hj => ?_⟩
  · have h1 := z.toInt_lt
    have h2 : z.toNatClampNeg = z.toInt.toNat := rfl
    omega
  · have := H j (by omega)
    rw [this, hd]
    rfl
theorem AV.set {i : Nat} {x : Int32} (F : AV Z h a ty n f) (W : Wr h h' a i (.int x)) : AV Z h' a ty n (upd f i x) := by
  obtain ⟨c, A, r1, r2, r3⟩ := F
  refine ⟨_, A.same W, ?_, r2, fun j hj => ?_⟩
  · simp [Cell.setSlot, r1]
  · simp only [Cell.setSlot, upd]
    rw [Array.getElem?_setIfInBounds]
    by_cases q : i = j
    · subst q; simp [r1, hj]
    · simp [q, Ne.symm q, r3 j hj]
theorem AV.ldI (X : Stand p l e R s m args below meth c T locs cells slots) (hx : p.tables.exec = Jvm.exec) (hZ : Z.Warmed39 s.vm) (eT : T.heap = h) (F : AV Z h a .int n f) {j : Int32} {i : Nat} (hj : j.toNatClampNeg = i) (h0 : ¬ j < 0) (hi : i < n)
    {g : JFrame} (hg : g.method = m) {rest : List Value} (hs : g.stack = .int j :: .ref a :: rest) (hd : decode c.code g.pc = .ok (.iaload, 1)) : ∀ t, Steps p.tables e below (T.setTop { g with pc := g.pc + 1, stack := .int (f i) :: rest }) t → Steps p.tables e below (T.setTop g) t := by
  obtain ⟨cl, A, r1, r2, r3⟩ := F
  intro t k
  exact X.iaload hx (by rw [eT]; exact A.1) (State.isArrayOf_alike hZ.alike A.2.1) A.2.2 (by rw [r1, hj]; intro q; rcases q with q | q; exact h0 q; omega) (by rw [hj]; exact r3 i hi) hg hs hd _ k
theorem AV.ldB (X : Stand p l e R s m args below meth c T locs cells slots) (hx : p.tables.exec = Jvm.exec) (hZ : Z.Warmed39 s.vm) (eT : T.heap = h) (F : AV Z h a .byte n f) {j : Int32} {i : Nat} (hj : j.toNatClampNeg = i) (h0 : ¬ j < 0) (hi : i < n)
    {g : JFrame} (hg : g.method = m) {rest : List Value} (hs : g.stack = .int j :: .ref a :: rest) (hd : decode c.code g.pc = .ok (.baload, 1)) : ∀ t, Steps p.tables e below (T.setTop { g with pc := g.pc + 1, stack := .int (f i) :: rest }) t → Steps p.tables e below (T.setTop g) t := by
  obtain ⟨cl, A, r1, r2, r3⟩ := F
  intro t k
  exact X.baloadBytes hx (by rw [eT]; exact A.1) (State.isArrayOf_alike hZ.alike A.2.1) A.2.2 (by rw [r1, hj]; intro q; rcases q with q | q; exact h0 q; omega) (by rw [hj]; exact r3 i hi) hg hs hd _ k
theorem AV.stI (X : Stand p l e R s m args below meth c T locs cells slots) (hx : p.tables.exec = Jvm.exec) (hZ : Z.Warmed39 s.vm) (eT : T.heap = h) (F : AV Z h a .int n f) {j x : Int32} {i : Nat} (hj : j.toNatClampNeg = i) (h0 : ¬ j < 0) (hi : i < n)
    {g : JFrame} (hg : g.method = m) {rest : List Value} (hs : g.stack = .int x :: .int j :: .ref a :: rest) (hd : decode c.code g.pc = .ok (.iastore, 1)) :
    ∃ T' h', Stand p l e R s m args below meth c T' (locs ++ [⟨a, i⟩]) cells slots ∧ T'.heap = h' ∧ Wr h h' a i (.int x) ∧ AV Z h' a .int n (upd f i x) ∧ ∀ t, Steps p.tables e below (T'.setTop { g with pc := g.pc + 1, stack := rest }) t → Steps p.tables e below (T.setTop g) t := by
  have F' := F
  obtain ⟨cl, A, r1, r2, r3⟩ := F
  obtain ⟨T', h', X', e', W, st⟩ := Jvm.RoadKit.stI X hx hZ eT A (j := j) (x := x) (by rw [r1, hj]; intro q; rcases q with q | q; exact h0 q; omega) hg hs hd
  rw [hj] at X' W
  exact ⟨T', h', X', e', W, F'.set W, st⟩
theorem AV.stB (X : Stand p l e R s m args below meth c T locs cells slots) (hx : p.tables.exec = Jvm.exec) (hZ : Z.Warmed39 s.vm) (eT : T.heap = h) (F : AV Z h a .byte n f) {j x : Int32} {i : Nat} (hj : j.toNatClampNeg = i) (h0 : ¬ j < 0) (hi : i < n)
    {g : JFrame} (hg : g.method = m) {rest : List Value} (hs : g.stack = .int x :: .int j :: .ref a :: rest) (hd : decode c.code g.pc = .ok (.bastore, 1)) :
    ∃ T' h', Stand p l e R s m args below meth c T' (locs ++ [⟨a, i⟩]) cells slots ∧ T'.heap = h' ∧ Wr h h' a i (.int (nar .byte x)) ∧ AV Z h' a .byte n (upd f i (nar .byte x)) ∧ ∀ t, Steps p.tables e below (T'.setTop { g with pc := g.pc + 1, stack := rest }) t → Steps p.tables e below (T.setTop g) t := by
  have F' := F
  obtain ⟨cl, A, r1, r2, r3⟩ := F
  obtain ⟨T', h', X', e', W, st⟩ := Jvm.RoadKit.stB X hx hZ eT A (j := j) (x := x) (by rw [r1, hj]; intro q; rcases q with q | q; exact h0 q; omega) hg hs hd
  rw [hj] at X' W
  exact ⟨T', h', X', e', W, F'.set W, st⟩
theorem AV.len (X : Stand p l e R s m args below meth c T locs cells slots) (hx : p.tables.exec = Jvm.exec) (hZ : Z.Warmed39 s.vm) (eT : T.heap = h) (F : AV Z h a ty n f)
    {g : JFrame} (hg : g.method = m) {rest : List Value} (hs : g.stack = .ref a :: rest) (hd : decode c.code g.pc = .ok (.arraylength, 1)) : ∀ t, Steps p.tables e below (T.setTop { g with pc := g.pc + 1, stack := .int (Int32.ofNat n) :: rest }) t → Steps p.tables e below (T.setTop g) t := by
  obtain ⟨cl, A, r1, r2, r3⟩ := F
  subst r1
  intro t k
  exact X.arraylength hx (by rw [eT]; exact A.1) (State.isArrayOf_alike hZ.alike A.2.1) hg hs hd _ k
end OwnKit
theorem cl_eq {x y : Int64} (h : x = y) : ifCond.holds .eq (lcmpW x y) = true ∧ ifCond.holds .ne (lcmpW x y) = false := by
  have q := (lw_eq x y).mpr h
  exact ⟨(if0 _ _).trans (teq q).1, (if0 _ _).trans (teq q).2⟩
theorem cl_eqF {x y : Int64} (h : ¬ x = y) : ifCond.holds .eq (lcmpW x y) = false ∧ ifCond.holds .ne (lcmpW x y) = true := by
  have q := fun z => h ((lw_eq x y).mp z)
  exact ⟨(if0 _ _).trans (feq q).1, (if0 _ _).trans (feq q).2⟩
theorem cl_lt {x y : Int64} (h : x < y) : ifCond.holds .lt (lcmpW x y) = true ∧ ifCond.holds .ge (lcmpW x y) = false := by
  have q := (lw_lt x y).mpr h
  exact ⟨(if0 _ _).trans (tlt q).1, (if0 _ _).trans (tlt q).2.1⟩
theorem cl_ltF {x y : Int64} (h : ¬ x < y) : ifCond.holds .lt (lcmpW x y) = false ∧ ifCond.holds .ge (lcmpW x y) = true := by
  have q := fun z => h ((lw_lt x y).mp z)
  exact ⟨(if0 _ _).trans (flt q).1, (if0 _ _).trans (flt q).2.1⟩
theorem cl_gt {x y : Int64} (h : y < x) : ifCond.holds .gt (lcmpW x y) = true ∧ ifCond.holds .le (lcmpW x y) = false := by
  have q := (lw_gt x y).mpr h
  exact ⟨(if0 _ _).trans (tlt q).2.2.1, (if0 _ _).trans (tlt q).2.2.2⟩
theorem cl_gtF {x y : Int64} (h : ¬ y < x) : ifCond.holds .gt (lcmpW x y) = false ∧ ifCond.holds .le (lcmpW x y) = true := by
  have q := fun z => h ((lw_gt x y).mp z)
  exact ⟨(if0 _ _).trans (flt q).2.2.1, (if0 _ _).trans (flt q).2.2.2⟩
/-! small naturals as ints -/
theorem on_toInt {k : Nat} (h : k < 2147483648) : (Int32.ofNat k).toInt = (k : Int) := Int32.toInt_ofNat_of_lt h
theorem on_idx {k : Nat} (h : k < 2147483648) : (Int32.ofNat k).toNatClampNeg = k := by
  show (Int32.ofNat k).toInt.toNat = k
  rw [on_toInt h]; rfl
theorem on_nn {k : Nat} (h : k < 2147483648) : ¬ Int32.ofNat k < 0 := by
  rw [Int32.lt_iff_toInt_lt, on_toInt h]
  have : (0 : Int32).toInt = 0 := rfl
  omega
theorem on_lt {j k : Nat} (hj : j < 2147483648) (hk : k < 2147483648) : Int32.ofNat j < Int32.ofNat k ↔ j < k := by
  rw [Int32.lt_iff_toInt_lt, on_toInt hj, on_toInt hk]; omega
theorem on_inj {j k : Nat} (hj : j < 2147483648) (hk : k < 2147483648) : Int32.ofNat j = Int32.ofNat k ↔ j = k := by
  constructor
  · intro q
    have := congrArg Int32.toInt q
    rw [on_toInt hj, on_toInt hk] at this; omega
  · intro q; rw [q]
theorem on_add (j k : Nat) : Int32.ofNat j + Int32.ofNat k = Int32.ofNat (j + k) := (Int32.ofNat_add j k).symm
theorem on_succ (j : Nat) : Int32.ofNat j + (1 : Int32) = Int32.ofNat (j + 1) := on_add j 1
theorem on_sub {j k : Nat} (h : k ≤ j) : Int32.ofNat j - Int32.ofNat k = Int32.ofNat (j - k) := by
  have : Int32.ofNat j = Int32.ofNat (j - k) + Int32.ofNat k := by rw [on_add]; congr 1; omega
  rw [this]; simp
theorem on_sub1 {j : Nat} (h : 1 ≤ j) : Int32.ofNat j - (1 : Int32) = Int32.ofNat (j - 1) := on_sub (k := 1) h
/-! the wide kind: a body that may load a String constant for the first time -/
def GoW (Z : State) (EL : List (String × Nat)) (p : Program) (e : Env) (s : State) (below : List Frame) (C S : Nat) (Q : Option Value → Heap → List Loc → Prop) (T : State) (g : JFrame) : Prop :=
  ∃ s₂ o, Steps p.tables e below (T.setTop g) s₂ ∧ s₂.status = .running ∧ Ended s₂ below o ∧ ∃ v L, o = .returned v ∧ Q v s₂.heap L ∧ CHr Z EL s.vm s.heap s₂.vm s₂.heap ∧ ReturnedEndW s o s₂ L C S
section OwnKitW
variable {Z : State} {EL : List (String × Nat)} {p : Program} {l : Launch} {e : Env} {R : Room} {s : State} {m : MethodId} {args : Array Value} {below : List Frame} {meth : Method} {c : Code} {T T' : State} {locs : List Loc} {cells slots : Nat} {C S : Nat} {Q : Option Value → Heap → List Loc → Prop} {g g' : JFrame}
theorem GoW.st (k1 : ∀ t, Steps p.tables e below (T'.setTop g') t → Steps p.tables e below (T.setTop g) t) (k : GoW Z EL p e s below C S Q T' g') : GoW Z EL p e s below C S Q T g := by
  obtain ⟨s₂, o, h1, h2⟩ := k
  exact ⟨s₂, o, k1 _ h1, h2⟩
theorem GoW.tr (k1 : Steps p.tables e below (T.setTop g) (T'.setTop g')) (k : GoW Z EL p e s below C S Q T' g') : GoW Z EL p e s below C S Q T g := by
  obtain ⟨s₂, o, h1, h2⟩ := k
  exact ⟨s₂, o, k1.trans h1, h2⟩
theorem GoW.enter {gE : JFrame} (q : gE = g) (k : GoW Z EL p e s below C S Q T g) : ∃ s₂ o, Steps p.tables e below (T.setTop gE) s₂ ∧ s₂.status = .running ∧ Ended s₂ below o ∧ ∃ v L, o = .returned v ∧ Q v s₂.heap L ∧ CHr Z EL s.vm s.heap s₂.vm s₂.heap ∧ ReturnedEndW s o s₂ L C S := by
  subst q
  exact k
theorem GoW.retN {vm1 : Vm} (X : Stand p l e R (s.setVm vm1) m args below meth c T locs cells slots) (hx : p.tables.exec = Jvm.exec) (hlk : meth.locks = false) {n : Nat} (hS : s.Since vm1 n) (hn : n ≤ T.heap.size) (hC : CHr Z EL s.vm s.heap T.vm T.heap) {pc : Nat} {Ls : Array Slot} {z : Int32} {t : FieldType} {rest : List Value} (hret : meth.sig.returnType = some t) (ht : t = .boolean ∨ t = .byte ∨ t = .char ∨ t = .short)
    (hd : decode c.code pc = .ok (.ireturn, 1)) (hc : cells ≤ C) (hs : slots ≤ S) (hQ : Q (some (.int (nar t z))) T.heap locs) : GoW Z EL p e s below C S Q T (mkF m pc Ls (.int z :: rest)) := by
  obtain ⟨fs, hr, hrun, hended, hE1, hE2, hE3, hE4⟩ := X.leaveW hS hn (v := some (.int (nar t z))) (fun q => by rw [hret] at q; cases q) hlk
  exact ⟨_, _, Jvm.RoadKit.retN X hx hret ht hd hr, hrun, hended, _, _, rfl, hQ, hC, hE1, hE2, hE3, hE4.mono hc hs⟩
end OwnKitW
theorem AV.ofArv {Z : State} {h : Heap} {a : Addr} {k : ClassId} {ty : FieldType} {z : Int32} {vs : List Value} {d : Value} {n : Nat} {f : Nat → Int32} (F : Arv Z h a k ty z vs d) (hz : z.toNatClampNeg = n) (hn : n < 2147483648) (hf : ∀ j, j < n → vs.getD j d = .int (f j)) : AV Z h a ty n f := by
  obtain ⟨c, A, -, S, -, H, -⟩ := F
  exact ⟨c, A, by omega, hn, fun j hj => by rw [H j (by omega), hf j hj]⟩
def own_S (c : Int32) : Prop := c = 45 ∨ c = 46 ∨ c = 95 ∨ c = 126
instance (c : Int32) : Decidable (own_S c) := by unfold own_S; exact inferInstance
def own_lt (c : Int32) : Prop := (¬ c < 97 ∧ ¬ 122 < c) ∨ (¬ c < 65 ∧ ¬ 90 < c)
instance (c : Int32) : Decidable (own_lt c) := by unfold own_lt; exact inferInstance
def own_dg (c : Int32) : Prop := ¬ c < 48 ∧ ¬ 57 < c
instance (c : Int32) : Decidable (own_dg c) := by unfold own_dg; exact inferInstance
def own_b (P : Prop) [Decidable P] : Int32 := if P then 1 else 0
theorem own_b1 {P : Prop} [Decidable P] (h : P) : own_b P = 1 := if_pos h
theorem own_b0 {P : Prop} [Decidable P] (h : ¬ P) : own_b P = 0 := if_neg h
def own_u (c : Int32) : Int32 := own_b (own_lt c ∨ own_dg c ∨ own_S c)
def own_by (j : Nat) : Int32 := if j = 0 then 45 else if j = 1 then 46 else if j = 2 then 95 else 126
set_option maxRecDepth 65536 in
theorem own_128 : ∀ k, k < 128 → (((¬ (Int32.ofNat k ||| 32) < 97 ∧ ¬ 122 < (Int32.ofNat k ||| 32))) ↔ own_lt (Int32.ofNat k)) := by decide +kernel
theorem own_sub (c : Int32) (h1 : ¬ (c ||| 32) < 97) (h2 : ¬ 122 < (c ||| 32)) : ∃ k, k < 128 ∧ c = Int32.ofNat k := by
  have e : c.toBitVec.toNat ≤ (c ||| 32).toBitVec.toNat := by
    rw [Int32.toBitVec_or, BitVec.toNat_or]
    exact Nat.left_le_or
  rw [Int32.lt_iff_toInt_lt] at h1 h2
  have e97 : (97 : Int32).toInt = 97 := by decide +kernel
  have e122 : (122 : Int32).toInt = 122 := by decide +kernel
  have e3 : (c ||| 32).toInt = (c ||| 32).toBitVec.toInt := rfl
  have hlt := (c ||| 32).toBitVec.isLt
  rw [e3, BitVec.toInt_eq_toNat_cond] at h1 h2
  refine ⟨c.toBitVec.toNat, ?_, ?_⟩
  · split at h1 <;> omega
  · apply Int32.toBitVec_inj.mp
    show c.toBitVec = BitVec.ofNat 32 _
    simp
theorem own_fold (c : Int32) : (¬ (c ||| 32) < 97 ∧ ¬ 122 < (c ||| 32)) ↔ own_lt c := by
  constructor
  · intro h
    obtain ⟨k, hk, rfl⟩ := own_sub c h.1 h.2
    exact (own_128 k hk).mp h
  · intro h
    have h' := h
    simp only [own_lt, Int32.lt_iff_toInt_lt] at h
    have e97 : (97 : Int32).toInt = 97 := by decide +kernel
    have e122 : (122 : Int32).toInt = 122 := by decide +kernel
    have e65 : (65 : Int32).toInt = 65 := by decide +kernel
    have e90 : (90 : Int32).toInt = 90 := by decide +kernel
    obtain ⟨k, hk, rfl⟩ : ∃ k : Nat, k < 128 ∧ c = Int32.ofNat k := ⟨c.toInt.toNat, by omega, Int32.toInt_inj.mp (by rw [on_toInt (by omega)]; omega)⟩
    exact (own_128 k hk).mpr h'
theorem own_i2b {c : Int32} (h0 : ¬ c < 0) (h1 : ¬ 255 < c) : (c.toInt8.toInt32 = 45 ↔ c = 45) ∧ (c.toInt8.toInt32 = 46 ↔ c = 46) ∧ (c.toInt8.toInt32 = 95 ↔ c = 95) ∧ (c.toInt8.toInt32 = 126 ↔ c = 126) := by
  have key : ∀ k, k < 256 → ((Int32.ofNat k).toInt8.toInt32 = 45 ↔ Int32.ofNat k = 45) ∧ ((Int32.ofNat k).toInt8.toInt32 = 46 ↔ Int32.ofNat k = 46) ∧ ((Int32.ofNat k).toInt8.toInt32 = 95 ↔ Int32.ofNat k = 95) ∧ ((Int32.ofNat k).toInt8.toInt32 = 126 ↔ Int32.ofNat k = 126) := by decide +kernel
  rw [Int32.lt_iff_toInt_lt] at h0 h1
  have e0 : (0 : Int32).toInt = 0 := by decide +kernel
  have e255 : (255 : Int32).toInt = 255 := by decide +kernel
  obtain ⟨k, hk, rfl⟩ : ∃ k : Nat, k < 256 ∧ c = Int32.ofNat k := ⟨c.toInt.toNat, by omega, Int32.toInt_inj.mp (by rw [on_toInt (by omega)]; omega)⟩
  exact key k hk
theorem own_out {c : Int32} (h : c < 0 ∨ 255 < c) : ¬ own_S c := by
  rintro (rfl | rfl | rfl | rfl) <;> revert h <;> decide
def own_EL : List (String × Nat) := consts_1
theorem own_in : ∀ a ∈ Bundle.stringAtoms, a ∈ tables_1 := by
  intro a ha
  simp only [Bundle.stringAtoms, List.mem_cons, List.not_mem_nil, or_false] at ha
  rcases ha with rfl | rfl | rfl | rfl | rfl | rfl | rfl
  · exact List.mem_of_getElem? (i := 9) rfl
  · exact List.mem_of_getElem? (i := 10) rfl
  · exact List.mem_of_getElem? (i := 11) rfl
  · exact List.mem_of_getElem? (i := 12) rfl
  · exact List.mem_of_getElem? (i := 13) rfl
  · exact List.mem_of_getElem? (i := 14) rfl
  · exact List.mem_of_getElem? (i := 15) rfl
theorem own_hEL {Z : State} {a0 : Array Value} (hw : ∀ d ∈ tables_1, d.before a0 Z = true) : EW Z a0 own_EL := EW.cons (hw _ (List.mem_of_getElem? (i := 8) rfl)) (by decide) EW.nil
theorem own_no {c cb : Int32} (hib : (cb = 45 ↔ c = 45) ∧ (cb = 46 ↔ c = 46) ∧ (cb = 95 ↔ c = 95) ∧ (cb = 126 ↔ c = 126)) (h0 : ¬ own_by 0 = cb) (h1 : ¬ own_by 1 = cb) (h2 : ¬ own_by 2 = cb) (h3 : ¬ own_by 3 = cb) : ¬ own_S c := by
  rintro (q | q | q | q)
  · exact h0 (hib.1.mpr q).symm
  · exact h1 (hib.2.1.mpr q).symm
  · exact h2 (hib.2.2.1.mpr q).symm
  · exact h3 (hib.2.2.2.mpr q).symm
theorem ef_0 (m : MethodId) (x0 : Int32) (x1 : Int32) : entryFrame m #[(.int x0), (.int x1)] maxLocals = mkF m 0 #[.val (.int x0), .val (.int x1), .unset] [] := by first | (simp [entryFrame, mkF, argsToLocals, Value.category, maxLocals]; done) | rfl
theorem ef_1 (m : MethodId) (x0 : Int32) : entryFrame m #[(.int x0)] 1 = mkF m 0 #[.val (.int x0)] [] := by first | (simp [entryFrame, mkF, argsToLocals, Value.category]; done) | rfl
theorem ef_10 (m : MethodId) (x0 : Int32) (x1 : Int32) : entryFrame m #[(.int x0), (.int x1)] 2 = mkF m 0 #[.val (.int x0), .val (.int x1)] [] := by first | (simp [entryFrame, mkF, argsToLocals, Value.category]; done) | rfl
theorem ef_11 (m : MethodId) (x0 : Int32) (x1 : Int32) : entryFrame m #[(.int x0), (.int x1)] 2 = mkF m 0 #[.val (.int x0), .val (.int x1)] [] := by first | (simp [entryFrame, mkF, argsToLocals, Value.category]; done) | rfl
theorem ef_12 (m : MethodId) (x0 : Addr) (x1 : Int32) (x2 : Int32) (x3 : Int32) : entryFrame m #[(.ref x0), (.int x1), (.int x2), (.int x3)] 6 = mkF m 0 #[.val (.ref x0), .val (.int x1), .val (.int x2), .val (.int x3), .unset, .unset] [] := by first | (simp [entryFrame, mkF, argsToLocals, Value.category]; done) | rfl
theorem ef_13 (m : MethodId) (x0 : Int32) : entryFrame m #[(.int x0)] 5 = mkF m 0 #[.val (.int x0), .unset, .unset, .unset, .unset] [] := by first | (simp [entryFrame, mkF, argsToLocals, Value.category]; done) | rfl
theorem ef_2 (m : MethodId) (x0 : Int32) : entryFrame m #[(.int x0)] 1 = mkF m 0 #[.val (.int x0)] [] := by first | (simp [entryFrame, mkF, argsToLocals, Value.category]; done) | rfl
theorem ef_3 (m : MethodId) (x0 : Addr) (x1 : Int32) : entryFrame m #[(.ref x0), (.int x1)] 2 = mkF m 0 #[.val (.ref x0), .val (.int x1)] [] := by first | (simp [entryFrame, mkF, argsToLocals, Value.category]; done) | rfl
theorem ef_4 (m : MethodId) (x0 : Addr) (x1 : Int32) (x2 : Int32) : entryFrame m #[(.ref x0), (.int x1), (.int x2)] 3 = mkF m 0 #[.val (.ref x0), .val (.int x1), .val (.int x2)] [] := by first | (simp [entryFrame, mkF, argsToLocals, Value.category]; done) | rfl
theorem ef_5 (m : MethodId) (x0 : Addr) : entryFrame m #[(.ref x0)] 1 = mkF m 0 #[.val (.ref x0)] [] := by first | (simp [entryFrame, mkF, argsToLocals, Value.category]; done) | rfl
theorem ef_6 (m : MethodId) (x0 : Addr) : entryFrame m #[(.ref x0)] 1 = mkF m 0 #[.val (.ref x0)] [] := by first | (simp [entryFrame, mkF, argsToLocals, Value.category]; done) | rfl
theorem ef_7 (m : MethodId) (x0 : Addr) : entryFrame m #[(.ref x0)] 1 = mkF m 0 #[.val (.ref x0)] [] := by first | (simp [entryFrame, mkF, argsToLocals, Value.category]; done) | rfl
theorem ef_8 (m : MethodId) (x0 : Addr) (x1 : Int32) (x2 : Int32) (x3 : Int32) : entryFrame m #[(.ref x0), (.int x1), (.int x2), (.int x3)] 4 = mkF m 0 #[.val (.ref x0), .val (.int x1), .val (.int x2), .val (.int x3)] [] := by first | (simp [entryFrame, mkF, argsToLocals, Value.category]; done) | rfl
theorem ef_9 (m : MethodId) (x0 : Int32) : entryFrame m #[(.int x0)] 1 = mkF m 0 #[.val (.int x0)] [] := by first | (simp [entryFrame, mkF, argsToLocals, Value.category]; done) | rfl
theorem pd_0 : parseMethodDescriptor "()B" = some ⟨[], some .byte⟩ := by decide +kernel
theorem pd_1 : parseMethodDescriptor "()I" = some ⟨[], some .int⟩ := by decide +kernel
theorem pd_2 : parseMethodDescriptor "()Z" = some ⟨[], some .boolean⟩ := by decide +kernel
theorem pd_3 : parseMethodDescriptor "(I)I" = some ⟨[.int], some .int⟩ := by decide +kernel
theorem pd_4 : parseMethodDescriptor "(I)Z" = some ⟨[.int], some .boolean⟩ := by decide +kernel
theorem pd_5 : parseMethodDescriptor "(II)I" = some ⟨[.int, .int], some .int⟩ := by decide +kernel
theorem pd_6 : parseMethodDescriptor "([BIII)I" = some ⟨[(.array .byte), .int, .int, .int], some .int⟩ := by decide +kernel
theorem pn_com_example_portcullis_portcullis_PercentEncoding : plainName "com/example/portcullis/portcullis/PercentEncoding" = true := by first | (simp [plainName, overriddenIn]; done) | decide +kernel
theorem pn_com_example_portcullis_portcullis_PercentEncodingIsUnreservedPinLaw : plainName "com/example/portcullis/portcullis/PercentEncodingIsUnreservedPinLaw" = true := by first | (simp [plainName, overriddenIn]; done) | decide +kernel
theorem pn_java_lang_String : plainName "java/lang/String" = true := by first | (simp [plainName, overriddenIn]; done) | decide +kernel
theorem pn_java_lang_StringLatin1 : plainName "java/lang/StringLatin1" = true := by first | (simp [plainName, overriddenIn]; done) | decide +kernel
theorem d1_0 : decode method_3_code 0 = .ok (.iload_n 0, 1) := by decide +kernel
theorem d1_1 : decode method_3_code 1 = .ok (.invokestatic 7, 3) := by decide +kernel
theorem d1_11 : decode method_3_code 11 = .ok (.iconst 1, 1) := by decide +kernel
theorem d1_12 : decode method_3_code 12 = .ok (.goto 4, 3) := by decide +kernel
theorem d1_16 : decode method_3_code 16 = .ok (.ireturn, 1) := by decide +kernel
theorem d1_4 : decode method_3_code 4 = .ok (.iload_n 0, 1) := by decide +kernel
theorem d1_5 : decode method_3_code 5 = .ok (.invokestatic 13, 3) := by decide +kernel
theorem d1_8 : decode method_3_code 8 = .ok (.if_icmp .ne 7, 3) := by decide +kernel
theorem d10_0 : decode jdk_29_method_65_code 0 = .ok (.iload_n 0, 1) := by decide +kernel
theorem d10_1 : decode jdk_29_method_65_code 1 = .ok (.iload_n 1, 1) := by decide +kernel
theorem d10_10 : decode jdk_29_method_65_code 10 = .ok (.ireturn, 1) := by decide +kernel
theorem d10_2 : decode jdk_29_method_65_code 2 = .ok (.if_icmp .lt 7, 3) := by decide +kernel
theorem d10_5 : decode jdk_29_method_65_code 5 = .ok (.iload_n 0, 1) := by decide +kernel
theorem d10_6 : decode jdk_29_method_65_code 6 = .ok (.goto 4, 3) := by decide +kernel
theorem d10_9 : decode jdk_29_method_65_code 9 = .ok (.iload_n 1, 1) := by decide +kernel
theorem d11_0 : decode jdk_29_method_69_code 0 = .ok (.iload_n 0, 1) := by decide +kernel
theorem d11_1 : decode jdk_29_method_69_code 1 = .ok (.iload_n 1, 1) := by decide +kernel
theorem d11_10 : decode jdk_29_method_69_code 10 = .ok (.ireturn, 1) := by decide +kernel
theorem d11_2 : decode jdk_29_method_69_code 2 = .ok (.if_icmp .gt 7, 3) := by decide +kernel
theorem d11_5 : decode jdk_29_method_69_code 5 = .ok (.iload_n 0, 1) := by decide +kernel
theorem d11_6 : decode jdk_29_method_69_code 6 = .ok (.goto 4, 3) := by decide +kernel
theorem d11_9 : decode jdk_29_method_69_code 9 = .ok (.iload_n 1, 1) := by decide +kernel
theorem d12_0 : decode jdk_43_method_23_code 0 = .ok (.iload_n 1, 1) := by decide +kernel
theorem d12_1 : decode jdk_43_method_23_code 1 = .ok (.i2b, 1) := by decide +kernel
theorem d12_10 : decode jdk_43_method_23_code 10 = .ok (.if_icmp .ge 21, 3) := by decide +kernel
theorem d12_13 : decode jdk_43_method_23_code 13 = .ok (.aload_n 0, 1) := by decide +kernel
theorem d12_14 : decode jdk_43_method_23_code 14 = .ok (.iload 5, 2) := by decide +kernel
theorem d12_16 : decode jdk_43_method_23_code 16 = .ok (.baload, 1) := by decide +kernel
theorem d12_17 : decode jdk_43_method_23_code 17 = .ok (.iload 4, 2) := by decide +kernel
theorem d12_19 : decode jdk_43_method_23_code 19 = .ok (.if_icmp .ne 6, 3) := by decide +kernel
theorem d12_2 : decode jdk_43_method_23_code 2 = .ok (.istore 4, 2) := by decide +kernel
theorem d12_22 : decode jdk_43_method_23_code 22 = .ok (.iload 5, 2) := by decide +kernel
theorem d12_24 : decode jdk_43_method_23_code 24 = .ok (.ireturn, 1) := by decide +kernel
theorem d12_25 : decode jdk_43_method_23_code 25 = .ok (.iinc 5 1, 3) := by decide +kernel
theorem d12_28 : decode jdk_43_method_23_code 28 = .ok (.goto (-21), 3) := by decide +kernel
theorem d12_31 : decode jdk_43_method_23_code 31 = .ok (.iconst (-1), 1) := by decide +kernel
theorem d12_32 : decode jdk_43_method_23_code 32 = .ok (.ireturn, 1) := by decide +kernel
theorem d12_4 : decode jdk_43_method_23_code 4 = .ok (.iload_n 2, 1) := by decide +kernel
theorem d12_5 : decode jdk_43_method_23_code 5 = .ok (.istore 5, 2) := by decide +kernel
theorem d12_7 : decode jdk_43_method_23_code 7 = .ok (.iload 5, 2) := by decide +kernel
theorem d12_9 : decode jdk_43_method_23_code 9 = .ok (.iload_n 3, 1) := by decide +kernel
theorem d13_0 : decode method_2_code 0 = .ok (.iload_n 0, 1) := by decide +kernel
theorem d13_1 : decode method_2_code 1 = .ok (.bipush 32, 2) := by decide +kernel
theorem d13_11 : decode method_2_code 11 = .ok (.iload_n 1, 1) := by decide +kernel
theorem d13_12 : decode method_2_code 12 = .ok (.bipush 122, 2) := by decide +kernel
theorem d13_14 : decode method_2_code 14 = .ok (.if_icmp .gt 7, 3) := by decide +kernel
theorem d13_17 : decode method_2_code 17 = .ok (.iconst 1, 1) := by decide +kernel
theorem d13_18 : decode method_2_code 18 = .ok (.goto 4, 3) := by decide +kernel
theorem d13_21 : decode method_2_code 21 = .ok (.iconst 0, 1) := by decide +kernel
theorem d13_22 : decode method_2_code 22 = .ok (.istore_n 2, 1) := by decide +kernel
theorem d13_23 : decode method_2_code 23 = .ok (.iload_n 0, 1) := by decide +kernel
theorem d13_24 : decode method_2_code 24 = .ok (.bipush 48, 2) := by decide +kernel
theorem d13_26 : decode method_2_code 26 = .ok (.if_icmp .lt 13, 3) := by decide +kernel
theorem d13_29 : decode method_2_code 29 = .ok (.iload_n 0, 1) := by decide +kernel
theorem d13_3 : decode method_2_code 3 = .ok (.ior, 1) := by decide +kernel
theorem d13_30 : decode method_2_code 30 = .ok (.bipush 57, 2) := by decide +kernel
theorem d13_32 : decode method_2_code 32 = .ok (.if_icmp .gt 7, 3) := by decide +kernel
theorem d13_35 : decode method_2_code 35 = .ok (.iconst 1, 1) := by decide +kernel
theorem d13_36 : decode method_2_code 36 = .ok (.goto 4, 3) := by decide +kernel
theorem d13_39 : decode method_2_code 39 = .ok (.iconst 0, 1) := by decide +kernel
theorem d13_4 : decode method_2_code 4 = .ok (.istore_n 1, 1) := by decide +kernel
theorem d13_40 : decode method_2_code 40 = .ok (.istore_n 3, 1) := by decide +kernel
theorem d13_41 : decode method_2_code 41 = .ok (.iload_n 0, 1) := by decide +kernel
theorem d13_42 : decode method_2_code 42 = .ok (.bipush 45, 2) := by decide +kernel
theorem d13_44 : decode method_2_code 44 = .ok (.if_icmp .eq 21, 3) := by decide +kernel
theorem d13_47 : decode method_2_code 47 = .ok (.iload_n 0, 1) := by decide +kernel
theorem d13_48 : decode method_2_code 48 = .ok (.bipush 46, 2) := by decide +kernel
theorem d13_5 : decode method_2_code 5 = .ok (.iload_n 1, 1) := by decide +kernel
theorem d13_50 : decode method_2_code 50 = .ok (.if_icmp .eq 15, 3) := by decide +kernel
theorem d13_53 : decode method_2_code 53 = .ok (.iload_n 0, 1) := by decide +kernel
theorem d13_54 : decode method_2_code 54 = .ok (.bipush 95, 2) := by decide +kernel
theorem d13_56 : decode method_2_code 56 = .ok (.if_icmp .eq 9, 3) := by decide +kernel
theorem d13_59 : decode method_2_code 59 = .ok (.iload_n 0, 1) := by decide +kernel
theorem d13_6 : decode method_2_code 6 = .ok (.bipush 97, 2) := by decide +kernel
theorem d13_60 : decode method_2_code 60 = .ok (.bipush 126, 2) := by decide +kernel
theorem d13_62 : decode method_2_code 62 = .ok (.if_icmp .ne 7, 3) := by decide +kernel
theorem d13_65 : decode method_2_code 65 = .ok (.iconst 1, 1) := by decide +kernel
theorem d13_66 : decode method_2_code 66 = .ok (.goto 4, 3) := by decide +kernel
theorem d13_69 : decode method_2_code 69 = .ok (.iconst 0, 1) := by decide +kernel
theorem d13_70 : decode method_2_code 70 = .ok (.istore 4, 2) := by decide +kernel
theorem d13_72 : decode method_2_code 72 = .ok (.iload_n 2, 1) := by decide +kernel
theorem d13_73 : decode method_2_code 73 = .ok (.ifCond .ne 12, 3) := by decide +kernel
theorem d13_76 : decode method_2_code 76 = .ok (.iload_n 3, 1) := by decide +kernel
theorem d13_77 : decode method_2_code 77 = .ok (.ifCond .ne 8, 3) := by decide +kernel
theorem d13_8 : decode method_2_code 8 = .ok (.if_icmp .lt 13, 3) := by decide +kernel
theorem d13_80 : decode method_2_code 80 = .ok (.iload 4, 2) := by decide +kernel
theorem d13_82 : decode method_2_code 82 = .ok (.ifCond .eq 7, 3) := by decide +kernel
theorem d13_85 : decode method_2_code 85 = .ok (.iconst 1, 1) := by decide +kernel
theorem d13_86 : decode method_2_code 86 = .ok (.goto 4, 3) := by decide +kernel
theorem d13_89 : decode method_2_code 89 = .ok (.iconst 0, 1) := by decide +kernel
theorem d13_90 : decode method_2_code 90 = .ok (.ireturn, 1) := by decide +kernel
theorem d2_0 : decode prog_19_method_4_code 0 = .ok (.iload_n 0, 1) := by decide +kernel
theorem d2_1 : decode prog_19_method_4_code 1 = .ok (.bipush 97, 2) := by decide +kernel
theorem d2_12 : decode prog_19_method_4_code 12 = .ok (.iload_n 0, 1) := by decide +kernel
theorem d2_13 : decode prog_19_method_4_code 13 = .ok (.bipush 65, 2) := by decide +kernel
theorem d2_15 : decode prog_19_method_4_code 15 = .ok (.if_icmp .lt 9, 3) := by decide +kernel
theorem d2_18 : decode prog_19_method_4_code 18 = .ok (.iload_n 0, 1) := by decide +kernel
theorem d2_19 : decode prog_19_method_4_code 19 = .ok (.bipush 90, 2) := by decide +kernel
theorem d2_21 : decode prog_19_method_4_code 21 = .ok (.if_icmp .le 24, 3) := by decide +kernel
theorem d2_24 : decode prog_19_method_4_code 24 = .ok (.iload_n 0, 1) := by decide +kernel
theorem d2_25 : decode prog_19_method_4_code 25 = .ok (.bipush 48, 2) := by decide +kernel
theorem d2_27 : decode prog_19_method_4_code 27 = .ok (.if_icmp .lt 9, 3) := by decide +kernel
theorem d2_3 : decode prog_19_method_4_code 3 = .ok (.if_icmp .lt 9, 3) := by decide +kernel
theorem d2_30 : decode prog_19_method_4_code 30 = .ok (.iload_n 0, 1) := by decide +kernel
theorem d2_31 : decode prog_19_method_4_code 31 = .ok (.bipush 57, 2) := by decide +kernel
theorem d2_33 : decode prog_19_method_4_code 33 = .ok (.if_icmp .le 12, 3) := by decide +kernel
theorem d2_36 : decode prog_19_method_4_code 36 = .ok (.ldc 63, 2) := by decide +kernel
theorem d2_38 : decode prog_19_method_4_code 38 = .ok (.iload_n 0, 1) := by decide +kernel
theorem d2_39 : decode prog_19_method_4_code 39 = .ok (.invokevirtual 27, 3) := by decide +kernel
theorem d2_42 : decode prog_19_method_4_code 42 = .ok (.ifCond .lt 7, 3) := by decide +kernel
theorem d2_45 : decode prog_19_method_4_code 45 = .ok (.iconst 1, 1) := by decide +kernel
theorem d2_46 : decode prog_19_method_4_code 46 = .ok (.goto 4, 3) := by decide +kernel
theorem d2_49 : decode prog_19_method_4_code 49 = .ok (.iconst 0, 1) := by decide +kernel
theorem d2_50 : decode prog_19_method_4_code 50 = .ok (.ireturn, 1) := by decide +kernel
theorem d2_6 : decode prog_19_method_4_code 6 = .ok (.iload_n 0, 1) := by decide +kernel
theorem d2_7 : decode prog_19_method_4_code 7 = .ok (.bipush 122, 2) := by decide +kernel
theorem d2_9 : decode prog_19_method_4_code 9 = .ok (.if_icmp .le 36, 3) := by decide +kernel
theorem d3_0 : decode jdk_42_method_79_code 0 = .ok (.aload_n 0, 1) := by decide +kernel
theorem d3_1 : decode jdk_42_method_79_code 1 = .ok (.iload_n 1, 1) := by decide +kernel
theorem d3_2 : decode jdk_42_method_79_code 2 = .ok (.iconst 0, 1) := by decide +kernel
theorem d3_3 : decode jdk_42_method_79_code 3 = .ok (.invokevirtual 633, 3) := by decide +kernel
theorem d3_6 : decode jdk_42_method_79_code 6 = .ok (.ireturn, 1) := by decide +kernel
theorem d4_0 : decode jdk_42_method_80_code 0 = .ok (.aload_n 0, 1) := by decide +kernel
theorem d4_1 : decode jdk_42_method_80_code 1 = .ok (.invokevirtual 492, 3) := by decide +kernel
theorem d4_11 : decode jdk_42_method_80_code 11 = .ok (.iload_n 1, 1) := by decide +kernel
theorem d4_12 : decode jdk_42_method_80_code 12 = .ok (.iload_n 2, 1) := by decide +kernel
theorem d4_13 : decode jdk_42_method_80_code 13 = .ok (.aload_n 0, 1) := by decide +kernel
theorem d4_14 : decode jdk_42_method_80_code 14 = .ok (.invokevirtual 505, 3) := by decide +kernel
theorem d4_17 : decode jdk_42_method_80_code 17 = .ok (.invokestatic 637, 3) := by decide +kernel
theorem d4_20 : decode jdk_42_method_80_code 20 = .ok (.goto 16, 3) := by decide +kernel
theorem d4_36 : decode jdk_42_method_80_code 36 = .ok (.ireturn, 1) := by decide +kernel
theorem d4_4 : decode jdk_42_method_80_code 4 = .ok (.ifCond .eq 19, 3) := by decide +kernel
theorem d4_7 : decode jdk_42_method_80_code 7 = .ok (.aload_n 0, 1) := by decide +kernel
theorem d4_8 : decode jdk_42_method_80_code 8 = .ok (.getfield 9, 3) := by decide +kernel
theorem d5_0 : decode jdk_42_method_154_code 0 = .ok (.getstatic 38, 3) := by decide +kernel
theorem d5_10 : decode jdk_42_method_154_code 10 = .ok (.ifCond .ne 7, 3) := by decide +kernel
theorem d5_13 : decode jdk_42_method_154_code 13 = .ok (.iconst 1, 1) := by decide +kernel
theorem d5_14 : decode jdk_42_method_154_code 14 = .ok (.goto 4, 3) := by decide +kernel
theorem d5_18 : decode jdk_42_method_154_code 18 = .ok (.ireturn, 1) := by decide +kernel
theorem d5_3 : decode jdk_42_method_154_code 3 = .ok (.ifCond .eq 14, 3) := by decide +kernel
theorem d5_6 : decode jdk_42_method_154_code 6 = .ok (.aload_n 0, 1) := by decide +kernel
theorem d5_7 : decode jdk_42_method_154_code 7 = .ok (.getfield 15, 3) := by decide +kernel
theorem d6_0 : decode jdk_42_method_54_code 0 = .ok (.aload_n 0, 1) := by decide +kernel
theorem d6_1 : decode jdk_42_method_54_code 1 = .ok (.getfield 9, 3) := by decide +kernel
theorem d6_10 : decode jdk_42_method_54_code 10 = .ok (.ireturn, 1) := by decide +kernel
theorem d6_4 : decode jdk_42_method_54_code 4 = .ok (.arraylength, 1) := by decide +kernel
theorem d6_5 : decode jdk_42_method_54_code 5 = .ok (.aload_n 0, 1) := by decide +kernel
theorem d6_6 : decode jdk_42_method_54_code 6 = .ok (.invokevirtual 335, 3) := by decide +kernel
theorem d6_9 : decode jdk_42_method_54_code 9 = .ok (.ishr, 1) := by decide +kernel
theorem d7_0 : decode jdk_42_method_152_code 0 = .ok (.getstatic 38, 3) := by decide +kernel
theorem d7_10 : decode jdk_42_method_152_code 10 = .ok (.goto 4, 3) := by decide +kernel
theorem d7_14 : decode jdk_42_method_152_code 14 = .ok (.ireturn, 1) := by decide +kernel
theorem d7_3 : decode jdk_42_method_152_code 3 = .ok (.ifCond .eq 10, 3) := by decide +kernel
theorem d7_6 : decode jdk_42_method_152_code 6 = .ok (.aload_n 0, 1) := by decide +kernel
theorem d7_7 : decode jdk_42_method_152_code 7 = .ok (.getfield 15, 3) := by decide +kernel
theorem d8_0 : decode jdk_43_method_22_code 0 = .ok (.iload_n 1, 1) := by decide +kernel
theorem d8_1 : decode jdk_43_method_22_code 1 = .ok (.invokestatic 88, 3) := by decide +kernel
theorem d8_10 : decode jdk_43_method_22_code 10 = .ok (.iconst 0, 1) := by decide +kernel
theorem d8_11 : decode jdk_43_method_22_code 11 = .ok (.invokestatic 92, 3) := by decide +kernel
theorem d8_14 : decode jdk_43_method_22_code 14 = .ok (.istore_n 2, 1) := by decide +kernel
theorem d8_15 : decode jdk_43_method_22_code 15 = .ok (.iload_n 3, 1) := by decide +kernel
theorem d8_16 : decode jdk_43_method_22_code 16 = .ok (.aload_n 0, 1) := by decide +kernel
theorem d8_17 : decode jdk_43_method_22_code 17 = .ok (.arraylength, 1) := by decide +kernel
theorem d8_18 : decode jdk_43_method_22_code 18 = .ok (.invokestatic 38, 3) := by decide +kernel
theorem d8_21 : decode jdk_43_method_22_code 21 = .ok (.istore_n 3, 1) := by decide +kernel
theorem d8_22 : decode jdk_43_method_22_code 22 = .ok (.iload_n 2, 1) := by decide +kernel
theorem d8_23 : decode jdk_43_method_22_code 23 = .ok (.iload_n 3, 1) := by decide +kernel
theorem d8_24 : decode jdk_43_method_22_code 24 = .ok (.if_icmp .lt 5, 3) := by decide +kernel
theorem d8_29 : decode jdk_43_method_22_code 29 = .ok (.aload_n 0, 1) := by decide +kernel
theorem d8_30 : decode jdk_43_method_22_code 30 = .ok (.iload_n 1, 1) := by decide +kernel
theorem d8_31 : decode jdk_43_method_22_code 31 = .ok (.iload_n 2, 1) := by decide +kernel
theorem d8_32 : decode jdk_43_method_22_code 32 = .ok (.iload_n 3, 1) := by decide +kernel
theorem d8_33 : decode jdk_43_method_22_code 33 = .ok (.invokestatic 95, 3) := by decide +kernel
theorem d8_36 : decode jdk_43_method_22_code 36 = .ok (.ireturn, 1) := by decide +kernel
theorem d8_4 : decode jdk_43_method_22_code 4 = .ok (.ifCond .ne 5, 3) := by decide +kernel
theorem d8_7 : decode jdk_43_method_22_code 7 = .ok (.iconst (-1), 1) := by decide +kernel
theorem d8_8 : decode jdk_43_method_22_code 8 = .ok (.ireturn, 1) := by decide +kernel
theorem d8_9 : decode jdk_43_method_22_code 9 = .ok (.iload_n 2, 1) := by decide +kernel
theorem d9_0 : decode jdk_43_method_4_code 0 = .ok (.iload_n 0, 1) := by decide +kernel
theorem d9_1 : decode jdk_43_method_4_code 1 = .ok (.ifCond .lt 14, 3) := by decide +kernel
theorem d9_11 : decode jdk_43_method_4_code 11 = .ok (.iconst 1, 1) := by decide +kernel
theorem d9_12 : decode jdk_43_method_4_code 12 = .ok (.goto 4, 3) := by decide +kernel
theorem d9_15 : decode jdk_43_method_4_code 15 = .ok (.iconst 0, 1) := by decide +kernel
theorem d9_16 : decode jdk_43_method_4_code 16 = .ok (.ireturn, 1) := by decide +kernel
theorem d9_4 : decode jdk_43_method_4_code 4 = .ok (.iload_n 0, 1) := by decide +kernel
theorem d9_5 : decode jdk_43_method_4_code 5 = .ok (.sipush 255, 3) := by decide +kernel
theorem d9_8 : decode jdk_43_method_4_code 8 = .ok (.if_icmp .gt 7, 3) := by decide +kernel
def Q7 (h0 : Heap) (n0 : Nat) (v : Option Value) (h : Heap) (L : List Loc) : Prop := v = some (.int 0) ∧ Fr n0 L ∧ h = h0
set_option maxRecDepth 65536 in
set_option maxHeartbeats 40000000 in
theorem rm7 (l : Launch) (Z : State) (a0 : Array Value) (hw : ∀ d ∈ tables_1, d.before a0 Z = true) (ws : List Jvm.Cond) (a : Addr) (h0 : Heap) (n0 : Nat) (Z0 : n0 ≤ h0.size) (cs : Int32) (hcs : ¬ cs = 0) (SC : Sta Z h0 "java/lang/String" "COMPACT_STRINGS" "Z" (.int cs))(FC : Fld Z h0 a "java/lang/String" "coder" "B" (.int 0)) :
    MetFree l (⟨"java/lang/String", "coder", "()B"⟩ : MethodName) (head1 (Jvm.Cond.code (⟨"java/lang/String", "coder", "()B"⟩ : MethodName) jdk_42_method_152_code 1 (some .byte) :: ws) ({ frames := 0, cells := 0, slots := 0, locals := 0 } : Room)) (fun a_ U_ => a_ = #[(.ref a)] ∧ Z.Warmed39 U_.vm ∧ U_.heap = h0) (fun _ _ _ _ _ => True) (fun _ U_ o_ W_ => ∃ v_ L_, o_ = .returned v_ ∧ (Q7 h0 n0) v_ W_.heap L_ ∧ FrameEnd U_ o_ W_ L_ ({ frames := 0, cells := 0, slots := 0, locals := 0 } : Room).cells ({ frames := 0, cells := 0, slots := 0, locals := 0 } : Room).slots) := by
  refine MetFree.of_bodySF (plainFor_of_name pn_java_lang_String) hisR ?_
  intro p e s m args below meth c s₁ Bd hml0 hP hK
  obtain ⟨rfl, hZ, hh⟩ := hP
  have hx := Bd.exec
  have hby := Bd.bytes
  have hml : c.maxLocals = 1 := hml0
  have hown : s.vm.findClass "java/lang/String" = some m.cls := findClass_of_methodNamed Bd.named
  have hnm := (name_of_methodNamed Bd.named Bd.method).1
  have hlk : meth.locks = false := BodyLoose.notSynchronized Bd
  have X0 : Stand p l e ({ frames := 0, cells := 0, slots := 0, locals := 0 } : Room) s m #[(.ref a)] below meth c s₁ [] 0 0 := Stand.of_body Bd
  have e0 : s₁.heap = h0 := by rw [← hh, Bd.state]; rfl
  have N0 := Fr.nil n0
  refine Go.enter (ef_7 m a) ?_
  show Go p e s below ({ frames := 0, cells := 0, slots := 0, locals := 0 } : Room).cells ({ frames := 0, cells := 0, slots := 0, locals := 0 } : Room).slots (Q7 h0 n0) s₁ (mkF m 0 #[.val (.ref a)] [])
  obtain ⟨T1, X1, e1, st1⟩ := getS2 X0 hx hZ hown (host := "") (Or.inl (hw _ (List.mem_of_getElem? (i := 31) rfl))) Via.refl e0 SC (g := (mkF m 0 #[.val (.ref a)] [])) rfl (hb hby d7_0)
  refine Go.st st1 ?_
  show Go p e s below ({ frames := 0, cells := 0, slots := 0, locals := 0 } : Room).cells ({ frames := 0, cells := 0, slots := 0, locals := 0 } : Room).slots (Q7 h0 n0) T1 (mkF m 3 #[.val (.ref a)] [(.int cs)])
  refine Go.st (fun _ k_ => XS.ifNo X1.here hx rfl (hb hby d7_3) rfl ((if0 _ _).trans (feq hcs).1) k_) ?_
  show Go p e s below ({ frames := 0, cells := 0, slots := 0, locals := 0 } : Room).cells ({ frames := 0, cells := 0, slots := 0, locals := 0 } : Room).slots (Q7 h0 n0) T1 (mkF m 6 #[.val (.ref a)] [])
  refine Go.st (fun _ k_ => XS.aloadN X1.here hx rfl (hb hby d7_6) rfl rfl k_) ?_
  show Go p e s below ({ frames := 0, cells := 0, slots := 0, locals := 0 } : Room).cells ({ frames := 0, cells := 0, slots := 0, locals := 0 } : Room).slots (Q7 h0 n0) T1 (mkF m 7 #[.val (.ref a)] [(.ref a)])
  obtain ⟨T2, X2, e2, st2⟩ := getF X1 hx hZ hown (host := "") (Or.inl (hw _ (List.mem_of_getElem? (i := 32) rfl))) Via.refl e1 FC (g := (mkF m 7 #[.val (.ref a)] [(.ref a)])) rfl rfl (hb hby d7_7)
  refine Go.st st2 ?_
  show Go p e s below ({ frames := 0, cells := 0, slots := 0, locals := 0 } : Room).cells ({ frames := 0, cells := 0, slots := 0, locals := 0 } : Room).slots (Q7 h0 n0) T2 (mkF m 10 #[.val (.ref a)] [(.int (0 : Int32))])
  refine Go.st (fun _ k_ => XS.goto X2.here hx rfl (pc0 := 10) (pc' := 14) rfl (hb hby d7_10) (by decide) (by decide) k_) ?_
  show Go p e s below ({ frames := 0, cells := 0, slots := 0, locals := 0 } : Room).cells ({ frames := 0, cells := 0, slots := 0, locals := 0 } : Room).slots (Q7 h0 n0) T2 (mkF m 14 #[.val (.ref a)] [(.int (0 : Int32))])
  exact Go.retN X2 hx hlk (t := .byte) Bd.returns (by simp) (hb hby d7_14) (by decide) (by decide) ⟨rfl, N0, e2⟩
def Q5 (h0 : Heap) (n0 : Nat) (v : Option Value) (h : Heap) (L : List Loc) : Prop := v = some (.int 1) ∧ Fr n0 L ∧ h = h0
set_option maxRecDepth 65536 in
set_option maxHeartbeats 40000000 in
theorem rm5 (l : Launch) (Z : State) (a0 : Array Value) (hw : ∀ d ∈ tables_1, d.before a0 Z = true) (ws : List Jvm.Cond) (a : Addr) (h0 : Heap) (n0 : Nat) (Z0 : n0 ≤ h0.size) (cs : Int32) (hcs : ¬ cs = 0) (SC : Sta Z h0 "java/lang/String" "COMPACT_STRINGS" "Z" (.int cs))(FC : Fld Z h0 a "java/lang/String" "coder" "B" (.int 0)) :
    MetFree l (⟨"java/lang/String", "isLatin1", "()Z"⟩ : MethodName) (head1 (Jvm.Cond.code (⟨"java/lang/String", "isLatin1", "()Z"⟩ : MethodName) jdk_42_method_154_code 1 (some .boolean) :: ws) ({ frames := 0, cells := 0, slots := 0, locals := 0 } : Room)) (fun a_ U_ => a_ = #[(.ref a)] ∧ Z.Warmed39 U_.vm ∧ U_.heap = h0) (fun _ _ _ _ _ => True) (fun _ U_ o_ W_ => ∃ v_ L_, o_ = .returned v_ ∧ (Q5 h0 n0) v_ W_.heap L_ ∧ FrameEnd U_ o_ W_ L_ ({ frames := 0, cells := 0, slots := 0, locals := 0 } : Room).cells ({ frames := 0, cells := 0, slots := 0, locals := 0 } : Room).slots) := by
  refine MetFree.of_bodySF (plainFor_of_name pn_java_lang_String) hisR ?_
  intro p e s m args below meth c s₁ Bd hml0 hP hK
  obtain ⟨rfl, hZ, hh⟩ := hP
  have hx := Bd.exec
  have hby := Bd.bytes
  have hml : c.maxLocals = 1 := hml0
  have hown : s.vm.findClass "java/lang/String" = some m.cls := findClass_of_methodNamed Bd.named
  have hnm := (name_of_methodNamed Bd.named Bd.method).1
  have hlk : meth.locks = false := BodyLoose.notSynchronized Bd
  have X0 : Stand p l e ({ frames := 0, cells := 0, slots := 0, locals := 0 } : Room) s m #[(.ref a)] below meth c s₁ [] 0 0 := Stand.of_body Bd
  have e0 : s₁.heap = h0 := by rw [← hh, Bd.state]; rfl
  have N0 := Fr.nil n0
  refine Go.enter (ef_5 m a) ?_
  show Go p e s below ({ frames := 0, cells := 0, slots := 0, locals := 0 } : Room).cells ({ frames := 0, cells := 0, slots := 0, locals := 0 } : Room).slots (Q5 h0 n0) s₁ (mkF m 0 #[.val (.ref a)] [])
  obtain ⟨T3, X3, e3, st3⟩ := getS2 X0 hx hZ hown (host := "") (Or.inl (hw _ (List.mem_of_getElem? (i := 31) rfl))) Via.refl e0 SC (g := (mkF m 0 #[.val (.ref a)] [])) rfl (hb hby d5_0)
  refine Go.st st3 ?_
  show Go p e s below ({ frames := 0, cells := 0, slots := 0, locals := 0 } : Room).cells ({ frames := 0, cells := 0, slots := 0, locals := 0 } : Room).slots (Q5 h0 n0) T3 (mkF m 3 #[.val (.ref a)] [(.int cs)])
  refine Go.st (fun _ k_ => XS.ifNo X3.here hx rfl (hb hby d5_3) rfl ((if0 _ _).trans (feq hcs).1) k_) ?_
  show Go p e s below ({ frames := 0, cells := 0, slots := 0, locals := 0 } : Room).cells ({ frames := 0, cells := 0, slots := 0, locals := 0 } : Room).slots (Q5 h0 n0) T3 (mkF m 6 #[.val (.ref a)] [])
  refine Go.st (fun _ k_ => XS.aloadN X3.here hx rfl (hb hby d5_6) rfl rfl k_) ?_
  show Go p e s below ({ frames := 0, cells := 0, slots := 0, locals := 0 } : Room).cells ({ frames := 0, cells := 0, slots := 0, locals := 0 } : Room).slots (Q5 h0 n0) T3 (mkF m 7 #[.val (.ref a)] [(.ref a)])
  obtain ⟨T4, X4, e4, st4⟩ := getF X3 hx hZ hown (host := "") (Or.inl (hw _ (List.mem_of_getElem? (i := 32) rfl))) Via.refl e3 FC (g := (mkF m 7 #[.val (.ref a)] [(.ref a)])) rfl rfl (hb hby d5_7)
  refine Go.st st4 ?_
  show Go p e s below ({ frames := 0, cells := 0, slots := 0, locals := 0 } : Room).cells ({ frames := 0, cells := 0, slots := 0, locals := 0 } : Room).slots (Q5 h0 n0) T4 (mkF m 10 #[.val (.ref a)] [(.int (0 : Int32))])
  refine Go.st (fun _ k_ => XS.ifNo X4.here hx rfl (hb hby d5_10) rfl ((if0 _ _).trans (teq rfl).2) k_) ?_
  show Go p e s below ({ frames := 0, cells := 0, slots := 0, locals := 0 } : Room).cells ({ frames := 0, cells := 0, slots := 0, locals := 0 } : Room).slots (Q5 h0 n0) T4 (mkF m 13 #[.val (.ref a)] [])
  refine Go.st (fun _ k_ => XS.iconst X4.here hx rfl (hb hby d5_13) k_) ?_
  show Go p e s below ({ frames := 0, cells := 0, slots := 0, locals := 0 } : Room).cells ({ frames := 0, cells := 0, slots := 0, locals := 0 } : Room).slots (Q5 h0 n0) T4 (mkF m 14 #[.val (.ref a)] [(.int (1 : Int32))])
  refine Go.st (fun _ k_ => XS.goto X4.here hx rfl (pc0 := 14) (pc' := 18) rfl (hb hby d5_14) (by decide) (by decide) k_) ?_
  show Go p e s below ({ frames := 0, cells := 0, slots := 0, locals := 0 } : Room).cells ({ frames := 0, cells := 0, slots := 0, locals := 0 } : Room).slots (Q5 h0 n0) T4 (mkF m 18 #[.val (.ref a)] [(.int (1 : Int32))])
  exact Go.retN X4 hx hlk (t := .boolean) Bd.returns (by simp) (hb hby d5_18) (by decide) (by decide) ⟨rfl, N0, e4⟩
def Q6 (h0 : Heap) (n0 : Nat) (v : Option Value) (h : Heap) (L : List Loc) : Prop := v = some (.int 4) ∧ Fr n0 L ∧ h = h0
set_option maxRecDepth 65536 in
set_option maxHeartbeats 40000000 in
theorem rm6 (l : Launch) (Z : State) (a0 : Array Value) (hw : ∀ d ∈ tables_1, d.before a0 Z = true) (ws : List Jvm.Cond) (a b : Addr) (h0 : Heap) (n0 : Nat) (Z0 : n0 ≤ h0.size) (cs : Int32) (hcs : ¬ cs = 0) (SC : Sta Z h0 "java/lang/String" "COMPACT_STRINGS" "Z" (.int cs))(FC : Fld Z h0 a "java/lang/String" "coder" "B" (.int 0))(FV : Fld Z h0 a "java/lang/String" "value" "[B" (.ref b))(EA : Exa Z h0 a "java/lang/String")(VB : AV Z h0 b .byte 4 own_by) :
    MetFree l (⟨"java/lang/String", "length", "()I"⟩ : MethodName) (head1 (Jvm.Cond.code (⟨"java/lang/String", "length", "()I"⟩ : MethodName) jdk_42_method_54_code 1 (some .int) :: ws) ({ frames := 1, cells := 0, slots := 0, locals := 13 } : Room)) (fun a_ U_ => a_ = #[(.ref a)] ∧ Z.Warmed39 U_.vm ∧ U_.heap = h0) (fun _ _ _ _ _ => True) (fun _ U_ o_ W_ => ∃ v_ L_, o_ = .returned v_ ∧ (Q6 h0 n0) v_ W_.heap L_ ∧ FrameEnd U_ o_ W_ L_ ({ frames := 1, cells := 0, slots := 0, locals := 13 } : Room).cells ({ frames := 1, cells := 0, slots := 0, locals := 13 } : Room).slots) := by
  refine MetFree.of_bodySF (plainFor_of_name pn_java_lang_String) hisR ?_
  intro p e s m args below meth c s₁ Bd hml0 hP hK
  obtain ⟨rfl, hZ, hh⟩ := hP
  have hx := Bd.exec
  have hby := Bd.bytes
  have hml : c.maxLocals = 1 := hml0
  have hown : s.vm.findClass "java/lang/String" = some m.cls := findClass_of_methodNamed Bd.named
  have hnm := (name_of_methodNamed Bd.named Bd.method).1
  have hlk : meth.locks = false := BodyLoose.notSynchronized Bd
  have X0 : Stand p l e ({ frames := 1, cells := 0, slots := 0, locals := 13 } : Room) s m #[(.ref a)] below meth c s₁ [] 0 0 := Stand.of_body Bd
  have e0 : s₁.heap = h0 := by rw [← hh, Bd.state]; rfl
  have N0 := Fr.nil n0
  refine Go.enter (ef_6 m a) ?_
  show Go p e s below ({ frames := 1, cells := 0, slots := 0, locals := 13 } : Room).cells ({ frames := 1, cells := 0, slots := 0, locals := 13 } : Room).slots (Q6 h0 n0) s₁ (mkF m 0 #[.val (.ref a)] [])
  refine Go.st (fun _ k_ => XS.aloadN X0.here hx rfl (hb hby d6_0) rfl rfl k_) ?_
  show Go p e s below ({ frames := 1, cells := 0, slots := 0, locals := 13 } : Room).cells ({ frames := 1, cells := 0, slots := 0, locals := 13 } : Room).slots (Q6 h0 n0) s₁ (mkF m 1 #[.val (.ref a)] [(.ref a)])
  obtain ⟨T5, X5, e5, st5⟩ := getF X0 hx hZ hown (host := "") (Or.inl (hw _ (List.mem_of_getElem? (i := 33) rfl))) Via.refl e0 FV (g := (mkF m 1 #[.val (.ref a)] [(.ref a)])) rfl rfl (hb hby d6_1)
  refine Go.st st5 ?_
  show Go p e s below ({ frames := 1, cells := 0, slots := 0, locals := 13 } : Room).cells ({ frames := 1, cells := 0, slots := 0, locals := 13 } : Room).slots (Q6 h0 n0) T5 (mkF m 4 #[.val (.ref a)] [(.ref b)])
  refine Go.st (AV.len X5 hx hZ e5 VB (g := (mkF m 4 #[.val (.ref a)] [(.ref b)])) rfl rfl (hb hby d6_4)) ?_
  show Go p e s below ({ frames := 1, cells := 0, slots := 0, locals := 13 } : Room).cells ({ frames := 1, cells := 0, slots := 0, locals := 13 } : Room).slots (Q6 h0 n0) T5 (mkF m 5 #[.val (.ref a)] [(.int (Int32.ofNat 4))])
  refine Go.st (fun _ k_ => XS.aloadN X5.here hx rfl (hb hby d6_5) rfl rfl k_) ?_
  show Go p e s below ({ frames := 1, cells := 0, slots := 0, locals := 13 } : Room).cells ({ frames := 1, cells := 0, slots := 0, locals := 13 } : Room).slots (Q6 h0 n0) T5 (mkF m 6 #[.val (.ref a)] [(.ref a), (.int (Int32.ofNat 4))])
  obtain ⟨cq6, kq6, q6a, q6b, q6c⟩ := isOf hZ e5 EA
  obtain ⟨_, _, ⟨T6, L6, k6, n6⟩, -, X6, ⟨Lc6, hQ6, l6, y6, z6⟩, st6⟩ := X5.virtualBack hx (y := (⟨"java/lang/String", "coder", "()B"⟩ : MethodName)) (z := (⟨"java/lang/String", "coder", "()B"⟩ : MethodName)) hown (mvT hZ (hw _ (List.mem_of_getElem? (i := 39) rfl))) (mvT hZ (hw _ (List.mem_of_getElem? (i := 40) rfl))) (notFace_of_selects (args := #[]) (mvT hZ (hw _ (List.mem_of_getElem? (i := 42) rfl)))) (mvT hZ (hw _ (List.mem_of_getElem? (i := 42) rfl))) (mvT hZ (hw _ (List.mem_of_getElem? (i := 41) rfl))) (by decide) (backOf (W := 1) (rm7 l Z a0 hw [] a h0 n0 Z0 cs hcs SC FC) hZ (hw _ (List.mem_of_getElem? (i := 43) rfl)) (hw _ (List.mem_of_getElem? (i := 9) rfl)) (by decide) (by decide)) q6a q6c (g := (mkF m 6 #[.val (.ref a)] [(.ref a), (.int (Int32.ofNat 4))])) rfl (by rw [hml]; rfl) (Steps.refl _) (argsL := []) (rest := [(.int (Int32.ofNat 4))]) (lenOf pd_0 rfl) rfl (by show 2 * 0 + _ ≤ _; exact Nat.le_of_eq rfl) (hb hby d6_6) (fun _ _ => ⟨rfl, e5, (by decide : 0 + 0 ≤ _), (by decide : 0 + 0 ≤ _)⟩)
  dsimp only [Pt.U, Pt.locs, Pt.cells, Pt.slots] at X6 l6 y6 z6 st6 hQ6
  subst l6 y6 z6
  obtain ⟨rfl, hN6, eh⟩ := hQ6
  have N6 := Fr.app N0 hN6
  refine Go.tr st6 ?_
  show Go p e s below ({ frames := 1, cells := 0, slots := 0, locals := 13 } : Room).cells ({ frames := 1, cells := 0, slots := 0, locals := 13 } : Room).slots (Q6 h0 n0) T6 (mkF m 9 #[.val (.ref a)] [(.int (0 : Int32)), (.int (Int32.ofNat 4))])
  refine Go.st (fun _ k_ => XS.ishr X6.here hx rfl (hb hby d6_9) rfl k_) ?_
  show Go p e s below ({ frames := 1, cells := 0, slots := 0, locals := 13 } : Room).cells ({ frames := 1, cells := 0, slots := 0, locals := 13 } : Room).slots (Q6 h0 n0) T6 (mkF m 10 #[.val (.ref a)] [(.int ((Int32.ofNat 4) >>> ((0 : Int32) &&& 31)))])
  rw [(by decide : (((Int32.ofNat 4) >>> ((0 : Int32) &&& 31)) : Int32) = 4)]
  show Go p e s below ({ frames := 1, cells := 0, slots := 0, locals := 13 } : Room).cells ({ frames := 1, cells := 0, slots := 0, locals := 13 } : Room).slots (Q6 h0 n0) T6 (mkF m 10 #[.val (.ref a)] [(.int (4 : Int32))])
  exact Go.retI X6 hx hlk Bd.returns (hb hby d6_10) (by decide) (by decide) ⟨rfl, N6, eh⟩
def Q9 (c : Int32) (h0 : Heap) (n0 : Nat) (v : Option Value) (h : Heap) (L : List Loc) : Prop := v = some (.int (own_b (¬ c < 0 ∧ ¬ 255 < c))) ∧ Fr n0 L ∧ h = h0
set_option maxRecDepth 65536 in
set_option maxHeartbeats 40000000 in
theorem rm9 (l : Launch) (Z : State) (a0 : Array Value) (hw : ∀ d ∈ tables_1, d.before a0 Z = true) (ws : List Jvm.Cond) (c' : Int32) (h0 : Heap) (n0 : Nat) (Z0 : n0 ≤ h0.size)  :
    MetFree l (⟨"java/lang/StringLatin1", "canEncode", "(I)Z"⟩ : MethodName) (head1 (Jvm.Cond.code (⟨"java/lang/StringLatin1", "canEncode", "(I)Z"⟩ : MethodName) jdk_43_method_4_code 1 (some .boolean) :: ws) ({ frames := 0, cells := 0, slots := 0, locals := 0 } : Room)) (fun a_ U_ => a_ = #[(.int c')] ∧ Z.Warmed39 U_.vm ∧ U_.heap = h0) (fun _ _ _ _ _ => True) (fun _ U_ o_ W_ => ∃ v_ L_, o_ = .returned v_ ∧ (Q9 c' h0 n0) v_ W_.heap L_ ∧ FrameEnd U_ o_ W_ L_ ({ frames := 0, cells := 0, slots := 0, locals := 0 } : Room).cells ({ frames := 0, cells := 0, slots := 0, locals := 0 } : Room).slots) := by
  refine MetFree.of_bodySF (plainFor_of_name pn_java_lang_StringLatin1) hisR ?_
  intro p e s m args below meth c s₁ Bd hml0 hP hK
  obtain ⟨rfl, hZ, hh⟩ := hP
  have hx := Bd.exec
  have hby := Bd.bytes
  have hml : c.maxLocals = 1 := hml0
  have hown : s.vm.findClass "java/lang/StringLatin1" = some m.cls := findClass_of_methodNamed Bd.named
  have hnm := (name_of_methodNamed Bd.named Bd.method).1
  have hlk : meth.locks = false := BodyLoose.notSynchronized Bd
  have X0 : Stand p l e ({ frames := 0, cells := 0, slots := 0, locals := 0 } : Room) s m #[(.int c')] below meth c s₁ [] 0 0 := Stand.of_body Bd
  have e0 : s₁.heap = h0 := by rw [← hh, Bd.state]; rfl
  have N0 := Fr.nil n0
  refine Go.enter (ef_9 m c') ?_
  show Go p e s below ({ frames := 0, cells := 0, slots := 0, locals := 0 } : Room).cells ({ frames := 0, cells := 0, slots := 0, locals := 0 } : Room).slots (Q9 c' h0 n0) s₁ (mkF m 0 #[.val (.int c')] [])
  refine Go.st (fun _ k_ => XS.iloadN X0.here hx rfl (hb hby d9_0) rfl k_) ?_
  by_cases h1 : c' < (0 : Int32)
  · skip
    show Go p e s below ({ frames := 0, cells := 0, slots := 0, locals := 0 } : Room).cells ({ frames := 0, cells := 0, slots := 0, locals := 0 } : Room).slots (Q9 c' h0 n0) s₁ (mkF m 1 #[.val (.int c')] [(.int c')])
    refine Go.st (fun _ k_ => XS.ifYes X0.here hx rfl (pc0 := 1) (pc' := 15) rfl (hb hby d9_1) rfl ((if0 _ _).trans (tlt h1).1) (by decide) (by decide) k_) ?_
    show Go p e s below ({ frames := 0, cells := 0, slots := 0, locals := 0 } : Room).cells ({ frames := 0, cells := 0, slots := 0, locals := 0 } : Room).slots (Q9 c' h0 n0) s₁ (mkF m 15 #[.val (.int c')] [])
    refine Go.st (fun _ k_ => XS.iconst X0.here hx rfl (hb hby d9_15) k_) ?_
    show Go p e s below ({ frames := 0, cells := 0, slots := 0, locals := 0 } : Room).cells ({ frames := 0, cells := 0, slots := 0, locals := 0 } : Room).slots (Q9 c' h0 n0) s₁ (mkF m 16 #[.val (.int c')] [(.int (0 : Int32))])
    exact Go.retN X0 hx hlk (t := .boolean) Bd.returns (by simp) (hb hby d9_16) (by decide) (by decide) ⟨by rw [own_b0 (fun q => q.1 h1)]; rfl, N0, e0⟩
  · skip
    show Go p e s below ({ frames := 0, cells := 0, slots := 0, locals := 0 } : Room).cells ({ frames := 0, cells := 0, slots := 0, locals := 0 } : Room).slots (Q9 c' h0 n0) s₁ (mkF m 1 #[.val (.int c')] [(.int c')])
    refine Go.st (fun _ k_ => XS.ifNo X0.here hx rfl (hb hby d9_1) rfl ((if0 _ _).trans (flt h1).1) k_) ?_
    show Go p e s below ({ frames := 0, cells := 0, slots := 0, locals := 0 } : Room).cells ({ frames := 0, cells := 0, slots := 0, locals := 0 } : Room).slots (Q9 c' h0 n0) s₁ (mkF m 4 #[.val (.int c')] [])
    refine Go.st (fun _ k_ => XS.iloadN X0.here hx rfl (hb hby d9_4) rfl k_) ?_
    show Go p e s below ({ frames := 0, cells := 0, slots := 0, locals := 0 } : Room).cells ({ frames := 0, cells := 0, slots := 0, locals := 0 } : Room).slots (Q9 c' h0 n0) s₁ (mkF m 5 #[.val (.int c')] [(.int c')])
    refine Go.st (fun _ k_ => XS.sipush X0.here hx rfl (hb hby d9_5) k_) ?_
    by_cases h2 : (255 : Int32) < c'
    · skip
      show Go p e s below ({ frames := 0, cells := 0, slots := 0, locals := 0 } : Room).cells ({ frames := 0, cells := 0, slots := 0, locals := 0 } : Room).slots (Q9 c' h0 n0) s₁ (mkF m 8 #[.val (.int c')] [(.int (255 : Int32)), (.int c')])
      refine Go.st (fun _ k_ => XS.icmpYes X0.here hx rfl (pc0 := 8) (pc' := 15) rfl (hb hby d9_8) rfl (tlt h2).2.2.1 (by decide) (by decide) k_) ?_
      show Go p e s below ({ frames := 0, cells := 0, slots := 0, locals := 0 } : Room).cells ({ frames := 0, cells := 0, slots := 0, locals := 0 } : Room).slots (Q9 c' h0 n0) s₁ (mkF m 15 #[.val (.int c')] [])
      refine Go.st (fun _ k_ => XS.iconst X0.here hx rfl (hb hby d9_15) k_) ?_
      show Go p e s below ({ frames := 0, cells := 0, slots := 0, locals := 0 } : Room).cells ({ frames := 0, cells := 0, slots := 0, locals := 0 } : Room).slots (Q9 c' h0 n0) s₁ (mkF m 16 #[.val (.int c')] [(.int (0 : Int32))])
      exact Go.retN X0 hx hlk (t := .boolean) Bd.returns (by simp) (hb hby d9_16) (by decide) (by decide) ⟨by rw [own_b0 (fun q => q.2 h2)]; rfl, N0, e0⟩
    · skip
      show Go p e s below ({ frames := 0, cells := 0, slots := 0, locals := 0 } : Room).cells ({ frames := 0, cells := 0, slots := 0, locals := 0 } : Room).slots (Q9 c' h0 n0) s₁ (mkF m 8 #[.val (.int c')] [(.int (255 : Int32)), (.int c')])
      refine Go.st (fun _ k_ => XS.icmpNo X0.here hx rfl (hb hby d9_8) rfl (flt h2).2.2.1 k_) ?_
      show Go p e s below ({ frames := 0, cells := 0, slots := 0, locals := 0 } : Room).cells ({ frames := 0, cells := 0, slots := 0, locals := 0 } : Room).slots (Q9 c' h0 n0) s₁ (mkF m 11 #[.val (.int c')] [])
      refine Go.st (fun _ k_ => XS.iconst X0.here hx rfl (hb hby d9_11) k_) ?_
      show Go p e s below ({ frames := 0, cells := 0, slots := 0, locals := 0 } : Room).cells ({ frames := 0, cells := 0, slots := 0, locals := 0 } : Room).slots (Q9 c' h0 n0) s₁ (mkF m 12 #[.val (.int c')] [(.int (1 : Int32))])
      refine Go.st (fun _ k_ => XS.goto X0.here hx rfl (pc0 := 12) (pc' := 16) rfl (hb hby d9_12) (by decide) (by decide) k_) ?_
      show Go p e s below ({ frames := 0, cells := 0, slots := 0, locals := 0 } : Room).cells ({ frames := 0, cells := 0, slots := 0, locals := 0 } : Room).slots (Q9 c' h0 n0) s₁ (mkF m 16 #[.val (.int c')] [(.int (1 : Int32))])
      exact Go.retN X0 hx hlk (t := .boolean) Bd.returns (by simp) (hb hby d9_16) (by decide) (by decide) ⟨by rw [own_b1 ⟨h1, h2⟩]; rfl, N0, e0⟩
def Q10 (x y : Int32) (h0 : Heap) (n0 : Nat) (v : Option Value) (h : Heap) (L : List Loc) : Prop := v = some (.int (if x < y then y else x)) ∧ Fr n0 L ∧ h = h0
set_option maxRecDepth 65536 in
set_option maxHeartbeats 40000000 in
theorem rm10 (l : Launch) (Z : State) (a0 : Array Value) (hw : ∀ d ∈ tables_1, d.before a0 Z = true) (ws : List Jvm.Cond) (x y : Int32) (h0 : Heap) (n0 : Nat) (Z0 : n0 ≤ h0.size)  :
    MetFree l (⟨"java/lang/Math", "max", "(II)I"⟩ : MethodName) (head1 (Jvm.Cond.code (⟨"java/lang/Math", "max", "(II)I"⟩ : MethodName) jdk_29_method_65_code 2 (some .int) :: ws) ({ frames := 0, cells := 0, slots := 0, locals := 0 } : Room)) (fun a_ U_ => a_ = #[(.int x), (.int y)] ∧ Z.Warmed39 U_.vm ∧ U_.heap = h0) (fun _ _ _ _ _ => True) (fun _ U_ o_ W_ => ∃ v_ L_, o_ = .returned v_ ∧ (Q10 x y h0 n0) v_ W_.heap L_ ∧ FrameEnd U_ o_ W_ L_ ({ frames := 0, cells := 0, slots := 0, locals := 0 } : Room).cells ({ frames := 0, cells := 0, slots := 0, locals := 0 } : Room).slots) := by
  refine MetFree.of_bodySF (Jvm.Free.JP.mathPlain rfl (by decide +kernel)) hisR ?_
  intro p e s m args below meth c s₁ Bd hml0 hP hK
  obtain ⟨rfl, hZ, hh⟩ := hP
  have hx := Bd.exec
  have hby := Bd.bytes
  have hml : c.maxLocals = 2 := hml0
  have hown : s.vm.findClass "java/lang/Math" = some m.cls := findClass_of_methodNamed Bd.named
  have hnm := (name_of_methodNamed Bd.named Bd.method).1
  have hlk : meth.locks = false := BodyLoose.notSynchronized Bd
  have X0 : Stand p l e ({ frames := 0, cells := 0, slots := 0, locals := 0 } : Room) s m #[(.int x), (.int y)] below meth c s₁ [] 0 0 := Stand.of_body Bd
  have e0 : s₁.heap = h0 := by rw [← hh, Bd.state]; rfl
  have N0 := Fr.nil n0
  refine Go.enter (ef_10 m x y) ?_
  show Go p e s below ({ frames := 0, cells := 0, slots := 0, locals := 0 } : Room).cells ({ frames := 0, cells := 0, slots := 0, locals := 0 } : Room).slots (Q10 x y h0 n0) s₁ (mkF m 0 #[.val (.int x), .val (.int y)] [])
  refine Go.st (fun _ k_ => XS.iloadN X0.here hx rfl (hb hby d10_0) rfl k_) ?_
  show Go p e s below ({ frames := 0, cells := 0, slots := 0, locals := 0 } : Room).cells ({ frames := 0, cells := 0, slots := 0, locals := 0 } : Room).slots (Q10 x y h0 n0) s₁ (mkF m 1 #[.val (.int x), .val (.int y)] [(.int x)])
  refine Go.st (fun _ k_ => XS.iloadN X0.here hx rfl (hb hby d10_1) rfl k_) ?_
  by_cases hq : x < y
  · skip
    show Go p e s below ({ frames := 0, cells := 0, slots := 0, locals := 0 } : Room).cells ({ frames := 0, cells := 0, slots := 0, locals := 0 } : Room).slots (Q10 x y h0 n0) s₁ (mkF m 2 #[.val (.int x), .val (.int y)] [(.int y), (.int x)])
    refine Go.st (fun _ k_ => XS.icmpYes X0.here hx rfl (pc0 := 2) (pc' := 9) rfl (hb hby d10_2) rfl (tlt hq).1 (by decide) (by decide) k_) ?_
    show Go p e s below ({ frames := 0, cells := 0, slots := 0, locals := 0 } : Room).cells ({ frames := 0, cells := 0, slots := 0, locals := 0 } : Room).slots (Q10 x y h0 n0) s₁ (mkF m 9 #[.val (.int x), .val (.int y)] [])
    refine Go.st (fun _ k_ => XS.iloadN X0.here hx rfl (hb hby d10_9) rfl k_) ?_
    show Go p e s below ({ frames := 0, cells := 0, slots := 0, locals := 0 } : Room).cells ({ frames := 0, cells := 0, slots := 0, locals := 0 } : Room).slots (Q10 x y h0 n0) s₁ (mkF m 10 #[.val (.int x), .val (.int y)] [(.int y)])
    exact Go.retI X0 hx hlk Bd.returns (hb hby d10_10) (by decide) (by decide) ⟨by rw [if_pos hq], N0, e0⟩
  · skip
    show Go p e s below ({ frames := 0, cells := 0, slots := 0, locals := 0 } : Room).cells ({ frames := 0, cells := 0, slots := 0, locals := 0 } : Room).slots (Q10 x y h0 n0) s₁ (mkF m 2 #[.val (.int x), .val (.int y)] [(.int y), (.int x)])
    refine Go.st (fun _ k_ => XS.icmpNo X0.here hx rfl (hb hby d10_2) rfl (flt hq).1 k_) ?_
    show Go p e s below ({ frames := 0, cells := 0, slots := 0, locals := 0 } : Room).cells ({ frames := 0, cells := 0, slots := 0, locals := 0 } : Room).slots (Q10 x y h0 n0) s₁ (mkF m 5 #[.val (.int x), .val (.int y)] [])
    refine Go.st (fun _ k_ => XS.iloadN X0.here hx rfl (hb hby d10_5) rfl k_) ?_
    show Go p e s below ({ frames := 0, cells := 0, slots := 0, locals := 0 } : Room).cells ({ frames := 0, cells := 0, slots := 0, locals := 0 } : Room).slots (Q10 x y h0 n0) s₁ (mkF m 6 #[.val (.int x), .val (.int y)] [(.int x)])
    refine Go.st (fun _ k_ => XS.goto X0.here hx rfl (pc0 := 6) (pc' := 10) rfl (hb hby d10_6) (by decide) (by decide) k_) ?_
    show Go p e s below ({ frames := 0, cells := 0, slots := 0, locals := 0 } : Room).cells ({ frames := 0, cells := 0, slots := 0, locals := 0 } : Room).slots (Q10 x y h0 n0) s₁ (mkF m 10 #[.val (.int x), .val (.int y)] [(.int x)])
    exact Go.retI X0 hx hlk Bd.returns (hb hby d10_10) (by decide) (by decide) ⟨by rw [if_neg hq], N0, e0⟩
def Q11 (x y : Int32) (h0 : Heap) (n0 : Nat) (v : Option Value) (h : Heap) (L : List Loc) : Prop := v = some (.int (if y < x then y else x)) ∧ Fr n0 L ∧ h = h0
set_option maxRecDepth 65536 in
set_option maxHeartbeats 40000000 in
theorem rm11 (l : Launch) (Z : State) (a0 : Array Value) (hw : ∀ d ∈ tables_1, d.before a0 Z = true) (ws : List Jvm.Cond) (x y : Int32) (h0 : Heap) (n0 : Nat) (Z0 : n0 ≤ h0.size)  :
    MetFree l (⟨"java/lang/Math", "min", "(II)I"⟩ : MethodName) (head1 (Jvm.Cond.code (⟨"java/lang/Math", "min", "(II)I"⟩ : MethodName) jdk_29_method_69_code 2 (some .int) :: ws) ({ frames := 0, cells := 0, slots := 0, locals := 0 } : Room)) (fun a_ U_ => a_ = #[(.int x), (.int y)] ∧ Z.Warmed39 U_.vm ∧ U_.heap = h0) (fun _ _ _ _ _ => True) (fun _ U_ o_ W_ => ∃ v_ L_, o_ = .returned v_ ∧ (Q11 x y h0 n0) v_ W_.heap L_ ∧ FrameEnd U_ o_ W_ L_ ({ frames := 0, cells := 0, slots := 0, locals := 0 } : Room).cells ({ frames := 0, cells := 0, slots := 0, locals := 0 } : Room).slots) := by
  refine MetFree.of_bodySF (Jvm.Free.JP.mathPlain rfl (by decide +kernel)) hisR ?_
  intro p e s m args below meth c s₁ Bd hml0 hP hK
  obtain ⟨rfl, hZ, hh⟩ := hP
  have hx := Bd.exec
  have hby := Bd.bytes
  have hml : c.maxLocals = 2 := hml0
  have hown : s.vm.findClass "java/lang/Math" = some m.cls := findClass_of_methodNamed Bd.named
  have hnm := (name_of_methodNamed Bd.named Bd.method).1
  have hlk : meth.locks = false := BodyLoose.notSynchronized Bd
  have X0 : Stand p l e ({ frames := 0, cells := 0, slots := 0, locals := 0 } : Room) s m #[(.int x), (.int y)] below meth c s₁ [] 0 0 := Stand.of_body Bd
  have e0 : s₁.heap = h0 := by rw [← hh, Bd.state]; rfl
  have N0 := Fr.nil n0
  refine Go.enter (ef_11 m x y) ?_
  show Go p e s below ({ frames := 0, cells := 0, slots := 0, locals := 0 } : Room).cells ({ frames := 0, cells := 0, slots := 0, locals := 0 } : Room).slots (Q11 x y h0 n0) s₁ (mkF m 0 #[.val (.int x), .val (.int y)] [])
  refine Go.st (fun _ k_ => XS.iloadN X0.here hx rfl (hb hby d11_0) rfl k_) ?_
  show Go p e s below ({ frames := 0, cells := 0, slots := 0, locals := 0 } : Room).cells ({ frames := 0, cells := 0, slots := 0, locals := 0 } : Room).slots (Q11 x y h0 n0) s₁ (mkF m 1 #[.val (.int x), .val (.int y)] [(.int x)])
  refine Go.st (fun _ k_ => XS.iloadN X0.here hx rfl (hb hby d11_1) rfl k_) ?_
  by_cases hq : y < x
  · skip
    show Go p e s below ({ frames := 0, cells := 0, slots := 0, locals := 0 } : Room).cells ({ frames := 0, cells := 0, slots := 0, locals := 0 } : Room).slots (Q11 x y h0 n0) s₁ (mkF m 2 #[.val (.int x), .val (.int y)] [(.int y), (.int x)])
    refine Go.st (fun _ k_ => XS.icmpYes X0.here hx rfl (pc0 := 2) (pc' := 9) rfl (hb hby d11_2) rfl (tlt hq).2.2.1 (by decide) (by decide) k_) ?_
    show Go p e s below ({ frames := 0, cells := 0, slots := 0, locals := 0 } : Room).cells ({ frames := 0, cells := 0, slots := 0, locals := 0 } : Room).slots (Q11 x y h0 n0) s₁ (mkF m 9 #[.val (.int x), .val (.int y)] [])
    refine Go.st (fun _ k_ => XS.iloadN X0.here hx rfl (hb hby d11_9) rfl k_) ?_
    show Go p e s below ({ frames := 0, cells := 0, slots := 0, locals := 0 } : Room).cells ({ frames := 0, cells := 0, slots := 0, locals := 0 } : Room).slots (Q11 x y h0 n0) s₁ (mkF m 10 #[.val (.int x), .val (.int y)] [(.int y)])
    exact Go.retI X0 hx hlk Bd.returns (hb hby d11_10) (by decide) (by decide) ⟨by rw [if_pos hq], N0, e0⟩
  · skip
    show Go p e s below ({ frames := 0, cells := 0, slots := 0, locals := 0 } : Room).cells ({ frames := 0, cells := 0, slots := 0, locals := 0 } : Room).slots (Q11 x y h0 n0) s₁ (mkF m 2 #[.val (.int x), .val (.int y)] [(.int y), (.int x)])
    refine Go.st (fun _ k_ => XS.icmpNo X0.here hx rfl (hb hby d11_2) rfl (flt hq).2.2.1 k_) ?_
    show Go p e s below ({ frames := 0, cells := 0, slots := 0, locals := 0 } : Room).cells ({ frames := 0, cells := 0, slots := 0, locals := 0 } : Room).slots (Q11 x y h0 n0) s₁ (mkF m 5 #[.val (.int x), .val (.int y)] [])
    refine Go.st (fun _ k_ => XS.iloadN X0.here hx rfl (hb hby d11_5) rfl k_) ?_
    show Go p e s below ({ frames := 0, cells := 0, slots := 0, locals := 0 } : Room).cells ({ frames := 0, cells := 0, slots := 0, locals := 0 } : Room).slots (Q11 x y h0 n0) s₁ (mkF m 6 #[.val (.int x), .val (.int y)] [(.int x)])
    refine Go.st (fun _ k_ => XS.goto X0.here hx rfl (pc0 := 6) (pc' := 10) rfl (hb hby d11_6) (by decide) (by decide) k_) ?_
    show Go p e s below ({ frames := 0, cells := 0, slots := 0, locals := 0 } : Room).cells ({ frames := 0, cells := 0, slots := 0, locals := 0 } : Room).slots (Q11 x y h0 n0) s₁ (mkF m 10 #[.val (.int x), .val (.int y)] [(.int x)])
    exact Go.retI X0 hx hlk Bd.returns (hb hby d11_10) (by decide) (by decide) ⟨by rw [if_neg hq], N0, e0⟩
def Q12 (c : Int32) (h0 : Heap) (n0 : Nat) (v : Option Value) (h : Heap) (L : List Loc) : Prop := ∃ r : Int32, v = some (.int r) ∧ Fr n0 L ∧ h = h0 ∧ (r < 0 ↔ ¬ own_S c)
set_option maxRecDepth 65536 in
set_option maxHeartbeats 40000000 in
theorem rm12 (l : Launch) (Z : State) (a0 : Array Value) (hw : ∀ d ∈ tables_1, d.before a0 Z = true) (ws : List Jvm.Cond) (b : Addr) (c' : Int32) (h0 : Heap) (n0 : Nat) (Z0 : n0 ≤ h0.size) (VB : AV Z h0 b .byte 4 own_by)(h0c : ¬ c' < 0) (h1c : ¬ 255 < c') :
    MetFree l (⟨"java/lang/StringLatin1", "indexOfChar", "([BIII)I"⟩ : MethodName) (head1 (Jvm.Cond.code (⟨"java/lang/StringLatin1", "indexOfChar", "([BIII)I"⟩ : MethodName) jdk_43_method_23_code 6 (some .int) :: ws) ({ frames := 0, cells := 0, slots := 0, locals := 0 } : Room)) (fun a_ U_ => a_ = #[(.ref b), (.int c'), (.int (0 : Int32)), (.int (4 : Int32))] ∧ Z.Warmed39 U_.vm ∧ U_.heap = h0) (fun _ _ _ _ _ => True) (fun _ U_ o_ W_ => ∃ v_ L_, o_ = .returned v_ ∧ (Q12 c' h0 n0) v_ W_.heap L_ ∧ FrameEnd U_ o_ W_ L_ ({ frames := 0, cells := 0, slots := 0, locals := 0 } : Room).cells ({ frames := 0, cells := 0, slots := 0, locals := 0 } : Room).slots) := by
  refine MetFree.of_bodySF (plainFor_of_name pn_java_lang_StringLatin1) hisR ?_
  intro p e s m args below meth c s₁ Bd hml0 hP hK
  obtain ⟨rfl, hZ, hh⟩ := hP
  have hx := Bd.exec
  have hby := Bd.bytes
  have hml : c.maxLocals = 6 := hml0
  have hown : s.vm.findClass "java/lang/StringLatin1" = some m.cls := findClass_of_methodNamed Bd.named
  have hnm := (name_of_methodNamed Bd.named Bd.method).1
  have hlk : meth.locks = false := BodyLoose.notSynchronized Bd
  have X0 : Stand p l e ({ frames := 0, cells := 0, slots := 0, locals := 0 } : Room) s m #[(.ref b), (.int c'), (.int (0 : Int32)), (.int (4 : Int32))] below meth c s₁ [] 0 0 := Stand.of_body Bd
  have e0 : s₁.heap = h0 := by rw [← hh, Bd.state]; rfl
  have N0 := Fr.nil n0
  refine Go.enter (ef_12 m b c' (0 : Int32) (4 : Int32)) ?_
  have hib := own_i2b h0c h1c
  show Go p e s below ({ frames := 0, cells := 0, slots := 0, locals := 0 } : Room).cells ({ frames := 0, cells := 0, slots := 0, locals := 0 } : Room).slots (Q12 c' h0 n0) s₁ (mkF m 0 #[.val (.ref b), .val (.int c'), .val (.int (0 : Int32)), .val (.int (4 : Int32)), .unset, .unset] [])
  refine Go.st (fun _ k_ => XS.iloadN X0.here hx rfl (hb hby d12_0) rfl k_) ?_
  show Go p e s below ({ frames := 0, cells := 0, slots := 0, locals := 0 } : Room).cells ({ frames := 0, cells := 0, slots := 0, locals := 0 } : Room).slots (Q12 c' h0 n0) s₁ (mkF m 1 #[.val (.ref b), .val (.int c'), .val (.int (0 : Int32)), .val (.int (4 : Int32)), .unset, .unset] [(.int c')])
  refine Go.st (fun _ k_ => XS.i2b X0.here hx rfl (hb hby d12_1) rfl k_) ?_
  show Go p e s below ({ frames := 0, cells := 0, slots := 0, locals := 0 } : Room).cells ({ frames := 0, cells := 0, slots := 0, locals := 0 } : Room).slots (Q12 c' h0 n0) s₁ (mkF m 2 #[.val (.ref b), .val (.int c'), .val (.int (0 : Int32)), .val (.int (4 : Int32)), .unset, .unset] [(.int (c'.toInt8.toInt32))])
  obtain ⟨cb, hcb⟩ : ∃ z : Int32, z = c'.toInt8.toInt32 := ⟨_, rfl⟩
  rw [← hcb] at hib
  rw [← hcb]
  show Go p e s below ({ frames := 0, cells := 0, slots := 0, locals := 0 } : Room).cells ({ frames := 0, cells := 0, slots := 0, locals := 0 } : Room).slots (Q12 c' h0 n0) s₁ (mkF m 2 #[.val (.ref b), .val (.int c'), .val (.int (0 : Int32)), .val (.int (4 : Int32)), .unset, .unset] [(.int cb)])
  refine Go.st (fun _ k_ => XS.istore X0.here hx rfl (hb hby d12_2) rfl (l' := #[.val (.ref b), .val (.int c'), .val (.int (0 : Int32)), .val (.int (4 : Int32)), .val (.int cb), .unset]) rfl k_) ?_
  show Go p e s below ({ frames := 0, cells := 0, slots := 0, locals := 0 } : Room).cells ({ frames := 0, cells := 0, slots := 0, locals := 0 } : Room).slots (Q12 c' h0 n0) s₁ (mkF m 4 #[.val (.ref b), .val (.int c'), .val (.int (0 : Int32)), .val (.int (4 : Int32)), .val (.int cb), .unset] [])
  refine Go.st (fun _ k_ => XS.iloadN X0.here hx rfl (hb hby d12_4) rfl k_) ?_
  show Go p e s below ({ frames := 0, cells := 0, slots := 0, locals := 0 } : Room).cells ({ frames := 0, cells := 0, slots := 0, locals := 0 } : Room).slots (Q12 c' h0 n0) s₁ (mkF m 5 #[.val (.ref b), .val (.int c'), .val (.int (0 : Int32)), .val (.int (4 : Int32)), .val (.int cb), .unset] [(.int (0 : Int32))])
  refine Go.st (fun _ k_ => XS.istore X0.here hx rfl (hb hby d12_5) rfl (l' := #[.val (.ref b), .val (.int c'), .val (.int (0 : Int32)), .val (.int (4 : Int32)), .val (.int cb), .val (.int (0 : Int32))]) rfl k_) ?_
  show Go p e s below ({ frames := 0, cells := 0, slots := 0, locals := 0 } : Room).cells ({ frames := 0, cells := 0, slots := 0, locals := 0 } : Room).slots (Q12 c' h0 n0) s₁ (mkF m 7 #[.val (.ref b), .val (.int c'), .val (.int (0 : Int32)), .val (.int (4 : Int32)), .val (.int cb), .val (.int (0 : Int32))] [])
  refine Go.st (fun _ k_ => XS.iload X0.here hx rfl (hb hby d12_7) rfl k_) ?_
  show Go p e s below ({ frames := 0, cells := 0, slots := 0, locals := 0 } : Room).cells ({ frames := 0, cells := 0, slots := 0, locals := 0 } : Room).slots (Q12 c' h0 n0) s₁ (mkF m 9 #[.val (.ref b), .val (.int c'), .val (.int (0 : Int32)), .val (.int (4 : Int32)), .val (.int cb), .val (.int (0 : Int32))] [(.int (0 : Int32))])
  refine Go.st (fun _ k_ => XS.iloadN X0.here hx rfl (hb hby d12_9) rfl k_) ?_
  show Go p e s below ({ frames := 0, cells := 0, slots := 0, locals := 0 } : Room).cells ({ frames := 0, cells := 0, slots := 0, locals := 0 } : Room).slots (Q12 c' h0 n0) s₁ (mkF m 10 #[.val (.ref b), .val (.int c'), .val (.int (0 : Int32)), .val (.int (4 : Int32)), .val (.int cb), .val (.int (0 : Int32))] [(.int (4 : Int32)), (.int (0 : Int32))])
  refine Go.st (fun _ k_ => XS.icmpNo X0.here hx rfl (hb hby d12_10) rfl (tlt (by decide)).2.1 k_) ?_
  show Go p e s below ({ frames := 0, cells := 0, slots := 0, locals := 0 } : Room).cells ({ frames := 0, cells := 0, slots := 0, locals := 0 } : Room).slots (Q12 c' h0 n0) s₁ (mkF m 13 #[.val (.ref b), .val (.int c'), .val (.int (0 : Int32)), .val (.int (4 : Int32)), .val (.int cb), .val (.int (0 : Int32))] [])
  refine Go.st (fun _ k_ => XS.aloadN X0.here hx rfl (hb hby d12_13) rfl rfl k_) ?_
  show Go p e s below ({ frames := 0, cells := 0, slots := 0, locals := 0 } : Room).cells ({ frames := 0, cells := 0, slots := 0, locals := 0 } : Room).slots (Q12 c' h0 n0) s₁ (mkF m 14 #[.val (.ref b), .val (.int c'), .val (.int (0 : Int32)), .val (.int (4 : Int32)), .val (.int cb), .val (.int (0 : Int32))] [(.ref b)])
  refine Go.st (fun _ k_ => XS.iload X0.here hx rfl (hb hby d12_14) rfl k_) ?_
  show Go p e s below ({ frames := 0, cells := 0, slots := 0, locals := 0 } : Room).cells ({ frames := 0, cells := 0, slots := 0, locals := 0 } : Room).slots (Q12 c' h0 n0) s₁ (mkF m 16 #[.val (.ref b), .val (.int c'), .val (.int (0 : Int32)), .val (.int (4 : Int32)), .val (.int cb), .val (.int (0 : Int32))] [(.int (0 : Int32)), (.ref b)])
  refine Go.st (AV.ldB X0 hx hZ e0 VB (i := 0) rfl (by decide) (by decide) (g := (mkF m 16 #[.val (.ref b), .val (.int c'), .val (.int (0 : Int32)), .val (.int (4 : Int32)), .val (.int cb), .val (.int (0 : Int32))] [(.int (0 : Int32)), (.ref b)])) rfl rfl (hb hby d12_16)) ?_
  show Go p e s below ({ frames := 0, cells := 0, slots := 0, locals := 0 } : Room).cells ({ frames := 0, cells := 0, slots := 0, locals := 0 } : Room).slots (Q12 c' h0 n0) s₁ (mkF m 17 #[.val (.ref b), .val (.int c'), .val (.int (0 : Int32)), .val (.int (4 : Int32)), .val (.int cb), .val (.int (0 : Int32))] [(.int (own_by 0))])
  refine Go.st (fun _ k_ => XS.iload X0.here hx rfl (hb hby d12_17) rfl k_) ?_
  by_cases hq0 : (own_by 0) = cb
  · skip
    show Go p e s below ({ frames := 0, cells := 0, slots := 0, locals := 0 } : Room).cells ({ frames := 0, cells := 0, slots := 0, locals := 0 } : Room).slots (Q12 c' h0 n0) s₁ (mkF m 19 #[.val (.ref b), .val (.int c'), .val (.int (0 : Int32)), .val (.int (4 : Int32)), .val (.int cb), .val (.int (0 : Int32))] [(.int cb), (.int (own_by 0))])
    refine Go.st (fun _ k_ => XS.icmpNo X0.here hx rfl (hb hby d12_19) rfl (teq hq0).2 k_) ?_
    show Go p e s below ({ frames := 0, cells := 0, slots := 0, locals := 0 } : Room).cells ({ frames := 0, cells := 0, slots := 0, locals := 0 } : Room).slots (Q12 c' h0 n0) s₁ (mkF m 22 #[.val (.ref b), .val (.int c'), .val (.int (0 : Int32)), .val (.int (4 : Int32)), .val (.int cb), .val (.int (0 : Int32))] [])
    refine Go.st (fun _ k_ => XS.iload X0.here hx rfl (hb hby d12_22) rfl k_) ?_
    show Go p e s below ({ frames := 0, cells := 0, slots := 0, locals := 0 } : Room).cells ({ frames := 0, cells := 0, slots := 0, locals := 0 } : Room).slots (Q12 c' h0 n0) s₁ (mkF m 24 #[.val (.ref b), .val (.int c'), .val (.int (0 : Int32)), .val (.int (4 : Int32)), .val (.int cb), .val (.int (0 : Int32))] [(.int (0 : Int32))])
    exact Go.retI X0 hx hlk Bd.returns (hb hby d12_24) (by decide) (by decide) ⟨_, rfl, N0, e0, ⟨fun q => absurd q (by decide), fun q => absurd (Or.inl (hib.1.mp hq0.symm)) q⟩⟩
  · skip
    show Go p e s below ({ frames := 0, cells := 0, slots := 0, locals := 0 } : Room).cells ({ frames := 0, cells := 0, slots := 0, locals := 0 } : Room).slots (Q12 c' h0 n0) s₁ (mkF m 19 #[.val (.ref b), .val (.int c'), .val (.int (0 : Int32)), .val (.int (4 : Int32)), .val (.int cb), .val (.int (0 : Int32))] [(.int cb), (.int (own_by 0))])
    refine Go.st (fun _ k_ => XS.icmpYes X0.here hx rfl (pc0 := 19) (pc' := 25) rfl (hb hby d12_19) rfl (feq hq0).2 (by decide) (by decide) k_) ?_
    show Go p e s below ({ frames := 0, cells := 0, slots := 0, locals := 0 } : Room).cells ({ frames := 0, cells := 0, slots := 0, locals := 0 } : Room).slots (Q12 c' h0 n0) s₁ (mkF m 25 #[.val (.ref b), .val (.int c'), .val (.int (0 : Int32)), .val (.int (4 : Int32)), .val (.int cb), .val (.int (0 : Int32))] [])
    refine Go.st (fun _ k_ => XS.iinc X0.here hx rfl (hb hby d12_25) rfl (l' := #[.val (.ref b), .val (.int c'), .val (.int (0 : Int32)), .val (.int (4 : Int32)), .val (.int cb), .val (.int ((0 : Int32) + (1 : Int32)))]) rfl k_) ?_
    show Go p e s below ({ frames := 0, cells := 0, slots := 0, locals := 0 } : Room).cells ({ frames := 0, cells := 0, slots := 0, locals := 0 } : Room).slots (Q12 c' h0 n0) s₁ (mkF m 28 #[.val (.ref b), .val (.int c'), .val (.int (0 : Int32)), .val (.int (4 : Int32)), .val (.int cb), .val (.int ((0 : Int32) + (1 : Int32)))] [])
    refine Go.st (fun _ k_ => XS.goto X0.here hx rfl (pc0 := 28) (pc' := 7) rfl (hb hby d12_28) (by decide) (by decide) k_) ?_
    show Go p e s below ({ frames := 0, cells := 0, slots := 0, locals := 0 } : Room).cells ({ frames := 0, cells := 0, slots := 0, locals := 0 } : Room).slots (Q12 c' h0 n0) s₁ (mkF m 7 #[.val (.ref b), .val (.int c'), .val (.int (0 : Int32)), .val (.int (4 : Int32)), .val (.int cb), .val (.int ((0 : Int32) + (1 : Int32)))] [])
    show Go p e s below ({ frames := 0, cells := 0, slots := 0, locals := 0 } : Room).cells ({ frames := 0, cells := 0, slots := 0, locals := 0 } : Room).slots (Q12 c' h0 n0) s₁ (mkF m 7 #[.val (.ref b), .val (.int c'), .val (.int (0 : Int32)), .val (.int (4 : Int32)), .val (.int cb), .val (.int ((0 : Int32) + (1 : Int32)))] [])
    refine Go.st (fun _ k_ => XS.iload X0.here hx rfl (hb hby d12_7) rfl k_) ?_
    show Go p e s below ({ frames := 0, cells := 0, slots := 0, locals := 0 } : Room).cells ({ frames := 0, cells := 0, slots := 0, locals := 0 } : Room).slots (Q12 c' h0 n0) s₁ (mkF m 9 #[.val (.ref b), .val (.int c'), .val (.int (0 : Int32)), .val (.int (4 : Int32)), .val (.int cb), .val (.int ((0 : Int32) + (1 : Int32)))] [(.int ((0 : Int32) + (1 : Int32)))])
    refine Go.st (fun _ k_ => XS.iloadN X0.here hx rfl (hb hby d12_9) rfl k_) ?_
    show Go p e s below ({ frames := 0, cells := 0, slots := 0, locals := 0 } : Room).cells ({ frames := 0, cells := 0, slots := 0, locals := 0 } : Room).slots (Q12 c' h0 n0) s₁ (mkF m 10 #[.val (.ref b), .val (.int c'), .val (.int (0 : Int32)), .val (.int (4 : Int32)), .val (.int cb), .val (.int ((0 : Int32) + (1 : Int32)))] [(.int (4 : Int32)), (.int ((0 : Int32) + (1 : Int32)))])
    refine Go.st (fun _ k_ => XS.icmpNo X0.here hx rfl (hb hby d12_10) rfl (tlt (by decide)).2.1 k_) ?_
    show Go p e s below ({ frames := 0, cells := 0, slots := 0, locals := 0 } : Room).cells ({ frames := 0, cells := 0, slots := 0, locals := 0 } : Room).slots (Q12 c' h0 n0) s₁ (mkF m 13 #[.val (.ref b), .val (.int c'), .val (.int (0 : Int32)), .val (.int (4 : Int32)), .val (.int cb), .val (.int ((0 : Int32) + (1 : Int32)))] [])
    refine Go.st (fun _ k_ => XS.aloadN X0.here hx rfl (hb hby d12_13) rfl rfl k_) ?_
    show Go p e s below ({ frames := 0, cells := 0, slots := 0, locals := 0 } : Room).cells ({ frames := 0, cells := 0, slots := 0, locals := 0 } : Room).slots (Q12 c' h0 n0) s₁ (mkF m 14 #[.val (.ref b), .val (.int c'), .val (.int (0 : Int32)), .val (.int (4 : Int32)), .val (.int cb), .val (.int ((0 : Int32) + (1 : Int32)))] [(.ref b)])
    refine Go.st (fun _ k_ => XS.iload X0.here hx rfl (hb hby d12_14) rfl k_) ?_
    show Go p e s below ({ frames := 0, cells := 0, slots := 0, locals := 0 } : Room).cells ({ frames := 0, cells := 0, slots := 0, locals := 0 } : Room).slots (Q12 c' h0 n0) s₁ (mkF m 16 #[.val (.ref b), .val (.int c'), .val (.int (0 : Int32)), .val (.int (4 : Int32)), .val (.int cb), .val (.int ((0 : Int32) + (1 : Int32)))] [(.int ((0 : Int32) + (1 : Int32))), (.ref b)])
    refine Go.st (AV.ldB X0 hx hZ e0 VB (i := 1) rfl (by decide) (by decide) (g := (mkF m 16 #[.val (.ref b), .val (.int c'), .val (.int (0 : Int32)), .val (.int (4 : Int32)), .val (.int cb), .val (.int ((0 : Int32) + (1 : Int32)))] [(.int ((0 : Int32) + (1 : Int32))), (.ref b)])) rfl rfl (hb hby d12_16)) ?_
    show Go p e s below ({ frames := 0, cells := 0, slots := 0, locals := 0 } : Room).cells ({ frames := 0, cells := 0, slots := 0, locals := 0 } : Room).slots (Q12 c' h0 n0) s₁ (mkF m 17 #[.val (.ref b), .val (.int c'), .val (.int (0 : Int32)), .val (.int (4 : Int32)), .val (.int cb), .val (.int ((0 : Int32) + (1 : Int32)))] [(.int (own_by 1))])
    refine Go.st (fun _ k_ => XS.iload X0.here hx rfl (hb hby d12_17) rfl k_) ?_
    by_cases hq1 : (own_by 1) = cb
    · skip
      show Go p e s below ({ frames := 0, cells := 0, slots := 0, locals := 0 } : Room).cells ({ frames := 0, cells := 0, slots := 0, locals := 0 } : Room).slots (Q12 c' h0 n0) s₁ (mkF m 19 #[.val (.ref b), .val (.int c'), .val (.int (0 : Int32)), .val (.int (4 : Int32)), .val (.int cb), .val (.int ((0 : Int32) + (1 : Int32)))] [(.int cb), (.int (own_by 1))])
      refine Go.st (fun _ k_ => XS.icmpNo X0.here hx rfl (hb hby d12_19) rfl (teq hq1).2 k_) ?_
      show Go p e s below ({ frames := 0, cells := 0, slots := 0, locals := 0 } : Room).cells ({ frames := 0, cells := 0, slots := 0, locals := 0 } : Room).slots (Q12 c' h0 n0) s₁ (mkF m 22 #[.val (.ref b), .val (.int c'), .val (.int (0 : Int32)), .val (.int (4 : Int32)), .val (.int cb), .val (.int ((0 : Int32) + (1 : Int32)))] [])
      refine Go.st (fun _ k_ => XS.iload X0.here hx rfl (hb hby d12_22) rfl k_) ?_
      show Go p e s below ({ frames := 0, cells := 0, slots := 0, locals := 0 } : Room).cells ({ frames := 0, cells := 0, slots := 0, locals := 0 } : Room).slots (Q12 c' h0 n0) s₁ (mkF m 24 #[.val (.ref b), .val (.int c'), .val (.int (0 : Int32)), .val (.int (4 : Int32)), .val (.int cb), .val (.int ((0 : Int32) + (1 : Int32)))] [(.int ((0 : Int32) + (1 : Int32)))])
      exact Go.retI X0 hx hlk Bd.returns (hb hby d12_24) (by decide) (by decide) ⟨_, rfl, N0, e0, ⟨fun q => absurd q (by decide), fun q => absurd (Or.inr (Or.inl (hib.2.1.mp hq1.symm))) q⟩⟩
    · skip
      show Go p e s below ({ frames := 0, cells := 0, slots := 0, locals := 0 } : Room).cells ({ frames := 0, cells := 0, slots := 0, locals := 0 } : Room).slots (Q12 c' h0 n0) s₁ (mkF m 19 #[.val (.ref b), .val (.int c'), .val (.int (0 : Int32)), .val (.int (4 : Int32)), .val (.int cb), .val (.int ((0 : Int32) + (1 : Int32)))] [(.int cb), (.int (own_by 1))])
      refine Go.st (fun _ k_ => XS.icmpYes X0.here hx rfl (pc0 := 19) (pc' := 25) rfl (hb hby d12_19) rfl (feq hq1).2 (by decide) (by decide) k_) ?_
      show Go p e s below ({ frames := 0, cells := 0, slots := 0, locals := 0 } : Room).cells ({ frames := 0, cells := 0, slots := 0, locals := 0 } : Room).slots (Q12 c' h0 n0) s₁ (mkF m 25 #[.val (.ref b), .val (.int c'), .val (.int (0 : Int32)), .val (.int (4 : Int32)), .val (.int cb), .val (.int ((0 : Int32) + (1 : Int32)))] [])
      refine Go.st (fun _ k_ => XS.iinc X0.here hx rfl (hb hby d12_25) rfl (l' := #[.val (.ref b), .val (.int c'), .val (.int (0 : Int32)), .val (.int (4 : Int32)), .val (.int cb), .val (.int (((0 : Int32) + (1 : Int32)) + (1 : Int32)))]) rfl k_) ?_
      show Go p e s below ({ frames := 0, cells := 0, slots := 0, locals := 0 } : Room).cells ({ frames := 0, cells := 0, slots := 0, locals := 0 } : Room).slots (Q12 c' h0 n0) s₁ (mkF m 28 #[.val (.ref b), .val (.int c'), .val (.int (0 : Int32)), .val (.int (4 : Int32)), .val (.int cb), .val (.int (((0 : Int32) + (1 : Int32)) + (1 : Int32)))] [])
      refine Go.st (fun _ k_ => XS.goto X0.here hx rfl (pc0 := 28) (pc' := 7) rfl (hb hby d12_28) (by decide) (by decide) k_) ?_
      show Go p e s below ({ frames := 0, cells := 0, slots := 0, locals := 0 } : Room).cells ({ frames := 0, cells := 0, slots := 0, locals := 0 } : Room).slots (Q12 c' h0 n0) s₁ (mkF m 7 #[.val (.ref b), .val (.int c'), .val (.int (0 : Int32)), .val (.int (4 : Int32)), .val (.int cb), .val (.int (((0 : Int32) + (1 : Int32)) + (1 : Int32)))] [])
      show Go p e s below ({ frames := 0, cells := 0, slots := 0, locals := 0 } : Room).cells ({ frames := 0, cells := 0, slots := 0, locals := 0 } : Room).slots (Q12 c' h0 n0) s₁ (mkF m 7 #[.val (.ref b), .val (.int c'), .val (.int (0 : Int32)), .val (.int (4 : Int32)), .val (.int cb), .val (.int (((0 : Int32) + (1 : Int32)) + (1 : Int32)))] [])
      refine Go.st (fun _ k_ => XS.iload X0.here hx rfl (hb hby d12_7) rfl k_) ?_
      show Go p e s below ({ frames := 0, cells := 0, slots := 0, locals := 0 } : Room).cells ({ frames := 0, cells := 0, slots := 0, locals := 0 } : Room).slots (Q12 c' h0 n0) s₁ (mkF m 9 #[.val (.ref b), .val (.int c'), .val (.int (0 : Int32)), .val (.int (4 : Int32)), .val (.int cb), .val (.int (((0 : Int32) + (1 : Int32)) + (1 : Int32)))] [(.int (((0 : Int32) + (1 : Int32)) + (1 : Int32)))])
      refine Go.st (fun _ k_ => XS.iloadN X0.here hx rfl (hb hby d12_9) rfl k_) ?_
      show Go p e s below ({ frames := 0, cells := 0, slots := 0, locals := 0 } : Room).cells ({ frames := 0, cells := 0, slots := 0, locals := 0 } : Room).slots (Q12 c' h0 n0) s₁ (mkF m 10 #[.val (.ref b), .val (.int c'), .val (.int (0 : Int32)), .val (.int (4 : Int32)), .val (.int cb), .val (.int (((0 : Int32) + (1 : Int32)) + (1 : Int32)))] [(.int (4 : Int32)), (.int (((0 : Int32) + (1 : Int32)) + (1 : Int32)))])
      refine Go.st (fun _ k_ => XS.icmpNo X0.here hx rfl (hb hby d12_10) rfl (tlt (by decide)).2.1 k_) ?_
      show Go p e s below ({ frames := 0, cells := 0, slots := 0, locals := 0 } : Room).cells ({ frames := 0, cells := 0, slots := 0, locals := 0 } : Room).slots (Q12 c' h0 n0) s₁ (mkF m 13 #[.val (.ref b), .val (.int c'), .val (.int (0 : Int32)), .val (.int (4 : Int32)), .val (.int cb), .val (.int (((0 : Int32) + (1 : Int32)) + (1 : Int32)))] [])
      refine Go.st (fun _ k_ => XS.aloadN X0.here hx rfl (hb hby d12_13) rfl rfl k_) ?_
      show Go p e s below ({ frames := 0, cells := 0, slots := 0, locals := 0 } : Room).cells ({ frames := 0, cells := 0, slots := 0, locals := 0 } : Room).slots (Q12 c' h0 n0) s₁ (mkF m 14 #[.val (.ref b), .val (.int c'), .val (.int (0 : Int32)), .val (.int (4 : Int32)), .val (.int cb), .val (.int (((0 : Int32) + (1 : Int32)) + (1 : Int32)))] [(.ref b)])
      refine Go.st (fun _ k_ => XS.iload X0.here hx rfl (hb hby d12_14) rfl k_) ?_
      show Go p e s below ({ frames := 0, cells := 0, slots := 0, locals := 0 } : Room).cells ({ frames := 0, cells := 0, slots := 0, locals := 0 } : Room).slots (Q12 c' h0 n0) s₁ (mkF m 16 #[.val (.ref b), .val (.int c'), .val (.int (0 : Int32)), .val (.int (4 : Int32)), .val (.int cb), .val (.int (((0 : Int32) + (1 : Int32)) + (1 : Int32)))] [(.int (((0 : Int32) + (1 : Int32)) + (1 : Int32))), (.ref b)])
      refine Go.st (AV.ldB X0 hx hZ e0 VB (i := 2) rfl (by decide) (by decide) (g := (mkF m 16 #[.val (.ref b), .val (.int c'), .val (.int (0 : Int32)), .val (.int (4 : Int32)), .val (.int cb), .val (.int (((0 : Int32) + (1 : Int32)) + (1 : Int32)))] [(.int (((0 : Int32) + (1 : Int32)) + (1 : Int32))), (.ref b)])) rfl rfl (hb hby d12_16)) ?_
      show Go p e s below ({ frames := 0, cells := 0, slots := 0, locals := 0 } : Room).cells ({ frames := 0, cells := 0, slots := 0, locals := 0 } : Room).slots (Q12 c' h0 n0) s₁ (mkF m 17 #[.val (.ref b), .val (.int c'), .val (.int (0 : Int32)), .val (.int (4 : Int32)), .val (.int cb), .val (.int (((0 : Int32) + (1 : Int32)) + (1 : Int32)))] [(.int (own_by 2))])
      refine Go.st (fun _ k_ => XS.iload X0.here hx rfl (hb hby d12_17) rfl k_) ?_
      by_cases hq2 : (own_by 2) = cb
      · skip
        show Go p e s below ({ frames := 0, cells := 0, slots := 0, locals := 0 } : Room).cells ({ frames := 0, cells := 0, slots := 0, locals := 0 } : Room).slots (Q12 c' h0 n0) s₁ (mkF m 19 #[.val (.ref b), .val (.int c'), .val (.int (0 : Int32)), .val (.int (4 : Int32)), .val (.int cb), .val (.int (((0 : Int32) + (1 : Int32)) + (1 : Int32)))] [(.int cb), (.int (own_by 2))])
        refine Go.st (fun _ k_ => XS.icmpNo X0.here hx rfl (hb hby d12_19) rfl (teq hq2).2 k_) ?_
        show Go p e s below ({ frames := 0, cells := 0, slots := 0, locals := 0 } : Room).cells ({ frames := 0, cells := 0, slots := 0, locals := 0 } : Room).slots (Q12 c' h0 n0) s₁ (mkF m 22 #[.val (.ref b), .val (.int c'), .val (.int (0 : Int32)), .val (.int (4 : Int32)), .val (.int cb), .val (.int (((0 : Int32) + (1 : Int32)) + (1 : Int32)))] [])
        refine Go.st (fun _ k_ => XS.iload X0.here hx rfl (hb hby d12_22) rfl k_) ?_
        show Go p e s below ({ frames := 0, cells := 0, slots := 0, locals := 0 } : Room).cells ({ frames := 0, cells := 0, slots := 0, locals := 0 } : Room).slots (Q12 c' h0 n0) s₁ (mkF m 24 #[.val (.ref b), .val (.int c'), .val (.int (0 : Int32)), .val (.int (4 : Int32)), .val (.int cb), .val (.int (((0 : Int32) + (1 : Int32)) + (1 : Int32)))] [(.int (((0 : Int32) + (1 : Int32)) + (1 : Int32)))])
        exact Go.retI X0 hx hlk Bd.returns (hb hby d12_24) (by decide) (by decide) ⟨_, rfl, N0, e0, ⟨fun q => absurd q (by decide), fun q => absurd (Or.inr (Or.inr (Or.inl (hib.2.2.1.mp hq2.symm)))) q⟩⟩
      · skip
        show Go p e s below ({ frames := 0, cells := 0, slots := 0, locals := 0 } : Room).cells ({ frames := 0, cells := 0, slots := 0, locals := 0 } : Room).slots (Q12 c' h0 n0) s₁ (mkF m 19 #[.val (.ref b), .val (.int c'), .val (.int (0 : Int32)), .val (.int (4 : Int32)), .val (.int cb), .val (.int (((0 : Int32) + (1 : Int32)) + (1 : Int32)))] [(.int cb), (.int (own_by 2))])
        refine Go.st (fun _ k_ => XS.icmpYes X0.here hx rfl (pc0 := 19) (pc' := 25) rfl (hb hby d12_19) rfl (feq hq2).2 (by decide) (by decide) k_) ?_
        show Go p e s below ({ frames := 0, cells := 0, slots := 0, locals := 0 } : Room).cells ({ frames := 0, cells := 0, slots := 0, locals := 0 } : Room).slots (Q12 c' h0 n0) s₁ (mkF m 25 #[.val (.ref b), .val (.int c'), .val (.int (0 : Int32)), .val (.int (4 : Int32)), .val (.int cb), .val (.int (((0 : Int32) + (1 : Int32)) + (1 : Int32)))] [])
        refine Go.st (fun _ k_ => XS.iinc X0.here hx rfl (hb hby d12_25) rfl (l' := #[.val (.ref b), .val (.int c'), .val (.int (0 : Int32)), .val (.int (4 : Int32)), .val (.int cb), .val (.int ((((0 : Int32) + (1 : Int32)) + (1 : Int32)) + (1 : Int32)))]) rfl k_) ?_
        show Go p e s below ({ frames := 0, cells := 0, slots := 0, locals := 0 } : Room).cells ({ frames := 0, cells := 0, slots := 0, locals := 0 } : Room).slots (Q12 c' h0 n0) s₁ (mkF m 28 #[.val (.ref b), .val (.int c'), .val (.int (0 : Int32)), .val (.int (4 : Int32)), .val (.int cb), .val (.int ((((0 : Int32) + (1 : Int32)) + (1 : Int32)) + (1 : Int32)))] [])
        refine Go.st (fun _ k_ => XS.goto X0.here hx rfl (pc0 := 28) (pc' := 7) rfl (hb hby d12_28) (by decide) (by decide) k_) ?_
        show Go p e s below ({ frames := 0, cells := 0, slots := 0, locals := 0 } : Room).cells ({ frames := 0, cells := 0, slots := 0, locals := 0 } : Room).slots (Q12 c' h0 n0) s₁ (mkF m 7 #[.val (.ref b), .val (.int c'), .val (.int (0 : Int32)), .val (.int (4 : Int32)), .val (.int cb), .val (.int ((((0 : Int32) + (1 : Int32)) + (1 : Int32)) + (1 : Int32)))] [])
        show Go p e s below ({ frames := 0, cells := 0, slots := 0, locals := 0 } : Room).cells ({ frames := 0, cells := 0, slots := 0, locals := 0 } : Room).slots (Q12 c' h0 n0) s₁ (mkF m 7 #[.val (.ref b), .val (.int c'), .val (.int (0 : Int32)), .val (.int (4 : Int32)), .val (.int cb), .val (.int ((((0 : Int32) + (1 : Int32)) + (1 : Int32)) + (1 : Int32)))] [])
        refine Go.st (fun _ k_ => XS.iload X0.here hx rfl (hb hby d12_7) rfl k_) ?_
        show Go p e s below ({ frames := 0, cells := 0, slots := 0, locals := 0 } : Room).cells ({ frames := 0, cells := 0, slots := 0, locals := 0 } : Room).slots (Q12 c' h0 n0) s₁ (mkF m 9 #[.val (.ref b), .val (.int c'), .val (.int (0 : Int32)), .val (.int (4 : Int32)), .val (.int cb), .val (.int ((((0 : Int32) + (1 : Int32)) + (1 : Int32)) + (1 : Int32)))] [(.int ((((0 : Int32) + (1 : Int32)) + (1 : Int32)) + (1 : Int32)))])
        refine Go.st (fun _ k_ => XS.iloadN X0.here hx rfl (hb hby d12_9) rfl k_) ?_
        show Go p e s below ({ frames := 0, cells := 0, slots := 0, locals := 0 } : Room).cells ({ frames := 0, cells := 0, slots := 0, locals := 0 } : Room).slots (Q12 c' h0 n0) s₁ (mkF m 10 #[.val (.ref b), .val (.int c'), .val (.int (0 : Int32)), .val (.int (4 : Int32)), .val (.int cb), .val (.int ((((0 : Int32) + (1 : Int32)) + (1 : Int32)) + (1 : Int32)))] [(.int (4 : Int32)), (.int ((((0 : Int32) + (1 : Int32)) + (1 : Int32)) + (1 : Int32)))])
        refine Go.st (fun _ k_ => XS.icmpNo X0.here hx rfl (hb hby d12_10) rfl (tlt (by decide)).2.1 k_) ?_
        show Go p e s below ({ frames := 0, cells := 0, slots := 0, locals := 0 } : Room).cells ({ frames := 0, cells := 0, slots := 0, locals := 0 } : Room).slots (Q12 c' h0 n0) s₁ (mkF m 13 #[.val (.ref b), .val (.int c'), .val (.int (0 : Int32)), .val (.int (4 : Int32)), .val (.int cb), .val (.int ((((0 : Int32) + (1 : Int32)) + (1 : Int32)) + (1 : Int32)))] [])
        refine Go.st (fun _ k_ => XS.aloadN X0.here hx rfl (hb hby d12_13) rfl rfl k_) ?_
        show Go p e s below ({ frames := 0, cells := 0, slots := 0, locals := 0 } : Room).cells ({ frames := 0, cells := 0, slots := 0, locals := 0 } : Room).slots (Q12 c' h0 n0) s₁ (mkF m 14 #[.val (.ref b), .val (.int c'), .val (.int (0 : Int32)), .val (.int (4 : Int32)), .val (.int cb), .val (.int ((((0 : Int32) + (1 : Int32)) + (1 : Int32)) + (1 : Int32)))] [(.ref b)])
        refine Go.st (fun _ k_ => XS.iload X0.here hx rfl (hb hby d12_14) rfl k_) ?_
        show Go p e s below ({ frames := 0, cells := 0, slots := 0, locals := 0 } : Room).cells ({ frames := 0, cells := 0, slots := 0, locals := 0 } : Room).slots (Q12 c' h0 n0) s₁ (mkF m 16 #[.val (.ref b), .val (.int c'), .val (.int (0 : Int32)), .val (.int (4 : Int32)), .val (.int cb), .val (.int ((((0 : Int32) + (1 : Int32)) + (1 : Int32)) + (1 : Int32)))] [(.int ((((0 : Int32) + (1 : Int32)) + (1 : Int32)) + (1 : Int32))), (.ref b)])
        refine Go.st (AV.ldB X0 hx hZ e0 VB (i := 3) rfl (by decide) (by decide) (g := (mkF m 16 #[.val (.ref b), .val (.int c'), .val (.int (0 : Int32)), .val (.int (4 : Int32)), .val (.int cb), .val (.int ((((0 : Int32) + (1 : Int32)) + (1 : Int32)) + (1 : Int32)))] [(.int ((((0 : Int32) + (1 : Int32)) + (1 : Int32)) + (1 : Int32))), (.ref b)])) rfl rfl (hb hby d12_16)) ?_
        show Go p e s below ({ frames := 0, cells := 0, slots := 0, locals := 0 } : Room).cells ({ frames := 0, cells := 0, slots := 0, locals := 0 } : Room).slots (Q12 c' h0 n0) s₁ (mkF m 17 #[.val (.ref b), .val (.int c'), .val (.int (0 : Int32)), .val (.int (4 : Int32)), .val (.int cb), .val (.int ((((0 : Int32) + (1 : Int32)) + (1 : Int32)) + (1 : Int32)))] [(.int (own_by 3))])
        refine Go.st (fun _ k_ => XS.iload X0.here hx rfl (hb hby d12_17) rfl k_) ?_
        by_cases hq3 : (own_by 3) = cb
        · skip
          show Go p e s below ({ frames := 0, cells := 0, slots := 0, locals := 0 } : Room).cells ({ frames := 0, cells := 0, slots := 0, locals := 0 } : Room).slots (Q12 c' h0 n0) s₁ (mkF m 19 #[.val (.ref b), .val (.int c'), .val (.int (0 : Int32)), .val (.int (4 : Int32)), .val (.int cb), .val (.int ((((0 : Int32) + (1 : Int32)) + (1 : Int32)) + (1 : Int32)))] [(.int cb), (.int (own_by 3))])
          refine Go.st (fun _ k_ => XS.icmpNo X0.here hx rfl (hb hby d12_19) rfl (teq hq3).2 k_) ?_
          show Go p e s below ({ frames := 0, cells := 0, slots := 0, locals := 0 } : Room).cells ({ frames := 0, cells := 0, slots := 0, locals := 0 } : Room).slots (Q12 c' h0 n0) s₁ (mkF m 22 #[.val (.ref b), .val (.int c'), .val (.int (0 : Int32)), .val (.int (4 : Int32)), .val (.int cb), .val (.int ((((0 : Int32) + (1 : Int32)) + (1 : Int32)) + (1 : Int32)))] [])
          refine Go.st (fun _ k_ => XS.iload X0.here hx rfl (hb hby d12_22) rfl k_) ?_
          show Go p e s below ({ frames := 0, cells := 0, slots := 0, locals := 0 } : Room).cells ({ frames := 0, cells := 0, slots := 0, locals := 0 } : Room).slots (Q12 c' h0 n0) s₁ (mkF m 24 #[.val (.ref b), .val (.int c'), .val (.int (0 : Int32)), .val (.int (4 : Int32)), .val (.int cb), .val (.int ((((0 : Int32) + (1 : Int32)) + (1 : Int32)) + (1 : Int32)))] [(.int ((((0 : Int32) + (1 : Int32)) + (1 : Int32)) + (1 : Int32)))])
          exact Go.retI X0 hx hlk Bd.returns (hb hby d12_24) (by decide) (by decide) ⟨_, rfl, N0, e0, ⟨fun q => absurd q (by decide), fun q => absurd (Or.inr (Or.inr (Or.inr (hib.2.2.2.mp hq3.symm)))) q⟩⟩
        · skip
          show Go p e s below ({ frames := 0, cells := 0, slots := 0, locals := 0 } : Room).cells ({ frames := 0, cells := 0, slots := 0, locals := 0 } : Room).slots (Q12 c' h0 n0) s₁ (mkF m 19 #[.val (.ref b), .val (.int c'), .val (.int (0 : Int32)), .val (.int (4 : Int32)), .val (.int cb), .val (.int ((((0 : Int32) + (1 : Int32)) + (1 : Int32)) + (1 : Int32)))] [(.int cb), (.int (own_by 3))])
          refine Go.st (fun _ k_ => XS.icmpYes X0.here hx rfl (pc0 := 19) (pc' := 25) rfl (hb hby d12_19) rfl (feq hq3).2 (by decide) (by decide) k_) ?_
          show Go p e s below ({ frames := 0, cells := 0, slots := 0, locals := 0 } : Room).cells ({ frames := 0, cells := 0, slots := 0, locals := 0 } : Room).slots (Q12 c' h0 n0) s₁ (mkF m 25 #[.val (.ref b), .val (.int c'), .val (.int (0 : Int32)), .val (.int (4 : Int32)), .val (.int cb), .val (.int ((((0 : Int32) + (1 : Int32)) + (1 : Int32)) + (1 : Int32)))] [])
          refine Go.st (fun _ k_ => XS.iinc X0.here hx rfl (hb hby d12_25) rfl (l' := #[.val (.ref b), .val (.int c'), .val (.int (0 : Int32)), .val (.int (4 : Int32)), .val (.int cb), .val (.int (((((0 : Int32) + (1 : Int32)) + (1 : Int32)) + (1 : Int32)) + (1 : Int32)))]) rfl k_) ?_
          show Go p e s below ({ frames := 0, cells := 0, slots := 0, locals := 0 } : Room).cells ({ frames := 0, cells := 0, slots := 0, locals := 0 } : Room).slots (Q12 c' h0 n0) s₁ (mkF m 28 #[.val (.ref b), .val (.int c'), .val (.int (0 : Int32)), .val (.int (4 : Int32)), .val (.int cb), .val (.int (((((0 : Int32) + (1 : Int32)) + (1 : Int32)) + (1 : Int32)) + (1 : Int32)))] [])
          refine Go.st (fun _ k_ => XS.goto X0.here hx rfl (pc0 := 28) (pc' := 7) rfl (hb hby d12_28) (by decide) (by decide) k_) ?_
          show Go p e s below ({ frames := 0, cells := 0, slots := 0, locals := 0 } : Room).cells ({ frames := 0, cells := 0, slots := 0, locals := 0 } : Room).slots (Q12 c' h0 n0) s₁ (mkF m 7 #[.val (.ref b), .val (.int c'), .val (.int (0 : Int32)), .val (.int (4 : Int32)), .val (.int cb), .val (.int (((((0 : Int32) + (1 : Int32)) + (1 : Int32)) + (1 : Int32)) + (1 : Int32)))] [])
          show Go p e s below ({ frames := 0, cells := 0, slots := 0, locals := 0 } : Room).cells ({ frames := 0, cells := 0, slots := 0, locals := 0 } : Room).slots (Q12 c' h0 n0) s₁ (mkF m 7 #[.val (.ref b), .val (.int c'), .val (.int (0 : Int32)), .val (.int (4 : Int32)), .val (.int cb), .val (.int (((((0 : Int32) + (1 : Int32)) + (1 : Int32)) + (1 : Int32)) + (1 : Int32)))] [])
          refine Go.st (fun _ k_ => XS.iload X0.here hx rfl (hb hby d12_7) rfl k_) ?_
          show Go p e s below ({ frames := 0, cells := 0, slots := 0, locals := 0 } : Room).cells ({ frames := 0, cells := 0, slots := 0, locals := 0 } : Room).slots (Q12 c' h0 n0) s₁ (mkF m 9 #[.val (.ref b), .val (.int c'), .val (.int (0 : Int32)), .val (.int (4 : Int32)), .val (.int cb), .val (.int (((((0 : Int32) + (1 : Int32)) + (1 : Int32)) + (1 : Int32)) + (1 : Int32)))] [(.int (((((0 : Int32) + (1 : Int32)) + (1 : Int32)) + (1 : Int32)) + (1 : Int32)))])
          refine Go.st (fun _ k_ => XS.iloadN X0.here hx rfl (hb hby d12_9) rfl k_) ?_
          show Go p e s below ({ frames := 0, cells := 0, slots := 0, locals := 0 } : Room).cells ({ frames := 0, cells := 0, slots := 0, locals := 0 } : Room).slots (Q12 c' h0 n0) s₁ (mkF m 10 #[.val (.ref b), .val (.int c'), .val (.int (0 : Int32)), .val (.int (4 : Int32)), .val (.int cb), .val (.int (((((0 : Int32) + (1 : Int32)) + (1 : Int32)) + (1 : Int32)) + (1 : Int32)))] [(.int (4 : Int32)), (.int (((((0 : Int32) + (1 : Int32)) + (1 : Int32)) + (1 : Int32)) + (1 : Int32)))])
          refine Go.st (fun _ k_ => XS.icmpYes X0.here hx rfl (pc0 := 10) (pc' := 31) rfl (hb hby d12_10) rfl (flt (by decide)).2.1 (by decide) (by decide) k_) ?_
          show Go p e s below ({ frames := 0, cells := 0, slots := 0, locals := 0 } : Room).cells ({ frames := 0, cells := 0, slots := 0, locals := 0 } : Room).slots (Q12 c' h0 n0) s₁ (mkF m 31 #[.val (.ref b), .val (.int c'), .val (.int (0 : Int32)), .val (.int (4 : Int32)), .val (.int cb), .val (.int (((((0 : Int32) + (1 : Int32)) + (1 : Int32)) + (1 : Int32)) + (1 : Int32)))] [])
          refine Go.st (fun _ k_ => XS.iconst X0.here hx rfl (hb hby d12_31) k_) ?_
          show Go p e s below ({ frames := 0, cells := 0, slots := 0, locals := 0 } : Room).cells ({ frames := 0, cells := 0, slots := 0, locals := 0 } : Room).slots (Q12 c' h0 n0) s₁ (mkF m 32 #[.val (.ref b), .val (.int c'), .val (.int (0 : Int32)), .val (.int (4 : Int32)), .val (.int cb), .val (.int (((((0 : Int32) + (1 : Int32)) + (1 : Int32)) + (1 : Int32)) + (1 : Int32)))] [(.int (-1 : Int32))])
          exact Go.retI X0 hx hlk Bd.returns (hb hby d12_32) (by decide) (by decide) ⟨_, rfl, N0, e0, ⟨fun _ => own_no hib hq0 hq1 hq2 hq3, fun _ => by decide⟩⟩
def Q8 (c : Int32) (h0 : Heap) (n0 : Nat) (v : Option Value) (h : Heap) (L : List Loc) : Prop := ∃ r : Int32, v = some (.int r) ∧ Fr n0 L ∧ h = h0 ∧ (r < 0 ↔ ¬ own_S c)
set_option maxRecDepth 65536 in
set_option maxHeartbeats 40000000 in
theorem rm8 (l : Launch) (Z : State) (a0 : Array Value) (hw : ∀ d ∈ tables_1, d.before a0 Z = true) (ws : List Jvm.Cond) (b : Addr) (c' : Int32) (h0 : Heap) (n0 : Nat) (Z0 : n0 ≤ h0.size) (VB : AV Z h0 b .byte 4 own_by) :
    MetFree l (⟨"java/lang/StringLatin1", "indexOf", "([BIII)I"⟩ : MethodName) (head1 (Jvm.Cond.code (⟨"java/lang/StringLatin1", "indexOf", "([BIII)I"⟩ : MethodName) jdk_43_method_22_code 4 (some .int) :: ws) ({ frames := 1, cells := 0, slots := 0, locals := 17 } : Room)) (fun a_ U_ => a_ = #[(.ref b), (.int c'), (.int (0 : Int32)), (.int (4 : Int32))] ∧ Z.Warmed39 U_.vm ∧ U_.heap = h0) (fun _ _ _ _ _ => True) (fun _ U_ o_ W_ => ∃ v_ L_, o_ = .returned v_ ∧ (Q8 c' h0 n0) v_ W_.heap L_ ∧ FrameEnd U_ o_ W_ L_ ({ frames := 1, cells := 0, slots := 0, locals := 17 } : Room).cells ({ frames := 1, cells := 0, slots := 0, locals := 17 } : Room).slots) := by
  refine MetFree.of_bodySF (plainFor_of_name pn_java_lang_StringLatin1) hisR ?_
  intro p e s m args below meth c s₁ Bd hml0 hP hK
  obtain ⟨rfl, hZ, hh⟩ := hP
  have hx := Bd.exec
  have hby := Bd.bytes
  have hml : c.maxLocals = 4 := hml0
  have hown : s.vm.findClass "java/lang/StringLatin1" = some m.cls := findClass_of_methodNamed Bd.named
  have hnm := (name_of_methodNamed Bd.named Bd.method).1
  have hlk : meth.locks = false := BodyLoose.notSynchronized Bd
  have X0 : Stand p l e ({ frames := 1, cells := 0, slots := 0, locals := 17 } : Room) s m #[(.ref b), (.int c'), (.int (0 : Int32)), (.int (4 : Int32))] below meth c s₁ [] 0 0 := Stand.of_body Bd
  have e0 : s₁.heap = h0 := by rw [← hh, Bd.state]; rfl
  have N0 := Fr.nil n0
  refine Go.enter (ef_8 m b c' (0 : Int32) (4 : Int32)) ?_
  show Go p e s below ({ frames := 1, cells := 0, slots := 0, locals := 17 } : Room).cells ({ frames := 1, cells := 0, slots := 0, locals := 17 } : Room).slots (Q8 c' h0 n0) s₁ (mkF m 0 #[.val (.ref b), .val (.int c'), .val (.int (0 : Int32)), .val (.int (4 : Int32))] [])
  refine Go.st (fun _ k_ => XS.iloadN X0.here hx rfl (hb hby d8_0) rfl k_) ?_
  show Go p e s below ({ frames := 1, cells := 0, slots := 0, locals := 17 } : Room).cells ({ frames := 1, cells := 0, slots := 0, locals := 17 } : Room).slots (Q8 c' h0 n0) s₁ (mkF m 1 #[.val (.ref b), .val (.int c'), .val (.int (0 : Int32)), .val (.int (4 : Int32))] [(.int c')])
  obtain ⟨_, _, ⟨T7, L7, k7, n7⟩, -, X7, ⟨Lc7, hQ7, l7, y7, z7⟩, st7⟩ := Jvm.LawKit.callS X0 hx (y := (⟨"java/lang/StringLatin1", "canEncode", "(I)Z"⟩ : MethodName)) hown (mvT hZ (hw _ (List.mem_of_getElem? (i := 48) rfl))) (mvT hZ (hw _ (List.mem_of_getElem? (i := 49) rfl))) (mvT hZ (hw _ (List.mem_of_getElem? (i := 46) rfl))) (mvT hZ (hw _ (List.mem_of_getElem? (i := 50) rfl))) (by decide) (backOf (W := 0) (rm9 l Z a0 hw [] c' h0 n0 Z0) hZ (hw _ (List.mem_of_getElem? (i := 50) rfl)) (hw _ (List.mem_of_getElem? (i := 46) rfl)) (by decide) (by decide)) (g := (mkF m 1 #[.val (.ref b), .val (.int c'), .val (.int (0 : Int32)), .val (.int (4 : Int32))] [(.int c')])) rfl (by rw [hml]; rfl) (argsL := [(.int c')]) (rest := []) (lenOf pd_4 rfl) rfl (by show 2 * 0 + _ ≤ _; exact Nat.le_of_eq rfl) (hb hby d8_1) (fun _ _ => ⟨rfl, e0, (by decide : 0 + 0 ≤ _), (by decide : 0 + 0 ≤ _)⟩)
  dsimp only [Pt.U, Pt.locs, Pt.cells, Pt.slots] at X7 l7 y7 z7 st7 hQ7
  subst l7 y7 z7
  obtain ⟨rfl, hN7, e9⟩ := hQ7
  have N7 := Fr.app N0 hN7
  refine Go.st st7 ?_
  by_cases hcan : ¬ c' < 0 ∧ ¬ 255 < c'
  · skip
    show Go p e s below ({ frames := 1, cells := 0, slots := 0, locals := 17 } : Room).cells ({ frames := 1, cells := 0, slots := 0, locals := 17 } : Room).slots (Q8 c' h0 n0) T7 (mkF m 4 #[.val (.ref b), .val (.int c'), .val (.int (0 : Int32)), .val (.int (4 : Int32))] [(.int (own_b (¬ c' < 0 ∧ ¬ 255 < c')))])
    refine Go.st (fun _ k_ => XS.ifYes X7.here hx rfl (pc0 := 4) (pc' := 9) rfl (hb hby d8_4) rfl ((if0 _ _).trans (feq (by rw [own_b1 hcan]; decide)).2) (by decide) (by decide) k_) ?_
    show Go p e s below ({ frames := 1, cells := 0, slots := 0, locals := 17 } : Room).cells ({ frames := 1, cells := 0, slots := 0, locals := 17 } : Room).slots (Q8 c' h0 n0) T7 (mkF m 9 #[.val (.ref b), .val (.int c'), .val (.int (0 : Int32)), .val (.int (4 : Int32))] [])
    refine Go.st (fun _ k_ => XS.iloadN X7.here hx rfl (hb hby d8_9) rfl k_) ?_
    show Go p e s below ({ frames := 1, cells := 0, slots := 0, locals := 17 } : Room).cells ({ frames := 1, cells := 0, slots := 0, locals := 17 } : Room).slots (Q8 c' h0 n0) T7 (mkF m 10 #[.val (.ref b), .val (.int c'), .val (.int (0 : Int32)), .val (.int (4 : Int32))] [(.int (0 : Int32))])
    refine Go.st (fun _ k_ => XS.iconst X7.here hx rfl (hb hby d8_10) k_) ?_
    show Go p e s below ({ frames := 1, cells := 0, slots := 0, locals := 17 } : Room).cells ({ frames := 1, cells := 0, slots := 0, locals := 17 } : Room).slots (Q8 c' h0 n0) T7 (mkF m 11 #[.val (.ref b), .val (.int c'), .val (.int (0 : Int32)), .val (.int (4 : Int32))] [(.int (0 : Int32)), (.int (0 : Int32))])
    obtain ⟨_, _, ⟨T8, L8, k8, n8⟩, -, X8, ⟨Lc8, hQ8, l8, y8, z8⟩, st8⟩ := Jvm.LawKit.callS X7 hx (y := (⟨"java/lang/Math", "max", "(II)I"⟩ : MethodName)) hown (mvT hZ (hw _ (List.mem_of_getElem? (i := 51) rfl))) (mvT hZ (hw _ (List.mem_of_getElem? (i := 52) rfl))) (mvT hZ (hw _ (List.mem_of_getElem? (i := 53) rfl))) (mvT hZ (hw _ (List.mem_of_getElem? (i := 54) rfl))) (by decide) (backOf (W := 0) (rm10 l Z a0 hw [] 0 0 T7.heap n0 (by rw [e9]; exact Z0)) hZ (hw _ (List.mem_of_getElem? (i := 54) rfl)) (hw _ (List.mem_of_getElem? (i := 53) rfl)) (by decide) (by decide)) (g := (mkF m 11 #[.val (.ref b), .val (.int c'), .val (.int (0 : Int32)), .val (.int (4 : Int32))] [(.int (0 : Int32)), (.int (0 : Int32))])) rfl (by rw [hml]; rfl) (argsL := [(.int (0 : Int32)), (.int (0 : Int32))]) (rest := []) (lenOf pd_5 rfl) rfl (by show 2 * 0 + _ ≤ _; exact Nat.le_of_eq rfl) (hb hby d8_11) (fun _ _ => ⟨rfl, rfl, (by decide : 0 + 0 ≤ _), (by decide : 0 + 0 ≤ _)⟩)
    dsimp only [Pt.U, Pt.locs, Pt.cells, Pt.slots] at X8 l8 y8 z8 st8 hQ8
    subst l8 y8 z8
    obtain ⟨rfl, hN8, e10⟩ := hQ8
    have N8 := Fr.app N7 hN8
    refine Go.st st8 ?_
    show Go p e s below ({ frames := 1, cells := 0, slots := 0, locals := 17 } : Room).cells ({ frames := 1, cells := 0, slots := 0, locals := 17 } : Room).slots (Q8 c' h0 n0) T8 (mkF m 14 #[.val (.ref b), .val (.int c'), .val (.int (0 : Int32)), .val (.int (4 : Int32))] [(.int (if (0 : Int32) < 0 then (0 : Int32) else 0))])
    rw [(by decide : (if (0 : Int32) < 0 then (0 : Int32) else 0) = 0)]
    show Go p e s below ({ frames := 1, cells := 0, slots := 0, locals := 17 } : Room).cells ({ frames := 1, cells := 0, slots := 0, locals := 17 } : Room).slots (Q8 c' h0 n0) T8 (mkF m 14 #[.val (.ref b), .val (.int c'), .val (.int (0 : Int32)), .val (.int (4 : Int32))] [(.int (0 : Int32))])
    refine Go.st (fun _ k_ => XS.istoreN X8.here hx rfl (hb hby d8_14) rfl (l' := #[.val (.ref b), .val (.int c'), .val (.int (0 : Int32)), .val (.int (4 : Int32))]) rfl k_) ?_
    show Go p e s below ({ frames := 1, cells := 0, slots := 0, locals := 17 } : Room).cells ({ frames := 1, cells := 0, slots := 0, locals := 17 } : Room).slots (Q8 c' h0 n0) T8 (mkF m 15 #[.val (.ref b), .val (.int c'), .val (.int (0 : Int32)), .val (.int (4 : Int32))] [])
    refine Go.st (fun _ k_ => XS.iloadN X8.here hx rfl (hb hby d8_15) rfl k_) ?_
    show Go p e s below ({ frames := 1, cells := 0, slots := 0, locals := 17 } : Room).cells ({ frames := 1, cells := 0, slots := 0, locals := 17 } : Room).slots (Q8 c' h0 n0) T8 (mkF m 16 #[.val (.ref b), .val (.int c'), .val (.int (0 : Int32)), .val (.int (4 : Int32))] [(.int (4 : Int32))])
    refine Go.st (fun _ k_ => XS.aloadN X8.here hx rfl (hb hby d8_16) rfl rfl k_) ?_
    replace VB : AV Z T8.heap b .byte 4 own_by := by rw [e10, e9]; exact VB
    replace Z0 : n0 ≤ T8.heap.size := by rw [e10, e9]; exact Z0
    show Go p e s below ({ frames := 1, cells := 0, slots := 0, locals := 17 } : Room).cells ({ frames := 1, cells := 0, slots := 0, locals := 17 } : Room).slots (Q8 c' h0 n0) T8 (mkF m 17 #[.val (.ref b), .val (.int c'), .val (.int (0 : Int32)), .val (.int (4 : Int32))] [(.ref b), (.int (4 : Int32))])
    refine Go.st (AV.len X8 hx hZ rfl VB (g := (mkF m 17 #[.val (.ref b), .val (.int c'), .val (.int (0 : Int32)), .val (.int (4 : Int32))] [(.ref b), (.int (4 : Int32))])) rfl rfl (hb hby d8_17)) ?_
    show Go p e s below ({ frames := 1, cells := 0, slots := 0, locals := 17 } : Room).cells ({ frames := 1, cells := 0, slots := 0, locals := 17 } : Room).slots (Q8 c' h0 n0) T8 (mkF m 18 #[.val (.ref b), .val (.int c'), .val (.int (0 : Int32)), .val (.int (4 : Int32))] [(.int (Int32.ofNat 4)), (.int (4 : Int32))])
    obtain ⟨_, _, ⟨T9, L9, k9, n9⟩, -, X9, ⟨Lc9, hQ9, l9, y9, z9⟩, st9⟩ := Jvm.LawKit.callS X8 hx (y := (⟨"java/lang/Math", "min", "(II)I"⟩ : MethodName)) hown (mvT hZ (hw _ (List.mem_of_getElem? (i := 55) rfl))) (mvT hZ (hw _ (List.mem_of_getElem? (i := 56) rfl))) (mvT hZ (hw _ (List.mem_of_getElem? (i := 53) rfl))) (mvT hZ (hw _ (List.mem_of_getElem? (i := 57) rfl))) (by decide) (backOf (W := 0) (rm11 l Z a0 hw [] 4 (Int32.ofNat 4) T8.heap n0 Z0) hZ (hw _ (List.mem_of_getElem? (i := 57) rfl)) (hw _ (List.mem_of_getElem? (i := 53) rfl)) (by decide) (by decide)) (g := (mkF m 18 #[.val (.ref b), .val (.int c'), .val (.int (0 : Int32)), .val (.int (4 : Int32))] [(.int (Int32.ofNat 4)), (.int (4 : Int32))])) rfl (by rw [hml]; rfl) (argsL := [(.int (4 : Int32)), (.int (Int32.ofNat 4))]) (rest := []) (lenOf pd_5 rfl) rfl (by show 2 * 0 + _ ≤ _; exact Nat.le_of_eq rfl) (hb hby d8_18) (fun _ _ => ⟨rfl, rfl, (by decide : 0 + 0 ≤ _), (by decide : 0 + 0 ≤ _)⟩)
    dsimp only [Pt.U, Pt.locs, Pt.cells, Pt.slots] at X9 l9 y9 z9 st9 hQ9
    subst l9 y9 z9
    obtain ⟨rfl, hN9, e11⟩ := hQ9
    have N9 := Fr.app N8 hN9
    refine Go.st st9 ?_
    show Go p e s below ({ frames := 1, cells := 0, slots := 0, locals := 17 } : Room).cells ({ frames := 1, cells := 0, slots := 0, locals := 17 } : Room).slots (Q8 c' h0 n0) T9 (mkF m 21 #[.val (.ref b), .val (.int c'), .val (.int (0 : Int32)), .val (.int (4 : Int32))] [(.int (if Int32.ofNat 4 < (4 : Int32) then Int32.ofNat 4 else (4 : Int32)))])
    rw [(by decide : (if Int32.ofNat 4 < (4 : Int32) then Int32.ofNat 4 else (4 : Int32)) = 4)]
    show Go p e s below ({ frames := 1, cells := 0, slots := 0, locals := 17 } : Room).cells ({ frames := 1, cells := 0, slots := 0, locals := 17 } : Room).slots (Q8 c' h0 n0) T9 (mkF m 21 #[.val (.ref b), .val (.int c'), .val (.int (0 : Int32)), .val (.int (4 : Int32))] [(.int (4 : Int32))])
    refine Go.st (fun _ k_ => XS.istoreN X9.here hx rfl (hb hby d8_21) rfl (l' := #[.val (.ref b), .val (.int c'), .val (.int (0 : Int32)), .val (.int (4 : Int32))]) rfl k_) ?_
    show Go p e s below ({ frames := 1, cells := 0, slots := 0, locals := 17 } : Room).cells ({ frames := 1, cells := 0, slots := 0, locals := 17 } : Room).slots (Q8 c' h0 n0) T9 (mkF m 22 #[.val (.ref b), .val (.int c'), .val (.int (0 : Int32)), .val (.int (4 : Int32))] [])
    refine Go.st (fun _ k_ => XS.iloadN X9.here hx rfl (hb hby d8_22) rfl k_) ?_
    show Go p e s below ({ frames := 1, cells := 0, slots := 0, locals := 17 } : Room).cells ({ frames := 1, cells := 0, slots := 0, locals := 17 } : Room).slots (Q8 c' h0 n0) T9 (mkF m 23 #[.val (.ref b), .val (.int c'), .val (.int (0 : Int32)), .val (.int (4 : Int32))] [(.int (0 : Int32))])
    refine Go.st (fun _ k_ => XS.iloadN X9.here hx rfl (hb hby d8_23) rfl k_) ?_
    show Go p e s below ({ frames := 1, cells := 0, slots := 0, locals := 17 } : Room).cells ({ frames := 1, cells := 0, slots := 0, locals := 17 } : Room).slots (Q8 c' h0 n0) T9 (mkF m 24 #[.val (.ref b), .val (.int c'), .val (.int (0 : Int32)), .val (.int (4 : Int32))] [(.int (4 : Int32)), (.int (0 : Int32))])
    refine Go.st (fun _ k_ => XS.icmpYes X9.here hx rfl (pc0 := 24) (pc' := 29) rfl (hb hby d8_24) rfl (tlt (by decide)).1 (by decide) (by decide) k_) ?_
    show Go p e s below ({ frames := 1, cells := 0, slots := 0, locals := 17 } : Room).cells ({ frames := 1, cells := 0, slots := 0, locals := 17 } : Room).slots (Q8 c' h0 n0) T9 (mkF m 29 #[.val (.ref b), .val (.int c'), .val (.int (0 : Int32)), .val (.int (4 : Int32))] [])
    refine Go.st (fun _ k_ => XS.aloadN X9.here hx rfl (hb hby d8_29) rfl rfl k_) ?_
    show Go p e s below ({ frames := 1, cells := 0, slots := 0, locals := 17 } : Room).cells ({ frames := 1, cells := 0, slots := 0, locals := 17 } : Room).slots (Q8 c' h0 n0) T9 (mkF m 30 #[.val (.ref b), .val (.int c'), .val (.int (0 : Int32)), .val (.int (4 : Int32))] [(.ref b)])
    refine Go.st (fun _ k_ => XS.iloadN X9.here hx rfl (hb hby d8_30) rfl k_) ?_
    show Go p e s below ({ frames := 1, cells := 0, slots := 0, locals := 17 } : Room).cells ({ frames := 1, cells := 0, slots := 0, locals := 17 } : Room).slots (Q8 c' h0 n0) T9 (mkF m 31 #[.val (.ref b), .val (.int c'), .val (.int (0 : Int32)), .val (.int (4 : Int32))] [(.int c'), (.ref b)])
    refine Go.st (fun _ k_ => XS.iloadN X9.here hx rfl (hb hby d8_31) rfl k_) ?_
    show Go p e s below ({ frames := 1, cells := 0, slots := 0, locals := 17 } : Room).cells ({ frames := 1, cells := 0, slots := 0, locals := 17 } : Room).slots (Q8 c' h0 n0) T9 (mkF m 32 #[.val (.ref b), .val (.int c'), .val (.int (0 : Int32)), .val (.int (4 : Int32))] [(.int (0 : Int32)), (.int c'), (.ref b)])
    refine Go.st (fun _ k_ => XS.iloadN X9.here hx rfl (hb hby d8_32) rfl k_) ?_
    show Go p e s below ({ frames := 1, cells := 0, slots := 0, locals := 17 } : Room).cells ({ frames := 1, cells := 0, slots := 0, locals := 17 } : Room).slots (Q8 c' h0 n0) T9 (mkF m 33 #[.val (.ref b), .val (.int c'), .val (.int (0 : Int32)), .val (.int (4 : Int32))] [(.int (4 : Int32)), (.int (0 : Int32)), (.int c'), (.ref b)])
    obtain ⟨_, _, ⟨T10, L10, k10, n10⟩, -, X10, ⟨Lc10, hQ10, l10, y10, z10⟩, st10⟩ := Jvm.LawKit.callS X9 hx (y := (⟨"java/lang/StringLatin1", "indexOfChar", "([BIII)I"⟩ : MethodName)) hown (mvT hZ (hw _ (List.mem_of_getElem? (i := 58) rfl))) (mvT hZ (hw _ (List.mem_of_getElem? (i := 59) rfl))) (mvT hZ (hw _ (List.mem_of_getElem? (i := 46) rfl))) (mvT hZ (hw _ (List.mem_of_getElem? (i := 60) rfl))) (by decide) (backOf (W := 0) (rm12 l Z a0 hw [] b c' T9.heap n0 (by rw [e11]; exact Z0) (by rw [e11]; exact VB) hcan.1 hcan.2) hZ (hw _ (List.mem_of_getElem? (i := 60) rfl)) (hw _ (List.mem_of_getElem? (i := 46) rfl)) (by decide) (by decide)) (g := (mkF m 33 #[.val (.ref b), .val (.int c'), .val (.int (0 : Int32)), .val (.int (4 : Int32))] [(.int (4 : Int32)), (.int (0 : Int32)), (.int c'), (.ref b)])) rfl (by rw [hml]; rfl) (argsL := [(.ref b), (.int c'), (.int (0 : Int32)), (.int (4 : Int32))]) (rest := []) (lenOf pd_6 rfl) rfl (by show 2 * 0 + _ ≤ _; exact Nat.le_of_eq rfl) (hb hby d8_33) (fun _ _ => ⟨rfl, rfl, (by decide : 0 + 0 ≤ _), (by decide : 0 + 0 ≤ _)⟩)
    dsimp only [Pt.U, Pt.locs, Pt.cells, Pt.slots] at X10 l10 y10 z10 st10 hQ10
    subst l10 y10 z10
    obtain ⟨r, rfl, hN10, e12, hr⟩ := hQ10
    have N10 := Fr.app N9 hN10
    refine Go.st st10 ?_
    show Go p e s below ({ frames := 1, cells := 0, slots := 0, locals := 17 } : Room).cells ({ frames := 1, cells := 0, slots := 0, locals := 17 } : Room).slots (Q8 c' h0 n0) T10 (mkF m 36 #[.val (.ref b), .val (.int c'), .val (.int (0 : Int32)), .val (.int (4 : Int32))] [(.int r)])
    exact Go.retI X10 hx hlk Bd.returns (hb hby d8_36) (by decide) (by decide) ⟨r, rfl, N10, by rw [e12, e11, e10, e9], hr⟩
  · skip
    show Go p e s below ({ frames := 1, cells := 0, slots := 0, locals := 17 } : Room).cells ({ frames := 1, cells := 0, slots := 0, locals := 17 } : Room).slots (Q8 c' h0 n0) T7 (mkF m 4 #[.val (.ref b), .val (.int c'), .val (.int (0 : Int32)), .val (.int (4 : Int32))] [(.int (own_b (¬ c' < 0 ∧ ¬ 255 < c')))])
    refine Go.st (fun _ k_ => XS.ifNo X7.here hx rfl (hb hby d8_4) rfl ((if0 _ _).trans (teq (own_b0 hcan)).2) k_) ?_
    show Go p e s below ({ frames := 1, cells := 0, slots := 0, locals := 17 } : Room).cells ({ frames := 1, cells := 0, slots := 0, locals := 17 } : Room).slots (Q8 c' h0 n0) T7 (mkF m 7 #[.val (.ref b), .val (.int c'), .val (.int (0 : Int32)), .val (.int (4 : Int32))] [])
    refine Go.st (fun _ k_ => XS.iconst X7.here hx rfl (hb hby d8_7) k_) ?_
    show Go p e s below ({ frames := 1, cells := 0, slots := 0, locals := 17 } : Room).cells ({ frames := 1, cells := 0, slots := 0, locals := 17 } : Room).slots (Q8 c' h0 n0) T7 (mkF m 8 #[.val (.ref b), .val (.int c'), .val (.int (0 : Int32)), .val (.int (4 : Int32))] [(.int (-1 : Int32))])
    exact Go.retI X7 hx hlk Bd.returns (hb hby d8_8) (by decide) (by decide) ⟨_, rfl, N7, e9, ⟨fun _ => own_out (by by_cases z : c' < 0; exact Or.inl z; exact Or.inr (Decidable.of_not_not fun q => hcan ⟨z, q⟩)), fun _ => by decide⟩⟩
def Q4 (c : Int32) (h0 : Heap) (n0 : Nat) (v : Option Value) (h : Heap) (L : List Loc) : Prop := ∃ r : Int32, v = some (.int r) ∧ Fr n0 L ∧ h = h0 ∧ (r < 0 ↔ ¬ own_S c)
set_option maxRecDepth 65536 in
set_option maxHeartbeats 40000000 in
theorem rm4 (l : Launch) (Z : State) (a0 : Array Value) (hw : ∀ d ∈ tables_1, d.before a0 Z = true) (ws : List Jvm.Cond) (a b : Addr) (c' : Int32) (h0 : Heap) (n0 : Nat) (Z0 : n0 ≤ h0.size) (cs : Int32) (hcs : ¬ cs = 0) (SC : Sta Z h0 "java/lang/String" "COMPACT_STRINGS" "Z" (.int cs))(FC : Fld Z h0 a "java/lang/String" "coder" "B" (.int 0))(FV : Fld Z h0 a "java/lang/String" "value" "[B" (.ref b))(EA : Exa Z h0 a "java/lang/String")(VB : AV Z h0 b .byte 4 own_by) :
    MetFree l (⟨"java/lang/String", "indexOf", "(II)I"⟩ : MethodName) (head1 (Jvm.Cond.code (⟨"java/lang/String", "indexOf", "(II)I"⟩ : MethodName) jdk_42_method_80_code 3 (some .int) :: ws) ({ frames := 2, cells := 0, slots := 0, locals := 32 } : Room)) (fun a_ U_ => a_ = #[(.ref a), (.int c'), (.int (0 : Int32))] ∧ Z.Warmed39 U_.vm ∧ U_.heap = h0) (fun _ _ _ _ _ => True) (fun _ U_ o_ W_ => ∃ v_ L_, o_ = .returned v_ ∧ (Q4 c' h0 n0) v_ W_.heap L_ ∧ FrameEnd U_ o_ W_ L_ ({ frames := 2, cells := 0, slots := 0, locals := 32 } : Room).cells ({ frames := 2, cells := 0, slots := 0, locals := 32 } : Room).slots) := by
  refine MetFree.of_bodySF (plainFor_of_name pn_java_lang_String) hisR ?_
  intro p e s m args below meth c s₁ Bd hml0 hP hK
  obtain ⟨rfl, hZ, hh⟩ := hP
  have hx := Bd.exec
  have hby := Bd.bytes
  have hml : c.maxLocals = 3 := hml0
  have hown : s.vm.findClass "java/lang/String" = some m.cls := findClass_of_methodNamed Bd.named
  have hnm := (name_of_methodNamed Bd.named Bd.method).1
  have hlk : meth.locks = false := BodyLoose.notSynchronized Bd
  have X0 : Stand p l e ({ frames := 2, cells := 0, slots := 0, locals := 32 } : Room) s m #[(.ref a), (.int c'), (.int (0 : Int32))] below meth c s₁ [] 0 0 := Stand.of_body Bd
  have e0 : s₁.heap = h0 := by rw [← hh, Bd.state]; rfl
  have N0 := Fr.nil n0
  refine Go.enter (ef_4 m a c' (0 : Int32)) ?_
  show Go p e s below ({ frames := 2, cells := 0, slots := 0, locals := 32 } : Room).cells ({ frames := 2, cells := 0, slots := 0, locals := 32 } : Room).slots (Q4 c' h0 n0) s₁ (mkF m 0 #[.val (.ref a), .val (.int c'), .val (.int (0 : Int32))] [])
  refine Go.st (fun _ k_ => XS.aloadN X0.here hx rfl (hb hby d4_0) rfl rfl k_) ?_
  show Go p e s below ({ frames := 2, cells := 0, slots := 0, locals := 32 } : Room).cells ({ frames := 2, cells := 0, slots := 0, locals := 32 } : Room).slots (Q4 c' h0 n0) s₁ (mkF m 1 #[.val (.ref a), .val (.int c'), .val (.int (0 : Int32))] [(.ref a)])
  obtain ⟨cq11, kq11, q11a, q11b, q11c⟩ := isOf hZ e0 EA
  obtain ⟨_, _, ⟨T11, L11, k11, n11⟩, -, X11, ⟨Lc11, hQ11, l11, y11, z11⟩, st11⟩ := X0.virtualBack hx (y := (⟨"java/lang/String", "isLatin1", "()Z"⟩ : MethodName)) (z := (⟨"java/lang/String", "isLatin1", "()Z"⟩ : MethodName)) hown (mvT hZ (hw _ (List.mem_of_getElem? (i := 26) rfl))) (mvT hZ (hw _ (List.mem_of_getElem? (i := 27) rfl))) (notFace_of_selects (args := #[]) (mvT hZ (hw _ (List.mem_of_getElem? (i := 29) rfl)))) (mvT hZ (hw _ (List.mem_of_getElem? (i := 29) rfl))) (mvT hZ (hw _ (List.mem_of_getElem? (i := 28) rfl))) (by decide) (backOf (W := 0) (rm5 l Z a0 hw [] a h0 n0 Z0 cs hcs SC FC) hZ (hw _ (List.mem_of_getElem? (i := 30) rfl)) (hw _ (List.mem_of_getElem? (i := 9) rfl)) (by decide) (by decide)) q11a q11c (g := (mkF m 1 #[.val (.ref a), .val (.int c'), .val (.int (0 : Int32))] [(.ref a)])) rfl (by rw [hml]; rfl) (Steps.refl _) (argsL := []) (rest := []) (lenOf pd_2 rfl) rfl (by show 2 * 0 + _ ≤ _; exact Nat.le_of_eq rfl) (hb hby d4_1) (fun _ _ => ⟨rfl, e0, (by decide : 0 + 0 ≤ _), (by decide : 0 + 0 ≤ _)⟩)
  dsimp only [Pt.U, Pt.locs, Pt.cells, Pt.slots] at X11 l11 y11 z11 st11 hQ11
  subst l11 y11 z11
  obtain ⟨rfl, hN11, e5⟩ := hQ11
  have N11 := Fr.app N0 hN11
  refine Go.tr st11 ?_
  show Go p e s below ({ frames := 2, cells := 0, slots := 0, locals := 32 } : Room).cells ({ frames := 2, cells := 0, slots := 0, locals := 32 } : Room).slots (Q4 c' h0 n0) T11 (mkF m 4 #[.val (.ref a), .val (.int c'), .val (.int (0 : Int32))] [(.int (1 : Int32))])
  refine Go.st (fun _ k_ => XS.ifNo X11.here hx rfl (hb hby d4_4) rfl ((if0 _ _).trans (feq (by decide)).1) k_) ?_
  rw [← e5] at Z0 SC FC FV EA VB
  show Go p e s below ({ frames := 2, cells := 0, slots := 0, locals := 32 } : Room).cells ({ frames := 2, cells := 0, slots := 0, locals := 32 } : Room).slots (Q4 c' h0 n0) T11 (mkF m 7 #[.val (.ref a), .val (.int c'), .val (.int (0 : Int32))] [])
  refine Go.st (fun _ k_ => XS.aloadN X11.here hx rfl (hb hby d4_7) rfl rfl k_) ?_
  show Go p e s below ({ frames := 2, cells := 0, slots := 0, locals := 32 } : Room).cells ({ frames := 2, cells := 0, slots := 0, locals := 32 } : Room).slots (Q4 c' h0 n0) T11 (mkF m 8 #[.val (.ref a), .val (.int c'), .val (.int (0 : Int32))] [(.ref a)])
  obtain ⟨T12, X12, e12, st12⟩ := getF X11 hx hZ hown (host := "") (Or.inl (hw _ (List.mem_of_getElem? (i := 33) rfl))) Via.refl rfl FV (g := (mkF m 8 #[.val (.ref a), .val (.int c'), .val (.int (0 : Int32))] [(.ref a)])) rfl rfl (hb hby d4_8)
  refine Go.st st12 ?_
  show Go p e s below ({ frames := 2, cells := 0, slots := 0, locals := 32 } : Room).cells ({ frames := 2, cells := 0, slots := 0, locals := 32 } : Room).slots (Q4 c' h0 n0) T12 (mkF m 11 #[.val (.ref a), .val (.int c'), .val (.int (0 : Int32))] [(.ref b)])
  refine Go.st (fun _ k_ => XS.iloadN X12.here hx rfl (hb hby d4_11) rfl k_) ?_
  show Go p e s below ({ frames := 2, cells := 0, slots := 0, locals := 32 } : Room).cells ({ frames := 2, cells := 0, slots := 0, locals := 32 } : Room).slots (Q4 c' h0 n0) T12 (mkF m 12 #[.val (.ref a), .val (.int c'), .val (.int (0 : Int32))] [(.int c'), (.ref b)])
  refine Go.st (fun _ k_ => XS.iloadN X12.here hx rfl (hb hby d4_12) rfl k_) ?_
  show Go p e s below ({ frames := 2, cells := 0, slots := 0, locals := 32 } : Room).cells ({ frames := 2, cells := 0, slots := 0, locals := 32 } : Room).slots (Q4 c' h0 n0) T12 (mkF m 13 #[.val (.ref a), .val (.int c'), .val (.int (0 : Int32))] [(.int (0 : Int32)), (.int c'), (.ref b)])
  refine Go.st (fun _ k_ => XS.aloadN X12.here hx rfl (hb hby d4_13) rfl rfl k_) ?_
  show Go p e s below ({ frames := 2, cells := 0, slots := 0, locals := 32 } : Room).cells ({ frames := 2, cells := 0, slots := 0, locals := 32 } : Room).slots (Q4 c' h0 n0) T12 (mkF m 14 #[.val (.ref a), .val (.int c'), .val (.int (0 : Int32))] [(.ref a), (.int (0 : Int32)), (.int c'), (.ref b)])
  obtain ⟨cq13, kq13, q13a, q13b, q13c⟩ := isOf hZ e12 EA
  obtain ⟨_, _, ⟨T13, L13, k13, n13⟩, -, X13, ⟨Lc13, hQ13, l13, y13, z13⟩, st13⟩ := X12.virtualBack hx (y := (⟨"java/lang/String", "length", "()I"⟩ : MethodName)) (z := (⟨"java/lang/String", "length", "()I"⟩ : MethodName)) hown (mvT hZ (hw _ (List.mem_of_getElem? (i := 34) rfl))) (mvT hZ (hw _ (List.mem_of_getElem? (i := 35) rfl))) (notFace_of_selects (args := #[]) (mvT hZ (hw _ (List.mem_of_getElem? (i := 37) rfl)))) (mvT hZ (hw _ (List.mem_of_getElem? (i := 37) rfl))) (mvT hZ (hw _ (List.mem_of_getElem? (i := 36) rfl))) (by decide) (backOf (W := 3) (rm6 l Z a0 hw [] a b T11.heap n0 Z0 cs hcs SC FC FV EA VB) hZ (hw _ (List.mem_of_getElem? (i := 38) rfl)) (hw _ (List.mem_of_getElem? (i := 9) rfl)) (by decide) (by decide)) q13a q13c (g := (mkF m 14 #[.val (.ref a), .val (.int c'), .val (.int (0 : Int32))] [(.ref a), (.int (0 : Int32)), (.int c'), (.ref b)])) rfl (by rw [hml]; rfl) (Steps.refl _) (argsL := []) (rest := [(.int (0 : Int32)), (.int c'), (.ref b)]) (lenOf pd_1 rfl) rfl (by show 2 * 0 + _ ≤ _; exact Nat.le_of_eq rfl) (hb hby d4_14) (fun _ _ => ⟨rfl, e12, (by decide : 0 + 0 ≤ _), (by decide : 0 + 0 ≤ _)⟩)
  dsimp only [Pt.U, Pt.locs, Pt.cells, Pt.slots] at X13 l13 y13 z13 st13 hQ13
  subst l13 y13 z13
  obtain ⟨rfl, hN13, e6⟩ := hQ13
  have N13 := Fr.app N11 hN13
  refine Go.tr st13 ?_
  show Go p e s below ({ frames := 2, cells := 0, slots := 0, locals := 32 } : Room).cells ({ frames := 2, cells := 0, slots := 0, locals := 32 } : Room).slots (Q4 c' h0 n0) T13 (mkF m 17 #[.val (.ref a), .val (.int c'), .val (.int (0 : Int32))] [(.int (4 : Int32)), (.int (0 : Int32)), (.int c'), (.ref b)])
  obtain ⟨_, _, ⟨T14, L14, k14, n14⟩, -, X14, ⟨Lc14, hQ14, l14, y14, z14⟩, st14⟩ := Jvm.LawKit.callS X13 hx (y := (⟨"java/lang/StringLatin1", "indexOf", "([BIII)I"⟩ : MethodName)) hown (mvT hZ (hw _ (List.mem_of_getElem? (i := 44) rfl))) (mvT hZ (hw _ (List.mem_of_getElem? (i := 45) rfl))) (mvT hZ (hw _ (List.mem_of_getElem? (i := 46) rfl))) (mvT hZ (hw _ (List.mem_of_getElem? (i := 47) rfl))) (by decide) (backOf (W := 0) (rm8 l Z a0 hw [] b c' T13.heap n0 (by rw [e6]; exact Z0) (by rw [e6]; exact VB)) hZ (hw _ (List.mem_of_getElem? (i := 47) rfl)) (hw _ (List.mem_of_getElem? (i := 46) rfl)) (by decide) (by decide)) (g := (mkF m 17 #[.val (.ref a), .val (.int c'), .val (.int (0 : Int32))] [(.int (4 : Int32)), (.int (0 : Int32)), (.int c'), (.ref b)])) rfl (by rw [hml]; rfl) (argsL := [(.ref b), (.int c'), (.int (0 : Int32)), (.int (4 : Int32))]) (rest := []) (lenOf pd_6 rfl) rfl (by show 2 * 0 + _ ≤ _; exact Nat.le_of_eq rfl) (hb hby d4_17) (fun _ _ => ⟨rfl, rfl, (by decide : 0 + 0 ≤ _), (by decide : 0 + 0 ≤ _)⟩)
  dsimp only [Pt.U, Pt.locs, Pt.cells, Pt.slots] at X14 l14 y14 z14 st14 hQ14
  subst l14 y14 z14
  obtain ⟨r, rfl, hN14, e8, hr⟩ := hQ14
  have N14 := Fr.app N13 hN14
  refine Go.st st14 ?_
  show Go p e s below ({ frames := 2, cells := 0, slots := 0, locals := 32 } : Room).cells ({ frames := 2, cells := 0, slots := 0, locals := 32 } : Room).slots (Q4 c' h0 n0) T14 (mkF m 20 #[.val (.ref a), .val (.int c'), .val (.int (0 : Int32))] [(.int r)])
  refine Go.st (fun _ k_ => XS.goto X14.here hx rfl (pc0 := 20) (pc' := 36) rfl (hb hby d4_20) (by decide) (by decide) k_) ?_
  show Go p e s below ({ frames := 2, cells := 0, slots := 0, locals := 32 } : Room).cells ({ frames := 2, cells := 0, slots := 0, locals := 32 } : Room).slots (Q4 c' h0 n0) T14 (mkF m 36 #[.val (.ref a), .val (.int c'), .val (.int (0 : Int32))] [(.int r)])
  exact Go.retI X14 hx hlk Bd.returns (hb hby d4_36) (by decide) (by decide) ⟨r, rfl, N14, by rw [e8, e6, e5], hr⟩
def Q3 (c : Int32) (h0 : Heap) (n0 : Nat) (v : Option Value) (h : Heap) (L : List Loc) : Prop := ∃ r : Int32, v = some (.int r) ∧ Fr n0 L ∧ h = h0 ∧ (r < 0 ↔ ¬ own_S c)
set_option maxRecDepth 65536 in
set_option maxHeartbeats 40000000 in
theorem rm3 (l : Launch) (Z : State) (a0 : Array Value) (hw : ∀ d ∈ tables_1, d.before a0 Z = true) (ws : List Jvm.Cond) (a b : Addr) (c' : Int32) (h0 : Heap) (n0 : Nat) (Z0 : n0 ≤ h0.size) (cs : Int32) (hcs : ¬ cs = 0) (SC : Sta Z h0 "java/lang/String" "COMPACT_STRINGS" "Z" (.int cs))(FC : Fld Z h0 a "java/lang/String" "coder" "B" (.int 0))(FV : Fld Z h0 a "java/lang/String" "value" "[B" (.ref b))(EA : Exa Z h0 a "java/lang/String")(VB : AV Z h0 b .byte 4 own_by) :
    MetFree l (⟨"java/lang/String", "indexOf", "(I)I"⟩ : MethodName) (head1 (Jvm.Cond.code (⟨"java/lang/String", "indexOf", "(I)I"⟩ : MethodName) jdk_42_method_79_code 2 (some .int) :: ws) ({ frames := 3, cells := 0, slots := 0, locals := 46 } : Room)) (fun a_ U_ => a_ = #[(.ref a), (.int c')] ∧ Z.Warmed39 U_.vm ∧ U_.heap = h0) (fun _ _ _ _ _ => True) (fun _ U_ o_ W_ => ∃ v_ L_, o_ = .returned v_ ∧ (Q3 c' h0 n0) v_ W_.heap L_ ∧ FrameEnd U_ o_ W_ L_ ({ frames := 3, cells := 0, slots := 0, locals := 46 } : Room).cells ({ frames := 3, cells := 0, slots := 0, locals := 46 } : Room).slots) := by
  refine MetFree.of_bodySF (plainFor_of_name pn_java_lang_String) hisR ?_
  intro p e s m args below meth c s₁ Bd hml0 hP hK
  obtain ⟨rfl, hZ, hh⟩ := hP
  have hx := Bd.exec
  have hby := Bd.bytes
  have hml : c.maxLocals = 2 := hml0
  have hown : s.vm.findClass "java/lang/String" = some m.cls := findClass_of_methodNamed Bd.named
  have hnm := (name_of_methodNamed Bd.named Bd.method).1
  have hlk : meth.locks = false := BodyLoose.notSynchronized Bd
  have X0 : Stand p l e ({ frames := 3, cells := 0, slots := 0, locals := 46 } : Room) s m #[(.ref a), (.int c')] below meth c s₁ [] 0 0 := Stand.of_body Bd
  have e0 : s₁.heap = h0 := by rw [← hh, Bd.state]; rfl
  have N0 := Fr.nil n0
  refine Go.enter (ef_3 m a c') ?_
  show Go p e s below ({ frames := 3, cells := 0, slots := 0, locals := 46 } : Room).cells ({ frames := 3, cells := 0, slots := 0, locals := 46 } : Room).slots (Q3 c' h0 n0) s₁ (mkF m 0 #[.val (.ref a), .val (.int c')] [])
  refine Go.st (fun _ k_ => XS.aloadN X0.here hx rfl (hb hby d3_0) rfl rfl k_) ?_
  show Go p e s below ({ frames := 3, cells := 0, slots := 0, locals := 46 } : Room).cells ({ frames := 3, cells := 0, slots := 0, locals := 46 } : Room).slots (Q3 c' h0 n0) s₁ (mkF m 1 #[.val (.ref a), .val (.int c')] [(.ref a)])
  refine Go.st (fun _ k_ => XS.iloadN X0.here hx rfl (hb hby d3_1) rfl k_) ?_
  show Go p e s below ({ frames := 3, cells := 0, slots := 0, locals := 46 } : Room).cells ({ frames := 3, cells := 0, slots := 0, locals := 46 } : Room).slots (Q3 c' h0 n0) s₁ (mkF m 2 #[.val (.ref a), .val (.int c')] [(.int c'), (.ref a)])
  refine Go.st (fun _ k_ => XS.iconst X0.here hx rfl (hb hby d3_2) k_) ?_
  show Go p e s below ({ frames := 3, cells := 0, slots := 0, locals := 46 } : Room).cells ({ frames := 3, cells := 0, slots := 0, locals := 46 } : Room).slots (Q3 c' h0 n0) s₁ (mkF m 3 #[.val (.ref a), .val (.int c')] [(.int (0 : Int32)), (.int c'), (.ref a)])
  obtain ⟨cq15, kq15, q15a, q15b, q15c⟩ := isOf hZ e0 EA
  obtain ⟨_, _, ⟨T15, L15, k15, n15⟩, -, X15, ⟨Lc15, hQ15, l15, y15, z15⟩, st15⟩ := X0.virtualBack hx (y := (⟨"java/lang/String", "indexOf", "(II)I"⟩ : MethodName)) (z := (⟨"java/lang/String", "indexOf", "(II)I"⟩ : MethodName)) hown (mvT hZ (hw _ (List.mem_of_getElem? (i := 21) rfl))) (mvT hZ (hw _ (List.mem_of_getElem? (i := 22) rfl))) (notFace_of_selects (args := #[]) (mvT hZ (hw _ (List.mem_of_getElem? (i := 24) rfl)))) (mvT hZ (hw _ (List.mem_of_getElem? (i := 24) rfl))) (mvT hZ (hw _ (List.mem_of_getElem? (i := 23) rfl))) (by decide) (backOf (W := 0) (rm4 l Z a0 hw [] a b c' h0 n0 Z0 cs hcs SC FC FV EA VB) hZ (hw _ (List.mem_of_getElem? (i := 25) rfl)) (hw _ (List.mem_of_getElem? (i := 9) rfl)) (by decide) (by decide)) q15a q15c (g := (mkF m 3 #[.val (.ref a), .val (.int c')] [(.int (0 : Int32)), (.int c'), (.ref a)])) rfl (by rw [hml]; rfl) (Steps.refl _) (argsL := [(.int c'), (.int (0 : Int32))]) (rest := []) (lenOf pd_5 rfl) rfl (by show 2 * 0 + _ ≤ _; exact Nat.le_of_eq rfl) (hb hby d3_3) (fun _ _ => ⟨rfl, e0, (by decide : 0 + 0 ≤ _), (by decide : 0 + 0 ≤ _)⟩)
  dsimp only [Pt.U, Pt.locs, Pt.cells, Pt.slots] at X15 l15 y15 z15 st15 hQ15
  subst l15 y15 z15
  obtain ⟨r, rfl, hN15, e4, hr⟩ := hQ15
  have N15 := Fr.app N0 hN15
  refine Go.tr st15 ?_
  show Go p e s below ({ frames := 3, cells := 0, slots := 0, locals := 46 } : Room).cells ({ frames := 3, cells := 0, slots := 0, locals := 46 } : Room).slots (Q3 c' h0 n0) T15 (mkF m 6 #[.val (.ref a), .val (.int c')] [(.int r)])
  exact Go.retI X15 hx hlk Bd.returns (hb hby d3_6) (by decide) (by decide) ⟨r, rfl, N15, e4, hr⟩
def Q2 (c : Int32) (h0 : Heap) (n0 : Nat) (v : Option Value) (h : Heap) (L : List Loc) : Prop := v = some (.int (own_u c)) ∧ Fr n0 L ∧ Ext h0 h
set_option maxRecDepth 65536 in
set_option maxHeartbeats 40000000 in
theorem rm2 (l : Launch) (Z : State) (a0 : Array Value) (hw : ∀ d ∈ tables_1, d.before a0 Z = true) (ws : List Jvm.Cond) (c' : Int32) (h0 : Heap) (n0 : Nat) (Z0 : n0 ≤ h0.size) (cs : Int32) (hcs : ¬ cs = 0) (SC : Sta Z h0 "java/lang/String" "COMPACT_STRINGS" "Z" (.int cs)) :
    MetFree l (⟨"com/example/portcullis/portcullis/PercentEncoding", "isUnreserved", "(I)Z"⟩ : MethodName) (head1 (Jvm.Cond.code (⟨"com/example/portcullis/portcullis/PercentEncoding", "isUnreserved", "(I)Z"⟩ : MethodName) prog_19_method_4_code 1 (some .boolean) :: ws) ({ frames := 4, cells := 2, slots := 20, locals := 59 } : Room)) (fun a_ U_ => a_ = #[(.int c')] ∧ Z.Warmed39 U_.vm ∧ U_.heap = h0 ∧ CHv Z own_EL U_.vm h0) (fun _ _ _ _ _ => True) (fun _ U_ o_ W_ => ∃ v_ L_, o_ = .returned v_ ∧ (Q2 c' h0 n0) v_ W_.heap L_ ∧ CHr Z own_EL U_.vm U_.heap W_.vm W_.heap ∧ ReturnedEndW U_ o_ W_ L_ ({ frames := 4, cells := 2, slots := 20, locals := 59 } : Room).cells ({ frames := 4, cells := 2, slots := 20, locals := 59 } : Room).slots) := by
  refine MetFree.of_bodySF (plainFor_of_name pn_com_example_portcullis_portcullis_PercentEncoding) hisR ?_
  intro p e s m args below meth c s₁ Bd hml0 hP hK
  obtain ⟨rfl, hZ, hh, H⟩ := hP
  have hx := Bd.exec
  have hby := Bd.bytes
  have hml : c.maxLocals = 1 := hml0
  have hown : s.vm.findClass "com/example/portcullis/portcullis/PercentEncoding" = some m.cls := findClass_of_methodNamed Bd.named
  have hnm := (name_of_methodNamed Bd.named Bd.method).1
  have hlk : meth.locks = false := BodyLoose.notSynchronized Bd
  have X0 : Stand p l e ({ frames := 4, cells := 2, slots := 20, locals := 59 } : Room) (s.setVm s.vm) m #[(.int c')] below meth c s₁ [] 0 0 := Stand.of_body Bd
  have e0 : s₁.heap = h0 := by rw [← hh, Bd.state]; rfl
  have N0 := Fr.nil n0
  refine GoW.enter (ef_2 m c') ?_
  have hS0 : s.Since s.vm s.heap.size := (State.WarmedH.refl s).since _
  have hEL := own_hEL hw
  have hC0 : CHr Z own_EL s.vm s.heap s₁.vm s₁.heap := by rw [e0, hh]; exact CHv.at X0 hZ hEL H
  have hk0 : s.heap.size ≤ s₁.heap.size := by rw [e0, hh]; exact Nat.le_refl _
  have ER : Ext h0 s₁.heap := by rw [e0]; exact ⟨Nat.le_refl _, fun _ _ q => q⟩
  have yes : (own_lt c' ∨ own_dg c' ∨ own_S c') → GoW Z own_EL p e s below ({ frames := 4, cells := 2, slots := 20, locals := 59 } : Room).cells ({ frames := 4, cells := 2, slots := 20, locals := 59 } : Room).slots (Q2 c' h0 n0) s₁ (mkF m 45 #[.val (.int c')] []) := by
    intro hy
    show GoW Z own_EL p e s below ({ frames := 4, cells := 2, slots := 20, locals := 59 } : Room).cells ({ frames := 4, cells := 2, slots := 20, locals := 59 } : Room).slots (Q2 c' h0 n0) s₁ (mkF m 45 #[.val (.int c')] [])
    refine GoW.st (fun _ k_ => XS.iconst X0.here hx rfl (hb hby d2_45) k_) ?_
    show GoW Z own_EL p e s below ({ frames := 4, cells := 2, slots := 20, locals := 59 } : Room).cells ({ frames := 4, cells := 2, slots := 20, locals := 59 } : Room).slots (Q2 c' h0 n0) s₁ (mkF m 46 #[.val (.int c')] [(.int (1 : Int32))])
    refine GoW.st (fun _ k_ => XS.goto X0.here hx rfl (pc0 := 46) (pc' := 50) rfl (hb hby d2_46) (by decide) (by decide) k_) ?_
    show GoW Z own_EL p e s below ({ frames := 4, cells := 2, slots := 20, locals := 59 } : Room).cells ({ frames := 4, cells := 2, slots := 20, locals := 59 } : Room).slots (Q2 c' h0 n0) s₁ (mkF m 50 #[.val (.int c')] [(.int (1 : Int32))])
    exact GoW.retN X0 hx hlk hS0 hk0 hC0 (t := .boolean) Bd.returns (by simp) (hb hby d2_50) (by decide) (by decide) ⟨by rw [own_u, own_b1 hy]; rfl, N0, ER⟩
  have rest : ¬ own_lt c' → ¬ own_dg c' → GoW Z own_EL p e s below ({ frames := 4, cells := 2, slots := 20, locals := 59 } : Room).cells ({ frames := 4, cells := 2, slots := 20, locals := 59 } : Room).slots (Q2 c' h0 n0) s₁ (mkF m 36 #[.val (.int c')] []) := by
    intro hl hd
    show GoW Z own_EL p e s below ({ frames := 4, cells := 2, slots := 20, locals := 59 } : Room).cells ({ frames := 4, cells := 2, slots := 20, locals := 59 } : Room).slots (Q2 c' h0 n0) s₁ (mkF m 36 #[.val (.int c')] [])
    obtain ⟨a, T16, h16, k1, b, kb, X16, e16, E16, hS1, hk1, hZ, hown, EA, FC, FV, VV, -, -, hC1, -, -, st16⟩ := ldcCH X0 hx hZ hown (hw _ (List.mem_of_getElem? (i := 8) rfl)) (fun d hd => hw d (own_in d hd)) e0 hS0 (by rw [hh]; exact Nat.le_refl _) hEL (List.mem_of_getElem? (i := 0) rfl) H (vs := [.int 45, .int 46, .int 95, .int 126]) (z := 4) ⟨by decide, by decide⟩ (by decide) rfl (g := (mkF m 36 #[.val (.int c')] [])) rfl (hb hby d2_36) (n := 16) (by decide) (by decide) (by decide) (by decide)
    refine GoW.st st16 ?_
    have VB : AV Z h16 b .byte 4 own_by := AV.ofArv VV rfl (by decide) (by intro j hj; rcases (by omega : j = 0 ∨ j = 1 ∨ j = 2 ∨ j = 3) with rfl | rfl | rfl | rfl <;> rfl)
    have Z1 : n0 ≤ h16.size := Nat.le_trans Z0 E16.1
    show GoW Z own_EL p e s below ({ frames := 4, cells := 2, slots := 20, locals := 59 } : Room).cells ({ frames := 4, cells := 2, slots := 20, locals := 59 } : Room).slots (Q2 c' h0 n0) T16 (mkF m 38 #[.val (.int c')] [(.ref a)])
    refine GoW.st (fun _ k_ => XS.iloadN X16.here hx rfl (hb hby d2_38) rfl k_) ?_
    show GoW Z own_EL p e s below ({ frames := 4, cells := 2, slots := 20, locals := 59 } : Room).cells ({ frames := 4, cells := 2, slots := 20, locals := 59 } : Room).slots (Q2 c' h0 n0) T16 (mkF m 39 #[.val (.int c')] [(.int c'), (.ref a)])
    obtain ⟨cq17, kq17, q17a, q17b, q17c⟩ := isOf hZ e16 EA
    obtain ⟨_, _, ⟨T17, L17, k17, n17⟩, -, X17, ⟨Lc17, hQ17, l17, y17, z17⟩, st17⟩ := X16.virtualBack hx (y := (⟨"java/lang/String", "indexOf", "(I)I"⟩ : MethodName)) (z := (⟨"java/lang/String", "indexOf", "(I)I"⟩ : MethodName)) hown (mvT hZ (hw _ (List.mem_of_getElem? (i := 16) rfl))) (mvT hZ (hw _ (List.mem_of_getElem? (i := 17) rfl))) (notFace_of_selects (args := #[]) (mvT hZ (hw _ (List.mem_of_getElem? (i := 19) rfl)))) (mvT hZ (hw _ (List.mem_of_getElem? (i := 19) rfl))) (mvT hZ (hw _ (List.mem_of_getElem? (i := 18) rfl))) (by decide) (backOf (W := 0) (rm3 l Z a0 hw [] a b c' h16 n0 Z1 cs hcs (SC.ext E16) FC FV EA VB) hZ (hw _ (List.mem_of_getElem? (i := 20) rfl)) (hw _ (List.mem_of_getElem? (i := 9) rfl)) (by decide) (by decide)) q17a q17c (g := (mkF m 39 #[.val (.int c')] [(.int c'), (.ref a)])) rfl (by rw [hml]; rfl) (Steps.refl _) (argsL := [(.int c')]) (rest := []) (lenOf pd_3 rfl) rfl (by show 2 * 0 + _ ≤ _; exact Nat.le_of_eq rfl) (hb hby d2_39) (fun _ _ => ⟨rfl, e16, (by decide : (0 + 2) + 0 ≤ _), (by decide : (0 + (16 + 4)) + 0 ≤ _)⟩)
    dsimp only [Pt.U, Pt.locs, Pt.cells, Pt.slots] at X17 l17 y17 z17 st17 hQ17
    subst l17 y17 z17
    obtain ⟨r, rfl, hN17, e3, hr⟩ := hQ17
    have N17 := Fr.app N0 hN17
    refine GoW.tr st17 ?_
    have hC2 : CHr Z own_EL s.vm s.heap T17.vm T17.heap := by rw [e3, hh]; exact hC1.trans (CHv.at X17 hZ hEL hC1.1)
    have hk2 : k1 ≤ T17.heap.size := by rw [e3]; exact hk1
    have ER2 : Ext h0 T17.heap := by rw [e3]; exact E16
    by_cases hS : own_S c'
    · skip
      show GoW Z own_EL p e s below ({ frames := 4, cells := 2, slots := 20, locals := 59 } : Room).cells ({ frames := 4, cells := 2, slots := 20, locals := 59 } : Room).slots (Q2 c' h0 n0) T17 (mkF m 42 #[.val (.int c')] [(.int r)])
      refine GoW.st (fun _ k_ => XS.ifNo X17.here hx rfl (hb hby d2_42) rfl ((if0 _ _).trans (flt (fun q => hr.mp q hS)).1) k_) ?_
      show GoW Z own_EL p e s below ({ frames := 4, cells := 2, slots := 20, locals := 59 } : Room).cells ({ frames := 4, cells := 2, slots := 20, locals := 59 } : Room).slots (Q2 c' h0 n0) T17 (mkF m 45 #[.val (.int c')] [])
      refine GoW.st (fun _ k_ => XS.iconst X17.here hx rfl (hb hby d2_45) k_) ?_
      show GoW Z own_EL p e s below ({ frames := 4, cells := 2, slots := 20, locals := 59 } : Room).cells ({ frames := 4, cells := 2, slots := 20, locals := 59 } : Room).slots (Q2 c' h0 n0) T17 (mkF m 46 #[.val (.int c')] [(.int (1 : Int32))])
      refine GoW.st (fun _ k_ => XS.goto X17.here hx rfl (pc0 := 46) (pc' := 50) rfl (hb hby d2_46) (by decide) (by decide) k_) ?_
      show GoW Z own_EL p e s below ({ frames := 4, cells := 2, slots := 20, locals := 59 } : Room).cells ({ frames := 4, cells := 2, slots := 20, locals := 59 } : Room).slots (Q2 c' h0 n0) T17 (mkF m 50 #[.val (.int c')] [(.int (1 : Int32))])
      exact GoW.retN X17 hx hlk hS1 hk2 hC2 (t := .boolean) Bd.returns (by simp) (hb hby d2_50) (by decide) (by decide) ⟨by rw [own_u, own_b1 (Or.inr (Or.inr hS))]; rfl, N17, ER2⟩
    show GoW Z own_EL p e s below ({ frames := 4, cells := 2, slots := 20, locals := 59 } : Room).cells ({ frames := 4, cells := 2, slots := 20, locals := 59 } : Room).slots (Q2 c' h0 n0) T17 (mkF m 42 #[.val (.int c')] [(.int r)])
    refine GoW.st (fun _ k_ => XS.ifYes X17.here hx rfl (pc0 := 42) (pc' := 49) rfl (hb hby d2_42) rfl ((if0 _ _).trans (tlt (hr.mpr hS)).1) (by decide) (by decide) k_) ?_
    show GoW Z own_EL p e s below ({ frames := 4, cells := 2, slots := 20, locals := 59 } : Room).cells ({ frames := 4, cells := 2, slots := 20, locals := 59 } : Room).slots (Q2 c' h0 n0) T17 (mkF m 49 #[.val (.int c')] [])
    refine GoW.st (fun _ k_ => XS.iconst X17.here hx rfl (hb hby d2_49) k_) ?_
    show GoW Z own_EL p e s below ({ frames := 4, cells := 2, slots := 20, locals := 59 } : Room).cells ({ frames := 4, cells := 2, slots := 20, locals := 59 } : Room).slots (Q2 c' h0 n0) T17 (mkF m 50 #[.val (.int c')] [(.int (0 : Int32))])
    exact GoW.retN X17 hx hlk hS1 hk2 hC2 (t := .boolean) Bd.returns (by simp) (hb hby d2_50) (by decide) (by decide) ⟨by rw [own_u, own_b0 (by rintro (q | q | q) <;> contradiction)]; rfl, N17, ER2⟩
  have j24 : ¬ own_lt c' → GoW Z own_EL p e s below ({ frames := 4, cells := 2, slots := 20, locals := 59 } : Room).cells ({ frames := 4, cells := 2, slots := 20, locals := 59 } : Room).slots (Q2 c' h0 n0) s₁ (mkF m 24 #[.val (.int c')] []) := by
    intro hl
    show GoW Z own_EL p e s below ({ frames := 4, cells := 2, slots := 20, locals := 59 } : Room).cells ({ frames := 4, cells := 2, slots := 20, locals := 59 } : Room).slots (Q2 c' h0 n0) s₁ (mkF m 24 #[.val (.int c')] [])
    refine GoW.st (fun _ k_ => XS.iloadN X0.here hx rfl (hb hby d2_24) rfl k_) ?_
    show GoW Z own_EL p e s below ({ frames := 4, cells := 2, slots := 20, locals := 59 } : Room).cells ({ frames := 4, cells := 2, slots := 20, locals := 59 } : Room).slots (Q2 c' h0 n0) s₁ (mkF m 25 #[.val (.int c')] [(.int c')])
    refine GoW.st (fun _ k_ => XS.bipush X0.here hx rfl (hb hby d2_25) k_) ?_
    by_cases h48 : c' < (48 : Int32)
    · skip
      show GoW Z own_EL p e s below ({ frames := 4, cells := 2, slots := 20, locals := 59 } : Room).cells ({ frames := 4, cells := 2, slots := 20, locals := 59 } : Room).slots (Q2 c' h0 n0) s₁ (mkF m 27 #[.val (.int c')] [(.int (48 : Int32)), (.int c')])
      refine GoW.st (fun _ k_ => XS.icmpYes X0.here hx rfl (pc0 := 27) (pc' := 36) rfl (hb hby d2_27) rfl (tlt h48).1 (by decide) (by decide) k_) ?_
      show GoW Z own_EL p e s below ({ frames := 4, cells := 2, slots := 20, locals := 59 } : Room).cells ({ frames := 4, cells := 2, slots := 20, locals := 59 } : Room).slots (Q2 c' h0 n0) s₁ (mkF m 36 #[.val (.int c')] [])
      exact rest hl (fun q => q.1 h48)
    · skip
      show GoW Z own_EL p e s below ({ frames := 4, cells := 2, slots := 20, locals := 59 } : Room).cells ({ frames := 4, cells := 2, slots := 20, locals := 59 } : Room).slots (Q2 c' h0 n0) s₁ (mkF m 27 #[.val (.int c')] [(.int (48 : Int32)), (.int c')])
      refine GoW.st (fun _ k_ => XS.icmpNo X0.here hx rfl (hb hby d2_27) rfl (flt h48).1 k_) ?_
      show GoW Z own_EL p e s below ({ frames := 4, cells := 2, slots := 20, locals := 59 } : Room).cells ({ frames := 4, cells := 2, slots := 20, locals := 59 } : Room).slots (Q2 c' h0 n0) s₁ (mkF m 30 #[.val (.int c')] [])
      refine GoW.st (fun _ k_ => XS.iloadN X0.here hx rfl (hb hby d2_30) rfl k_) ?_
      show GoW Z own_EL p e s below ({ frames := 4, cells := 2, slots := 20, locals := 59 } : Room).cells ({ frames := 4, cells := 2, slots := 20, locals := 59 } : Room).slots (Q2 c' h0 n0) s₁ (mkF m 31 #[.val (.int c')] [(.int c')])
      refine GoW.st (fun _ k_ => XS.bipush X0.here hx rfl (hb hby d2_31) k_) ?_
      by_cases h57 : (57 : Int32) < c'
      · skip
        show GoW Z own_EL p e s below ({ frames := 4, cells := 2, slots := 20, locals := 59 } : Room).cells ({ frames := 4, cells := 2, slots := 20, locals := 59 } : Room).slots (Q2 c' h0 n0) s₁ (mkF m 33 #[.val (.int c')] [(.int (57 : Int32)), (.int c')])
        refine GoW.st (fun _ k_ => XS.icmpNo X0.here hx rfl (hb hby d2_33) rfl (tlt h57).2.2.2 k_) ?_
        show GoW Z own_EL p e s below ({ frames := 4, cells := 2, slots := 20, locals := 59 } : Room).cells ({ frames := 4, cells := 2, slots := 20, locals := 59 } : Room).slots (Q2 c' h0 n0) s₁ (mkF m 36 #[.val (.int c')] [])
        exact rest hl (fun q => q.2 h57)
      · skip
        show GoW Z own_EL p e s below ({ frames := 4, cells := 2, slots := 20, locals := 59 } : Room).cells ({ frames := 4, cells := 2, slots := 20, locals := 59 } : Room).slots (Q2 c' h0 n0) s₁ (mkF m 33 #[.val (.int c')] [(.int (57 : Int32)), (.int c')])
        refine GoW.st (fun _ k_ => XS.icmpYes X0.here hx rfl (pc0 := 33) (pc' := 45) rfl (hb hby d2_33) rfl (flt h57).2.2.2 (by decide) (by decide) k_) ?_
        show GoW Z own_EL p e s below ({ frames := 4, cells := 2, slots := 20, locals := 59 } : Room).cells ({ frames := 4, cells := 2, slots := 20, locals := 59 } : Room).slots (Q2 c' h0 n0) s₁ (mkF m 45 #[.val (.int c')] [])
        exact yes (Or.inr (Or.inl ⟨h48, h57⟩))
  have j12 : ¬ (¬ c' < 97 ∧ ¬ 122 < c') → GoW Z own_EL p e s below ({ frames := 4, cells := 2, slots := 20, locals := 59 } : Room).cells ({ frames := 4, cells := 2, slots := 20, locals := 59 } : Room).slots (Q2 c' h0 n0) s₁ (mkF m 12 #[.val (.int c')] []) := by
    intro hn
    show GoW Z own_EL p e s below ({ frames := 4, cells := 2, slots := 20, locals := 59 } : Room).cells ({ frames := 4, cells := 2, slots := 20, locals := 59 } : Room).slots (Q2 c' h0 n0) s₁ (mkF m 12 #[.val (.int c')] [])
    refine GoW.st (fun _ k_ => XS.iloadN X0.here hx rfl (hb hby d2_12) rfl k_) ?_
    show GoW Z own_EL p e s below ({ frames := 4, cells := 2, slots := 20, locals := 59 } : Room).cells ({ frames := 4, cells := 2, slots := 20, locals := 59 } : Room).slots (Q2 c' h0 n0) s₁ (mkF m 13 #[.val (.int c')] [(.int c')])
    refine GoW.st (fun _ k_ => XS.bipush X0.here hx rfl (hb hby d2_13) k_) ?_
    by_cases h65 : c' < (65 : Int32)
    · skip
      show GoW Z own_EL p e s below ({ frames := 4, cells := 2, slots := 20, locals := 59 } : Room).cells ({ frames := 4, cells := 2, slots := 20, locals := 59 } : Room).slots (Q2 c' h0 n0) s₁ (mkF m 15 #[.val (.int c')] [(.int (65 : Int32)), (.int c')])
      refine GoW.st (fun _ k_ => XS.icmpYes X0.here hx rfl (pc0 := 15) (pc' := 24) rfl (hb hby d2_15) rfl (tlt h65).1 (by decide) (by decide) k_) ?_
      show GoW Z own_EL p e s below ({ frames := 4, cells := 2, slots := 20, locals := 59 } : Room).cells ({ frames := 4, cells := 2, slots := 20, locals := 59 } : Room).slots (Q2 c' h0 n0) s₁ (mkF m 24 #[.val (.int c')] [])
      exact j24 (by rintro (q | q); exact hn q; exact q.1 h65)
    · skip
      show GoW Z own_EL p e s below ({ frames := 4, cells := 2, slots := 20, locals := 59 } : Room).cells ({ frames := 4, cells := 2, slots := 20, locals := 59 } : Room).slots (Q2 c' h0 n0) s₁ (mkF m 15 #[.val (.int c')] [(.int (65 : Int32)), (.int c')])
      refine GoW.st (fun _ k_ => XS.icmpNo X0.here hx rfl (hb hby d2_15) rfl (flt h65).1 k_) ?_
      show GoW Z own_EL p e s below ({ frames := 4, cells := 2, slots := 20, locals := 59 } : Room).cells ({ frames := 4, cells := 2, slots := 20, locals := 59 } : Room).slots (Q2 c' h0 n0) s₁ (mkF m 18 #[.val (.int c')] [])
      refine GoW.st (fun _ k_ => XS.iloadN X0.here hx rfl (hb hby d2_18) rfl k_) ?_
      show GoW Z own_EL p e s below ({ frames := 4, cells := 2, slots := 20, locals := 59 } : Room).cells ({ frames := 4, cells := 2, slots := 20, locals := 59 } : Room).slots (Q2 c' h0 n0) s₁ (mkF m 19 #[.val (.int c')] [(.int c')])
      refine GoW.st (fun _ k_ => XS.bipush X0.here hx rfl (hb hby d2_19) k_) ?_
      by_cases h90 : (90 : Int32) < c'
      · skip
        show GoW Z own_EL p e s below ({ frames := 4, cells := 2, slots := 20, locals := 59 } : Room).cells ({ frames := 4, cells := 2, slots := 20, locals := 59 } : Room).slots (Q2 c' h0 n0) s₁ (mkF m 21 #[.val (.int c')] [(.int (90 : Int32)), (.int c')])
        refine GoW.st (fun _ k_ => XS.icmpNo X0.here hx rfl (hb hby d2_21) rfl (tlt h90).2.2.2 k_) ?_
        show GoW Z own_EL p e s below ({ frames := 4, cells := 2, slots := 20, locals := 59 } : Room).cells ({ frames := 4, cells := 2, slots := 20, locals := 59 } : Room).slots (Q2 c' h0 n0) s₁ (mkF m 24 #[.val (.int c')] [])
        exact j24 (by rintro (q | q); exact hn q; exact q.2 h90)
      · skip
        show GoW Z own_EL p e s below ({ frames := 4, cells := 2, slots := 20, locals := 59 } : Room).cells ({ frames := 4, cells := 2, slots := 20, locals := 59 } : Room).slots (Q2 c' h0 n0) s₁ (mkF m 21 #[.val (.int c')] [(.int (90 : Int32)), (.int c')])
        refine GoW.st (fun _ k_ => XS.icmpYes X0.here hx rfl (pc0 := 21) (pc' := 45) rfl (hb hby d2_21) rfl (flt h90).2.2.2 (by decide) (by decide) k_) ?_
        show GoW Z own_EL p e s below ({ frames := 4, cells := 2, slots := 20, locals := 59 } : Room).cells ({ frames := 4, cells := 2, slots := 20, locals := 59 } : Room).slots (Q2 c' h0 n0) s₁ (mkF m 45 #[.val (.int c')] [])
        exact yes (Or.inl (Or.inr ⟨h65, h90⟩))
  show GoW Z own_EL p e s below ({ frames := 4, cells := 2, slots := 20, locals := 59 } : Room).cells ({ frames := 4, cells := 2, slots := 20, locals := 59 } : Room).slots (Q2 c' h0 n0) s₁ (mkF m 0 #[.val (.int c')] [])
  refine GoW.st (fun _ k_ => XS.iloadN X0.here hx rfl (hb hby d2_0) rfl k_) ?_
  show GoW Z own_EL p e s below ({ frames := 4, cells := 2, slots := 20, locals := 59 } : Room).cells ({ frames := 4, cells := 2, slots := 20, locals := 59 } : Room).slots (Q2 c' h0 n0) s₁ (mkF m 1 #[.val (.int c')] [(.int c')])
  refine GoW.st (fun _ k_ => XS.bipush X0.here hx rfl (hb hby d2_1) k_) ?_
  by_cases h97 : c' < (97 : Int32)
  · skip
    show GoW Z own_EL p e s below ({ frames := 4, cells := 2, slots := 20, locals := 59 } : Room).cells ({ frames := 4, cells := 2, slots := 20, locals := 59 } : Room).slots (Q2 c' h0 n0) s₁ (mkF m 3 #[.val (.int c')] [(.int (97 : Int32)), (.int c')])
    refine GoW.st (fun _ k_ => XS.icmpYes X0.here hx rfl (pc0 := 3) (pc' := 12) rfl (hb hby d2_3) rfl (tlt h97).1 (by decide) (by decide) k_) ?_
    show GoW Z own_EL p e s below ({ frames := 4, cells := 2, slots := 20, locals := 59 } : Room).cells ({ frames := 4, cells := 2, slots := 20, locals := 59 } : Room).slots (Q2 c' h0 n0) s₁ (mkF m 12 #[.val (.int c')] [])
    exact j12 (fun q => q.1 h97)
  · skip
    show GoW Z own_EL p e s below ({ frames := 4, cells := 2, slots := 20, locals := 59 } : Room).cells ({ frames := 4, cells := 2, slots := 20, locals := 59 } : Room).slots (Q2 c' h0 n0) s₁ (mkF m 3 #[.val (.int c')] [(.int (97 : Int32)), (.int c')])
    refine GoW.st (fun _ k_ => XS.icmpNo X0.here hx rfl (hb hby d2_3) rfl (flt h97).1 k_) ?_
    show GoW Z own_EL p e s below ({ frames := 4, cells := 2, slots := 20, locals := 59 } : Room).cells ({ frames := 4, cells := 2, slots := 20, locals := 59 } : Room).slots (Q2 c' h0 n0) s₁ (mkF m 6 #[.val (.int c')] [])
    refine GoW.st (fun _ k_ => XS.iloadN X0.here hx rfl (hb hby d2_6) rfl k_) ?_
    show GoW Z own_EL p e s below ({ frames := 4, cells := 2, slots := 20, locals := 59 } : Room).cells ({ frames := 4, cells := 2, slots := 20, locals := 59 } : Room).slots (Q2 c' h0 n0) s₁ (mkF m 7 #[.val (.int c')] [(.int c')])
    refine GoW.st (fun _ k_ => XS.bipush X0.here hx rfl (hb hby d2_7) k_) ?_
    by_cases h122 : (122 : Int32) < c'
    · skip
      show GoW Z own_EL p e s below ({ frames := 4, cells := 2, slots := 20, locals := 59 } : Room).cells ({ frames := 4, cells := 2, slots := 20, locals := 59 } : Room).slots (Q2 c' h0 n0) s₁ (mkF m 9 #[.val (.int c')] [(.int (122 : Int32)), (.int c')])
      refine GoW.st (fun _ k_ => XS.icmpNo X0.here hx rfl (hb hby d2_9) rfl (tlt h122).2.2.2 k_) ?_
      show GoW Z own_EL p e s below ({ frames := 4, cells := 2, slots := 20, locals := 59 } : Room).cells ({ frames := 4, cells := 2, slots := 20, locals := 59 } : Room).slots (Q2 c' h0 n0) s₁ (mkF m 12 #[.val (.int c')] [])
      exact j12 (fun q => q.2 h122)
    · skip
      show GoW Z own_EL p e s below ({ frames := 4, cells := 2, slots := 20, locals := 59 } : Room).cells ({ frames := 4, cells := 2, slots := 20, locals := 59 } : Room).slots (Q2 c' h0 n0) s₁ (mkF m 9 #[.val (.int c')] [(.int (122 : Int32)), (.int c')])
      refine GoW.st (fun _ k_ => XS.icmpYes X0.here hx rfl (pc0 := 9) (pc' := 45) rfl (hb hby d2_9) rfl (flt h122).2.2.2 (by decide) (by decide) k_) ?_
      show GoW Z own_EL p e s below ({ frames := 4, cells := 2, slots := 20, locals := 59 } : Room).cells ({ frames := 4, cells := 2, slots := 20, locals := 59 } : Room).slots (Q2 c' h0 n0) s₁ (mkF m 45 #[.val (.int c')] [])
      exact yes (Or.inl (Or.inl ⟨h97, h122⟩))
def Q13 (c : Int32) (h0 : Heap) (n0 : Nat) (v : Option Value) (h : Heap) (L : List Loc) : Prop := v = some (.int (own_u c)) ∧ Fr n0 L ∧ h = h0
set_option maxRecDepth 65536 in
set_option maxHeartbeats 40000000 in
theorem rm13 (l : Launch) (Z : State) (a0 : Array Value) (hw : ∀ d ∈ tables_1, d.before a0 Z = true) (ws : List Jvm.Cond) (c' : Int32) (h0 : Heap) (n0 : Nat) (Z0 : n0 ≤ h0.size)  :
    MetFree l (⟨"com/example/portcullis/portcullis/PercentEncodingIsUnreservedPinLaw", "expected", "(I)Z"⟩ : MethodName) (head1 (Jvm.Cond.code (⟨"com/example/portcullis/portcullis/PercentEncodingIsUnreservedPinLaw", "expected", "(I)Z"⟩ : MethodName) method_2_code 5 (some .boolean) :: ws) ({ frames := 0, cells := 0, slots := 0, locals := 0 } : Room)) (fun a_ U_ => a_ = #[(.int c')] ∧ Z.Warmed39 U_.vm ∧ U_.heap = h0) (fun _ _ _ _ _ => True) (fun _ U_ o_ W_ => ∃ v_ L_, o_ = .returned v_ ∧ (Q13 c' h0 n0) v_ W_.heap L_ ∧ FrameEnd U_ o_ W_ L_ ({ frames := 0, cells := 0, slots := 0, locals := 0 } : Room).cells ({ frames := 0, cells := 0, slots := 0, locals := 0 } : Room).slots) := by
  refine MetFree.of_bodySF (plainFor_of_name pn_com_example_portcullis_portcullis_PercentEncodingIsUnreservedPinLaw) hisR ?_
  intro p e s m args below meth c s₁ Bd hml0 hP hK
  obtain ⟨rfl, hZ, hh⟩ := hP
  have hx := Bd.exec
  have hby := Bd.bytes
  have hml : c.maxLocals = 5 := hml0
  have hown : s.vm.findClass "com/example/portcullis/portcullis/PercentEncodingIsUnreservedPinLaw" = some m.cls := findClass_of_methodNamed Bd.named
  have hnm := (name_of_methodNamed Bd.named Bd.method).1
  have hlk : meth.locks = false := BodyLoose.notSynchronized Bd
  have X0 : Stand p l e ({ frames := 0, cells := 0, slots := 0, locals := 0 } : Room) s m #[(.int c')] below meth c s₁ [] 0 0 := Stand.of_body Bd
  have e0 : s₁.heap = h0 := by rw [← hh, Bd.state]; rfl
  have N0 := Fr.nil n0
  refine Go.enter (ef_13 m c') ?_
  have hf := own_fold c'
  show Go p e s below ({ frames := 0, cells := 0, slots := 0, locals := 0 } : Room).cells ({ frames := 0, cells := 0, slots := 0, locals := 0 } : Room).slots (Q13 c' h0 n0) s₁ (mkF m 0 #[.val (.int c'), .unset, .unset, .unset, .unset] [])
  refine Go.st (fun _ k_ => XS.iloadN X0.here hx rfl (hb hby d13_0) rfl k_) ?_
  show Go p e s below ({ frames := 0, cells := 0, slots := 0, locals := 0 } : Room).cells ({ frames := 0, cells := 0, slots := 0, locals := 0 } : Room).slots (Q13 c' h0 n0) s₁ (mkF m 1 #[.val (.int c'), .unset, .unset, .unset, .unset] [(.int c')])
  refine Go.st (fun _ k_ => XS.bipush X0.here hx rfl (hb hby d13_1) k_) ?_
  show Go p e s below ({ frames := 0, cells := 0, slots := 0, locals := 0 } : Room).cells ({ frames := 0, cells := 0, slots := 0, locals := 0 } : Room).slots (Q13 c' h0 n0) s₁ (mkF m 3 #[.val (.int c'), .unset, .unset, .unset, .unset] [(.int (32 : Int32)), (.int c')])
  refine Go.st (fun _ k_ => XS.ior X0.here hx rfl (hb hby d13_3) rfl k_) ?_
  show Go p e s below ({ frames := 0, cells := 0, slots := 0, locals := 0 } : Room).cells ({ frames := 0, cells := 0, slots := 0, locals := 0 } : Room).slots (Q13 c' h0 n0) s₁ (mkF m 4 #[.val (.int c'), .unset, .unset, .unset, .unset] [(.int (c' ||| (32 : Int32)))])
  obtain ⟨fo, hfo⟩ : ∃ z : Int32, z = (c' ||| (32 : Int32)) := ⟨_, rfl⟩
  rw [← hfo]
  rw [← hfo] at hf
  show Go p e s below ({ frames := 0, cells := 0, slots := 0, locals := 0 } : Room).cells ({ frames := 0, cells := 0, slots := 0, locals := 0 } : Room).slots (Q13 c' h0 n0) s₁ (mkF m 4 #[.val (.int c'), .unset, .unset, .unset, .unset] [(.int fo)])
  refine Go.st (fun _ k_ => XS.istoreN X0.here hx rfl (hb hby d13_4) rfl (l' := #[.val (.int c'), .val (.int fo), .unset, .unset, .unset]) rfl k_) ?_
  have yes : (own_lt c' ∨ own_dg c' ∨ own_S c') → Go p e s below ({ frames := 0, cells := 0, slots := 0, locals := 0 } : Room).cells ({ frames := 0, cells := 0, slots := 0, locals := 0 } : Room).slots (Q13 c' h0 n0) s₁ (mkF m 85 #[.val (.int c'), .val (.int fo), .val (.int (own_b (own_lt c'))), .val (.int (own_b (own_dg c'))), .val (.int (own_b (own_S c')))] []) := by
    intro hy
    show Go p e s below ({ frames := 0, cells := 0, slots := 0, locals := 0 } : Room).cells ({ frames := 0, cells := 0, slots := 0, locals := 0 } : Room).slots (Q13 c' h0 n0) s₁ (mkF m 85 #[.val (.int c'), .val (.int fo), .val (.int (own_b (own_lt c'))), .val (.int (own_b (own_dg c'))), .val (.int (own_b (own_S c')))] [])
    refine Go.st (fun _ k_ => XS.iconst X0.here hx rfl (hb hby d13_85) k_) ?_
    show Go p e s below ({ frames := 0, cells := 0, slots := 0, locals := 0 } : Room).cells ({ frames := 0, cells := 0, slots := 0, locals := 0 } : Room).slots (Q13 c' h0 n0) s₁ (mkF m 86 #[.val (.int c'), .val (.int fo), .val (.int (own_b (own_lt c'))), .val (.int (own_b (own_dg c'))), .val (.int (own_b (own_S c')))] [(.int (1 : Int32))])
    refine Go.st (fun _ k_ => XS.goto X0.here hx rfl (pc0 := 86) (pc' := 90) rfl (hb hby d13_86) (by decide) (by decide) k_) ?_
    show Go p e s below ({ frames := 0, cells := 0, slots := 0, locals := 0 } : Room).cells ({ frames := 0, cells := 0, slots := 0, locals := 0 } : Room).slots (Q13 c' h0 n0) s₁ (mkF m 90 #[.val (.int c'), .val (.int fo), .val (.int (own_b (own_lt c'))), .val (.int (own_b (own_dg c'))), .val (.int (own_b (own_S c')))] [(.int (1 : Int32))])
    exact Go.retN X0 hx hlk (t := .boolean) Bd.returns (by simp) (hb hby d13_90) (by decide) (by decide) ⟨by rw [own_u, own_b1 hy]; rfl, N0, e0⟩
  have j70 : Go p e s below ({ frames := 0, cells := 0, slots := 0, locals := 0 } : Room).cells ({ frames := 0, cells := 0, slots := 0, locals := 0 } : Room).slots (Q13 c' h0 n0) s₁ (mkF m 70 #[.val (.int c'), .val (.int fo), .val (.int (own_b (own_lt c'))), .val (.int (own_b (own_dg c'))), .unset] [(.int (own_b (own_S c')))]) := by
    show Go p e s below ({ frames := 0, cells := 0, slots := 0, locals := 0 } : Room).cells ({ frames := 0, cells := 0, slots := 0, locals := 0 } : Room).slots (Q13 c' h0 n0) s₁ (mkF m 70 #[.val (.int c'), .val (.int fo), .val (.int (own_b (own_lt c'))), .val (.int (own_b (own_dg c'))), .unset] [(.int (own_b (own_S c')))])
    refine Go.st (fun _ k_ => XS.istore X0.here hx rfl (hb hby d13_70) rfl (l' := #[.val (.int c'), .val (.int fo), .val (.int (own_b (own_lt c'))), .val (.int (own_b (own_dg c'))), .val (.int (own_b (own_S c')))]) rfl k_) ?_
    show Go p e s below ({ frames := 0, cells := 0, slots := 0, locals := 0 } : Room).cells ({ frames := 0, cells := 0, slots := 0, locals := 0 } : Room).slots (Q13 c' h0 n0) s₁ (mkF m 72 #[.val (.int c'), .val (.int fo), .val (.int (own_b (own_lt c'))), .val (.int (own_b (own_dg c'))), .val (.int (own_b (own_S c')))] [])
    refine Go.st (fun _ k_ => XS.iloadN X0.here hx rfl (hb hby d13_72) rfl k_) ?_
    by_cases hl : own_lt c'
    · skip
      show Go p e s below ({ frames := 0, cells := 0, slots := 0, locals := 0 } : Room).cells ({ frames := 0, cells := 0, slots := 0, locals := 0 } : Room).slots (Q13 c' h0 n0) s₁ (mkF m 73 #[.val (.int c'), .val (.int fo), .val (.int (own_b (own_lt c'))), .val (.int (own_b (own_dg c'))), .val (.int (own_b (own_S c')))] [(.int (own_b (own_lt c')))])
      refine Go.st (fun _ k_ => XS.ifYes X0.here hx rfl (pc0 := 73) (pc' := 85) rfl (hb hby d13_73) rfl ((if0 _ _).trans (feq (by rw [own_b1 hl]; decide)).2) (by decide) (by decide) k_) ?_
      show Go p e s below ({ frames := 0, cells := 0, slots := 0, locals := 0 } : Room).cells ({ frames := 0, cells := 0, slots := 0, locals := 0 } : Room).slots (Q13 c' h0 n0) s₁ (mkF m 85 #[.val (.int c'), .val (.int fo), .val (.int (own_b (own_lt c'))), .val (.int (own_b (own_dg c'))), .val (.int (own_b (own_S c')))] [])
      exact yes (Or.inl hl)
    show Go p e s below ({ frames := 0, cells := 0, slots := 0, locals := 0 } : Room).cells ({ frames := 0, cells := 0, slots := 0, locals := 0 } : Room).slots (Q13 c' h0 n0) s₁ (mkF m 73 #[.val (.int c'), .val (.int fo), .val (.int (own_b (own_lt c'))), .val (.int (own_b (own_dg c'))), .val (.int (own_b (own_S c')))] [(.int (own_b (own_lt c')))])
    refine Go.st (fun _ k_ => XS.ifNo X0.here hx rfl (hb hby d13_73) rfl ((if0 _ _).trans (teq (own_b0 hl)).2) k_) ?_
    show Go p e s below ({ frames := 0, cells := 0, slots := 0, locals := 0 } : Room).cells ({ frames := 0, cells := 0, slots := 0, locals := 0 } : Room).slots (Q13 c' h0 n0) s₁ (mkF m 76 #[.val (.int c'), .val (.int fo), .val (.int (own_b (own_lt c'))), .val (.int (own_b (own_dg c'))), .val (.int (own_b (own_S c')))] [])
    refine Go.st (fun _ k_ => XS.iloadN X0.here hx rfl (hb hby d13_76) rfl k_) ?_
    by_cases hd : own_dg c'
    · skip
      show Go p e s below ({ frames := 0, cells := 0, slots := 0, locals := 0 } : Room).cells ({ frames := 0, cells := 0, slots := 0, locals := 0 } : Room).slots (Q13 c' h0 n0) s₁ (mkF m 77 #[.val (.int c'), .val (.int fo), .val (.int (own_b (own_lt c'))), .val (.int (own_b (own_dg c'))), .val (.int (own_b (own_S c')))] [(.int (own_b (own_dg c')))])
      refine Go.st (fun _ k_ => XS.ifYes X0.here hx rfl (pc0 := 77) (pc' := 85) rfl (hb hby d13_77) rfl ((if0 _ _).trans (feq (by rw [own_b1 hd]; decide)).2) (by decide) (by decide) k_) ?_
      show Go p e s below ({ frames := 0, cells := 0, slots := 0, locals := 0 } : Room).cells ({ frames := 0, cells := 0, slots := 0, locals := 0 } : Room).slots (Q13 c' h0 n0) s₁ (mkF m 85 #[.val (.int c'), .val (.int fo), .val (.int (own_b (own_lt c'))), .val (.int (own_b (own_dg c'))), .val (.int (own_b (own_S c')))] [])
      exact yes (Or.inr (Or.inl hd))
    show Go p e s below ({ frames := 0, cells := 0, slots := 0, locals := 0 } : Room).cells ({ frames := 0, cells := 0, slots := 0, locals := 0 } : Room).slots (Q13 c' h0 n0) s₁ (mkF m 77 #[.val (.int c'), .val (.int fo), .val (.int (own_b (own_lt c'))), .val (.int (own_b (own_dg c'))), .val (.int (own_b (own_S c')))] [(.int (own_b (own_dg c')))])
    refine Go.st (fun _ k_ => XS.ifNo X0.here hx rfl (hb hby d13_77) rfl ((if0 _ _).trans (teq (own_b0 hd)).2) k_) ?_
    show Go p e s below ({ frames := 0, cells := 0, slots := 0, locals := 0 } : Room).cells ({ frames := 0, cells := 0, slots := 0, locals := 0 } : Room).slots (Q13 c' h0 n0) s₁ (mkF m 80 #[.val (.int c'), .val (.int fo), .val (.int (own_b (own_lt c'))), .val (.int (own_b (own_dg c'))), .val (.int (own_b (own_S c')))] [])
    refine Go.st (fun _ k_ => XS.iload X0.here hx rfl (hb hby d13_80) rfl k_) ?_
    by_cases hS : own_S c'
    · skip
      show Go p e s below ({ frames := 0, cells := 0, slots := 0, locals := 0 } : Room).cells ({ frames := 0, cells := 0, slots := 0, locals := 0 } : Room).slots (Q13 c' h0 n0) s₁ (mkF m 82 #[.val (.int c'), .val (.int fo), .val (.int (own_b (own_lt c'))), .val (.int (own_b (own_dg c'))), .val (.int (own_b (own_S c')))] [(.int (own_b (own_S c')))])
      refine Go.st (fun _ k_ => XS.ifNo X0.here hx rfl (hb hby d13_82) rfl ((if0 _ _).trans (feq (by rw [own_b1 hS]; decide)).1) k_) ?_
      show Go p e s below ({ frames := 0, cells := 0, slots := 0, locals := 0 } : Room).cells ({ frames := 0, cells := 0, slots := 0, locals := 0 } : Room).slots (Q13 c' h0 n0) s₁ (mkF m 85 #[.val (.int c'), .val (.int fo), .val (.int (own_b (own_lt c'))), .val (.int (own_b (own_dg c'))), .val (.int (own_b (own_S c')))] [])
      exact yes (Or.inr (Or.inr hS))
    show Go p e s below ({ frames := 0, cells := 0, slots := 0, locals := 0 } : Room).cells ({ frames := 0, cells := 0, slots := 0, locals := 0 } : Room).slots (Q13 c' h0 n0) s₁ (mkF m 82 #[.val (.int c'), .val (.int fo), .val (.int (own_b (own_lt c'))), .val (.int (own_b (own_dg c'))), .val (.int (own_b (own_S c')))] [(.int (own_b (own_S c')))])
    refine Go.st (fun _ k_ => XS.ifYes X0.here hx rfl (pc0 := 82) (pc' := 89) rfl (hb hby d13_82) rfl ((if0 _ _).trans (teq (own_b0 hS)).1) (by decide) (by decide) k_) ?_
    show Go p e s below ({ frames := 0, cells := 0, slots := 0, locals := 0 } : Room).cells ({ frames := 0, cells := 0, slots := 0, locals := 0 } : Room).slots (Q13 c' h0 n0) s₁ (mkF m 89 #[.val (.int c'), .val (.int fo), .val (.int (own_b (own_lt c'))), .val (.int (own_b (own_dg c'))), .val (.int (own_b (own_S c')))] [])
    refine Go.st (fun _ k_ => XS.iconst X0.here hx rfl (hb hby d13_89) k_) ?_
    show Go p e s below ({ frames := 0, cells := 0, slots := 0, locals := 0 } : Room).cells ({ frames := 0, cells := 0, slots := 0, locals := 0 } : Room).slots (Q13 c' h0 n0) s₁ (mkF m 90 #[.val (.int c'), .val (.int fo), .val (.int (own_b (own_lt c'))), .val (.int (own_b (own_dg c'))), .val (.int (own_b (own_S c')))] [(.int (0 : Int32))])
    exact Go.retN X0 hx hlk (t := .boolean) Bd.returns (by simp) (hb hby d13_90) (by decide) (by decide) ⟨by rw [own_u, own_b0 (by rintro (q | q | q) <;> contradiction)]; rfl, N0, e0⟩
  have j40 : Go p e s below ({ frames := 0, cells := 0, slots := 0, locals := 0 } : Room).cells ({ frames := 0, cells := 0, slots := 0, locals := 0 } : Room).slots (Q13 c' h0 n0) s₁ (mkF m 40 #[.val (.int c'), .val (.int fo), .val (.int (own_b (own_lt c'))), .unset, .unset] [(.int (own_b (own_dg c')))]) := by
    show Go p e s below ({ frames := 0, cells := 0, slots := 0, locals := 0 } : Room).cells ({ frames := 0, cells := 0, slots := 0, locals := 0 } : Room).slots (Q13 c' h0 n0) s₁ (mkF m 40 #[.val (.int c'), .val (.int fo), .val (.int (own_b (own_lt c'))), .unset, .unset] [(.int (own_b (own_dg c')))])
    refine Go.st (fun _ k_ => XS.istoreN X0.here hx rfl (hb hby d13_40) rfl (l' := #[.val (.int c'), .val (.int fo), .val (.int (own_b (own_lt c'))), .val (.int (own_b (own_dg c'))), .unset]) rfl k_) ?_
    show Go p e s below ({ frames := 0, cells := 0, slots := 0, locals := 0 } : Room).cells ({ frames := 0, cells := 0, slots := 0, locals := 0 } : Room).slots (Q13 c' h0 n0) s₁ (mkF m 41 #[.val (.int c'), .val (.int fo), .val (.int (own_b (own_lt c'))), .val (.int (own_b (own_dg c'))), .unset] [])
    refine Go.st (fun _ k_ => XS.iloadN X0.here hx rfl (hb hby d13_41) rfl k_) ?_
    show Go p e s below ({ frames := 0, cells := 0, slots := 0, locals := 0 } : Room).cells ({ frames := 0, cells := 0, slots := 0, locals := 0 } : Room).slots (Q13 c' h0 n0) s₁ (mkF m 42 #[.val (.int c'), .val (.int fo), .val (.int (own_b (own_lt c'))), .val (.int (own_b (own_dg c'))), .unset] [(.int c')])
    refine Go.st (fun _ k_ => XS.bipush X0.here hx rfl (hb hby d13_42) k_) ?_
    by_cases h45 : c' = (45 : Int32)
    · skip
      show Go p e s below ({ frames := 0, cells := 0, slots := 0, locals := 0 } : Room).cells ({ frames := 0, cells := 0, slots := 0, locals := 0 } : Room).slots (Q13 c' h0 n0) s₁ (mkF m 44 #[.val (.int c'), .val (.int fo), .val (.int (own_b (own_lt c'))), .val (.int (own_b (own_dg c'))), .unset] [(.int (45 : Int32)), (.int c')])
      refine Go.st (fun _ k_ => XS.icmpYes X0.here hx rfl (pc0 := 44) (pc' := 65) rfl (hb hby d13_44) rfl (teq h45).1 (by decide) (by decide) k_) ?_
      show Go p e s below ({ frames := 0, cells := 0, slots := 0, locals := 0 } : Room).cells ({ frames := 0, cells := 0, slots := 0, locals := 0 } : Room).slots (Q13 c' h0 n0) s₁ (mkF m 65 #[.val (.int c'), .val (.int fo), .val (.int (own_b (own_lt c'))), .val (.int (own_b (own_dg c'))), .unset] [])
      refine Go.st (fun _ k_ => XS.iconst X0.here hx rfl (hb hby d13_65) k_) ?_
      show Go p e s below ({ frames := 0, cells := 0, slots := 0, locals := 0 } : Room).cells ({ frames := 0, cells := 0, slots := 0, locals := 0 } : Room).slots (Q13 c' h0 n0) s₁ (mkF m 66 #[.val (.int c'), .val (.int fo), .val (.int (own_b (own_lt c'))), .val (.int (own_b (own_dg c'))), .unset] [(.int (1 : Int32))])
      refine Go.st (fun _ k_ => XS.goto X0.here hx rfl (pc0 := 66) (pc' := 70) rfl (hb hby d13_66) (by decide) (by decide) k_) ?_
      show Go p e s below ({ frames := 0, cells := 0, slots := 0, locals := 0 } : Room).cells ({ frames := 0, cells := 0, slots := 0, locals := 0 } : Room).slots (Q13 c' h0 n0) s₁ (mkF m 70 #[.val (.int c'), .val (.int fo), .val (.int (own_b (own_lt c'))), .val (.int (own_b (own_dg c'))), .unset] [(.int (1 : Int32))])
      rw [own_b1 (show own_S c' from Or.inl h45)] at j70
      exact j70
    · skip
      show Go p e s below ({ frames := 0, cells := 0, slots := 0, locals := 0 } : Room).cells ({ frames := 0, cells := 0, slots := 0, locals := 0 } : Room).slots (Q13 c' h0 n0) s₁ (mkF m 44 #[.val (.int c'), .val (.int fo), .val (.int (own_b (own_lt c'))), .val (.int (own_b (own_dg c'))), .unset] [(.int (45 : Int32)), (.int c')])
      refine Go.st (fun _ k_ => XS.icmpNo X0.here hx rfl (hb hby d13_44) rfl (feq h45).1 k_) ?_
      show Go p e s below ({ frames := 0, cells := 0, slots := 0, locals := 0 } : Room).cells ({ frames := 0, cells := 0, slots := 0, locals := 0 } : Room).slots (Q13 c' h0 n0) s₁ (mkF m 47 #[.val (.int c'), .val (.int fo), .val (.int (own_b (own_lt c'))), .val (.int (own_b (own_dg c'))), .unset] [])
      refine Go.st (fun _ k_ => XS.iloadN X0.here hx rfl (hb hby d13_47) rfl k_) ?_
      show Go p e s below ({ frames := 0, cells := 0, slots := 0, locals := 0 } : Room).cells ({ frames := 0, cells := 0, slots := 0, locals := 0 } : Room).slots (Q13 c' h0 n0) s₁ (mkF m 48 #[.val (.int c'), .val (.int fo), .val (.int (own_b (own_lt c'))), .val (.int (own_b (own_dg c'))), .unset] [(.int c')])
      refine Go.st (fun _ k_ => XS.bipush X0.here hx rfl (hb hby d13_48) k_) ?_
      by_cases h46 : c' = (46 : Int32)
      · skip
        show Go p e s below ({ frames := 0, cells := 0, slots := 0, locals := 0 } : Room).cells ({ frames := 0, cells := 0, slots := 0, locals := 0 } : Room).slots (Q13 c' h0 n0) s₁ (mkF m 50 #[.val (.int c'), .val (.int fo), .val (.int (own_b (own_lt c'))), .val (.int (own_b (own_dg c'))), .unset] [(.int (46 : Int32)), (.int c')])
        refine Go.st (fun _ k_ => XS.icmpYes X0.here hx rfl (pc0 := 50) (pc' := 65) rfl (hb hby d13_50) rfl (teq h46).1 (by decide) (by decide) k_) ?_
        show Go p e s below ({ frames := 0, cells := 0, slots := 0, locals := 0 } : Room).cells ({ frames := 0, cells := 0, slots := 0, locals := 0 } : Room).slots (Q13 c' h0 n0) s₁ (mkF m 65 #[.val (.int c'), .val (.int fo), .val (.int (own_b (own_lt c'))), .val (.int (own_b (own_dg c'))), .unset] [])
        refine Go.st (fun _ k_ => XS.iconst X0.here hx rfl (hb hby d13_65) k_) ?_
        show Go p e s below ({ frames := 0, cells := 0, slots := 0, locals := 0 } : Room).cells ({ frames := 0, cells := 0, slots := 0, locals := 0 } : Room).slots (Q13 c' h0 n0) s₁ (mkF m 66 #[.val (.int c'), .val (.int fo), .val (.int (own_b (own_lt c'))), .val (.int (own_b (own_dg c'))), .unset] [(.int (1 : Int32))])
        refine Go.st (fun _ k_ => XS.goto X0.here hx rfl (pc0 := 66) (pc' := 70) rfl (hb hby d13_66) (by decide) (by decide) k_) ?_
        show Go p e s below ({ frames := 0, cells := 0, slots := 0, locals := 0 } : Room).cells ({ frames := 0, cells := 0, slots := 0, locals := 0 } : Room).slots (Q13 c' h0 n0) s₁ (mkF m 70 #[.val (.int c'), .val (.int fo), .val (.int (own_b (own_lt c'))), .val (.int (own_b (own_dg c'))), .unset] [(.int (1 : Int32))])
        rw [own_b1 (show own_S c' from Or.inr (Or.inl h46))] at j70
        exact j70
      · skip
        show Go p e s below ({ frames := 0, cells := 0, slots := 0, locals := 0 } : Room).cells ({ frames := 0, cells := 0, slots := 0, locals := 0 } : Room).slots (Q13 c' h0 n0) s₁ (mkF m 50 #[.val (.int c'), .val (.int fo), .val (.int (own_b (own_lt c'))), .val (.int (own_b (own_dg c'))), .unset] [(.int (46 : Int32)), (.int c')])
        refine Go.st (fun _ k_ => XS.icmpNo X0.here hx rfl (hb hby d13_50) rfl (feq h46).1 k_) ?_
        show Go p e s below ({ frames := 0, cells := 0, slots := 0, locals := 0 } : Room).cells ({ frames := 0, cells := 0, slots := 0, locals := 0 } : Room).slots (Q13 c' h0 n0) s₁ (mkF m 53 #[.val (.int c'), .val (.int fo), .val (.int (own_b (own_lt c'))), .val (.int (own_b (own_dg c'))), .unset] [])
        refine Go.st (fun _ k_ => XS.iloadN X0.here hx rfl (hb hby d13_53) rfl k_) ?_
        show Go p e s below ({ frames := 0, cells := 0, slots := 0, locals := 0 } : Room).cells ({ frames := 0, cells := 0, slots := 0, locals := 0 } : Room).slots (Q13 c' h0 n0) s₁ (mkF m 54 #[.val (.int c'), .val (.int fo), .val (.int (own_b (own_lt c'))), .val (.int (own_b (own_dg c'))), .unset] [(.int c')])
        refine Go.st (fun _ k_ => XS.bipush X0.here hx rfl (hb hby d13_54) k_) ?_
        by_cases h95 : c' = (95 : Int32)
        · skip
          show Go p e s below ({ frames := 0, cells := 0, slots := 0, locals := 0 } : Room).cells ({ frames := 0, cells := 0, slots := 0, locals := 0 } : Room).slots (Q13 c' h0 n0) s₁ (mkF m 56 #[.val (.int c'), .val (.int fo), .val (.int (own_b (own_lt c'))), .val (.int (own_b (own_dg c'))), .unset] [(.int (95 : Int32)), (.int c')])
          refine Go.st (fun _ k_ => XS.icmpYes X0.here hx rfl (pc0 := 56) (pc' := 65) rfl (hb hby d13_56) rfl (teq h95).1 (by decide) (by decide) k_) ?_
          show Go p e s below ({ frames := 0, cells := 0, slots := 0, locals := 0 } : Room).cells ({ frames := 0, cells := 0, slots := 0, locals := 0 } : Room).slots (Q13 c' h0 n0) s₁ (mkF m 65 #[.val (.int c'), .val (.int fo), .val (.int (own_b (own_lt c'))), .val (.int (own_b (own_dg c'))), .unset] [])
          refine Go.st (fun _ k_ => XS.iconst X0.here hx rfl (hb hby d13_65) k_) ?_
          show Go p e s below ({ frames := 0, cells := 0, slots := 0, locals := 0 } : Room).cells ({ frames := 0, cells := 0, slots := 0, locals := 0 } : Room).slots (Q13 c' h0 n0) s₁ (mkF m 66 #[.val (.int c'), .val (.int fo), .val (.int (own_b (own_lt c'))), .val (.int (own_b (own_dg c'))), .unset] [(.int (1 : Int32))])
          refine Go.st (fun _ k_ => XS.goto X0.here hx rfl (pc0 := 66) (pc' := 70) rfl (hb hby d13_66) (by decide) (by decide) k_) ?_
          show Go p e s below ({ frames := 0, cells := 0, slots := 0, locals := 0 } : Room).cells ({ frames := 0, cells := 0, slots := 0, locals := 0 } : Room).slots (Q13 c' h0 n0) s₁ (mkF m 70 #[.val (.int c'), .val (.int fo), .val (.int (own_b (own_lt c'))), .val (.int (own_b (own_dg c'))), .unset] [(.int (1 : Int32))])
          rw [own_b1 (show own_S c' from Or.inr (Or.inr (Or.inl h95)))] at j70
          exact j70
        · skip
          show Go p e s below ({ frames := 0, cells := 0, slots := 0, locals := 0 } : Room).cells ({ frames := 0, cells := 0, slots := 0, locals := 0 } : Room).slots (Q13 c' h0 n0) s₁ (mkF m 56 #[.val (.int c'), .val (.int fo), .val (.int (own_b (own_lt c'))), .val (.int (own_b (own_dg c'))), .unset] [(.int (95 : Int32)), (.int c')])
          refine Go.st (fun _ k_ => XS.icmpNo X0.here hx rfl (hb hby d13_56) rfl (feq h95).1 k_) ?_
          show Go p e s below ({ frames := 0, cells := 0, slots := 0, locals := 0 } : Room).cells ({ frames := 0, cells := 0, slots := 0, locals := 0 } : Room).slots (Q13 c' h0 n0) s₁ (mkF m 59 #[.val (.int c'), .val (.int fo), .val (.int (own_b (own_lt c'))), .val (.int (own_b (own_dg c'))), .unset] [])
          refine Go.st (fun _ k_ => XS.iloadN X0.here hx rfl (hb hby d13_59) rfl k_) ?_
          show Go p e s below ({ frames := 0, cells := 0, slots := 0, locals := 0 } : Room).cells ({ frames := 0, cells := 0, slots := 0, locals := 0 } : Room).slots (Q13 c' h0 n0) s₁ (mkF m 60 #[.val (.int c'), .val (.int fo), .val (.int (own_b (own_lt c'))), .val (.int (own_b (own_dg c'))), .unset] [(.int c')])
          refine Go.st (fun _ k_ => XS.bipush X0.here hx rfl (hb hby d13_60) k_) ?_
          by_cases h126 : c' = (126 : Int32)
          · skip
            show Go p e s below ({ frames := 0, cells := 0, slots := 0, locals := 0 } : Room).cells ({ frames := 0, cells := 0, slots := 0, locals := 0 } : Room).slots (Q13 c' h0 n0) s₁ (mkF m 62 #[.val (.int c'), .val (.int fo), .val (.int (own_b (own_lt c'))), .val (.int (own_b (own_dg c'))), .unset] [(.int (126 : Int32)), (.int c')])
            refine Go.st (fun _ k_ => XS.icmpNo X0.here hx rfl (hb hby d13_62) rfl (teq h126).2 k_) ?_
            show Go p e s below ({ frames := 0, cells := 0, slots := 0, locals := 0 } : Room).cells ({ frames := 0, cells := 0, slots := 0, locals := 0 } : Room).slots (Q13 c' h0 n0) s₁ (mkF m 65 #[.val (.int c'), .val (.int fo), .val (.int (own_b (own_lt c'))), .val (.int (own_b (own_dg c'))), .unset] [])
            refine Go.st (fun _ k_ => XS.iconst X0.here hx rfl (hb hby d13_65) k_) ?_
            show Go p e s below ({ frames := 0, cells := 0, slots := 0, locals := 0 } : Room).cells ({ frames := 0, cells := 0, slots := 0, locals := 0 } : Room).slots (Q13 c' h0 n0) s₁ (mkF m 66 #[.val (.int c'), .val (.int fo), .val (.int (own_b (own_lt c'))), .val (.int (own_b (own_dg c'))), .unset] [(.int (1 : Int32))])
            refine Go.st (fun _ k_ => XS.goto X0.here hx rfl (pc0 := 66) (pc' := 70) rfl (hb hby d13_66) (by decide) (by decide) k_) ?_
            show Go p e s below ({ frames := 0, cells := 0, slots := 0, locals := 0 } : Room).cells ({ frames := 0, cells := 0, slots := 0, locals := 0 } : Room).slots (Q13 c' h0 n0) s₁ (mkF m 70 #[.val (.int c'), .val (.int fo), .val (.int (own_b (own_lt c'))), .val (.int (own_b (own_dg c'))), .unset] [(.int (1 : Int32))])
            rw [own_b1 (show own_S c' from Or.inr (Or.inr (Or.inr h126)))] at j70
            exact j70
          · skip
            show Go p e s below ({ frames := 0, cells := 0, slots := 0, locals := 0 } : Room).cells ({ frames := 0, cells := 0, slots := 0, locals := 0 } : Room).slots (Q13 c' h0 n0) s₁ (mkF m 62 #[.val (.int c'), .val (.int fo), .val (.int (own_b (own_lt c'))), .val (.int (own_b (own_dg c'))), .unset] [(.int (126 : Int32)), (.int c')])
            refine Go.st (fun _ k_ => XS.icmpYes X0.here hx rfl (pc0 := 62) (pc' := 69) rfl (hb hby d13_62) rfl (feq h126).2 (by decide) (by decide) k_) ?_
            show Go p e s below ({ frames := 0, cells := 0, slots := 0, locals := 0 } : Room).cells ({ frames := 0, cells := 0, slots := 0, locals := 0 } : Room).slots (Q13 c' h0 n0) s₁ (mkF m 69 #[.val (.int c'), .val (.int fo), .val (.int (own_b (own_lt c'))), .val (.int (own_b (own_dg c'))), .unset] [])
            refine Go.st (fun _ k_ => XS.iconst X0.here hx rfl (hb hby d13_69) k_) ?_
            show Go p e s below ({ frames := 0, cells := 0, slots := 0, locals := 0 } : Room).cells ({ frames := 0, cells := 0, slots := 0, locals := 0 } : Room).slots (Q13 c' h0 n0) s₁ (mkF m 70 #[.val (.int c'), .val (.int fo), .val (.int (own_b (own_lt c'))), .val (.int (own_b (own_dg c'))), .unset] [(.int (0 : Int32))])
            rw [own_b0 (show ¬ own_S c' from by rintro (q | q | q | q) <;> contradiction)] at j70
            exact j70
  have j22 : Go p e s below ({ frames := 0, cells := 0, slots := 0, locals := 0 } : Room).cells ({ frames := 0, cells := 0, slots := 0, locals := 0 } : Room).slots (Q13 c' h0 n0) s₁ (mkF m 22 #[.val (.int c'), .val (.int fo), .unset, .unset, .unset] [(.int (own_b (own_lt c')))]) := by
    show Go p e s below ({ frames := 0, cells := 0, slots := 0, locals := 0 } : Room).cells ({ frames := 0, cells := 0, slots := 0, locals := 0 } : Room).slots (Q13 c' h0 n0) s₁ (mkF m 22 #[.val (.int c'), .val (.int fo), .unset, .unset, .unset] [(.int (own_b (own_lt c')))])
    refine Go.st (fun _ k_ => XS.istoreN X0.here hx rfl (hb hby d13_22) rfl (l' := #[.val (.int c'), .val (.int fo), .val (.int (own_b (own_lt c'))), .unset, .unset]) rfl k_) ?_
    show Go p e s below ({ frames := 0, cells := 0, slots := 0, locals := 0 } : Room).cells ({ frames := 0, cells := 0, slots := 0, locals := 0 } : Room).slots (Q13 c' h0 n0) s₁ (mkF m 23 #[.val (.int c'), .val (.int fo), .val (.int (own_b (own_lt c'))), .unset, .unset] [])
    refine Go.st (fun _ k_ => XS.iloadN X0.here hx rfl (hb hby d13_23) rfl k_) ?_
    show Go p e s below ({ frames := 0, cells := 0, slots := 0, locals := 0 } : Room).cells ({ frames := 0, cells := 0, slots := 0, locals := 0 } : Room).slots (Q13 c' h0 n0) s₁ (mkF m 24 #[.val (.int c'), .val (.int fo), .val (.int (own_b (own_lt c'))), .unset, .unset] [(.int c')])
    refine Go.st (fun _ k_ => XS.bipush X0.here hx rfl (hb hby d13_24) k_) ?_
    by_cases h48 : c' < (48 : Int32)
    · skip
      show Go p e s below ({ frames := 0, cells := 0, slots := 0, locals := 0 } : Room).cells ({ frames := 0, cells := 0, slots := 0, locals := 0 } : Room).slots (Q13 c' h0 n0) s₁ (mkF m 26 #[.val (.int c'), .val (.int fo), .val (.int (own_b (own_lt c'))), .unset, .unset] [(.int (48 : Int32)), (.int c')])
      refine Go.st (fun _ k_ => XS.icmpYes X0.here hx rfl (pc0 := 26) (pc' := 39) rfl (hb hby d13_26) rfl (tlt h48).1 (by decide) (by decide) k_) ?_
      show Go p e s below ({ frames := 0, cells := 0, slots := 0, locals := 0 } : Room).cells ({ frames := 0, cells := 0, slots := 0, locals := 0 } : Room).slots (Q13 c' h0 n0) s₁ (mkF m 39 #[.val (.int c'), .val (.int fo), .val (.int (own_b (own_lt c'))), .unset, .unset] [])
      refine Go.st (fun _ k_ => XS.iconst X0.here hx rfl (hb hby d13_39) k_) ?_
      show Go p e s below ({ frames := 0, cells := 0, slots := 0, locals := 0 } : Room).cells ({ frames := 0, cells := 0, slots := 0, locals := 0 } : Room).slots (Q13 c' h0 n0) s₁ (mkF m 40 #[.val (.int c'), .val (.int fo), .val (.int (own_b (own_lt c'))), .unset, .unset] [(.int (0 : Int32))])
      rw [own_b0 (show ¬ own_dg c' from fun q => q.1 h48)] at j40
      exact j40
    · skip
      show Go p e s below ({ frames := 0, cells := 0, slots := 0, locals := 0 } : Room).cells ({ frames := 0, cells := 0, slots := 0, locals := 0 } : Room).slots (Q13 c' h0 n0) s₁ (mkF m 26 #[.val (.int c'), .val (.int fo), .val (.int (own_b (own_lt c'))), .unset, .unset] [(.int (48 : Int32)), (.int c')])
      refine Go.st (fun _ k_ => XS.icmpNo X0.here hx rfl (hb hby d13_26) rfl (flt h48).1 k_) ?_
      show Go p e s below ({ frames := 0, cells := 0, slots := 0, locals := 0 } : Room).cells ({ frames := 0, cells := 0, slots := 0, locals := 0 } : Room).slots (Q13 c' h0 n0) s₁ (mkF m 29 #[.val (.int c'), .val (.int fo), .val (.int (own_b (own_lt c'))), .unset, .unset] [])
      refine Go.st (fun _ k_ => XS.iloadN X0.here hx rfl (hb hby d13_29) rfl k_) ?_
      show Go p e s below ({ frames := 0, cells := 0, slots := 0, locals := 0 } : Room).cells ({ frames := 0, cells := 0, slots := 0, locals := 0 } : Room).slots (Q13 c' h0 n0) s₁ (mkF m 30 #[.val (.int c'), .val (.int fo), .val (.int (own_b (own_lt c'))), .unset, .unset] [(.int c')])
      refine Go.st (fun _ k_ => XS.bipush X0.here hx rfl (hb hby d13_30) k_) ?_
      by_cases h57 : (57 : Int32) < c'
      · skip
        show Go p e s below ({ frames := 0, cells := 0, slots := 0, locals := 0 } : Room).cells ({ frames := 0, cells := 0, slots := 0, locals := 0 } : Room).slots (Q13 c' h0 n0) s₁ (mkF m 32 #[.val (.int c'), .val (.int fo), .val (.int (own_b (own_lt c'))), .unset, .unset] [(.int (57 : Int32)), (.int c')])
        refine Go.st (fun _ k_ => XS.icmpYes X0.here hx rfl (pc0 := 32) (pc' := 39) rfl (hb hby d13_32) rfl (tlt h57).2.2.1 (by decide) (by decide) k_) ?_
        show Go p e s below ({ frames := 0, cells := 0, slots := 0, locals := 0 } : Room).cells ({ frames := 0, cells := 0, slots := 0, locals := 0 } : Room).slots (Q13 c' h0 n0) s₁ (mkF m 39 #[.val (.int c'), .val (.int fo), .val (.int (own_b (own_lt c'))), .unset, .unset] [])
        refine Go.st (fun _ k_ => XS.iconst X0.here hx rfl (hb hby d13_39) k_) ?_
        show Go p e s below ({ frames := 0, cells := 0, slots := 0, locals := 0 } : Room).cells ({ frames := 0, cells := 0, slots := 0, locals := 0 } : Room).slots (Q13 c' h0 n0) s₁ (mkF m 40 #[.val (.int c'), .val (.int fo), .val (.int (own_b (own_lt c'))), .unset, .unset] [(.int (0 : Int32))])
        rw [own_b0 (show ¬ own_dg c' from fun q => q.2 h57)] at j40
        exact j40
      · skip
        show Go p e s below ({ frames := 0, cells := 0, slots := 0, locals := 0 } : Room).cells ({ frames := 0, cells := 0, slots := 0, locals := 0 } : Room).slots (Q13 c' h0 n0) s₁ (mkF m 32 #[.val (.int c'), .val (.int fo), .val (.int (own_b (own_lt c'))), .unset, .unset] [(.int (57 : Int32)), (.int c')])
        refine Go.st (fun _ k_ => XS.icmpNo X0.here hx rfl (hb hby d13_32) rfl (flt h57).2.2.1 k_) ?_
        show Go p e s below ({ frames := 0, cells := 0, slots := 0, locals := 0 } : Room).cells ({ frames := 0, cells := 0, slots := 0, locals := 0 } : Room).slots (Q13 c' h0 n0) s₁ (mkF m 35 #[.val (.int c'), .val (.int fo), .val (.int (own_b (own_lt c'))), .unset, .unset] [])
        refine Go.st (fun _ k_ => XS.iconst X0.here hx rfl (hb hby d13_35) k_) ?_
        show Go p e s below ({ frames := 0, cells := 0, slots := 0, locals := 0 } : Room).cells ({ frames := 0, cells := 0, slots := 0, locals := 0 } : Room).slots (Q13 c' h0 n0) s₁ (mkF m 36 #[.val (.int c'), .val (.int fo), .val (.int (own_b (own_lt c'))), .unset, .unset] [(.int (1 : Int32))])
        refine Go.st (fun _ k_ => XS.goto X0.here hx rfl (pc0 := 36) (pc' := 40) rfl (hb hby d13_36) (by decide) (by decide) k_) ?_
        show Go p e s below ({ frames := 0, cells := 0, slots := 0, locals := 0 } : Room).cells ({ frames := 0, cells := 0, slots := 0, locals := 0 } : Room).slots (Q13 c' h0 n0) s₁ (mkF m 40 #[.val (.int c'), .val (.int fo), .val (.int (own_b (own_lt c'))), .unset, .unset] [(.int (1 : Int32))])
        rw [own_b1 (show own_dg c' from ⟨h48, h57⟩)] at j40
        exact j40
  show Go p e s below ({ frames := 0, cells := 0, slots := 0, locals := 0 } : Room).cells ({ frames := 0, cells := 0, slots := 0, locals := 0 } : Room).slots (Q13 c' h0 n0) s₁ (mkF m 5 #[.val (.int c'), .val (.int fo), .unset, .unset, .unset] [])
  refine Go.st (fun _ k_ => XS.iloadN X0.here hx rfl (hb hby d13_5) rfl k_) ?_
  show Go p e s below ({ frames := 0, cells := 0, slots := 0, locals := 0 } : Room).cells ({ frames := 0, cells := 0, slots := 0, locals := 0 } : Room).slots (Q13 c' h0 n0) s₁ (mkF m 6 #[.val (.int c'), .val (.int fo), .unset, .unset, .unset] [(.int fo)])
  refine Go.st (fun _ k_ => XS.bipush X0.here hx rfl (hb hby d13_6) k_) ?_
  by_cases h97 : fo < (97 : Int32)
  · skip
    show Go p e s below ({ frames := 0, cells := 0, slots := 0, locals := 0 } : Room).cells ({ frames := 0, cells := 0, slots := 0, locals := 0 } : Room).slots (Q13 c' h0 n0) s₁ (mkF m 8 #[.val (.int c'), .val (.int fo), .unset, .unset, .unset] [(.int (97 : Int32)), (.int fo)])
    refine Go.st (fun _ k_ => XS.icmpYes X0.here hx rfl (pc0 := 8) (pc' := 21) rfl (hb hby d13_8) rfl (tlt h97).1 (by decide) (by decide) k_) ?_
    show Go p e s below ({ frames := 0, cells := 0, slots := 0, locals := 0 } : Room).cells ({ frames := 0, cells := 0, slots := 0, locals := 0 } : Room).slots (Q13 c' h0 n0) s₁ (mkF m 21 #[.val (.int c'), .val (.int fo), .unset, .unset, .unset] [])
    refine Go.st (fun _ k_ => XS.iconst X0.here hx rfl (hb hby d13_21) k_) ?_
    show Go p e s below ({ frames := 0, cells := 0, slots := 0, locals := 0 } : Room).cells ({ frames := 0, cells := 0, slots := 0, locals := 0 } : Room).slots (Q13 c' h0 n0) s₁ (mkF m 22 #[.val (.int c'), .val (.int fo), .unset, .unset, .unset] [(.int (0 : Int32))])
    rw [own_b0 (fun q => (hf.mpr q).1 h97)] at j22
    exact j22
  · skip
    show Go p e s below ({ frames := 0, cells := 0, slots := 0, locals := 0 } : Room).cells ({ frames := 0, cells := 0, slots := 0, locals := 0 } : Room).slots (Q13 c' h0 n0) s₁ (mkF m 8 #[.val (.int c'), .val (.int fo), .unset, .unset, .unset] [(.int (97 : Int32)), (.int fo)])
    refine Go.st (fun _ k_ => XS.icmpNo X0.here hx rfl (hb hby d13_8) rfl (flt h97).1 k_) ?_
    show Go p e s below ({ frames := 0, cells := 0, slots := 0, locals := 0 } : Room).cells ({ frames := 0, cells := 0, slots := 0, locals := 0 } : Room).slots (Q13 c' h0 n0) s₁ (mkF m 11 #[.val (.int c'), .val (.int fo), .unset, .unset, .unset] [])
    refine Go.st (fun _ k_ => XS.iloadN X0.here hx rfl (hb hby d13_11) rfl k_) ?_
    show Go p e s below ({ frames := 0, cells := 0, slots := 0, locals := 0 } : Room).cells ({ frames := 0, cells := 0, slots := 0, locals := 0 } : Room).slots (Q13 c' h0 n0) s₁ (mkF m 12 #[.val (.int c'), .val (.int fo), .unset, .unset, .unset] [(.int fo)])
    refine Go.st (fun _ k_ => XS.bipush X0.here hx rfl (hb hby d13_12) k_) ?_
    by_cases h122 : (122 : Int32) < fo
    · skip
      show Go p e s below ({ frames := 0, cells := 0, slots := 0, locals := 0 } : Room).cells ({ frames := 0, cells := 0, slots := 0, locals := 0 } : Room).slots (Q13 c' h0 n0) s₁ (mkF m 14 #[.val (.int c'), .val (.int fo), .unset, .unset, .unset] [(.int (122 : Int32)), (.int fo)])
      refine Go.st (fun _ k_ => XS.icmpYes X0.here hx rfl (pc0 := 14) (pc' := 21) rfl (hb hby d13_14) rfl (tlt h122).2.2.1 (by decide) (by decide) k_) ?_
      show Go p e s below ({ frames := 0, cells := 0, slots := 0, locals := 0 } : Room).cells ({ frames := 0, cells := 0, slots := 0, locals := 0 } : Room).slots (Q13 c' h0 n0) s₁ (mkF m 21 #[.val (.int c'), .val (.int fo), .unset, .unset, .unset] [])
      refine Go.st (fun _ k_ => XS.iconst X0.here hx rfl (hb hby d13_21) k_) ?_
      show Go p e s below ({ frames := 0, cells := 0, slots := 0, locals := 0 } : Room).cells ({ frames := 0, cells := 0, slots := 0, locals := 0 } : Room).slots (Q13 c' h0 n0) s₁ (mkF m 22 #[.val (.int c'), .val (.int fo), .unset, .unset, .unset] [(.int (0 : Int32))])
      rw [own_b0 (fun q => (hf.mpr q).2 h122)] at j22
      exact j22
    · skip
      show Go p e s below ({ frames := 0, cells := 0, slots := 0, locals := 0 } : Room).cells ({ frames := 0, cells := 0, slots := 0, locals := 0 } : Room).slots (Q13 c' h0 n0) s₁ (mkF m 14 #[.val (.int c'), .val (.int fo), .unset, .unset, .unset] [(.int (122 : Int32)), (.int fo)])
      refine Go.st (fun _ k_ => XS.icmpNo X0.here hx rfl (hb hby d13_14) rfl (flt h122).2.2.1 k_) ?_
      show Go p e s below ({ frames := 0, cells := 0, slots := 0, locals := 0 } : Room).cells ({ frames := 0, cells := 0, slots := 0, locals := 0 } : Room).slots (Q13 c' h0 n0) s₁ (mkF m 17 #[.val (.int c'), .val (.int fo), .unset, .unset, .unset] [])
      refine Go.st (fun _ k_ => XS.iconst X0.here hx rfl (hb hby d13_17) k_) ?_
      show Go p e s below ({ frames := 0, cells := 0, slots := 0, locals := 0 } : Room).cells ({ frames := 0, cells := 0, slots := 0, locals := 0 } : Room).slots (Q13 c' h0 n0) s₁ (mkF m 18 #[.val (.int c'), .val (.int fo), .unset, .unset, .unset] [(.int (1 : Int32))])
      refine Go.st (fun _ k_ => XS.goto X0.here hx rfl (pc0 := 18) (pc' := 22) rfl (hb hby d13_18) (by decide) (by decide) k_) ?_
      show Go p e s below ({ frames := 0, cells := 0, slots := 0, locals := 0 } : Room).cells ({ frames := 0, cells := 0, slots := 0, locals := 0 } : Room).slots (Q13 c' h0 n0) s₁ (mkF m 22 #[.val (.int c'), .val (.int fo), .unset, .unset, .unset] [(.int (1 : Int32))])
      rw [own_b1 (hf.mp ⟨h97, h122⟩)] at j22
      exact j22
def Q1 (h0 : Heap) (n0 : Nat) (v : Option Value) (h : Heap) (L : List Loc) : Prop := v = some (.int 1) ∧ Fr n0 L ∧ Ext h0 h
set_option maxRecDepth 65536 in
set_option maxHeartbeats 40000000 in
theorem rm1 (l : Launch) (Z : State) (a0 : Array Value) (hw : ∀ d ∈ tables_1, d.before a0 Z = true) (ws : List Jvm.Cond) (c' : Int32) (h0 : Heap) (n0 : Nat) (Z0 : n0 ≤ h0.size) (cs : Int32) (hcs : ¬ cs = 0) (SC : Sta Z h0 "java/lang/String" "COMPACT_STRINGS" "Z" (.int cs)) :
    MetFree l (⟨"com/example/portcullis/portcullis/PercentEncodingIsUnreservedPinLaw", "agrees", "(I)Z"⟩ : MethodName) (head1 (Jvm.Cond.code (⟨"com/example/portcullis/portcullis/PercentEncodingIsUnreservedPinLaw", "agrees", "(I)Z"⟩ : MethodName) method_3_code 1 (some .boolean) :: ws) ({ frames := 5, cells := 2, slots := 20, locals := 71 } : Room)) (fun a_ U_ => a_ = #[(.int c')] ∧ Z.Warmed39 U_.vm ∧ U_.heap = h0 ∧ CHv Z own_EL U_.vm h0) (fun _ _ _ _ _ => True) (fun _ U_ o_ W_ => ∃ v_ L_, o_ = .returned v_ ∧ (Q1 h0 n0) v_ W_.heap L_ ∧ CHr Z own_EL U_.vm U_.heap W_.vm W_.heap ∧ ReturnedEndW U_ o_ W_ L_ ({ frames := 5, cells := 2, slots := 20, locals := 71 } : Room).cells ({ frames := 5, cells := 2, slots := 20, locals := 71 } : Room).slots) := by
  refine MetFree.of_bodySF (plainFor_of_name pn_com_example_portcullis_portcullis_PercentEncodingIsUnreservedPinLaw) hisR ?_
  intro p e s m args below meth c s₁ Bd hml0 hP hK
  obtain ⟨rfl, hZ, hh, H⟩ := hP
  have hx := Bd.exec
  have hby := Bd.bytes
  have hml : c.maxLocals = 1 := hml0
  have hown : s.vm.findClass "com/example/portcullis/portcullis/PercentEncodingIsUnreservedPinLaw" = some m.cls := findClass_of_methodNamed Bd.named
  have hnm := (name_of_methodNamed Bd.named Bd.method).1
  have hlk : meth.locks = false := BodyLoose.notSynchronized Bd
  have X0 : Stand p l e ({ frames := 5, cells := 2, slots := 20, locals := 71 } : Room) (s.setVm s.vm) m #[(.int c')] below meth c s₁ [] 0 0 := Stand.of_body Bd
  have e0 : s₁.heap = h0 := by rw [← hh, Bd.state]; rfl
  have N0 := Fr.nil n0
  refine GoW.enter (ef_1 m c') ?_
  have hS0 : s.Since s.vm s.heap.size := (State.WarmedH.refl s).since _
  have hEL := own_hEL hw
  have hk0 : s.heap.size ≤ s₁.heap.size := by rw [e0, hh]; exact Nat.le_refl _
  show GoW Z own_EL p e s below ({ frames := 5, cells := 2, slots := 20, locals := 71 } : Room).cells ({ frames := 5, cells := 2, slots := 20, locals := 71 } : Room).slots (Q1 h0 n0) s₁ (mkF m 0 #[.val (.int c')] [])
  refine GoW.st (fun _ k_ => XS.iloadN X0.here hx rfl (hb hby d1_0) rfl k_) ?_
  show GoW Z own_EL p e s below ({ frames := 5, cells := 2, slots := 20, locals := 71 } : Room).cells ({ frames := 5, cells := 2, slots := 20, locals := 71 } : Room).slots (Q1 h0 n0) s₁ (mkF m 1 #[.val (.int c')] [(.int c')])
  obtain ⟨_, _, ⟨T18, L18, k18, n18⟩, -, X18, hSn18, hgr18, ⟨Lc18, hQ18, l18, y18, z18, hCn18⟩, st18⟩ := callSS (s := s.setVm s.vm) X0 hx (y := (⟨"com/example/portcullis/portcullis/PercentEncoding", "isUnreserved", "(I)Z"⟩ : MethodName)) hown (mvT hZ (hw _ (List.mem_of_getElem? (i := 4) rfl))) (mvT hZ (hw _ (List.mem_of_getElem? (i := 5) rfl))) (mvT hZ (hw _ (List.mem_of_getElem? (i := 6) rfl))) (mvT hZ (hw _ (List.mem_of_getElem? (i := 7) rfl))) (by decide) (backOfSH (s := s) (vm0 := s.vm) (W := 0) (rm2 l Z a0 hw [] c' h0 n0 Z0 cs hcs SC) hZ (hw _ (List.mem_of_getElem? (i := 7) rfl)) (hw _ (List.mem_of_getElem? (i := 6) rfl)) (by decide) (by decide) (own_hEL hw) H) (g := (mkF m 1 #[.val (.int c')] [(.int c')])) rfl (by rw [hml]; rfl) (argsL := [(.int c')]) (rest := []) (lenOf pd_4 rfl) rfl (by show 2 * 0 + _ ≤ _; exact Nat.le_of_eq rfl) (hb hby d1_1) (fun _ _ => ⟨rfl, e0, (by decide : 0 + 2 ≤ _), (by decide : 0 + 20 ≤ _)⟩)
  dsimp only [Pt.U, Pt.locs, Pt.cells, Pt.slots] at X18 l18 y18 z18 st18 hQ18 hSn18 hgr18 hCn18
  subst l18 y18 z18
  replace X18 : Stand p l e ({ frames := 5, cells := 2, slots := 20, locals := 71 } : Room) (s.setVm T18.vm) m #[(.int c')] below meth c T18 _ _ _ := X18
  have hS18 := State.Since.trans hS0 hSn18 (Nat.le_trans hk0 hgr18)
  have hZ : Z.Warmed39 (s.setVm T18.vm).vm := State.Warmed39.trans (t := s.setVm s.vm) hZ hSn18.1
  have hown : (s.setVm T18.vm).vm.findClass "com/example/portcullis/portcullis/PercentEncodingIsUnreservedPinLaw" = some m.cls := by rw [show (s.setVm T18.vm).vm = T18.vm from rfl, hSn18.1.alike.findClass]; exact hown
  obtain ⟨rfl, hN18, E2⟩ := hQ18
  have N18 := Fr.app N0 hN18
  refine GoW.tr st18 ?_
  have ZT : n0 ≤ T18.heap.size := Nat.le_trans Z0 E2.1
  show GoW Z own_EL p e s below ({ frames := 5, cells := 2, slots := 20, locals := 71 } : Room).cells ({ frames := 5, cells := 2, slots := 20, locals := 71 } : Room).slots (Q1 h0 n0) T18 (mkF m 4 #[.val (.int c')] [(.int (own_u c'))])
  refine GoW.st (fun _ k_ => XS.iloadN X18.here hx rfl (hb hby d1_4) rfl k_) ?_
  show GoW Z own_EL p e s below ({ frames := 5, cells := 2, slots := 20, locals := 71 } : Room).cells ({ frames := 5, cells := 2, slots := 20, locals := 71 } : Room).slots (Q1 h0 n0) T18 (mkF m 5 #[.val (.int c')] [(.int c'), (.int (own_u c'))])
  obtain ⟨_, _, ⟨T19, L19, k19, n19⟩, -, X19, ⟨Lc19, hQ19, l19, y19, z19⟩, st19⟩ := Jvm.LawKit.callS X18 hx (y := (⟨"com/example/portcullis/portcullis/PercentEncodingIsUnreservedPinLaw", "expected", "(I)Z"⟩ : MethodName)) hown (mvT hZ (hw _ (List.mem_of_getElem? (i := 61) rfl))) (mvT hZ (hw _ (List.mem_of_getElem? (i := 62) rfl))) (mvT hZ (hw _ (List.mem_of_getElem? (i := 2) rfl))) (mvT hZ (hw _ (List.mem_of_getElem? (i := 63) rfl))) (by decide) (backOf (W := 1) (rm13 l Z a0 hw [] c' T18.heap n0 ZT) hZ (hw _ (List.mem_of_getElem? (i := 63) rfl)) (hw _ (List.mem_of_getElem? (i := 2) rfl)) (by decide) (by decide)) (g := (mkF m 5 #[.val (.int c')] [(.int c'), (.int (own_u c'))])) rfl (by rw [hml]; rfl) (argsL := [(.int c')]) (rest := [(.int (own_u c'))]) (lenOf pd_4 rfl) rfl (by show 2 * 0 + _ ≤ _; exact Nat.le_of_eq rfl) (hb hby d1_5) (fun _ _ => ⟨rfl, rfl, (by decide : (0 + 2) + 0 ≤ _), (by decide : (0 + 20) + 0 ≤ _)⟩)
  dsimp only [Pt.U, Pt.locs, Pt.cells, Pt.slots] at X19 l19 y19 z19 st19 hQ19
  subst l19 y19 z19
  obtain ⟨rfl, hN19, ed⟩ := hQ19
  have N19 := Fr.app N18 hN19
  refine GoW.st st19 ?_
  have hC2 : CHr Z own_EL s.vm s.heap T19.vm T19.heap := by rw [ed, hh]; exact hCn18.trans (CHv.at X19 hZ hEL hCn18.1)
  show GoW Z own_EL p e s below ({ frames := 5, cells := 2, slots := 20, locals := 71 } : Room).cells ({ frames := 5, cells := 2, slots := 20, locals := 71 } : Room).slots (Q1 h0 n0) T19 (mkF m 8 #[.val (.int c')] [(.int (own_u c')), (.int (own_u c'))])
  refine GoW.st (fun _ k_ => XS.icmpNo X19.here hx rfl (hb hby d1_8) rfl (teq rfl).2 k_) ?_
  show GoW Z own_EL p e s below ({ frames := 5, cells := 2, slots := 20, locals := 71 } : Room).cells ({ frames := 5, cells := 2, slots := 20, locals := 71 } : Room).slots (Q1 h0 n0) T19 (mkF m 11 #[.val (.int c')] [])
  refine GoW.st (fun _ k_ => XS.iconst X19.here hx rfl (hb hby d1_11) k_) ?_
  show GoW Z own_EL p e s below ({ frames := 5, cells := 2, slots := 20, locals := 71 } : Room).cells ({ frames := 5, cells := 2, slots := 20, locals := 71 } : Room).slots (Q1 h0 n0) T19 (mkF m 12 #[.val (.int c')] [(.int (1 : Int32))])
  refine GoW.st (fun _ k_ => XS.goto X19.here hx rfl (pc0 := 12) (pc' := 16) rfl (hb hby d1_12) (by decide) (by decide) k_) ?_
  show GoW Z own_EL p e s below ({ frames := 5, cells := 2, slots := 20, locals := 71 } : Room).cells ({ frames := 5, cells := 2, slots := 20, locals := 71 } : Room).slots (Q1 h0 n0) T19 (mkF m 16 #[.val (.int c')] [(.int (1 : Int32))])
  exact GoW.retN X19 hx hlk hS18 (by rw [ed]; exact Nat.le_refl _) hC2 (t := .boolean) Bd.returns (by simp) (hb hby d1_16) (by decide) (by decide) ⟨rfl, N19, by rw [ed]; exact E2⟩
def Q0 (h0 : Heap) (n0 : Nat) (v : Option Value) (h : Heap) (L : List Loc) : Prop := v = some (.int 1) ∧ Fr n0 L
set_option maxRecDepth 65536 in
set_option maxHeartbeats 40000000 in
theorem rm0 (l : Launch) (Z : State) (a0 : Array Value) (hw : ∀ d ∈ tables_1, d.before a0 Z = true) (ws : List Jvm.Cond) (p1 p2 : Int32) (h0 : Heap) (n0 : Nat) (Z0 : n0 ≤ h0.size) (cs : Int32) (hcs : ¬ cs = 0) (SC : Sta Z h0 "java/lang/String" "COMPACT_STRINGS" "Z" (.int cs)) :
    MetFree l x (head1 (Jvm.Cond.code x code maxLocals ret :: ws) room_1) (fun a_ U_ => a_ = #[(.int p1), (.int p2)] ∧ Z.Warmed39 U_.vm ∧ U_.heap = h0 ∧ CHv Z own_EL U_.vm h0) (fun _ _ _ _ _ => True) (fun _ U_ o_ W_ => ∃ v_ L_, o_ = .returned v_ ∧ (Q0 h0 n0) v_ W_.heap L_ ∧ CHr Z own_EL U_.vm U_.heap W_.vm W_.heap ∧ ReturnedEndW U_ o_ W_ L_ room_1.cells room_1.slots) := by
  refine MetFree.of_bodySF (plainFor_of_name pn_com_example_portcullis_portcullis_PercentEncodingIsUnreservedPinLaw) hisR ?_
  intro p e s m args below meth c s₁ Bd hml0 hP hK
  obtain ⟨rfl, hZ, hh, H⟩ := hP
  have hx := Bd.exec
  have hby := Bd.bytes
  have hml : c.maxLocals = 3 := hml0
  have hown : s.vm.findClass "com/example/portcullis/portcullis/PercentEncodingIsUnreservedPinLaw" = some m.cls := findClass_of_methodNamed Bd.named
  have hnm := (name_of_methodNamed Bd.named Bd.method).1
  have hlk : meth.locks = false := BodyLoose.notSynchronized Bd
  have X0 : Stand p l e room_1 (s.setVm s.vm) m #[(.int p1), (.int p2)] below meth c s₁ [] 0 0 := Stand.of_body Bd
  have e0 : s₁.heap = h0 := by rw [← hh, Bd.state]; rfl
  have N0 := Fr.nil n0
  refine GoW.enter (ef_0 m p1 p2) ?_
  have hS0 : s.Since s.vm s.heap.size := (State.WarmedH.refl s).since _
  have hEL := own_hEL hw
  have hk0 : s.heap.size ≤ s₁.heap.size := by rw [e0, hh]; exact Nat.le_refl _
  show GoW Z own_EL p e s below room_1.cells room_1.slots (Q0 h0 n0) s₁ (mkF m 0 #[.val (.int p1), .val (.int p2), .unset] [])
  refine GoW.st (fun _ k_ => XS.iloadN X0.here hx rfl (hb hby at_0) rfl k_) ?_
  show GoW Z own_EL p e s below room_1.cells room_1.slots (Q0 h0 n0) s₁ (mkF m 1 #[.val (.int p1), .val (.int p2), .unset] [(.int p2)])
  refine GoW.st (fun _ k_ => XS.sipush X0.here hx rfl (hb hby at_1) k_) ?_
  show GoW Z own_EL p e s below room_1.cells room_1.slots (Q0 h0 n0) s₁ (mkF m 4 #[.val (.int p1), .val (.int p2), .unset] [(.int (255 : Int32)), (.int p2)])
  refine GoW.st (fun _ k_ => XS.iand X0.here hx rfl (hb hby at_4) rfl k_) ?_
  show GoW Z own_EL p e s below room_1.cells room_1.slots (Q0 h0 n0) s₁ (mkF m 5 #[.val (.int p1), .val (.int p2), .unset] [(.int (p2 &&& (255 : Int32)))])
  refine GoW.st (fun _ k_ => XS.istoreN X0.here hx rfl (hb hby at_5) rfl (l' := #[.val (.int p1), .val (.int p2), .val (.int (p2 &&& (255 : Int32)))]) rfl k_) ?_
  show GoW Z own_EL p e s below room_1.cells room_1.slots (Q0 h0 n0) s₁ (mkF m 6 #[.val (.int p1), .val (.int p2), .val (.int (p2 &&& (255 : Int32)))] [])
  refine GoW.st (fun _ k_ => XS.iloadN X0.here hx rfl (hb hby at_6) rfl k_) ?_
  show GoW Z own_EL p e s below room_1.cells room_1.slots (Q0 h0 n0) s₁ (mkF m 7 #[.val (.int p1), .val (.int p2), .val (.int (p2 &&& (255 : Int32)))] [(.int p1)])
  obtain ⟨_, _, ⟨T20, L20, k20, n20⟩, -, X20, hSn20, hgr20, ⟨Lc20, hQ20, l20, y20, z20, hCn20⟩, st20⟩ := callSS (s := s.setVm s.vm) X0 hx (y := (⟨"com/example/portcullis/portcullis/PercentEncodingIsUnreservedPinLaw", "agrees", "(I)Z"⟩ : MethodName)) hown (mvT hZ (hw _ (List.mem_of_getElem? (i := 0) rfl))) (mvT hZ (hw _ (List.mem_of_getElem? (i := 1) rfl))) (mvT hZ (hw _ (List.mem_of_getElem? (i := 2) rfl))) (mvT hZ (hw _ (List.mem_of_getElem? (i := 3) rfl))) (by decide) (backOfSH (s := s) (vm0 := s.vm) (W := 0) (rm1 l Z a0 hw [] p1 h0 n0 Z0 cs hcs SC) hZ (hw _ (List.mem_of_getElem? (i := 3) rfl)) (hw _ (List.mem_of_getElem? (i := 2) rfl)) (by decide) (by decide) (own_hEL hw) H) (g := (mkF m 7 #[.val (.int p1), .val (.int p2), .val (.int (p2 &&& (255 : Int32)))] [(.int p1)])) rfl (by rw [hml]; rfl) (argsL := [(.int p1)]) (rest := []) (lenOf pd_4 rfl) rfl (by show 2 * 0 + _ ≤ _; exact Nat.le_of_eq rfl) (hb hby at_7) (fun _ _ => ⟨rfl, e0, (by decide : 0 + 2 ≤ _), (by decide : 0 + 20 ≤ _)⟩)
  dsimp only [Pt.U, Pt.locs, Pt.cells, Pt.slots] at X20 l20 y20 z20 st20 hQ20 hSn20 hgr20 hCn20
  subst l20 y20 z20
  replace X20 : Stand p l e room_1 (s.setVm T20.vm) m #[(.int p1), (.int p2)] below meth c T20 _ _ _ := X20
  have hS20 := State.Since.trans hS0 hSn20 (Nat.le_trans hk0 hgr20)
  have hZ : Z.Warmed39 (s.setVm T20.vm).vm := State.Warmed39.trans (t := s.setVm s.vm) hZ hSn20.1
  have hown : (s.setVm T20.vm).vm.findClass "com/example/portcullis/portcullis/PercentEncodingIsUnreservedPinLaw" = some m.cls := by rw [show (s.setVm T20.vm).vm = T20.vm from rfl, hSn20.1.alike.findClass]; exact hown
  obtain ⟨rfl, hN20, E1⟩ := hQ20
  have N20 := Fr.app N0 hN20
  refine GoW.tr st20 ?_
  have ZT : n0 ≤ T20.heap.size := Nat.le_trans Z0 E1.1
  have H1 := (CHv.at X20 hZ hEL hCn20.1).1
  show GoW Z own_EL p e s below room_1.cells room_1.slots (Q0 h0 n0) T20 (mkF m 10 #[.val (.int p1), .val (.int p2), .val (.int (p2 &&& (255 : Int32)))] [(.int (1 : Int32))])
  refine GoW.st (fun _ k_ => XS.ifNo X20.here hx rfl (hb hby at_10) rfl ((if0 _ _).trans (feq (by decide)).1) k_) ?_
  show GoW Z own_EL p e s below room_1.cells room_1.slots (Q0 h0 n0) T20 (mkF m 13 #[.val (.int p1), .val (.int p2), .val (.int (p2 &&& (255 : Int32)))] [])
  refine GoW.st (fun _ k_ => XS.iloadN X20.here hx rfl (hb hby at_13) rfl k_) ?_
  show GoW Z own_EL p e s below room_1.cells room_1.slots (Q0 h0 n0) T20 (mkF m 14 #[.val (.int p1), .val (.int p2), .val (.int (p2 &&& (255 : Int32)))] [(.int (p2 &&& (255 : Int32)))])
  obtain ⟨_, _, ⟨T21, L21, k21, n21⟩, -, X21, hSn21, hgr21, ⟨Lc21, hQ21, l21, y21, z21, hCn21⟩, st21⟩ := callSS (s := s.setVm T20.vm) X20 hx (y := (⟨"com/example/portcullis/portcullis/PercentEncodingIsUnreservedPinLaw", "agrees", "(I)Z"⟩ : MethodName)) hown (mvT hZ (hw _ (List.mem_of_getElem? (i := 0) rfl))) (mvT hZ (hw _ (List.mem_of_getElem? (i := 1) rfl))) (mvT hZ (hw _ (List.mem_of_getElem? (i := 2) rfl))) (mvT hZ (hw _ (List.mem_of_getElem? (i := 3) rfl))) (by decide) (backOfSH (s := s) (vm0 := T20.vm) (W := 0) (rm1 l Z a0 hw [] (p2 &&& (255 : Int32)) T20.heap n0 ZT cs hcs (SC.ext E1)) hZ (hw _ (List.mem_of_getElem? (i := 3) rfl)) (hw _ (List.mem_of_getElem? (i := 2) rfl)) (by decide) (by decide) (own_hEL hw) hCn20.1) (g := (mkF m 14 #[.val (.int p1), .val (.int p2), .val (.int (p2 &&& (255 : Int32)))] [(.int (p2 &&& (255 : Int32)))])) rfl (by rw [hml]; rfl) (argsL := [(.int (p2 &&& (255 : Int32)))]) (rest := []) (lenOf pd_4 rfl) rfl (by show 2 * 0 + _ ≤ _; exact Nat.le_of_eq rfl) (hb hby at_14) (fun _ _ => ⟨rfl, rfl, (by decide : (0 + 2) + 2 ≤ _), (by decide : (0 + 20) + 20 ≤ _)⟩)
  dsimp only [Pt.U, Pt.locs, Pt.cells, Pt.slots] at X21 l21 y21 z21 st21 hQ21 hSn21 hgr21 hCn21
  subst l21 y21 z21
  replace X21 : Stand p l e room_1 (s.setVm T21.vm) m #[(.int p1), (.int p2)] below meth c T21 _ _ _ := X21
  have hS21 := State.Since.trans hS20 hSn21 (Nat.le_trans (Nat.le_refl _) hgr21)
  have hZ : Z.Warmed39 (s.setVm T21.vm).vm := State.Warmed39.trans (t := s.setVm T20.vm) hZ hSn21.1
  have hown : (s.setVm T21.vm).vm.findClass "com/example/portcullis/portcullis/PercentEncodingIsUnreservedPinLaw" = some m.cls := by rw [show (s.setVm T21.vm).vm = T21.vm from rfl, hSn21.1.alike.findClass]; exact hown
  obtain ⟨rfl, hN21, E2⟩ := hQ21
  have N21 := Fr.app N20 hN21
  refine GoW.tr st21 ?_
  have hC2 : CHr Z own_EL s.vm s.heap T21.vm T21.heap := by rw [hh]; exact hCn20.trans hCn21
  show GoW Z own_EL p e s below room_1.cells room_1.slots (Q0 h0 n0) T21 (mkF m 17 #[.val (.int p1), .val (.int p2), .val (.int (p2 &&& (255 : Int32)))] [(.int (1 : Int32))])
  refine GoW.st (fun _ k_ => XS.ifNo X21.here hx rfl (hb hby at_17) rfl ((if0 _ _).trans (feq (by decide)).1) k_) ?_
  show GoW Z own_EL p e s below room_1.cells room_1.slots (Q0 h0 n0) T21 (mkF m 20 #[.val (.int p1), .val (.int p2), .val (.int (p2 &&& (255 : Int32)))] [])
  refine GoW.st (fun _ k_ => XS.iconst X21.here hx rfl (hb hby at_20) k_) ?_
  show GoW Z own_EL p e s below room_1.cells room_1.slots (Q0 h0 n0) T21 (mkF m 21 #[.val (.int p1), .val (.int p2), .val (.int (p2 &&& (255 : Int32)))] [(.int (1 : Int32))])
  refine GoW.st (fun _ k_ => XS.goto X21.here hx rfl (pc0 := 21) (pc' := 25) rfl (hb hby at_21) (by decide) (by decide) k_) ?_
  show GoW Z own_EL p e s below room_1.cells room_1.slots (Q0 h0 n0) T21 (mkF m 25 #[.val (.int p1), .val (.int p2), .val (.int (p2 &&& (255 : Int32)))] [(.int (1 : Int32))])
  exact GoW.retN X21 hx hlk hS21 (Nat.le_refl _) hC2 (t := .boolean) Bd.returns (by simp) (hb hby at_25) (by decide) (by decide) ⟨rfl, N21⟩
set_option maxRecDepth 65536 in
set_option maxHeartbeats 40000000 in
theorem comes_1 {Post : Tables → Env → Array Value → State → Outcome → State → Prop} (hpost : ∀ tb e args s v u, (limb_1_1.after args s (.returned v) u = true ∧ limb_1_2.after args s (.returned v) u = true ∧ True) → ReturnedEndW s (.returned v) u (Jvm.fieldLocs frame_1_writes args s ++ Jvm.arrayLocs frame_1_arrays args s ++ Jvm.staticLocs frame_1_statics s) 8 1088 → Post tb e args s (.returned v) u) :
    ArmFor flags0 classFile x code maxLocals ret World_1 tables_1 room_1 Calls_1 rest_1 Pre_1 Post := by
  intro l hfl _ _ p e ha hc hk s m args below hf hA hF happ hP
  obtain ⟨hcalls, hrest, hpre⟩ := hP
  obtain ⟨-, -, -, hnamed, -, -, -, hat⟩ := (Spec.applies_iff hf).mp happ
  obtain ⟨hg, hn⟩ := and_e (Cond.before_iff.mp (show (Jvm.Cond.and given_1 narrow_1).before args s = true from hpre))
  obtain ⟨hcnt, hk0⟩ := and_e hg
  obtain ⟨ha0, hk1⟩ := and_e hk0
  obtain ⟨w0, w1, rfl⟩ : ∃ w0 w1 : Value, args = #[w0, w1] := by
    have hs : args.size = 2 := by simpa [Cond.value, given_1] using hcnt
    obtain ⟨L⟩ := args
    match L, hs with
    | [w0, w1], _ => exact ⟨w0, w1, rfl⟩
  have hw := fun d (hd : d ∈ tables_1) => atoms_spec (ws := Jvm.Cond.code x code maxLocals ret :: tables_1) hat d (List.mem_cons_of_mem _ hd)
  obtain ⟨hsets, hown0⟩ := atoms_of _ (rest_1_c_eq ▸ (show rest_1_c.before _ s = true from hrest))
  obtain ⟨i0, ei0⟩ := is_v ha0
  obtain rfl : w0 = (.int i0) := Option.some.inj ei0
  obtain ⟨i1, ei1⟩ := is_v hk1
  obtain rfl : w1 = (.int i1) := Option.some.inj ei1
  obtain ⟨cs, ecs⟩ := is_v (Cond.before_iff.mp (hsets _ (List.mem_of_getElem? (i := 1) rfl)))
  have hcw := hsets _ (List.mem_of_getElem? (i := 2) rfl)
  have hcs : ¬ cs = 0 := fun q => by
    have z := not_v (Cond.before_iff.mp hcw)
    rw [q] at ecs
    have z2 := eq_i ecs (Term.int_eval (0)) rfl
    rw [z2] at z
    cases z
  have SC := Sta.start ecs (Or.inl (hsets _ (List.mem_of_getElem? (i := 0) rfl)))
  have HC : CHv s own_EL s.vm s.heap := CHv.start (own_hEL hw) (fun q hq => hcalls.1 q hq) hcw (hw _ (List.mem_of_getElem? (i := 11) rfl)) (hw _ (List.mem_of_getElem? (i := 10) rfl))
  obtain ⟨n, o, h1, h2, h3, _, L, rfl, ⟨rfl, N⟩, -, hq⟩ := rm0 l s _ hw tables_1 i0 i1 s.heap s.heap.size (Nat.le_refl _) cs hcs SC p e ha hc hk s m _ below hf ((Spec.applies_iff_loose hf).mp happ).1 ⟨rfl, State.Warmed39.refl s, rfl, HC⟩ trivial
  refine ⟨n, _, h1, h2, h3, hpost _ _ _ _ _ _ ⟨Cond.after_iff.mpr rfl, Cond.after_iff.mpr (eq_i res_at (Term.int_eval (1)) rfl), trivial⟩ ⟨hq.1, hq.2.1, hq.2.2.1, (hq.2.2.2.sift fun y hy => Or.inr (N y hy)).mono (by decide) (by decide)⟩⟩
theorem main_1_1 : Claimed_1_1 := comes_1 fun _ _ _ _ _ _ h hF => ⟨h.1, hF⟩
theorem main_1_2 : Claimed_1_2 := comes_1 fun _ _ _ _ _ _ h hF => ⟨h.2.1, hF⟩
end Jvm.Pilot.@@N@@
namespace Jvm.Pilot.@@N@@
open Jvm Jvm.ClassFile Sem Op Lib Jvm.Free Jvm.Stand Jvm.Pilot.@@N@@.Jvm.D
/-! MADE BY PROGRAM (witnessworld.py) out of the Statement's table words and the real class files: 18 classes; the members and pool entries that the words name. The judged class is class 1, her method 3. -/
namespace start1
open Jvm.ClassFile
def u (s : String) : CpInfo := .utf8 (stringToUtf16 s)
/-- a pool by its gaps: so many unusable entries, then the entry; so many at the end -/
def gap : Nat → List CpInfo → List CpInfo
  | 0, r => r
  | n + 1, r => .unusable :: gap n r
def poolList (es : List (Nat × CpInfo)) (last : Nat) : List CpInfo := es.foldr (fun e r => gap e.1 (e.2 :: r)) (gap last [])
def pool (es : List (Nat × CpInfo)) (last : Nat) : Array CpInfo := ⟨poolList es last⟩
def fileOf (pool : Array CpInfo) (this : Nat) (attrs : Array Attribute := #[]) (ms : Array MethodInfo := #[]) (fl : Nat := 33) (sup : Nat := 0) (ifs : Array Nat := #[]) (fds : Array FieldInfo := #[]) : ClassFile where
  minorVersion := 0
  majorVersion := 65
  constantPool := pool
  accessFlags := fl
  thisClass := this
  superClass := sup
  interfaces := ifs
  fields := fds
  methods := ms
  attributes := attrs
def plain (name : String) (sup : Option ClassId) : Class where
  name := name
  kind := .ordinary
  loader := none
  accessFlags := 33
  super := sup
  interfaces := #[]
  cf := none
  fields := #[]
  methods := #[]
  instanceTypes := #[]
  staticTypes := #[]
  resolved := #[]
  callSites := []
  init := .initialized
  statics := none
  mirror := none

def pool0 : Array CpInfo := pool [(5, u "<init>"), (0, u "()V"), (1, .class_ 10), (1, u "java/lang/Object")] 113

def k0m0 : Method := { name := "<init>", desc := "()V", sig := { parameters := [], returnType := none }, accessFlags := 1, code := none }
/-- java/lang/Object -/
def k0 : Class := { plain "java/lang/Object" none with
  accessFlags := 33
  interfaces := #[]
  cf := some (fileOf pool0 8 #[] #[{ accessFlags := 1, nameIndex := 5, descriptorIndex := 6, attributes := #[] }] 33 0 #[] #[])
  fields := #[]
  methods := #[k0m0]
  instanceTypes := #[]
  staticTypes := #[]
  resolved := Array.replicate 124 none
  statics := none }

def pool1 : Array CpInfo := pool [(2, .class_ 4), (1, u "java/lang/Object"), (0, u "<init>"), (0, u "()V"), (0, .methodref 8 9), (0, .class_ 10), (0, .nameAndType 11 12), (0, u "com/example/portcullis/portcullis/PercentEncoding"), (0, u "isUnreserved"), (0, u "(I)Z"), (0, .methodref 14 15), (0, .class_ 16), (0, .nameAndType 17 12), (0, u "com/example/portcullis/portcullis/PercentEncodingIsUnreservedPinLaw"), (0, u "expected"), (0, .methodref 14 19), (0, .nameAndType 20 12), (0, u "agrees"), (3, u "law"), (0, u "(II)Z")] 2

def k1m0 : Method := { name := "<init>", desc := "()V", sig := { parameters := [], returnType := none }, accessFlags := 2, code := none }
def k1c1 : Code := { maxStack := 2, maxLocals := 5, code := method_2_code, exceptionTable := #[], attributes := #[] }
def k1m1 : Method := { name := "expected", desc := "(I)Z", sig := { parameters := [.int], returnType := some .boolean }, accessFlags := 10, code := some k1c1 }
def k1c2 : Code := { maxStack := 2, maxLocals := 1, code := method_3_code, exceptionTable := #[], attributes := #[] }
def k1m2 : Method := { name := "agrees", desc := "(I)Z", sig := { parameters := [.int], returnType := some .boolean }, accessFlags := 10, code := some k1c2 }
def k1c3 : Code := { maxStack := 2, maxLocals := 3, code := code, exceptionTable := #[], attributes := #[] }
def k1m3 : Method := { name := "law", desc := "(II)Z", sig := { parameters := [.int, .int], returnType := some .boolean }, accessFlags := 9, code := some k1c3 }
/-- com/example/portcullis/portcullis/PercentEncodingIsUnreservedPinLaw -/
def k1 : Class := { plain "com/example/portcullis/portcullis/PercentEncodingIsUnreservedPinLaw" (some 0) with
  accessFlags := 49
  interfaces := #[]
  cf := some (fileOf pool1 14 #[] #[{ accessFlags := 2, nameIndex := 5, descriptorIndex := 6, attributes := #[] }, { accessFlags := 10, nameIndex := 17, descriptorIndex := 12, attributes := #[] }, { accessFlags := 10, nameIndex := 20, descriptorIndex := 12, attributes := #[] }, { accessFlags := 9, nameIndex := 24, descriptorIndex := 25, attributes := #[] }] 49 2 #[] #[])
  fields := #[]
  methods := #[k1m0, k1m1, k1m2, k1m3]
  instanceTypes := #[]
  staticTypes := #[]
  resolved := Array.replicate 28 none
  statics := none }

def pool2 : Array CpInfo := pool [(2, .class_ 4), (1, u "java/lang/Object"), (0, u "<init>"), (0, u "()V"), (1, .class_ 10), (1, u "java/lang/String"), (11, u "(I)Z"), (3, u "(I)I"), (0, .methodref 8 28), (0, .nameAndType 29 26), (0, u "indexOf"), (6, .class_ 38), (1, u "com/example/portcullis/portcullis/PercentEncoding"), (8, u "isUnreserved"), (2, u "UPPER_CASE"), (0, u "Ljava/util/HexFormat;"), (11, .string 64), (0, u "-._~")] 15

def k2m0 : Method := { name := "<init>", desc := "()V", sig := { parameters := [], returnType := none }, accessFlags := 2, code := none }
def k2c1 : Code := { maxStack := 2, maxLocals := 1, code := prog_19_method_4_code, exceptionTable := #[], attributes := #[] }
def k2m1 : Method := { name := "isUnreserved", desc := "(I)Z", sig := { parameters := [.int], returnType := some .boolean }, accessFlags := 8, code := some k2c1 }
/-- com/example/portcullis/portcullis/PercentEncoding -/
def k2 : Class := { plain "com/example/portcullis/portcullis/PercentEncoding" (some 0) with
  accessFlags := 48
  interfaces := #[]
  cf := some (fileOf pool2 36 #[] #[{ accessFlags := 2, nameIndex := 5, descriptorIndex := 6, attributes := #[] }, { accessFlags := 8, nameIndex := 47, descriptorIndex := 22, attributes := #[] }] 48 2 #[] #[{ accessFlags := 26, nameIndex := 50, descriptorIndex := 51, attributes := #[] }])
  fields := #[{ name := "UPPER_CASE", type := (.object "java/util/HexFormat"), accessFlags := 26, slot := 0, constantValue := 0 }]
  methods := #[k2m0, k2m1]
  instanceTypes := #[]
  staticTypes := #[(.object "java/util/HexFormat")]
  resolved := Array.replicate 80 none
  statics := none }

def pool3 : Array CpInfo := pool [(1, .class_ 2), (0, u "java/io/Serializable"), (0, .class_ 4), (0, u "java/lang/Object")] 2

/-- java/io/Serializable -/
def k3 : Class := { plain "java/io/Serializable" (some 0) with
  accessFlags := 1537
  interfaces := #[]
  cf := some (fileOf pool3 1 #[] #[] 1537 3 #[] #[])
  fields := #[]
  methods := #[]
  instanceTypes := #[]
  staticTypes := #[]
  resolved := Array.replicate 7 none
  statics := none }

def pool4 : Array CpInfo := pool [(1, .class_ 2), (0, u "java/lang/Comparable"), (0, .class_ 4), (0, u "java/lang/Object")] 7

/-- java/lang/Comparable -/
def k4 : Class := { plain "java/lang/Comparable" (some 0) with
  accessFlags := 1537
  interfaces := #[]
  cf := some (fileOf pool4 1 #[] #[] 1537 3 #[] #[])
  fields := #[]
  methods := #[]
  instanceTypes := #[]
  staticTypes := #[]
  resolved := Array.replicate 12 none
  statics := none }

def pool5 : Array CpInfo := pool [(2, .class_ 4), (1, u "java/lang/CharSequence"), (42, .class_ 48), (0, u "java/lang/CharSequence$1CodePointIterator"), (10, .class_ 60), (0, u "java/lang/CharSequence$1CharIterator"), (5, .class_ 67), (0, u "java/lang/Object")] 63

/-- java/lang/CharSequence -/
def k5 : Class := { plain "java/lang/CharSequence" (some 0) with
  accessFlags := 1537
  interfaces := #[]
  cf := some (fileOf pool5 2 #[.nestMembers #[47, 59]] #[] 1537 66 #[] #[])
  fields := #[]
  methods := #[]
  instanceTypes := #[]
  staticTypes := #[]
  resolved := Array.replicate 131 none
  statics := none }

def pool6 : Array CpInfo := pool [(1, .class_ 2), (0, u "java/lang/constant/Constable"), (0, .class_ 4), (0, u "java/lang/Object")] 6

/-- java/lang/constant/Constable -/
def k6 : Class := { plain "java/lang/constant/Constable" (some 0) with
  accessFlags := 1537
  interfaces := #[]
  cf := some (fileOf pool6 1 #[] #[] 1537 3 #[] #[])
  fields := #[]
  methods := #[]
  instanceTypes := #[]
  staticTypes := #[]
  resolved := Array.replicate 11 none
  statics := none }

def pool7 : Array CpInfo := pool [(1, .class_ 2), (0, u "java/lang/constant/ConstantDesc"), (0, .class_ 4), (0, u "java/lang/Object")] 32

/-- java/lang/constant/ConstantDesc -/
def k7 : Class := { plain "java/lang/constant/ConstantDesc" (some 0) with
  accessFlags := 1537
  interfaces := #[]
  cf := some (fileOf pool7 1 #[] #[] 1537 3 #[] #[])
  fields := #[]
  methods := #[]
  instanceTypes := #[]
  staticTypes := #[]
  resolved := Array.replicate 37 none
  statics := none }

def pool8 : Array CpInfo := pool [(2, .class_ 4), (1, u "java/lang/Object"), (0, u "<init>"), (0, u "()V"), (2, .fieldref 10 11), (0, .class_ 12), (0, .nameAndType 13 14), (0, u "java/lang/String"), (0, u "value"), (0, u "[B"), (0, .fieldref 10 16), (0, .nameAndType 17 18), (0, u "coder"), (0, u "B"), (2, u "hash"), (0, u "I"), (2, u "hashIsZero"), (0, u "Z"), (11, .fieldref 10 39), (0, .nameAndType 40 26), (0, u "COMPACT_STRINGS"), (66, .class_ 109), (1, u "java/lang/StringLatin1"), (32, u "()Z"), (191, u "()I"), (0, .methodref 10 336), (0, .nameAndType 17 337), (0, u "()B"), (154, .methodref 10 493), (0, .nameAndType 494 142), (0, u "isLatin1"), (10, .methodref 10 506), (0, .nameAndType 507 334), (0, u "length"), (67, .class_ 576), (0, u "java/lang/CharSequence"), (22, u "CASE_INSENSITIVE_ORDER"), (0, u "Ljava/util/Comparator;"), (32, .methodref 10 634), (0, .nameAndType 635 636), (0, u "indexOf"), (0, u "(II)I"), (0, .methodref 107 638), (0, .nameAndType 635 639), (0, u "([BIII)I"), (125, u "(I)I"), (335, u "serialPersistentFields"), (0, u "[Ljava/io/ObjectStreamField;"), (0, .class_ 1104), (0, u "java/lang/String$CaseInsensitiveComparator"), (1, .class_ 1107), (0, u "java/io/Serializable"), (0, .class_ 1109), (0, u "java/lang/Comparable"), (0, .class_ 1111), (0, u "java/lang/constant/Constable"), (0, .class_ 1113), (0, u "java/lang/constant/ConstantDesc"), (2, u "serialVersionUID"), (0, u "J"), (3, u "REPL"), (0, u "C"), (2, u "LATIN1"), (1, u "UTF16")] 323

def k8m0 : Method := { name := "<init>", desc := "()V", sig := { parameters := [], returnType := none }, accessFlags := 1, code := none }
def k8c1 : Code := { maxStack := 2, maxLocals := 1, code := jdk_42_method_54_code, exceptionTable := #[], attributes := #[] }
def k8m1 : Method := { name := "length", desc := "()I", sig := { parameters := [], returnType := some .int }, accessFlags := 1, code := some k8c1 }
def k8c2 : Code := { maxStack := 3, maxLocals := 2, code := jdk_42_method_79_code, exceptionTable := #[], attributes := #[] }
def k8m2 : Method := { name := "indexOf", desc := "(I)I", sig := { parameters := [.int], returnType := some .int }, accessFlags := 1, code := some k8c2 }
def k8c3 : Code := { maxStack := 4, maxLocals := 3, code := jdk_42_method_80_code, exceptionTable := #[], attributes := #[] }
def k8m3 : Method := { name := "indexOf", desc := "(II)I", sig := { parameters := [.int, .int], returnType := some .int }, accessFlags := 1, code := some k8c3 }
def k8c4 : Code := { maxStack := 1, maxLocals := 1, code := jdk_42_method_152_code, exceptionTable := #[], attributes := #[] }
def k8m4 : Method := { name := "coder", desc := "()B", sig := { parameters := [], returnType := some .byte }, accessFlags := 0, code := some k8c4 }
def k8c5 : Code := { maxStack := 1, maxLocals := 1, code := jdk_42_method_154_code, exceptionTable := #[], attributes := #[] }
def k8m5 : Method := { name := "isLatin1", desc := "()Z", sig := { parameters := [], returnType := some .boolean }, accessFlags := 0, code := some k8c5 }
/-- java/lang/String -/
def k8 : Class := { plain "java/lang/String" (some 0) with
  accessFlags := 49
  interfaces := #[3, 4, 5, 6, 7]
  cf := some (fileOf pool8 10 #[.nestMembers #[1103]] #[{ accessFlags := 1, nameIndex := 5, descriptorIndex := 6, attributes := #[] }, { accessFlags := 1, nameIndex := 507, descriptorIndex := 334, attributes := #[] }, { accessFlags := 1, nameIndex := 635, descriptorIndex := 765, attributes := #[] }, { accessFlags := 1, nameIndex := 635, descriptorIndex := 636, attributes := #[] }, { accessFlags := 0, nameIndex := 17, descriptorIndex := 337, attributes := #[] }, { accessFlags := 0, nameIndex := 494, descriptorIndex := 142, attributes := #[] }] 49 2 #[1106, 1108, 575, 1110, 1112] #[{ accessFlags := 18, nameIndex := 13, descriptorIndex := 14, attributes := #[] }, { accessFlags := 18, nameIndex := 17, descriptorIndex := 18, attributes := #[] }, { accessFlags := 2, nameIndex := 21, descriptorIndex := 22, attributes := #[] }, { accessFlags := 2, nameIndex := 25, descriptorIndex := 26, attributes := #[] }, { accessFlags := 26, nameIndex := 1116, descriptorIndex := 1117, attributes := #[] }, { accessFlags := 24, nameIndex := 40, descriptorIndex := 26, attributes := #[] }, { accessFlags := 26, nameIndex := 1101, descriptorIndex := 1102, attributes := #[] }, { accessFlags := 26, nameIndex := 1121, descriptorIndex := 1122, attributes := #[] }, { accessFlags := 25, nameIndex := 599, descriptorIndex := 600, attributes := #[] }, { accessFlags := 24, nameIndex := 1125, descriptorIndex := 18, attributes := #[] }, { accessFlags := 24, nameIndex := 1127, descriptorIndex := 18, attributes := #[] }])
  fields := #[{ name := "value", type := (.array .byte), accessFlags := 18, slot := 0, constantValue := 0 }, { name := "coder", type := .byte, accessFlags := 18, slot := 1, constantValue := 0 }, { name := "hash", type := .int, accessFlags := 2, slot := 2, constantValue := 0 }, { name := "hashIsZero", type := .boolean, accessFlags := 2, slot := 3, constantValue := 0 }, { name := "serialVersionUID", type := .long, accessFlags := 26, slot := 0, constantValue := 0 }, { name := "COMPACT_STRINGS", type := .boolean, accessFlags := 24, slot := 1, constantValue := 0 }, { name := "serialPersistentFields", type := (.array (.object "java/io/ObjectStreamField")), accessFlags := 26, slot := 2, constantValue := 0 }, { name := "REPL", type := .char, accessFlags := 26, slot := 3, constantValue := 0 }, { name := "CASE_INSENSITIVE_ORDER", type := (.object "java/util/Comparator"), accessFlags := 25, slot := 4, constantValue := 0 }, { name := "LATIN1", type := .byte, accessFlags := 24, slot := 5, constantValue := 0 }, { name := "UTF16", type := .byte, accessFlags := 24, slot := 6, constantValue := 0 }]
  methods := #[k8m0, k8m1, k8m2, k8m3, k8m4, k8m5]
  instanceTypes := #[(.array .byte), .byte, .int, .boolean]
  staticTypes := #[.long, .boolean, (.array (.object "java/io/ObjectStreamField")), .char, (.object "java/util/Comparator"), .byte, .byte]
  resolved := Array.replicate 1451 none
  statics := some 0 }

def pool9 : Array CpInfo := pool [(4, .class_ 6), (1, u "java/lang/Object"), (0, u "<init>"), (0, u "()V"), (5, .class_ 16), (1, u "java/lang/StringLatin1"), (21, .methodref 39 40), (0, .class_ 41), (0, .nameAndType 42 43), (0, u "java/lang/Math"), (0, u "min"), (0, u "(II)I"), (44, .methodref 14 89), (0, .nameAndType 90 91), (0, u "canEncode"), (0, u "(I)Z"), (0, .methodref 39 93), (0, .nameAndType 94 43), (0, u "max"), (0, .methodref 14 96), (0, .nameAndType 97 98), (0, u "indexOfChar"), (0, u "([BIII)I"), (2, u "indexOf"), (19, u "$assertionsDisabled"), (0, u "Z"), (98, .class_ 223), (1, u "java/lang/StringLatin1$LinesSpliterator"), (166, .class_ 391), (0, u "java/lang/StringLatin1$CharsSpliterator")] 3

def k9m0 : Method := { name := "<init>", desc := "()V", sig := { parameters := [], returnType := none }, accessFlags := 0, code := none }
def k9c1 : Code := { maxStack := 2, maxLocals := 1, code := jdk_43_method_4_code, exceptionTable := #[], attributes := #[] }
def k9m1 : Method := { name := "canEncode", desc := "(I)Z", sig := { parameters := [.int], returnType := some .boolean }, accessFlags := 9, code := some k9c1 }
def k9c2 : Code := { maxStack := 4, maxLocals := 4, code := jdk_43_method_22_code, exceptionTable := #[], attributes := #[] }
def k9m2 : Method := { name := "indexOf", desc := "([BIII)I", sig := { parameters := [(.array .byte), .int, .int, .int], returnType := some .int }, accessFlags := 9, code := some k9c2 }
def k9c3 : Code := { maxStack := 2, maxLocals := 6, code := jdk_43_method_23_code, exceptionTable := #[], attributes := #[] }
def k9m3 : Method := { name := "indexOfChar", desc := "([BIII)I", sig := { parameters := [(.array .byte), .int, .int, .int], returnType := some .int }, accessFlags := 10, code := some k9c3 }
/-- java/lang/StringLatin1 -/
def k9 : Class := { plain "java/lang/StringLatin1" (some 0) with
  accessFlags := 48
  interfaces := #[]
  cf := some (fileOf pool9 14 #[.nestMembers #[390, 221]] #[{ accessFlags := 0, nameIndex := 7, descriptorIndex := 8, attributes := #[] }, { accessFlags := 9, nameIndex := 90, descriptorIndex := 91, attributes := #[] }, { accessFlags := 9, nameIndex := 101, descriptorIndex := 98, attributes := #[] }, { accessFlags := 10, nameIndex := 97, descriptorIndex := 98, attributes := #[] }] 48 4 #[] #[{ accessFlags := 4120, nameIndex := 121, descriptorIndex := 122, attributes := #[] }])
  fields := #[{ name := "$assertionsDisabled", type := .boolean, accessFlags := 4120, slot := 0, constantValue := 0 }]
  methods := #[k9m0, k9m1, k9m2, k9m3]
  instanceTypes := #[]
  staticTypes := #[.boolean]
  resolved := Array.replicate 395 none
  statics := none }

def pool10 : Array CpInfo := pool [(1, .class_ 2), (0, u "java/lang/Math"), (1, .class_ 6), (1, u "java/lang/Object"), (0, u "<init>"), (0, u "()V"), (89, .class_ 100), (1, u "java/lang/Math$RandomNumberGeneratorHolder"), (71, u "negativeZeroFloatBits"), (0, u "J"), (2, u "negativeZeroDoubleBits"), (21, u "max"), (2, u "min"), (43, u "$assertionsDisabled"), (0, u "Z"), (88, u "(II)I"), (2, u "twoToTheDoubleScaleDown"), (0, u "D"), (4, u "twoToTheDoubleScaleUp"), (9, u "E"), (3, u "PI"), (2, u "TAU"), (2, u "DEGREES_TO_RADIANS"), (0, u "RADIANS_TO_DEGREES")] 94

def k10m0 : Method := { name := "<init>", desc := "()V", sig := { parameters := [], returnType := none }, accessFlags := 2, code := none }
def k10c1 : Code := { maxStack := 2, maxLocals := 2, code := jdk_29_method_65_code, exceptionTable := #[], attributes := #[] }
def k10m1 : Method := { name := "max", desc := "(II)I", sig := { parameters := [.int, .int], returnType := some .int }, accessFlags := 9, code := some k10c1 }
def k10c2 : Code := { maxStack := 2, maxLocals := 2, code := jdk_29_method_69_code, exceptionTable := #[], attributes := #[] }
def k10m2 : Method := { name := "min", desc := "(II)I", sig := { parameters := [.int, .int], returnType := some .int }, accessFlags := 9, code := some k10c2 }
/-- java/lang/Math -/
def k10 : Class := { plain "java/lang/Math" (some 0) with
  accessFlags := 49
  interfaces := #[]
  cf := some (fileOf pool10 1 #[.nestMembers #[98]] #[{ accessFlags := 2, nameIndex := 7, descriptorIndex := 8, attributes := #[] }, { accessFlags := 9, nameIndex := 198, descriptorIndex := 335, attributes := #[] }, { accessFlags := 9, nameIndex := 201, descriptorIndex := 335, attributes := #[] }] 49 4 #[] #[{ accessFlags := 25, nameIndex := 354, descriptorIndex := 339, attributes := #[] }, { accessFlags := 25, nameIndex := 358, descriptorIndex := 339, attributes := #[] }, { accessFlags := 25, nameIndex := 361, descriptorIndex := 339, attributes := #[] }, { accessFlags := 26, nameIndex := 364, descriptorIndex := 339, attributes := #[] }, { accessFlags := 26, nameIndex := 365, descriptorIndex := 339, attributes := #[] }, { accessFlags := 26, nameIndex := 172, descriptorIndex := 173, attributes := #[] }, { accessFlags := 26, nameIndex := 176, descriptorIndex := 173, attributes := #[] }, { accessFlags := 8, nameIndex := 344, descriptorIndex := 339, attributes := #[] }, { accessFlags := 8, nameIndex := 338, descriptorIndex := 339, attributes := #[] }, { accessFlags := 4120, nameIndex := 245, descriptorIndex := 246, attributes := #[] }])
  fields := #[{ name := "E", type := .double, accessFlags := 25, slot := 0, constantValue := 0 }, { name := "PI", type := .double, accessFlags := 25, slot := 1, constantValue := 0 }, { name := "TAU", type := .double, accessFlags := 25, slot := 2, constantValue := 0 }, { name := "DEGREES_TO_RADIANS", type := .double, accessFlags := 26, slot := 3, constantValue := 0 }, { name := "RADIANS_TO_DEGREES", type := .double, accessFlags := 26, slot := 4, constantValue := 0 }, { name := "negativeZeroFloatBits", type := .long, accessFlags := 26, slot := 5, constantValue := 0 }, { name := "negativeZeroDoubleBits", type := .long, accessFlags := 26, slot := 6, constantValue := 0 }, { name := "twoToTheDoubleScaleUp", type := .double, accessFlags := 8, slot := 7, constantValue := 0 }, { name := "twoToTheDoubleScaleDown", type := .double, accessFlags := 8, slot := 8, constantValue := 0 }, { name := "$assertionsDisabled", type := .boolean, accessFlags := 4120, slot := 9, constantValue := 0 }]
  methods := #[k10m0, k10m1, k10m2]
  instanceTypes := #[]
  staticTypes := #[.double, .double, .double, .double, .double, .long, .long, .double, .double, .boolean]
  resolved := Array.replicate 460 none
  statics := none }

def pool11 : Array CpInfo := pool [(2, .class_ 4), (1, u "java/lang/Object"), (0, u "<init>"), (0, u "()V"), (17, .class_ 26), (1, u "jdk/internal/util/Preconditions"), (28, .class_ 56), (0, u "jdk/internal/util/Preconditions$4"), (57, .class_ 115), (0, u "jdk/internal/util/Preconditions$1"), (7, u "SIOOBE_FORMATTER"), (0, u "Ljava/util/function/BiFunction;"), (0, .class_ 126), (0, u "jdk/internal/util/Preconditions$2"), (3, u "AIOOBE_FORMATTER"), (0, .class_ 132), (0, u "jdk/internal/util/Preconditions$3"), (3, u "IOOBE_FORMATTER")] 57

def k11m0 : Method := { name := "<init>", desc := "()V", sig := { parameters := [], returnType := none }, accessFlags := 1, code := none }
/-- jdk/internal/util/Preconditions -/
def k11 : Class := { plain "jdk/internal/util/Preconditions" (some 0) with
  accessFlags := 33
  interfaces := #[]
  cf := some (fileOf pool11 24 #[.nestMembers #[55, 131, 125, 114]] #[{ accessFlags := 1, nameIndex := 5, descriptorIndex := 6, attributes := #[] }] 33 2 #[] #[{ accessFlags := 25, nameIndex := 123, descriptorIndex := 124, attributes := #[] }, { accessFlags := 25, nameIndex := 130, descriptorIndex := 124, attributes := #[] }, { accessFlags := 25, nameIndex := 136, descriptorIndex := 124, attributes := #[] }])
  fields := #[{ name := "SIOOBE_FORMATTER", type := (.object "java/util/function/BiFunction"), accessFlags := 25, slot := 0, constantValue := 0 }, { name := "AIOOBE_FORMATTER", type := (.object "java/util/function/BiFunction"), accessFlags := 25, slot := 1, constantValue := 0 }, { name := "IOOBE_FORMATTER", type := (.object "java/util/function/BiFunction"), accessFlags := 25, slot := 2, constantValue := 0 }]
  methods := #[k11m0]
  instanceTypes := #[]
  staticTypes := #[(.object "java/util/function/BiFunction"), (.object "java/util/function/BiFunction"), (.object "java/util/function/BiFunction")]
  resolved := Array.replicate 194 none
  statics := some 1 }

def pool12 : Array CpInfo := pool [(9, u "<init>"), (6, .class_ 18), (1, u "java/lang/Object"), (0, u "()V"), (1, .class_ 23), (1, u "jdk/internal/util/ArraysSupport"), (0, u "LOG2_ARRAY_LONG_INDEX_SCALE"), (0, u "I"), (2, u "U"), (0, u "Ljdk/internal/misc/Unsafe;"), (8, u "BIG_ENDIAN"), (0, u "Z"), (8, u "LOG2_BYTE_BIT_SIZE"), (4, u "LOG2_ARRAY_INT_INDEX_SCALE"), (54, u "JLA"), (0, u "Ljdk/internal/access/JavaLangAccess;"), (11, u "LOG2_ARRAY_BOOLEAN_INDEX_SCALE"), (9, u "LOG2_ARRAY_BYTE_INDEX_SCALE"), (5, u "LOG2_ARRAY_CHAR_INDEX_SCALE"), (5, u "LOG2_ARRAY_SHORT_INDEX_SCALE"), (18, u "LOG2_ARRAY_FLOAT_INDEX_SCALE"), (24, u "LOG2_ARRAY_DOUBLE_INDEX_SCALE"), (89, u "T_BOOLEAN"), (2, u "T_CHAR"), (1, u "T_FLOAT"), (1, u "T_DOUBLE"), (1, u "T_BYTE"), (1, u "T_SHORT"), (1, u "T_INT"), (1, u "T_LONG"), (1, u "SOFT_MAX_ARRAY_LENGTH")] 83

def k12m0 : Method := { name := "<init>", desc := "()V", sig := { parameters := [], returnType := none }, accessFlags := 2, code := none }
/-- jdk/internal/util/ArraysSupport -/
def k12 : Class := { plain "jdk/internal/util/ArraysSupport" (some 0) with
  accessFlags := 33
  interfaces := #[]
  cf := some (fileOf pool12 21 #[] #[{ accessFlags := 2, nameIndex := 9, descriptorIndex := 19, attributes := #[] }] 33 16 #[] #[{ accessFlags := 24, nameIndex := 28, descriptorIndex := 29, attributes := #[] }, { accessFlags := 26, nameIndex := 38, descriptorIndex := 39, attributes := #[] }, { accessFlags := 25, nameIndex := 121, descriptorIndex := 25, attributes := #[] }, { accessFlags := 25, nameIndex := 131, descriptorIndex := 25, attributes := #[] }, { accessFlags := 25, nameIndex := 137, descriptorIndex := 25, attributes := #[] }, { accessFlags := 25, nameIndex := 143, descriptorIndex := 25, attributes := #[] }, { accessFlags := 25, nameIndex := 53, descriptorIndex := 25, attributes := #[] }, { accessFlags := 25, nameIndex := 24, descriptorIndex := 25, attributes := #[] }, { accessFlags := 25, nameIndex := 162, descriptorIndex := 25, attributes := #[] }, { accessFlags := 25, nameIndex := 187, descriptorIndex := 25, attributes := #[] }, { accessFlags := 26, nameIndex := 48, descriptorIndex := 25, attributes := #[] }, { accessFlags := 25, nameIndex := 277, descriptorIndex := 25, attributes := #[] }, { accessFlags := 25, nameIndex := 280, descriptorIndex := 25, attributes := #[] }, { accessFlags := 25, nameIndex := 282, descriptorIndex := 25, attributes := #[] }, { accessFlags := 25, nameIndex := 284, descriptorIndex := 25, attributes := #[] }, { accessFlags := 25, nameIndex := 286, descriptorIndex := 25, attributes := #[] }, { accessFlags := 25, nameIndex := 288, descriptorIndex := 25, attributes := #[] }, { accessFlags := 25, nameIndex := 290, descriptorIndex := 25, attributes := #[] }, { accessFlags := 25, nameIndex := 292, descriptorIndex := 25, attributes := #[] }, { accessFlags := 26, nameIndex := 108, descriptorIndex := 109, attributes := #[] }, { accessFlags := 25, nameIndex := 294, descriptorIndex := 25, attributes := #[] }])
  fields := #[{ name := "U", type := (.object "jdk/internal/misc/Unsafe"), accessFlags := 24, slot := 0, constantValue := 0 }, { name := "BIG_ENDIAN", type := .boolean, accessFlags := 26, slot := 1, constantValue := 0 }, { name := "LOG2_ARRAY_BOOLEAN_INDEX_SCALE", type := .int, accessFlags := 25, slot := 2, constantValue := 0 }, { name := "LOG2_ARRAY_BYTE_INDEX_SCALE", type := .int, accessFlags := 25, slot := 3, constantValue := 0 }, { name := "LOG2_ARRAY_CHAR_INDEX_SCALE", type := .int, accessFlags := 25, slot := 4, constantValue := 0 }, { name := "LOG2_ARRAY_SHORT_INDEX_SCALE", type := .int, accessFlags := 25, slot := 5, constantValue := 0 }, { name := "LOG2_ARRAY_INT_INDEX_SCALE", type := .int, accessFlags := 25, slot := 6, constantValue := 0 }, { name := "LOG2_ARRAY_LONG_INDEX_SCALE", type := .int, accessFlags := 25, slot := 7, constantValue := 0 }, { name := "LOG2_ARRAY_FLOAT_INDEX_SCALE", type := .int, accessFlags := 25, slot := 8, constantValue := 0 }, { name := "LOG2_ARRAY_DOUBLE_INDEX_SCALE", type := .int, accessFlags := 25, slot := 9, constantValue := 0 }, { name := "LOG2_BYTE_BIT_SIZE", type := .int, accessFlags := 26, slot := 10, constantValue := 0 }, { name := "T_BOOLEAN", type := .int, accessFlags := 25, slot := 11, constantValue := 0 }, { name := "T_CHAR", type := .int, accessFlags := 25, slot := 12, constantValue := 0 }, { name := "T_FLOAT", type := .int, accessFlags := 25, slot := 13, constantValue := 0 }, { name := "T_DOUBLE", type := .int, accessFlags := 25, slot := 14, constantValue := 0 }, { name := "T_BYTE", type := .int, accessFlags := 25, slot := 15, constantValue := 0 }, { name := "T_SHORT", type := .int, accessFlags := 25, slot := 16, constantValue := 0 }, { name := "T_INT", type := .int, accessFlags := 25, slot := 17, constantValue := 0 }, { name := "T_LONG", type := .int, accessFlags := 25, slot := 18, constantValue := 0 }, { name := "JLA", type := (.object "jdk/internal/access/JavaLangAccess"), accessFlags := 26, slot := 19, constantValue := 0 }, { name := "SOFT_MAX_ARRAY_LENGTH", type := .int, accessFlags := 25, slot := 20, constantValue := 0 }]
  methods := #[k12m0]
  instanceTypes := #[]
  staticTypes := #[(.object "jdk/internal/misc/Unsafe"), .boolean, .int, .int, .int, .int, .int, .int, .int, .int, .int, .int, .int, .int, .int, .int, .int, .int, .int, (.object "jdk/internal/access/JavaLangAccess"), .int]
  resolved := Array.replicate 378 none
  statics := none }

def pool13 : Array CpInfo := pool [(1, u "java/lang/Cloneable"), (0, .class_ 1), (0, u "java/lang/Object"), (0, .class_ 3)] 3

/-- java/lang/Cloneable -/
def k13 : Class := { plain "java/lang/Cloneable" (some 0) with
  accessFlags := 1537
  interfaces := #[]
  cf := some (fileOf pool13 2 #[] #[] 1537 4 #[] #[])
  fields := #[]
  methods := #[]
  instanceTypes := #[]
  staticTypes := #[]
  resolved := Array.replicate 8 none
  statics := none }

/-- the primitive byte -/
def k14 : Class := { plain "byte" none with kind := .primitive 'B', accessFlags := 0x411 }
/-- [B -/
def k15 : Class := { plain "[B" (some 0) with kind := .array 14 .byte, interfaces := #[13, 3], accessFlags := 1041 }

/-- the primitive int -/
def k16 : Class := { plain "int" none with kind := .primitive 'I', accessFlags := 0x411 }
/-- [I -/
def k17 : Class := { plain "[I" (some 0) with kind := .array 16 .int, interfaces := #[13, 3], accessFlags := 1041 }

def heap : Heap := #[{ cls := 8, slots := #[.long 0, .int 1, .null, .int 0, .null, .int 0, .int 0], vm := .statics 8 },
  { cls := 11, slots := #[.null, .null, .null], vm := .statics 11 }]
def classes : Array Class := #[k0, k1, k2, k3, k4, k5, k6, k7, k8, k9, k10, k11, k12, k13, k14, k15, k16, k17]
def interned : List (Array UInt16 × Addr) := []
def slotsUsed : Nat := 10
def theMethod : MethodId := ⟨1, 3⟩
def args0 : Array Value := #[.int 5, .int 2]
def aboutOver (below : List Frame) : State where
  vm := { classes := classes, interned := interned.toArray }
  heap := heap
  slotsUsed := slotsUsed
  threads := #[{ frames := .invoking theMethod args0 :: below }]
def below0 : List Frame := [.native { method := ⟨0, 0⟩, args := #[] }]
def about1 : State := aboutOver below0
def p0 : Program := .bare "" "" ""
def e0 : Env := launch0.env 0 0 0
theorem w_frames : about1.frames = Frame.invoking theMethod args0 :: below0 := rfl
set_option maxRecDepth 65536 in
theorem w_args : argsFit about1.vm theMethod args0 = true := by decide +kernel
set_option maxRecDepth 65536 in
theorem w_heap : heapFits about1 = true := by decide +kernel
set_option maxRecDepth 65536 in
theorem w_runnable : about1.curStatus? = some .runnable := by decide +kernel
set_option maxRecDepth 65536 in
theorem w_alone : about1.alone = true := by decide +kernel
set_option maxRecDepth 65536 in
theorem w_named : about1.methodNamed? x = some theMethod := by decide +kernel
set_option maxRecDepth 65536 in
theorem w_hears : about1.hears theMethod below0 = true := by decide +kernel
set_option maxRecDepth 65536 in
theorem w_ripe : about1.ripe theMethod args0 below0 = true := by decide +kernel
theorem w_running : about1.status = .running := rfl
set_option maxRecDepth 65536 in
theorem w_room : about1.hasRoom e0.platform room_1 = true :=
  launch0.hasRoom_least _ room_1 (by decide +kernel) (by decide +kernel) (by decide +kernel) (by decide +kernel) (by decide +kernel) (by decide +kernel)
theorem allAtoms_all (ts : List Jvm.Cond) (a : Array Jvm.Value) (st : Jvm.State) : (allAtoms ts).before a st = ts.all (fun c => c.before a st) := by
  induction ts with
  | nil => rfl
  | cons c t ih =>
    show (Jvm.Cond.and c (allAtoms t)).before a st = _
    rw [Jvm.Cond.before_and, ih, List.all_cons]
def words1 : List Jvm.Cond := Jvm.Cond.code x code maxLocals ret :: tables_1
/-- a 'code' word, met by the world's own term for the bytes: nothing is compared byte by byte -/
theorem code_word {y : MethodName} {bytes : ByteArray} {mx : Nat} {rt : Option FieldType} {a : Array Value} {s : State} {m : MethodId} {meth : Method} {c : Code} (h1 : s.methodNamed? y = some m) (h2 : s.vm.method? m = some meth) (h3 : meth.code = some c) (h4 : c.code = bytes)
    (h5 : (c.maxLocals == mx && c.exceptionTable.isEmpty && decide (c.maxStack ≤ mostOperands) && decide (meth.sig.returnType = rt) && !meth.locks && decide (parseMethodDescriptor y.desc = some meth.sig)) = true) : (Jvm.Cond.code y bytes mx rt).before a s = true := by
  simp only [Bool.and_eq_true, beq_iff_eq, Bool.not_eq_true', decide_eq_true_eq] at h5
  obtain ⟨⟨⟨⟨⟨g1, g2⟩, g3⟩, g4⟩, g5⟩, g6⟩ := h5
  simp [Cond.before, Cond.holds, Cond.value, h1, h2, h3, h4, g1, g2, g3, g4, g5, g6]
def isCode : Jvm.Cond → Bool
  | .code _ _ _ _ => true
  | _ => false
theorem all_split {L : List Jvm.Cond} {P : Jvm.Cond → Bool} (h1 : L.all (fun c => isCode c || P c) = true) (h2 : ∀ c ∈ L.filter isCode, P c = true) : L.all P = true := by
  refine List.all_eq_true.mpr fun c hc => ?_
  have h := List.all_eq_true.mp h1 c hc
  rcases Bool.eq_false_or_eq_true (isCode c) with hi | hi
  · exact h2 c (List.mem_filter.mpr ⟨hc, hi⟩)
  · simpa [hi] using h
set_option maxRecDepth 65536 in
theorem w_c0 : (Jvm.Cond.code x code maxLocals ret).before args0 about1 = true := code_word (m := ⟨1, 3⟩) (meth := k1m3) (c := k1c3) (by decide +kernel) rfl rfl rfl (by decide +kernel)
set_option maxRecDepth 65536 in
theorem w_c1 : (Jvm.Cond.code ({ cls := "com/example/portcullis/portcullis/PercentEncodingIsUnreservedPinLaw", name := "agrees", desc := "(I)Z" } : Jvm.MethodName) method_3_code (1 : Nat) (Option.some Jvm.ClassFile.FieldType.boolean)).before args0 about1 = true := code_word (m := ⟨1, 2⟩) (meth := k1m2) (c := k1c2) (by decide +kernel) rfl rfl rfl (by decide +kernel)
set_option maxRecDepth 65536 in
theorem w_c2 : (Jvm.Cond.code ({ cls := "com/example/portcullis/portcullis/PercentEncoding", name := "isUnreserved", desc := "(I)Z" } : Jvm.MethodName) prog_19_method_4_code (1 : Nat) (Option.some Jvm.ClassFile.FieldType.boolean)).before args0 about1 = true := code_word (m := ⟨2, 1⟩) (meth := k2m1) (c := k2c1) (by decide +kernel) rfl rfl rfl (by decide +kernel)
set_option maxRecDepth 65536 in
theorem w_c3 : (Jvm.Cond.code ({ cls := "java/lang/String", name := "indexOf", desc := "(I)I" } : Jvm.MethodName) jdk_42_method_79_code (2 : Nat) (Option.some Jvm.ClassFile.FieldType.int)).before args0 about1 = true := code_word (m := ⟨8, 2⟩) (meth := k8m2) (c := k8c2) (by decide +kernel) rfl rfl rfl (by decide +kernel)
set_option maxRecDepth 65536 in
theorem w_c4 : (Jvm.Cond.code ({ cls := "java/lang/String", name := "indexOf", desc := "(II)I" } : Jvm.MethodName) jdk_42_method_80_code (3 : Nat) (Option.some Jvm.ClassFile.FieldType.int)).before args0 about1 = true := code_word (m := ⟨8, 3⟩) (meth := k8m3) (c := k8c3) (by decide +kernel) rfl rfl rfl (by decide +kernel)
set_option maxRecDepth 65536 in
theorem w_c5 : (Jvm.Cond.code ({ cls := "java/lang/String", name := "isLatin1", desc := "()Z" } : Jvm.MethodName) jdk_42_method_154_code (1 : Nat) (Option.some Jvm.ClassFile.FieldType.boolean)).before args0 about1 = true := code_word (m := ⟨8, 5⟩) (meth := k8m5) (c := k8c5) (by decide +kernel) rfl rfl rfl (by decide +kernel)
set_option maxRecDepth 65536 in
theorem w_c6 : (Jvm.Cond.code ({ cls := "java/lang/String", name := "length", desc := "()I" } : Jvm.MethodName) jdk_42_method_54_code (1 : Nat) (Option.some Jvm.ClassFile.FieldType.int)).before args0 about1 = true := code_word (m := ⟨8, 1⟩) (meth := k8m1) (c := k8c1) (by decide +kernel) rfl rfl rfl (by decide +kernel)
set_option maxRecDepth 65536 in
theorem w_c7 : (Jvm.Cond.code ({ cls := "java/lang/String", name := "coder", desc := "()B" } : Jvm.MethodName) jdk_42_method_152_code (1 : Nat) (Option.some Jvm.ClassFile.FieldType.byte)).before args0 about1 = true := code_word (m := ⟨8, 4⟩) (meth := k8m4) (c := k8c4) (by decide +kernel) rfl rfl rfl (by decide +kernel)
set_option maxRecDepth 65536 in
theorem w_c8 : (Jvm.Cond.code ({ cls := "java/lang/StringLatin1", name := "indexOf", desc := "([BIII)I" } : Jvm.MethodName) jdk_43_method_22_code (4 : Nat) (Option.some Jvm.ClassFile.FieldType.int)).before args0 about1 = true := code_word (m := ⟨9, 2⟩) (meth := k9m2) (c := k9c2) (by decide +kernel) rfl rfl rfl (by decide +kernel)
set_option maxRecDepth 65536 in
theorem w_c9 : (Jvm.Cond.code ({ cls := "java/lang/StringLatin1", name := "canEncode", desc := "(I)Z" } : Jvm.MethodName) jdk_43_method_4_code (1 : Nat) (Option.some Jvm.ClassFile.FieldType.boolean)).before args0 about1 = true := code_word (m := ⟨9, 1⟩) (meth := k9m1) (c := k9c1) (by decide +kernel) rfl rfl rfl (by decide +kernel)
set_option maxRecDepth 65536 in
theorem w_c10 : (Jvm.Cond.code ({ cls := "java/lang/Math", name := "max", desc := "(II)I" } : Jvm.MethodName) jdk_29_method_65_code (2 : Nat) (Option.some Jvm.ClassFile.FieldType.int)).before args0 about1 = true := code_word (m := ⟨10, 1⟩) (meth := k10m1) (c := k10c1) (by decide +kernel) rfl rfl rfl (by decide +kernel)
set_option maxRecDepth 65536 in
theorem w_c11 : (Jvm.Cond.code ({ cls := "java/lang/Math", name := "min", desc := "(II)I" } : Jvm.MethodName) jdk_29_method_69_code (2 : Nat) (Option.some Jvm.ClassFile.FieldType.int)).before args0 about1 = true := code_word (m := ⟨10, 2⟩) (meth := k10m2) (c := k10c2) (by decide +kernel) rfl rfl rfl (by decide +kernel)
set_option maxRecDepth 65536 in
theorem w_c12 : (Jvm.Cond.code ({ cls := "java/lang/StringLatin1", name := "indexOfChar", desc := "([BIII)I" } : Jvm.MethodName) jdk_43_method_23_code (6 : Nat) (Option.some Jvm.ClassFile.FieldType.int)).before args0 about1 = true := code_word (m := ⟨9, 3⟩) (meth := k9m3) (c := k9c3) (by decide +kernel) rfl rfl rfl (by decide +kernel)
set_option maxRecDepth 65536 in
theorem w_c13 : (Jvm.Cond.code ({ cls := "com/example/portcullis/portcullis/PercentEncodingIsUnreservedPinLaw", name := "expected", desc := "(I)Z" } : Jvm.MethodName) method_2_code (5 : Nat) (Option.some Jvm.ClassFile.FieldType.boolean)).before args0 about1 = true := code_word (m := ⟨1, 1⟩) (meth := k1m1) (c := k1c1) (by decide +kernel) rfl rfl rfl (by decide +kernel)
def codes1 : List Jvm.Cond := [Jvm.Cond.code x code maxLocals ret, Jvm.Cond.code ({ cls := "com/example/portcullis/portcullis/PercentEncodingIsUnreservedPinLaw", name := "agrees", desc := "(I)Z" } : Jvm.MethodName) method_3_code (1 : Nat) (Option.some Jvm.ClassFile.FieldType.boolean), Jvm.Cond.code ({ cls := "com/example/portcullis/portcullis/PercentEncoding", name := "isUnreserved", desc := "(I)Z" } : Jvm.MethodName) prog_19_method_4_code (1 : Nat) (Option.some Jvm.ClassFile.FieldType.boolean), Jvm.Cond.code ({ cls := "java/lang/String", name := "indexOf", desc := "(I)I" } : Jvm.MethodName) jdk_42_method_79_code (2 : Nat) (Option.some Jvm.ClassFile.FieldType.int), Jvm.Cond.code ({ cls := "java/lang/String", name := "indexOf", desc := "(II)I" } : Jvm.MethodName) jdk_42_method_80_code (3 : Nat) (Option.some Jvm.ClassFile.FieldType.int), Jvm.Cond.code ({ cls := "java/lang/String", name := "isLatin1", desc := "()Z" } : Jvm.MethodName) jdk_42_method_154_code (1 : Nat) (Option.some Jvm.ClassFile.FieldType.boolean), Jvm.Cond.code ({ cls := "java/lang/String", name := "length", desc := "()I" } : Jvm.MethodName) jdk_42_method_54_code (1 : Nat) (Option.some Jvm.ClassFile.FieldType.int), Jvm.Cond.code ({ cls := "java/lang/String", name := "coder", desc := "()B" } : Jvm.MethodName) jdk_42_method_152_code (1 : Nat) (Option.some Jvm.ClassFile.FieldType.byte), Jvm.Cond.code ({ cls := "java/lang/StringLatin1", name := "indexOf", desc := "([BIII)I" } : Jvm.MethodName) jdk_43_method_22_code (4 : Nat) (Option.some Jvm.ClassFile.FieldType.int), Jvm.Cond.code ({ cls := "java/lang/StringLatin1", name := "canEncode", desc := "(I)Z" } : Jvm.MethodName) jdk_43_method_4_code (1 : Nat) (Option.some Jvm.ClassFile.FieldType.boolean), Jvm.Cond.code ({ cls := "java/lang/Math", name := "max", desc := "(II)I" } : Jvm.MethodName) jdk_29_method_65_code (2 : Nat) (Option.some Jvm.ClassFile.FieldType.int), Jvm.Cond.code ({ cls := "java/lang/Math", name := "min", desc := "(II)I" } : Jvm.MethodName) jdk_29_method_69_code (2 : Nat) (Option.some Jvm.ClassFile.FieldType.int), Jvm.Cond.code ({ cls := "java/lang/StringLatin1", name := "indexOfChar", desc := "([BIII)I" } : Jvm.MethodName) jdk_43_method_23_code (6 : Nat) (Option.some Jvm.ClassFile.FieldType.int), Jvm.Cond.code ({ cls := "com/example/portcullis/portcullis/PercentEncodingIsUnreservedPinLaw", name := "expected", desc := "(I)Z" } : Jvm.MethodName) method_2_code (5 : Nat) (Option.some Jvm.ClassFile.FieldType.boolean)]
set_option maxRecDepth 65536 in
theorem codes_eq : words1.filter isCode = codes1 := rfl
theorem w_codes : ∀ c ∈ words1.filter isCode, c.before args0 about1 = true := by
  rw [codes_eq]
  intro c hc
  simp only [codes1, List.mem_cons, List.not_mem_nil, or_false] at hc
  rcases hc with rfl | rfl | rfl | rfl | rfl | rfl | rfl | rfl | rfl | rfl | rfl | rfl | rfl | rfl
  · exact w_c0
  · exact w_c1
  · exact w_c2
  · exact w_c3
  · exact w_c4
  · exact w_c5
  · exact w_c6
  · exact w_c7
  · exact w_c8
  · exact w_c9
  · exact w_c10
  · exact w_c11
  · exact w_c12
  · exact w_c13
set_option maxRecDepth 65536 in
theorem w_t1 : (words1.take 24).all (fun c => isCode c || c.before args0 about1) = true := by decide +kernel
set_option maxRecDepth 65536 in
theorem w_t2 : ((words1.drop 24).take 24).all (fun c => isCode c || c.before args0 about1) = true := by decide +kernel
set_option maxRecDepth 65536 in
theorem w_t3 : ((words1.drop 24).drop 24).all (fun c => isCode c || c.before args0 about1) = true := by decide +kernel
theorem w_tables : (allAtoms (Jvm.Cond.code x code maxLocals ret :: tables_1)).before args0 about1 = true := by
  rw [allAtoms_all]
  show words1.all (fun c => c.before args0 about1) = true
  refine all_split ?_ w_codes
  rw [← List.take_append_drop 24 words1, List.all_append, w_t1, ← List.take_append_drop 24 (words1.drop 24), List.all_append, w_t2, w_t3]
  rfl
set_option maxRecDepth 65536 in
theorem w_rest : rest_1_c.before args0 about1 = true := by decide +kernel
set_option maxRecDepth 65536 in
theorem w_case : (Jvm.Cond.and given_1 narrow_1).before args0 about1 = true := by decide +kernel
set_option maxRecDepth 65536 in
theorem w_consts : constsHeld consts_1 about1 := Jvm.Lit.constsHeldB_iff.mp (by decide +kernel)
theorem w_applies : (headSpec (Jvm.Cond.code x code maxLocals ret :: tables_1) room_1).applies x e0.platform about1 = true :=
  (Spec.applies_iff w_frames).mpr ⟨w_running, w_runnable, w_alone, w_named, w_hears, w_ripe, w_room, w_tables⟩
theorem atStart : AtStart classFile x code maxLocals ret World_1 tables_1 room_1 Calls_1 rest_1 Pre_1 launch0 p0 e0 about1 theMethod args0 below0 :=
  ⟨lists_1, trivial, launch0.admits_env _ _ _, launch0.least_env, fairChoices_fair.cas, fairChoices_fair.clock, w_frames, w_args, w_heap, w_applies, ⟨w_consts, trivial⟩, w_rest, w_case⟩
end start1
theorem witness_1 : WitnessClaimed_1 := ⟨start1.p0, start1.e0, start1.about1, start1.theMethod, start1.args0, start1.below0, start1.atStart⟩
end Jvm.Pilot.@@N@@
