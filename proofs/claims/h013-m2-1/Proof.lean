import JvmDerived
import JvmDerived.Pilot.@@N@@Statement
import JvmDerived.Pilot.@@N@@Code
set_option linter.unusedVariables false
set_option linter.unusedSimpArgs false
@@BLOCK:NumsL.lean.txt@@
namespace Jvm.Pilot.@@N@@
open Jvm Jvm.ClassFile Sem Op Lib Jvm.Free Jvm.Stand Jvm.LawKit Jvm.RoadKit Bundle Jvm.Pilot.@@N@@.Jvm.D
/-! own kit: a walk's goal as one predicate, so that laws, branches and loops stand in the order of the run -/
def Go (p : Program) (e : Env) (s : State) (below : List Frame) (C S : Nat) (Q : Option Value → Heap → List Loc → Prop) (T : State) (g : JFrame) : Prop :=
  ∃ s₂ o, Steps p.tables e below (T.setTop g) s₂ ∧ s₂.status = .running ∧ Ended s₂ below o ∧ ∃ v L, o = .returned v ∧ Q v s₂.heap L ∧ FrameEnd s o s₂ L C S
section OwnKit
variable {p : Program} {l : Launch} {e : Env} {R : Room} {s : State} {m : MethodId} {args : Array Value} {below : List Frame} {meth : Method} {c : Code} {T T' : State} {locs : List Loc} {cells slots : Nat} {C S : Nat} {Q : Option Value → Heap → List Loc → Prop} {g g' : JFrame} {Z : State} {h h' : Heap} {a b : Addr}
theorem Go.st (k1 : ∀ t, Steps p.tables e below (T'.setTop g') t → Steps p.tables e below (T.setTop g) t) (k : Go p e s below C S Q T' g') : Go p e s below C S Q T g := by
  obtain ⟨s₂, o, h1, h2⟩ := k
  exact ⟨s₂, o, k1 _ h1, h2⟩
theorem Go.tr (k1 : Steps p.tables e below (T.setTop g) (T'.setTop g')) (k : Go p e s below C S Q T' g') : Go p e s below C S Q T g := by
  obtain ⟨s₂, o, h1, h2⟩ := k
  exact ⟨s₂, o, k1.trans h1, h2⟩
theorem Go.enter {gE : JFrame} (q : gE = g) (k : Go p e s below C S Q T g) : ∃ s₂ o, Steps p.tables e below (T.setTop gE) s₂ ∧ s₂.status = .running ∧ Ended s₂ below o ∧ ∃ v L, o = .returned v ∧ Q v s₂.heap L ∧ FrameEnd s o s₂ L C S := by
  subst q
  exact k
theorem Go.retO (X : Stand p l e R s m args below meth c T locs cells slots) (hx : p.tables.exec = Jvm.exec) (hlk : meth.locks = false) {pc : Nat} {Ls : Array Slot} {w : Value} {t : FieldType} {i : Instr} {rest : List Value} (hret : meth.sig.returnType = some t) (hn : narrow t w = w)
    (hi : (i = .ireturn ∧ (t = .int ∨ t = .boolean ∨ t = .byte ∨ t = .char ∨ t = .short) ∧ ∃ z, w = .int z) ∨ (i = .lreturn ∧ t = .long ∧ ∃ z, w = .long z) ∨ (i = .dreturn ∧ t = .double ∧ ∃ z, w = .double z) ∨ (i = .freturn ∧ t = .float ∧ ∃ z, w = .float z) ∨ (i = .areturn ∧ t.isReference = true ∧ w.isRef = true))
    (hd : decode c.code pc = .ok (i, 1)) (hc : cells ≤ C) (hs : slots ≤ S) (hQ : Q (some w) T.heap locs) : Go p e s below C S Q T (mkF m pc Ls (w :: rest)) := by
  obtain ⟨fs, hr, hrun, hended, hW, hsame⟩ := X.leave (v := some w) (fun q => by rw [hret] at q; cases q) hlk
  exact ⟨_, _, retOut X hx hret hn hi hd hr, hrun, hended, _, _, rfl, hQ, ⟨_, rfl⟩, hW, hsame.mono hc hs⟩
theorem Go.retI (X : Stand p l e R s m args below meth c T locs cells slots) (hx : p.tables.exec = Jvm.exec) (hlk : meth.locks = false) {pc : Nat} {Ls : Array Slot} {z : Int32} {rest : List Value} (hret : meth.sig.returnType = some .int)
    (hd : decode c.code pc = .ok (.ireturn, 1)) (hc : cells ≤ C) (hs : slots ≤ S) (hQ : Q (some (.int z)) T.heap locs) : Go p e s below C S Q T (mkF m pc Ls (.int z :: rest)) :=
  Go.retO X hx hlk hret rfl (Or.inl ⟨rfl, Or.inl rfl, _, rfl⟩) hd hc hs hQ
theorem Go.retJ (X : Stand p l e R s m args below meth c T locs cells slots) (hx : p.tables.exec = Jvm.exec) (hlk : meth.locks = false) {pc : Nat} {Ls : Array Slot} {z : Int64} {rest : List Value} (hret : meth.sig.returnType = some .long)
    (hd : decode c.code pc = .ok (.lreturn, 1)) (hc : cells ≤ C) (hs : slots ≤ S) (hQ : Q (some (.long z)) T.heap locs) : Go p e s below C S Q T (mkF m pc Ls (.long z :: rest)) :=
  Go.retO X hx hlk hret rfl (Or.inr (Or.inl ⟨rfl, rfl, _, rfl⟩)) hd hc hs hQ
theorem Go.retA (X : Stand p l e R s m args below meth c T locs cells slots) (hx : p.tables.exec = Jvm.exec) (hlk : meth.locks = false) {pc : Nat} {Ls : Array Slot} {z : Addr} {t : FieldType} {rest : List Value} (hret : meth.sig.returnType = some t) (ht : t.isReference = true)
    (hd : decode c.code pc = .ok (.areturn, 1)) (hc : cells ≤ C) (hs : slots ≤ S) (hQ : Q (some (.ref z)) T.heap locs) : Go p e s below C S Q T (mkF m pc Ls (.ref z :: rest)) :=
  Go.retO X hx hlk hret (by cases t <;> first | rfl | (simp [FieldType.isReference] at ht)) (Or.inr (Or.inr (Or.inr (Or.inr ⟨rfl, ht, rfl⟩)))) hd hc hs hQ
theorem Go.retN (X : Stand p l e R s m args below meth c T locs cells slots) (hx : p.tables.exec = Jvm.exec) (hlk : meth.locks = false) {pc : Nat} {Ls : Array Slot} {z : Int32} {t : FieldType} {rest : List Value} (hret : meth.sig.returnType = some t) (ht : t = .boolean ∨ t = .byte ∨ t = .char ∨ t = .short)
    (hd : decode c.code pc = .ok (.ireturn, 1)) (hc : cells ≤ C) (hs : slots ≤ S) (hQ : Q (some (.int (nar t z))) T.heap locs) : Go p e s below C S Q T (mkF m pc Ls (.int z :: rest)) := by
  obtain ⟨fs, hr, hrun, hended, hW, hsame⟩ := X.leave (v := some (.int (nar t z))) (fun q => by rw [hret] at q; cases q) hlk
  exact ⟨_, _, Jvm.RoadKit.retN X hx hret ht hd hr, hrun, hended, _, _, rfl, hQ, ⟨_, rfl⟩, hW, hsame.mono hc hs⟩
theorem Go.retV (X : Stand p l e R s m args below meth c T locs cells slots) (hx : p.tables.exec = Jvm.exec) (hlk : meth.locks = false) {pc : Nat} {Ls : Array Slot} (hret : meth.sig.returnType = none)
    (hd : decode c.code pc = .ok (.return_, 1)) (hc : cells ≤ C) (hs : slots ≤ S) (hQ : Q none T.heap locs) : Go p e s below C S Q T (mkF m pc Ls []) := by
  obtain ⟨fs, hr, hrun, hended, hW, hsame⟩ := X.leave (v := none) (fun _ => rfl) hlk
  exact ⟨_, _, X.returnOut hx hret hd hr, hrun, hended, _, _, rfl, hQ, ⟨_, rfl⟩, hW, hsame.mono hc hs⟩
/-! an array of ints (or bytes) by a function of its places -/
def AV (Z : State) (h : Heap) (a : Addr) (ty : FieldType) (n : Nat) (f : Nat → Int32) : Prop := ∃ c : Cell, Arr Z h a c ty ∧ c.slots.size = n ∧ n < 2147483648 ∧ ∀ j, j < n → c.slots[j]? = some (.int (f j))
variable {ty : FieldType} {n : Nat} {f : Nat → Int32}
theorem AV.lt (F : AV Z h a ty n f) : a < h.size := by obtain ⟨c, A, -⟩ := F; exact A.lt
theorem AV.small (F : AV Z h a ty n f) : n < 2147483648 := by obtain ⟨c, A, -, r, -⟩ := F; exact r
theorem AV.ext (F : AV Z h a ty n f) (E : Ext h h') : AV Z h' a ty n f := by obtain ⟨c, A, r⟩ := F; exact ⟨c, A.ext E, r⟩
theorem AV.other {sl : Nat} {v : Value} (F : AV Z h b ty n f) (W : Wr h h' a sl v) (q : b ≠ a) : AV Z h' b ty n f := by obtain ⟨c, A, r⟩ := F; exact ⟨c, A.other W q, r⟩
theorem AV.keep {ws : List Addr} (F : AV Z h a ty n f) (K : Keep h h' ws) (q : a ∉ ws) : AV Z h' a ty n f := by obtain ⟨c, A, r⟩ := F; exact ⟨c, ⟨K.2.1 a c A.1 q, A.2⟩, r⟩
theorem AV.congr {f' : Nat → Int32} (F : AV Z h a ty n f) (q : ∀ j, j < n → f j = f' j) : AV Z h a ty n f' := by
  obtain ⟨c, A, r1, r2, r3⟩ := F
  exact ⟨c, A, r1, r2, fun j hj => by rw [← q j hj]; exact r3 j hj⟩
theorem AV.new {k : ClassId} {z : Int32} (A : Arr Z h a (newA k ty z) ty) (hz : ¬ z < 0) (hd : defaultValue ty = .int 0) : AV Z h a ty z.toNatClampNeg (fun _ => 0) := by
  obtain ⟨c, A', -, S, -, H, -⟩ := Arv.new A hz
  refine ⟨c, A', S, ?_, fun j hj => ?_⟩
  · have h1 := z.toInt_lt
    have h2 : z.toNatClampNeg = z.toInt.toNat := rfl
    omega
  · have := H j (by omega)
    rw [this, hd]
    rfl
theorem AV.set {i : Nat} {x : Int32} (F : AV Z h a ty n f) (W : Wr h h' a i (.int x)) : AV Z h' a ty n (upd f i x) := by
  obtain ⟨c, A, r1, r2, r3⟩ := F
  refine ⟨_, A.same W, ?_, r2, fun j hj => ?_⟩
  · simp [Cell.setSlot, r1]
  · simp only [Cell.setSlot, upd]
    rw [Array.getElem?_setIfInBounds]
    by_cases q : i = j
    · subst q; simp [r1, hj]
    · simp [q, Ne.symm q, r3 j hj]
theorem AV.ldI (X : Stand p l e R s m args below meth c T locs cells slots) (hx : p.tables.exec = Jvm.exec) (hZ : Z.Warmed39 s.vm) (eT : T.heap = h) (F : AV Z h a .int n f) {j : Int32} {i : Nat} (hj : j.toNatClampNeg = i) (h0 : ¬ j < 0) (hi : i < n)
    {g : JFrame} (hg : g.method = m) {rest : List Value} (hs : g.stack = .int j :: .ref a :: rest) (hd : decode c.code g.pc = .ok (.iaload, 1)) : ∀ t, Steps p.tables e below (T.setTop { g with pc := g.pc + 1, stack := .int (f i) :: rest }) t → Steps p.tables e below (T.setTop g) t := by
  obtain ⟨cl, A, r1, r2, r3⟩ := F
  intro t k
  exact X.iaload hx (by rw [eT]; exact A.1) (State.isArrayOf_alike hZ.alike A.2.1) A.2.2 (by rw [r1, hj]; intro q; rcases q with q | q; exact h0 q; omega) (by rw [hj]; exact r3 i hi) hg hs hd _ k
theorem AV.ldB (X : Stand p l e R s m args below meth c T locs cells slots) (hx : p.tables.exec = Jvm.exec) (hZ : Z.Warmed39 s.vm) (eT : T.heap = h) (F : AV Z h a .byte n f) {j : Int32} {i : Nat} (hj : j.toNatClampNeg = i) (h0 : ¬ j < 0) (hi : i < n)
    {g : JFrame} (hg : g.method = m) {rest : List Value} (hs : g.stack = .int j :: .ref a :: rest) (hd : decode c.code g.pc = .ok (.baload, 1)) : ∀ t, Steps p.tables e below (T.setTop { g with pc := g.pc + 1, stack := .int (f i) :: rest }) t → Steps p.tables e below (T.setTop g) t := by
  obtain ⟨cl, A, r1, r2, r3⟩ := F
  intro t k
  exact X.baloadBytes hx (by rw [eT]; exact A.1) (State.isArrayOf_alike hZ.alike A.2.1) A.2.2 (by rw [r1, hj]; intro q; rcases q with q | q; exact h0 q; omega) (by rw [hj]; exact r3 i hi) hg hs hd _ k
theorem AV.stI (X : Stand p l e R s m args below meth c T locs cells slots) (hx : p.tables.exec = Jvm.exec) (hZ : Z.Warmed39 s.vm) (eT : T.heap = h) (F : AV Z h a .int n f) {j x : Int32} {i : Nat} (hj : j.toNatClampNeg = i) (h0 : ¬ j < 0) (hi : i < n)
    {g : JFrame} (hg : g.method = m) {rest : List Value} (hs : g.stack = .int x :: .int j :: .ref a :: rest) (hd : decode c.code g.pc = .ok (.iastore, 1)) :
    ∃ T' h', Stand p l e R s m args below meth c T' (locs ++ [⟨a, i⟩]) cells slots ∧ T'.heap = h' ∧ Wr h h' a i (.int x) ∧ AV Z h' a .int n (upd f i x) ∧ ∀ t, Steps p.tables e below (T'.setTop { g with pc := g.pc + 1, stack := rest }) t → Steps p.tables e below (T.setTop g) t := by
  have F' := F
  obtain ⟨cl, A, r1, r2, r3⟩ := F
  obtain ⟨T', h', X', e', W, st⟩ := Jvm.RoadKit.stI X hx hZ eT A (j := j) (x := x) (by rw [r1, hj]; intro q; rcases q with q | q; exact h0 q; omega) hg hs hd
  rw [hj] at X' W
  exact ⟨T', h', X', e', W, F'.set W, st⟩
theorem AV.stB (X : Stand p l e R s m args below meth c T locs cells slots) (hx : p.tables.exec = Jvm.exec) (hZ : Z.Warmed39 s.vm) (eT : T.heap = h) (F : AV Z h a .byte n f) {j x : Int32} {i : Nat} (hj : j.toNatClampNeg = i) (h0 : ¬ j < 0) (hi : i < n)
    {g : JFrame} (hg : g.method = m) {rest : List Value} (hs : g.stack = .int x :: .int j :: .ref a :: rest) (hd : decode c.code g.pc = .ok (.bastore, 1)) :
    ∃ T' h', Stand p l e R s m args below meth c T' (locs ++ [⟨a, i⟩]) cells slots ∧ T'.heap = h' ∧ Wr h h' a i (.int (nar .byte x)) ∧ AV Z h' a .byte n (upd f i (nar .byte x)) ∧ ∀ t, Steps p.tables e below (T'.setTop { g with pc := g.pc + 1, stack := rest }) t → Steps p.tables e below (T.setTop g) t := by
  have F' := F
  obtain ⟨cl, A, r1, r2, r3⟩ := F
  obtain ⟨T', h', X', e', W, st⟩ := Jvm.RoadKit.stB X hx hZ eT A (j := j) (x := x) (by rw [r1, hj]; intro q; rcases q with q | q; exact h0 q; omega) hg hs hd
  rw [hj] at X' W
  exact ⟨T', h', X', e', W, F'.set W, st⟩
theorem AV.len (X : Stand p l e R s m args below meth c T locs cells slots) (hx : p.tables.exec = Jvm.exec) (hZ : Z.Warmed39 s.vm) (eT : T.heap = h) (F : AV Z h a ty n f)
    {g : JFrame} (hg : g.method = m) {rest : List Value} (hs : g.stack = .ref a :: rest) (hd : decode c.code g.pc = .ok (.arraylength, 1)) : ∀ t, Steps p.tables e below (T.setTop { g with pc := g.pc + 1, stack := .int (Int32.ofNat n) :: rest }) t → Steps p.tables e below (T.setTop g) t := by
  obtain ⟨cl, A, r1, r2, r3⟩ := F
  subst r1
  intro t k
  exact X.arraylength hx (by rw [eT]; exact A.1) (State.isArrayOf_alike hZ.alike A.2.1) hg hs hd _ k
end OwnKit
theorem cl_eq {x y : Int64} (h : x = y) : ifCond.holds .eq (lcmpW x y) = true ∧ ifCond.holds .ne (lcmpW x y) = false := by
  have q := (lw_eq x y).mpr h
  exact ⟨(if0 _ _).trans (teq q).1, (if0 _ _).trans (teq q).2⟩
theorem cl_eqF {x y : Int64} (h : ¬ x = y) : ifCond.holds .eq (lcmpW x y) = false ∧ ifCond.holds .ne (lcmpW x y) = true := by
  have q := fun z => h ((lw_eq x y).mp z)
  exact ⟨(if0 _ _).trans (feq q).1, (if0 _ _).trans (feq q).2⟩
theorem cl_lt {x y : Int64} (h : x < y) : ifCond.holds .lt (lcmpW x y) = true ∧ ifCond.holds .ge (lcmpW x y) = false := by
  have q := (lw_lt x y).mpr h
  exact ⟨(if0 _ _).trans (tlt q).1, (if0 _ _).trans (tlt q).2.1⟩
theorem cl_ltF {x y : Int64} (h : ¬ x < y) : ifCond.holds .lt (lcmpW x y) = false ∧ ifCond.holds .ge (lcmpW x y) = true := by
  have q := fun z => h ((lw_lt x y).mp z)
  exact ⟨(if0 _ _).trans (flt q).1, (if0 _ _).trans (flt q).2.1⟩
theorem cl_gt {x y : Int64} (h : y < x) : ifCond.holds .gt (lcmpW x y) = true ∧ ifCond.holds .le (lcmpW x y) = false := by
  have q := (lw_gt x y).mpr h
  exact ⟨(if0 _ _).trans (tlt q).2.2.1, (if0 _ _).trans (tlt q).2.2.2⟩
theorem cl_gtF {x y : Int64} (h : ¬ y < x) : ifCond.holds .gt (lcmpW x y) = false ∧ ifCond.holds .le (lcmpW x y) = true := by
  have q := fun z => h ((lw_gt x y).mp z)
  exact ⟨(if0 _ _).trans (flt q).2.2.1, (if0 _ _).trans (flt q).2.2.2⟩
/-! small naturals as ints -/
theorem on_toInt {k : Nat} (h : k < 2147483648) : (Int32.ofNat k).toInt = (k : Int) := Int32.toInt_ofNat_of_lt h
theorem on_idx {k : Nat} (h : k < 2147483648) : (Int32.ofNat k).toNatClampNeg = k := by
  show (Int32.ofNat k).toInt.toNat = k
  rw [on_toInt h]; rfl
theorem on_nn {k : Nat} (h : k < 2147483648) : ¬ Int32.ofNat k < 0 := by
  rw [Int32.lt_iff_toInt_lt, on_toInt h]
  have : (0 : Int32).toInt = 0 := rfl
  omega
theorem on_lt {j k : Nat} (hj : j < 2147483648) (hk : k < 2147483648) : Int32.ofNat j < Int32.ofNat k ↔ j < k := by
  rw [Int32.lt_iff_toInt_lt, on_toInt hj, on_toInt hk]; omega
theorem on_inj {j k : Nat} (hj : j < 2147483648) (hk : k < 2147483648) : Int32.ofNat j = Int32.ofNat k ↔ j = k := by
  constructor
  · intro q
    have := congrArg Int32.toInt q
    rw [on_toInt hj, on_toInt hk] at this; omega
  · intro q; rw [q]
theorem on_add (j k : Nat) : Int32.ofNat j + Int32.ofNat k = Int32.ofNat (j + k) := (Int32.ofNat_add j k).symm
theorem on_succ (j : Nat) : Int32.ofNat j + (1 : Int32) = Int32.ofNat (j + 1) := on_add j 1
theorem on_sub {j k : Nat} (h : k ≤ j) : Int32.ofNat j - Int32.ofNat k = Int32.ofNat (j - k) := by
  have : Int32.ofNat j = Int32.ofNat (j - k) + Int32.ofNat k := by rw [on_add]; congr 1; omega
  rw [this]; simp
theorem ef_0 (m : MethodId) (x0 : Int32) (x1 : Int32) : entryFrame m #[(.int x0), (.int x1)] maxLocals = mkF m 0 #[.val (.int x0), .val (.int x1), .unset, .unset] [] := by first | (simp [entryFrame, mkF, argsToLocals, Value.category, maxLocals]; done) | rfl
theorem ef_1 (m : MethodId) (x0 : Int32) : entryFrame m #[(.int x0)] 1 = mkF m 0 #[.val (.int x0)] [] := by first | (simp [entryFrame, mkF, argsToLocals, Value.category]; done) | rfl
theorem ef_2n (m : MethodId) (x0 : Addr) (x1 : Int32) (x4 : Addr) : entryFrame m #[(.ref x0), (.int x1), .null, .null, (.ref x4)] 5 = mkF m 0 #[.val (.ref x0), .val (.int x1), .val .null, .val .null, .val (.ref x4)] [] := by first | (simp [entryFrame, mkF, argsToLocals, Value.category]; done) | rfl
theorem ef_4 (m : MethodId) (x0 : Addr) : entryFrame m #[(.ref x0)] 1 = mkF m 0 #[.val (.ref x0)] [] := by first | (simp [entryFrame, mkF, argsToLocals, Value.category]; done) | rfl
theorem pd_0 : parseMethodDescriptor "()I" = some ⟨[], some .int⟩ := by decide +kernel
theorem pd_2 : parseMethodDescriptor "(I)Lcom/example/tideline/tideline/server/Response;" = some ⟨[.int], some (.object "com/example/tideline/tideline/server/Response")⟩ := by decide +kernel
theorem pd_3 : parseMethodDescriptor "(ILjava/lang/String;Ljava/lang/String;[B)V" = some ⟨[.int, (.object "java/lang/String"), (.object "java/lang/String"), (.array .byte)], none⟩ := by decide +kernel
theorem pn_com_example_tideline_tideline_server_Response : plainName "com/example/tideline/tideline/server/Response" = true := by first | (simp [plainName, overriddenIn]; done) | decide +kernel
theorem pn_com_example_tideline_tideline_server_ResponseEmptyPinLaw : plainName "com/example/tideline/tideline/server/ResponseEmptyPinLaw" = true := by first | (simp [plainName, overriddenIn]; done) | decide +kernel
theorem d1_0 : decode prog_42_method_2_code 0 = .ok (.new 8, 3) := by decide +kernel
theorem d1_10 : decode prog_42_method_2_code 10 = .ok (.invokespecial 24, 3) := by decide +kernel
theorem d1_13 : decode prog_42_method_2_code 13 = .ok (.areturn, 1) := by decide +kernel
theorem d1_3 : decode prog_42_method_2_code 3 = .ok (.dup, 1) := by decide +kernel
theorem d1_4 : decode prog_42_method_2_code 4 = .ok (.iload_n 0, 1) := by decide +kernel
theorem d1_5 : decode prog_42_method_2_code 5 = .ok (.aconst_null, 1) := by decide +kernel
theorem d1_6 : decode prog_42_method_2_code 6 = .ok (.aconst_null, 1) := by decide +kernel
theorem d1_7 : decode prog_42_method_2_code 7 = .ok (.iconst 0, 1) := by decide +kernel
theorem d1_8 : decode prog_42_method_2_code 8 = .ok (.newarray .byte, 2) := by decide +kernel
theorem d2_0 : decode prog_42_method_1_code 0 = .ok (.aload_n 0, 1) := by decide +kernel
theorem d2_1 : decode prog_42_method_1_code 1 = .ok (.invokespecial 1, 3) := by decide +kernel
theorem d2_10 : decode prog_42_method_1_code 10 = .ok (.aload_n 2, 1) := by decide +kernel
theorem d2_11 : decode prog_42_method_1_code 11 = .ok (.putfield 13, 3) := by decide +kernel
theorem d2_14 : decode prog_42_method_1_code 14 = .ok (.aload_n 0, 1) := by decide +kernel
theorem d2_15 : decode prog_42_method_1_code 15 = .ok (.aload_n 3, 1) := by decide +kernel
theorem d2_16 : decode prog_42_method_1_code 16 = .ok (.putfield 17, 3) := by decide +kernel
theorem d2_19 : decode prog_42_method_1_code 19 = .ok (.aload_n 0, 1) := by decide +kernel
theorem d2_20 : decode prog_42_method_1_code 20 = .ok (.aload 4, 2) := by decide +kernel
theorem d2_22 : decode prog_42_method_1_code 22 = .ok (.putfield 20, 3) := by decide +kernel
theorem d2_25 : decode prog_42_method_1_code 25 = .ok (.return_, 1) := by decide +kernel
theorem d2_4 : decode prog_42_method_1_code 4 = .ok (.aload_n 0, 1) := by decide +kernel
theorem d2_5 : decode prog_42_method_1_code 5 = .ok (.iload_n 1, 1) := by decide +kernel
theorem d2_6 : decode prog_42_method_1_code 6 = .ok (.putfield 7, 3) := by decide +kernel
theorem d2_9 : decode prog_42_method_1_code 9 = .ok (.aload_n 0, 1) := by decide +kernel
theorem d4_0 : decode prog_42_method_6_code 0 = .ok (.aload_n 0, 1) := by decide +kernel
theorem d4_1 : decode prog_42_method_6_code 1 = .ok (.getfield 7, 3) := by decide +kernel
theorem d4_4 : decode prog_42_method_6_code 4 = .ok (.ireturn, 1) := by decide +kernel
def Q2 (Z : State) (o : Addr) (p1 : Int32) (h0 : Heap) (n0 : Nat) (v : Option Value) (h : Heap) (L : List Loc) : Prop := v = none ∧ Fr n0 L ∧ Keep h0 h [o] ∧ Exa Z h o "com/example/tideline/tideline/server/Response" ∧ Fld Z h o "com/example/tideline/tideline/server/Response" "status" "I" (.int p1)
set_option maxRecDepth 65536 in
set_option maxHeartbeats 40000000 in
theorem rm2 (l : Launch) (Z : State) (a0 : Array Value) (hw : ∀ d ∈ tables_1, d.before a0 Z = true) (ws : List Jvm.Cond) (o : Addr) (p1 : Int32) (ar : Addr) (h0 : Heap) (n0 : Nat) (Z0 : n0 ≤ h0.size) (E : Exa Z h0 o "com/example/tideline/tideline/server/Response") (F_status : Fld Z h0 o "com/example/tideline/tideline/server/Response" "status" "I" (.int (0 : Int32))) (F_contentType : Fld Z h0 o "com/example/tideline/tideline/server/Response" "contentType" "Ljava/lang/String;" .null) (F_header : Fld Z h0 o "com/example/tideline/tideline/server/Response" "header" "Ljava/lang/String;" .null) (F_body : Fld Z h0 o "com/example/tideline/tideline/server/Response" "body" "[B" .null) (go : n0 ≤ o) :
    MetFree l (⟨"com/example/tideline/tideline/server/Response", "<init>", "(ILjava/lang/String;Ljava/lang/String;[B)V"⟩ : MethodName) (head1 (Jvm.Cond.code (⟨"com/example/tideline/tideline/server/Response", "<init>", "(ILjava/lang/String;Ljava/lang/String;[B)V"⟩ : MethodName) prog_42_method_1_code 5 none :: ws) ({ frames := 1, cells := 0, slots := 0, locals := 12 } : Room)) (fun a_ U_ => a_ = #[(.ref o), (.int p1), .null, .null, (.ref ar)] ∧ Z.Warmed39 U_.vm ∧ U_.heap = h0) (fun _ _ _ _ _ => True) (fun _ U_ o_ W_ => ∃ v_ L_, o_ = .returned v_ ∧ (Q2 Z o p1 h0 n0) v_ W_.heap L_ ∧ FrameEnd U_ o_ W_ L_ ({ frames := 1, cells := 0, slots := 0, locals := 12 } : Room).cells ({ frames := 1, cells := 0, slots := 0, locals := 12 } : Room).slots) := by
  refine MetFree.of_bodySF (plainFor_of_name pn_com_example_tideline_tideline_server_Response) hisR ?_
  intro p e s m args below meth c s₁ Bd hml0 hP hK
  obtain ⟨rfl, hZ, hh⟩ := hP
  have hx := Bd.exec
  have hby := Bd.bytes
  have hml : c.maxLocals = 5 := hml0
  have hown : s.vm.findClass "com/example/tideline/tideline/server/Response" = some m.cls := findClass_of_methodNamed Bd.named
  have hnm := (name_of_methodNamed Bd.named Bd.method).1
  have hlk : meth.locks = false := BodyLoose.notSynchronized Bd
  have X0 : Stand p l e ({ frames := 1, cells := 0, slots := 0, locals := 12 } : Room) s m #[(.ref o), (.int p1), .null, .null, (.ref ar)] below meth c s₁ [] 0 0 := Stand.of_body Bd
  have e0 : s₁.heap = h0 := by rw [← hh, Bd.state]; rfl
  have N0 := Fr.nil n0
  refine Go.enter (ef_2n m o p1 ar) ?_
  show Go p e s below ({ frames := 1, cells := 0, slots := 0, locals := 12 } : Room).cells ({ frames := 1, cells := 0, slots := 0, locals := 12 } : Room).slots (Q2 Z o p1 h0 n0) s₁ (mkF m 0 #[.val (.ref o), .val (.int p1), .val .null, .val .null, .val (.ref ar)] [])
  refine Go.st (fun _ k => XS.aloadN X0.here hx rfl (hb hby d2_0) rfl rfl k) ?_
  show Go p e s below ({ frames := 1, cells := 0, slots := 0, locals := 12 } : Room).cells ({ frames := 1, cells := 0, slots := 0, locals := 12 } : Room).slots (Q2 Z o p1 h0 n0) s₁ (mkF m 1 #[.val (.ref o), .val (.int p1), .val .null, .val .null, .val (.ref ar)] [(.ref o)])
  obtain ⟨T1, X1, e1, st1⟩ := initO X0 hx hZ hown (hw _ (List.mem_of_getElem? (i := 10) rfl)) (hw _ (List.mem_of_getElem? (i := 11) rfl)) (hw _ (List.mem_of_getElem? (i := 12) rfl)) e0 (g := (mkF m 1 #[.val (.ref o), .val (.int p1), .val .null, .val .null, .val (.ref ar)] [(.ref o)])) rfl (by rw [hml]; rfl) rfl (hb hby d2_1) (by decide) (W := 0) (by show 2 * 0 + _ ≤ _; exact Nat.le_of_eq rfl) (by decide)
  refine Go.st st1 ?_
  show Go p e s below ({ frames := 1, cells := 0, slots := 0, locals := 12 } : Room).cells ({ frames := 1, cells := 0, slots := 0, locals := 12 } : Room).slots (Q2 Z o p1 h0 n0) T1 (mkF m 4 #[.val (.ref o), .val (.int p1), .val .null, .val .null, .val (.ref ar)] [])
  refine Go.st (fun _ k => XS.aloadN X1.here hx rfl (hb hby d2_4) rfl rfl k) ?_
  show Go p e s below ({ frames := 1, cells := 0, slots := 0, locals := 12 } : Room).cells ({ frames := 1, cells := 0, slots := 0, locals := 12 } : Room).slots (Q2 Z o p1 h0 n0) T1 (mkF m 5 #[.val (.ref o), .val (.int p1), .val .null, .val .null, .val (.ref ar)] [(.ref o)])
  refine Go.st (fun _ k => XS.iloadN X1.here hx rfl (hb hby d2_5) rfl k) ?_
  show Go p e s below ({ frames := 1, cells := 0, slots := 0, locals := 12 } : Room).cells ({ frames := 1, cells := 0, slots := 0, locals := 12 } : Room).slots (Q2 Z o p1 h0 n0) T1 (mkF m 6 #[.val (.ref o), .val (.int p1), .val .null, .val .null, .val (.ref ar)] [(.int p1), (.ref o)])
  obtain ⟨T2, h2, X2, e2, W2, st2⟩ := putF X1 hx hZ hown (host := "") (Or.inl (hw _ (List.mem_of_getElem? (i := 13) rfl))) Via.refl e1 F_status E (Or.inr ⟨(hw _ (List.mem_of_getElem? (i := 14) rfl)), rfl, hnm⟩) (hw _ (List.mem_of_getElem? (i := 5) rfl)) (ty := .int) (by decide) rfl rfl (g := (mkF m 6 #[.val (.ref o), .val (.int p1), .val .null, .val .null, .val (.ref ar)] [(.int p1), (.ref o)])) rfl rfl (hb hby d2_6)
  refine Go.st st2 ?_
  have N2 := Fr.snoc X2 N0 go
  have F2_status := F_status.same W2
  have F2_contentType := (F_contentType.other W2 (Or.inr (slot_ne (Or.inr (hw _ (List.mem_of_getElem? (i := 16) rfl))) (Or.inr (hw _ (List.mem_of_getElem? (i := 14) rfl))) (by decide) (t := (.object "java/lang/String")) (t' := .int) (by decide) (by decide))))
  have F2_header := (F_header.other W2 (Or.inr (slot_ne (Or.inr (hw _ (List.mem_of_getElem? (i := 18) rfl))) (Or.inr (hw _ (List.mem_of_getElem? (i := 14) rfl))) (by decide) (t := (.object "java/lang/String")) (t' := .int) (by decide) (by decide))))
  have F2_body := (F_body.other W2 (Or.inr (slot_ne (Or.inr (hw _ (List.mem_of_getElem? (i := 20) rfl))) (Or.inr (hw _ (List.mem_of_getElem? (i := 14) rfl))) (by decide) (t := (.array .byte)) (t' := .int) (by decide) (by decide))))
  have E2 := E.wr W2
  have K2 := (Keep.refl h0 [o]).wr W2 (Or.inl (List.mem_singleton.mpr rfl))
  show Go p e s below ({ frames := 1, cells := 0, slots := 0, locals := 12 } : Room).cells ({ frames := 1, cells := 0, slots := 0, locals := 12 } : Room).slots (Q2 Z o p1 h0 n0) T2 (mkF m 9 #[.val (.ref o), .val (.int p1), .val .null, .val .null, .val (.ref ar)] [])
  refine Go.st (fun _ k => XS.aloadN X2.here hx rfl (hb hby d2_9) rfl rfl k) ?_
  show Go p e s below ({ frames := 1, cells := 0, slots := 0, locals := 12 } : Room).cells ({ frames := 1, cells := 0, slots := 0, locals := 12 } : Room).slots (Q2 Z o p1 h0 n0) T2 (mkF m 10 #[.val (.ref o), .val (.int p1), .val .null, .val .null, .val (.ref ar)] [(.ref o)])
  refine Go.st (fun _ k => XS.aloadN X2.here hx rfl (hb hby d2_10) rfl rfl k) ?_
  show Go p e s below ({ frames := 1, cells := 0, slots := 0, locals := 12 } : Room).cells ({ frames := 1, cells := 0, slots := 0, locals := 12 } : Room).slots (Q2 Z o p1 h0 n0) T2 (mkF m 11 #[.val (.ref o), .val (.int p1), .val .null, .val .null, .val (.ref ar)] [.null, (.ref o)])
  obtain ⟨T3, h3, X3, e3, W3, st3⟩ := putF X2 hx hZ hown (host := "") (Or.inl (hw _ (List.mem_of_getElem? (i := 15) rfl))) Via.refl e2 F2_contentType E2 (Or.inr ⟨(hw _ (List.mem_of_getElem? (i := 16) rfl)), rfl, hnm⟩) (hw _ (List.mem_of_getElem? (i := 5) rfl)) (ty := (.object "java/lang/String")) (by decide) rfl rfl (g := (mkF m 11 #[.val (.ref o), .val (.int p1), .val .null, .val .null, .val (.ref ar)] [.null, (.ref o)])) rfl rfl (hb hby d2_11)
  refine Go.st st3 ?_
  have N3 := Fr.snoc X3 N2 go
  have F3_status := (F2_status.other W3 (Or.inr (slot_ne (Or.inr (hw _ (List.mem_of_getElem? (i := 14) rfl))) (Or.inr (hw _ (List.mem_of_getElem? (i := 16) rfl))) (by decide) (t := .int) (t' := (.object "java/lang/String")) (by decide) (by decide))))
  have F3_contentType := F2_contentType.same W3
  have F3_header := (F2_header.other W3 (Or.inr (slot_ne (Or.inr (hw _ (List.mem_of_getElem? (i := 18) rfl))) (Or.inr (hw _ (List.mem_of_getElem? (i := 16) rfl))) (by decide) (t := (.object "java/lang/String")) (t' := (.object "java/lang/String")) (by decide) (by decide))))
  have F3_body := (F2_body.other W3 (Or.inr (slot_ne (Or.inr (hw _ (List.mem_of_getElem? (i := 20) rfl))) (Or.inr (hw _ (List.mem_of_getElem? (i := 16) rfl))) (by decide) (t := (.array .byte)) (t' := (.object "java/lang/String")) (by decide) (by decide))))
  have E3 := E2.wr W3
  have K3 := K2.wr W3 (Or.inl (List.mem_singleton.mpr rfl))
  show Go p e s below ({ frames := 1, cells := 0, slots := 0, locals := 12 } : Room).cells ({ frames := 1, cells := 0, slots := 0, locals := 12 } : Room).slots (Q2 Z o p1 h0 n0) T3 (mkF m 14 #[.val (.ref o), .val (.int p1), .val .null, .val .null, .val (.ref ar)] [])
  refine Go.st (fun _ k => XS.aloadN X3.here hx rfl (hb hby d2_14) rfl rfl k) ?_
  show Go p e s below ({ frames := 1, cells := 0, slots := 0, locals := 12 } : Room).cells ({ frames := 1, cells := 0, slots := 0, locals := 12 } : Room).slots (Q2 Z o p1 h0 n0) T3 (mkF m 15 #[.val (.ref o), .val (.int p1), .val .null, .val .null, .val (.ref ar)] [(.ref o)])
  refine Go.st (fun _ k => XS.aloadN X3.here hx rfl (hb hby d2_15) rfl rfl k) ?_
  show Go p e s below ({ frames := 1, cells := 0, slots := 0, locals := 12 } : Room).cells ({ frames := 1, cells := 0, slots := 0, locals := 12 } : Room).slots (Q2 Z o p1 h0 n0) T3 (mkF m 16 #[.val (.ref o), .val (.int p1), .val .null, .val .null, .val (.ref ar)] [.null, (.ref o)])
  obtain ⟨T4, h4, X4, e4, W4, st4⟩ := putF X3 hx hZ hown (host := "") (Or.inl (hw _ (List.mem_of_getElem? (i := 17) rfl))) Via.refl e3 F3_header E3 (Or.inr ⟨(hw _ (List.mem_of_getElem? (i := 18) rfl)), rfl, hnm⟩) (hw _ (List.mem_of_getElem? (i := 5) rfl)) (ty := (.object "java/lang/String")) (by decide) rfl rfl (g := (mkF m 16 #[.val (.ref o), .val (.int p1), .val .null, .val .null, .val (.ref ar)] [.null, (.ref o)])) rfl rfl (hb hby d2_16)
  refine Go.st st4 ?_
  have N4 := Fr.snoc X4 N3 go
  have F4_status := (F3_status.other W4 (Or.inr (slot_ne (Or.inr (hw _ (List.mem_of_getElem? (i := 14) rfl))) (Or.inr (hw _ (List.mem_of_getElem? (i := 18) rfl))) (by decide) (t := .int) (t' := (.object "java/lang/String")) (by decide) (by decide))))
  have F4_contentType := (F3_contentType.other W4 (Or.inr (slot_ne (Or.inr (hw _ (List.mem_of_getElem? (i := 16) rfl))) (Or.inr (hw _ (List.mem_of_getElem? (i := 18) rfl))) (by decide) (t := (.object "java/lang/String")) (t' := (.object "java/lang/String")) (by decide) (by decide))))
  have F4_header := F3_header.same W4
  have F4_body := (F3_body.other W4 (Or.inr (slot_ne (Or.inr (hw _ (List.mem_of_getElem? (i := 20) rfl))) (Or.inr (hw _ (List.mem_of_getElem? (i := 18) rfl))) (by decide) (t := (.array .byte)) (t' := (.object "java/lang/String")) (by decide) (by decide))))
  have E4 := E3.wr W4
  have K4 := K3.wr W4 (Or.inl (List.mem_singleton.mpr rfl))
  show Go p e s below ({ frames := 1, cells := 0, slots := 0, locals := 12 } : Room).cells ({ frames := 1, cells := 0, slots := 0, locals := 12 } : Room).slots (Q2 Z o p1 h0 n0) T4 (mkF m 19 #[.val (.ref o), .val (.int p1), .val .null, .val .null, .val (.ref ar)] [])
  refine Go.st (fun _ k => XS.aloadN X4.here hx rfl (hb hby d2_19) rfl rfl k) ?_
  show Go p e s below ({ frames := 1, cells := 0, slots := 0, locals := 12 } : Room).cells ({ frames := 1, cells := 0, slots := 0, locals := 12 } : Room).slots (Q2 Z o p1 h0 n0) T4 (mkF m 20 #[.val (.ref o), .val (.int p1), .val .null, .val .null, .val (.ref ar)] [(.ref o)])
  refine Go.st (fun _ k => XS.aload X4.here hx rfl (hb hby d2_20) rfl rfl k) ?_
  show Go p e s below ({ frames := 1, cells := 0, slots := 0, locals := 12 } : Room).cells ({ frames := 1, cells := 0, slots := 0, locals := 12 } : Room).slots (Q2 Z o p1 h0 n0) T4 (mkF m 22 #[.val (.ref o), .val (.int p1), .val .null, .val .null, .val (.ref ar)] [(.ref ar), (.ref o)])
  obtain ⟨T5, h5, X5, e5, W5, st5⟩ := putF X4 hx hZ hown (host := "") (Or.inl (hw _ (List.mem_of_getElem? (i := 19) rfl))) Via.refl e4 F4_body E4 (Or.inr ⟨(hw _ (List.mem_of_getElem? (i := 20) rfl)), rfl, hnm⟩) (hw _ (List.mem_of_getElem? (i := 5) rfl)) (ty := (.array .byte)) (by decide) rfl rfl (g := (mkF m 22 #[.val (.ref o), .val (.int p1), .val .null, .val .null, .val (.ref ar)] [(.ref ar), (.ref o)])) rfl rfl (hb hby d2_22)
  refine Go.st st5 ?_
  have N5 := Fr.snoc X5 N4 go
  have F5_status := (F4_status.other W5 (Or.inr (slot_ne (Or.inr (hw _ (List.mem_of_getElem? (i := 14) rfl))) (Or.inr (hw _ (List.mem_of_getElem? (i := 20) rfl))) (by decide) (t := .int) (t' := (.array .byte)) (by decide) (by decide))))
  have F5_contentType := (F4_contentType.other W5 (Or.inr (slot_ne (Or.inr (hw _ (List.mem_of_getElem? (i := 16) rfl))) (Or.inr (hw _ (List.mem_of_getElem? (i := 20) rfl))) (by decide) (t := (.object "java/lang/String")) (t' := (.array .byte)) (by decide) (by decide))))
  have F5_header := (F4_header.other W5 (Or.inr (slot_ne (Or.inr (hw _ (List.mem_of_getElem? (i := 18) rfl))) (Or.inr (hw _ (List.mem_of_getElem? (i := 20) rfl))) (by decide) (t := (.object "java/lang/String")) (t' := (.array .byte)) (by decide) (by decide))))
  have F5_body := F4_body.same W5
  have E5 := E4.wr W5
  have K5 := K4.wr W5 (Or.inl (List.mem_singleton.mpr rfl))
  show Go p e s below ({ frames := 1, cells := 0, slots := 0, locals := 12 } : Room).cells ({ frames := 1, cells := 0, slots := 0, locals := 12 } : Room).slots (Q2 Z o p1 h0 n0) T5 (mkF m 25 #[.val (.ref o), .val (.int p1), .val .null, .val .null, .val (.ref ar)] [])
  exact Go.retV X5 hx hlk Bd.returns (hb hby d2_25) (by decide) (by decide) (by rw [e5]; exact ⟨rfl, N5, K5, E5, F5_status⟩)
def Q1 (Z : State) (p1 : Int32) (h0 : Heap) (n0 : Nat) (v : Option Value) (h : Heap) (L : List Loc) : Prop := ∃ r : Addr, v = some (.ref r) ∧ Fr n0 L ∧ Keep h0 h [] ∧ Exa Z h r "com/example/tideline/tideline/server/Response" ∧ Fld Z h r "com/example/tideline/tideline/server/Response" "status" "I" (.int p1)
set_option maxRecDepth 65536 in
set_option maxHeartbeats 40000000 in
theorem rm1 (l : Launch) (Z : State) (a0 : Array Value) (hw : ∀ d ∈ tables_1, d.before a0 Z = true) (ws : List Jvm.Cond) (p1 : Int32) (h0 : Heap) (n0 : Nat) (Z0 : n0 ≤ h0.size)  :
    MetFree l (⟨"com/example/tideline/tideline/server/Response", "empty", "(I)Lcom/example/tideline/tideline/server/Response;"⟩ : MethodName) (head1 (Jvm.Cond.code (⟨"com/example/tideline/tideline/server/Response", "empty", "(I)Lcom/example/tideline/tideline/server/Response;"⟩ : MethodName) prog_42_method_2_code 1 (some (.object "com/example/tideline/tideline/server/Response")) :: ws) ({ frames := 2, cells := 2, slots := 5, locals := 29 } : Room)) (fun a_ U_ => a_ = #[(.int p1)] ∧ Z.Warmed39 U_.vm ∧ U_.heap = h0) (fun _ _ _ _ _ => True) (fun _ U_ o_ W_ => ∃ v_ L_, o_ = .returned v_ ∧ (Q1 Z p1 h0 n0) v_ W_.heap L_ ∧ FrameEnd U_ o_ W_ L_ ({ frames := 2, cells := 2, slots := 5, locals := 29 } : Room).cells ({ frames := 2, cells := 2, slots := 5, locals := 29 } : Room).slots) := by
  refine MetFree.of_bodySF (plainFor_of_name pn_com_example_tideline_tideline_server_Response) hisR ?_
  intro p e s m args below meth c s₁ Bd hml0 hP hK
  obtain ⟨rfl, hZ, hh⟩ := hP
  have hx := Bd.exec
  have hby := Bd.bytes
  have hml : c.maxLocals = 1 := hml0
  have hown : s.vm.findClass "com/example/tideline/tideline/server/Response" = some m.cls := findClass_of_methodNamed Bd.named
  have hnm := (name_of_methodNamed Bd.named Bd.method).1
  have hlk : meth.locks = false := BodyLoose.notSynchronized Bd
  have X0 : Stand p l e ({ frames := 2, cells := 2, slots := 5, locals := 29 } : Room) s m #[(.int p1)] below meth c s₁ [] 0 0 := Stand.of_body Bd
  have e0 : s₁.heap = h0 := by rw [← hh, Bd.state]; rfl
  have N0 := Fr.nil n0
  refine Go.enter (ef_1 m p1) ?_
  show Go p e s below ({ frames := 2, cells := 2, slots := 5, locals := 29 } : Room).cells ({ frames := 2, cells := 2, slots := 5, locals := 29 } : Room).slots (Q1 Z p1 h0 n0) s₁ (mkF m 0 #[.val (.int p1)] [])
  obtain ⟨T6, h6, X6, e6, E6, A6, D6, -, st6⟩ := newO X0 hx hZ hown (hw _ (List.mem_of_getElem? (i := 4) rfl)) (hw _ (List.mem_of_getElem? (i := 5) rfl)) (hw _ (List.mem_of_getElem? (i := 2) rfl)) e0 (g := (mkF m 0 #[.val (.int p1)] [])) rfl (hb hby d1_0) (by decide) (by decide)
  obtain ⟨o, g6⟩ : ∃ z, z = h0.size := ⟨_, rfl⟩
  rw [← g6] at A6 D6 st6
  refine Go.st st6 ?_
  have F_status : Fld Z h6 o "com/example/tideline/tideline/server/Response" "status" "I" (.int (0 : Int32)) := D6 (Or.inr (hw _ (List.mem_of_getElem? (i := 14) rfl))) (ty := .int) (by decide)
  have F_contentType : Fld Z h6 o "com/example/tideline/tideline/server/Response" "contentType" "Ljava/lang/String;" .null := D6 (Or.inr (hw _ (List.mem_of_getElem? (i := 16) rfl))) (ty := (.object "java/lang/String")) (by decide)
  have F_header : Fld Z h6 o "com/example/tideline/tideline/server/Response" "header" "Ljava/lang/String;" .null := D6 (Or.inr (hw _ (List.mem_of_getElem? (i := 18) rfl))) (ty := (.object "java/lang/String")) (by decide)
  have F_body : Fld Z h6 o "com/example/tideline/tideline/server/Response" "body" "[B" .null := D6 (Or.inr (hw _ (List.mem_of_getElem? (i := 20) rfl))) (ty := (.array .byte)) (by decide)
  have go : n0 ≤ o := by rw [g6]; exact Z0
  show Go p e s below ({ frames := 2, cells := 2, slots := 5, locals := 29 } : Room).cells ({ frames := 2, cells := 2, slots := 5, locals := 29 } : Room).slots (Q1 Z p1 h0 n0) T6 (mkF m 3 #[.val (.int p1)] [(.ref o)])
  refine Go.st (fun _ k => XS.dup X6.here hx rfl (hb hby d1_3) rfl rfl k) ?_
  show Go p e s below ({ frames := 2, cells := 2, slots := 5, locals := 29 } : Room).cells ({ frames := 2, cells := 2, slots := 5, locals := 29 } : Room).slots (Q1 Z p1 h0 n0) T6 (mkF m 4 #[.val (.int p1)] [(.ref o), (.ref o)])
  refine Go.st (fun _ k => XS.iloadN X6.here hx rfl (hb hby d1_4) rfl k) ?_
  show Go p e s below ({ frames := 2, cells := 2, slots := 5, locals := 29 } : Room).cells ({ frames := 2, cells := 2, slots := 5, locals := 29 } : Room).slots (Q1 Z p1 h0 n0) T6 (mkF m 5 #[.val (.int p1)] [(.int p1), (.ref o), (.ref o)])
  refine Go.st (fun _ k => XS.aconstNull X6.here hx rfl (hb hby d1_5) k) ?_
  show Go p e s below ({ frames := 2, cells := 2, slots := 5, locals := 29 } : Room).cells ({ frames := 2, cells := 2, slots := 5, locals := 29 } : Room).slots (Q1 Z p1 h0 n0) T6 (mkF m 6 #[.val (.int p1)] [.null, (.int p1), (.ref o), (.ref o)])
  refine Go.st (fun _ k => XS.aconstNull X6.here hx rfl (hb hby d1_6) k) ?_
  show Go p e s below ({ frames := 2, cells := 2, slots := 5, locals := 29 } : Room).cells ({ frames := 2, cells := 2, slots := 5, locals := 29 } : Room).slots (Q1 Z p1 h0 n0) T6 (mkF m 7 #[.val (.int p1)] [.null, .null, (.int p1), (.ref o), (.ref o)])
  refine Go.st (fun _ k => XS.iconst X6.here hx rfl (hb hby d1_7) k) ?_
  show Go p e s below ({ frames := 2, cells := 2, slots := 5, locals := 29 } : Room).cells ({ frames := 2, cells := 2, slots := 5, locals := 29 } : Room).slots (Q1 Z p1 h0 n0) T6 (mkF m 8 #[.val (.int p1)] [(.int (0 : Int32)), .null, .null, (.int p1), (.ref o), (.ref o)])
  obtain ⟨T7, h7, k7, X7, e7, E7, A7, st7⟩ := newP X6 hx hZ (hw _ (List.mem_of_getElem? (i := 6) rfl)) e6 (g := (mkF m 8 #[.val (.int p1)] [(.int (0 : Int32)), .null, .null, (.int p1), (.ref o), (.ref o)])) rfl (hb hby d1_8) rfl (by decide) (cap := 0) (by decide) (by decide) (by decide) (by decide)
  obtain ⟨ar, g7⟩ : ∃ z, z = h6.size := ⟨_, rfl⟩
  rw [← g7] at A7 st7
  refine Go.st st7 ?_
  show Go p e s below ({ frames := 2, cells := 2, slots := 5, locals := 29 } : Room).cells ({ frames := 2, cells := 2, slots := 5, locals := 29 } : Room).slots (Q1 Z p1 h0 n0) T7 (mkF m 10 #[.val (.int p1)] [(.ref ar), .null, .null, (.int p1), (.ref o), (.ref o)])
  obtain ⟨_, _, ⟨T8, L8, k8, n8⟩, -, X8, ⟨Lc8, hQ8, l8, y8, z8⟩, st8⟩ := X7.specialBack hx (y := (⟨"com/example/tideline/tideline/server/Response", "<init>", "(ILjava/lang/String;Ljava/lang/String;[B)V"⟩ : MethodName)) rfl hown (mvT hZ (hw _ (List.mem_of_getElem? (i := 7) rfl))) (mvT hZ (hw _ (List.mem_of_getElem? (i := 8) rfl))) (mvT hZ (hw _ (List.mem_of_getElem? (i := 9) rfl))) (by decide) (backOf (W := 1) (rm2 l Z a0 hw [] o p1 ar h7 n0 (Nat.le_trans (Nat.le_trans Z0 E6.1) E7.1) (A6.ext E7) (F_status.ext E7) (F_contentType.ext E7) (F_header.ext E7) (F_body.ext E7) go) hZ (hw _ (List.mem_of_getElem? (i := 9) rfl)) (hw _ (List.mem_of_getElem? (i := 2) rfl)) (by decide) (by decide)) (g := (mkF m 10 #[.val (.int p1)] [(.ref ar), .null, .null, (.int p1), (.ref o), (.ref o)])) rfl (by rw [hml]; rfl) (Steps.refl _) (a := o) (argsL := [(.int p1), .null, .null, (.ref ar)]) (rest := [(.ref o)]) (lenOf pd_3 rfl) rfl (by show 2 * 0 + _ ≤ _; exact Nat.le_of_eq rfl) (hb hby d1_10) (fun _ _ => ⟨rfl, e7, (by decide : ((0 + 1) + 1) + 0 ≤ _), (by decide : (0 + 5) + 0 ≤ _)⟩)
  dsimp only [Pt.U, Pt.locs, Pt.cells, Pt.slots] at X8 l8 y8 z8 st8 hQ8
  subst l8 y8 z8
  obtain ⟨rfl, hN8, Kc, Ec, Fc⟩ := hQ8
  have N8 := Fr.app N0 hN8
  refine Go.tr st8 ?_
  have KK : Keep h0 T8.heap [] := (((Keep.refl h0 []).ext E6).ext E7).trans Kc (fun x hx => Or.inr (by cases List.mem_singleton.mp hx; exact Nat.le_of_eq g6.symm))
  show Go p e s below ({ frames := 2, cells := 2, slots := 5, locals := 29 } : Room).cells ({ frames := 2, cells := 2, slots := 5, locals := 29 } : Room).slots (Q1 Z p1 h0 n0) T8 (mkF m 13 #[.val (.int p1)] [(.ref o)])
  exact Go.retA X8 hx hlk Bd.returns rfl (hb hby d1_13) (by decide) (by decide) ⟨_, rfl, N8, KK, Ec, Fc⟩
def Q4 (z : Int32) (h0 : Heap) (n0 : Nat) (v : Option Value) (h : Heap) (L : List Loc) : Prop := v = some (.int z) ∧ Fr n0 L ∧ h = h0
set_option maxRecDepth 65536 in
set_option maxHeartbeats 40000000 in
theorem rm4 (l : Launch) (Z : State) (a0 : Array Value) (hw : ∀ d ∈ tables_1, d.before a0 Z = true) (ws : List Jvm.Cond) (o : Addr) (z : Int32) (h0 : Heap) (n0 : Nat) (Z0 : n0 ≤ h0.size) (F : Fld Z h0 o "com/example/tideline/tideline/server/Response" "status" "I" (.int z)) :
    MetFree l (⟨"com/example/tideline/tideline/server/Response", "status", "()I"⟩ : MethodName) (head1 (Jvm.Cond.code (⟨"com/example/tideline/tideline/server/Response", "status", "()I"⟩ : MethodName) prog_42_method_6_code 1 (some .int) :: ws) ({ frames := 0, cells := 0, slots := 0, locals := 0 } : Room)) (fun a_ U_ => a_ = #[(.ref o)] ∧ Z.Warmed39 U_.vm ∧ U_.heap = h0) (fun _ _ _ _ _ => True) (fun _ U_ o_ W_ => ∃ v_ L_, o_ = .returned v_ ∧ (Q4 z h0 n0) v_ W_.heap L_ ∧ FrameEnd U_ o_ W_ L_ ({ frames := 0, cells := 0, slots := 0, locals := 0 } : Room).cells ({ frames := 0, cells := 0, slots := 0, locals := 0 } : Room).slots) := by
  refine MetFree.of_bodySF (plainFor_of_name pn_com_example_tideline_tideline_server_Response) hisR ?_
  intro p e s m args below meth c s₁ Bd hml0 hP hK
  obtain ⟨rfl, hZ, hh⟩ := hP
  have hx := Bd.exec
  have hby := Bd.bytes
  have hml : c.maxLocals = 1 := hml0
  have hown : s.vm.findClass "com/example/tideline/tideline/server/Response" = some m.cls := findClass_of_methodNamed Bd.named
  have hnm := (name_of_methodNamed Bd.named Bd.method).1
  have hlk : meth.locks = false := BodyLoose.notSynchronized Bd
  have X0 : Stand p l e ({ frames := 0, cells := 0, slots := 0, locals := 0 } : Room) s m #[(.ref o)] below meth c s₁ [] 0 0 := Stand.of_body Bd
  have e0 : s₁.heap = h0 := by rw [← hh, Bd.state]; rfl
  have N0 := Fr.nil n0
  refine Go.enter (ef_4 m o) ?_
  show Go p e s below ({ frames := 0, cells := 0, slots := 0, locals := 0 } : Room).cells ({ frames := 0, cells := 0, slots := 0, locals := 0 } : Room).slots (Q4 z h0 n0) s₁ (mkF m 0 #[.val (.ref o)] [])
  refine Go.st (fun _ k => XS.aloadN X0.here hx rfl (hb hby d4_0) rfl rfl k) ?_
  show Go p e s below ({ frames := 0, cells := 0, slots := 0, locals := 0 } : Room).cells ({ frames := 0, cells := 0, slots := 0, locals := 0 } : Room).slots (Q4 z h0 n0) s₁ (mkF m 1 #[.val (.ref o)] [(.ref o)])
  obtain ⟨T9, X9, e9, st9⟩ := getF X0 hx hZ hown (host := "") (Or.inl (hw _ (List.mem_of_getElem? (i := 13) rfl))) Via.refl e0 F (g := (mkF m 1 #[.val (.ref o)] [(.ref o)])) rfl rfl (hb hby d4_1)
  refine Go.st st9 ?_
  show Go p e s below ({ frames := 0, cells := 0, slots := 0, locals := 0 } : Room).cells ({ frames := 0, cells := 0, slots := 0, locals := 0 } : Room).slots (Q4 z h0 n0) T9 (mkF m 4 #[.val (.ref o)] [(.int z)])
  exact Go.retI X9 hx hlk Bd.returns (hb hby d4_4) (by decide) (by decide) ⟨rfl, N0, e9⟩
def Q0 (h0 : Heap) (n0 : Nat) (v : Option Value) (h : Heap) (L : List Loc) : Prop := v = some (.int 1) ∧ Fr n0 L
set_option maxRecDepth 65536 in
set_option maxHeartbeats 40000000 in
theorem rm0 (l : Launch) (Z : State) (a0 : Array Value) (hw : ∀ d ∈ tables_1, d.before a0 Z = true) (ws : List Jvm.Cond) (p1 : Int32) (p2 : Int32) (h0 : Heap) (n0 : Nat) (Z0 : n0 ≤ h0.size)  :
    MetFree l x (head1 (Jvm.Cond.code x code maxLocals ret :: ws) room_1) (fun a_ U_ => a_ = #[(.int p1), (.int p2)] ∧ Z.Warmed39 U_.vm ∧ U_.heap = h0) (fun _ _ _ _ _ => True) (fun _ U_ o_ W_ => ∃ v_ L_, o_ = .returned v_ ∧ (Q0 h0 n0) v_ W_.heap L_ ∧ FrameEnd U_ o_ W_ L_ room_1.cells room_1.slots) := by
  refine MetFree.of_bodySF (plainFor_of_name pn_com_example_tideline_tideline_server_ResponseEmptyPinLaw) hisR ?_
  intro p e s m args below meth c s₁ Bd hml0 hP hK
  obtain ⟨rfl, hZ, hh⟩ := hP
  have hx := Bd.exec
  have hby := Bd.bytes
  have hml : c.maxLocals = 4 := hml0
  have hown : s.vm.findClass "com/example/tideline/tideline/server/ResponseEmptyPinLaw" = some m.cls := findClass_of_methodNamed Bd.named
  have hnm := (name_of_methodNamed Bd.named Bd.method).1
  have hlk : meth.locks = false := BodyLoose.notSynchronized Bd
  have X0 : Stand p l e room_1 s m #[(.int p1), (.int p2)] below meth c s₁ [] 0 0 := Stand.of_body Bd
  have e0 : s₁.heap = h0 := by rw [← hh, Bd.state]; rfl
  have N0 := Fr.nil n0
  refine Go.enter (ef_0 m p1 p2) ?_
  show Go p e s below room_1.cells room_1.slots (Q0 h0 n0) s₁ (mkF m 0 #[.val (.int p1), .val (.int p2), .unset, .unset] [])
  refine Go.st (fun _ k => XS.iloadN X0.here hx rfl (hb hby at_0) rfl k) ?_
  show Go p e s below room_1.cells room_1.slots (Q0 h0 n0) s₁ (mkF m 1 #[.val (.int p1), .val (.int p2), .unset, .unset] [(.int p1)])
  obtain ⟨_, _, ⟨T10, L10, k10, n10⟩, -, X10, ⟨Lc10, hQ10, l10, y10, z10⟩, st10⟩ := Jvm.LawKit.callS X0 hx (y := (⟨"com/example/tideline/tideline/server/Response", "empty", "(I)Lcom/example/tideline/tideline/server/Response;"⟩ : MethodName)) hown (mvT hZ (hw _ (List.mem_of_getElem? (i := 0) rfl))) (mvT hZ (hw _ (List.mem_of_getElem? (i := 1) rfl))) (mvT hZ (hw _ (List.mem_of_getElem? (i := 2) rfl))) (mvT hZ (hw _ (List.mem_of_getElem? (i := 3) rfl))) (by decide) (backOf (W := 0) (rm1 l Z a0 hw [] p1 h0 n0 Z0) hZ (hw _ (List.mem_of_getElem? (i := 3) rfl)) (hw _ (List.mem_of_getElem? (i := 2) rfl)) (by decide) (by decide)) (g := (mkF m 1 #[.val (.int p1), .val (.int p2), .unset, .unset] [(.int p1)])) rfl (by rw [hml]; rfl) (argsL := [(.int p1)]) (rest := []) (lenOf pd_2 rfl) rfl (by show 2 * 0 + _ ≤ _; exact Nat.le_of_eq rfl) (hb hby at_1) (fun _ _ => ⟨rfl, e0, (by decide : 0 + 2 ≤ _), (by decide : 0 + 5 ≤ _)⟩)
  dsimp only [Pt.U, Pt.locs, Pt.cells, Pt.slots] at X10 l10 y10 z10 st10 hQ10
  subst l10 y10 z10
  obtain ⟨ra, rfl, hN10, Ka, Ea, Fa⟩ := hQ10
  have N10 := Fr.app N0 hN10
  refine Go.st st10 ?_
  have Za : n0 ≤ T10.heap.size := Nat.le_trans Z0 Ka.1
  show Go p e s below room_1.cells room_1.slots (Q0 h0 n0) T10 (mkF m 4 #[.val (.int p1), .val (.int p2), .unset, .unset] [(.ref ra)])
  refine Go.st (fun _ k => XS.astoreN X10.here hx rfl (hb hby at_4) rfl rfl (l' := #[.val (.int p1), .val (.int p2), .val (.ref ra), .unset]) rfl k) ?_
  show Go p e s below room_1.cells room_1.slots (Q0 h0 n0) T10 (mkF m 5 #[.val (.int p1), .val (.int p2), .val (.ref ra), .unset] [])
  refine Go.st (fun _ k => XS.iloadN X10.here hx rfl (hb hby at_5) rfl k) ?_
  show Go p e s below room_1.cells room_1.slots (Q0 h0 n0) T10 (mkF m 6 #[.val (.int p1), .val (.int p2), .val (.ref ra), .unset] [(.int p2)])
  obtain ⟨_, _, ⟨T11, L11, k11, n11⟩, -, X11, ⟨Lc11, hQ11, l11, y11, z11⟩, st11⟩ := Jvm.LawKit.callS X10 hx (y := (⟨"com/example/tideline/tideline/server/Response", "empty", "(I)Lcom/example/tideline/tideline/server/Response;"⟩ : MethodName)) hown (mvT hZ (hw _ (List.mem_of_getElem? (i := 0) rfl))) (mvT hZ (hw _ (List.mem_of_getElem? (i := 1) rfl))) (mvT hZ (hw _ (List.mem_of_getElem? (i := 2) rfl))) (mvT hZ (hw _ (List.mem_of_getElem? (i := 3) rfl))) (by decide) (backOf (W := 0) (rm1 l Z a0 hw [] p2 T10.heap n0 Za) hZ (hw _ (List.mem_of_getElem? (i := 3) rfl)) (hw _ (List.mem_of_getElem? (i := 2) rfl)) (by decide) (by decide)) (g := (mkF m 6 #[.val (.int p1), .val (.int p2), .val (.ref ra), .unset] [(.int p2)])) rfl (by rw [hml]; rfl) (argsL := [(.int p2)]) (rest := []) (lenOf pd_2 rfl) rfl (by show 2 * 0 + _ ≤ _; exact Nat.le_of_eq rfl) (hb hby at_6) (fun _ _ => ⟨rfl, rfl, (by decide : (0 + 2) + 2 ≤ _), (by decide : (0 + 5) + 5 ≤ _)⟩)
  dsimp only [Pt.U, Pt.locs, Pt.cells, Pt.slots] at X11 l11 y11 z11 st11 hQ11
  subst l11 y11 z11
  obtain ⟨rb, rfl, hN11, Kb, Eb, Fb⟩ := hQ11
  have N11 := Fr.app N10 hN11
  refine Go.st st11 ?_
  have Zb : n0 ≤ T11.heap.size := Nat.le_trans Za Kb.1
  have Fa' := Fa.keep Kb (by simp)
  have Ea' := Ea.keep Kb
  show Go p e s below room_1.cells room_1.slots (Q0 h0 n0) T11 (mkF m 9 #[.val (.int p1), .val (.int p2), .val (.ref ra), .unset] [(.ref rb)])
  refine Go.st (fun _ k => XS.astoreN X11.here hx rfl (hb hby at_9) rfl rfl (l' := #[.val (.int p1), .val (.int p2), .val (.ref ra), .val (.ref rb)]) rfl k) ?_
  show Go p e s below room_1.cells room_1.slots (Q0 h0 n0) T11 (mkF m 10 #[.val (.int p1), .val (.int p2), .val (.ref ra), .val (.ref rb)] [])
  refine Go.st (fun _ k => XS.aloadN X11.here hx rfl (hb hby at_10) rfl rfl k) ?_
  show Go p e s below room_1.cells room_1.slots (Q0 h0 n0) T11 (mkF m 11 #[.val (.int p1), .val (.int p2), .val (.ref ra), .val (.ref rb)] [(.ref ra)])
  obtain ⟨cq12, kq12, q12a, q12b, q12c⟩ := isOf hZ rfl Ea'
  obtain ⟨_, _, ⟨T12, L12, k12, n12⟩, -, X12, ⟨Lc12, hQ12, l12, y12, z12⟩, st12⟩ := X11.virtualBack hx (y := (⟨"com/example/tideline/tideline/server/Response", "status", "()I"⟩ : MethodName)) (z := (⟨"com/example/tideline/tideline/server/Response", "status", "()I"⟩ : MethodName)) hown (mvT hZ (hw _ (List.mem_of_getElem? (i := 21) rfl))) (mvT hZ (hw _ (List.mem_of_getElem? (i := 22) rfl))) (notFace_of_selects (args := #[]) (mvT hZ (hw _ (List.mem_of_getElem? (i := 24) rfl)))) (mvT hZ (hw _ (List.mem_of_getElem? (i := 24) rfl))) (mvT hZ (hw _ (List.mem_of_getElem? (i := 23) rfl))) (by decide) (backOf (W := 0) (rm4 l Z a0 hw [] ra p1 T11.heap n0 Zb Fa') hZ (hw _ (List.mem_of_getElem? (i := 25) rfl)) (hw _ (List.mem_of_getElem? (i := 2) rfl)) (by decide) (by decide)) q12a q12c (g := (mkF m 11 #[.val (.int p1), .val (.int p2), .val (.ref ra), .val (.ref rb)] [(.ref ra)])) rfl (by rw [hml]; rfl) (Steps.refl _) (argsL := []) (rest := []) (lenOf pd_0 rfl) rfl (by show 2 * 0 + _ ≤ _; exact Nat.le_of_eq rfl) (hb hby at_11) (fun _ _ => ⟨rfl, rfl, (by decide : ((0 + 2) + 2) + 0 ≤ _), (by decide : ((0 + 5) + 5) + 0 ≤ _)⟩)
  dsimp only [Pt.U, Pt.locs, Pt.cells, Pt.slots] at X12 l12 y12 z12 st12 hQ12
  subst l12 y12 z12
  obtain ⟨rfl, hN12, ec⟩ := hQ12
  have N12 := Fr.app N11 hN12
  refine Go.tr st12 ?_
  show Go p e s below room_1.cells room_1.slots (Q0 h0 n0) T12 (mkF m 14 #[.val (.int p1), .val (.int p2), .val (.ref ra), .val (.ref rb)] [(.int p1)])
  refine Go.st (fun _ k => XS.iloadN X12.here hx rfl (hb hby at_14) rfl k) ?_
  show Go p e s below room_1.cells room_1.slots (Q0 h0 n0) T12 (mkF m 15 #[.val (.int p1), .val (.int p2), .val (.ref ra), .val (.ref rb)] [(.int p1), (.int p1)])
  refine Go.st (fun _ k => XS.icmpNo X12.here hx rfl (hb hby at_15) rfl (teq rfl).2 k) ?_
  show Go p e s below room_1.cells room_1.slots (Q0 h0 n0) T12 (mkF m 18 #[.val (.int p1), .val (.int p2), .val (.ref ra), .val (.ref rb)] [])
  refine Go.st (fun _ k => XS.aloadN X12.here hx rfl (hb hby at_18) rfl rfl k) ?_
  show Go p e s below room_1.cells room_1.slots (Q0 h0 n0) T12 (mkF m 19 #[.val (.int p1), .val (.int p2), .val (.ref ra), .val (.ref rb)] [(.ref rb)])
  obtain ⟨cq13, kq13, q13a, q13b, q13c⟩ := isOf hZ rfl (by rw [ec]; exact Eb : Exa Z T12.heap rb "com/example/tideline/tideline/server/Response")
  obtain ⟨_, _, ⟨T13, L13, k13, n13⟩, -, X13, ⟨Lc13, hQ13, l13, y13, z13⟩, st13⟩ := X12.virtualBack hx (y := (⟨"com/example/tideline/tideline/server/Response", "status", "()I"⟩ : MethodName)) (z := (⟨"com/example/tideline/tideline/server/Response", "status", "()I"⟩ : MethodName)) hown (mvT hZ (hw _ (List.mem_of_getElem? (i := 21) rfl))) (mvT hZ (hw _ (List.mem_of_getElem? (i := 22) rfl))) (notFace_of_selects (args := #[]) (mvT hZ (hw _ (List.mem_of_getElem? (i := 24) rfl)))) (mvT hZ (hw _ (List.mem_of_getElem? (i := 24) rfl))) (mvT hZ (hw _ (List.mem_of_getElem? (i := 23) rfl))) (by decide) (backOf (W := 0) (rm4 l Z a0 hw [] rb p2 T12.heap n0 (by rw [ec]; exact Zb) (by rw [ec]; exact Fb)) hZ (hw _ (List.mem_of_getElem? (i := 25) rfl)) (hw _ (List.mem_of_getElem? (i := 2) rfl)) (by decide) (by decide)) q13a q13c (g := (mkF m 19 #[.val (.int p1), .val (.int p2), .val (.ref ra), .val (.ref rb)] [(.ref rb)])) rfl (by rw [hml]; rfl) (Steps.refl _) (argsL := []) (rest := []) (lenOf pd_0 rfl) rfl (by show 2 * 0 + _ ≤ _; exact Nat.le_of_eq rfl) (hb hby at_19) (fun _ _ => ⟨rfl, rfl, (by decide : ((0 + 2) + 2) + 0 ≤ _), (by decide : ((0 + 5) + 5) + 0 ≤ _)⟩)
  dsimp only [Pt.U, Pt.locs, Pt.cells, Pt.slots] at X13 l13 y13 z13 st13 hQ13
  subst l13 y13 z13
  obtain ⟨rfl, hN13, ed⟩ := hQ13
  have N13 := Fr.app N12 hN13
  refine Go.tr st13 ?_
  show Go p e s below room_1.cells room_1.slots (Q0 h0 n0) T13 (mkF m 22 #[.val (.int p1), .val (.int p2), .val (.ref ra), .val (.ref rb)] [(.int p2)])
  refine Go.st (fun _ k => XS.iloadN X13.here hx rfl (hb hby at_22) rfl k) ?_
  show Go p e s below room_1.cells room_1.slots (Q0 h0 n0) T13 (mkF m 23 #[.val (.int p1), .val (.int p2), .val (.ref ra), .val (.ref rb)] [(.int p2), (.int p2)])
  refine Go.st (fun _ k => XS.icmpNo X13.here hx rfl (hb hby at_23) rfl (teq rfl).2 k) ?_
  show Go p e s below room_1.cells room_1.slots (Q0 h0 n0) T13 (mkF m 26 #[.val (.int p1), .val (.int p2), .val (.ref ra), .val (.ref rb)] [])
  refine Go.st (fun _ k => XS.iconst X13.here hx rfl (hb hby at_26) k) ?_
  show Go p e s below room_1.cells room_1.slots (Q0 h0 n0) T13 (mkF m 27 #[.val (.int p1), .val (.int p2), .val (.ref ra), .val (.ref rb)] [(.int (1 : Int32))])
  refine Go.st (fun _ k => XS.goto X13.here hx rfl (pc0 := 27) (pc' := 31) rfl (hb hby at_27) (by decide) (by decide) k) ?_
  show Go p e s below room_1.cells room_1.slots (Q0 h0 n0) T13 (mkF m 31 #[.val (.int p1), .val (.int p2), .val (.ref ra), .val (.ref rb)] [(.int (1 : Int32))])
  exact Go.retN X13 hx hlk (t := .boolean) Bd.returns (by simp) (hb hby at_31) (by decide) (by decide) ⟨rfl, N13⟩
set_option maxRecDepth 65536 in
set_option maxHeartbeats 40000000 in
theorem comes_1 {Post : Tables → Env → Array Value → State → Outcome → State → Prop} (hpost : ∀ tb e args s v u, (limb_1_1.after args s (.returned v) u = true ∧ limb_1_2.after args s (.returned v) u = true ∧ True) → FrameEnd s (.returned v) u (Jvm.fieldLocs frame_1_writes args s ++ Jvm.arrayLocs frame_1_arrays args s ++ Jvm.staticLocs frame_1_statics s) 16 128 → Post tb e args s (.returned v) u) :
    ArmFor flags0 classFile x code maxLocals ret World_1 tables_1 room_1 Calls_1 rest_1 Pre_1 Post := by
  intro l hfl _ _ p e ha hc hk s m args below hf hA hF happ hP
  obtain ⟨hcalls, hrest, hpre⟩ := hP
  obtain ⟨-, -, -, hnamed, -, -, -, hat⟩ := (Spec.applies_iff hf).mp happ
  obtain ⟨hg, hn⟩ := and_e (Cond.before_iff.mp (show (Jvm.Cond.and given_1 narrow_1).before args s = true from hpre))
  obtain ⟨hcnt, hk0⟩ := and_e hg
  obtain ⟨ha0, hk1⟩ := and_e hk0
  obtain ⟨w0, w1, rfl⟩ : ∃ w0 w1 : Value, args = #[w0, w1] := by
    have hs : args.size = 2 := by simpa [Cond.value, given_1] using hcnt
    obtain ⟨L⟩ := args
    match L, hs with
    | [w0, w1], _ => exact ⟨w0, w1, rfl⟩
  have hw := fun d (hd : d ∈ tables_1) => atoms_spec (ws := Jvm.Cond.code x code maxLocals ret :: tables_1) hat d (List.mem_cons_of_mem _ hd)
  obtain ⟨i0, ei0⟩ := is_v ha0
  obtain rfl : w0 = (.int i0) := Option.some.inj ei0
  obtain ⟨i1, ei1⟩ := is_v hk1
  obtain rfl : w1 = (.int i1) := Option.some.inj ei1
  obtain ⟨n, o, h1, h2, h3, _, L, rfl, ⟨rfl, N⟩, hq⟩ := rm0 l s _ hw tables_1 i0 i1 s.heap s.heap.size (Nat.le_refl _) p e ha hc hk s m _ below hf ((Spec.applies_iff_loose hf).mp happ).1 ⟨rfl, State.Warmed39.refl s, rfl⟩ trivial
  refine ⟨n, _, h1, h2, h3, hpost _ _ _ _ _ _ ⟨Cond.after_iff.mpr rfl, Cond.after_iff.mpr (eq_i res_at (Term.int_eval (1)) rfl), trivial⟩ ⟨hq.1, hq.2.1, (hq.2.2.sift fun y hy => Or.inr (N y hy)).mono (by decide) (by decide)⟩⟩
theorem main_1_1 : Claimed_1_1 := comes_1 fun _ _ _ _ _ _ h hF => ⟨h.1, hF⟩
theorem main_1_2 : Claimed_1_2 := comes_1 fun _ _ _ _ _ _ h hF => ⟨h.2.1, hF⟩
end Jvm.Pilot.@@N@@
namespace Jvm.Pilot.@@N@@
open Jvm Jvm.ClassFile Sem Op Lib Jvm.Free Jvm.Stand Jvm.Pilot.@@N@@.Jvm.D
/-! MADE BY PROGRAM (witnessworld.py) out of the Statement's table words and the real class files: 9 classes; the members and pool entries that the words name. The judged class is class 1, her method 1. -/
namespace start1
open Jvm.ClassFile
def u (s : String) : CpInfo := .utf8 (stringToUtf16 s)
/-- a pool by its gaps: so many unusable entries, then the entry; so many at the end -/
def gap : Nat → List CpInfo → List CpInfo
  | 0, r => r
  | n + 1, r => .unusable :: gap n r
def poolList (es : List (Nat × CpInfo)) (last : Nat) : List CpInfo := es.foldr (fun e r => gap e.1 (e.2 :: r)) (gap last [])
def pool (es : List (Nat × CpInfo)) (last : Nat) : Array CpInfo := ⟨poolList es last⟩
def fileOf (pool : Array CpInfo) (this : Nat) (attrs : Array Attribute := #[]) (ms : Array MethodInfo := #[]) (fl : Nat := 33) (sup : Nat := 0) (ifs : Array Nat := #[]) (fds : Array FieldInfo := #[]) : ClassFile where
  minorVersion := 0
  majorVersion := 65
  constantPool := pool
  accessFlags := fl
  thisClass := this
  superClass := sup
  interfaces := ifs
  fields := fds
  methods := ms
  attributes := attrs
def plain (name : String) (sup : Option ClassId) : Class where
  name := name
  kind := .ordinary
  loader := none
  accessFlags := 33
  super := sup
  interfaces := #[]
  cf := none
  fields := #[]
  methods := #[]
  instanceTypes := #[]
  staticTypes := #[]
  resolved := #[]
  callSites := []
  init := .initialized
  statics := none
  mirror := none

def pool0 : Array CpInfo := pool [(5, u "<init>"), (0, u "()V"), (1, .class_ 10), (1, u "java/lang/Object")] 113

def k0c0 : Code := { maxStack := 0, maxLocals := 1, code := object_method_1_code, exceptionTable := #[], attributes := #[] }
def k0m0 : Method := { name := "<init>", desc := "()V", sig := { parameters := [], returnType := none }, accessFlags := 1, code := some k0c0 }
/-- java/lang/Object -/
def k0 : Class := { plain "java/lang/Object" none with
  accessFlags := 33
  interfaces := #[]
  cf := some (fileOf pool0 8 #[] #[{ accessFlags := 1, nameIndex := 5, descriptorIndex := 6, attributes := #[] }] 33 0 #[] #[])
  fields := #[]
  methods := #[k0m0]
  instanceTypes := #[]
  staticTypes := #[]
  resolved := Array.replicate 124 none
  statics := none }

def pool1 : Array CpInfo := pool [(2, .class_ 4), (1, u "java/lang/Object"), (0, u "<init>"), (0, u "()V"), (0, .methodref 8 9), (0, .class_ 10), (0, .nameAndType 11 12), (0, u "com/example/tideline/tideline/server/Response"), (0, u "empty"), (0, u "(I)Lcom/example/tideline/tideline/server/Response;"), (0, .methodref 8 14), (0, .nameAndType 15 16), (0, u "status"), (0, u "()I"), (0, .class_ 18), (0, u "com/example/tideline/tideline/server/ResponseEmptyPinLaw"), (2, u "law"), (0, u "(II)Z")] 3

def k1m0 : Method := { name := "<init>", desc := "()V", sig := { parameters := [], returnType := none }, accessFlags := 2, code := none }
def k1c1 : Code := { maxStack := 2, maxLocals := 4, code := code, exceptionTable := #[], attributes := #[] }
def k1m1 : Method := { name := "law", desc := "(II)Z", sig := { parameters := [.int, .int], returnType := some .boolean }, accessFlags := 9, code := some k1c1 }
/-- com/example/tideline/tideline/server/ResponseEmptyPinLaw -/
def k1 : Class := { plain "com/example/tideline/tideline/server/ResponseEmptyPinLaw" (some 0) with
  accessFlags := 49
  interfaces := #[]
  cf := some (fileOf pool1 17 #[] #[{ accessFlags := 2, nameIndex := 5, descriptorIndex := 6, attributes := #[] }, { accessFlags := 9, nameIndex := 21, descriptorIndex := 22, attributes := #[] }] 49 2 #[] #[])
  fields := #[]
  methods := #[k1m0, k1m1]
  instanceTypes := #[]
  staticTypes := #[]
  resolved := Array.replicate 26 none
  statics := none }

def pool2 : Array CpInfo := pool [(1, .methodref 2 3), (0, .class_ 4), (0, .nameAndType 5 6), (0, u "java/lang/Object"), (0, u "<init>"), (0, u "()V"), (0, .fieldref 8 9), (0, .class_ 10), (0, .nameAndType 11 12), (0, u "com/example/tideline/tideline/server/Response"), (0, u "status"), (0, u "I"), (0, .fieldref 8 14), (0, .nameAndType 15 16), (0, u "contentType"), (0, u "Ljava/lang/String;"), (0, .fieldref 8 18), (0, .nameAndType 19 16), (0, u "header"), (0, .fieldref 8 21), (0, .nameAndType 22 23), (0, u "body"), (0, u "[B"), (0, .methodref 8 25), (0, .nameAndType 5 26), (0, u "(ILjava/lang/String;Ljava/lang/String;[B)V"), (29, u "()I"), (12, u "date"), (9, u "written"), (0, u "Lcom/example/tideline/tideline/server/Response$Written;"), (1, .class_ 83), (0, u "com/example/tideline/tideline/server/Response$Written"), (42, .class_ 128), (1, u "com/example/tideline/tideline/server/Response$Date"), (34, u "Lcom/example/tideline/tideline/server/Response$Date;"), (5, u "DATE"), (0, u "Ljava/time/format/DateTimeFormatter;"), (57, u "INTERNAL_ERROR"), (0, u "Lcom/example/tideline/tideline/server/Response;"), (18, u "empty"), (0, u "(I)Lcom/example/tideline/tideline/server/Response;")] 29

def k2c0 : Code := { maxStack := 2, maxLocals := 5, code := prog_42_method_1_code, exceptionTable := #[], attributes := #[] }
def k2m0 : Method := { name := "<init>", desc := "(ILjava/lang/String;Ljava/lang/String;[B)V", sig := { parameters := [.int, (.object "java/lang/String"), (.object "java/lang/String"), (.array .byte)], returnType := none }, accessFlags := 2, code := some k2c0 }
def k2c1 : Code := { maxStack := 6, maxLocals := 1, code := prog_42_method_2_code, exceptionTable := #[], attributes := #[] }
def k2m1 : Method := { name := "empty", desc := "(I)Lcom/example/tideline/tideline/server/Response;", sig := { parameters := [.int], returnType := some (.object "com/example/tideline/tideline/server/Response") }, accessFlags := 8, code := some k2c1 }
def k2c2 : Code := { maxStack := 1, maxLocals := 1, code := prog_42_method_6_code, exceptionTable := #[], attributes := #[] }
def k2m2 : Method := { name := "status", desc := "()I", sig := { parameters := [], returnType := some .int }, accessFlags := 0, code := some k2c2 }
/-- com/example/tideline/tideline/server/Response -/
def k2 : Class := { plain "com/example/tideline/tideline/server/Response" (some 0) with
  accessFlags := 48
  interfaces := #[]
  cf := some (fileOf pool2 8 #[.nestMembers #[82, 126]] #[{ accessFlags := 2, nameIndex := 5, descriptorIndex := 26, attributes := #[] }, { accessFlags := 8, nameIndex := 248, descriptorIndex := 249, attributes := #[] }, { accessFlags := 0, nameIndex := 11, descriptorIndex := 56, attributes := #[] }] 48 2 #[] #[{ accessFlags := 24, nameIndex := 228, descriptorIndex := 229, attributes := #[] }, { accessFlags := 26, nameIndex := 169, descriptorIndex := 170, attributes := #[] }, { accessFlags := 74, nameIndex := 69, descriptorIndex := 163, attributes := #[] }, { accessFlags := 18, nameIndex := 11, descriptorIndex := 12, attributes := #[] }, { accessFlags := 18, nameIndex := 15, descriptorIndex := 16, attributes := #[] }, { accessFlags := 18, nameIndex := 19, descriptorIndex := 16, attributes := #[] }, { accessFlags := 18, nameIndex := 22, descriptorIndex := 23, attributes := #[] }, { accessFlags := 66, nameIndex := 79, descriptorIndex := 80, attributes := #[] }])
  fields := #[{ name := "INTERNAL_ERROR", type := (.object "com/example/tideline/tideline/server/Response"), accessFlags := 24, slot := 0, constantValue := 0 }, { name := "DATE", type := (.object "java/time/format/DateTimeFormatter"), accessFlags := 26, slot := 1, constantValue := 0 }, { name := "date", type := (.object "com/example/tideline/tideline/server/Response$Date"), accessFlags := 74, slot := 2, constantValue := 0 }, { name := "status", type := .int, accessFlags := 18, slot := 0, constantValue := 0 }, { name := "contentType", type := (.object "java/lang/String"), accessFlags := 18, slot := 1, constantValue := 0 }, { name := "header", type := (.object "java/lang/String"), accessFlags := 18, slot := 2, constantValue := 0 }, { name := "body", type := (.array .byte), accessFlags := 18, slot := 3, constantValue := 0 }, { name := "written", type := (.object "com/example/tideline/tideline/server/Response$Written"), accessFlags := 66, slot := 4, constantValue := 0 }]
  methods := #[k2m0, k2m1, k2m2]
  instanceTypes := #[.int, (.object "java/lang/String"), (.object "java/lang/String"), (.array .byte), (.object "com/example/tideline/tideline/server/Response$Written")]
  staticTypes := #[(.object "com/example/tideline/tideline/server/Response"), (.object "java/time/format/DateTimeFormatter"), (.object "com/example/tideline/tideline/server/Response$Date")]
  resolved := Array.replicate 279 none
  statics := none }

def pool3 : Array CpInfo := pool [(1, u "java/lang/Cloneable"), (0, .class_ 1), (0, u "java/lang/Object"), (0, .class_ 3)] 3

/-- java/lang/Cloneable -/
def k3 : Class := { plain "java/lang/Cloneable" (some 0) with
  accessFlags := 1537
  interfaces := #[]
  cf := some (fileOf pool3 2 #[] #[] 1537 4 #[] #[])
  fields := #[]
  methods := #[]
  instanceTypes := #[]
  staticTypes := #[]
  resolved := Array.replicate 8 none
  statics := none }

def pool4 : Array CpInfo := pool [(1, u "java/io/Serializable"), (0, .class_ 1), (0, u "java/lang/Object"), (0, .class_ 3)] 3

/-- java/io/Serializable -/
def k4 : Class := { plain "java/io/Serializable" (some 0) with
  accessFlags := 1537
  interfaces := #[]
  cf := some (fileOf pool4 2 #[] #[] 1537 4 #[] #[])
  fields := #[]
  methods := #[]
  instanceTypes := #[]
  staticTypes := #[]
  resolved := Array.replicate 8 none
  statics := none }

/-- the primitive byte -/
def k5 : Class := { plain "byte" none with kind := .primitive 'B', accessFlags := 0x411 }
/-- [B -/
def k6 : Class := { plain "[B" (some 0) with kind := .array 5 .byte, interfaces := #[3, 4], accessFlags := 1041 }

/-- the primitive int -/
def k7 : Class := { plain "int" none with kind := .primitive 'I', accessFlags := 0x411 }
/-- [I -/
def k8 : Class := { plain "[I" (some 0) with kind := .array 7 .int, interfaces := #[3, 4], accessFlags := 1041 }

def heap : Heap := #[]
def classes : Array Class := #[k0, k1, k2, k3, k4, k5, k6, k7, k8]
def interned : List (Array UInt16 × Addr) := []
def slotsUsed : Nat := 0
def theMethod : MethodId := ⟨1, 1⟩
def args0 : Array Value := #[.int 5, .int 2]
def aboutOver (below : List Frame) : State where
  vm := { classes := classes, interned := interned.toArray }
  heap := heap
  slotsUsed := slotsUsed
  threads := #[{ frames := .invoking theMethod args0 :: below }]
def below0 : List Frame := [.native { method := ⟨0, 0⟩, args := #[] }]
def about1 : State := aboutOver below0
def p0 : Program := .bare "" "" ""
def e0 : Env := launch0.env 0 0 0
theorem w_frames : about1.frames = Frame.invoking theMethod args0 :: below0 := rfl
set_option maxRecDepth 65536 in
theorem w_args : argsFit about1.vm theMethod args0 = true := by decide +kernel
set_option maxRecDepth 65536 in
theorem w_heap : heapFits about1 = true := by decide +kernel
set_option maxRecDepth 65536 in
theorem w_runnable : about1.curStatus? = some .runnable := by decide +kernel
set_option maxRecDepth 65536 in
theorem w_alone : about1.alone = true := by decide +kernel
set_option maxRecDepth 65536 in
theorem w_named : about1.methodNamed? x = some theMethod := by decide +kernel
set_option maxRecDepth 65536 in
theorem w_hears : about1.hears theMethod below0 = true := by decide +kernel
set_option maxRecDepth 65536 in
theorem w_ripe : about1.ripe theMethod args0 below0 = true := by decide +kernel
theorem w_running : about1.status = .running := rfl
set_option maxRecDepth 65536 in
theorem w_room : about1.hasRoom e0.platform room_1 = true :=
  launch0.hasRoom_least _ room_1 (by decide +kernel) (by decide +kernel) (by decide +kernel) (by decide +kernel) (by decide +kernel) (by decide +kernel)
theorem allAtoms_all (ts : List Jvm.Cond) (a : Array Jvm.Value) (st : Jvm.State) : (allAtoms ts).before a st = ts.all (fun c => c.before a st) := by
  induction ts with
  | nil => rfl
  | cons c t ih =>
    show (Jvm.Cond.and c (allAtoms t)).before a st = _
    rw [Jvm.Cond.before_and, ih, List.all_cons]
def words1 : List Jvm.Cond := Jvm.Cond.code x code maxLocals ret :: tables_1
/-- a 'code' word, met by the world's own term for the bytes: nothing is compared byte by byte -/
theorem code_word {y : MethodName} {bytes : ByteArray} {mx : Nat} {rt : Option FieldType} {a : Array Value} {s : State} {m : MethodId} {meth : Method} {c : Code} (h1 : s.methodNamed? y = some m) (h2 : s.vm.method? m = some meth) (h3 : meth.code = some c) (h4 : c.code = bytes)
    (h5 : (c.maxLocals == mx && c.exceptionTable.isEmpty && decide (c.maxStack ≤ mostOperands) && decide (meth.sig.returnType = rt) && !meth.locks && decide (parseMethodDescriptor y.desc = some meth.sig)) = true) : (Jvm.Cond.code y bytes mx rt).before a s = true := by
  simp only [Bool.and_eq_true, beq_iff_eq, Bool.not_eq_true', decide_eq_true_eq] at h5
  obtain ⟨⟨⟨⟨⟨g1, g2⟩, g3⟩, g4⟩, g5⟩, g6⟩ := h5
  simp [Cond.before, Cond.holds, Cond.value, h1, h2, h3, h4, g1, g2, g3, g4, g5, g6]
def isCode : Jvm.Cond → Bool
  | .code _ _ _ _ => true
  | _ => false
theorem all_split {L : List Jvm.Cond} {P : Jvm.Cond → Bool} (h1 : L.all (fun c => isCode c || P c) = true) (h2 : ∀ c ∈ L.filter isCode, P c = true) : L.all P = true := by
  refine List.all_eq_true.mpr fun c hc => ?_
  have h := List.all_eq_true.mp h1 c hc
  rcases Bool.eq_false_or_eq_true (isCode c) with hi | hi
  · exact h2 c (List.mem_filter.mpr ⟨hc, hi⟩)
  · simpa [hi] using h
set_option maxRecDepth 65536 in
theorem w_c0 : (Jvm.Cond.code x code maxLocals ret).before args0 about1 = true := code_word (m := ⟨1, 1⟩) (meth := k1m1) (c := k1c1) (by decide +kernel) rfl rfl rfl (by decide +kernel)
set_option maxRecDepth 65536 in
theorem w_c1 : (Jvm.Cond.code ({ cls := "com/example/tideline/tideline/server/Response", name := "empty", desc := "(I)Lcom/example/tideline/tideline/server/Response;" } : Jvm.MethodName) prog_42_method_2_code (1 : Nat) (Option.some (Jvm.ClassFile.FieldType.object "com/example/tideline/tideline/server/Response"))).before args0 about1 = true := code_word (m := ⟨2, 1⟩) (meth := k2m1) (c := k2c1) (by decide +kernel) rfl rfl rfl (by decide +kernel)
set_option maxRecDepth 65536 in
theorem w_c2 : (Jvm.Cond.code ({ cls := "com/example/tideline/tideline/server/Response", name := "<init>", desc := "(ILjava/lang/String;Ljava/lang/String;[B)V" } : Jvm.MethodName) prog_42_method_1_code (5 : Nat) (Option.none : Option Jvm.ClassFile.FieldType)).before args0 about1 = true := code_word (m := ⟨2, 0⟩) (meth := k2m0) (c := k2c0) (by decide +kernel) rfl rfl rfl (by decide +kernel)
set_option maxRecDepth 65536 in
theorem w_c3 : (Jvm.Cond.code ({ cls := "java/lang/Object", name := "<init>", desc := "()V" } : Jvm.MethodName) object_method_1_code (1 : Nat) (Option.none : Option Jvm.ClassFile.FieldType)).before args0 about1 = true := code_word (m := ⟨0, 0⟩) (meth := k0m0) (c := k0c0) (by decide +kernel) rfl rfl rfl (by decide +kernel)
set_option maxRecDepth 65536 in
theorem w_c4 : (Jvm.Cond.code ({ cls := "com/example/tideline/tideline/server/Response", name := "status", desc := "()I" } : Jvm.MethodName) prog_42_method_6_code (1 : Nat) (Option.some Jvm.ClassFile.FieldType.int)).before args0 about1 = true := code_word (m := ⟨2, 2⟩) (meth := k2m2) (c := k2c2) (by decide +kernel) rfl rfl rfl (by decide +kernel)
def codes1 : List Jvm.Cond := [Jvm.Cond.code x code maxLocals ret, Jvm.Cond.code ({ cls := "com/example/tideline/tideline/server/Response", name := "empty", desc := "(I)Lcom/example/tideline/tideline/server/Response;" } : Jvm.MethodName) prog_42_method_2_code (1 : Nat) (Option.some (Jvm.ClassFile.FieldType.object "com/example/tideline/tideline/server/Response")), Jvm.Cond.code ({ cls := "com/example/tideline/tideline/server/Response", name := "<init>", desc := "(ILjava/lang/String;Ljava/lang/String;[B)V" } : Jvm.MethodName) prog_42_method_1_code (5 : Nat) (Option.none : Option Jvm.ClassFile.FieldType), Jvm.Cond.code ({ cls := "java/lang/Object", name := "<init>", desc := "()V" } : Jvm.MethodName) object_method_1_code (1 : Nat) (Option.none : Option Jvm.ClassFile.FieldType), Jvm.Cond.code ({ cls := "com/example/tideline/tideline/server/Response", name := "status", desc := "()I" } : Jvm.MethodName) prog_42_method_6_code (1 : Nat) (Option.some Jvm.ClassFile.FieldType.int)]
set_option maxRecDepth 65536 in
theorem codes_eq : words1.filter isCode = codes1 := rfl
theorem w_codes : ∀ c ∈ words1.filter isCode, c.before args0 about1 = true := by
  rw [codes_eq]
  intro c hc
  simp only [codes1, List.mem_cons, List.not_mem_nil, or_false] at hc
  rcases hc with rfl | rfl | rfl | rfl | rfl
  · exact w_c0
  · exact w_c1
  · exact w_c2
  · exact w_c3
  · exact w_c4
set_option maxRecDepth 65536 in
theorem w_t1 : (words1.take 24).all (fun c => isCode c || c.before args0 about1) = true := by decide +kernel
set_option maxRecDepth 65536 in
theorem w_t2 : (words1.drop 24).all (fun c => isCode c || c.before args0 about1) = true := by decide +kernel
theorem w_tables : (allAtoms (Jvm.Cond.code x code maxLocals ret :: tables_1)).before args0 about1 = true := by
  rw [allAtoms_all]
  show words1.all (fun c => c.before args0 about1) = true
  refine all_split ?_ w_codes
  rw [← List.take_append_drop 24 words1, List.all_append, w_t1, w_t2]
  rfl
set_option maxRecDepth 65536 in
theorem w_case : (Jvm.Cond.and given_1 narrow_1).before args0 about1 = true := by decide +kernel
theorem w_applies : (headSpec (Jvm.Cond.code x code maxLocals ret :: tables_1) room_1).applies x e0.platform about1 = true :=
  (Spec.applies_iff w_frames).mpr ⟨w_running, w_runnable, w_alone, w_named, w_hears, w_ripe, w_room, w_tables⟩
theorem atStart : AtStart classFile x code maxLocals ret World_1 tables_1 room_1 Calls_1 rest_1 Pre_1 launch0 p0 e0 about1 theMethod args0 below0 :=
  ⟨lists_1, trivial, launch0.admits_env _ _ _, launch0.least_env, fairChoices_fair.cas, fairChoices_fair.clock, w_frames, w_args, w_heap, w_applies, trivial, trivial, w_case⟩
end start1
theorem witness_1 : WitnessClaimed_1 := ⟨start1.p0, start1.e0, start1.about1, start1.theMethod, start1.args0, start1.below0, start1.atStart⟩
end Jvm.Pilot.@@N@@
