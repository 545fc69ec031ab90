import JvmDerived
import JvmDerived.Pilot.@@N@@Statement
import JvmDerived.Pilot.@@N@@Code
set_option linter.unusedVariables false
set_option linter.unusedSimpArgs false
namespace Jvm.Pilot.@@N@@
open Jvm Jvm.ClassFile Sem Op Lib Jvm.Free Jvm.Stand Jvm.LawKit Jvm.RoadKit Bundle Jvm.Pilot.@@N@@.Jvm.D
section GoKit
variable {p : Program} {l : Launch} {e : Env} {R : Room} {s : State} {m : MethodId} {args : Array Value} {below : List Frame} {meth : Method} {c : Code} {T : State} {locs : List Loc} {cells slots : Nat}
/-- from the state S the run comes to an end that P says -/
def Go (p : Program) (e : Env) (below : List Frame) (P : Outcome → State → Prop) (S : State) : Prop := ∃ s₂ o, Steps p.tables e below S s₂ ∧ s₂.status = .running ∧ Ended s₂ below o ∧ P o s₂
def Pst (s : State) (Q : Option Value → Heap → List Loc → Prop) (k n : Nat) : Outcome → State → Prop := fun o U => ∃ v L, o = .returned v ∧ Q v U.heap L ∧ FrameEnd s o U L k n
theorem Go.on {P : Outcome → State → Prop} {S S' : State} (h : ∀ t, Steps p.tables e below S' t → Steps p.tables e below S t) (k : Go p e below P S') : Go p e below P S := by
  obtain ⟨s2, o, h1, h2⟩ := k
  exact ⟨s2, o, h _ h1, h2⟩
theorem Go.st {P : Outcome → State → Prop} {S S' : State} (h : Steps p.tables e below S S') (k : Go p e below P S') : Go p e below P S := Go.on (fun _ q => h.trans q) k
theorem Go.retV (X : Stand p l e R s m args below meth c T locs cells slots) (hx : p.tables.exec = Jvm.exec) (hlk : meth.locks = false) {pc : Nat} {Ls : Array Slot} {w : Value} {t : FieldType} {i : Instr} {rest : List Value} (hret : meth.sig.returnType = some t) (hn : narrow t w = w)
    (hi : (i = .ireturn ∧ (t = .int ∨ t = .boolean ∨ t = .byte ∨ t = .char ∨ t = .short) ∧ ∃ z, w = .int z) ∨ (i = .lreturn ∧ t = .long ∧ ∃ z, w = .long z) ∨ (i = .dreturn ∧ t = .double ∧ ∃ z, w = .double z) ∨ (i = .freturn ∧ t = .float ∧ ∃ z, w = .float z) ∨ (i = .areturn ∧ t.isReference = true ∧ w.isRef = true))
    (hd : decode c.code pc = .ok (i, 1)) {Q : Option Value → Heap → List Loc → Prop} {k n : Nat} (hk : cells ≤ k) (hs : slots ≤ n) (hQ : Q (some w) T.heap locs) : Go p e below (Pst s Q k n) (T.setTop (mkF m pc Ls (w :: rest))) := by
  obtain ⟨fs, hr, hrun, hended, hW, hsame⟩ := X.leave (v := some w) (fun h => by rw [hret] at h; cases h) hlk
  exact ⟨_, _, retOut X hx hret hn hi hd hr, hrun, hended, _, _, rfl, hQ, ⟨_, rfl⟩, hW, hsame.mono hk hs⟩
theorem Go.retI (X : Stand p l e R s m args below meth c T locs cells slots) (hx : p.tables.exec = Jvm.exec) (hlk : meth.locks = false) {pc : Nat} {Ls : Array Slot} {z : Int32} {rest : List Value} (hret : meth.sig.returnType = some .int)
    (hd : decode c.code pc = .ok (.ireturn, 1)) {Q : Option Value → Heap → List Loc → Prop} {k n : Nat} (hk : cells ≤ k) (hs : slots ≤ n) (hQ : Q (some (.int z)) T.heap locs) : Go p e below (Pst s Q k n) (T.setTop (mkF m pc Ls (.int z :: rest))) :=
  Go.retV X hx hlk hret rfl (Or.inl ⟨rfl, Or.inl rfl, _, rfl⟩) hd hk hs hQ
theorem Go.retJ (X : Stand p l e R s m args below meth c T locs cells slots) (hx : p.tables.exec = Jvm.exec) (hlk : meth.locks = false) {pc : Nat} {Ls : Array Slot} {z : Int64} {rest : List Value} (hret : meth.sig.returnType = some .long)
    (hd : decode c.code pc = .ok (.lreturn, 1)) {Q : Option Value → Heap → List Loc → Prop} {k n : Nat} (hk : cells ≤ k) (hs : slots ≤ n) (hQ : Q (some (.long z)) T.heap locs) : Go p e below (Pst s Q k n) (T.setTop (mkF m pc Ls (.long z :: rest))) :=
  Go.retV X hx hlk hret rfl (Or.inr (Or.inl ⟨rfl, rfl, _, rfl⟩)) hd hk hs hQ
theorem Go.retA (X : Stand p l e R s m args below meth c T locs cells slots) (hx : p.tables.exec = Jvm.exec) (hlk : meth.locks = false) {pc : Nat} {Ls : Array Slot} {a : Addr} {t : FieldType} {rest : List Value} (hret : meth.sig.returnType = some t) (ht : t.isReference = true) (hn : narrow t (.ref a) = .ref a)
    (hd : decode c.code pc = .ok (.areturn, 1)) {Q : Option Value → Heap → List Loc → Prop} {k n : Nat} (hk : cells ≤ k) (hs : slots ≤ n) (hQ : Q (some (.ref a)) T.heap locs) : Go p e below (Pst s Q k n) (T.setTop (mkF m pc Ls (.ref a :: rest))) :=
  Go.retV X hx hlk hret hn (Or.inr (Or.inr (Or.inr (Or.inr ⟨rfl, ht, rfl⟩)))) hd hk hs hQ
theorem Go.retN (X : Stand p l e R s m args below meth c T locs cells slots) (hx : p.tables.exec = Jvm.exec) (hlk : meth.locks = false) {pc : Nat} {Ls : Array Slot} {z : Int32} {t : FieldType} {rest : List Value} (hret : meth.sig.returnType = some t) (ht : t = .boolean ∨ t = .byte ∨ t = .char ∨ t = .short)
    (hd : decode c.code pc = .ok (.ireturn, 1)) {Q : Option Value → Heap → List Loc → Prop} {k n : Nat} (hk : cells ≤ k) (hs : slots ≤ n) (hQ : Q (some (.int (nar t z))) T.heap locs) : Go p e below (Pst s Q k n) (T.setTop (mkF m pc Ls (.int z :: rest))) := by
  obtain ⟨fs, hr, hrun, hended, hW, hsame⟩ := X.leave (v := some (.int (nar t z))) (fun h => by rw [hret] at h; cases h) hlk
  exact ⟨_, _, Jvm.RoadKit.retN X hx hret ht hd hr, hrun, hended, _, _, rfl, hQ, ⟨_, rfl⟩, hW, hsame.mono hk hs⟩
theorem Go.ret0 (X : Stand p l e R s m args below meth c T locs cells slots) (hx : p.tables.exec = Jvm.exec) (hlk : meth.locks = false) {pc : Nat} {Ls : Array Slot} (hret : meth.sig.returnType = none)
    (hd : decode c.code pc = .ok (.return_, 1)) {Q : Option Value → Heap → List Loc → Prop} {k n : Nat} (hk : cells ≤ k) (hs : slots ≤ n) (hQ : Q none T.heap locs) : Go p e below (Pst s Q k n) (T.setTop (mkF m pc Ls [])) := by
  obtain ⟨fs, hr, hrun, hended, hW, hsame⟩ := X.leave (v := none) (fun _ => rfl) hlk
  exact ⟨_, _, X.returnOut hx hret hd hr, hrun, hended, _, _, rfl, hQ, ⟨_, rfl⟩, hW, hsame.mono hk hs⟩
theorem lremM {g : JFrame} {target : State} (X : Stand p l e R s m args below meth c T locs cells slots) (hx : p.tables.exec = Jvm.exec) (hg : g.method = m) {x y : Int64} {rest : List Value} (hd : decode c.code g.pc = .ok (.lrem, 1)) (hs : g.stack = .long y :: .long x :: rest) (hy : y ≠ 0)
    (hr : Steps p.tables e below (T.setTop { g with pc := g.pc + 1, stack := .long (x % y) :: rest }) target) : Steps p.tables e below (T.setTop g) target := by
  have q : x - x / y * y = x % y := lrem_mod x y
  exact XS.lrem X.here hx hg hd hs hy (by rw [q]; exact hr)
/-- Java's x >>> k on ints and on longs, as the steps leave it -/
def ushrI (x k : Int32) : Int32 := (x.toUInt32 >>> (k &&& 31).toUInt32).toInt32
def ushrJ (x : Int64) (k : Int32) : Int64 := (x.toUInt64 >>> (k &&& 0x3f).toInt64.toUInt64).toInt64
end GoKit
section ArrKit
variable {p : Program} {l : Launch} {e : Env} {R : Room} {s : State} {m : MethodId} {args : Array Value} {below : List Frame} {meth : Method} {c : Code} {T : State} {locs : List Loc} {cells slots : Nat} {Z : State} {h h' : Heap} {a b : Addr} {ty : FieldType} {n : Nat} {f : Nat → Value}
/-- in h the array at a has n places; place j holds f j -/
def BA (Z : State) (h : Heap) (a : Addr) (ty : FieldType) (n : Nat) (f : Nat → Value) : Prop := ∃ cl : Cell, Arr Z h a cl ty ∧ cl.slots.size = n ∧ ∀ j, j < n → cl.slots[j]? = some (f j)
def upd (f : Nat → Value) (i : Nat) (v : Value) : Nat → Value := fun j => if j = i then v else f j
theorem BA.lt (F : BA Z h a ty n f) : a < h.size := by
  obtain ⟨cl, A, -⟩ := F
  exact A.lt
theorem BA.ext (F : BA Z h a ty n f) (E : Ext h h') : BA Z h' a ty n f := by
  obtain ⟨cl, A, r⟩ := F
  exact ⟨cl, A.ext E, r⟩
theorem BA.other {sl : Nat} {v : Value} (F : BA Z h a ty n f) (W : Wr h h' b sl v) (q : a ≠ b) : BA Z h' a ty n f := by
  obtain ⟨cl, A, r⟩ := F
  exact ⟨cl, A.other W q, r⟩
theorem BA.keep {ws : List Addr} (F : BA Z h a ty n f) (K : Keep h h' ws) (q : a ∉ ws) : BA Z h' a ty n f := by
  obtain ⟨cl, A, r⟩ := F
  exact ⟨cl, ⟨K.2.1 a cl A.1 q, A.2⟩, r⟩
theorem BA.fn {g : Nat → Value} (F : BA Z h a ty n f) (q : ∀ j, j < n → f j = g j) : BA Z h a ty n g := by
  obtain ⟨cl, A, r1, r2⟩ := F
  exact ⟨cl, A, r1, fun j hj => by rw [r2 j hj, q j hj]⟩
theorem BA.new {k : ClassId} {z : Int32} (A : Arr Z h a (newA k ty z) ty) (hz : z.toNatClampNeg = n) : BA Z h a ty n (fun _ => defaultValue ty) := by
  subst hz
  refine ⟨_, A, sz_new _ _ _, fun j hj => ?_⟩
  simp [newA, hj]
theorem BA.wr {i : Nat} {v : Value} (F : BA Z h a ty n f) (W : Wr h h' a i v) : BA Z h' a ty n (upd f i v) := by
  obtain ⟨cl, A, r1, r2⟩ := F
  refine ⟨_, A.same W, by rw [sz_set, r1], fun j hj => ?_⟩
  show (cl.slots.setIfInBounds i v)[j]? = _
  rw [Array.getElem?_setIfInBounds]
  by_cases q : i = j
  · subst q
    rw [if_pos rfl, r1, if_pos hj]
    simp [upd]
  · rw [if_neg q, r2 j hj]
    simp [upd, Ne.symm q, fun w : j = i => q w.symm]
theorem inb {cl : Cell} {j : Int32} {i : Nat} (h0 : ¬ j < 0) (hi : j.toNatClampNeg = i) (hs : cl.slots.size = n) (hn : i < n) : ¬ (j < 0 ∨ cl.slots.size ≤ j.toNatClampNeg) := by
  rintro (q | q)
  · exact h0 q
  · rw [hs, hi] at q
    omega
theorem Go.ldB (X : Stand p l e R s m args below meth c T locs cells slots) (hx : p.tables.exec = Jvm.exec) (hZ : Z.Warmed39 s.vm) (eT : T.heap = h) (F : BA Z h a .byte n f) {j : Int32} {i : Nat} (h0 : ¬ j < 0) (hi : j.toNatClampNeg = i) (hn : i < n) {pc : Nat} {Ls : Array Slot} {rest : List Value} (hd : decode c.code pc = .ok (.baload, 1)) {P : Outcome → State → Prop}
    (k : Go p e below P (T.setTop (mkF m (pc + 1) Ls (f i :: rest)))) : Go p e below P (T.setTop (mkF m pc Ls (.int j :: .ref a :: rest))) := by
  obtain ⟨cl, A, hs, hv⟩ := F
  exact Go.on (fun t q => X.baloadBytes hx (by rw [eT]; exact A.1) (State.isArrayOf_alike hZ.alike A.2.1) A.2.2 (inb h0 hi hs hn) (by rw [hi]; exact hv i hn) (g := mkF m pc Ls (.int j :: .ref a :: rest)) rfl rfl hd t q) k
theorem Go.ldI (X : Stand p l e R s m args below meth c T locs cells slots) (hx : p.tables.exec = Jvm.exec) (hZ : Z.Warmed39 s.vm) (eT : T.heap = h) (F : BA Z h a .int n f) {j : Int32} {i : Nat} (h0 : ¬ j < 0) (hi : j.toNatClampNeg = i) (hn : i < n) {pc : Nat} {Ls : Array Slot} {rest : List Value} (hd : decode c.code pc = .ok (.iaload, 1)) {P : Outcome → State → Prop}
    (k : Go p e below P (T.setTop (mkF m (pc + 1) Ls (f i :: rest)))) : Go p e below P (T.setTop (mkF m pc Ls (.int j :: .ref a :: rest))) := by
  obtain ⟨cl, A, hs, hv⟩ := F
  exact Go.on (fun t q => X.iaload hx (by rw [eT]; exact A.1) (State.isArrayOf_alike hZ.alike A.2.1) A.2.2 (inb h0 hi hs hn) (by rw [hi]; exact hv i hn) (g := mkF m pc Ls (.int j :: .ref a :: rest)) rfl rfl hd t q) k
theorem Go.len (X : Stand p l e R s m args below meth c T locs cells slots) (hx : p.tables.exec = Jvm.exec) (hZ : Z.Warmed39 s.vm) (eT : T.heap = h) (F : BA Z h a ty n f) {N : Int32} (hN : n.toInt32 = N) {pc : Nat} {Ls : Array Slot} {rest : List Value} (hd : decode c.code pc = .ok (.arraylength, 1)) {P : Outcome → State → Prop}
    (k : Go p e below P (T.setTop (mkF m (pc + 1) Ls (.int N :: rest)))) : Go p e below P (T.setTop (mkF m pc Ls (.ref a :: rest))) := by
  obtain ⟨cl, A, hs, hv⟩ := F
  subst hs hN
  exact Go.on (fun t q => X.arraylength hx (by rw [eT]; exact A.1) (State.isArrayOf_alike hZ.alike A.2.1) (g := mkF m pc Ls (.ref a :: rest)) rfl rfl hd t q) k
theorem Go.stB (X : Stand p l e R s m args below meth c T locs cells slots) (hx : p.tables.exec = Jvm.exec) (hZ : Z.Warmed39 s.vm) (eT : T.heap = h) (F : BA Z h a .byte n f) {j x : Int32} {i : Nat} (h0 : ¬ j < 0) (hi : j.toNatClampNeg = i) (hn : i < n) {pc : Nat} {Ls : Array Slot} {rest : List Value} (hd : decode c.code pc = .ok (.bastore, 1)) {P : Outcome → State → Prop}
    (k : ∀ T' h', Stand p l e R s m args below meth c T' (locs ++ [⟨a, i⟩]) cells slots → T'.heap = h' → Wr h h' a i (.int (nar .byte x)) → BA Z h' a .byte n (upd f i (.int (nar .byte x))) → Go p e below P (T'.setTop (mkF m (pc + 1) Ls rest))) : Go p e below P (T.setTop (mkF m pc Ls (.int x :: .int j :: .ref a :: rest))) := by
  have F' := F
  obtain ⟨cl, A, hs, hv⟩ := F
  obtain ⟨T', h', X', e', W, st⟩ := Jvm.RoadKit.stB X hx hZ eT A (j := j) (x := x) (inb h0 hi hs hn) (g := mkF m pc Ls (.int x :: .int j :: .ref a :: rest)) rfl rfl hd
  subst hi
  exact Go.on st (k T' h' X' e' W (F'.wr W))
theorem Go.stI (X : Stand p l e R s m args below meth c T locs cells slots) (hx : p.tables.exec = Jvm.exec) (hZ : Z.Warmed39 s.vm) (eT : T.heap = h) (F : BA Z h a .int n f) {j x : Int32} {i : Nat} (h0 : ¬ j < 0) (hi : j.toNatClampNeg = i) (hn : i < n) {pc : Nat} {Ls : Array Slot} {rest : List Value} (hd : decode c.code pc = .ok (.iastore, 1)) {P : Outcome → State → Prop}
    (k : ∀ T' h', Stand p l e R s m args below meth c T' (locs ++ [⟨a, i⟩]) cells slots → T'.heap = h' → Wr h h' a i (.int x) → BA Z h' a .int n (upd f i (.int x)) → Go p e below P (T'.setTop (mkF m (pc + 1) Ls rest))) : Go p e below P (T.setTop (mkF m pc Ls (.int x :: .int j :: .ref a :: rest))) := by
  have F' := F
  obtain ⟨cl, A, hs, hv⟩ := F
  obtain ⟨T', h', X', e', W, st⟩ := Jvm.RoadKit.stI X hx hZ eT A (j := j) (x := x) (inb h0 hi hs hn) (g := mkF m pc Ls (.int x :: .int j :: .ref a :: rest)) rfl rfl hd
  subst hi
  exact Go.on st (k T' h' X' e' W (F'.wr W))
/-- an index by its value -/
theorem ix {j : Int32} {i : Nat} (h : j.toInt = (i : Int)) : ¬ j < 0 ∧ j.toNatClampNeg = i := by
  constructor
  · intro q
    have q2 := Int32.lt_iff_toInt_lt.mp q
    have z : (0 : Int32).toInt = 0 := by decide
    omega
  · show j.toInt.toNat = i
    omega
end ArrKit
theorem pd_1 : parseMethodDescriptor "(I)Z" = some ⟨[.int], some .boolean⟩ := by decide +kernel
/-- trial division, on naturals: d = 5 + 6 (7800 - k) -/
def own_lp (N : Nat) : Nat → Bool
  | 0 => true
  | k + 1 => if N < (5 + 6 * (7800 - (k + 1))) * (5 + 6 * (7800 - (k + 1))) then true else if N % (5 + 6 * (7800 - (k + 1))) = 0 then false else if N % (5 + 6 * (7800 - (k + 1)) + 2) = 0 then false else own_lp N k
def own_np (N : Nat) : Bool := if N < 4 then decide (2 ≤ N) else if N % 2 = 0 then false else if N % 3 = 0 then false else own_lp N 7800
def own_ip (n : Int32) : Int32 := if own_np n.toInt.toNat = true then 1 else 0
theorem own_lp_exit {N k : Nat} (h : N < (5 + 6 * (7800 - k)) * (5 + 6 * (7800 - k))) : own_lp N k = true := by
  cases k with
  | zero => rfl
  | succ k => rw [own_lp, if_pos h]
theorem own_lp_a {N k : Nat} (h : ¬ N < (5 + 6 * (7800 - (k + 1))) * (5 + 6 * (7800 - (k + 1)))) (h2 : N % (5 + 6 * (7800 - (k + 1))) = 0) : own_lp N (k + 1) = false := by rw [own_lp, if_neg h, if_pos h2]
theorem own_lp_b {N k : Nat} (h : ¬ N < (5 + 6 * (7800 - (k + 1))) * (5 + 6 * (7800 - (k + 1)))) (h2 : ¬ N % (5 + 6 * (7800 - (k + 1))) = 0) (h3 : N % (5 + 6 * (7800 - (k + 1)) + 2) = 0) : own_lp N (k + 1) = false := by rw [own_lp, if_neg h, if_neg h2, if_pos h3]
theorem own_lp_c {N k : Nat} (h : ¬ N < (5 + 6 * (7800 - (k + 1))) * (5 + 6 * (7800 - (k + 1)))) (h2 : ¬ N % (5 + 6 * (7800 - (k + 1))) = 0) (h3 : ¬ N % (5 + 6 * (7800 - (k + 1)) + 2) = 0) : own_lp N (k + 1) = own_lp N k := by rw [own_lp, if_neg h, if_neg h2, if_neg h3]
/-- a number with a divisor f, f * f not above it, is found out -/
theorem own_lp_found {N f : Nat} (hf : N % f = 0) (h2 : f * f ≤ N) (hf5 : 5 ≤ f) (h6 : f % 6 = 5 ∨ f % 6 = 1) : ∀ k, 5 + 6 * (7800 - k) ≤ f → k ≤ 7800 → f ≤ 46340 → own_lp N k = false := by
  intro k
  induction k with
  | zero =>
    intro h1 h3 h4
    exfalso
    omega
  | succ k ih =>
    intro h1 h3 h4
    have e0 : 5 + 6 * (7800 - k) = 5 + 6 * (7800 - (k + 1)) + 6 := by omega
    generalize hD : 5 + 6 * (7800 - (k + 1)) = D at *
    have hsq : ¬ N < D * D := by
      have : D * D ≤ f * f := Nat.mul_le_mul h1 h1
      omega
    rw [own_lp]
    simp only [hD]
    rw [if_neg hsq]
    by_cases q1 : N % D = 0
    · rw [if_pos q1]
    · rw [if_neg q1]
      by_cases q2 : N % (D + 2) = 0
      · rw [if_pos q2]
      · rw [if_neg q2]
        refine ih ?_ (by omega) h4
        have n1 : f ≠ D := by
          rintro rfl
          exact q1 hf
        have n2 : f ≠ D + 2 := by
          rintro rfl
          exact q2 hf
        have m1 : D % 6 = 5 := by omega
        omega
theorem own_comp {X Y : Nat} (hX : 2 ≤ X) (hY : 2 ≤ Y) (hN : X * Y < 2147483648) : own_np (X * Y) = false := by
  have h4 : 4 ≤ X * Y := Nat.mul_le_mul hX hY
  have key : ∀ f g : Nat, 2 ≤ f → f ≤ g → X * Y = f * g → own_np (X * Y) = false := by
    intro f g hf hfg e
    have hsq : f * f ≤ X * Y := by rw [e]; exact Nat.mul_le_mul_left f hfg
    have hdiv : (X * Y) % f = 0 := by rw [e]; exact Nat.mul_mod_right f g
    generalize X * Y = N at *
    unfold own_np
    rw [if_neg (by omega)]
    by_cases q2 : N % 2 = 0
    · rw [if_pos q2]
    · rw [if_neg q2]
      by_cases q3 : N % 3 = 0
      · rw [if_pos q3]
      · rw [if_neg q3]
        have d2 : f % 2 ≠ 0 := by
          intro w
          apply q2
          obtain ⟨t, ht⟩ := Nat.dvd_of_mod_eq_zero w
          rw [e, ht, Nat.mul_assoc]
          exact Nat.mul_mod_right 2 _
        have d3 : f % 3 ≠ 0 := by
          intro w
          apply q3
          obtain ⟨t, ht⟩ := Nat.dvd_of_mod_eq_zero w
          rw [e, ht, Nat.mul_assoc]
          exact Nat.mul_mod_right 3 _
        have f5 : 5 ≤ f := by omega
        have fb : f ≤ 46340 := by
          by_cases w : f ≤ 46340
          · exact w
          · exfalso
            have : 46341 * 46341 ≤ f * f := Nat.mul_le_mul (by omega) (by omega)
            omega
        exact own_lp_found hdiv hsq f5 (by omega) 7800 (by omega) (by omega) (by omega)
  by_cases w : X ≤ Y
  · exact key X Y hX w rfl
  · exact key Y X hY (by omega) (Nat.mul_comm X Y)
theorem own_sq {n d : Int32} {N D : Nat} (hn : n.toInt = N) (hd : d.toInt = D) (hD : D < 65536) : (n.toInt64 < d.toInt64 * d.toInt64) ↔ N < D * D := by
  have e1 : n.toInt64.toInt = N := by rw [c_i2l, hn]
  have e2 : d.toInt64.toInt = D := by rw [c_i2l, hd]
  have e3 : (d.toInt64 * d.toInt64).toInt = ((D * D : Nat) : Int) := by
    have c := c_lmul d.toInt64 d.toInt64
    have b := rng64 (d.toInt64 * d.toInt64)
    rw [e2] at c
    have hp : D * D ≤ 65535 * 65535 := Nat.mul_le_mul (by omega) (by omega)
    have hc : (D : Int) * (D : Int) = ((D * D : Nat) : Int) := by simp
    rw [hc] at c
    omega
  rw [Int64.lt_iff_toInt_lt, e1, e3]
  omega
theorem own_rem {n d : Int32} {N D : Nat} (hn : n.toInt = N) (hd : d.toInt = D) : (n % d = (0 : Int32)) ↔ N % D = 0 := by
  have e : (n % d).toInt = ((N % D : Nat) : Int) := by
    rw [(c_irem n d _ hd).1 (by omega), hn]
    simp
  have z : (0 : Int32).toInt = 0 := by decide
  rw [← Int32.toInt_inj, e, z]
  omega
theorem own_pos {d : Int32} {D : Nat} (hd : d.toInt = D) (h : 0 < D) : d ≠ 0 := by
  rintro rfl
  have z : (0 : Int32).toInt = 0 := by decide
  omega
theorem own_addn {d : Int32} {D : Nat} (k : Int32) (K : Nat) (hk : k.toInt = K) (hd : d.toInt = D) (h : D + K < 2147483648) : (d + k).toInt = ((D + K : Nat) : Int) := by
  have c := c_iadd d k
  have b := rng32 (d + k)
  rw [hk, hd] at c
  omega
def QP (n : Int32) (h0 : Heap) (n0 : Nat) (v : Option Value) (h : Heap) (L : List Loc) : Prop := v = some (.int (own_ip n)) ∧ Fr n0 L ∧ h = h0
theorem d1_0 : decode prog_183_method_4_code 0 = .ok (.iload_n 0, 1) := by decide +kernel
theorem d1_1 : decode prog_183_method_4_code 1 = .ok (.iconst 4, 1) := by decide +kernel
theorem d1_2 : decode prog_183_method_4_code 2 = .ok (.if_icmp .ge 14, 3) := by decide +kernel
theorem d1_5 : decode prog_183_method_4_code 5 = .ok (.iload_n 0, 1) := by decide +kernel
theorem d1_6 : decode prog_183_method_4_code 6 = .ok (.iconst 2, 1) := by decide +kernel
theorem d1_7 : decode prog_183_method_4_code 7 = .ok (.if_icmp .lt 7, 3) := by decide +kernel
theorem d1_10 : decode prog_183_method_4_code 10 = .ok (.iconst 1, 1) := by decide +kernel
theorem d1_11 : decode prog_183_method_4_code 11 = .ok (.goto 4, 3) := by decide +kernel
theorem d1_14 : decode prog_183_method_4_code 14 = .ok (.iconst 0, 1) := by decide +kernel
theorem d1_15 : decode prog_183_method_4_code 15 = .ok (.ireturn, 1) := by decide +kernel
theorem d1_16 : decode prog_183_method_4_code 16 = .ok (.iload_n 0, 1) := by decide +kernel
theorem d1_17 : decode prog_183_method_4_code 17 = .ok (.iconst 2, 1) := by decide +kernel
theorem d1_18 : decode prog_183_method_4_code 18 = .ok (.irem, 1) := by decide +kernel
theorem d1_19 : decode prog_183_method_4_code 19 = .ok (.ifCond .eq 9, 3) := by decide +kernel
theorem d1_22 : decode prog_183_method_4_code 22 = .ok (.iload_n 0, 1) := by decide +kernel
theorem d1_23 : decode prog_183_method_4_code 23 = .ok (.iconst 3, 1) := by decide +kernel
theorem d1_24 : decode prog_183_method_4_code 24 = .ok (.irem, 1) := by decide +kernel
theorem d1_25 : decode prog_183_method_4_code 25 = .ok (.ifCond .ne 5, 3) := by decide +kernel
theorem d1_28 : decode prog_183_method_4_code 28 = .ok (.iconst 0, 1) := by decide +kernel
theorem d1_29 : decode prog_183_method_4_code 29 = .ok (.ireturn, 1) := by decide +kernel
theorem d1_30 : decode prog_183_method_4_code 30 = .ok (.iconst 5, 1) := by decide +kernel
theorem d1_31 : decode prog_183_method_4_code 31 = .ok (.istore_n 1, 1) := by decide +kernel
theorem d1_32 : decode prog_183_method_4_code 32 = .ok (.iload_n 1, 1) := by decide +kernel
theorem d1_33 : decode prog_183_method_4_code 33 = .ok (.i2l, 1) := by decide +kernel
theorem d1_34 : decode prog_183_method_4_code 34 = .ok (.iload_n 1, 1) := by decide +kernel
theorem d1_35 : decode prog_183_method_4_code 35 = .ok (.i2l, 1) := by decide +kernel
theorem d1_36 : decode prog_183_method_4_code 36 = .ok (.lmul, 1) := by decide +kernel
theorem d1_37 : decode prog_183_method_4_code 37 = .ok (.iload_n 0, 1) := by decide +kernel
theorem d1_38 : decode prog_183_method_4_code 38 = .ok (.i2l, 1) := by decide +kernel
theorem d1_39 : decode prog_183_method_4_code 39 = .ok (.lcmp, 1) := by decide +kernel
theorem d1_40 : decode prog_183_method_4_code 40 = .ok (.ifCond .gt 25, 3) := by decide +kernel
theorem d1_43 : decode prog_183_method_4_code 43 = .ok (.iload_n 0, 1) := by decide +kernel
theorem d1_44 : decode prog_183_method_4_code 44 = .ok (.iload_n 1, 1) := by decide +kernel
theorem d1_45 : decode prog_183_method_4_code 45 = .ok (.irem, 1) := by decide +kernel
theorem d1_46 : decode prog_183_method_4_code 46 = .ok (.ifCond .eq 11, 3) := by decide +kernel
theorem d1_49 : decode prog_183_method_4_code 49 = .ok (.iload_n 0, 1) := by decide +kernel
theorem d1_50 : decode prog_183_method_4_code 50 = .ok (.iload_n 1, 1) := by decide +kernel
theorem d1_51 : decode prog_183_method_4_code 51 = .ok (.iconst 2, 1) := by decide +kernel
theorem d1_52 : decode prog_183_method_4_code 52 = .ok (.iadd, 1) := by decide +kernel
theorem d1_53 : decode prog_183_method_4_code 53 = .ok (.irem, 1) := by decide +kernel
theorem d1_54 : decode prog_183_method_4_code 54 = .ok (.ifCond .ne 5, 3) := by decide +kernel
theorem d1_57 : decode prog_183_method_4_code 57 = .ok (.iconst 0, 1) := by decide +kernel
theorem d1_58 : decode prog_183_method_4_code 58 = .ok (.ireturn, 1) := by decide +kernel
theorem d1_59 : decode prog_183_method_4_code 59 = .ok (.iinc 1 6, 3) := by decide +kernel
theorem d1_62 : decode prog_183_method_4_code 62 = .ok (.goto (-30), 3) := by decide +kernel
theorem d1_65 : decode prog_183_method_4_code 65 = .ok (.iconst 1, 1) := by decide +kernel
theorem d1_66 : decode prog_183_method_4_code 66 = .ok (.ireturn, 1) := by decide +kernel
set_option maxRecDepth 65536 in
set_option maxHeartbeats 40000000 in
theorem loop1 {p : Program} {l : Launch} {e : Env} {R : Room} {s : State} {m : MethodId} {args : Array Value} {below : List Frame} {meth : Method} {c : Code} {T : State} {locs : List Loc} {cells slots : Nat} (X0 : Stand p l e R s m args below meth c T locs cells slots) (hx : p.tables.exec = Jvm.exec) (hby : c.code = prog_183_method_4_code) (hlk : meth.locks = false) (hret : meth.sig.returnType = some .boolean)
    {n : Int32} {N : Nat} (hN : n.toInt = N) {Q : Option Value → Heap → List Loc → Prop} {C S : Nat} (hC : cells ≤ C) (hS : slots ≤ S) (hQ : Q (some (.int (own_ip n))) T.heap locs) : ∀ (k : Nat) (d : Int32), d.toInt = ((5 + 6 * (7800 - k) : Nat) : Int) → k ≤ 7800 → own_np n.toInt.toNat = own_lp N k → Go p e below (Pst s Q C S) (T.setTop (mkF m 32 #[.val (.int n), .val (.int d)] [])) := by
  intro k
  induction k with
  | zero =>
    intro d hd hk hip
    have hDb : 5 + 6 * (7800 - 0) < 65536 := by omega
    have hb32 := rng32 n
    have hlt : (n.toInt64) < ((d.toInt64) * (d.toInt64)) := (own_sq hN hd hDb).mpr (by omega)
    refine Go.on (fun t k => XS.iloadN X0.here hx rfl (hb hby d1_32) rfl k) ?_
    show Go p e below _ (T.setTop (mkF m 33 #[.val (.int n), .val (.int d)] [(.int d)]))
    refine Go.on (fun t k => XS.i2l X0.here hx rfl (hb hby d1_33) rfl k) ?_
    show Go p e below _ (T.setTop (mkF m 34 #[.val (.int n), .val (.int d)] [(.long (d.toInt64))]))
    refine Go.on (fun t k => XS.iloadN X0.here hx rfl (hb hby d1_34) rfl k) ?_
    show Go p e below _ (T.setTop (mkF m 35 #[.val (.int n), .val (.int d)] [(.int d), (.long (d.toInt64))]))
    refine Go.on (fun t k => XS.i2l X0.here hx rfl (hb hby d1_35) rfl k) ?_
    show Go p e below _ (T.setTop (mkF m 36 #[.val (.int n), .val (.int d)] [(.long (d.toInt64)), (.long (d.toInt64))]))
    refine Go.on (fun t k => XS.lmul X0.here hx rfl (hb hby d1_36) rfl k) ?_
    show Go p e below _ (T.setTop (mkF m 37 #[.val (.int n), .val (.int d)] [(.long ((d.toInt64) * (d.toInt64)))]))
    refine Go.on (fun t k => XS.iloadN X0.here hx rfl (hb hby d1_37) rfl k) ?_
    show Go p e below _ (T.setTop (mkF m 38 #[.val (.int n), .val (.int d)] [(.int n), (.long ((d.toInt64) * (d.toInt64)))]))
    refine Go.on (fun t k => XS.i2l X0.here hx rfl (hb hby d1_38) rfl k) ?_
    show Go p e below _ (T.setTop (mkF m 39 #[.val (.int n), .val (.int d)] [(.long (n.toInt64)), (.long ((d.toInt64) * (d.toInt64)))]))
    refine Go.on (fun t k => XS.lcmp X0.here hx rfl (hb hby d1_39) rfl k) ?_
    show Go p e below _ (T.setTop (mkF m 40 #[.val (.int n), .val (.int d)] [(.int (lcmpW ((d.toInt64) * (d.toInt64)) (n.toInt64)))]))
    refine Go.on (fun t k => XS.ifYes X0.here hx rfl (pc0 := 40) (pc' := 65) rfl (hb hby d1_40) rfl ((if0 _ _).trans (tlt ((lw_gt _ _).mpr hlt)).2.2.1) (by decide) (by decide) k) ?_
    show Go p e below _ (T.setTop (mkF m 65 #[.val (.int n), .val (.int d)] []))
    refine Go.on (fun t k => XS.iconst X0.here hx rfl (hb hby d1_65) k) ?_
    show Go p e below _ (T.setTop (mkF m 66 #[.val (.int n), .val (.int d)] [(.int (1 : Int32))]))
    have hv : own_ip n = nar .boolean (1 : Int32) := by rw [own_ip, hip, own_lp_exit ((own_sq hN hd hDb).mp hlt)]; decide
    exact Go.retN X0 hx hlk hret (by simp) (hb hby d1_66) hC hS (by rw [← hv]; exact hQ)
  | succ k ih =>
    intro d hd hk hip
    have hDb : 5 + 6 * (7800 - (k + 1)) < 65536 := by omega
    have hd2 : (d + (2 : Int32)).toInt = ((5 + 6 * (7800 - (k + 1)) + 2 : Nat) : Int) := own_addn 2 2 (by decide) hd (by omega)
    refine Go.on (fun t k => XS.iloadN X0.here hx rfl (hb hby d1_32) rfl k) ?_
    show Go p e below _ (T.setTop (mkF m 33 #[.val (.int n), .val (.int d)] [(.int d)]))
    refine Go.on (fun t k => XS.i2l X0.here hx rfl (hb hby d1_33) rfl k) ?_
    show Go p e below _ (T.setTop (mkF m 34 #[.val (.int n), .val (.int d)] [(.long (d.toInt64))]))
    refine Go.on (fun t k => XS.iloadN X0.here hx rfl (hb hby d1_34) rfl k) ?_
    show Go p e below _ (T.setTop (mkF m 35 #[.val (.int n), .val (.int d)] [(.int d), (.long (d.toInt64))]))
    refine Go.on (fun t k => XS.i2l X0.here hx rfl (hb hby d1_35) rfl k) ?_
    show Go p e below _ (T.setTop (mkF m 36 #[.val (.int n), .val (.int d)] [(.long (d.toInt64)), (.long (d.toInt64))]))
    refine Go.on (fun t k => XS.lmul X0.here hx rfl (hb hby d1_36) rfl k) ?_
    show Go p e below _ (T.setTop (mkF m 37 #[.val (.int n), .val (.int d)] [(.long ((d.toInt64) * (d.toInt64)))]))
    refine Go.on (fun t k => XS.iloadN X0.here hx rfl (hb hby d1_37) rfl k) ?_
    show Go p e below _ (T.setTop (mkF m 38 #[.val (.int n), .val (.int d)] [(.int n), (.long ((d.toInt64) * (d.toInt64)))]))
    refine Go.on (fun t k => XS.i2l X0.here hx rfl (hb hby d1_38) rfl k) ?_
    show Go p e below _ (T.setTop (mkF m 39 #[.val (.int n), .val (.int d)] [(.long (n.toInt64)), (.long ((d.toInt64) * (d.toInt64)))]))
    refine Go.on (fun t k => XS.lcmp X0.here hx rfl (hb hby d1_39) rfl k) ?_
    show Go p e below _ (T.setTop (mkF m 40 #[.val (.int n), .val (.int d)] [(.int (lcmpW ((d.toInt64) * (d.toInt64)) (n.toInt64)))]))
    by_cases hc40 : (n.toInt64) < ((d.toInt64) * (d.toInt64))
    · refine Go.on (fun t k => XS.ifYes X0.here hx rfl (pc0 := 40) (pc' := 65) rfl (hb hby d1_40) rfl ((if0 _ _).trans (tlt ((lw_gt _ _).mpr hc40)).2.2.1) (by decide) (by decide) k) ?_
      show Go p e below _ (T.setTop (mkF m 65 #[.val (.int n), .val (.int d)] []))
      refine Go.on (fun t k => XS.iconst X0.here hx rfl (hb hby d1_65) k) ?_
      show Go p e below _ (T.setTop (mkF m 66 #[.val (.int n), .val (.int d)] [(.int (1 : Int32))]))
      have hv : own_ip n = nar .boolean (1 : Int32) := by rw [own_ip, hip, own_lp_exit ((own_sq hN hd hDb).mp hc40)]; decide
      exact Go.retN X0 hx hlk hret (by simp) (hb hby d1_66) hC hS (by rw [← hv]; exact hQ)
    · refine Go.on (fun t k => XS.ifNo X0.here hx rfl (hb hby d1_40) rfl ((if0 _ _).trans (flt (fun q => hc40 ((lw_gt _ _).mp q))).2.2.1) k) ?_
      show Go p e below _ (T.setTop (mkF m 43 #[.val (.int n), .val (.int d)] []))
      refine Go.on (fun t k => XS.iloadN X0.here hx rfl (hb hby d1_43) rfl k) ?_
      show Go p e below _ (T.setTop (mkF m 44 #[.val (.int n), .val (.int d)] [(.int n)]))
      refine Go.on (fun t k => XS.iloadN X0.here hx rfl (hb hby d1_44) rfl k) ?_
      show Go p e below _ (T.setTop (mkF m 45 #[.val (.int n), .val (.int d)] [(.int d), (.int n)]))
      refine Go.on (fun t k => iremM X0 hx rfl (hb hby d1_45) rfl (own_pos hd (by omega)) k) ?_
      show Go p e below _ (T.setTop (mkF m 46 #[.val (.int n), .val (.int d)] [(.int (n % d))]))
      by_cases hc46 : (n % d) = (0 : Int32)
      · refine Go.on (fun t k => XS.ifYes X0.here hx rfl (pc0 := 46) (pc' := 57) rfl (hb hby d1_46) rfl ((if0 _ _).trans (teq hc46).1) (by decide) (by decide) k) ?_
        show Go p e below _ (T.setTop (mkF m 57 #[.val (.int n), .val (.int d)] []))
        refine Go.on (fun t k => XS.iconst X0.here hx rfl (hb hby d1_57) k) ?_
        show Go p e below _ (T.setTop (mkF m 58 #[.val (.int n), .val (.int d)] [(.int (0 : Int32))]))
        have hv : own_ip n = nar .boolean (0 : Int32) := by rw [own_ip, hip, own_lp_a (fun q => hc40 ((own_sq hN hd hDb).mpr q)) ((own_rem hN hd).mp hc46)]; decide
        exact Go.retN X0 hx hlk hret (by simp) (hb hby d1_58) hC hS (by rw [← hv]; exact hQ)
      · refine Go.on (fun t k => XS.ifNo X0.here hx rfl (hb hby d1_46) rfl ((if0 _ _).trans (feq hc46).1) k) ?_
        show Go p e below _ (T.setTop (mkF m 49 #[.val (.int n), .val (.int d)] []))
        refine Go.on (fun t k => XS.iloadN X0.here hx rfl (hb hby d1_49) rfl k) ?_
        show Go p e below _ (T.setTop (mkF m 50 #[.val (.int n), .val (.int d)] [(.int n)]))
        refine Go.on (fun t k => XS.iloadN X0.here hx rfl (hb hby d1_50) rfl k) ?_
        show Go p e below _ (T.setTop (mkF m 51 #[.val (.int n), .val (.int d)] [(.int d), (.int n)]))
        refine Go.on (fun t k => XS.iconst X0.here hx rfl (hb hby d1_51) k) ?_
        show Go p e below _ (T.setTop (mkF m 52 #[.val (.int n), .val (.int d)] [(.int (2 : Int32)), (.int d), (.int n)]))
        refine Go.on (fun t k => XS.iadd X0.here hx rfl (hb hby d1_52) rfl k) ?_
        show Go p e below _ (T.setTop (mkF m 53 #[.val (.int n), .val (.int d)] [(.int (d + (2 : Int32))), (.int n)]))
        refine Go.on (fun t k => iremM X0 hx rfl (hb hby d1_53) rfl (own_pos hd2 (by omega)) k) ?_
        show Go p e below _ (T.setTop (mkF m 54 #[.val (.int n), .val (.int d)] [(.int (n % (d + (2 : Int32))))]))
        by_cases hc54 : (n % (d + (2 : Int32))) = (0 : Int32)
        · refine Go.on (fun t k => XS.ifNo X0.here hx rfl (hb hby d1_54) rfl ((if0 _ _).trans (teq hc54).2) k) ?_
          show Go p e below _ (T.setTop (mkF m 57 #[.val (.int n), .val (.int d)] []))
          refine Go.on (fun t k => XS.iconst X0.here hx rfl (hb hby d1_57) k) ?_
          show Go p e below _ (T.setTop (mkF m 58 #[.val (.int n), .val (.int d)] [(.int (0 : Int32))]))
          have hv : own_ip n = nar .boolean (0 : Int32) := by rw [own_ip, hip, own_lp_b (fun q => hc40 ((own_sq hN hd hDb).mpr q)) (fun q => hc46 ((own_rem hN hd).mpr q)) ((own_rem hN hd2).mp hc54)]; decide
          exact Go.retN X0 hx hlk hret (by simp) (hb hby d1_58) hC hS (by rw [← hv]; exact hQ)
        · refine Go.on (fun t k => XS.ifYes X0.here hx rfl (pc0 := 54) (pc' := 59) rfl (hb hby d1_54) rfl ((if0 _ _).trans (feq hc54).2) (by decide) (by decide) k) ?_
          show Go p e below _ (T.setTop (mkF m 59 #[.val (.int n), .val (.int d)] []))
          refine Go.on (fun t k => XS.iinc X0.here hx rfl (hb hby d1_59) rfl (l' := #[.val (.int n), .val (.int (d + (6 : Int32)))]) rfl k) ?_
          show Go p e below _ (T.setTop (mkF m 62 #[.val (.int n), .val (.int (d + (6 : Int32)))] []))
          refine Go.on (fun t k => XS.goto X0.here hx rfl (pc0 := 62) (pc' := 32) rfl (hb hby d1_62) (by decide) (by decide) k) ?_
          show Go p e below _ (T.setTop (mkF m 32 #[.val (.int n), .val (.int (d + (6 : Int32)))] []))
          exact ih _ (by rw [own_addn 6 6 (by decide) hd (by omega)]; omega) (by omega) (by rw [hip]; exact own_lp_c (fun q => hc40 ((own_sq hN hd hDb).mpr q)) (fun q => hc46 ((own_rem hN hd).mpr q)) (fun q => hc54 ((own_rem hN hd2).mpr q)))
theorem pn_1 : plainFor (⟨"com/example/rillwork/rillwork/jobs/PrimesJob", "isPrime", "(I)Z"⟩ : MethodName) = true := by first | exact plainFor_of_name (by first | (simp [plainName, overriddenIn]; done) | decide +kernel) | decide +kernel
theorem ef_1 (m : MethodId) (x0 : Int32) : entryFrame m #[(.int x0)] 2 = mkF m 0 #[.val (.int x0), .unset] [] := by first | (simp [entryFrame, mkF, argsToLocals, Value.category]; done) | rfl
set_option maxRecDepth 65536 in
set_option maxHeartbeats 40000000 in
theorem rm1 (l : Launch) (Z : State) (a0 : Array Value) (hw : ∀ d ∈ tables_1, d.before a0 Z = true) (ws : List Jvm.Cond) (n : Int32) (h0 : Heap) (n0 : Nat) (Z0 : n0 ≤ h0.size)  :
    MetFree l (⟨"com/example/rillwork/rillwork/jobs/PrimesJob", "isPrime", "(I)Z"⟩ : MethodName) (head1 (Jvm.Cond.code (⟨"com/example/rillwork/rillwork/jobs/PrimesJob", "isPrime", "(I)Z"⟩ : MethodName) prog_183_method_4_code 2 (some .boolean) :: ws) ({ frames := 0, cells := 0, slots := 0, locals := 0 } : Room)) (fun a U => a = #[(.int n)] ∧ Z.Warmed39 U.vm ∧ U.heap = h0) (fun _ _ _ _ _ => True) (fun _ U o U' => ∃ v L, o = .returned v ∧ QP n h0 n0 v U'.heap L ∧ FrameEnd U o U' L ({ frames := 0, cells := 0, slots := 0, locals := 0 } : Room).cells ({ frames := 0, cells := 0, slots := 0, locals := 0 } : Room).slots) := by
  refine MetFree.of_bodySF pn_1 hisR ?_
  intro p e s m args below meth c s₁ Bd hml0 hP hK
  obtain ⟨rfl, hZ, hh⟩ := hP
  have hx := Bd.exec
  have hby := Bd.bytes
  have hlk := Bd.notSynchronized
  have hret := Bd.returns
  have hml : c.maxLocals = 2 := hml0
  have hown : s.vm.findClass "com/example/rillwork/rillwork/jobs/PrimesJob" = some m.cls := findClass_of_methodNamed Bd.named
  have hnm := (name_of_methodNamed Bd.named Bd.method).1
  have X0 : Stand p l e ({ frames := 0, cells := 0, slots := 0, locals := 0 } : Room) s m #[(.int n)] below meth c s₁ [] 0 0 := Stand.of_body Bd
  have e0 : s₁.heap = h0 := by rw [← hh, Bd.state]; rfl
  have N0 := Fr.nil n0
  show Go p e below (Pst s (QP n h0 n0) ({ frames := 0, cells := 0, slots := 0, locals := 0 } : Room).cells ({ frames := 0, cells := 0, slots := 0, locals := 0 } : Room).slots) (s₁.setTop (entryFrame m #[(.int n)] 2))
  refine Go.on (fun t k => castTop (ef_1 m n) k) ?_
  show Go p e below _ (s₁.setTop (mkF m 0 #[.val (.int n), .unset] []))
  refine Go.on (fun t k => XS.iloadN X0.here hx rfl (hb hby d1_0) rfl k) ?_
  show Go p e below _ (s₁.setTop (mkF m 1 #[.val (.int n), .unset] [(.int n)]))
  refine Go.on (fun t k => XS.iconst X0.here hx rfl (hb hby d1_1) k) ?_
  show Go p e below _ (s₁.setTop (mkF m 2 #[.val (.int n), .unset] [(.int (4 : Int32)), (.int n)]))
  by_cases hc2 : n < (4 : Int32)
  · refine Go.on (fun t k => XS.icmpNo X0.here hx rfl (hb hby d1_2) rfl (tlt hc2).2.1 k) ?_
    show Go p e below _ (s₁.setTop (mkF m 5 #[.val (.int n), .unset] []))
    refine Go.on (fun t k => XS.iloadN X0.here hx rfl (hb hby d1_5) rfl k) ?_
    show Go p e below _ (s₁.setTop (mkF m 6 #[.val (.int n), .unset] [(.int n)]))
    refine Go.on (fun t k => XS.iconst X0.here hx rfl (hb hby d1_6) k) ?_
    show Go p e below _ (s₁.setTop (mkF m 7 #[.val (.int n), .unset] [(.int (2 : Int32)), (.int n)]))
    by_cases hc7 : n < (2 : Int32)
    · refine Go.on (fun t k => XS.icmpYes X0.here hx rfl (pc0 := 7) (pc' := 14) rfl (hb hby d1_7) rfl (tlt hc7).1 (by decide) (by decide) k) ?_
      show Go p e below _ (s₁.setTop (mkF m 14 #[.val (.int n), .unset] []))
      refine Go.on (fun t k => XS.iconst X0.here hx rfl (hb hby d1_14) k) ?_
      show Go p e below _ (s₁.setTop (mkF m 15 #[.val (.int n), .unset] [(.int (0 : Int32))]))
      have hv : own_ip n = nar .boolean (0 : Int32) := by
        have hr := rng32 n
        have hc2t : n.toInt < (4 : Int32).toInt := Int32.lt_iff_toInt_lt.mp hc2
        have hc7t : n.toInt < (2 : Int32).toInt := Int32.lt_iff_toInt_lt.mp hc7
        have z4 : (4 : Int32).toInt = 4 := by decide
        have z2 : (2 : Int32).toInt = 2 := by decide
        have z3 : (3 : Int32).toInt = 3 := by decide
        have q : own_np n.toInt.toNat = false := by
          rw [own_np, if_pos (by omega)]
          exact decide_eq_false (by omega)
        rw [own_ip, q]
        decide
      exact Go.retN X0 hx hlk hret (by simp) (hb hby d1_15) (Nat.le_refl _) (Nat.le_refl _) ⟨by rw [hv], N0, e0⟩
    · refine Go.on (fun t k => XS.icmpNo X0.here hx rfl (hb hby d1_7) rfl (flt hc7).1 k) ?_
      show Go p e below _ (s₁.setTop (mkF m 10 #[.val (.int n), .unset] []))
      refine Go.on (fun t k => XS.iconst X0.here hx rfl (hb hby d1_10) k) ?_
      show Go p e below _ (s₁.setTop (mkF m 11 #[.val (.int n), .unset] [(.int (1 : Int32))]))
      refine Go.on (fun t k => XS.goto X0.here hx rfl (pc0 := 11) (pc' := 15) rfl (hb hby d1_11) (by decide) (by decide) k) ?_
      show Go p e below _ (s₁.setTop (mkF m 15 #[.val (.int n), .unset] [(.int (1 : Int32))]))
      have hv : own_ip n = nar .boolean (1 : Int32) := by
        have hr := rng32 n
        have hc2t : n.toInt < (4 : Int32).toInt := Int32.lt_iff_toInt_lt.mp hc2
        have hc7t : ¬ n.toInt < (2 : Int32).toInt := fun q => hc7 (Int32.lt_iff_toInt_lt.mpr q)
        have z4 : (4 : Int32).toInt = 4 := by decide
        have z2 : (2 : Int32).toInt = 2 := by decide
        have z3 : (3 : Int32).toInt = 3 := by decide
        have q : own_np n.toInt.toNat = true := by
          rw [own_np, if_pos (by omega)]
          exact decide_eq_true (by omega)
        rw [own_ip, q]
        decide
      exact Go.retN X0 hx hlk hret (by simp) (hb hby d1_15) (Nat.le_refl _) (Nat.le_refl _) ⟨by rw [hv], N0, e0⟩
  · refine Go.on (fun t k => XS.icmpYes X0.here hx rfl (pc0 := 2) (pc' := 16) rfl (hb hby d1_2) rfl (flt hc2).2.1 (by decide) (by decide) k) ?_
    show Go p e below _ (s₁.setTop (mkF m 16 #[.val (.int n), .unset] []))
    refine Go.on (fun t k => XS.iloadN X0.here hx rfl (hb hby d1_16) rfl k) ?_
    show Go p e below _ (s₁.setTop (mkF m 17 #[.val (.int n), .unset] [(.int n)]))
    refine Go.on (fun t k => XS.iconst X0.here hx rfl (hb hby d1_17) k) ?_
    show Go p e below _ (s₁.setTop (mkF m 18 #[.val (.int n), .unset] [(.int (2 : Int32)), (.int n)]))
    refine Go.on (fun t k => iremM X0 hx rfl (hb hby d1_18) rfl (by decide) k) ?_
    show Go p e below _ (s₁.setTop (mkF m 19 #[.val (.int n), .unset] [(.int (n % (2 : Int32)))]))
    by_cases hc19 : (n % (2 : Int32)) = (0 : Int32)
    · refine Go.on (fun t k => XS.ifYes X0.here hx rfl (pc0 := 19) (pc' := 28) rfl (hb hby d1_19) rfl ((if0 _ _).trans (teq hc19).1) (by decide) (by decide) k) ?_
      show Go p e below _ (s₁.setTop (mkF m 28 #[.val (.int n), .unset] []))
      refine Go.on (fun t k => XS.iconst X0.here hx rfl (hb hby d1_28) k) ?_
      show Go p e below _ (s₁.setTop (mkF m 29 #[.val (.int n), .unset] [(.int (0 : Int32))]))
      have hv : own_ip n = nar .boolean (0 : Int32) := by
        have hr := rng32 n
        have hc2t : ¬ n.toInt < (4 : Int32).toInt := fun q => hc2 (Int32.lt_iff_toInt_lt.mpr q)
        have z4 : (4 : Int32).toInt = 4 := by decide
        have z2 : (2 : Int32).toInt = 2 := by decide
        have z3 : (3 : Int32).toInt = 3 := by decide
        have hN : n.toInt = (n.toInt.toNat : Int) := by omega
        have q : own_np n.toInt.toNat = false := by
          rw [own_np, if_neg (by omega), if_pos ((own_rem hN (D := 2) z2).mp hc19)]
        rw [own_ip, q]
        decide
      exact Go.retN X0 hx hlk hret (by simp) (hb hby d1_29) (Nat.le_refl _) (Nat.le_refl _) ⟨by rw [hv], N0, e0⟩
    · refine Go.on (fun t k => XS.ifNo X0.here hx rfl (hb hby d1_19) rfl ((if0 _ _).trans (feq hc19).1) k) ?_
      show Go p e below _ (s₁.setTop (mkF m 22 #[.val (.int n), .unset] []))
      refine Go.on (fun t k => XS.iloadN X0.here hx rfl (hb hby d1_22) rfl k) ?_
      show Go p e below _ (s₁.setTop (mkF m 23 #[.val (.int n), .unset] [(.int n)]))
      refine Go.on (fun t k => XS.iconst X0.here hx rfl (hb hby d1_23) k) ?_
      show Go p e below _ (s₁.setTop (mkF m 24 #[.val (.int n), .unset] [(.int (3 : Int32)), (.int n)]))
      refine Go.on (fun t k => iremM X0 hx rfl (hb hby d1_24) rfl (by decide) k) ?_
      show Go p e below _ (s₁.setTop (mkF m 25 #[.val (.int n), .unset] [(.int (n % (3 : Int32)))]))
      by_cases hc25 : (n % (3 : Int32)) = (0 : Int32)
      · refine Go.on (fun t k => XS.ifNo X0.here hx rfl (hb hby d1_25) rfl ((if0 _ _).trans (teq hc25).2) k) ?_
        show Go p e below _ (s₁.setTop (mkF m 28 #[.val (.int n), .unset] []))
        refine Go.on (fun t k => XS.iconst X0.here hx rfl (hb hby d1_28) k) ?_
        show Go p e below _ (s₁.setTop (mkF m 29 #[.val (.int n), .unset] [(.int (0 : Int32))]))
        have hv : own_ip n = nar .boolean (0 : Int32) := by
          have hr := rng32 n
          have hc2t : ¬ n.toInt < (4 : Int32).toInt := fun q => hc2 (Int32.lt_iff_toInt_lt.mpr q)
          have z4 : (4 : Int32).toInt = 4 := by decide
          have z2 : (2 : Int32).toInt = 2 := by decide
          have z3 : (3 : Int32).toInt = 3 := by decide
          have hN : n.toInt = (n.toInt.toNat : Int) := by omega
          have q : own_np n.toInt.toNat = false := by
            rw [own_np, if_neg (by omega), if_neg (fun w => hc19 ((own_rem hN (D := 2) z2).mpr w)), if_pos ((own_rem hN (D := 3) z3).mp hc25)]
          rw [own_ip, q]
          decide
        exact Go.retN X0 hx hlk hret (by simp) (hb hby d1_29) (Nat.le_refl _) (Nat.le_refl _) ⟨by rw [hv], N0, e0⟩
      · refine Go.on (fun t k => XS.ifYes X0.here hx rfl (pc0 := 25) (pc' := 30) rfl (hb hby d1_25) rfl ((if0 _ _).trans (feq hc25).2) (by decide) (by decide) k) ?_
        show Go p e below _ (s₁.setTop (mkF m 30 #[.val (.int n), .unset] []))
        refine Go.on (fun t k => XS.iconst X0.here hx rfl (hb hby d1_30) k) ?_
        show Go p e below _ (s₁.setTop (mkF m 31 #[.val (.int n), .unset] [(.int (5 : Int32))]))
        refine Go.on (fun t k => XS.istoreN X0.here hx rfl (hb hby d1_31) rfl (l' := #[.val (.int n), .val (.int (5 : Int32))]) rfl k) ?_
        show Go p e below _ (s₁.setTop (mkF m 32 #[.val (.int n), .val (.int (5 : Int32))] []))
        have hr := rng32 n
        have z4 : (4 : Int32).toInt = 4 := by decide
        have z2 : (2 : Int32).toInt = 2 := by decide
        have z3 : (3 : Int32).toInt = 3 := by decide
        have hc2t : ¬ n.toInt < (4 : Int32).toInt := fun q => hc2 (Int32.lt_iff_toInt_lt.mpr q)
        have hN : n.toInt = (n.toInt.toNat : Int) := by omega
        exact loop1 X0 hx hby hlk hret hN (Nat.le_refl _) (Nat.le_refl _) ⟨rfl, N0, e0⟩ 7800 _ (by decide) (Nat.le_refl _) (by rw [own_np, if_neg (by omega), if_neg (fun w => hc19 ((own_rem hN (D := 2) z2).mpr w)), if_neg (fun w => hc25 ((own_rem hN (D := 3) z3).mpr w))])
def own_sp (n : Int32) : Int32 := if n < (64 : Int32) then (if ((ushrJ (2891462833508853932 : Int64) n) &&& (1 : Int64)) = (0 : Int64) then 0 else 1) else (if ((ushrJ (-9222764410617429368 : Int64) (n - (64 : Int32))) &&& (1 : Int64)) = (0 : Int64) then 0 else 1)
def QS (n : Int32) (h0 : Heap) (n0 : Nat) (v : Option Value) (h : Heap) (L : List Loc) : Prop := v = some (.int (own_sp n)) ∧ Fr n0 L ∧ h = h0
theorem d2_0 : decode method_2_code 0 = .ok (.ldc2_w 7, 3) := by decide +kernel
theorem d2_3 : decode method_2_code 3 = .ok (.lstore_n 1, 1) := by decide +kernel
theorem d2_4 : decode method_2_code 4 = .ok (.ldc2_w 9, 3) := by decide +kernel
theorem d2_7 : decode method_2_code 7 = .ok (.lstore_n 3, 1) := by decide +kernel
theorem d2_8 : decode method_2_code 8 = .ok (.iload_n 0, 1) := by decide +kernel
theorem d2_9 : decode method_2_code 9 = .ok (.bipush 64, 2) := by decide +kernel
theorem d2_11 : decode method_2_code 11 = .ok (.if_icmp .ge 19, 3) := by decide +kernel
theorem d2_14 : decode method_2_code 14 = .ok (.lload_n 1, 1) := by decide +kernel
theorem d2_15 : decode method_2_code 15 = .ok (.iload_n 0, 1) := by decide +kernel
theorem d2_16 : decode method_2_code 16 = .ok (.lushr, 1) := by decide +kernel
theorem d2_17 : decode method_2_code 17 = .ok (.lconst 1, 1) := by decide +kernel
theorem d2_18 : decode method_2_code 18 = .ok (.land, 1) := by decide +kernel
theorem d2_19 : decode method_2_code 19 = .ok (.lconst 0, 1) := by decide +kernel
theorem d2_20 : decode method_2_code 20 = .ok (.lcmp, 1) := by decide +kernel
theorem d2_21 : decode method_2_code 21 = .ok (.ifCond .eq 7, 3) := by decide +kernel
theorem d2_24 : decode method_2_code 24 = .ok (.iconst 1, 1) := by decide +kernel
theorem d2_25 : decode method_2_code 25 = .ok (.goto 4, 3) := by decide +kernel
theorem d2_28 : decode method_2_code 28 = .ok (.iconst 0, 1) := by decide +kernel
theorem d2_29 : decode method_2_code 29 = .ok (.ireturn, 1) := by decide +kernel
theorem d2_30 : decode method_2_code 30 = .ok (.lload_n 3, 1) := by decide +kernel
theorem d2_31 : decode method_2_code 31 = .ok (.iload_n 0, 1) := by decide +kernel
theorem d2_32 : decode method_2_code 32 = .ok (.bipush 64, 2) := by decide +kernel
theorem d2_34 : decode method_2_code 34 = .ok (.isub, 1) := by decide +kernel
theorem d2_35 : decode method_2_code 35 = .ok (.lushr, 1) := by decide +kernel
theorem d2_36 : decode method_2_code 36 = .ok (.lconst 1, 1) := by decide +kernel
theorem d2_37 : decode method_2_code 37 = .ok (.land, 1) := by decide +kernel
theorem d2_38 : decode method_2_code 38 = .ok (.lconst 0, 1) := by decide +kernel
theorem d2_39 : decode method_2_code 39 = .ok (.lcmp, 1) := by decide +kernel
theorem d2_40 : decode method_2_code 40 = .ok (.ifCond .eq 7, 3) := by decide +kernel
theorem d2_43 : decode method_2_code 43 = .ok (.iconst 1, 1) := by decide +kernel
theorem d2_44 : decode method_2_code 44 = .ok (.goto 4, 3) := by decide +kernel
theorem d2_47 : decode method_2_code 47 = .ok (.iconst 0, 1) := by decide +kernel
theorem d2_48 : decode method_2_code 48 = .ok (.ireturn, 1) := by decide +kernel
theorem pn_2 : plainFor (⟨"com/example/rillwork/rillwork/jobs/PrimesJobIsPrimePinLaw", "smallPrime", "(I)Z"⟩ : MethodName) = true := by first | exact plainFor_of_name (by first | (simp [plainName, overriddenIn]; done) | decide +kernel) | decide +kernel
theorem ef_2 (m : MethodId) (x0 : Int32) : entryFrame m #[(.int x0)] 5 = mkF m 0 #[.val (.int x0), .unset, .unset, .unset, .unset] [] := by first | (simp [entryFrame, mkF, argsToLocals, Value.category]; done) | rfl
set_option maxRecDepth 65536 in
set_option maxHeartbeats 40000000 in
theorem rm2 (l : Launch) (Z : State) (a0 : Array Value) (hw : ∀ d ∈ tables_1, d.before a0 Z = true) (ws : List Jvm.Cond) (n : Int32) (h0 : Heap) (n0 : Nat) (Z0 : n0 ≤ h0.size)  :
    MetFree l (⟨"com/example/rillwork/rillwork/jobs/PrimesJobIsPrimePinLaw", "smallPrime", "(I)Z"⟩ : MethodName) (head1 (Jvm.Cond.code (⟨"com/example/rillwork/rillwork/jobs/PrimesJobIsPrimePinLaw", "smallPrime", "(I)Z"⟩ : MethodName) method_2_code 5 (some .boolean) :: ws) ({ frames := 0, cells := 0, slots := 0, locals := 0 } : Room)) (fun a U => a = #[(.int n)] ∧ Z.Warmed39 U.vm ∧ U.heap = h0) (fun _ _ _ _ _ => True) (fun _ U o U' => ∃ v L, o = .returned v ∧ QS n h0 n0 v U'.heap L ∧ FrameEnd U o U' L ({ frames := 0, cells := 0, slots := 0, locals := 0 } : Room).cells ({ frames := 0, cells := 0, slots := 0, locals := 0 } : Room).slots) := by
  refine MetFree.of_bodySF pn_2 hisR ?_
  intro p e s m args below meth c s₁ Bd hml0 hP hK
  obtain ⟨rfl, hZ, hh⟩ := hP
  have hx := Bd.exec
  have hby := Bd.bytes
  have hlk := Bd.notSynchronized
  have hret := Bd.returns
  have hml : c.maxLocals = 5 := hml0
  have hown : s.vm.findClass "com/example/rillwork/rillwork/jobs/PrimesJobIsPrimePinLaw" = some m.cls := findClass_of_methodNamed Bd.named
  have hnm := (name_of_methodNamed Bd.named Bd.method).1
  have X0 : Stand p l e ({ frames := 0, cells := 0, slots := 0, locals := 0 } : Room) s m #[(.int n)] below meth c s₁ [] 0 0 := Stand.of_body Bd
  have e0 : s₁.heap = h0 := by rw [← hh, Bd.state]; rfl
  have N0 := Fr.nil n0
  show Go p e below (Pst s (QS n h0 n0) ({ frames := 0, cells := 0, slots := 0, locals := 0 } : Room).cells ({ frames := 0, cells := 0, slots := 0, locals := 0 } : Room).slots) (s₁.setTop (entryFrame m #[(.int n)] 5))
  refine Go.on (fun t k => castTop (ef_2 m n) k) ?_
  show Go p e below _ (s₁.setTop (mkF m 0 #[.val (.int n), .unset, .unset, .unset, .unset] []))
  refine Go.on (fun t k => X0.ldc2Long hx hown (mvT hZ (hw _ (List.mem_of_getElem? (i := 8) rfl))) (g := (mkF m 0 #[.val (.int n), .unset, .unset, .unset, .unset] [])) rfl (hb hby d2_0) _ k) ?_
  show Go p e below _ (s₁.setTop (mkF m 3 #[.val (.int n), .unset, .unset, .unset, .unset] [(.long (2891462833508853932 : Int64))]))
  refine Go.on (fun t k => XS.lstoreN X0.here hx rfl (hb hby d2_3) rfl (l' := #[.val (.int n), .val (.long (2891462833508853932 : Int64)), .second, .unset, .unset]) rfl k) ?_
  show Go p e below _ (s₁.setTop (mkF m 4 #[.val (.int n), .val (.long (2891462833508853932 : Int64)), .second, .unset, .unset] []))
  refine Go.on (fun t k => X0.ldc2Long hx hown (mvT hZ (hw _ (List.mem_of_getElem? (i := 9) rfl))) (g := (mkF m 4 #[.val (.int n), .val (.long (2891462833508853932 : Int64)), .second, .unset, .unset] [])) rfl (hb hby d2_4) _ k) ?_
  show Go p e below _ (s₁.setTop (mkF m 7 #[.val (.int n), .val (.long (2891462833508853932 : Int64)), .second, .unset, .unset] [(.long (-9222764410617429368 : Int64))]))
  refine Go.on (fun t k => XS.lstoreN X0.here hx rfl (hb hby d2_7) rfl (l' := #[.val (.int n), .val (.long (2891462833508853932 : Int64)), .second, .val (.long (-9222764410617429368 : Int64)), .second]) rfl k) ?_
  show Go p e below _ (s₁.setTop (mkF m 8 #[.val (.int n), .val (.long (2891462833508853932 : Int64)), .second, .val (.long (-9222764410617429368 : Int64)), .second] []))
  refine Go.on (fun t k => XS.iloadN X0.here hx rfl (hb hby d2_8) rfl k) ?_
  show Go p e below _ (s₁.setTop (mkF m 9 #[.val (.int n), .val (.long (2891462833508853932 : Int64)), .second, .val (.long (-9222764410617429368 : Int64)), .second] [(.int n)]))
  refine Go.on (fun t k => XS.bipush X0.here hx rfl (hb hby d2_9) k) ?_
  show Go p e below _ (s₁.setTop (mkF m 11 #[.val (.int n), .val (.long (2891462833508853932 : Int64)), .second, .val (.long (-9222764410617429368 : Int64)), .second] [(.int (64 : Int32)), (.int n)]))
  by_cases hc11 : n < (64 : Int32)
  · refine Go.on (fun t k => XS.icmpNo X0.here hx rfl (hb hby d2_11) rfl (tlt hc11).2.1 k) ?_
    show Go p e below _ (s₁.setTop (mkF m 14 #[.val (.int n), .val (.long (2891462833508853932 : Int64)), .second, .val (.long (-9222764410617429368 : Int64)), .second] []))
    refine Go.on (fun t k => XS.lloadN X0.here hx rfl (hb hby d2_14) rfl k) ?_
    show Go p e below _ (s₁.setTop (mkF m 15 #[.val (.int n), .val (.long (2891462833508853932 : Int64)), .second, .val (.long (-9222764410617429368 : Int64)), .second] [(.long (2891462833508853932 : Int64))]))
    refine Go.on (fun t k => XS.iloadN X0.here hx rfl (hb hby d2_15) rfl k) ?_
    show Go p e below _ (s₁.setTop (mkF m 16 #[.val (.int n), .val (.long (2891462833508853932 : Int64)), .second, .val (.long (-9222764410617429368 : Int64)), .second] [(.int n), (.long (2891462833508853932 : Int64))]))
    refine Go.on (fun t k => XS.lushr X0.here hx rfl (hb hby d2_16) rfl k) ?_
    show Go p e below _ (s₁.setTop (mkF m 17 #[.val (.int n), .val (.long (2891462833508853932 : Int64)), .second, .val (.long (-9222764410617429368 : Int64)), .second] [(.long (ushrJ (2891462833508853932 : Int64) n))]))
    refine Go.on (fun t k => XS.lconst X0.here hx rfl (hb hby d2_17) k) ?_
    show Go p e below _ (s₁.setTop (mkF m 18 #[.val (.int n), .val (.long (2891462833508853932 : Int64)), .second, .val (.long (-9222764410617429368 : Int64)), .second] [(.long (1 : Int64)), (.long (ushrJ (2891462833508853932 : Int64) n))]))
    refine Go.on (fun t k => XS.land X0.here hx rfl (hb hby d2_18) rfl k) ?_
    show Go p e below _ (s₁.setTop (mkF m 19 #[.val (.int n), .val (.long (2891462833508853932 : Int64)), .second, .val (.long (-9222764410617429368 : Int64)), .second] [(.long ((ushrJ (2891462833508853932 : Int64) n) &&& (1 : Int64)))]))
    refine Go.on (fun t k => XS.lconst X0.here hx rfl (hb hby d2_19) k) ?_
    show Go p e below _ (s₁.setTop (mkF m 20 #[.val (.int n), .val (.long (2891462833508853932 : Int64)), .second, .val (.long (-9222764410617429368 : Int64)), .second] [(.long (0 : Int64)), (.long ((ushrJ (2891462833508853932 : Int64) n) &&& (1 : Int64)))]))
    refine Go.on (fun t k => XS.lcmp X0.here hx rfl (hb hby d2_20) rfl k) ?_
    show Go p e below _ (s₁.setTop (mkF m 21 #[.val (.int n), .val (.long (2891462833508853932 : Int64)), .second, .val (.long (-9222764410617429368 : Int64)), .second] [(.int (lcmpW ((ushrJ (2891462833508853932 : Int64) n) &&& (1 : Int64)) (0 : Int64)))]))
    by_cases hc21 : ((ushrJ (2891462833508853932 : Int64) n) &&& (1 : Int64)) = (0 : Int64)
    · refine Go.on (fun t k => XS.ifYes X0.here hx rfl (pc0 := 21) (pc' := 28) rfl (hb hby d2_21) rfl ((if0 _ _).trans (teq ((lw_eq _ _).mpr hc21)).1) (by decide) (by decide) k) ?_
      show Go p e below _ (s₁.setTop (mkF m 28 #[.val (.int n), .val (.long (2891462833508853932 : Int64)), .second, .val (.long (-9222764410617429368 : Int64)), .second] []))
      refine Go.on (fun t k => XS.iconst X0.here hx rfl (hb hby d2_28) k) ?_
      show Go p e below _ (s₁.setTop (mkF m 29 #[.val (.int n), .val (.long (2891462833508853932 : Int64)), .second, .val (.long (-9222764410617429368 : Int64)), .second] [(.int (0 : Int32))]))
      have hv : own_sp n = nar .boolean (0 : Int32) := by simp only [own_sp, hc11, hc21, if_true, if_false]; decide
      exact Go.retN X0 hx hlk hret (by simp) (hb hby d2_29) (Nat.le_refl _) (Nat.le_refl _) ⟨by rw [hv], N0, e0⟩
    · refine Go.on (fun t k => XS.ifNo X0.here hx rfl (hb hby d2_21) rfl ((if0 _ _).trans (feq (fun q => hc21 ((lw_eq _ _).mp q))).1) k) ?_
      show Go p e below _ (s₁.setTop (mkF m 24 #[.val (.int n), .val (.long (2891462833508853932 : Int64)), .second, .val (.long (-9222764410617429368 : Int64)), .second] []))
      refine Go.on (fun t k => XS.iconst X0.here hx rfl (hb hby d2_24) k) ?_
      show Go p e below _ (s₁.setTop (mkF m 25 #[.val (.int n), .val (.long (2891462833508853932 : Int64)), .second, .val (.long (-9222764410617429368 : Int64)), .second] [(.int (1 : Int32))]))
      refine Go.on (fun t k => XS.goto X0.here hx rfl (pc0 := 25) (pc' := 29) rfl (hb hby d2_25) (by decide) (by decide) k) ?_
      show Go p e below _ (s₁.setTop (mkF m 29 #[.val (.int n), .val (.long (2891462833508853932 : Int64)), .second, .val (.long (-9222764410617429368 : Int64)), .second] [(.int (1 : Int32))]))
      have hv : own_sp n = nar .boolean (1 : Int32) := by simp only [own_sp, hc11, hc21, if_true, if_false]; decide
      exact Go.retN X0 hx hlk hret (by simp) (hb hby d2_29) (Nat.le_refl _) (Nat.le_refl _) ⟨by rw [hv], N0, e0⟩
  · refine Go.on (fun t k => XS.icmpYes X0.here hx rfl (pc0 := 11) (pc' := 30) rfl (hb hby d2_11) rfl (flt hc11).2.1 (by decide) (by decide) k) ?_
    show Go p e below _ (s₁.setTop (mkF m 30 #[.val (.int n), .val (.long (2891462833508853932 : Int64)), .second, .val (.long (-9222764410617429368 : Int64)), .second] []))
    refine Go.on (fun t k => XS.lloadN X0.here hx rfl (hb hby d2_30) rfl k) ?_
    show Go p e below _ (s₁.setTop (mkF m 31 #[.val (.int n), .val (.long (2891462833508853932 : Int64)), .second, .val (.long (-9222764410617429368 : Int64)), .second] [(.long (-9222764410617429368 : Int64))]))
    refine Go.on (fun t k => XS.iloadN X0.here hx rfl (hb hby d2_31) rfl k) ?_
    show Go p e below _ (s₁.setTop (mkF m 32 #[.val (.int n), .val (.long (2891462833508853932 : Int64)), .second, .val (.long (-9222764410617429368 : Int64)), .second] [(.int n), (.long (-9222764410617429368 : Int64))]))
    refine Go.on (fun t k => XS.bipush X0.here hx rfl (hb hby d2_32) k) ?_
    show Go p e below _ (s₁.setTop (mkF m 34 #[.val (.int n), .val (.long (2891462833508853932 : Int64)), .second, .val (.long (-9222764410617429368 : Int64)), .second] [(.int (64 : Int32)), (.int n), (.long (-9222764410617429368 : Int64))]))
    refine Go.on (fun t k => XS.isub X0.here hx rfl (hb hby d2_34) rfl k) ?_
    show Go p e below _ (s₁.setTop (mkF m 35 #[.val (.int n), .val (.long (2891462833508853932 : Int64)), .second, .val (.long (-9222764410617429368 : Int64)), .second] [(.int (n - (64 : Int32))), (.long (-9222764410617429368 : Int64))]))
    refine Go.on (fun t k => XS.lushr X0.here hx rfl (hb hby d2_35) rfl k) ?_
    show Go p e below _ (s₁.setTop (mkF m 36 #[.val (.int n), .val (.long (2891462833508853932 : Int64)), .second, .val (.long (-9222764410617429368 : Int64)), .second] [(.long (ushrJ (-9222764410617429368 : Int64) (n - (64 : Int32))))]))
    refine Go.on (fun t k => XS.lconst X0.here hx rfl (hb hby d2_36) k) ?_
    show Go p e below _ (s₁.setTop (mkF m 37 #[.val (.int n), .val (.long (2891462833508853932 : Int64)), .second, .val (.long (-9222764410617429368 : Int64)), .second] [(.long (1 : Int64)), (.long (ushrJ (-9222764410617429368 : Int64) (n - (64 : Int32))))]))
    refine Go.on (fun t k => XS.land X0.here hx rfl (hb hby d2_37) rfl k) ?_
    show Go p e below _ (s₁.setTop (mkF m 38 #[.val (.int n), .val (.long (2891462833508853932 : Int64)), .second, .val (.long (-9222764410617429368 : Int64)), .second] [(.long ((ushrJ (-9222764410617429368 : Int64) (n - (64 : Int32))) &&& (1 : Int64)))]))
    refine Go.on (fun t k => XS.lconst X0.here hx rfl (hb hby d2_38) k) ?_
    show Go p e below _ (s₁.setTop (mkF m 39 #[.val (.int n), .val (.long (2891462833508853932 : Int64)), .second, .val (.long (-9222764410617429368 : Int64)), .second] [(.long (0 : Int64)), (.long ((ushrJ (-9222764410617429368 : Int64) (n - (64 : Int32))) &&& (1 : Int64)))]))
    refine Go.on (fun t k => XS.lcmp X0.here hx rfl (hb hby d2_39) rfl k) ?_
    show Go p e below _ (s₁.setTop (mkF m 40 #[.val (.int n), .val (.long (2891462833508853932 : Int64)), .second, .val (.long (-9222764410617429368 : Int64)), .second] [(.int (lcmpW ((ushrJ (-9222764410617429368 : Int64) (n - (64 : Int32))) &&& (1 : Int64)) (0 : Int64)))]))
    by_cases hc40 : ((ushrJ (-9222764410617429368 : Int64) (n - (64 : Int32))) &&& (1 : Int64)) = (0 : Int64)
    · refine Go.on (fun t k => XS.ifYes X0.here hx rfl (pc0 := 40) (pc' := 47) rfl (hb hby d2_40) rfl ((if0 _ _).trans (teq ((lw_eq _ _).mpr hc40)).1) (by decide) (by decide) k) ?_
      show Go p e below _ (s₁.setTop (mkF m 47 #[.val (.int n), .val (.long (2891462833508853932 : Int64)), .second, .val (.long (-9222764410617429368 : Int64)), .second] []))
      refine Go.on (fun t k => XS.iconst X0.here hx rfl (hb hby d2_47) k) ?_
      show Go p e below _ (s₁.setTop (mkF m 48 #[.val (.int n), .val (.long (2891462833508853932 : Int64)), .second, .val (.long (-9222764410617429368 : Int64)), .second] [(.int (0 : Int32))]))
      have hv : own_sp n = nar .boolean (0 : Int32) := by simp only [own_sp, hc11, hc40, if_true, if_false]; decide
      exact Go.retN X0 hx hlk hret (by simp) (hb hby d2_48) (Nat.le_refl _) (Nat.le_refl _) ⟨by rw [hv], N0, e0⟩
    · refine Go.on (fun t k => XS.ifNo X0.here hx rfl (hb hby d2_40) rfl ((if0 _ _).trans (feq (fun q => hc40 ((lw_eq _ _).mp q))).1) k) ?_
      show Go p e below _ (s₁.setTop (mkF m 43 #[.val (.int n), .val (.long (2891462833508853932 : Int64)), .second, .val (.long (-9222764410617429368 : Int64)), .second] []))
      refine Go.on (fun t k => XS.iconst X0.here hx rfl (hb hby d2_43) k) ?_
      show Go p e below _ (s₁.setTop (mkF m 44 #[.val (.int n), .val (.long (2891462833508853932 : Int64)), .second, .val (.long (-9222764410617429368 : Int64)), .second] [(.int (1 : Int32))]))
      refine Go.on (fun t k => XS.goto X0.here hx rfl (pc0 := 44) (pc' := 48) rfl (hb hby d2_44) (by decide) (by decide) k) ?_
      show Go p e below _ (s₁.setTop (mkF m 48 #[.val (.int n), .val (.long (2891462833508853932 : Int64)), .second, .val (.long (-9222764410617429368 : Int64)), .second] [(.int (1 : Int32))]))
      have hv : own_sp n = nar .boolean (1 : Int32) := by simp only [own_sp, hc11, hc40, if_true, if_false]; decide
      exact Go.retN X0 hx hlk hret (by simp) (hb hby d2_48) (Nat.le_refl _) (Nat.le_refl _) ⟨by rw [hv], N0, e0⟩
def own_x (a : Int32) : Int32 := (2 : Int32) + ((a &&& (2147483647 : Int32)) % (46339 : Int32))
def own_top (a : Int32) : Int32 := (2147483647 : Int32) / own_x a
def own_y (a b : Int32) : Int32 := (2 : Int32) + ((b &&& (2147483647 : Int32)) % (own_top a - (1 : Int32)))
def own_big (k : Nat) : Int32 := if k = 0 then 2147483647 else if k = 1 then 1000000007 else if k = 2 then 1000000009 else if k = 3 then 998244353 else if k = 4 then 999999937 else if k = 5 then 131071 else if k = 6 then 524287 else 8191
theorem own_less {n : Int32} (h : n < (2 : Int32)) : own_ip n = (0 : Int32) := by
  have h' := Int32.lt_iff_toInt_lt.mp h
  have z2 : (2 : Int32).toInt = 2 := by decide
  have q : own_np n.toInt.toNat = false := by
    rw [own_np, if_pos (by omega)]
    exact decide_eq_false (by omega)
  rw [own_ip, q]
  decide
set_option maxRecDepth 65536 in
theorem own_tab : ∀ t : Fin 128, own_ip (Int32.ofNat t.1) = own_sp (Int32.ofNat t.1) := by decide +kernel
theorem own_table (n : Int32) : own_ip (n &&& (127 : Int32)) = own_sp (n &&& (127 : Int32)) := by
  have h : (n &&& (127 : Int32)).toInt = n.toInt % (2 ^ 7 : Nat) := c_mask n 127 7 (by decide) (by decide)
  have h2 : (2 ^ 7 : Nat) = 128 := by decide
  rw [h2] at h
  have hlt : (n &&& (127 : Int32)).toInt.toNat < 128 := by omega
  have e : (n &&& (127 : Int32)) = Int32.ofNat (n &&& (127 : Int32)).toInt.toNat := by
    apply Int32.toInt_inj.mp
    rw [Int32.toInt_ofNat_of_lt (by omega)]
    omega
  have := own_tab ⟨_, hlt⟩
  rw [e]
  exact this
theorem own_x_rng (a : Int32) : 2 ≤ (own_x a).toInt ∧ (own_x a).toInt ≤ 46340 := by
  have h : (a &&& (2147483647 : Int32)).toInt = a.toInt % (2 ^ 31 : Nat) := c_mask a 2147483647 31 (by decide) (by decide)
  have h2 : (2 ^ 31 : Nat) = 2147483648 := by decide
  rw [h2] at h
  have zk : (46339 : Int32).toInt = 46339 := by decide
  have z2 : (2 : Int32).toInt = 2 := by decide
  have r := (c_irem (a &&& (2147483647 : Int32)) 46339 _ zk).1 (by omega)
  have c := c_iadd 2 ((a &&& (2147483647 : Int32)) % (46339 : Int32))
  have b := rng32 ((2 : Int32) + ((a &&& (2147483647 : Int32)) % (46339 : Int32)))
  unfold own_x
  omega
theorem own_x_nz (a : Int32) : own_x a ≠ 0 := by
  intro h
  have := own_x_rng a
  rw [h] at this
  have z : (0 : Int32).toInt = 0 := by decide
  omega
theorem own_top_is (a : Int32) : (own_top a).toInt = 2147483647 / (own_x a).toInt := by
  have hx := own_x_rng a
  have hm1 : own_x a ≠ (-1 : Int32) := by
    intro h
    rw [h] at hx
    have : (-1 : Int32).toInt = -1 := by decide
    omega
  have z : (2147483647 : Int32).toInt = 2147483647 := by decide
  have := (c_idiv 2147483647 (own_x a) _ rfl hm1).1 (by omega)
  rw [z] at this
  exact this
theorem own_top_ge (a : Int32) : 46341 ≤ (own_top a).toInt ∧ (own_top a).toInt * (own_x a).toInt ≤ 2147483647 ∧ (own_top a).toInt ≤ 2147483647 := by
  have hx := own_x_rng a
  rw [own_top_is]
  refine ⟨?_, Int.ediv_mul_le _ (by omega), ?_⟩
  · rw [Int.le_ediv_iff_mul_le (by omega)]
    omega
  · exact Int.ediv_le_self _ (by decide)
theorem own_t1 (a : Int32) : (own_top a - (1 : Int32)).toInt = (own_top a).toInt - 1 := by
  have ht := own_top_ge a
  have c := c_isub (own_top a) 1
  have b := rng32 (own_top a - (1 : Int32))
  have z : (1 : Int32).toInt = 1 := by decide
  omega
theorem own_t_nz (a : Int32) : own_top a - (1 : Int32) ≠ 0 := by
  intro h
  have := own_t1 a
  have ht := own_top_ge a
  rw [h] at this
  have z : (0 : Int32).toInt = 0 := by decide
  omega
theorem own_y_rng (a b : Int32) : 2 ≤ (own_y a b).toInt ∧ (own_y a b).toInt ≤ (own_top a).toInt := by
  have h : (b &&& (2147483647 : Int32)).toInt = b.toInt % (2 ^ 31 : Nat) := c_mask b 2147483647 31 (by decide) (by decide)
  have h2 : (2 ^ 31 : Nat) = 2147483648 := by decide
  rw [h2] at h
  have ht := own_top_ge a
  have h1 := own_t1 a
  have z2 : (2 : Int32).toInt = 2 := by decide
  have r := (c_irem (b &&& (2147483647 : Int32)) (own_top a - (1 : Int32)) _ h1).1 (by omega)
  have m0 := Int.emod_nonneg (b &&& (2147483647 : Int32)).toInt (show (own_top a).toInt - 1 ≠ 0 by omega)
  have m1 := Int.emod_lt_of_pos (b &&& (2147483647 : Int32)).toInt (show 0 < (own_top a).toInt - 1 by omega)
  rw [← r] at m0 m1
  have c := c_iadd 2 ((b &&& (2147483647 : Int32)) % (own_top a - (1 : Int32)))
  have bb := rng32 ((2 : Int32) + ((b &&& (2147483647 : Int32)) % (own_top a - (1 : Int32))))
  unfold own_y
  omega
theorem own_composite (a b : Int32) : own_ip (own_x a * own_y a b) = (0 : Int32) := by
  have hx := own_x_rng a
  have hy := own_y_rng a b
  have ht := own_top_ge a
  have hle : (own_x a).toInt * (own_y a b).toInt ≤ 2147483647 := by
    have : (own_x a).toInt * (own_y a b).toInt ≤ (own_x a).toInt * (own_top a).toInt := Int.mul_le_mul_of_nonneg_left hy.2 (by omega)
    have e := Int.mul_comm (own_x a).toInt (own_top a).toInt
    omega
  have hge : 0 ≤ (own_x a).toInt * (own_y a b).toInt := Int.mul_nonneg (by omega) (by omega)
  have e : (own_x a * own_y a b).toInt = (own_x a).toInt * (own_y a b).toInt := by
    have c := c_imul (own_x a) (own_y a b)
    have bb := rng32 (own_x a * own_y a b)
    omega
  have e2 : (own_x a * own_y a b).toInt.toNat = (own_x a).toInt.toNat * (own_y a b).toInt.toNat := by
    rw [e, Int.toNat_mul (by omega) (by omega)]
  have q : own_np (own_x a * own_y a b).toInt.toNat = false := by
    have : (own_x a).toInt.toNat * (own_y a b).toInt.toNat < 2147483648 := by rw [← e2, e]; omega
    rw [e2]
    exact own_comp (by omega) (by omega) this
  rw [own_ip, q]
  decide
set_option maxRecDepth 65536 in
theorem own_bigs : ∀ t : Fin 8, own_ip (own_big t.1) = (1 : Int32) := by decide +kernel
theorem own_and7 (k : Int32) : 0 ≤ (k &&& (7 : Int32)).toInt ∧ (k &&& (7 : Int32)).toInt < 8 := by
  have h : (k &&& (7 : Int32)).toInt = k.toInt % (2 ^ 3 : Nat) := c_mask k 7 3 (by decide) (by decide)
  have h2 : (2 ^ 3 : Nat) = 8 := by decide
  rw [h2] at h
  omega
def Q0 (n0 : Nat) (v : Option Value) (h : Heap) (L : List Loc) : Prop := v = some (.int 1) ∧ Fr n0 L
theorem pn_0 : plainFor x = true := by first | exact plainFor_of_name (by first | (simp [plainName, overriddenIn]; done) | decide +kernel) | decide +kernel
theorem ef_0 (m : MethodId) (x0 : Int32) (x1 : Int32) (x2 : Int32) (x3 : Int32) : entryFrame m #[(.int x0), (.int x1), (.int x2), (.int x3)] maxLocals = mkF m 0 #[.val (.int x0), .val (.int x1), .val (.int x2), .val (.int x3), .unset, .unset, .unset, .unset, .unset, .unset, .unset, .unset, .unset] [] := by first | (simp [entryFrame, mkF, argsToLocals, Value.category, maxLocals]; done) | rfl
set_option maxRecDepth 65536 in
set_option maxHeartbeats 40000000 in
theorem rm0 (l : Launch) (Z : State) (a0 : Array Value) (hw : ∀ d ∈ tables_1, d.before a0 Z = true) (ws : List Jvm.Cond) (p1 p2 p3 p4 : Int32) (h0 : Heap) (n0 : Nat) (Z0 : n0 ≤ h0.size)  :
    MetFree l x (head1 (Jvm.Cond.code x code maxLocals ret :: ws) room_1) (fun a U => a = #[(.int p1), (.int p2), (.int p3), (.int p4)] ∧ Z.Warmed39 U.vm ∧ U.heap = h0) (fun _ _ _ _ _ => True) (fun _ U o U' => ∃ v L, o = .returned v ∧ Q0 n0 v U'.heap L ∧ FrameEnd U o U' L 16 128) := by
  refine MetFree.of_bodySF pn_0 hisR ?_
  intro p e s m args below meth c s₁ Bd hml0 hP hK
  obtain ⟨rfl, hZ, hh⟩ := hP
  have hx := Bd.exec
  have hby := Bd.bytes
  have hlk := Bd.notSynchronized
  have hret := Bd.returns
  have hml : c.maxLocals = 13 := hml0
  have hown : s.vm.findClass "com/example/rillwork/rillwork/jobs/PrimesJobIsPrimePinLaw" = some m.cls := findClass_of_methodNamed Bd.named
  have hnm := (name_of_methodNamed Bd.named Bd.method).1
  have X0 : Stand p l e room_1 s m #[(.int p1), (.int p2), (.int p3), (.int p4)] below meth c s₁ [] 0 0 := Stand.of_body Bd
  have e0 : s₁.heap = h0 := by rw [← hh, Bd.state]; rfl
  have N0 := Fr.nil n0
  show Go p e below (Pst s (Q0 n0) 16 128) (s₁.setTop (entryFrame m #[(.int p1), (.int p2), (.int p3), (.int p4)] maxLocals))
  refine Go.on (fun t k => castTop (ef_0 m p1 p2 p3 p4) k) ?_
  show Go p e below _ (s₁.setTop (mkF m 0 #[.val (.int p1), .val (.int p2), .val (.int p3), .val (.int p4), .unset, .unset, .unset, .unset, .unset, .unset, .unset, .unset, .unset] []))
  refine Go.on (fun t k => XS.iloadN X0.here hx rfl (hb hby at_0) rfl k) ?_
  show Go p e below _ (s₁.setTop (mkF m 1 #[.val (.int p1), .val (.int p2), .val (.int p3), .val (.int p4), .unset, .unset, .unset, .unset, .unset, .unset, .unset, .unset, .unset] [(.int p1)]))
  refine Go.on (fun t k => XS.iconst X0.here hx rfl (hb hby at_1) k) ?_
  show Go p e below _ (s₁.setTop (mkF m 2 #[.val (.int p1), .val (.int p2), .val (.int p3), .val (.int p4), .unset, .unset, .unset, .unset, .unset, .unset, .unset, .unset, .unset] [(.int (2 : Int32)), (.int p1)]))
  by_cases hc2 : p1 < (2 : Int32)
  · refine Go.on (fun t k => XS.icmpNo X0.here hx rfl (hb hby at_2) rfl (tlt hc2).2.1 k) ?_
    show Go p e below _ (s₁.setTop (mkF m 5 #[.val (.int p1), .val (.int p2), .val (.int p3), .val (.int p4), .unset, .unset, .unset, .unset, .unset, .unset, .unset, .unset, .unset] []))
    refine Go.on (fun t k => XS.iloadN X0.here hx rfl (hb hby at_5) rfl k) ?_
    show Go p e below _ (s₁.setTop (mkF m 6 #[.val (.int p1), .val (.int p2), .val (.int p3), .val (.int p4), .unset, .unset, .unset, .unset, .unset, .unset, .unset, .unset, .unset] [(.int p1)]))
    obtain ⟨_, _, ⟨T1, L1, k1, n1⟩, -, X1, ⟨Lc1, hQ1, l1, y1, z1⟩, st1⟩ := Jvm.LawKit.callS X0 hx (y := (⟨"com/example/rillwork/rillwork/jobs/PrimesJob", "isPrime", "(I)Z"⟩ : MethodName)) hown (mvT hZ (hw _ (List.mem_of_getElem? (i := 0) rfl))) (mvT hZ (hw _ (List.mem_of_getElem? (i := 1) rfl))) (mvT hZ (hw _ (List.mem_of_getElem? (i := 2) rfl))) (mvT hZ (hw _ (List.mem_of_getElem? (i := 3) rfl))) (by decide) (backOf (W := 0) (rm1 l Z a0 hw [] p1 h0 n0 Z0) hZ (hw _ (List.mem_of_getElem? (i := 3) rfl)) (hw _ (List.mem_of_getElem? (i := 2) rfl)) (by decide) (by decide)) (g := (mkF m 6 #[.val (.int p1), .val (.int p2), .val (.int p3), .val (.int p4), .unset, .unset, .unset, .unset, .unset, .unset, .unset, .unset, .unset] [(.int p1)])) rfl (by rw [hml]; rfl) (argsL := [(.int p1)]) (rest := []) (lenOf pd_1 rfl) rfl (by show 2 * 0 + _ ≤ _; exact Nat.le_of_eq rfl) (hb hby at_6) (fun _ _ => ⟨rfl, e0, (by decide : 0 + 0 ≤ _), (by decide : 0 + 0 ≤ _)⟩)
    dsimp only [Pt.U, Pt.locs, Pt.cells, Pt.slots] at X1 l1 y1 z1 st1 hQ1
    subst l1 y1 z1
    obtain ⟨rfl, N1q, e1⟩ := hQ1
    have N1 := Fr.app N0 N1q
    refine Go.on st1 ?_
    show Go p e below _ (T1.setTop (mkF m 9 #[.val (.int p1), .val (.int p2), .val (.int p3), .val (.int p4), .unset, .unset, .unset, .unset, .unset, .unset, .unset, .unset, .unset] [(.int (own_ip p1))]))
    have Zc1 : n0 ≤ T1.heap.size := by rw [e1]; exact Z0
    refine Go.on (fun t k => XS.ifNo X1.here hx rfl (hb hby at_9) rfl ((if0 _ _).trans (teq (own_less hc2 : (own_ip p1) = (0 : Int32))).2) k) ?_
    show Go p e below _ (T1.setTop (mkF m 12 #[.val (.int p1), .val (.int p2), .val (.int p3), .val (.int p4), .unset, .unset, .unset, .unset, .unset, .unset, .unset, .unset, .unset] []))
    refine Go.on (fun t k => XS.iconst X1.here hx rfl (hb hby at_12) k) ?_
    show Go p e below _ (T1.setTop (mkF m 13 #[.val (.int p1), .val (.int p2), .val (.int p3), .val (.int p4), .unset, .unset, .unset, .unset, .unset, .unset, .unset, .unset, .unset] [(.int (1 : Int32))]))
    refine Go.on (fun t k => XS.goto X1.here hx rfl (pc0 := 13) (pc' := 17) rfl (hb hby at_13) (by decide) (by decide) k) ?_
    show Go p e below _ (T1.setTop (mkF m 17 #[.val (.int p1), .val (.int p2), .val (.int p3), .val (.int p4), .unset, .unset, .unset, .unset, .unset, .unset, .unset, .unset, .unset] [(.int (1 : Int32))]))
    refine Go.on (fun t k => XS.istore X1.here hx rfl (hb hby at_17) rfl (l' := #[.val (.int p1), .val (.int p2), .val (.int p3), .val (.int p4), .val (.int (1 : Int32)), .unset, .unset, .unset, .unset, .unset, .unset, .unset, .unset]) rfl k) ?_
    show Go p e below _ (T1.setTop (mkF m 19 #[.val (.int p1), .val (.int p2), .val (.int p3), .val (.int p4), .val (.int (1 : Int32)), .unset, .unset, .unset, .unset, .unset, .unset, .unset, .unset] []))
    refine Go.on (fun t k => XS.iloadN X1.here hx rfl (hb hby at_19) rfl k) ?_
    show Go p e below _ (T1.setTop (mkF m 20 #[.val (.int p1), .val (.int p2), .val (.int p3), .val (.int p4), .val (.int (1 : Int32)), .unset, .unset, .unset, .unset, .unset, .unset, .unset, .unset] [(.int p1)]))
    refine Go.on (fun t k => XS.bipush X1.here hx rfl (hb hby at_20) k) ?_
    show Go p e below _ (T1.setTop (mkF m 22 #[.val (.int p1), .val (.int p2), .val (.int p3), .val (.int p4), .val (.int (1 : Int32)), .unset, .unset, .unset, .unset, .unset, .unset, .unset, .unset] [(.int (127 : Int32)), (.int p1)]))
    refine Go.on (fun t k => XS.iand X1.here hx rfl (hb hby at_22) rfl k) ?_
    show Go p e below _ (T1.setTop (mkF m 23 #[.val (.int p1), .val (.int p2), .val (.int p3), .val (.int p4), .val (.int (1 : Int32)), .unset, .unset, .unset, .unset, .unset, .unset, .unset, .unset] [(.int (p1 &&& (127 : Int32)))]))
    refine Go.on (fun t k => XS.istore X1.here hx rfl (hb hby at_23) rfl (l' := #[.val (.int p1), .val (.int p2), .val (.int p3), .val (.int p4), .val (.int (1 : Int32)), .val (.int (p1 &&& (127 : Int32))), .unset, .unset, .unset, .unset, .unset, .unset, .unset]) rfl k) ?_
    show Go p e below _ (T1.setTop (mkF m 25 #[.val (.int p1), .val (.int p2), .val (.int p3), .val (.int p4), .val (.int (1 : Int32)), .val (.int (p1 &&& (127 : Int32))), .unset, .unset, .unset, .unset, .unset, .unset, .unset] []))
    refine Go.on (fun t k => XS.iload X1.here hx rfl (hb hby at_25) rfl k) ?_
    show Go p e below _ (T1.setTop (mkF m 27 #[.val (.int p1), .val (.int p2), .val (.int p3), .val (.int p4), .val (.int (1 : Int32)), .val (.int (p1 &&& (127 : Int32))), .unset, .unset, .unset, .unset, .unset, .unset, .unset] [(.int (p1 &&& (127 : Int32)))]))
    obtain ⟨_, _, ⟨T2, L2, k2, n2⟩, -, X2, ⟨Lc2, hQ2, l2, y2, z2⟩, st2⟩ := Jvm.LawKit.callS X1 hx (y := (⟨"com/example/rillwork/rillwork/jobs/PrimesJob", "isPrime", "(I)Z"⟩ : MethodName)) hown (mvT hZ (hw _ (List.mem_of_getElem? (i := 0) rfl))) (mvT hZ (hw _ (List.mem_of_getElem? (i := 1) rfl))) (mvT hZ (hw _ (List.mem_of_getElem? (i := 2) rfl))) (mvT hZ (hw _ (List.mem_of_getElem? (i := 3) rfl))) (by decide) (backOf (W := 0) (rm1 l Z a0 hw [] (p1 &&& (127 : Int32)) T1.heap n0 Zc1) hZ (hw _ (List.mem_of_getElem? (i := 3) rfl)) (hw _ (List.mem_of_getElem? (i := 2) rfl)) (by decide) (by decide)) (g := (mkF m 27 #[.val (.int p1), .val (.int p2), .val (.int p3), .val (.int p4), .val (.int (1 : Int32)), .val (.int (p1 &&& (127 : Int32))), .unset, .unset, .unset, .unset, .unset, .unset, .unset] [(.int (p1 &&& (127 : Int32)))])) rfl (by rw [hml]; rfl) (argsL := [(.int (p1 &&& (127 : Int32)))]) (rest := []) (lenOf pd_1 rfl) rfl (by show 2 * 0 + _ ≤ _; exact Nat.le_of_eq rfl) (hb hby at_27) (fun _ _ => ⟨rfl, (rfl : T1.heap = T1.heap), (by decide : 0 + 0 ≤ _), (by decide : 0 + 0 ≤ _)⟩)
    dsimp only [Pt.U, Pt.locs, Pt.cells, Pt.slots] at X2 l2 y2 z2 st2 hQ2
    subst l2 y2 z2
    obtain ⟨rfl, N2q, e2⟩ := hQ2
    have N2 := Fr.app N1 N2q
    refine Go.on st2 ?_
    show Go p e below _ (T2.setTop (mkF m 30 #[.val (.int p1), .val (.int p2), .val (.int p3), .val (.int p4), .val (.int (1 : Int32)), .val (.int (p1 &&& (127 : Int32))), .unset, .unset, .unset, .unset, .unset, .unset, .unset] [(.int (own_ip (p1 &&& (127 : Int32))))]))
    have Zc2 : n0 ≤ T2.heap.size := by rw [e2]; exact Zc1
    refine Go.on (fun t k => XS.iload X2.here hx rfl (hb hby at_30) rfl k) ?_
    show Go p e below _ (T2.setTop (mkF m 32 #[.val (.int p1), .val (.int p2), .val (.int p3), .val (.int p4), .val (.int (1 : Int32)), .val (.int (p1 &&& (127 : Int32))), .unset, .unset, .unset, .unset, .unset, .unset, .unset] [(.int (p1 &&& (127 : Int32))), (.int (own_ip (p1 &&& (127 : Int32))))]))
    obtain ⟨_, _, ⟨T3, L3, k3, n3⟩, -, X3, ⟨Lc3, hQ3, l3, y3, z3⟩, st3⟩ := Jvm.LawKit.callS X2 hx (y := (⟨"com/example/rillwork/rillwork/jobs/PrimesJobIsPrimePinLaw", "smallPrime", "(I)Z"⟩ : MethodName)) hown (mvT hZ (hw _ (List.mem_of_getElem? (i := 4) rfl))) (mvT hZ (hw _ (List.mem_of_getElem? (i := 5) rfl))) (mvT hZ (hw _ (List.mem_of_getElem? (i := 6) rfl))) (mvT hZ (hw _ (List.mem_of_getElem? (i := 7) rfl))) (by decide) (backOf (W := 1) (rm2 l Z a0 hw [] (p1 &&& (127 : Int32)) T2.heap n0 Zc2) hZ (hw _ (List.mem_of_getElem? (i := 7) rfl)) (hw _ (List.mem_of_getElem? (i := 6) rfl)) (by decide) (by decide)) (g := (mkF m 32 #[.val (.int p1), .val (.int p2), .val (.int p3), .val (.int p4), .val (.int (1 : Int32)), .val (.int (p1 &&& (127 : Int32))), .unset, .unset, .unset, .unset, .unset, .unset, .unset] [(.int (p1 &&& (127 : Int32))), (.int (own_ip (p1 &&& (127 : Int32))))])) rfl (by rw [hml]; rfl) (argsL := [(.int (p1 &&& (127 : Int32)))]) (rest := [(.int (own_ip (p1 &&& (127 : Int32))))]) (lenOf pd_1 rfl) rfl (by show 2 * 0 + _ ≤ _; exact Nat.le_of_eq rfl) (hb hby at_32) (fun _ _ => ⟨rfl, (rfl : T2.heap = T2.heap), (by decide : 0 + 0 ≤ _), (by decide : 0 + 0 ≤ _)⟩)
    dsimp only [Pt.U, Pt.locs, Pt.cells, Pt.slots] at X3 l3 y3 z3 st3 hQ3
    subst l3 y3 z3
    obtain ⟨rfl, N3q, e3⟩ := hQ3
    have N3 := Fr.app N2 N3q
    refine Go.on st3 ?_
    show Go p e below _ (T3.setTop (mkF m 35 #[.val (.int p1), .val (.int p2), .val (.int p3), .val (.int p4), .val (.int (1 : Int32)), .val (.int (p1 &&& (127 : Int32))), .unset, .unset, .unset, .unset, .unset, .unset, .unset] [(.int (own_sp (p1 &&& (127 : Int32)))), (.int (own_ip (p1 &&& (127 : Int32))))]))
    have Zc3 : n0 ≤ T3.heap.size := by rw [e3]; exact Zc2
    refine Go.on (fun t k => XS.icmpNo X3.here hx rfl (hb hby at_35) rfl (teq (own_table p1 : (own_ip (p1 &&& (127 : Int32))) = (own_sp (p1 &&& (127 : Int32))))).2 k) ?_
    show Go p e below _ (T3.setTop (mkF m 38 #[.val (.int p1), .val (.int p2), .val (.int p3), .val (.int p4), .val (.int (1 : Int32)), .val (.int (p1 &&& (127 : Int32))), .unset, .unset, .unset, .unset, .unset, .unset, .unset] []))
    refine Go.on (fun t k => XS.iconst X3.here hx rfl (hb hby at_38) k) ?_
    show Go p e below _ (T3.setTop (mkF m 39 #[.val (.int p1), .val (.int p2), .val (.int p3), .val (.int p4), .val (.int (1 : Int32)), .val (.int (p1 &&& (127 : Int32))), .unset, .unset, .unset, .unset, .unset, .unset, .unset] [(.int (1 : Int32))]))
    refine Go.on (fun t k => XS.goto X3.here hx rfl (pc0 := 39) (pc' := 43) rfl (hb hby at_39) (by decide) (by decide) k) ?_
    show Go p e below _ (T3.setTop (mkF m 43 #[.val (.int p1), .val (.int p2), .val (.int p3), .val (.int p4), .val (.int (1 : Int32)), .val (.int (p1 &&& (127 : Int32))), .unset, .unset, .unset, .unset, .unset, .unset, .unset] [(.int (1 : Int32))]))
    refine Go.on (fun t k => XS.istore X3.here hx rfl (hb hby at_43) rfl (l' := #[.val (.int p1), .val (.int p2), .val (.int p3), .val (.int p4), .val (.int (1 : Int32)), .val (.int (p1 &&& (127 : Int32))), .val (.int (1 : Int32)), .unset, .unset, .unset, .unset, .unset, .unset]) rfl k) ?_
    show Go p e below _ (T3.setTop (mkF m 45 #[.val (.int p1), .val (.int p2), .val (.int p3), .val (.int p4), .val (.int (1 : Int32)), .val (.int (p1 &&& (127 : Int32))), .val (.int (1 : Int32)), .unset, .unset, .unset, .unset, .unset, .unset] []))
    refine Go.on (fun t k => XS.iconst X3.here hx rfl (hb hby at_45) k) ?_
    show Go p e below _ (T3.setTop (mkF m 46 #[.val (.int p1), .val (.int p2), .val (.int p3), .val (.int p4), .val (.int (1 : Int32)), .val (.int (p1 &&& (127 : Int32))), .val (.int (1 : Int32)), .unset, .unset, .unset, .unset, .unset, .unset] [(.int (2 : Int32))]))
    refine Go.on (fun t k => XS.iloadN X3.here hx rfl (hb hby at_46) rfl k) ?_
    show Go p e below _ (T3.setTop (mkF m 47 #[.val (.int p1), .val (.int p2), .val (.int p3), .val (.int p4), .val (.int (1 : Int32)), .val (.int (p1 &&& (127 : Int32))), .val (.int (1 : Int32)), .unset, .unset, .unset, .unset, .unset, .unset] [(.int p2), (.int (2 : Int32))]))
    refine Go.on (fun t k => X3.ldcInt hx hown (mvT hZ (hw _ (List.mem_of_getElem? (i := 10) rfl))) (g := (mkF m 47 #[.val (.int p1), .val (.int p2), .val (.int p3), .val (.int p4), .val (.int (1 : Int32)), .val (.int (p1 &&& (127 : Int32))), .val (.int (1 : Int32)), .unset, .unset, .unset, .unset, .unset, .unset] [(.int p2), (.int (2 : Int32))])) rfl (hb hby at_47) _ k) ?_
    show Go p e below _ (T3.setTop (mkF m 49 #[.val (.int p1), .val (.int p2), .val (.int p3), .val (.int p4), .val (.int (1 : Int32)), .val (.int (p1 &&& (127 : Int32))), .val (.int (1 : Int32)), .unset, .unset, .unset, .unset, .unset, .unset] [(.int (2147483647 : Int32)), (.int p2), (.int (2 : Int32))]))
    refine Go.on (fun t k => XS.iand X3.here hx rfl (hb hby at_49) rfl k) ?_
    show Go p e below _ (T3.setTop (mkF m 50 #[.val (.int p1), .val (.int p2), .val (.int p3), .val (.int p4), .val (.int (1 : Int32)), .val (.int (p1 &&& (127 : Int32))), .val (.int (1 : Int32)), .unset, .unset, .unset, .unset, .unset, .unset] [(.int (p2 &&& (2147483647 : Int32))), (.int (2 : Int32))]))
    refine Go.on (fun t k => X3.ldcInt hx hown (mvT hZ (hw _ (List.mem_of_getElem? (i := 11) rfl))) (g := (mkF m 50 #[.val (.int p1), .val (.int p2), .val (.int p3), .val (.int p4), .val (.int (1 : Int32)), .val (.int (p1 &&& (127 : Int32))), .val (.int (1 : Int32)), .unset, .unset, .unset, .unset, .unset, .unset] [(.int (p2 &&& (2147483647 : Int32))), (.int (2 : Int32))])) rfl (hb hby at_50) _ k) ?_
    show Go p e below _ (T3.setTop (mkF m 52 #[.val (.int p1), .val (.int p2), .val (.int p3), .val (.int p4), .val (.int (1 : Int32)), .val (.int (p1 &&& (127 : Int32))), .val (.int (1 : Int32)), .unset, .unset, .unset, .unset, .unset, .unset] [(.int (46339 : Int32)), (.int (p2 &&& (2147483647 : Int32))), (.int (2 : Int32))]))
    refine Go.on (fun t k => iremM X3 hx rfl (hb hby at_52) rfl (by decide) k) ?_
    show Go p e below _ (T3.setTop (mkF m 53 #[.val (.int p1), .val (.int p2), .val (.int p3), .val (.int p4), .val (.int (1 : Int32)), .val (.int (p1 &&& (127 : Int32))), .val (.int (1 : Int32)), .unset, .unset, .unset, .unset, .unset, .unset] [(.int ((p2 &&& (2147483647 : Int32)) % (46339 : Int32))), (.int (2 : Int32))]))
    refine Go.on (fun t k => XS.iadd X3.here hx rfl (hb hby at_53) rfl k) ?_
    show Go p e below _ (T3.setTop (mkF m 54 #[.val (.int p1), .val (.int p2), .val (.int p3), .val (.int p4), .val (.int (1 : Int32)), .val (.int (p1 &&& (127 : Int32))), .val (.int (1 : Int32)), .unset, .unset, .unset, .unset, .unset, .unset] [(.int (own_x p2))]))
    refine Go.on (fun t k => XS.istore X3.here hx rfl (hb hby at_54) rfl (l' := #[.val (.int p1), .val (.int p2), .val (.int p3), .val (.int p4), .val (.int (1 : Int32)), .val (.int (p1 &&& (127 : Int32))), .val (.int (1 : Int32)), .val (.int (own_x p2)), .unset, .unset, .unset, .unset, .unset]) rfl k) ?_
    show Go p e below _ (T3.setTop (mkF m 56 #[.val (.int p1), .val (.int p2), .val (.int p3), .val (.int p4), .val (.int (1 : Int32)), .val (.int (p1 &&& (127 : Int32))), .val (.int (1 : Int32)), .val (.int (own_x p2)), .unset, .unset, .unset, .unset, .unset] []))
    refine Go.on (fun t k => X3.ldcInt hx hown (mvT hZ (hw _ (List.mem_of_getElem? (i := 10) rfl))) (g := (mkF m 56 #[.val (.int p1), .val (.int p2), .val (.int p3), .val (.int p4), .val (.int (1 : Int32)), .val (.int (p1 &&& (127 : Int32))), .val (.int (1 : Int32)), .val (.int (own_x p2)), .unset, .unset, .unset, .unset, .unset] [])) rfl (hb hby at_56) _ k) ?_
    show Go p e below _ (T3.setTop (mkF m 58 #[.val (.int p1), .val (.int p2), .val (.int p3), .val (.int p4), .val (.int (1 : Int32)), .val (.int (p1 &&& (127 : Int32))), .val (.int (1 : Int32)), .val (.int (own_x p2)), .unset, .unset, .unset, .unset, .unset] [(.int (2147483647 : Int32))]))
    refine Go.on (fun t k => XS.iload X3.here hx rfl (hb hby at_58) rfl k) ?_
    show Go p e below _ (T3.setTop (mkF m 60 #[.val (.int p1), .val (.int p2), .val (.int p3), .val (.int p4), .val (.int (1 : Int32)), .val (.int (p1 &&& (127 : Int32))), .val (.int (1 : Int32)), .val (.int (own_x p2)), .unset, .unset, .unset, .unset, .unset] [(.int (own_x p2)), (.int (2147483647 : Int32))]))
    refine Go.on (fun t k => XS.idiv X3.here hx rfl (hb hby at_60) rfl (own_x_nz p2) k) ?_
    show Go p e below _ (T3.setTop (mkF m 61 #[.val (.int p1), .val (.int p2), .val (.int p3), .val (.int p4), .val (.int (1 : Int32)), .val (.int (p1 &&& (127 : Int32))), .val (.int (1 : Int32)), .val (.int (own_x p2)), .unset, .unset, .unset, .unset, .unset] [(.int (own_top p2))]))
    refine Go.on (fun t k => XS.istore X3.here hx rfl (hb hby at_61) rfl (l' := #[.val (.int p1), .val (.int p2), .val (.int p3), .val (.int p4), .val (.int (1 : Int32)), .val (.int (p1 &&& (127 : Int32))), .val (.int (1 : Int32)), .val (.int (own_x p2)), .val (.int (own_top p2)), .unset, .unset, .unset, .unset]) rfl k) ?_
    show Go p e below _ (T3.setTop (mkF m 63 #[.val (.int p1), .val (.int p2), .val (.int p3), .val (.int p4), .val (.int (1 : Int32)), .val (.int (p1 &&& (127 : Int32))), .val (.int (1 : Int32)), .val (.int (own_x p2)), .val (.int (own_top p2)), .unset, .unset, .unset, .unset] []))
    refine Go.on (fun t k => XS.iconst X3.here hx rfl (hb hby at_63) k) ?_
    show Go p e below _ (T3.setTop (mkF m 64 #[.val (.int p1), .val (.int p2), .val (.int p3), .val (.int p4), .val (.int (1 : Int32)), .val (.int (p1 &&& (127 : Int32))), .val (.int (1 : Int32)), .val (.int (own_x p2)), .val (.int (own_top p2)), .unset, .unset, .unset, .unset] [(.int (2 : Int32))]))
    refine Go.on (fun t k => XS.iloadN X3.here hx rfl (hb hby at_64) rfl k) ?_
    show Go p e below _ (T3.setTop (mkF m 65 #[.val (.int p1), .val (.int p2), .val (.int p3), .val (.int p4), .val (.int (1 : Int32)), .val (.int (p1 &&& (127 : Int32))), .val (.int (1 : Int32)), .val (.int (own_x p2)), .val (.int (own_top p2)), .unset, .unset, .unset, .unset] [(.int p3), (.int (2 : Int32))]))
    refine Go.on (fun t k => X3.ldcInt hx hown (mvT hZ (hw _ (List.mem_of_getElem? (i := 10) rfl))) (g := (mkF m 65 #[.val (.int p1), .val (.int p2), .val (.int p3), .val (.int p4), .val (.int (1 : Int32)), .val (.int (p1 &&& (127 : Int32))), .val (.int (1 : Int32)), .val (.int (own_x p2)), .val (.int (own_top p2)), .unset, .unset, .unset, .unset] [(.int p3), (.int (2 : Int32))])) rfl (hb hby at_65) _ k) ?_
    show Go p e below _ (T3.setTop (mkF m 67 #[.val (.int p1), .val (.int p2), .val (.int p3), .val (.int p4), .val (.int (1 : Int32)), .val (.int (p1 &&& (127 : Int32))), .val (.int (1 : Int32)), .val (.int (own_x p2)), .val (.int (own_top p2)), .unset, .unset, .unset, .unset] [(.int (2147483647 : Int32)), (.int p3), (.int (2 : Int32))]))
    refine Go.on (fun t k => XS.iand X3.here hx rfl (hb hby at_67) rfl k) ?_
    show Go p e below _ (T3.setTop (mkF m 68 #[.val (.int p1), .val (.int p2), .val (.int p3), .val (.int p4), .val (.int (1 : Int32)), .val (.int (p1 &&& (127 : Int32))), .val (.int (1 : Int32)), .val (.int (own_x p2)), .val (.int (own_top p2)), .unset, .unset, .unset, .unset] [(.int (p3 &&& (2147483647 : Int32))), (.int (2 : Int32))]))
    refine Go.on (fun t k => XS.iload X3.here hx rfl (hb hby at_68) rfl k) ?_
    show Go p e below _ (T3.setTop (mkF m 70 #[.val (.int p1), .val (.int p2), .val (.int p3), .val (.int p4), .val (.int (1 : Int32)), .val (.int (p1 &&& (127 : Int32))), .val (.int (1 : Int32)), .val (.int (own_x p2)), .val (.int (own_top p2)), .unset, .unset, .unset, .unset] [(.int (own_top p2)), (.int (p3 &&& (2147483647 : Int32))), (.int (2 : Int32))]))
    refine Go.on (fun t k => XS.iconst X3.here hx rfl (hb hby at_70) k) ?_
    show Go p e below _ (T3.setTop (mkF m 71 #[.val (.int p1), .val (.int p2), .val (.int p3), .val (.int p4), .val (.int (1 : Int32)), .val (.int (p1 &&& (127 : Int32))), .val (.int (1 : Int32)), .val (.int (own_x p2)), .val (.int (own_top p2)), .unset, .unset, .unset, .unset] [(.int (1 : Int32)), (.int (own_top p2)), (.int (p3 &&& (2147483647 : Int32))), (.int (2 : Int32))]))
    refine Go.on (fun t k => XS.isub X3.here hx rfl (hb hby at_71) rfl k) ?_
    show Go p e below _ (T3.setTop (mkF m 72 #[.val (.int p1), .val (.int p2), .val (.int p3), .val (.int p4), .val (.int (1 : Int32)), .val (.int (p1 &&& (127 : Int32))), .val (.int (1 : Int32)), .val (.int (own_x p2)), .val (.int (own_top p2)), .unset, .unset, .unset, .unset] [(.int ((own_top p2) - (1 : Int32))), (.int (p3 &&& (2147483647 : Int32))), (.int (2 : Int32))]))
    refine Go.on (fun t k => iremM X3 hx rfl (hb hby at_72) rfl (own_t_nz p2) k) ?_
    show Go p e below _ (T3.setTop (mkF m 73 #[.val (.int p1), .val (.int p2), .val (.int p3), .val (.int p4), .val (.int (1 : Int32)), .val (.int (p1 &&& (127 : Int32))), .val (.int (1 : Int32)), .val (.int (own_x p2)), .val (.int (own_top p2)), .unset, .unset, .unset, .unset] [(.int ((p3 &&& (2147483647 : Int32)) % ((own_top p2) - (1 : Int32)))), (.int (2 : Int32))]))
    refine Go.on (fun t k => XS.iadd X3.here hx rfl (hb hby at_73) rfl k) ?_
    show Go p e below _ (T3.setTop (mkF m 74 #[.val (.int p1), .val (.int p2), .val (.int p3), .val (.int p4), .val (.int (1 : Int32)), .val (.int (p1 &&& (127 : Int32))), .val (.int (1 : Int32)), .val (.int (own_x p2)), .val (.int (own_top p2)), .unset, .unset, .unset, .unset] [(.int (own_y p2 p3))]))
    refine Go.on (fun t k => XS.istore X3.here hx rfl (hb hby at_74) rfl (l' := #[.val (.int p1), .val (.int p2), .val (.int p3), .val (.int p4), .val (.int (1 : Int32)), .val (.int (p1 &&& (127 : Int32))), .val (.int (1 : Int32)), .val (.int (own_x p2)), .val (.int (own_top p2)), .val (.int (own_y p2 p3)), .unset, .unset, .unset]) rfl k) ?_
    show Go p e below _ (T3.setTop (mkF m 76 #[.val (.int p1), .val (.int p2), .val (.int p3), .val (.int p4), .val (.int (1 : Int32)), .val (.int (p1 &&& (127 : Int32))), .val (.int (1 : Int32)), .val (.int (own_x p2)), .val (.int (own_top p2)), .val (.int (own_y p2 p3)), .unset, .unset, .unset] []))
    refine Go.on (fun t k => XS.iload X3.here hx rfl (hb hby at_76) rfl k) ?_
    show Go p e below _ (T3.setTop (mkF m 78 #[.val (.int p1), .val (.int p2), .val (.int p3), .val (.int p4), .val (.int (1 : Int32)), .val (.int (p1 &&& (127 : Int32))), .val (.int (1 : Int32)), .val (.int (own_x p2)), .val (.int (own_top p2)), .val (.int (own_y p2 p3)), .unset, .unset, .unset] [(.int (own_x p2))]))
    refine Go.on (fun t k => XS.iload X3.here hx rfl (hb hby at_78) rfl k) ?_
    show Go p e below _ (T3.setTop (mkF m 80 #[.val (.int p1), .val (.int p2), .val (.int p3), .val (.int p4), .val (.int (1 : Int32)), .val (.int (p1 &&& (127 : Int32))), .val (.int (1 : Int32)), .val (.int (own_x p2)), .val (.int (own_top p2)), .val (.int (own_y p2 p3)), .unset, .unset, .unset] [(.int (own_y p2 p3)), (.int (own_x p2))]))
    refine Go.on (fun t k => XS.imul X3.here hx rfl (hb hby at_80) rfl k) ?_
    show Go p e below _ (T3.setTop (mkF m 81 #[.val (.int p1), .val (.int p2), .val (.int p3), .val (.int p4), .val (.int (1 : Int32)), .val (.int (p1 &&& (127 : Int32))), .val (.int (1 : Int32)), .val (.int (own_x p2)), .val (.int (own_top p2)), .val (.int (own_y p2 p3)), .unset, .unset, .unset] [(.int ((own_x p2) * (own_y p2 p3)))]))
    obtain ⟨_, _, ⟨T4, L4, k4, n4⟩, -, X4, ⟨Lc4, hQ4, l4, y4, z4⟩, st4⟩ := Jvm.LawKit.callS X3 hx (y := (⟨"com/example/rillwork/rillwork/jobs/PrimesJob", "isPrime", "(I)Z"⟩ : MethodName)) hown (mvT hZ (hw _ (List.mem_of_getElem? (i := 0) rfl))) (mvT hZ (hw _ (List.mem_of_getElem? (i := 1) rfl))) (mvT hZ (hw _ (List.mem_of_getElem? (i := 2) rfl))) (mvT hZ (hw _ (List.mem_of_getElem? (i := 3) rfl))) (by decide) (backOf (W := 0) (rm1 l Z a0 hw [] ((own_x p2) * (own_y p2 p3)) T3.heap n0 Zc3) hZ (hw _ (List.mem_of_getElem? (i := 3) rfl)) (hw _ (List.mem_of_getElem? (i := 2) rfl)) (by decide) (by decide)) (g := (mkF m 81 #[.val (.int p1), .val (.int p2), .val (.int p3), .val (.int p4), .val (.int (1 : Int32)), .val (.int (p1 &&& (127 : Int32))), .val (.int (1 : Int32)), .val (.int (own_x p2)), .val (.int (own_top p2)), .val (.int (own_y p2 p3)), .unset, .unset, .unset] [(.int ((own_x p2) * (own_y p2 p3)))])) rfl (by rw [hml]; rfl) (argsL := [(.int ((own_x p2) * (own_y p2 p3)))]) (rest := []) (lenOf pd_1 rfl) rfl (by show 2 * 0 + _ ≤ _; exact Nat.le_of_eq rfl) (hb hby at_81) (fun _ _ => ⟨rfl, (rfl : T3.heap = T3.heap), (by decide : 0 + 0 ≤ _), (by decide : 0 + 0 ≤ _)⟩)
    dsimp only [Pt.U, Pt.locs, Pt.cells, Pt.slots] at X4 l4 y4 z4 st4 hQ4
    subst l4 y4 z4
    obtain ⟨rfl, N4q, e4⟩ := hQ4
    have N4 := Fr.app N3 N4q
    refine Go.on st4 ?_
    show Go p e below _ (T4.setTop (mkF m 84 #[.val (.int p1), .val (.int p2), .val (.int p3), .val (.int p4), .val (.int (1 : Int32)), .val (.int (p1 &&& (127 : Int32))), .val (.int (1 : Int32)), .val (.int (own_x p2)), .val (.int (own_top p2)), .val (.int (own_y p2 p3)), .unset, .unset, .unset] [(.int (own_ip ((own_x p2) * (own_y p2 p3))))]))
    have Zc4 : n0 ≤ T4.heap.size := by rw [e4]; exact Zc3
    refine Go.on (fun t k => XS.ifNo X4.here hx rfl (hb hby at_84) rfl ((if0 _ _).trans (teq (own_composite p2 p3 : (own_ip ((own_x p2) * (own_y p2 p3))) = (0 : Int32))).2) k) ?_
    show Go p e below _ (T4.setTop (mkF m 87 #[.val (.int p1), .val (.int p2), .val (.int p3), .val (.int p4), .val (.int (1 : Int32)), .val (.int (p1 &&& (127 : Int32))), .val (.int (1 : Int32)), .val (.int (own_x p2)), .val (.int (own_top p2)), .val (.int (own_y p2 p3)), .unset, .unset, .unset] []))
    refine Go.on (fun t k => XS.iconst X4.here hx rfl (hb hby at_87) k) ?_
    show Go p e below _ (T4.setTop (mkF m 88 #[.val (.int p1), .val (.int p2), .val (.int p3), .val (.int p4), .val (.int (1 : Int32)), .val (.int (p1 &&& (127 : Int32))), .val (.int (1 : Int32)), .val (.int (own_x p2)), .val (.int (own_top p2)), .val (.int (own_y p2 p3)), .unset, .unset, .unset] [(.int (1 : Int32))]))
    refine Go.on (fun t k => XS.goto X4.here hx rfl (pc0 := 88) (pc' := 92) rfl (hb hby at_88) (by decide) (by decide) k) ?_
    show Go p e below _ (T4.setTop (mkF m 92 #[.val (.int p1), .val (.int p2), .val (.int p3), .val (.int p4), .val (.int (1 : Int32)), .val (.int (p1 &&& (127 : Int32))), .val (.int (1 : Int32)), .val (.int (own_x p2)), .val (.int (own_top p2)), .val (.int (own_y p2 p3)), .unset, .unset, .unset] [(.int (1 : Int32))]))
    refine Go.on (fun t k => XS.istore X4.here hx rfl (hb hby at_92) rfl (l' := #[.val (.int p1), .val (.int p2), .val (.int p3), .val (.int p4), .val (.int (1 : Int32)), .val (.int (p1 &&& (127 : Int32))), .val (.int (1 : Int32)), .val (.int (own_x p2)), .val (.int (own_top p2)), .val (.int (own_y p2 p3)), .val (.int (1 : Int32)), .unset, .unset]) rfl k) ?_
    show Go p e below _ (T4.setTop (mkF m 94 #[.val (.int p1), .val (.int p2), .val (.int p3), .val (.int p4), .val (.int (1 : Int32)), .val (.int (p1 &&& (127 : Int32))), .val (.int (1 : Int32)), .val (.int (own_x p2)), .val (.int (own_top p2)), .val (.int (own_y p2 p3)), .val (.int (1 : Int32)), .unset, .unset] []))
    refine Go.on (fun t k => XS.bipush X4.here hx rfl (hb hby at_94) k) ?_
    show Go p e below _ (T4.setTop (mkF m 96 #[.val (.int p1), .val (.int p2), .val (.int p3), .val (.int p4), .val (.int (1 : Int32)), .val (.int (p1 &&& (127 : Int32))), .val (.int (1 : Int32)), .val (.int (own_x p2)), .val (.int (own_top p2)), .val (.int (own_y p2 p3)), .val (.int (1 : Int32)), .unset, .unset] [(.int (8 : Int32))]))
    obtain ⟨T5, h5, cA5, X5, e5, E5, A5, st5⟩ := newP X4 hx hZ (aty := .int) (hw _ (List.mem_of_getElem? (i := 12) rfl)) (rfl : T4.heap = T4.heap) (g := (mkF m 96 #[.val (.int p1), .val (.int p2), .val (.int p3), .val (.int p4), .val (.int (1 : Int32)), .val (.int (p1 &&& (127 : Int32))), .val (.int (1 : Int32)), .val (.int (own_x p2)), .val (.int (own_top p2)), .val (.int (own_y p2 p3)), .val (.int (1 : Int32)), .unset, .unset] [(.int (8 : Int32))])) rfl (hb hby at_96) (n := (8 : Int32)) rfl (by decide) (cap := 8) (by decide) (by decide) (by decide) (by decide)
    obtain ⟨a5, g5⟩ : ∃ z, z = T4.heap.size := ⟨_, rfl⟩
    rw [← g5] at A5 st5
    have Z5 : n0 ≤ h5.size := Nat.le_trans Zc4 E5.1
    have G5 : n0 ≤ a5 := Nat.le_trans Zc4 (Nat.le_of_eq g5.symm)
    have F5 : BA Z h5 a5 .int 8 (fun _ => defaultValue .int) := BA.new A5 rfl
    refine Go.on st5 ?_
    show Go p e below _ (T5.setTop (mkF m 98 #[.val (.int p1), .val (.int p2), .val (.int p3), .val (.int p4), .val (.int (1 : Int32)), .val (.int (p1 &&& (127 : Int32))), .val (.int (1 : Int32)), .val (.int (own_x p2)), .val (.int (own_top p2)), .val (.int (own_y p2 p3)), .val (.int (1 : Int32)), .unset, .unset] [(.ref a5)]))
    refine Go.on (fun t k => XS.dup X5.here hx rfl (hb hby at_98) rfl rfl k) ?_
    show Go p e below _ (T5.setTop (mkF m 99 #[.val (.int p1), .val (.int p2), .val (.int p3), .val (.int p4), .val (.int (1 : Int32)), .val (.int (p1 &&& (127 : Int32))), .val (.int (1 : Int32)), .val (.int (own_x p2)), .val (.int (own_top p2)), .val (.int (own_y p2 p3)), .val (.int (1 : Int32)), .unset, .unset] [(.ref a5), (.ref a5)]))
    refine Go.on (fun t k => XS.iconst X5.here hx rfl (hb hby at_99) k) ?_
    show Go p e below _ (T5.setTop (mkF m 100 #[.val (.int p1), .val (.int p2), .val (.int p3), .val (.int p4), .val (.int (1 : Int32)), .val (.int (p1 &&& (127 : Int32))), .val (.int (1 : Int32)), .val (.int (own_x p2)), .val (.int (own_top p2)), .val (.int (own_y p2 p3)), .val (.int (1 : Int32)), .unset, .unset] [(.int (0 : Int32)), (.ref a5), (.ref a5)]))
    refine Go.on (fun t k => X5.ldcInt hx hown (mvT hZ (hw _ (List.mem_of_getElem? (i := 10) rfl))) (g := (mkF m 100 #[.val (.int p1), .val (.int p2), .val (.int p3), .val (.int p4), .val (.int (1 : Int32)), .val (.int (p1 &&& (127 : Int32))), .val (.int (1 : Int32)), .val (.int (own_x p2)), .val (.int (own_top p2)), .val (.int (own_y p2 p3)), .val (.int (1 : Int32)), .unset, .unset] [(.int (0 : Int32)), (.ref a5), (.ref a5)])) rfl (hb hby at_100) _ k) ?_
    show Go p e below _ (T5.setTop (mkF m 102 #[.val (.int p1), .val (.int p2), .val (.int p3), .val (.int p4), .val (.int (1 : Int32)), .val (.int (p1 &&& (127 : Int32))), .val (.int (1 : Int32)), .val (.int (own_x p2)), .val (.int (own_top p2)), .val (.int (own_y p2 p3)), .val (.int (1 : Int32)), .unset, .unset] [(.int (2147483647 : Int32)), (.int (0 : Int32)), (.ref a5), (.ref a5)]))
    refine Go.stI X5 hx hZ e5 F5 (i := 0) (by decide) (by decide) (by decide) (hb hby at_102) ?_
    intro T6 h6 X6 e6 W6 F6
    have N6 := Fr.snoc X6 N4 G5
    show Go p e below _ (T6.setTop (mkF m 103 #[.val (.int p1), .val (.int p2), .val (.int p3), .val (.int p4), .val (.int (1 : Int32)), .val (.int (p1 &&& (127 : Int32))), .val (.int (1 : Int32)), .val (.int (own_x p2)), .val (.int (own_top p2)), .val (.int (own_y p2 p3)), .val (.int (1 : Int32)), .unset, .unset] [(.ref a5)]))
    have Zs6 : n0 ≤ h6.size := by rw [W6.size]; exact Z5
    refine Go.on (fun t k => XS.dup X6.here hx rfl (hb hby at_103) rfl rfl k) ?_
    show Go p e below _ (T6.setTop (mkF m 104 #[.val (.int p1), .val (.int p2), .val (.int p3), .val (.int p4), .val (.int (1 : Int32)), .val (.int (p1 &&& (127 : Int32))), .val (.int (1 : Int32)), .val (.int (own_x p2)), .val (.int (own_top p2)), .val (.int (own_y p2 p3)), .val (.int (1 : Int32)), .unset, .unset] [(.ref a5), (.ref a5)]))
    refine Go.on (fun t k => XS.iconst X6.here hx rfl (hb hby at_104) k) ?_
    show Go p e below _ (T6.setTop (mkF m 105 #[.val (.int p1), .val (.int p2), .val (.int p3), .val (.int p4), .val (.int (1 : Int32)), .val (.int (p1 &&& (127 : Int32))), .val (.int (1 : Int32)), .val (.int (own_x p2)), .val (.int (own_top p2)), .val (.int (own_y p2 p3)), .val (.int (1 : Int32)), .unset, .unset] [(.int (1 : Int32)), (.ref a5), (.ref a5)]))
    refine Go.on (fun t k => X6.ldcInt hx hown (mvT hZ (hw _ (List.mem_of_getElem? (i := 13) rfl))) (g := (mkF m 105 #[.val (.int p1), .val (.int p2), .val (.int p3), .val (.int p4), .val (.int (1 : Int32)), .val (.int (p1 &&& (127 : Int32))), .val (.int (1 : Int32)), .val (.int (own_x p2)), .val (.int (own_top p2)), .val (.int (own_y p2 p3)), .val (.int (1 : Int32)), .unset, .unset] [(.int (1 : Int32)), (.ref a5), (.ref a5)])) rfl (hb hby at_105) _ k) ?_
    show Go p e below _ (T6.setTop (mkF m 107 #[.val (.int p1), .val (.int p2), .val (.int p3), .val (.int p4), .val (.int (1 : Int32)), .val (.int (p1 &&& (127 : Int32))), .val (.int (1 : Int32)), .val (.int (own_x p2)), .val (.int (own_top p2)), .val (.int (own_y p2 p3)), .val (.int (1 : Int32)), .unset, .unset] [(.int (1000000007 : Int32)), (.int (1 : Int32)), (.ref a5), (.ref a5)]))
    refine Go.stI X6 hx hZ e6 F6 (i := 1) (by decide) (by decide) (by decide) (hb hby at_107) ?_
    intro T7 h7 X7 e7 W7 F7
    have N7 := Fr.snoc X7 N6 G5
    show Go p e below _ (T7.setTop (mkF m 108 #[.val (.int p1), .val (.int p2), .val (.int p3), .val (.int p4), .val (.int (1 : Int32)), .val (.int (p1 &&& (127 : Int32))), .val (.int (1 : Int32)), .val (.int (own_x p2)), .val (.int (own_top p2)), .val (.int (own_y p2 p3)), .val (.int (1 : Int32)), .unset, .unset] [(.ref a5)]))
    have Zs7 : n0 ≤ h7.size := by rw [W7.size]; exact Zs6
    refine Go.on (fun t k => XS.dup X7.here hx rfl (hb hby at_108) rfl rfl k) ?_
    show Go p e below _ (T7.setTop (mkF m 109 #[.val (.int p1), .val (.int p2), .val (.int p3), .val (.int p4), .val (.int (1 : Int32)), .val (.int (p1 &&& (127 : Int32))), .val (.int (1 : Int32)), .val (.int (own_x p2)), .val (.int (own_top p2)), .val (.int (own_y p2 p3)), .val (.int (1 : Int32)), .unset, .unset] [(.ref a5), (.ref a5)]))
    refine Go.on (fun t k => XS.iconst X7.here hx rfl (hb hby at_109) k) ?_
    show Go p e below _ (T7.setTop (mkF m 110 #[.val (.int p1), .val (.int p2), .val (.int p3), .val (.int p4), .val (.int (1 : Int32)), .val (.int (p1 &&& (127 : Int32))), .val (.int (1 : Int32)), .val (.int (own_x p2)), .val (.int (own_top p2)), .val (.int (own_y p2 p3)), .val (.int (1 : Int32)), .unset, .unset] [(.int (2 : Int32)), (.ref a5), (.ref a5)]))
    refine Go.on (fun t k => X7.ldcInt hx hown (mvT hZ (hw _ (List.mem_of_getElem? (i := 14) rfl))) (g := (mkF m 110 #[.val (.int p1), .val (.int p2), .val (.int p3), .val (.int p4), .val (.int (1 : Int32)), .val (.int (p1 &&& (127 : Int32))), .val (.int (1 : Int32)), .val (.int (own_x p2)), .val (.int (own_top p2)), .val (.int (own_y p2 p3)), .val (.int (1 : Int32)), .unset, .unset] [(.int (2 : Int32)), (.ref a5), (.ref a5)])) rfl (hb hby at_110) _ k) ?_
    show Go p e below _ (T7.setTop (mkF m 112 #[.val (.int p1), .val (.int p2), .val (.int p3), .val (.int p4), .val (.int (1 : Int32)), .val (.int (p1 &&& (127 : Int32))), .val (.int (1 : Int32)), .val (.int (own_x p2)), .val (.int (own_top p2)), .val (.int (own_y p2 p3)), .val (.int (1 : Int32)), .unset, .unset] [(.int (1000000009 : Int32)), (.int (2 : Int32)), (.ref a5), (.ref a5)]))
    refine Go.stI X7 hx hZ e7 F7 (i := 2) (by decide) (by decide) (by decide) (hb hby at_112) ?_
    intro T8 h8 X8 e8 W8 F8
    have N8 := Fr.snoc X8 N7 G5
    show Go p e below _ (T8.setTop (mkF m 113 #[.val (.int p1), .val (.int p2), .val (.int p3), .val (.int p4), .val (.int (1 : Int32)), .val (.int (p1 &&& (127 : Int32))), .val (.int (1 : Int32)), .val (.int (own_x p2)), .val (.int (own_top p2)), .val (.int (own_y p2 p3)), .val (.int (1 : Int32)), .unset, .unset] [(.ref a5)]))
    have Zs8 : n0 ≤ h8.size := by rw [W8.size]; exact Zs7
    refine Go.on (fun t k => XS.dup X8.here hx rfl (hb hby at_113) rfl rfl k) ?_
    show Go p e below _ (T8.setTop (mkF m 114 #[.val (.int p1), .val (.int p2), .val (.int p3), .val (.int p4), .val (.int (1 : Int32)), .val (.int (p1 &&& (127 : Int32))), .val (.int (1 : Int32)), .val (.int (own_x p2)), .val (.int (own_top p2)), .val (.int (own_y p2 p3)), .val (.int (1 : Int32)), .unset, .unset] [(.ref a5), (.ref a5)]))
    refine Go.on (fun t k => XS.iconst X8.here hx rfl (hb hby at_114) k) ?_
    show Go p e below _ (T8.setTop (mkF m 115 #[.val (.int p1), .val (.int p2), .val (.int p3), .val (.int p4), .val (.int (1 : Int32)), .val (.int (p1 &&& (127 : Int32))), .val (.int (1 : Int32)), .val (.int (own_x p2)), .val (.int (own_top p2)), .val (.int (own_y p2 p3)), .val (.int (1 : Int32)), .unset, .unset] [(.int (3 : Int32)), (.ref a5), (.ref a5)]))
    refine Go.on (fun t k => X8.ldcInt hx hown (mvT hZ (hw _ (List.mem_of_getElem? (i := 15) rfl))) (g := (mkF m 115 #[.val (.int p1), .val (.int p2), .val (.int p3), .val (.int p4), .val (.int (1 : Int32)), .val (.int (p1 &&& (127 : Int32))), .val (.int (1 : Int32)), .val (.int (own_x p2)), .val (.int (own_top p2)), .val (.int (own_y p2 p3)), .val (.int (1 : Int32)), .unset, .unset] [(.int (3 : Int32)), (.ref a5), (.ref a5)])) rfl (hb hby at_115) _ k) ?_
    show Go p e below _ (T8.setTop (mkF m 117 #[.val (.int p1), .val (.int p2), .val (.int p3), .val (.int p4), .val (.int (1 : Int32)), .val (.int (p1 &&& (127 : Int32))), .val (.int (1 : Int32)), .val (.int (own_x p2)), .val (.int (own_top p2)), .val (.int (own_y p2 p3)), .val (.int (1 : Int32)), .unset, .unset] [(.int (998244353 : Int32)), (.int (3 : Int32)), (.ref a5), (.ref a5)]))
    refine Go.stI X8 hx hZ e8 F8 (i := 3) (by decide) (by decide) (by decide) (hb hby at_117) ?_
    intro T9 h9 X9 e9 W9 F9
    have N9 := Fr.snoc X9 N8 G5
    show Go p e below _ (T9.setTop (mkF m 118 #[.val (.int p1), .val (.int p2), .val (.int p3), .val (.int p4), .val (.int (1 : Int32)), .val (.int (p1 &&& (127 : Int32))), .val (.int (1 : Int32)), .val (.int (own_x p2)), .val (.int (own_top p2)), .val (.int (own_y p2 p3)), .val (.int (1 : Int32)), .unset, .unset] [(.ref a5)]))
    have Zs9 : n0 ≤ h9.size := by rw [W9.size]; exact Zs8
    refine Go.on (fun t k => XS.dup X9.here hx rfl (hb hby at_118) rfl rfl k) ?_
    show Go p e below _ (T9.setTop (mkF m 119 #[.val (.int p1), .val (.int p2), .val (.int p3), .val (.int p4), .val (.int (1 : Int32)), .val (.int (p1 &&& (127 : Int32))), .val (.int (1 : Int32)), .val (.int (own_x p2)), .val (.int (own_top p2)), .val (.int (own_y p2 p3)), .val (.int (1 : Int32)), .unset, .unset] [(.ref a5), (.ref a5)]))
    refine Go.on (fun t k => XS.iconst X9.here hx rfl (hb hby at_119) k) ?_
    show Go p e below _ (T9.setTop (mkF m 120 #[.val (.int p1), .val (.int p2), .val (.int p3), .val (.int p4), .val (.int (1 : Int32)), .val (.int (p1 &&& (127 : Int32))), .val (.int (1 : Int32)), .val (.int (own_x p2)), .val (.int (own_top p2)), .val (.int (own_y p2 p3)), .val (.int (1 : Int32)), .unset, .unset] [(.int (4 : Int32)), (.ref a5), (.ref a5)]))
    refine Go.on (fun t k => X9.ldcInt hx hown (mvT hZ (hw _ (List.mem_of_getElem? (i := 16) rfl))) (g := (mkF m 120 #[.val (.int p1), .val (.int p2), .val (.int p3), .val (.int p4), .val (.int (1 : Int32)), .val (.int (p1 &&& (127 : Int32))), .val (.int (1 : Int32)), .val (.int (own_x p2)), .val (.int (own_top p2)), .val (.int (own_y p2 p3)), .val (.int (1 : Int32)), .unset, .unset] [(.int (4 : Int32)), (.ref a5), (.ref a5)])) rfl (hb hby at_120) _ k) ?_
    show Go p e below _ (T9.setTop (mkF m 122 #[.val (.int p1), .val (.int p2), .val (.int p3), .val (.int p4), .val (.int (1 : Int32)), .val (.int (p1 &&& (127 : Int32))), .val (.int (1 : Int32)), .val (.int (own_x p2)), .val (.int (own_top p2)), .val (.int (own_y p2 p3)), .val (.int (1 : Int32)), .unset, .unset] [(.int (999999937 : Int32)), (.int (4 : Int32)), (.ref a5), (.ref a5)]))
    refine Go.stI X9 hx hZ e9 F9 (i := 4) (by decide) (by decide) (by decide) (hb hby at_122) ?_
    intro T10 h10 X10 e10 W10 F10
    have N10 := Fr.snoc X10 N9 G5
    show Go p e below _ (T10.setTop (mkF m 123 #[.val (.int p1), .val (.int p2), .val (.int p3), .val (.int p4), .val (.int (1 : Int32)), .val (.int (p1 &&& (127 : Int32))), .val (.int (1 : Int32)), .val (.int (own_x p2)), .val (.int (own_top p2)), .val (.int (own_y p2 p3)), .val (.int (1 : Int32)), .unset, .unset] [(.ref a5)]))
    have Zs10 : n0 ≤ h10.size := by rw [W10.size]; exact Zs9
    refine Go.on (fun t k => XS.dup X10.here hx rfl (hb hby at_123) rfl rfl k) ?_
    show Go p e below _ (T10.setTop (mkF m 124 #[.val (.int p1), .val (.int p2), .val (.int p3), .val (.int p4), .val (.int (1 : Int32)), .val (.int (p1 &&& (127 : Int32))), .val (.int (1 : Int32)), .val (.int (own_x p2)), .val (.int (own_top p2)), .val (.int (own_y p2 p3)), .val (.int (1 : Int32)), .unset, .unset] [(.ref a5), (.ref a5)]))
    refine Go.on (fun t k => XS.iconst X10.here hx rfl (hb hby at_124) k) ?_
    show Go p e below _ (T10.setTop (mkF m 125 #[.val (.int p1), .val (.int p2), .val (.int p3), .val (.int p4), .val (.int (1 : Int32)), .val (.int (p1 &&& (127 : Int32))), .val (.int (1 : Int32)), .val (.int (own_x p2)), .val (.int (own_top p2)), .val (.int (own_y p2 p3)), .val (.int (1 : Int32)), .unset, .unset] [(.int (5 : Int32)), (.ref a5), (.ref a5)]))
    refine Go.on (fun t k => X10.ldcInt hx hown (mvT hZ (hw _ (List.mem_of_getElem? (i := 17) rfl))) (g := (mkF m 125 #[.val (.int p1), .val (.int p2), .val (.int p3), .val (.int p4), .val (.int (1 : Int32)), .val (.int (p1 &&& (127 : Int32))), .val (.int (1 : Int32)), .val (.int (own_x p2)), .val (.int (own_top p2)), .val (.int (own_y p2 p3)), .val (.int (1 : Int32)), .unset, .unset] [(.int (5 : Int32)), (.ref a5), (.ref a5)])) rfl (hb hby at_125) _ k) ?_
    show Go p e below _ (T10.setTop (mkF m 127 #[.val (.int p1), .val (.int p2), .val (.int p3), .val (.int p4), .val (.int (1 : Int32)), .val (.int (p1 &&& (127 : Int32))), .val (.int (1 : Int32)), .val (.int (own_x p2)), .val (.int (own_top p2)), .val (.int (own_y p2 p3)), .val (.int (1 : Int32)), .unset, .unset] [(.int (131071 : Int32)), (.int (5 : Int32)), (.ref a5), (.ref a5)]))
    refine Go.stI X10 hx hZ e10 F10 (i := 5) (by decide) (by decide) (by decide) (hb hby at_127) ?_
    intro T11 h11 X11 e11 W11 F11
    have N11 := Fr.snoc X11 N10 G5
    show Go p e below _ (T11.setTop (mkF m 128 #[.val (.int p1), .val (.int p2), .val (.int p3), .val (.int p4), .val (.int (1 : Int32)), .val (.int (p1 &&& (127 : Int32))), .val (.int (1 : Int32)), .val (.int (own_x p2)), .val (.int (own_top p2)), .val (.int (own_y p2 p3)), .val (.int (1 : Int32)), .unset, .unset] [(.ref a5)]))
    have Zs11 : n0 ≤ h11.size := by rw [W11.size]; exact Zs10
    refine Go.on (fun t k => XS.dup X11.here hx rfl (hb hby at_128) rfl rfl k) ?_
    show Go p e below _ (T11.setTop (mkF m 129 #[.val (.int p1), .val (.int p2), .val (.int p3), .val (.int p4), .val (.int (1 : Int32)), .val (.int (p1 &&& (127 : Int32))), .val (.int (1 : Int32)), .val (.int (own_x p2)), .val (.int (own_top p2)), .val (.int (own_y p2 p3)), .val (.int (1 : Int32)), .unset, .unset] [(.ref a5), (.ref a5)]))
    refine Go.on (fun t k => XS.bipush X11.here hx rfl (hb hby at_129) k) ?_
    show Go p e below _ (T11.setTop (mkF m 131 #[.val (.int p1), .val (.int p2), .val (.int p3), .val (.int p4), .val (.int (1 : Int32)), .val (.int (p1 &&& (127 : Int32))), .val (.int (1 : Int32)), .val (.int (own_x p2)), .val (.int (own_top p2)), .val (.int (own_y p2 p3)), .val (.int (1 : Int32)), .unset, .unset] [(.int (6 : Int32)), (.ref a5), (.ref a5)]))
    refine Go.on (fun t k => X11.ldcInt hx hown (mvT hZ (hw _ (List.mem_of_getElem? (i := 18) rfl))) (g := (mkF m 131 #[.val (.int p1), .val (.int p2), .val (.int p3), .val (.int p4), .val (.int (1 : Int32)), .val (.int (p1 &&& (127 : Int32))), .val (.int (1 : Int32)), .val (.int (own_x p2)), .val (.int (own_top p2)), .val (.int (own_y p2 p3)), .val (.int (1 : Int32)), .unset, .unset] [(.int (6 : Int32)), (.ref a5), (.ref a5)])) rfl (hb hby at_131) _ k) ?_
    show Go p e below _ (T11.setTop (mkF m 133 #[.val (.int p1), .val (.int p2), .val (.int p3), .val (.int p4), .val (.int (1 : Int32)), .val (.int (p1 &&& (127 : Int32))), .val (.int (1 : Int32)), .val (.int (own_x p2)), .val (.int (own_top p2)), .val (.int (own_y p2 p3)), .val (.int (1 : Int32)), .unset, .unset] [(.int (524287 : Int32)), (.int (6 : Int32)), (.ref a5), (.ref a5)]))
    refine Go.stI X11 hx hZ e11 F11 (i := 6) (by decide) (by decide) (by decide) (hb hby at_133) ?_
    intro T12 h12 X12 e12 W12 F12
    have N12 := Fr.snoc X12 N11 G5
    show Go p e below _ (T12.setTop (mkF m 134 #[.val (.int p1), .val (.int p2), .val (.int p3), .val (.int p4), .val (.int (1 : Int32)), .val (.int (p1 &&& (127 : Int32))), .val (.int (1 : Int32)), .val (.int (own_x p2)), .val (.int (own_top p2)), .val (.int (own_y p2 p3)), .val (.int (1 : Int32)), .unset, .unset] [(.ref a5)]))
    have Zs12 : n0 ≤ h12.size := by rw [W12.size]; exact Zs11
    refine Go.on (fun t k => XS.dup X12.here hx rfl (hb hby at_134) rfl rfl k) ?_
    show Go p e below _ (T12.setTop (mkF m 135 #[.val (.int p1), .val (.int p2), .val (.int p3), .val (.int p4), .val (.int (1 : Int32)), .val (.int (p1 &&& (127 : Int32))), .val (.int (1 : Int32)), .val (.int (own_x p2)), .val (.int (own_top p2)), .val (.int (own_y p2 p3)), .val (.int (1 : Int32)), .unset, .unset] [(.ref a5), (.ref a5)]))
    refine Go.on (fun t k => XS.bipush X12.here hx rfl (hb hby at_135) k) ?_
    show Go p e below _ (T12.setTop (mkF m 137 #[.val (.int p1), .val (.int p2), .val (.int p3), .val (.int p4), .val (.int (1 : Int32)), .val (.int (p1 &&& (127 : Int32))), .val (.int (1 : Int32)), .val (.int (own_x p2)), .val (.int (own_top p2)), .val (.int (own_y p2 p3)), .val (.int (1 : Int32)), .unset, .unset] [(.int (7 : Int32)), (.ref a5), (.ref a5)]))
    refine Go.on (fun t k => XS.sipush X12.here hx rfl (hb hby at_137) k) ?_
    show Go p e below _ (T12.setTop (mkF m 140 #[.val (.int p1), .val (.int p2), .val (.int p3), .val (.int p4), .val (.int (1 : Int32)), .val (.int (p1 &&& (127 : Int32))), .val (.int (1 : Int32)), .val (.int (own_x p2)), .val (.int (own_top p2)), .val (.int (own_y p2 p3)), .val (.int (1 : Int32)), .unset, .unset] [(.int (8191 : Int32)), (.int (7 : Int32)), (.ref a5), (.ref a5)]))
    refine Go.stI X12 hx hZ e12 F12 (i := 7) (by decide) (by decide) (by decide) (hb hby at_140) ?_
    intro T13 h13 X13 e13 W13 F13
    have N13 := Fr.snoc X13 N12 G5
    show Go p e below _ (T13.setTop (mkF m 141 #[.val (.int p1), .val (.int p2), .val (.int p3), .val (.int p4), .val (.int (1 : Int32)), .val (.int (p1 &&& (127 : Int32))), .val (.int (1 : Int32)), .val (.int (own_x p2)), .val (.int (own_top p2)), .val (.int (own_y p2 p3)), .val (.int (1 : Int32)), .unset, .unset] [(.ref a5)]))
    have Zs13 : n0 ≤ h13.size := by rw [W13.size]; exact Zs12
    refine Go.on (fun t k => XS.astore X13.here hx rfl (hb hby at_141) rfl rfl (l' := #[.val (.int p1), .val (.int p2), .val (.int p3), .val (.int p4), .val (.int (1 : Int32)), .val (.int (p1 &&& (127 : Int32))), .val (.int (1 : Int32)), .val (.int (own_x p2)), .val (.int (own_top p2)), .val (.int (own_y p2 p3)), .val (.int (1 : Int32)), .val (.ref a5), .unset]) rfl k) ?_
    show Go p e below _ (T13.setTop (mkF m 143 #[.val (.int p1), .val (.int p2), .val (.int p3), .val (.int p4), .val (.int (1 : Int32)), .val (.int (p1 &&& (127 : Int32))), .val (.int (1 : Int32)), .val (.int (own_x p2)), .val (.int (own_top p2)), .val (.int (own_y p2 p3)), .val (.int (1 : Int32)), .val (.ref a5), .unset] []))
    refine Go.on (fun t k => XS.aload X13.here hx rfl (hb hby at_143) rfl rfl k) ?_
    show Go p e below _ (T13.setTop (mkF m 145 #[.val (.int p1), .val (.int p2), .val (.int p3), .val (.int p4), .val (.int (1 : Int32)), .val (.int (p1 &&& (127 : Int32))), .val (.int (1 : Int32)), .val (.int (own_x p2)), .val (.int (own_top p2)), .val (.int (own_y p2 p3)), .val (.int (1 : Int32)), .val (.ref a5), .unset] [(.ref a5)]))
    refine Go.on (fun t k => XS.iloadN X13.here hx rfl (hb hby at_145) rfl k) ?_
    show Go p e below _ (T13.setTop (mkF m 146 #[.val (.int p1), .val (.int p2), .val (.int p3), .val (.int p4), .val (.int (1 : Int32)), .val (.int (p1 &&& (127 : Int32))), .val (.int (1 : Int32)), .val (.int (own_x p2)), .val (.int (own_top p2)), .val (.int (own_y p2 p3)), .val (.int (1 : Int32)), .val (.ref a5), .unset] [(.int p4), (.ref a5)]))
    refine Go.on (fun t k => XS.bipush X13.here hx rfl (hb hby at_146) k) ?_
    show Go p e below _ (T13.setTop (mkF m 148 #[.val (.int p1), .val (.int p2), .val (.int p3), .val (.int p4), .val (.int (1 : Int32)), .val (.int (p1 &&& (127 : Int32))), .val (.int (1 : Int32)), .val (.int (own_x p2)), .val (.int (own_top p2)), .val (.int (own_y p2 p3)), .val (.int (1 : Int32)), .val (.ref a5), .unset] [(.int (7 : Int32)), (.int p4), (.ref a5)]))
    refine Go.on (fun t k => XS.iand X13.here hx rfl (hb hby at_148) rfl k) ?_
    show Go p e below _ (T13.setTop (mkF m 149 #[.val (.int p1), .val (.int p2), .val (.int p3), .val (.int p4), .val (.int (1 : Int32)), .val (.int (p1 &&& (127 : Int32))), .val (.int (1 : Int32)), .val (.int (own_x p2)), .val (.int (own_top p2)), .val (.int (own_y p2 p3)), .val (.int (1 : Int32)), .val (.ref a5), .unset] [(.int (p4 &&& (7 : Int32))), (.ref a5)]))
    have hk7 := own_and7 p4
    have hkx := ix (j := (p4 &&& (7 : Int32))) (i := (p4 &&& (7 : Int32)).toInt.toNat) (by omega)
    have Fb : BA Z h13 a5 .int 8 (fun j => .int (own_big j)) := F13.fn (fun j hj => by
      have hj8 : j = 0 ∨ j = 1 ∨ j = 2 ∨ j = 3 ∨ j = 4 ∨ j = 5 ∨ j = 6 ∨ j = 7 := by omega
      rcases hj8 with rfl | rfl | rfl | rfl | rfl | rfl | rfl | rfl <;> rfl)
    refine Go.ldI X13 hx hZ e13 Fb (i := (p4 &&& (7 : Int32)).toInt.toNat) hkx.1 hkx.2 (by omega) (hb hby at_149) ?_
    show Go p e below _ (T13.setTop (mkF m 150 #[.val (.int p1), .val (.int p2), .val (.int p3), .val (.int p4), .val (.int (1 : Int32)), .val (.int (p1 &&& (127 : Int32))), .val (.int (1 : Int32)), .val (.int (own_x p2)), .val (.int (own_top p2)), .val (.int (own_y p2 p3)), .val (.int (1 : Int32)), .val (.ref a5), .unset] [(.int (own_big (p4 &&& (7 : Int32)).toInt.toNat))]))
    obtain ⟨_, _, ⟨T14, L14, k14, n14⟩, -, X14, ⟨Lc14, hQ14, l14, y14, z14⟩, st14⟩ := Jvm.LawKit.callS X13 hx (y := (⟨"com/example/rillwork/rillwork/jobs/PrimesJob", "isPrime", "(I)Z"⟩ : MethodName)) hown (mvT hZ (hw _ (List.mem_of_getElem? (i := 0) rfl))) (mvT hZ (hw _ (List.mem_of_getElem? (i := 1) rfl))) (mvT hZ (hw _ (List.mem_of_getElem? (i := 2) rfl))) (mvT hZ (hw _ (List.mem_of_getElem? (i := 3) rfl))) (by decide) (backOf (W := 0) (rm1 l Z a0 hw [] (own_big (p4 &&& (7 : Int32)).toInt.toNat) h13 n0 Zs13) hZ (hw _ (List.mem_of_getElem? (i := 3) rfl)) (hw _ (List.mem_of_getElem? (i := 2) rfl)) (by decide) (by decide)) (g := (mkF m 150 #[.val (.int p1), .val (.int p2), .val (.int p3), .val (.int p4), .val (.int (1 : Int32)), .val (.int (p1 &&& (127 : Int32))), .val (.int (1 : Int32)), .val (.int (own_x p2)), .val (.int (own_top p2)), .val (.int (own_y p2 p3)), .val (.int (1 : Int32)), .val (.ref a5), .unset] [(.int (own_big (p4 &&& (7 : Int32)).toInt.toNat))])) rfl (by rw [hml]; rfl) (argsL := [(.int (own_big (p4 &&& (7 : Int32)).toInt.toNat))]) (rest := []) (lenOf pd_1 rfl) rfl (by show 2 * 0 + _ ≤ _; exact Nat.le_of_eq rfl) (hb hby at_150) (fun _ _ => ⟨rfl, e13, (by decide : 1 + 0 ≤ _), (by decide : 8 + 0 ≤ _)⟩)
    dsimp only [Pt.U, Pt.locs, Pt.cells, Pt.slots] at X14 l14 y14 z14 st14 hQ14
    subst l14 y14 z14
    obtain ⟨rfl, N14q, e14⟩ := hQ14
    have N14 := Fr.app N13 N14q
    refine Go.on st14 ?_
    show Go p e below _ (T14.setTop (mkF m 153 #[.val (.int p1), .val (.int p2), .val (.int p3), .val (.int p4), .val (.int (1 : Int32)), .val (.int (p1 &&& (127 : Int32))), .val (.int (1 : Int32)), .val (.int (own_x p2)), .val (.int (own_top p2)), .val (.int (own_y p2 p3)), .val (.int (1 : Int32)), .val (.ref a5), .unset] [(.int (own_ip (own_big (p4 &&& (7 : Int32)).toInt.toNat)))]))
    have Zc14 : n0 ≤ T14.heap.size := by rw [e14]; exact Zs13
    refine Go.on (fun t k => XS.istore X14.here hx rfl (hb hby at_153) rfl (l' := #[.val (.int p1), .val (.int p2), .val (.int p3), .val (.int p4), .val (.int (1 : Int32)), .val (.int (p1 &&& (127 : Int32))), .val (.int (1 : Int32)), .val (.int (own_x p2)), .val (.int (own_top p2)), .val (.int (own_y p2 p3)), .val (.int (1 : Int32)), .val (.ref a5), .val (.int (own_ip (own_big (p4 &&& (7 : Int32)).toInt.toNat)))]) rfl k) ?_
    show Go p e below _ (T14.setTop (mkF m 155 #[.val (.int p1), .val (.int p2), .val (.int p3), .val (.int p4), .val (.int (1 : Int32)), .val (.int (p1 &&& (127 : Int32))), .val (.int (1 : Int32)), .val (.int (own_x p2)), .val (.int (own_top p2)), .val (.int (own_y p2 p3)), .val (.int (1 : Int32)), .val (.ref a5), .val (.int (own_ip (own_big (p4 &&& (7 : Int32)).toInt.toNat)))] []))
    refine Go.on (fun t k => XS.iload X14.here hx rfl (hb hby at_155) rfl k) ?_
    show Go p e below _ (T14.setTop (mkF m 157 #[.val (.int p1), .val (.int p2), .val (.int p3), .val (.int p4), .val (.int (1 : Int32)), .val (.int (p1 &&& (127 : Int32))), .val (.int (1 : Int32)), .val (.int (own_x p2)), .val (.int (own_top p2)), .val (.int (own_y p2 p3)), .val (.int (1 : Int32)), .val (.ref a5), .val (.int (own_ip (own_big (p4 &&& (7 : Int32)).toInt.toNat)))] [(.int (1 : Int32))]))
    refine Go.on (fun t k => XS.ifNo X14.here hx rfl (hb hby at_157) rfl ((if0 _ _).trans (feq (by decide : ¬ ((1 : Int32) = (0 : Int32)))).1) k) ?_
    show Go p e below _ (T14.setTop (mkF m 160 #[.val (.int p1), .val (.int p2), .val (.int p3), .val (.int p4), .val (.int (1 : Int32)), .val (.int (p1 &&& (127 : Int32))), .val (.int (1 : Int32)), .val (.int (own_x p2)), .val (.int (own_top p2)), .val (.int (own_y p2 p3)), .val (.int (1 : Int32)), .val (.ref a5), .val (.int (own_ip (own_big (p4 &&& (7 : Int32)).toInt.toNat)))] []))
    refine Go.on (fun t k => XS.iload X14.here hx rfl (hb hby at_160) rfl k) ?_
    show Go p e below _ (T14.setTop (mkF m 162 #[.val (.int p1), .val (.int p2), .val (.int p3), .val (.int p4), .val (.int (1 : Int32)), .val (.int (p1 &&& (127 : Int32))), .val (.int (1 : Int32)), .val (.int (own_x p2)), .val (.int (own_top p2)), .val (.int (own_y p2 p3)), .val (.int (1 : Int32)), .val (.ref a5), .val (.int (own_ip (own_big (p4 &&& (7 : Int32)).toInt.toNat)))] [(.int (1 : Int32))]))
    refine Go.on (fun t k => XS.ifNo X14.here hx rfl (hb hby at_162) rfl ((if0 _ _).trans (feq (by decide : ¬ ((1 : Int32) = (0 : Int32)))).1) k) ?_
    show Go p e below _ (T14.setTop (mkF m 165 #[.val (.int p1), .val (.int p2), .val (.int p3), .val (.int p4), .val (.int (1 : Int32)), .val (.int (p1 &&& (127 : Int32))), .val (.int (1 : Int32)), .val (.int (own_x p2)), .val (.int (own_top p2)), .val (.int (own_y p2 p3)), .val (.int (1 : Int32)), .val (.ref a5), .val (.int (own_ip (own_big (p4 &&& (7 : Int32)).toInt.toNat)))] []))
    refine Go.on (fun t k => XS.iload X14.here hx rfl (hb hby at_165) rfl k) ?_
    show Go p e below _ (T14.setTop (mkF m 167 #[.val (.int p1), .val (.int p2), .val (.int p3), .val (.int p4), .val (.int (1 : Int32)), .val (.int (p1 &&& (127 : Int32))), .val (.int (1 : Int32)), .val (.int (own_x p2)), .val (.int (own_top p2)), .val (.int (own_y p2 p3)), .val (.int (1 : Int32)), .val (.ref a5), .val (.int (own_ip (own_big (p4 &&& (7 : Int32)).toInt.toNat)))] [(.int (1 : Int32))]))
    refine Go.on (fun t k => XS.ifNo X14.here hx rfl (hb hby at_167) rfl ((if0 _ _).trans (feq (by decide : ¬ ((1 : Int32) = (0 : Int32)))).1) k) ?_
    show Go p e below _ (T14.setTop (mkF m 170 #[.val (.int p1), .val (.int p2), .val (.int p3), .val (.int p4), .val (.int (1 : Int32)), .val (.int (p1 &&& (127 : Int32))), .val (.int (1 : Int32)), .val (.int (own_x p2)), .val (.int (own_top p2)), .val (.int (own_y p2 p3)), .val (.int (1 : Int32)), .val (.ref a5), .val (.int (own_ip (own_big (p4 &&& (7 : Int32)).toInt.toNat)))] []))
    refine Go.on (fun t k => XS.iload X14.here hx rfl (hb hby at_170) rfl k) ?_
    show Go p e below _ (T14.setTop (mkF m 172 #[.val (.int p1), .val (.int p2), .val (.int p3), .val (.int p4), .val (.int (1 : Int32)), .val (.int (p1 &&& (127 : Int32))), .val (.int (1 : Int32)), .val (.int (own_x p2)), .val (.int (own_top p2)), .val (.int (own_y p2 p3)), .val (.int (1 : Int32)), .val (.ref a5), .val (.int (own_ip (own_big (p4 &&& (7 : Int32)).toInt.toNat)))] [(.int (own_ip (own_big (p4 &&& (7 : Int32)).toInt.toNat)))]))
    refine Go.on (fun t k => XS.ifNo X14.here hx rfl (hb hby at_172) rfl ((if0 _ _).trans (feq (by rw [own_bigs ⟨_, (by omega : (p4 &&& (7 : Int32)).toInt.toNat < 8)⟩]; decide : ¬ (own_ip (own_big (p4 &&& (7 : Int32)).toInt.toNat)) = (0 : Int32))).1) k) ?_
    show Go p e below _ (T14.setTop (mkF m 175 #[.val (.int p1), .val (.int p2), .val (.int p3), .val (.int p4), .val (.int (1 : Int32)), .val (.int (p1 &&& (127 : Int32))), .val (.int (1 : Int32)), .val (.int (own_x p2)), .val (.int (own_top p2)), .val (.int (own_y p2 p3)), .val (.int (1 : Int32)), .val (.ref a5), .val (.int (own_ip (own_big (p4 &&& (7 : Int32)).toInt.toNat)))] []))
    refine Go.on (fun t k => XS.iconst X14.here hx rfl (hb hby at_175) k) ?_
    show Go p e below _ (T14.setTop (mkF m 176 #[.val (.int p1), .val (.int p2), .val (.int p3), .val (.int p4), .val (.int (1 : Int32)), .val (.int (p1 &&& (127 : Int32))), .val (.int (1 : Int32)), .val (.int (own_x p2)), .val (.int (own_top p2)), .val (.int (own_y p2 p3)), .val (.int (1 : Int32)), .val (.ref a5), .val (.int (own_ip (own_big (p4 &&& (7 : Int32)).toInt.toNat)))] [(.int (1 : Int32))]))
    refine Go.on (fun t k => XS.goto X14.here hx rfl (pc0 := 176) (pc' := 180) rfl (hb hby at_176) (by decide) (by decide) k) ?_
    show Go p e below _ (T14.setTop (mkF m 180 #[.val (.int p1), .val (.int p2), .val (.int p3), .val (.int p4), .val (.int (1 : Int32)), .val (.int (p1 &&& (127 : Int32))), .val (.int (1 : Int32)), .val (.int (own_x p2)), .val (.int (own_top p2)), .val (.int (own_y p2 p3)), .val (.int (1 : Int32)), .val (.ref a5), .val (.int (own_ip (own_big (p4 &&& (7 : Int32)).toInt.toNat)))] [(.int (1 : Int32))]))
    exact Go.retN X14 hx hlk hret (by simp) (hb hby at_180) (by decide) (by decide) ⟨by rfl, N14⟩
  · refine Go.on (fun t k => XS.icmpYes X0.here hx rfl (pc0 := 2) (pc' := 12) rfl (hb hby at_2) rfl (flt hc2).2.1 (by decide) (by decide) k) ?_
    show Go p e below _ (s₁.setTop (mkF m 12 #[.val (.int p1), .val (.int p2), .val (.int p3), .val (.int p4), .unset, .unset, .unset, .unset, .unset, .unset, .unset, .unset, .unset] []))
    refine Go.on (fun t k => XS.iconst X0.here hx rfl (hb hby at_12) k) ?_
    show Go p e below _ (s₁.setTop (mkF m 13 #[.val (.int p1), .val (.int p2), .val (.int p3), .val (.int p4), .unset, .unset, .unset, .unset, .unset, .unset, .unset, .unset, .unset] [(.int (1 : Int32))]))
    refine Go.on (fun t k => XS.goto X0.here hx rfl (pc0 := 13) (pc' := 17) rfl (hb hby at_13) (by decide) (by decide) k) ?_
    show Go p e below _ (s₁.setTop (mkF m 17 #[.val (.int p1), .val (.int p2), .val (.int p3), .val (.int p4), .unset, .unset, .unset, .unset, .unset, .unset, .unset, .unset, .unset] [(.int (1 : Int32))]))
    refine Go.on (fun t k => XS.istore X0.here hx rfl (hb hby at_17) rfl (l' := #[.val (.int p1), .val (.int p2), .val (.int p3), .val (.int p4), .val (.int (1 : Int32)), .unset, .unset, .unset, .unset, .unset, .unset, .unset, .unset]) rfl k) ?_
    show Go p e below _ (s₁.setTop (mkF m 19 #[.val (.int p1), .val (.int p2), .val (.int p3), .val (.int p4), .val (.int (1 : Int32)), .unset, .unset, .unset, .unset, .unset, .unset, .unset, .unset] []))
    refine Go.on (fun t k => XS.iloadN X0.here hx rfl (hb hby at_19) rfl k) ?_
    show Go p e below _ (s₁.setTop (mkF m 20 #[.val (.int p1), .val (.int p2), .val (.int p3), .val (.int p4), .val (.int (1 : Int32)), .unset, .unset, .unset, .unset, .unset, .unset, .unset, .unset] [(.int p1)]))
    refine Go.on (fun t k => XS.bipush X0.here hx rfl (hb hby at_20) k) ?_
    show Go p e below _ (s₁.setTop (mkF m 22 #[.val (.int p1), .val (.int p2), .val (.int p3), .val (.int p4), .val (.int (1 : Int32)), .unset, .unset, .unset, .unset, .unset, .unset, .unset, .unset] [(.int (127 : Int32)), (.int p1)]))
    refine Go.on (fun t k => XS.iand X0.here hx rfl (hb hby at_22) rfl k) ?_
    show Go p e below _ (s₁.setTop (mkF m 23 #[.val (.int p1), .val (.int p2), .val (.int p3), .val (.int p4), .val (.int (1 : Int32)), .unset, .unset, .unset, .unset, .unset, .unset, .unset, .unset] [(.int (p1 &&& (127 : Int32)))]))
    refine Go.on (fun t k => XS.istore X0.here hx rfl (hb hby at_23) rfl (l' := #[.val (.int p1), .val (.int p2), .val (.int p3), .val (.int p4), .val (.int (1 : Int32)), .val (.int (p1 &&& (127 : Int32))), .unset, .unset, .unset, .unset, .unset, .unset, .unset]) rfl k) ?_
    show Go p e below _ (s₁.setTop (mkF m 25 #[.val (.int p1), .val (.int p2), .val (.int p3), .val (.int p4), .val (.int (1 : Int32)), .val (.int (p1 &&& (127 : Int32))), .unset, .unset, .unset, .unset, .unset, .unset, .unset] []))
    refine Go.on (fun t k => XS.iload X0.here hx rfl (hb hby at_25) rfl k) ?_
    show Go p e below _ (s₁.setTop (mkF m 27 #[.val (.int p1), .val (.int p2), .val (.int p3), .val (.int p4), .val (.int (1 : Int32)), .val (.int (p1 &&& (127 : Int32))), .unset, .unset, .unset, .unset, .unset, .unset, .unset] [(.int (p1 &&& (127 : Int32)))]))
    obtain ⟨_, _, ⟨T15, L15, k15, n15⟩, -, X15, ⟨Lc15, hQ15, l15, y15, z15⟩, st15⟩ := Jvm.LawKit.callS X0 hx (y := (⟨"com/example/rillwork/rillwork/jobs/PrimesJob", "isPrime", "(I)Z"⟩ : MethodName)) hown (mvT hZ (hw _ (List.mem_of_getElem? (i := 0) rfl))) (mvT hZ (hw _ (List.mem_of_getElem? (i := 1) rfl))) (mvT hZ (hw _ (List.mem_of_getElem? (i := 2) rfl))) (mvT hZ (hw _ (List.mem_of_getElem? (i := 3) rfl))) (by decide) (backOf (W := 0) (rm1 l Z a0 hw [] (p1 &&& (127 : Int32)) h0 n0 Z0) hZ (hw _ (List.mem_of_getElem? (i := 3) rfl)) (hw _ (List.mem_of_getElem? (i := 2) rfl)) (by decide) (by decide)) (g := (mkF m 27 #[.val (.int p1), .val (.int p2), .val (.int p3), .val (.int p4), .val (.int (1 : Int32)), .val (.int (p1 &&& (127 : Int32))), .unset, .unset, .unset, .unset, .unset, .unset, .unset] [(.int (p1 &&& (127 : Int32)))])) rfl (by rw [hml]; rfl) (argsL := [(.int (p1 &&& (127 : Int32)))]) (rest := []) (lenOf pd_1 rfl) rfl (by show 2 * 0 + _ ≤ _; exact Nat.le_of_eq rfl) (hb hby at_27) (fun _ _ => ⟨rfl, e0, (by decide : 0 + 0 ≤ _), (by decide : 0 + 0 ≤ _)⟩)
    dsimp only [Pt.U, Pt.locs, Pt.cells, Pt.slots] at X15 l15 y15 z15 st15 hQ15
    subst l15 y15 z15
    obtain ⟨rfl, N15q, e15⟩ := hQ15
    have N15 := Fr.app N0 N15q
    refine Go.on st15 ?_
    show Go p e below _ (T15.setTop (mkF m 30 #[.val (.int p1), .val (.int p2), .val (.int p3), .val (.int p4), .val (.int (1 : Int32)), .val (.int (p1 &&& (127 : Int32))), .unset, .unset, .unset, .unset, .unset, .unset, .unset] [(.int (own_ip (p1 &&& (127 : Int32))))]))
    have Zc15 : n0 ≤ T15.heap.size := by rw [e15]; exact Z0
    refine Go.on (fun t k => XS.iload X15.here hx rfl (hb hby at_30) rfl k) ?_
    show Go p e below _ (T15.setTop (mkF m 32 #[.val (.int p1), .val (.int p2), .val (.int p3), .val (.int p4), .val (.int (1 : Int32)), .val (.int (p1 &&& (127 : Int32))), .unset, .unset, .unset, .unset, .unset, .unset, .unset] [(.int (p1 &&& (127 : Int32))), (.int (own_ip (p1 &&& (127 : Int32))))]))
    obtain ⟨_, _, ⟨T16, L16, k16, n16⟩, -, X16, ⟨Lc16, hQ16, l16, y16, z16⟩, st16⟩ := Jvm.LawKit.callS X15 hx (y := (⟨"com/example/rillwork/rillwork/jobs/PrimesJobIsPrimePinLaw", "smallPrime", "(I)Z"⟩ : MethodName)) hown (mvT hZ (hw _ (List.mem_of_getElem? (i := 4) rfl))) (mvT hZ (hw _ (List.mem_of_getElem? (i := 5) rfl))) (mvT hZ (hw _ (List.mem_of_getElem? (i := 6) rfl))) (mvT hZ (hw _ (List.mem_of_getElem? (i := 7) rfl))) (by decide) (backOf (W := 1) (rm2 l Z a0 hw [] (p1 &&& (127 : Int32)) T15.heap n0 Zc15) hZ (hw _ (List.mem_of_getElem? (i := 7) rfl)) (hw _ (List.mem_of_getElem? (i := 6) rfl)) (by decide) (by decide)) (g := (mkF m 32 #[.val (.int p1), .val (.int p2), .val (.int p3), .val (.int p4), .val (.int (1 : Int32)), .val (.int (p1 &&& (127 : Int32))), .unset, .unset, .unset, .unset, .unset, .unset, .unset] [(.int (p1 &&& (127 : Int32))), (.int (own_ip (p1 &&& (127 : Int32))))])) rfl (by rw [hml]; rfl) (argsL := [(.int (p1 &&& (127 : Int32)))]) (rest := [(.int (own_ip (p1 &&& (127 : Int32))))]) (lenOf pd_1 rfl) rfl (by show 2 * 0 + _ ≤ _; exact Nat.le_of_eq rfl) (hb hby at_32) (fun _ _ => ⟨rfl, (rfl : T15.heap = T15.heap), (by decide : 0 + 0 ≤ _), (by decide : 0 + 0 ≤ _)⟩)
    dsimp only [Pt.U, Pt.locs, Pt.cells, Pt.slots] at X16 l16 y16 z16 st16 hQ16
    subst l16 y16 z16
    obtain ⟨rfl, N16q, e16⟩ := hQ16
    have N16 := Fr.app N15 N16q
    refine Go.on st16 ?_
    show Go p e below _ (T16.setTop (mkF m 35 #[.val (.int p1), .val (.int p2), .val (.int p3), .val (.int p4), .val (.int (1 : Int32)), .val (.int (p1 &&& (127 : Int32))), .unset, .unset, .unset, .unset, .unset, .unset, .unset] [(.int (own_sp (p1 &&& (127 : Int32)))), (.int (own_ip (p1 &&& (127 : Int32))))]))
    have Zc16 : n0 ≤ T16.heap.size := by rw [e16]; exact Zc15
    refine Go.on (fun t k => XS.icmpNo X16.here hx rfl (hb hby at_35) rfl (teq (own_table p1 : (own_ip (p1 &&& (127 : Int32))) = (own_sp (p1 &&& (127 : Int32))))).2 k) ?_
    show Go p e below _ (T16.setTop (mkF m 38 #[.val (.int p1), .val (.int p2), .val (.int p3), .val (.int p4), .val (.int (1 : Int32)), .val (.int (p1 &&& (127 : Int32))), .unset, .unset, .unset, .unset, .unset, .unset, .unset] []))
    refine Go.on (fun t k => XS.iconst X16.here hx rfl (hb hby at_38) k) ?_
    show Go p e below _ (T16.setTop (mkF m 39 #[.val (.int p1), .val (.int p2), .val (.int p3), .val (.int p4), .val (.int (1 : Int32)), .val (.int (p1 &&& (127 : Int32))), .unset, .unset, .unset, .unset, .unset, .unset, .unset] [(.int (1 : Int32))]))
    refine Go.on (fun t k => XS.goto X16.here hx rfl (pc0 := 39) (pc' := 43) rfl (hb hby at_39) (by decide) (by decide) k) ?_
    show Go p e below _ (T16.setTop (mkF m 43 #[.val (.int p1), .val (.int p2), .val (.int p3), .val (.int p4), .val (.int (1 : Int32)), .val (.int (p1 &&& (127 : Int32))), .unset, .unset, .unset, .unset, .unset, .unset, .unset] [(.int (1 : Int32))]))
    refine Go.on (fun t k => XS.istore X16.here hx rfl (hb hby at_43) rfl (l' := #[.val (.int p1), .val (.int p2), .val (.int p3), .val (.int p4), .val (.int (1 : Int32)), .val (.int (p1 &&& (127 : Int32))), .val (.int (1 : Int32)), .unset, .unset, .unset, .unset, .unset, .unset]) rfl k) ?_
    show Go p e below _ (T16.setTop (mkF m 45 #[.val (.int p1), .val (.int p2), .val (.int p3), .val (.int p4), .val (.int (1 : Int32)), .val (.int (p1 &&& (127 : Int32))), .val (.int (1 : Int32)), .unset, .unset, .unset, .unset, .unset, .unset] []))
    refine Go.on (fun t k => XS.iconst X16.here hx rfl (hb hby at_45) k) ?_
    show Go p e below _ (T16.setTop (mkF m 46 #[.val (.int p1), .val (.int p2), .val (.int p3), .val (.int p4), .val (.int (1 : Int32)), .val (.int (p1 &&& (127 : Int32))), .val (.int (1 : Int32)), .unset, .unset, .unset, .unset, .unset, .unset] [(.int (2 : Int32))]))
    refine Go.on (fun t k => XS.iloadN X16.here hx rfl (hb hby at_46) rfl k) ?_
    show Go p e below _ (T16.setTop (mkF m 47 #[.val (.int p1), .val (.int p2), .val (.int p3), .val (.int p4), .val (.int (1 : Int32)), .val (.int (p1 &&& (127 : Int32))), .val (.int (1 : Int32)), .unset, .unset, .unset, .unset, .unset, .unset] [(.int p2), (.int (2 : Int32))]))
    refine Go.on (fun t k => X16.ldcInt hx hown (mvT hZ (hw _ (List.mem_of_getElem? (i := 10) rfl))) (g := (mkF m 47 #[.val (.int p1), .val (.int p2), .val (.int p3), .val (.int p4), .val (.int (1 : Int32)), .val (.int (p1 &&& (127 : Int32))), .val (.int (1 : Int32)), .unset, .unset, .unset, .unset, .unset, .unset] [(.int p2), (.int (2 : Int32))])) rfl (hb hby at_47) _ k) ?_
    show Go p e below _ (T16.setTop (mkF m 49 #[.val (.int p1), .val (.int p2), .val (.int p3), .val (.int p4), .val (.int (1 : Int32)), .val (.int (p1 &&& (127 : Int32))), .val (.int (1 : Int32)), .unset, .unset, .unset, .unset, .unset, .unset] [(.int (2147483647 : Int32)), (.int p2), (.int (2 : Int32))]))
    refine Go.on (fun t k => XS.iand X16.here hx rfl (hb hby at_49) rfl k) ?_
    show Go p e below _ (T16.setTop (mkF m 50 #[.val (.int p1), .val (.int p2), .val (.int p3), .val (.int p4), .val (.int (1 : Int32)), .val (.int (p1 &&& (127 : Int32))), .val (.int (1 : Int32)), .unset, .unset, .unset, .unset, .unset, .unset] [(.int (p2 &&& (2147483647 : Int32))), (.int (2 : Int32))]))
    refine Go.on (fun t k => X16.ldcInt hx hown (mvT hZ (hw _ (List.mem_of_getElem? (i := 11) rfl))) (g := (mkF m 50 #[.val (.int p1), .val (.int p2), .val (.int p3), .val (.int p4), .val (.int (1 : Int32)), .val (.int (p1 &&& (127 : Int32))), .val (.int (1 : Int32)), .unset, .unset, .unset, .unset, .unset, .unset] [(.int (p2 &&& (2147483647 : Int32))), (.int (2 : Int32))])) rfl (hb hby at_50) _ k) ?_
    show Go p e below _ (T16.setTop (mkF m 52 #[.val (.int p1), .val (.int p2), .val (.int p3), .val (.int p4), .val (.int (1 : Int32)), .val (.int (p1 &&& (127 : Int32))), .val (.int (1 : Int32)), .unset, .unset, .unset, .unset, .unset, .unset] [(.int (46339 : Int32)), (.int (p2 &&& (2147483647 : Int32))), (.int (2 : Int32))]))
    refine Go.on (fun t k => iremM X16 hx rfl (hb hby at_52) rfl (by decide) k) ?_
    show Go p e below _ (T16.setTop (mkF m 53 #[.val (.int p1), .val (.int p2), .val (.int p3), .val (.int p4), .val (.int (1 : Int32)), .val (.int (p1 &&& (127 : Int32))), .val (.int (1 : Int32)), .unset, .unset, .unset, .unset, .unset, .unset] [(.int ((p2 &&& (2147483647 : Int32)) % (46339 : Int32))), (.int (2 : Int32))]))
    refine Go.on (fun t k => XS.iadd X16.here hx rfl (hb hby at_53) rfl k) ?_
    show Go p e below _ (T16.setTop (mkF m 54 #[.val (.int p1), .val (.int p2), .val (.int p3), .val (.int p4), .val (.int (1 : Int32)), .val (.int (p1 &&& (127 : Int32))), .val (.int (1 : Int32)), .unset, .unset, .unset, .unset, .unset, .unset] [(.int (own_x p2))]))
    refine Go.on (fun t k => XS.istore X16.here hx rfl (hb hby at_54) rfl (l' := #[.val (.int p1), .val (.int p2), .val (.int p3), .val (.int p4), .val (.int (1 : Int32)), .val (.int (p1 &&& (127 : Int32))), .val (.int (1 : Int32)), .val (.int (own_x p2)), .unset, .unset, .unset, .unset, .unset]) rfl k) ?_
    show Go p e below _ (T16.setTop (mkF m 56 #[.val (.int p1), .val (.int p2), .val (.int p3), .val (.int p4), .val (.int (1 : Int32)), .val (.int (p1 &&& (127 : Int32))), .val (.int (1 : Int32)), .val (.int (own_x p2)), .unset, .unset, .unset, .unset, .unset] []))
    refine Go.on (fun t k => X16.ldcInt hx hown (mvT hZ (hw _ (List.mem_of_getElem? (i := 10) rfl))) (g := (mkF m 56 #[.val (.int p1), .val (.int p2), .val (.int p3), .val (.int p4), .val (.int (1 : Int32)), .val (.int (p1 &&& (127 : Int32))), .val (.int (1 : Int32)), .val (.int (own_x p2)), .unset, .unset, .unset, .unset, .unset] [])) rfl (hb hby at_56) _ k) ?_
    show Go p e below _ (T16.setTop (mkF m 58 #[.val (.int p1), .val (.int p2), .val (.int p3), .val (.int p4), .val (.int (1 : Int32)), .val (.int (p1 &&& (127 : Int32))), .val (.int (1 : Int32)), .val (.int (own_x p2)), .unset, .unset, .unset, .unset, .unset] [(.int (2147483647 : Int32))]))
    refine Go.on (fun t k => XS.iload X16.here hx rfl (hb hby at_58) rfl k) ?_
    show Go p e below _ (T16.setTop (mkF m 60 #[.val (.int p1), .val (.int p2), .val (.int p3), .val (.int p4), .val (.int (1 : Int32)), .val (.int (p1 &&& (127 : Int32))), .val (.int (1 : Int32)), .val (.int (own_x p2)), .unset, .unset, .unset, .unset, .unset] [(.int (own_x p2)), (.int (2147483647 : Int32))]))
    refine Go.on (fun t k => XS.idiv X16.here hx rfl (hb hby at_60) rfl (own_x_nz p2) k) ?_
    show Go p e below _ (T16.setTop (mkF m 61 #[.val (.int p1), .val (.int p2), .val (.int p3), .val (.int p4), .val (.int (1 : Int32)), .val (.int (p1 &&& (127 : Int32))), .val (.int (1 : Int32)), .val (.int (own_x p2)), .unset, .unset, .unset, .unset, .unset] [(.int (own_top p2))]))
    refine Go.on (fun t k => XS.istore X16.here hx rfl (hb hby at_61) rfl (l' := #[.val (.int p1), .val (.int p2), .val (.int p3), .val (.int p4), .val (.int (1 : Int32)), .val (.int (p1 &&& (127 : Int32))), .val (.int (1 : Int32)), .val (.int (own_x p2)), .val (.int (own_top p2)), .unset, .unset, .unset, .unset]) rfl k) ?_
    show Go p e below _ (T16.setTop (mkF m 63 #[.val (.int p1), .val (.int p2), .val (.int p3), .val (.int p4), .val (.int (1 : Int32)), .val (.int (p1 &&& (127 : Int32))), .val (.int (1 : Int32)), .val (.int (own_x p2)), .val (.int (own_top p2)), .unset, .unset, .unset, .unset] []))
    refine Go.on (fun t k => XS.iconst X16.here hx rfl (hb hby at_63) k) ?_
    show Go p e below _ (T16.setTop (mkF m 64 #[.val (.int p1), .val (.int p2), .val (.int p3), .val (.int p4), .val (.int (1 : Int32)), .val (.int (p1 &&& (127 : Int32))), .val (.int (1 : Int32)), .val (.int (own_x p2)), .val (.int (own_top p2)), .unset, .unset, .unset, .unset] [(.int (2 : Int32))]))
    refine Go.on (fun t k => XS.iloadN X16.here hx rfl (hb hby at_64) rfl k) ?_
    show Go p e below _ (T16.setTop (mkF m 65 #[.val (.int p1), .val (.int p2), .val (.int p3), .val (.int p4), .val (.int (1 : Int32)), .val (.int (p1 &&& (127 : Int32))), .val (.int (1 : Int32)), .val (.int (own_x p2)), .val (.int (own_top p2)), .unset, .unset, .unset, .unset] [(.int p3), (.int (2 : Int32))]))
    refine Go.on (fun t k => X16.ldcInt hx hown (mvT hZ (hw _ (List.mem_of_getElem? (i := 10) rfl))) (g := (mkF m 65 #[.val (.int p1), .val (.int p2), .val (.int p3), .val (.int p4), .val (.int (1 : Int32)), .val (.int (p1 &&& (127 : Int32))), .val (.int (1 : Int32)), .val (.int (own_x p2)), .val (.int (own_top p2)), .unset, .unset, .unset, .unset] [(.int p3), (.int (2 : Int32))])) rfl (hb hby at_65) _ k) ?_
    show Go p e below _ (T16.setTop (mkF m 67 #[.val (.int p1), .val (.int p2), .val (.int p3), .val (.int p4), .val (.int (1 : Int32)), .val (.int (p1 &&& (127 : Int32))), .val (.int (1 : Int32)), .val (.int (own_x p2)), .val (.int (own_top p2)), .unset, .unset, .unset, .unset] [(.int (2147483647 : Int32)), (.int p3), (.int (2 : Int32))]))
    refine Go.on (fun t k => XS.iand X16.here hx rfl (hb hby at_67) rfl k) ?_
    show Go p e below _ (T16.setTop (mkF m 68 #[.val (.int p1), .val (.int p2), .val (.int p3), .val (.int p4), .val (.int (1 : Int32)), .val (.int (p1 &&& (127 : Int32))), .val (.int (1 : Int32)), .val (.int (own_x p2)), .val (.int (own_top p2)), .unset, .unset, .unset, .unset] [(.int (p3 &&& (2147483647 : Int32))), (.int (2 : Int32))]))
    refine Go.on (fun t k => XS.iload X16.here hx rfl (hb hby at_68) rfl k) ?_
    show Go p e below _ (T16.setTop (mkF m 70 #[.val (.int p1), .val (.int p2), .val (.int p3), .val (.int p4), .val (.int (1 : Int32)), .val (.int (p1 &&& (127 : Int32))), .val (.int (1 : Int32)), .val (.int (own_x p2)), .val (.int (own_top p2)), .unset, .unset, .unset, .unset] [(.int (own_top p2)), (.int (p3 &&& (2147483647 : Int32))), (.int (2 : Int32))]))
    refine Go.on (fun t k => XS.iconst X16.here hx rfl (hb hby at_70) k) ?_
    show Go p e below _ (T16.setTop (mkF m 71 #[.val (.int p1), .val (.int p2), .val (.int p3), .val (.int p4), .val (.int (1 : Int32)), .val (.int (p1 &&& (127 : Int32))), .val (.int (1 : Int32)), .val (.int (own_x p2)), .val (.int (own_top p2)), .unset, .unset, .unset, .unset] [(.int (1 : Int32)), (.int (own_top p2)), (.int (p3 &&& (2147483647 : Int32))), (.int (2 : Int32))]))
    refine Go.on (fun t k => XS.isub X16.here hx rfl (hb hby at_71) rfl k) ?_
    show Go p e below _ (T16.setTop (mkF m 72 #[.val (.int p1), .val (.int p2), .val (.int p3), .val (.int p4), .val (.int (1 : Int32)), .val (.int (p1 &&& (127 : Int32))), .val (.int (1 : Int32)), .val (.int (own_x p2)), .val (.int (own_top p2)), .unset, .unset, .unset, .unset] [(.int ((own_top p2) - (1 : Int32))), (.int (p3 &&& (2147483647 : Int32))), (.int (2 : Int32))]))
    refine Go.on (fun t k => iremM X16 hx rfl (hb hby at_72) rfl (own_t_nz p2) k) ?_
    show Go p e below _ (T16.setTop (mkF m 73 #[.val (.int p1), .val (.int p2), .val (.int p3), .val (.int p4), .val (.int (1 : Int32)), .val (.int (p1 &&& (127 : Int32))), .val (.int (1 : Int32)), .val (.int (own_x p2)), .val (.int (own_top p2)), .unset, .unset, .unset, .unset] [(.int ((p3 &&& (2147483647 : Int32)) % ((own_top p2) - (1 : Int32)))), (.int (2 : Int32))]))
    refine Go.on (fun t k => XS.iadd X16.here hx rfl (hb hby at_73) rfl k) ?_
    show Go p e below _ (T16.setTop (mkF m 74 #[.val (.int p1), .val (.int p2), .val (.int p3), .val (.int p4), .val (.int (1 : Int32)), .val (.int (p1 &&& (127 : Int32))), .val (.int (1 : Int32)), .val (.int (own_x p2)), .val (.int (own_top p2)), .unset, .unset, .unset, .unset] [(.int (own_y p2 p3))]))
    refine Go.on (fun t k => XS.istore X16.here hx rfl (hb hby at_74) rfl (l' := #[.val (.int p1), .val (.int p2), .val (.int p3), .val (.int p4), .val (.int (1 : Int32)), .val (.int (p1 &&& (127 : Int32))), .val (.int (1 : Int32)), .val (.int (own_x p2)), .val (.int (own_top p2)), .val (.int (own_y p2 p3)), .unset, .unset, .unset]) rfl k) ?_
    show Go p e below _ (T16.setTop (mkF m 76 #[.val (.int p1), .val (.int p2), .val (.int p3), .val (.int p4), .val (.int (1 : Int32)), .val (.int (p1 &&& (127 : Int32))), .val (.int (1 : Int32)), .val (.int (own_x p2)), .val (.int (own_top p2)), .val (.int (own_y p2 p3)), .unset, .unset, .unset] []))
    refine Go.on (fun t k => XS.iload X16.here hx rfl (hb hby at_76) rfl k) ?_
    show Go p e below _ (T16.setTop (mkF m 78 #[.val (.int p1), .val (.int p2), .val (.int p3), .val (.int p4), .val (.int (1 : Int32)), .val (.int (p1 &&& (127 : Int32))), .val (.int (1 : Int32)), .val (.int (own_x p2)), .val (.int (own_top p2)), .val (.int (own_y p2 p3)), .unset, .unset, .unset] [(.int (own_x p2))]))
    refine Go.on (fun t k => XS.iload X16.here hx rfl (hb hby at_78) rfl k) ?_
    show Go p e below _ (T16.setTop (mkF m 80 #[.val (.int p1), .val (.int p2), .val (.int p3), .val (.int p4), .val (.int (1 : Int32)), .val (.int (p1 &&& (127 : Int32))), .val (.int (1 : Int32)), .val (.int (own_x p2)), .val (.int (own_top p2)), .val (.int (own_y p2 p3)), .unset, .unset, .unset] [(.int (own_y p2 p3)), (.int (own_x p2))]))
    refine Go.on (fun t k => XS.imul X16.here hx rfl (hb hby at_80) rfl k) ?_
    show Go p e below _ (T16.setTop (mkF m 81 #[.val (.int p1), .val (.int p2), .val (.int p3), .val (.int p4), .val (.int (1 : Int32)), .val (.int (p1 &&& (127 : Int32))), .val (.int (1 : Int32)), .val (.int (own_x p2)), .val (.int (own_top p2)), .val (.int (own_y p2 p3)), .unset, .unset, .unset] [(.int ((own_x p2) * (own_y p2 p3)))]))
    obtain ⟨_, _, ⟨T17, L17, k17, n17⟩, -, X17, ⟨Lc17, hQ17, l17, y17, z17⟩, st17⟩ := Jvm.LawKit.callS X16 hx (y := (⟨"com/example/rillwork/rillwork/jobs/PrimesJob", "isPrime", "(I)Z"⟩ : MethodName)) hown (mvT hZ (hw _ (List.mem_of_getElem? (i := 0) rfl))) (mvT hZ (hw _ (List.mem_of_getElem? (i := 1) rfl))) (mvT hZ (hw _ (List.mem_of_getElem? (i := 2) rfl))) (mvT hZ (hw _ (List.mem_of_getElem? (i := 3) rfl))) (by decide) (backOf (W := 0) (rm1 l Z a0 hw [] ((own_x p2) * (own_y p2 p3)) T16.heap n0 Zc16) hZ (hw _ (List.mem_of_getElem? (i := 3) rfl)) (hw _ (List.mem_of_getElem? (i := 2) rfl)) (by decide) (by decide)) (g := (mkF m 81 #[.val (.int p1), .val (.int p2), .val (.int p3), .val (.int p4), .val (.int (1 : Int32)), .val (.int (p1 &&& (127 : Int32))), .val (.int (1 : Int32)), .val (.int (own_x p2)), .val (.int (own_top p2)), .val (.int (own_y p2 p3)), .unset, .unset, .unset] [(.int ((own_x p2) * (own_y p2 p3)))])) rfl (by rw [hml]; rfl) (argsL := [(.int ((own_x p2) * (own_y p2 p3)))]) (rest := []) (lenOf pd_1 rfl) rfl (by show 2 * 0 + _ ≤ _; exact Nat.le_of_eq rfl) (hb hby at_81) (fun _ _ => ⟨rfl, (rfl : T16.heap = T16.heap), (by decide : 0 + 0 ≤ _), (by decide : 0 + 0 ≤ _)⟩)
    dsimp only [Pt.U, Pt.locs, Pt.cells, Pt.slots] at X17 l17 y17 z17 st17 hQ17
    subst l17 y17 z17
    obtain ⟨rfl, N17q, e17⟩ := hQ17
    have N17 := Fr.app N16 N17q
    refine Go.on st17 ?_
    show Go p e below _ (T17.setTop (mkF m 84 #[.val (.int p1), .val (.int p2), .val (.int p3), .val (.int p4), .val (.int (1 : Int32)), .val (.int (p1 &&& (127 : Int32))), .val (.int (1 : Int32)), .val (.int (own_x p2)), .val (.int (own_top p2)), .val (.int (own_y p2 p3)), .unset, .unset, .unset] [(.int (own_ip ((own_x p2) * (own_y p2 p3))))]))
    have Zc17 : n0 ≤ T17.heap.size := by rw [e17]; exact Zc16
    refine Go.on (fun t k => XS.ifNo X17.here hx rfl (hb hby at_84) rfl ((if0 _ _).trans (teq (own_composite p2 p3 : (own_ip ((own_x p2) * (own_y p2 p3))) = (0 : Int32))).2) k) ?_
    show Go p e below _ (T17.setTop (mkF m 87 #[.val (.int p1), .val (.int p2), .val (.int p3), .val (.int p4), .val (.int (1 : Int32)), .val (.int (p1 &&& (127 : Int32))), .val (.int (1 : Int32)), .val (.int (own_x p2)), .val (.int (own_top p2)), .val (.int (own_y p2 p3)), .unset, .unset, .unset] []))
    refine Go.on (fun t k => XS.iconst X17.here hx rfl (hb hby at_87) k) ?_
    show Go p e below _ (T17.setTop (mkF m 88 #[.val (.int p1), .val (.int p2), .val (.int p3), .val (.int p4), .val (.int (1 : Int32)), .val (.int (p1 &&& (127 : Int32))), .val (.int (1 : Int32)), .val (.int (own_x p2)), .val (.int (own_top p2)), .val (.int (own_y p2 p3)), .unset, .unset, .unset] [(.int (1 : Int32))]))
    refine Go.on (fun t k => XS.goto X17.here hx rfl (pc0 := 88) (pc' := 92) rfl (hb hby at_88) (by decide) (by decide) k) ?_
    show Go p e below _ (T17.setTop (mkF m 92 #[.val (.int p1), .val (.int p2), .val (.int p3), .val (.int p4), .val (.int (1 : Int32)), .val (.int (p1 &&& (127 : Int32))), .val (.int (1 : Int32)), .val (.int (own_x p2)), .val (.int (own_top p2)), .val (.int (own_y p2 p3)), .unset, .unset, .unset] [(.int (1 : Int32))]))
    refine Go.on (fun t k => XS.istore X17.here hx rfl (hb hby at_92) rfl (l' := #[.val (.int p1), .val (.int p2), .val (.int p3), .val (.int p4), .val (.int (1 : Int32)), .val (.int (p1 &&& (127 : Int32))), .val (.int (1 : Int32)), .val (.int (own_x p2)), .val (.int (own_top p2)), .val (.int (own_y p2 p3)), .val (.int (1 : Int32)), .unset, .unset]) rfl k) ?_
    show Go p e below _ (T17.setTop (mkF m 94 #[.val (.int p1), .val (.int p2), .val (.int p3), .val (.int p4), .val (.int (1 : Int32)), .val (.int (p1 &&& (127 : Int32))), .val (.int (1 : Int32)), .val (.int (own_x p2)), .val (.int (own_top p2)), .val (.int (own_y p2 p3)), .val (.int (1 : Int32)), .unset, .unset] []))
    refine Go.on (fun t k => XS.bipush X17.here hx rfl (hb hby at_94) k) ?_
    show Go p e below _ (T17.setTop (mkF m 96 #[.val (.int p1), .val (.int p2), .val (.int p3), .val (.int p4), .val (.int (1 : Int32)), .val (.int (p1 &&& (127 : Int32))), .val (.int (1 : Int32)), .val (.int (own_x p2)), .val (.int (own_top p2)), .val (.int (own_y p2 p3)), .val (.int (1 : Int32)), .unset, .unset] [(.int (8 : Int32))]))
    obtain ⟨T18, h18, cA18, X18, e18, E18, A18, st18⟩ := newP X17 hx hZ (aty := .int) (hw _ (List.mem_of_getElem? (i := 12) rfl)) (rfl : T17.heap = T17.heap) (g := (mkF m 96 #[.val (.int p1), .val (.int p2), .val (.int p3), .val (.int p4), .val (.int (1 : Int32)), .val (.int (p1 &&& (127 : Int32))), .val (.int (1 : Int32)), .val (.int (own_x p2)), .val (.int (own_top p2)), .val (.int (own_y p2 p3)), .val (.int (1 : Int32)), .unset, .unset] [(.int (8 : Int32))])) rfl (hb hby at_96) (n := (8 : Int32)) rfl (by decide) (cap := 8) (by decide) (by decide) (by decide) (by decide)
    obtain ⟨a18, g18⟩ : ∃ z, z = T17.heap.size := ⟨_, rfl⟩
    rw [← g18] at A18 st18
    have Z18 : n0 ≤ h18.size := Nat.le_trans Zc17 E18.1
    have G18 : n0 ≤ a18 := Nat.le_trans Zc17 (Nat.le_of_eq g18.symm)
    have F18 : BA Z h18 a18 .int 8 (fun _ => defaultValue .int) := BA.new A18 rfl
    refine Go.on st18 ?_
    show Go p e below _ (T18.setTop (mkF m 98 #[.val (.int p1), .val (.int p2), .val (.int p3), .val (.int p4), .val (.int (1 : Int32)), .val (.int (p1 &&& (127 : Int32))), .val (.int (1 : Int32)), .val (.int (own_x p2)), .val (.int (own_top p2)), .val (.int (own_y p2 p3)), .val (.int (1 : Int32)), .unset, .unset] [(.ref a18)]))
    refine Go.on (fun t k => XS.dup X18.here hx rfl (hb hby at_98) rfl rfl k) ?_
    show Go p e below _ (T18.setTop (mkF m 99 #[.val (.int p1), .val (.int p2), .val (.int p3), .val (.int p4), .val (.int (1 : Int32)), .val (.int (p1 &&& (127 : Int32))), .val (.int (1 : Int32)), .val (.int (own_x p2)), .val (.int (own_top p2)), .val (.int (own_y p2 p3)), .val (.int (1 : Int32)), .unset, .unset] [(.ref a18), (.ref a18)]))
    refine Go.on (fun t k => XS.iconst X18.here hx rfl (hb hby at_99) k) ?_
    show Go p e below _ (T18.setTop (mkF m 100 #[.val (.int p1), .val (.int p2), .val (.int p3), .val (.int p4), .val (.int (1 : Int32)), .val (.int (p1 &&& (127 : Int32))), .val (.int (1 : Int32)), .val (.int (own_x p2)), .val (.int (own_top p2)), .val (.int (own_y p2 p3)), .val (.int (1 : Int32)), .unset, .unset] [(.int (0 : Int32)), (.ref a18), (.ref a18)]))
    refine Go.on (fun t k => X18.ldcInt hx hown (mvT hZ (hw _ (List.mem_of_getElem? (i := 10) rfl))) (g := (mkF m 100 #[.val (.int p1), .val (.int p2), .val (.int p3), .val (.int p4), .val (.int (1 : Int32)), .val (.int (p1 &&& (127 : Int32))), .val (.int (1 : Int32)), .val (.int (own_x p2)), .val (.int (own_top p2)), .val (.int (own_y p2 p3)), .val (.int (1 : Int32)), .unset, .unset] [(.int (0 : Int32)), (.ref a18), (.ref a18)])) rfl (hb hby at_100) _ k) ?_
    show Go p e below _ (T18.setTop (mkF m 102 #[.val (.int p1), .val (.int p2), .val (.int p3), .val (.int p4), .val (.int (1 : Int32)), .val (.int (p1 &&& (127 : Int32))), .val (.int (1 : Int32)), .val (.int (own_x p2)), .val (.int (own_top p2)), .val (.int (own_y p2 p3)), .val (.int (1 : Int32)), .unset, .unset] [(.int (2147483647 : Int32)), (.int (0 : Int32)), (.ref a18), (.ref a18)]))
    refine Go.stI X18 hx hZ e18 F18 (i := 0) (by decide) (by decide) (by decide) (hb hby at_102) ?_
    intro T19 h19 X19 e19 W19 F19
    have N19 := Fr.snoc X19 N17 G18
    show Go p e below _ (T19.setTop (mkF m 103 #[.val (.int p1), .val (.int p2), .val (.int p3), .val (.int p4), .val (.int (1 : Int32)), .val (.int (p1 &&& (127 : Int32))), .val (.int (1 : Int32)), .val (.int (own_x p2)), .val (.int (own_top p2)), .val (.int (own_y p2 p3)), .val (.int (1 : Int32)), .unset, .unset] [(.ref a18)]))
    have Zs19 : n0 ≤ h19.size := by rw [W19.size]; exact Z18
    refine Go.on (fun t k => XS.dup X19.here hx rfl (hb hby at_103) rfl rfl k) ?_
    show Go p e below _ (T19.setTop (mkF m 104 #[.val (.int p1), .val (.int p2), .val (.int p3), .val (.int p4), .val (.int (1 : Int32)), .val (.int (p1 &&& (127 : Int32))), .val (.int (1 : Int32)), .val (.int (own_x p2)), .val (.int (own_top p2)), .val (.int (own_y p2 p3)), .val (.int (1 : Int32)), .unset, .unset] [(.ref a18), (.ref a18)]))
    refine Go.on (fun t k => XS.iconst X19.here hx rfl (hb hby at_104) k) ?_
    show Go p e below _ (T19.setTop (mkF m 105 #[.val (.int p1), .val (.int p2), .val (.int p3), .val (.int p4), .val (.int (1 : Int32)), .val (.int (p1 &&& (127 : Int32))), .val (.int (1 : Int32)), .val (.int (own_x p2)), .val (.int (own_top p2)), .val (.int (own_y p2 p3)), .val (.int (1 : Int32)), .unset, .unset] [(.int (1 : Int32)), (.ref a18), (.ref a18)]))
    refine Go.on (fun t k => X19.ldcInt hx hown (mvT hZ (hw _ (List.mem_of_getElem? (i := 13) rfl))) (g := (mkF m 105 #[.val (.int p1), .val (.int p2), .val (.int p3), .val (.int p4), .val (.int (1 : Int32)), .val (.int (p1 &&& (127 : Int32))), .val (.int (1 : Int32)), .val (.int (own_x p2)), .val (.int (own_top p2)), .val (.int (own_y p2 p3)), .val (.int (1 : Int32)), .unset, .unset] [(.int (1 : Int32)), (.ref a18), (.ref a18)])) rfl (hb hby at_105) _ k) ?_
    show Go p e below _ (T19.setTop (mkF m 107 #[.val (.int p1), .val (.int p2), .val (.int p3), .val (.int p4), .val (.int (1 : Int32)), .val (.int (p1 &&& (127 : Int32))), .val (.int (1 : Int32)), .val (.int (own_x p2)), .val (.int (own_top p2)), .val (.int (own_y p2 p3)), .val (.int (1 : Int32)), .unset, .unset] [(.int (1000000007 : Int32)), (.int (1 : Int32)), (.ref a18), (.ref a18)]))
    refine Go.stI X19 hx hZ e19 F19 (i := 1) (by decide) (by decide) (by decide) (hb hby at_107) ?_
    intro T20 h20 X20 e20 W20 F20
    have N20 := Fr.snoc X20 N19 G18
    show Go p e below _ (T20.setTop (mkF m 108 #[.val (.int p1), .val (.int p2), .val (.int p3), .val (.int p4), .val (.int (1 : Int32)), .val (.int (p1 &&& (127 : Int32))), .val (.int (1 : Int32)), .val (.int (own_x p2)), .val (.int (own_top p2)), .val (.int (own_y p2 p3)), .val (.int (1 : Int32)), .unset, .unset] [(.ref a18)]))
    have Zs20 : n0 ≤ h20.size := by rw [W20.size]; exact Zs19
    refine Go.on (fun t k => XS.dup X20.here hx rfl (hb hby at_108) rfl rfl k) ?_
    show Go p e below _ (T20.setTop (mkF m 109 #[.val (.int p1), .val (.int p2), .val (.int p3), .val (.int p4), .val (.int (1 : Int32)), .val (.int (p1 &&& (127 : Int32))), .val (.int (1 : Int32)), .val (.int (own_x p2)), .val (.int (own_top p2)), .val (.int (own_y p2 p3)), .val (.int (1 : Int32)), .unset, .unset] [(.ref a18), (.ref a18)]))
    refine Go.on (fun t k => XS.iconst X20.here hx rfl (hb hby at_109) k) ?_
    show Go p e below _ (T20.setTop (mkF m 110 #[.val (.int p1), .val (.int p2), .val (.int p3), .val (.int p4), .val (.int (1 : Int32)), .val (.int (p1 &&& (127 : Int32))), .val (.int (1 : Int32)), .val (.int (own_x p2)), .val (.int (own_top p2)), .val (.int (own_y p2 p3)), .val (.int (1 : Int32)), .unset, .unset] [(.int (2 : Int32)), (.ref a18), (.ref a18)]))
    refine Go.on (fun t k => X20.ldcInt hx hown (mvT hZ (hw _ (List.mem_of_getElem? (i := 14) rfl))) (g := (mkF m 110 #[.val (.int p1), .val (.int p2), .val (.int p3), .val (.int p4), .val (.int (1 : Int32)), .val (.int (p1 &&& (127 : Int32))), .val (.int (1 : Int32)), .val (.int (own_x p2)), .val (.int (own_top p2)), .val (.int (own_y p2 p3)), .val (.int (1 : Int32)), .unset, .unset] [(.int (2 : Int32)), (.ref a18), (.ref a18)])) rfl (hb hby at_110) _ k) ?_
    show Go p e below _ (T20.setTop (mkF m 112 #[.val (.int p1), .val (.int p2), .val (.int p3), .val (.int p4), .val (.int (1 : Int32)), .val (.int (p1 &&& (127 : Int32))), .val (.int (1 : Int32)), .val (.int (own_x p2)), .val (.int (own_top p2)), .val (.int (own_y p2 p3)), .val (.int (1 : Int32)), .unset, .unset] [(.int (1000000009 : Int32)), (.int (2 : Int32)), (.ref a18), (.ref a18)]))
    refine Go.stI X20 hx hZ e20 F20 (i := 2) (by decide) (by decide) (by decide) (hb hby at_112) ?_
    intro T21 h21 X21 e21 W21 F21
    have N21 := Fr.snoc X21 N20 G18
    show Go p e below _ (T21.setTop (mkF m 113 #[.val (.int p1), .val (.int p2), .val (.int p3), .val (.int p4), .val (.int (1 : Int32)), .val (.int (p1 &&& (127 : Int32))), .val (.int (1 : Int32)), .val (.int (own_x p2)), .val (.int (own_top p2)), .val (.int (own_y p2 p3)), .val (.int (1 : Int32)), .unset, .unset] [(.ref a18)]))
    have Zs21 : n0 ≤ h21.size := by rw [W21.size]; exact Zs20
    refine Go.on (fun t k => XS.dup X21.here hx rfl (hb hby at_113) rfl rfl k) ?_
    show Go p e below _ (T21.setTop (mkF m 114 #[.val (.int p1), .val (.int p2), .val (.int p3), .val (.int p4), .val (.int (1 : Int32)), .val (.int (p1 &&& (127 : Int32))), .val (.int (1 : Int32)), .val (.int (own_x p2)), .val (.int (own_top p2)), .val (.int (own_y p2 p3)), .val (.int (1 : Int32)), .unset, .unset] [(.ref a18), (.ref a18)]))
    refine Go.on (fun t k => XS.iconst X21.here hx rfl (hb hby at_114) k) ?_
    show Go p e below _ (T21.setTop (mkF m 115 #[.val (.int p1), .val (.int p2), .val (.int p3), .val (.int p4), .val (.int (1 : Int32)), .val (.int (p1 &&& (127 : Int32))), .val (.int (1 : Int32)), .val (.int (own_x p2)), .val (.int (own_top p2)), .val (.int (own_y p2 p3)), .val (.int (1 : Int32)), .unset, .unset] [(.int (3 : Int32)), (.ref a18), (.ref a18)]))
    refine Go.on (fun t k => X21.ldcInt hx hown (mvT hZ (hw _ (List.mem_of_getElem? (i := 15) rfl))) (g := (mkF m 115 #[.val (.int p1), .val (.int p2), .val (.int p3), .val (.int p4), .val (.int (1 : Int32)), .val (.int (p1 &&& (127 : Int32))), .val (.int (1 : Int32)), .val (.int (own_x p2)), .val (.int (own_top p2)), .val (.int (own_y p2 p3)), .val (.int (1 : Int32)), .unset, .unset] [(.int (3 : Int32)), (.ref a18), (.ref a18)])) rfl (hb hby at_115) _ k) ?_
    show Go p e below _ (T21.setTop (mkF m 117 #[.val (.int p1), .val (.int p2), .val (.int p3), .val (.int p4), .val (.int (1 : Int32)), .val (.int (p1 &&& (127 : Int32))), .val (.int (1 : Int32)), .val (.int (own_x p2)), .val (.int (own_top p2)), .val (.int (own_y p2 p3)), .val (.int (1 : Int32)), .unset, .unset] [(.int (998244353 : Int32)), (.int (3 : Int32)), (.ref a18), (.ref a18)]))
    refine Go.stI X21 hx hZ e21 F21 (i := 3) (by decide) (by decide) (by decide) (hb hby at_117) ?_
    intro T22 h22 X22 e22 W22 F22
    have N22 := Fr.snoc X22 N21 G18
    show Go p e below _ (T22.setTop (mkF m 118 #[.val (.int p1), .val (.int p2), .val (.int p3), .val (.int p4), .val (.int (1 : Int32)), .val (.int (p1 &&& (127 : Int32))), .val (.int (1 : Int32)), .val (.int (own_x p2)), .val (.int (own_top p2)), .val (.int (own_y p2 p3)), .val (.int (1 : Int32)), .unset, .unset] [(.ref a18)]))
    have Zs22 : n0 ≤ h22.size := by rw [W22.size]; exact Zs21
    refine Go.on (fun t k => XS.dup X22.here hx rfl (hb hby at_118) rfl rfl k) ?_
    show Go p e below _ (T22.setTop (mkF m 119 #[.val (.int p1), .val (.int p2), .val (.int p3), .val (.int p4), .val (.int (1 : Int32)), .val (.int (p1 &&& (127 : Int32))), .val (.int (1 : Int32)), .val (.int (own_x p2)), .val (.int (own_top p2)), .val (.int (own_y p2 p3)), .val (.int (1 : Int32)), .unset, .unset] [(.ref a18), (.ref a18)]))
    refine Go.on (fun t k => XS.iconst X22.here hx rfl (hb hby at_119) k) ?_
    show Go p e below _ (T22.setTop (mkF m 120 #[.val (.int p1), .val (.int p2), .val (.int p3), .val (.int p4), .val (.int (1 : Int32)), .val (.int (p1 &&& (127 : Int32))), .val (.int (1 : Int32)), .val (.int (own_x p2)), .val (.int (own_top p2)), .val (.int (own_y p2 p3)), .val (.int (1 : Int32)), .unset, .unset] [(.int (4 : Int32)), (.ref a18), (.ref a18)]))
    refine Go.on (fun t k => X22.ldcInt hx hown (mvT hZ (hw _ (List.mem_of_getElem? (i := 16) rfl))) (g := (mkF m 120 #[.val (.int p1), .val (.int p2), .val (.int p3), .val (.int p4), .val (.int (1 : Int32)), .val (.int (p1 &&& (127 : Int32))), .val (.int (1 : Int32)), .val (.int (own_x p2)), .val (.int (own_top p2)), .val (.int (own_y p2 p3)), .val (.int (1 : Int32)), .unset, .unset] [(.int (4 : Int32)), (.ref a18), (.ref a18)])) rfl (hb hby at_120) _ k) ?_
    show Go p e below _ (T22.setTop (mkF m 122 #[.val (.int p1), .val (.int p2), .val (.int p3), .val (.int p4), .val (.int (1 : Int32)), .val (.int (p1 &&& (127 : Int32))), .val (.int (1 : Int32)), .val (.int (own_x p2)), .val (.int (own_top p2)), .val (.int (own_y p2 p3)), .val (.int (1 : Int32)), .unset, .unset] [(.int (999999937 : Int32)), (.int (4 : Int32)), (.ref a18), (.ref a18)]))
    refine Go.stI X22 hx hZ e22 F22 (i := 4) (by decide) (by decide) (by decide) (hb hby at_122) ?_
    intro T23 h23 X23 e23 W23 F23
    have N23 := Fr.snoc X23 N22 G18
    show Go p e below _ (T23.setTop (mkF m 123 #[.val (.int p1), .val (.int p2), .val (.int p3), .val (.int p4), .val (.int (1 : Int32)), .val (.int (p1 &&& (127 : Int32))), .val (.int (1 : Int32)), .val (.int (own_x p2)), .val (.int (own_top p2)), .val (.int (own_y p2 p3)), .val (.int (1 : Int32)), .unset, .unset] [(.ref a18)]))
    have Zs23 : n0 ≤ h23.size := by rw [W23.size]; exact Zs22
    refine Go.on (fun t k => XS.dup X23.here hx rfl (hb hby at_123) rfl rfl k) ?_
    show Go p e below _ (T23.setTop (mkF m 124 #[.val (.int p1), .val (.int p2), .val (.int p3), .val (.int p4), .val (.int (1 : Int32)), .val (.int (p1 &&& (127 : Int32))), .val (.int (1 : Int32)), .val (.int (own_x p2)), .val (.int (own_top p2)), .val (.int (own_y p2 p3)), .val (.int (1 : Int32)), .unset, .unset] [(.ref a18), (.ref a18)]))
    refine Go.on (fun t k => XS.iconst X23.here hx rfl (hb hby at_124) k) ?_
    show Go p e below _ (T23.setTop (mkF m 125 #[.val (.int p1), .val (.int p2), .val (.int p3), .val (.int p4), .val (.int (1 : Int32)), .val (.int (p1 &&& (127 : Int32))), .val (.int (1 : Int32)), .val (.int (own_x p2)), .val (.int (own_top p2)), .val (.int (own_y p2 p3)), .val (.int (1 : Int32)), .unset, .unset] [(.int (5 : Int32)), (.ref a18), (.ref a18)]))
    refine Go.on (fun t k => X23.ldcInt hx hown (mvT hZ (hw _ (List.mem_of_getElem? (i := 17) rfl))) (g := (mkF m 125 #[.val (.int p1), .val (.int p2), .val (.int p3), .val (.int p4), .val (.int (1 : Int32)), .val (.int (p1 &&& (127 : Int32))), .val (.int (1 : Int32)), .val (.int (own_x p2)), .val (.int (own_top p2)), .val (.int (own_y p2 p3)), .val (.int (1 : Int32)), .unset, .unset] [(.int (5 : Int32)), (.ref a18), (.ref a18)])) rfl (hb hby at_125) _ k) ?_
    show Go p e below _ (T23.setTop (mkF m 127 #[.val (.int p1), .val (.int p2), .val (.int p3), .val (.int p4), .val (.int (1 : Int32)), .val (.int (p1 &&& (127 : Int32))), .val (.int (1 : Int32)), .val (.int (own_x p2)), .val (.int (own_top p2)), .val (.int (own_y p2 p3)), .val (.int (1 : Int32)), .unset, .unset] [(.int (131071 : Int32)), (.int (5 : Int32)), (.ref a18), (.ref a18)]))
    refine Go.stI X23 hx hZ e23 F23 (i := 5) (by decide) (by decide) (by decide) (hb hby at_127) ?_
    intro T24 h24 X24 e24 W24 F24
    have N24 := Fr.snoc X24 N23 G18
    show Go p e below _ (T24.setTop (mkF m 128 #[.val (.int p1), .val (.int p2), .val (.int p3), .val (.int p4), .val (.int (1 : Int32)), .val (.int (p1 &&& (127 : Int32))), .val (.int (1 : Int32)), .val (.int (own_x p2)), .val (.int (own_top p2)), .val (.int (own_y p2 p3)), .val (.int (1 : Int32)), .unset, .unset] [(.ref a18)]))
    have Zs24 : n0 ≤ h24.size := by rw [W24.size]; exact Zs23
    refine Go.on (fun t k => XS.dup X24.here hx rfl (hb hby at_128) rfl rfl k) ?_
    show Go p e below _ (T24.setTop (mkF m 129 #[.val (.int p1), .val (.int p2), .val (.int p3), .val (.int p4), .val (.int (1 : Int32)), .val (.int (p1 &&& (127 : Int32))), .val (.int (1 : Int32)), .val (.int (own_x p2)), .val (.int (own_top p2)), .val (.int (own_y p2 p3)), .val (.int (1 : Int32)), .unset, .unset] [(.ref a18), (.ref a18)]))
    refine Go.on (fun t k => XS.bipush X24.here hx rfl (hb hby at_129) k) ?_
    show Go p e below _ (T24.setTop (mkF m 131 #[.val (.int p1), .val (.int p2), .val (.int p3), .val (.int p4), .val (.int (1 : Int32)), .val (.int (p1 &&& (127 : Int32))), .val (.int (1 : Int32)), .val (.int (own_x p2)), .val (.int (own_top p2)), .val (.int (own_y p2 p3)), .val (.int (1 : Int32)), .unset, .unset] [(.int (6 : Int32)), (.ref a18), (.ref a18)]))
    refine Go.on (fun t k => X24.ldcInt hx hown (mvT hZ (hw _ (List.mem_of_getElem? (i := 18) rfl))) (g := (mkF m 131 #[.val (.int p1), .val (.int p2), .val (.int p3), .val (.int p4), .val (.int (1 : Int32)), .val (.int (p1 &&& (127 : Int32))), .val (.int (1 : Int32)), .val (.int (own_x p2)), .val (.int (own_top p2)), .val (.int (own_y p2 p3)), .val (.int (1 : Int32)), .unset, .unset] [(.int (6 : Int32)), (.ref a18), (.ref a18)])) rfl (hb hby at_131) _ k) ?_
    show Go p e below _ (T24.setTop (mkF m 133 #[.val (.int p1), .val (.int p2), .val (.int p3), .val (.int p4), .val (.int (1 : Int32)), .val (.int (p1 &&& (127 : Int32))), .val (.int (1 : Int32)), .val (.int (own_x p2)), .val (.int (own_top p2)), .val (.int (own_y p2 p3)), .val (.int (1 : Int32)), .unset, .unset] [(.int (524287 : Int32)), (.int (6 : Int32)), (.ref a18), (.ref a18)]))
    refine Go.stI X24 hx hZ e24 F24 (i := 6) (by decide) (by decide) (by decide) (hb hby at_133) ?_
    intro T25 h25 X25 e25 W25 F25
    have N25 := Fr.snoc X25 N24 G18
    show Go p e below _ (T25.setTop (mkF m 134 #[.val (.int p1), .val (.int p2), .val (.int p3), .val (.int p4), .val (.int (1 : Int32)), .val (.int (p1 &&& (127 : Int32))), .val (.int (1 : Int32)), .val (.int (own_x p2)), .val (.int (own_top p2)), .val (.int (own_y p2 p3)), .val (.int (1 : Int32)), .unset, .unset] [(.ref a18)]))
    have Zs25 : n0 ≤ h25.size := by rw [W25.size]; exact Zs24
    refine Go.on (fun t k => XS.dup X25.here hx rfl (hb hby at_134) rfl rfl k) ?_
    show Go p e below _ (T25.setTop (mkF m 135 #[.val (.int p1), .val (.int p2), .val (.int p3), .val (.int p4), .val (.int (1 : Int32)), .val (.int (p1 &&& (127 : Int32))), .val (.int (1 : Int32)), .val (.int (own_x p2)), .val (.int (own_top p2)), .val (.int (own_y p2 p3)), .val (.int (1 : Int32)), .unset, .unset] [(.ref a18), (.ref a18)]))
    refine Go.on (fun t k => XS.bipush X25.here hx rfl (hb hby at_135) k) ?_
    show Go p e below _ (T25.setTop (mkF m 137 #[.val (.int p1), .val (.int p2), .val (.int p3), .val (.int p4), .val (.int (1 : Int32)), .val (.int (p1 &&& (127 : Int32))), .val (.int (1 : Int32)), .val (.int (own_x p2)), .val (.int (own_top p2)), .val (.int (own_y p2 p3)), .val (.int (1 : Int32)), .unset, .unset] [(.int (7 : Int32)), (.ref a18), (.ref a18)]))
    refine Go.on (fun t k => XS.sipush X25.here hx rfl (hb hby at_137) k) ?_
    show Go p e below _ (T25.setTop (mkF m 140 #[.val (.int p1), .val (.int p2), .val (.int p3), .val (.int p4), .val (.int (1 : Int32)), .val (.int (p1 &&& (127 : Int32))), .val (.int (1 : Int32)), .val (.int (own_x p2)), .val (.int (own_top p2)), .val (.int (own_y p2 p3)), .val (.int (1 : Int32)), .unset, .unset] [(.int (8191 : Int32)), (.int (7 : Int32)), (.ref a18), (.ref a18)]))
    refine Go.stI X25 hx hZ e25 F25 (i := 7) (by decide) (by decide) (by decide) (hb hby at_140) ?_
    intro T26 h26 X26 e26 W26 F26
    have N26 := Fr.snoc X26 N25 G18
    show Go p e below _ (T26.setTop (mkF m 141 #[.val (.int p1), .val (.int p2), .val (.int p3), .val (.int p4), .val (.int (1 : Int32)), .val (.int (p1 &&& (127 : Int32))), .val (.int (1 : Int32)), .val (.int (own_x p2)), .val (.int (own_top p2)), .val (.int (own_y p2 p3)), .val (.int (1 : Int32)), .unset, .unset] [(.ref a18)]))
    have Zs26 : n0 ≤ h26.size := by rw [W26.size]; exact Zs25
    refine Go.on (fun t k => XS.astore X26.here hx rfl (hb hby at_141) rfl rfl (l' := #[.val (.int p1), .val (.int p2), .val (.int p3), .val (.int p4), .val (.int (1 : Int32)), .val (.int (p1 &&& (127 : Int32))), .val (.int (1 : Int32)), .val (.int (own_x p2)), .val (.int (own_top p2)), .val (.int (own_y p2 p3)), .val (.int (1 : Int32)), .val (.ref a18), .unset]) rfl k) ?_
    show Go p e below _ (T26.setTop (mkF m 143 #[.val (.int p1), .val (.int p2), .val (.int p3), .val (.int p4), .val (.int (1 : Int32)), .val (.int (p1 &&& (127 : Int32))), .val (.int (1 : Int32)), .val (.int (own_x p2)), .val (.int (own_top p2)), .val (.int (own_y p2 p3)), .val (.int (1 : Int32)), .val (.ref a18), .unset] []))
    refine Go.on (fun t k => XS.aload X26.here hx rfl (hb hby at_143) rfl rfl k) ?_
    show Go p e below _ (T26.setTop (mkF m 145 #[.val (.int p1), .val (.int p2), .val (.int p3), .val (.int p4), .val (.int (1 : Int32)), .val (.int (p1 &&& (127 : Int32))), .val (.int (1 : Int32)), .val (.int (own_x p2)), .val (.int (own_top p2)), .val (.int (own_y p2 p3)), .val (.int (1 : Int32)), .val (.ref a18), .unset] [(.ref a18)]))
    refine Go.on (fun t k => XS.iloadN X26.here hx rfl (hb hby at_145) rfl k) ?_
    show Go p e below _ (T26.setTop (mkF m 146 #[.val (.int p1), .val (.int p2), .val (.int p3), .val (.int p4), .val (.int (1 : Int32)), .val (.int (p1 &&& (127 : Int32))), .val (.int (1 : Int32)), .val (.int (own_x p2)), .val (.int (own_top p2)), .val (.int (own_y p2 p3)), .val (.int (1 : Int32)), .val (.ref a18), .unset] [(.int p4), (.ref a18)]))
    refine Go.on (fun t k => XS.bipush X26.here hx rfl (hb hby at_146) k) ?_
    show Go p e below _ (T26.setTop (mkF m 148 #[.val (.int p1), .val (.int p2), .val (.int p3), .val (.int p4), .val (.int (1 : Int32)), .val (.int (p1 &&& (127 : Int32))), .val (.int (1 : Int32)), .val (.int (own_x p2)), .val (.int (own_top p2)), .val (.int (own_y p2 p3)), .val (.int (1 : Int32)), .val (.ref a18), .unset] [(.int (7 : Int32)), (.int p4), (.ref a18)]))
    refine Go.on (fun t k => XS.iand X26.here hx rfl (hb hby at_148) rfl k) ?_
    show Go p e below _ (T26.setTop (mkF m 149 #[.val (.int p1), .val (.int p2), .val (.int p3), .val (.int p4), .val (.int (1 : Int32)), .val (.int (p1 &&& (127 : Int32))), .val (.int (1 : Int32)), .val (.int (own_x p2)), .val (.int (own_top p2)), .val (.int (own_y p2 p3)), .val (.int (1 : Int32)), .val (.ref a18), .unset] [(.int (p4 &&& (7 : Int32))), (.ref a18)]))
    have hk7 := own_and7 p4
    have hkx := ix (j := (p4 &&& (7 : Int32))) (i := (p4 &&& (7 : Int32)).toInt.toNat) (by omega)
    have Fb : BA Z h26 a18 .int 8 (fun j => .int (own_big j)) := F26.fn (fun j hj => by
      have hj8 : j = 0 ∨ j = 1 ∨ j = 2 ∨ j = 3 ∨ j = 4 ∨ j = 5 ∨ j = 6 ∨ j = 7 := by omega
      rcases hj8 with rfl | rfl | rfl | rfl | rfl | rfl | rfl | rfl <;> rfl)
    refine Go.ldI X26 hx hZ e26 Fb (i := (p4 &&& (7 : Int32)).toInt.toNat) hkx.1 hkx.2 (by omega) (hb hby at_149) ?_
    show Go p e below _ (T26.setTop (mkF m 150 #[.val (.int p1), .val (.int p2), .val (.int p3), .val (.int p4), .val (.int (1 : Int32)), .val (.int (p1 &&& (127 : Int32))), .val (.int (1 : Int32)), .val (.int (own_x p2)), .val (.int (own_top p2)), .val (.int (own_y p2 p3)), .val (.int (1 : Int32)), .val (.ref a18), .unset] [(.int (own_big (p4 &&& (7 : Int32)).toInt.toNat))]))
    obtain ⟨_, _, ⟨T27, L27, k27, n27⟩, -, X27, ⟨Lc27, hQ27, l27, y27, z27⟩, st27⟩ := Jvm.LawKit.callS X26 hx (y := (⟨"com/example/rillwork/rillwork/jobs/PrimesJob", "isPrime", "(I)Z"⟩ : MethodName)) hown (mvT hZ (hw _ (List.mem_of_getElem? (i := 0) rfl))) (mvT hZ (hw _ (List.mem_of_getElem? (i := 1) rfl))) (mvT hZ (hw _ (List.mem_of_getElem? (i := 2) rfl))) (mvT hZ (hw _ (List.mem_of_getElem? (i := 3) rfl))) (by decide) (backOf (W := 0) (rm1 l Z a0 hw [] (own_big (p4 &&& (7 : Int32)).toInt.toNat) h26 n0 Zs26) hZ (hw _ (List.mem_of_getElem? (i := 3) rfl)) (hw _ (List.mem_of_getElem? (i := 2) rfl)) (by decide) (by decide)) (g := (mkF m 150 #[.val (.int p1), .val (.int p2), .val (.int p3), .val (.int p4), .val (.int (1 : Int32)), .val (.int (p1 &&& (127 : Int32))), .val (.int (1 : Int32)), .val (.int (own_x p2)), .val (.int (own_top p2)), .val (.int (own_y p2 p3)), .val (.int (1 : Int32)), .val (.ref a18), .unset] [(.int (own_big (p4 &&& (7 : Int32)).toInt.toNat))])) rfl (by rw [hml]; rfl) (argsL := [(.int (own_big (p4 &&& (7 : Int32)).toInt.toNat))]) (rest := []) (lenOf pd_1 rfl) rfl (by show 2 * 0 + _ ≤ _; exact Nat.le_of_eq rfl) (hb hby at_150) (fun _ _ => ⟨rfl, e26, (by decide : 1 + 0 ≤ _), (by decide : 8 + 0 ≤ _)⟩)
    dsimp only [Pt.U, Pt.locs, Pt.cells, Pt.slots] at X27 l27 y27 z27 st27 hQ27
    subst l27 y27 z27
    obtain ⟨rfl, N27q, e27⟩ := hQ27
    have N27 := Fr.app N26 N27q
    refine Go.on st27 ?_
    show Go p e below _ (T27.setTop (mkF m 153 #[.val (.int p1), .val (.int p2), .val (.int p3), .val (.int p4), .val (.int (1 : Int32)), .val (.int (p1 &&& (127 : Int32))), .val (.int (1 : Int32)), .val (.int (own_x p2)), .val (.int (own_top p2)), .val (.int (own_y p2 p3)), .val (.int (1 : Int32)), .val (.ref a18), .unset] [(.int (own_ip (own_big (p4 &&& (7 : Int32)).toInt.toNat)))]))
    have Zc27 : n0 ≤ T27.heap.size := by rw [e27]; exact Zs26
    refine Go.on (fun t k => XS.istore X27.here hx rfl (hb hby at_153) rfl (l' := #[.val (.int p1), .val (.int p2), .val (.int p3), .val (.int p4), .val (.int (1 : Int32)), .val (.int (p1 &&& (127 : Int32))), .val (.int (1 : Int32)), .val (.int (own_x p2)), .val (.int (own_top p2)), .val (.int (own_y p2 p3)), .val (.int (1 : Int32)), .val (.ref a18), .val (.int (own_ip (own_big (p4 &&& (7 : Int32)).toInt.toNat)))]) rfl k) ?_
    show Go p e below _ (T27.setTop (mkF m 155 #[.val (.int p1), .val (.int p2), .val (.int p3), .val (.int p4), .val (.int (1 : Int32)), .val (.int (p1 &&& (127 : Int32))), .val (.int (1 : Int32)), .val (.int (own_x p2)), .val (.int (own_top p2)), .val (.int (own_y p2 p3)), .val (.int (1 : Int32)), .val (.ref a18), .val (.int (own_ip (own_big (p4 &&& (7 : Int32)).toInt.toNat)))] []))
    refine Go.on (fun t k => XS.iload X27.here hx rfl (hb hby at_155) rfl k) ?_
    show Go p e below _ (T27.setTop (mkF m 157 #[.val (.int p1), .val (.int p2), .val (.int p3), .val (.int p4), .val (.int (1 : Int32)), .val (.int (p1 &&& (127 : Int32))), .val (.int (1 : Int32)), .val (.int (own_x p2)), .val (.int (own_top p2)), .val (.int (own_y p2 p3)), .val (.int (1 : Int32)), .val (.ref a18), .val (.int (own_ip (own_big (p4 &&& (7 : Int32)).toInt.toNat)))] [(.int (1 : Int32))]))
    refine Go.on (fun t k => XS.ifNo X27.here hx rfl (hb hby at_157) rfl ((if0 _ _).trans (feq (by decide : ¬ ((1 : Int32) = (0 : Int32)))).1) k) ?_
    show Go p e below _ (T27.setTop (mkF m 160 #[.val (.int p1), .val (.int p2), .val (.int p3), .val (.int p4), .val (.int (1 : Int32)), .val (.int (p1 &&& (127 : Int32))), .val (.int (1 : Int32)), .val (.int (own_x p2)), .val (.int (own_top p2)), .val (.int (own_y p2 p3)), .val (.int (1 : Int32)), .val (.ref a18), .val (.int (own_ip (own_big (p4 &&& (7 : Int32)).toInt.toNat)))] []))
    refine Go.on (fun t k => XS.iload X27.here hx rfl (hb hby at_160) rfl k) ?_
    show Go p e below _ (T27.setTop (mkF m 162 #[.val (.int p1), .val (.int p2), .val (.int p3), .val (.int p4), .val (.int (1 : Int32)), .val (.int (p1 &&& (127 : Int32))), .val (.int (1 : Int32)), .val (.int (own_x p2)), .val (.int (own_top p2)), .val (.int (own_y p2 p3)), .val (.int (1 : Int32)), .val (.ref a18), .val (.int (own_ip (own_big (p4 &&& (7 : Int32)).toInt.toNat)))] [(.int (1 : Int32))]))
    refine Go.on (fun t k => XS.ifNo X27.here hx rfl (hb hby at_162) rfl ((if0 _ _).trans (feq (by decide : ¬ ((1 : Int32) = (0 : Int32)))).1) k) ?_
    show Go p e below _ (T27.setTop (mkF m 165 #[.val (.int p1), .val (.int p2), .val (.int p3), .val (.int p4), .val (.int (1 : Int32)), .val (.int (p1 &&& (127 : Int32))), .val (.int (1 : Int32)), .val (.int (own_x p2)), .val (.int (own_top p2)), .val (.int (own_y p2 p3)), .val (.int (1 : Int32)), .val (.ref a18), .val (.int (own_ip (own_big (p4 &&& (7 : Int32)).toInt.toNat)))] []))
    refine Go.on (fun t k => XS.iload X27.here hx rfl (hb hby at_165) rfl k) ?_
    show Go p e below _ (T27.setTop (mkF m 167 #[.val (.int p1), .val (.int p2), .val (.int p3), .val (.int p4), .val (.int (1 : Int32)), .val (.int (p1 &&& (127 : Int32))), .val (.int (1 : Int32)), .val (.int (own_x p2)), .val (.int (own_top p2)), .val (.int (own_y p2 p3)), .val (.int (1 : Int32)), .val (.ref a18), .val (.int (own_ip (own_big (p4 &&& (7 : Int32)).toInt.toNat)))] [(.int (1 : Int32))]))
    refine Go.on (fun t k => XS.ifNo X27.here hx rfl (hb hby at_167) rfl ((if0 _ _).trans (feq (by decide : ¬ ((1 : Int32) = (0 : Int32)))).1) k) ?_
    show Go p e below _ (T27.setTop (mkF m 170 #[.val (.int p1), .val (.int p2), .val (.int p3), .val (.int p4), .val (.int (1 : Int32)), .val (.int (p1 &&& (127 : Int32))), .val (.int (1 : Int32)), .val (.int (own_x p2)), .val (.int (own_top p2)), .val (.int (own_y p2 p3)), .val (.int (1 : Int32)), .val (.ref a18), .val (.int (own_ip (own_big (p4 &&& (7 : Int32)).toInt.toNat)))] []))
    refine Go.on (fun t k => XS.iload X27.here hx rfl (hb hby at_170) rfl k) ?_
    show Go p e below _ (T27.setTop (mkF m 172 #[.val (.int p1), .val (.int p2), .val (.int p3), .val (.int p4), .val (.int (1 : Int32)), .val (.int (p1 &&& (127 : Int32))), .val (.int (1 : Int32)), .val (.int (own_x p2)), .val (.int (own_top p2)), .val (.int (own_y p2 p3)), .val (.int (1 : Int32)), .val (.ref a18), .val (.int (own_ip (own_big (p4 &&& (7 : Int32)).toInt.toNat)))] [(.int (own_ip (own_big (p4 &&& (7 : Int32)).toInt.toNat)))]))
    refine Go.on (fun t k => XS.ifNo X27.here hx rfl (hb hby at_172) rfl ((if0 _ _).trans (feq (by rw [own_bigs ⟨_, (by omega : (p4 &&& (7 : Int32)).toInt.toNat < 8)⟩]; decide : ¬ (own_ip (own_big (p4 &&& (7 : Int32)).toInt.toNat)) = (0 : Int32))).1) k) ?_
    show Go p e below _ (T27.setTop (mkF m 175 #[.val (.int p1), .val (.int p2), .val (.int p3), .val (.int p4), .val (.int (1 : Int32)), .val (.int (p1 &&& (127 : Int32))), .val (.int (1 : Int32)), .val (.int (own_x p2)), .val (.int (own_top p2)), .val (.int (own_y p2 p3)), .val (.int (1 : Int32)), .val (.ref a18), .val (.int (own_ip (own_big (p4 &&& (7 : Int32)).toInt.toNat)))] []))
    refine Go.on (fun t k => XS.iconst X27.here hx rfl (hb hby at_175) k) ?_
    show Go p e below _ (T27.setTop (mkF m 176 #[.val (.int p1), .val (.int p2), .val (.int p3), .val (.int p4), .val (.int (1 : Int32)), .val (.int (p1 &&& (127 : Int32))), .val (.int (1 : Int32)), .val (.int (own_x p2)), .val (.int (own_top p2)), .val (.int (own_y p2 p3)), .val (.int (1 : Int32)), .val (.ref a18), .val (.int (own_ip (own_big (p4 &&& (7 : Int32)).toInt.toNat)))] [(.int (1 : Int32))]))
    refine Go.on (fun t k => XS.goto X27.here hx rfl (pc0 := 176) (pc' := 180) rfl (hb hby at_176) (by decide) (by decide) k) ?_
    show Go p e below _ (T27.setTop (mkF m 180 #[.val (.int p1), .val (.int p2), .val (.int p3), .val (.int p4), .val (.int (1 : Int32)), .val (.int (p1 &&& (127 : Int32))), .val (.int (1 : Int32)), .val (.int (own_x p2)), .val (.int (own_top p2)), .val (.int (own_y p2 p3)), .val (.int (1 : Int32)), .val (.ref a18), .val (.int (own_ip (own_big (p4 &&& (7 : Int32)).toInt.toNat)))] [(.int (1 : Int32))]))
    exact Go.retN X27 hx hlk hret (by simp) (hb hby at_180) (by decide) (by decide) ⟨by rfl, N27⟩
set_option maxRecDepth 65536 in
set_option maxHeartbeats 40000000 in
theorem comes_1 {Post : Tables → Env → Array Value → State → Outcome → State → Prop} (hpost : ∀ tb e args s v u, (limb_1_1.after args s (.returned v) u = true ∧ limb_1_2.after args s (.returned v) u = true ∧ True) → FrameEnd s (.returned v) u (Jvm.fieldLocs frame_1_writes args s ++ Jvm.arrayLocs frame_1_arrays args s ++ Jvm.staticLocs frame_1_statics s) 16 128 → Post tb e args s (.returned v) u) :
    ArmFor flags0 classFile x code maxLocals ret World_1 tables_1 room_1 Calls_1 rest_1 Pre_1 Post := by
  intro l hfl _ _ p e ha hc hk s m args below hf hA hF happ hP
  obtain ⟨hcalls, hrest, hpre⟩ := hP
  obtain ⟨-, -, -, hnamed, -, -, -, hat⟩ := (Spec.applies_iff hf).mp happ
  obtain ⟨hg, hn⟩ := and_e (Cond.before_iff.mp (show (Jvm.Cond.and given_1 narrow_1).before args s = true from hpre))
  obtain ⟨g0, gA0⟩ := and_e hg
  obtain ⟨w0, w1, w2, w3, rfl⟩ : ∃ w0 w1 w2 w3 : Value, args = #[w0, w1, w2, w3] := by
    have hs : args.size = 4 := by simpa [Cond.value, given_1] using g0
    obtain ⟨L⟩ := args
    match L, hs with
    | [w0, w1, w2, w3], _ => exact ⟨w0, w1, w2, w3, rfl⟩
  have hw := fun d (hd : d ∈ tables_1) => atoms_spec (ws := Jvm.Cond.code x code maxLocals ret :: tables_1) hat d (List.mem_cons_of_mem _ hd)
  obtain ⟨g1, gA1⟩ := and_e gA0
  obtain ⟨i0, ei0⟩ := is_v g1
  obtain rfl : w0 = (.int i0) := Option.some.inj ei0
  obtain ⟨g2, gA2⟩ := and_e gA1
  obtain ⟨i1, ei1⟩ := is_v g2
  obtain rfl : w1 = (.int i1) := Option.some.inj ei1
  obtain ⟨g3, gA3⟩ := and_e gA2
  obtain ⟨i2, ei2⟩ := is_v g3
  obtain rfl : w2 = (.int i2) := Option.some.inj ei2
  obtain ⟨i3, ei3⟩ := is_v gA3
  obtain rfl : w3 = (.int i3) := Option.some.inj ei3
  obtain ⟨n, o, h1, h2, h3, _, L, rfl, ⟨rfl, N⟩, hq⟩ := rm0 l s _ hw tables_1 i0 i1 i2 i3 s.heap s.heap.size (Nat.le_refl _)  p e ha hc hk s m _ below hf ((Spec.applies_iff_loose hf).mp happ).1 ⟨rfl, State.Warmed39.refl s, rfl⟩ trivial
  refine ⟨n, _, h1, h2, h3, hpost _ _ _ _ _ _ ⟨Cond.after_iff.mpr rfl, Cond.after_iff.mpr (eq_i res_at (Term.int_eval (1)) rfl), trivial⟩ ⟨hq.1, hq.2.1, (hq.2.2.sift fun y hy => Or.inr (N y hy)).mono (by decide) (by decide)⟩⟩
theorem main_1_1 : Claimed_1_1 := comes_1 fun _ _ _ _ _ _ h hF => ⟨h.1, hF⟩
theorem main_1_2 : Claimed_1_2 := comes_1 fun _ _ _ _ _ _ h hF => ⟨h.2.1, hF⟩
end Jvm.Pilot.@@N@@
namespace Jvm.Pilot.@@N@@
open Jvm Jvm.ClassFile Sem Op Lib Jvm.Free Jvm.Stand Jvm.Pilot.@@N@@.Jvm.D
/-! MADE BY PROGRAM (witnessworld.py) out of the Statement's table words and the real class files: 9 classes; the members and pool entries that the words name. The judged class is class 1, her method 2. -/
namespace start1
open Jvm.ClassFile
def u (s : String) : CpInfo := .utf8 (stringToUtf16 s)
/-- a pool by its gaps: so many unusable entries, then the entry; so many at the end -/
def gap : Nat → List CpInfo → List CpInfo
  | 0, r => r
  | n + 1, r => .unusable :: gap n r
def poolList (es : List (Nat × CpInfo)) (last : Nat) : List CpInfo := es.foldr (fun e r => gap e.1 (e.2 :: r)) (gap last [])
def pool (es : List (Nat × CpInfo)) (last : Nat) : Array CpInfo := ⟨poolList es last⟩
def fileOf (pool : Array CpInfo) (this : Nat) (attrs : Array Attribute := #[]) (ms : Array MethodInfo := #[]) (fl : Nat := 33) (sup : Nat := 0) (ifs : Array Nat := #[]) (fds : Array FieldInfo := #[]) : ClassFile where
  minorVersion := 0
  majorVersion := 65
  constantPool := pool
  accessFlags := fl
  thisClass := this
  superClass := sup
  interfaces := ifs
  fields := fds
  methods := ms
  attributes := attrs
def plain (name : String) (sup : Option ClassId) : Class where
  name := name
  kind := .ordinary
  loader := none
  accessFlags := 33
  super := sup
  interfaces := #[]
  cf := none
  fields := #[]
  methods := #[]
  instanceTypes := #[]
  staticTypes := #[]
  resolved := #[]
  callSites := []
  init := .initialized
  statics := none
  mirror := none

def pool0 : Array CpInfo := pool [(5, u "<init>"), (0, u "()V"), (1, .class_ 10), (1, u "java/lang/Object")] 113

def k0m0 : Method := { name := "<init>", desc := "()V", sig := { parameters := [], returnType := none }, accessFlags := 1, code := none }
/-- java/lang/Object -/
def k0 : Class := { plain "java/lang/Object" none with
  accessFlags := 33
  interfaces := #[]
  cf := some (fileOf pool0 8 #[] #[{ accessFlags := 1, nameIndex := 5, descriptorIndex := 6, attributes := #[] }] 33 0 #[] #[])
  fields := #[]
  methods := #[k0m0]
  instanceTypes := #[]
  staticTypes := #[]
  resolved := Array.replicate 124 none
  statics := none }

def pool1 : Array CpInfo := pool [(2, .class_ 4), (1, u "java/lang/Object"), (0, u "<init>"), (0, u "()V"), (0, .long 2891462833508853932), (1, .long 9223979663092122248), (1, .methodref 12 13), (0, .class_ 14), (0, .nameAndType 15 16), (0, u "com/example/rillwork/rillwork/jobs/PrimesJob"), (0, u "isPrime"), (0, u "(I)Z"), (0, .methodref 18 19), (0, .class_ 20), (0, .nameAndType 21 16), (0, u "com/example/rillwork/rillwork/jobs/PrimesJobIsPrimePinLaw"), (0, u "smallPrime"), (0, .integer 2147483647), (0, .integer 46339), (0, .integer 1000000007), (0, .integer 1000000009), (0, .integer 998244353), (0, .integer 999999937), (0, .integer 131071), (0, .integer 524287), (3, u "law"), (0, u "(IIII)Z")] 4

def k1m0 : Method := { name := "<init>", desc := "()V", sig := { parameters := [], returnType := none }, accessFlags := 2, code := none }
def k1c1 : Code := { maxStack := 4, maxLocals := 5, code := method_2_code, exceptionTable := #[], attributes := #[] }
def k1m1 : Method := { name := "smallPrime", desc := "(I)Z", sig := { parameters := [.int], returnType := some .boolean }, accessFlags := 10, code := some k1c1 }
def k1c2 : Code := { maxStack := 4, maxLocals := 13, code := code, exceptionTable := #[], attributes := #[] }
def k1m2 : Method := { name := "law", desc := "(IIII)Z", sig := { parameters := [.int, .int, .int, .int], returnType := some .boolean }, accessFlags := 9, code := some k1c2 }
/-- com/example/rillwork/rillwork/jobs/PrimesJobIsPrimePinLaw -/
def k1 : Class := { plain "com/example/rillwork/rillwork/jobs/PrimesJobIsPrimePinLaw" (some 0) with
  accessFlags := 49
  interfaces := #[]
  cf := some (fileOf pool1 18 #[] #[{ accessFlags := 2, nameIndex := 5, descriptorIndex := 6, attributes := #[] }, { accessFlags := 10, nameIndex := 21, descriptorIndex := 16, attributes := #[] }, { accessFlags := 9, nameIndex := 33, descriptorIndex := 34, attributes := #[] }] 49 2 #[] #[])
  fields := #[]
  methods := #[k1m0, k1m1, k1m2]
  instanceTypes := #[]
  staticTypes := #[]
  resolved := Array.replicate 39 none
  statics := none }

def pool2 : Array CpInfo := pool [(2, .class_ 4), (1, u "java/lang/Object"), (6, .class_ 13), (1, u "com/example/rillwork/rillwork/jobs/PrimesJob"), (0, u "dag"), (0, u "Lcom/example/rillwork/rillwork/core/Dag;"), (5, u "totals"), (0, u "Lcom/example/rillwork/rillwork/core/Tally;"), (59, .class_ 83), (0, u "com/example/rillwork/rillwork/jobs/PrimesJob$Summary"), (3, .class_ 88), (0, u "com/example/rillwork/rillwork/jobs/PrimesJob$Summarize"), (3, .class_ 93), (0, u "com/example/rillwork/rillwork/jobs/PrimesJob$Generate"), (10, u "isPrime"), (0, u "(I)Z"), (7, .class_ 114), (0, u "com/example/rillwork/rillwork/jobs/PrimesJob$FilterPrimes")] 45

def k2c0 : Code := { maxStack := 4, maxLocals := 2, code := prog_183_method_4_code, exceptionTable := #[], attributes := #[] }
def k2m0 : Method := { name := "isPrime", desc := "(I)Z", sig := { parameters := [.int], returnType := some .boolean }, accessFlags := 8, code := some k2c0 }
/-- com/example/rillwork/rillwork/jobs/PrimesJob -/
def k2 : Class := { plain "com/example/rillwork/rillwork/jobs/PrimesJob" (some 0) with
  accessFlags := 49
  interfaces := #[]
  cf := some (fileOf pool2 11 #[.nestMembers #[87, 113, 92, 82]] #[{ accessFlags := 8, nameIndex := 104, descriptorIndex := 105, attributes := #[] }] 49 2 #[] #[{ accessFlags := 18, nameIndex := 14, descriptorIndex := 15, attributes := #[] }, { accessFlags := 18, nameIndex := 21, descriptorIndex := 22, attributes := #[] }])
  fields := #[{ name := "dag", type := (.object "com/example/rillwork/rillwork/core/Dag"), accessFlags := 18, slot := 0, constantValue := 0 }, { name := "totals", type := (.object "com/example/rillwork/rillwork/core/Tally"), accessFlags := 18, slot := 1, constantValue := 0 }]
  methods := #[k2m0]
  instanceTypes := #[(.object "com/example/rillwork/rillwork/core/Dag"), (.object "com/example/rillwork/rillwork/core/Tally")]
  staticTypes := #[]
  resolved := Array.replicate 160 none
  statics := none }

def pool3 : Array CpInfo := pool [(1, u "java/lang/Cloneable"), (0, .class_ 1), (0, u "java/lang/Object"), (0, .class_ 3)] 3

/-- java/lang/Cloneable -/
def k3 : Class := { plain "java/lang/Cloneable" (some 0) with
  accessFlags := 1537
  interfaces := #[]
  cf := some (fileOf pool3 2 #[] #[] 1537 4 #[] #[])
  fields := #[]
  methods := #[]
  instanceTypes := #[]
  staticTypes := #[]
  resolved := Array.replicate 8 none
  statics := none }

def pool4 : Array CpInfo := pool [(1, u "java/io/Serializable"), (0, .class_ 1), (0, u "java/lang/Object"), (0, .class_ 3)] 3

/-- java/io/Serializable -/
def k4 : Class := { plain "java/io/Serializable" (some 0) with
  accessFlags := 1537
  interfaces := #[]
  cf := some (fileOf pool4 2 #[] #[] 1537 4 #[] #[])
  fields := #[]
  methods := #[]
  instanceTypes := #[]
  staticTypes := #[]
  resolved := Array.replicate 8 none
  statics := none }

/-- the primitive byte -/
def k5 : Class := { plain "byte" none with kind := .primitive 'B', accessFlags := 0x411 }
/-- [B -/
def k6 : Class := { plain "[B" (some 0) with kind := .array 5 .byte, interfaces := #[3, 4], accessFlags := 1041 }

/-- the primitive int -/
def k7 : Class := { plain "int" none with kind := .primitive 'I', accessFlags := 0x411 }
/-- [I -/
def k8 : Class := { plain "[I" (some 0) with kind := .array 7 .int, interfaces := #[3, 4], accessFlags := 1041 }

def heap : Heap := #[]
def classes : Array Class := #[k0, k1, k2, k3, k4, k5, k6, k7, k8]
def interned : List (Array UInt16 × Addr) := []
def slotsUsed : Nat := 0
def theMethod : MethodId := ⟨1, 2⟩
def args0 : Array Value := #[.int 5, .int 300, .int 7, .int 2]
def aboutOver (below : List Frame) : State where
  vm := { classes := classes, interned := interned.toArray }
  heap := heap
  slotsUsed := slotsUsed
  threads := #[{ frames := .invoking theMethod args0 :: below }]
def below0 : List Frame := [.native { method := ⟨0, 0⟩, args := #[] }]
def about1 : State := aboutOver below0
def p0 : Program := .bare "" "" ""
def e0 : Env := launch0.env 0 0 0
theorem w_frames : about1.frames = Frame.invoking theMethod args0 :: below0 := rfl
set_option maxRecDepth 65536 in
theorem w_args : argsFit about1.vm theMethod args0 = true := by decide +kernel
set_option maxRecDepth 65536 in
theorem w_heap : heapFits about1 = true := by decide +kernel
set_option maxRecDepth 65536 in
theorem w_runnable : about1.curStatus? = some .runnable := by decide +kernel
set_option maxRecDepth 65536 in
theorem w_alone : about1.alone = true := by decide +kernel
set_option maxRecDepth 65536 in
theorem w_named : about1.methodNamed? x = some theMethod := by decide +kernel
set_option maxRecDepth 65536 in
theorem w_hears : about1.hears theMethod below0 = true := by decide +kernel
set_option maxRecDepth 65536 in
theorem w_ripe : about1.ripe theMethod args0 below0 = true := by decide +kernel
theorem w_running : about1.status = .running := rfl
set_option maxRecDepth 65536 in
theorem w_room : about1.hasRoom e0.platform room_1 = true :=
  launch0.hasRoom_least _ room_1 (by decide +kernel) (by decide +kernel) (by decide +kernel) (by decide +kernel) (by decide +kernel) (by decide +kernel)
theorem allAtoms_all (ts : List Jvm.Cond) (a : Array Jvm.Value) (st : Jvm.State) : (allAtoms ts).before a st = ts.all (fun c => c.before a st) := by
  induction ts with
  | nil => rfl
  | cons c t ih =>
    show (Jvm.Cond.and c (allAtoms t)).before a st = _
    rw [Jvm.Cond.before_and, ih, List.all_cons]
def words1 : List Jvm.Cond := Jvm.Cond.code x code maxLocals ret :: tables_1
/-- a 'code' word, met by the world's own term for the bytes: nothing is compared byte by byte -/
theorem code_word {y : MethodName} {bytes : ByteArray} {mx : Nat} {rt : Option FieldType} {a : Array Value} {s : State} {m : MethodId} {meth : Method} {c : Code} (h1 : s.methodNamed? y = some m) (h2 : s.vm.method? m = some meth) (h3 : meth.code = some c) (h4 : c.code = bytes)
    (h5 : (c.maxLocals == mx && c.exceptionTable.isEmpty && decide (c.maxStack ≤ mostOperands) && decide (meth.sig.returnType = rt) && !meth.locks && decide (parseMethodDescriptor y.desc = some meth.sig)) = true) : (Jvm.Cond.code y bytes mx rt).before a s = true := by
  simp only [Bool.and_eq_true, beq_iff_eq, Bool.not_eq_true', decide_eq_true_eq] at h5
  obtain ⟨⟨⟨⟨⟨g1, g2⟩, g3⟩, g4⟩, g5⟩, g6⟩ := h5
  simp [Cond.before, Cond.holds, Cond.value, h1, h2, h3, h4, g1, g2, g3, g4, g5, g6]
def isCode : Jvm.Cond → Bool
  | .code _ _ _ _ => true
  | _ => false
theorem all_split {L : List Jvm.Cond} {P : Jvm.Cond → Bool} (h1 : L.all (fun c => isCode c || P c) = true) (h2 : ∀ c ∈ L.filter isCode, P c = true) : L.all P = true := by
  refine List.all_eq_true.mpr fun c hc => ?_
  have h := List.all_eq_true.mp h1 c hc
  rcases Bool.eq_false_or_eq_true (isCode c) with hi | hi
  · exact h2 c (List.mem_filter.mpr ⟨hc, hi⟩)
  · simpa [hi] using h
set_option maxRecDepth 65536 in
theorem w_c0 : (Jvm.Cond.code x code maxLocals ret).before args0 about1 = true := code_word (m := ⟨1, 2⟩) (meth := k1m2) (c := k1c2) (by decide +kernel) rfl rfl rfl (by decide +kernel)
set_option maxRecDepth 65536 in
theorem w_c1 : (Jvm.Cond.code ({ cls := "com/example/rillwork/rillwork/jobs/PrimesJob", name := "isPrime", desc := "(I)Z" } : Jvm.MethodName) prog_183_method_4_code (2 : Nat) (Option.some Jvm.ClassFile.FieldType.boolean)).before args0 about1 = true := code_word (m := ⟨2, 0⟩) (meth := k2m0) (c := k2c0) (by decide +kernel) rfl rfl rfl (by decide +kernel)
set_option maxRecDepth 65536 in
theorem w_c2 : (Jvm.Cond.code ({ cls := "com/example/rillwork/rillwork/jobs/PrimesJobIsPrimePinLaw", name := "smallPrime", desc := "(I)Z" } : Jvm.MethodName) method_2_code (5 : Nat) (Option.some Jvm.ClassFile.FieldType.boolean)).before args0 about1 = true := code_word (m := ⟨1, 1⟩) (meth := k1m1) (c := k1c1) (by decide +kernel) rfl rfl rfl (by decide +kernel)
def codes1 : List Jvm.Cond := [Jvm.Cond.code x code maxLocals ret, Jvm.Cond.code ({ cls := "com/example/rillwork/rillwork/jobs/PrimesJob", name := "isPrime", desc := "(I)Z" } : Jvm.MethodName) prog_183_method_4_code (2 : Nat) (Option.some Jvm.ClassFile.FieldType.boolean), Jvm.Cond.code ({ cls := "com/example/rillwork/rillwork/jobs/PrimesJobIsPrimePinLaw", name := "smallPrime", desc := "(I)Z" } : Jvm.MethodName) method_2_code (5 : Nat) (Option.some Jvm.ClassFile.FieldType.boolean)]
set_option maxRecDepth 65536 in
theorem codes_eq : words1.filter isCode = codes1 := rfl
theorem w_codes : ∀ c ∈ words1.filter isCode, c.before args0 about1 = true := by
  rw [codes_eq]
  intro c hc
  simp only [codes1, List.mem_cons, List.not_mem_nil, or_false] at hc
  rcases hc with rfl | rfl | rfl
  · exact w_c0
  · exact w_c1
  · exact w_c2
set_option maxRecDepth 65536 in
theorem w_t1 : words1.all (fun c => isCode c || c.before args0 about1) = true := by decide +kernel
theorem w_tables : (allAtoms (Jvm.Cond.code x code maxLocals ret :: tables_1)).before args0 about1 = true := by
  rw [allAtoms_all]
  show words1.all (fun c => c.before args0 about1) = true
  refine all_split ?_ w_codes
  rw [w_t1]
set_option maxRecDepth 65536 in
theorem w_case : (Jvm.Cond.and given_1 narrow_1).before args0 about1 = true := by decide +kernel
theorem w_applies : (headSpec (Jvm.Cond.code x code maxLocals ret :: tables_1) room_1).applies x e0.platform about1 = true :=
  (Spec.applies_iff w_frames).mpr ⟨w_running, w_runnable, w_alone, w_named, w_hears, w_ripe, w_room, w_tables⟩
theorem atStart : AtStart classFile x code maxLocals ret World_1 tables_1 room_1 Calls_1 rest_1 Pre_1 launch0 p0 e0 about1 theMethod args0 below0 :=
  ⟨lists_1, trivial, launch0.admits_env _ _ _, launch0.least_env, fairChoices_fair.cas, fairChoices_fair.clock, w_frames, w_args, w_heap, w_applies, trivial, trivial, w_case⟩
end start1
theorem witness_1 : WitnessClaimed_1 := ⟨start1.p0, start1.e0, start1.about1, start1.theMethod, start1.args0, start1.below0, start1.atStart⟩
end Jvm.Pilot.@@N@@
