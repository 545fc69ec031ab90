import JvmDerived
import JvmDerived.Pilot.@@N@@Statement
import JvmDerived.Pilot.@@N@@Code
set_option linter.unusedVariables false
set_option linter.unusedSimpArgs false
namespace Jvm.Pilot.@@N@@
open Jvm Jvm.ClassFile Sem Op Lib Jvm.Free Jvm.Stand Jvm.LawKit Jvm.RoadKit Bundle Jvm.Pilot.@@N@@.Jvm.D
section GoKit
variable {p : Program} {l : Launch} {e : Env} {R : Room} {s : State} {m : MethodId} {args : Array Value} {below : List Frame} {meth : Method} {c : Code} {T : State} {locs : List Loc} {cells slots : Nat}
/-- from the state S the run comes to an end that P says -/
def Go (p : Program) (e : Env) (below : List Frame) (P : Outcome → State → Prop) (S : State) : Prop := ∃ s₂ o, Steps p.tables e below S s₂ ∧ s₂.status = .running ∧ Ended s₂ below o ∧ P o s₂
def Pst (s : State) (Q : Option Value → Heap → List Loc → Prop) (k n : Nat) : Outcome → State → Prop := fun o U => ∃ v L, o = .returned v ∧ Q v U.heap L ∧ FrameEnd s o U L k n
theorem Go.on {P : Outcome → State → Prop} {S S' : State} (h : ∀ t, Steps p.tables e below S' t → Steps p.tables e below S t) (k : Go p e below P S') : Go p e below P S := by
  obtain ⟨s2, o, h1, h2⟩ := k
  exact ⟨s2, o, h _ h1, h2⟩
theorem Go.st {P : Outcome → State → Prop} {S S' : State} (h : Steps p.tables e below S S') (k : Go p e below P S') : Go p e below P S := Go.on (fun _ q => h.trans q) k
theorem Go.retV (X : Stand p l e R s m args below meth c T locs cells slots) (hx : p.tables.exec = Jvm.exec) (hlk : meth.locks = false) {pc : Nat} {Ls : Array Slot} {w : Value} {t : FieldType} {i : Instr} {rest : List Value} (hret : meth.sig.returnType = some t) (hn : narrow t w = w)
    (hi : (i = .ireturn ∧ (t = .int ∨ t = .boolean ∨ t = .byte ∨ t = .char ∨ t = .short) ∧ ∃ z, w = .int z) ∨ (i = .lreturn ∧ t = .long ∧ ∃ z, w = .long z) ∨ (i = .dreturn ∧ t = .double ∧ ∃ z, w = .double z) ∨ (i = .freturn ∧ t = .float ∧ ∃ z, w = .float z) ∨ (i = .areturn ∧ t.isReference = true ∧ w.isRef = true))
    (hd : decode c.code pc = .ok (i, 1)) {Q : Option Value → Heap → List Loc → Prop} {k n : Nat} (hk : cells ≤ k) (hs : slots ≤ n) (hQ : Q (some w) T.heap locs) : Go p e below (Pst s Q k n) (T.setTop (mkF m pc Ls (w :: rest))) := by
  obtain ⟨fs, hr, hrun, hended, hW, hsame⟩ := X.leave (v := some w) (fun h => by rw [hret] at h; cases h) hlk
  exact ⟨_, _, retOut X hx hret hn hi hd hr, hrun, hended, _, _, rfl, hQ, ⟨_, rfl⟩, hW, hsame.mono hk hs⟩
theorem Go.retI (X : Stand p l e R s m args below meth c T locs cells slots) (hx : p.tables.exec = Jvm.exec) (hlk : meth.locks = false) {pc : Nat} {Ls : Array Slot} {z : Int32} {rest : List Value} (hret : meth.sig.returnType = some .int)
    (hd : decode c.code pc = .ok (.ireturn, 1)) {Q : Option Value → Heap → List Loc → Prop} {k n : Nat} (hk : cells ≤ k) (hs : slots ≤ n) (hQ : Q (some (.int z)) T.heap locs) : Go p e below (Pst s Q k n) (T.setTop (mkF m pc Ls (.int z :: rest))) :=
  Go.retV X hx hlk hret rfl (Or.inl ⟨rfl, Or.inl rfl, _, rfl⟩) hd hk hs hQ
theorem Go.retJ (X : Stand p l e R s m args below meth c T locs cells slots) (hx : p.tables.exec = Jvm.exec) (hlk : meth.locks = false) {pc : Nat} {Ls : Array Slot} {z : Int64} {rest : List Value} (hret : meth.sig.returnType = some .long)
    (hd : decode c.code pc = .ok (.lreturn, 1)) {Q : Option Value → Heap → List Loc → Prop} {k n : Nat} (hk : cells ≤ k) (hs : slots ≤ n) (hQ : Q (some (.long z)) T.heap locs) : Go p e below (Pst s Q k n) (T.setTop (mkF m pc Ls (.long z :: rest))) :=
  Go.retV X hx hlk hret rfl (Or.inr (Or.inl ⟨rfl, rfl, _, rfl⟩)) hd hk hs hQ
theorem Go.retA (X : Stand p l e R s m args below meth c T locs cells slots) (hx : p.tables.exec = Jvm.exec) (hlk : meth.locks = false) {pc : Nat} {Ls : Array Slot} {a : Addr} {t : FieldType} {rest : List Value} (hret : meth.sig.returnType = some t) (ht : t.isReference = true) (hn : narrow t (.ref a) = .ref a)
    (hd : decode c.code pc = .ok (.areturn, 1)) {Q : Option Value → Heap → List Loc → Prop} {k n : Nat} (hk : cells ≤ k) (hs : slots ≤ n) (hQ : Q (some (.ref a)) T.heap locs) : Go p e below (Pst s Q k n) (T.setTop (mkF m pc Ls (.ref a :: rest))) :=
  Go.retV X hx hlk hret hn (Or.inr (Or.inr (Or.inr (Or.inr ⟨rfl, ht, rfl⟩)))) hd hk hs hQ
theorem Go.retN (X : Stand p l e R s m args below meth c T locs cells slots) (hx : p.tables.exec = Jvm.exec) (hlk : meth.locks = false) {pc : Nat} {Ls : Array Slot} {z : Int32} {t : FieldType} {rest : List Value} (hret : meth.sig.returnType = some t) (ht : t = .boolean ∨ t = .byte ∨ t = .char ∨ t = .short)
    (hd : decode c.code pc = .ok (.ireturn, 1)) {Q : Option Value → Heap → List Loc → Prop} {k n : Nat} (hk : cells ≤ k) (hs : slots ≤ n) (hQ : Q (some (.int (nar t z))) T.heap locs) : Go p e below (Pst s Q k n) (T.setTop (mkF m pc Ls (.int z :: rest))) := by
  obtain ⟨fs, hr, hrun, hended, hW, hsame⟩ := X.leave (v := some (.int (nar t z))) (fun h => by rw [hret] at h; cases h) hlk
  exact ⟨_, _, Jvm.RoadKit.retN X hx hret ht hd hr, hrun, hended, _, _, rfl, hQ, ⟨_, rfl⟩, hW, hsame.mono hk hs⟩
theorem Go.ret0 (X : Stand p l e R s m args below meth c T locs cells slots) (hx : p.tables.exec = Jvm.exec) (hlk : meth.locks = false) {pc : Nat} {Ls : Array Slot} (hret : meth.sig.returnType = none)
    (hd : decode c.code pc = .ok (.return_, 1)) {Q : Option Value → Heap → List Loc → Prop} {k n : Nat} (hk : cells ≤ k) (hs : slots ≤ n) (hQ : Q none T.heap locs) : Go p e below (Pst s Q k n) (T.setTop (mkF m pc Ls [])) := by
  obtain ⟨fs, hr, hrun, hended, hW, hsame⟩ := X.leave (v := none) (fun _ => rfl) hlk
  exact ⟨_, _, X.returnOut hx hret hd hr, hrun, hended, _, _, rfl, hQ, ⟨_, rfl⟩, hW, hsame.mono hk hs⟩
theorem lremM {g : JFrame} {target : State} (X : Stand p l e R s m args below meth c T locs cells slots) (hx : p.tables.exec = Jvm.exec) (hg : g.method = m) {x y : Int64} {rest : List Value} (hd : decode c.code g.pc = .ok (.lrem, 1)) (hs : g.stack = .long y :: .long x :: rest) (hy : y ≠ 0)
    (hr : Steps p.tables e below (T.setTop { g with pc := g.pc + 1, stack := .long (x % y) :: rest }) target) : Steps p.tables e below (T.setTop g) target := by
  have q : x - x / y * y = x % y := lrem_mod x y
  exact XS.lrem X.here hx hg hd hs hy (by rw [q]; exact hr)
/-- Java's x >>> k on ints and on longs, as the steps leave it -/
def ushrI (x k : Int32) : Int32 := (x.toUInt32 >>> (k &&& 31).toUInt32).toInt32
def ushrJ (x : Int64) (k : Int32) : Int64 := (x.toUInt64 >>> (k &&& 0x3f).toInt64.toUInt64).toInt64
end GoKit
section ArrKit
variable {p : Program} {l : Launch} {e : Env} {R : Room} {s : State} {m : MethodId} {args : Array Value} {below : List Frame} {meth : Method} {c : Code} {T : State} {locs : List Loc} {cells slots : Nat} {Z : State} {h h' : Heap} {a b : Addr} {ty : FieldType} {n : Nat} {f : Nat → Value}
/-- in h the array at a has n places; place j holds f j -/
def BA (Z : State) (h : Heap) (a : Addr) (ty : FieldType) (n : Nat) (f : Nat → Value) : Prop := ∃ cl : Cell, Arr Z h a cl ty ∧ cl.slots.size = n ∧ ∀ j, j < n → cl.slots[j]? = some (f j)
def upd (f : Nat → Value) (i : Nat) (v : Value) : Nat → Value := fun j => if j = i then v else f j
theorem upd_hit {i : Nat} {v : Value} : upd f i v i = v := if_pos rfl
theorem upd_miss {i j : Nat} {v : Value} (q : j ≠ i) : upd f i v j = f j := if_neg q
theorem BA.lt (F : BA Z h a ty n f) : a < h.size := by
  obtain ⟨cl, A, -⟩ := F
  exact A.lt
theorem BA.ext (F : BA Z h a ty n f) (E : Ext h h') : BA Z h' a ty n f := by
  obtain ⟨cl, A, r⟩ := F
  exact ⟨cl, A.ext E, r⟩
theorem BA.other {sl : Nat} {v : Value} (F : BA Z h a ty n f) (W : Wr h h' b sl v) (q : a ≠ b) : BA Z h' a ty n f := by
  obtain ⟨cl, A, r⟩ := F
  exact ⟨cl, A.other W q, r⟩
theorem BA.keep {ws : List Addr} (F : BA Z h a ty n f) (K : Keep h h' ws) (q : a ∉ ws) : BA Z h' a ty n f := by
  obtain ⟨cl, A, r⟩ := F
  exact ⟨cl, ⟨K.2.1 a cl A.1 q, A.2⟩, r⟩
theorem BA.fn {g : Nat → Value} (F : BA Z h a ty n f) (q : ∀ j, j < n → f j = g j) : BA Z h a ty n g := by
  obtain ⟨cl, A, r1, r2⟩ := F
  exact ⟨cl, A, r1, fun j hj => by rw [r2 j hj, q j hj]⟩
theorem BA.new {k : ClassId} {z : Int32} (A : Arr Z h a (newA k ty z) ty) (hz : z.toNatClampNeg = n) : BA Z h a ty n (fun _ => defaultValue ty) := by
  subst hz
  refine ⟨_, A, sz_new _ _ _, fun j hj => ?_⟩
  simp [newA, hj]
theorem BA.wr {i : Nat} {v : Value} (F : BA Z h a ty n f) (W : Wr h h' a i v) : BA Z h' a ty n (upd f i v) := by
  obtain ⟨cl, A, r1, r2⟩ := F
  refine ⟨_, A.same W, by rw [sz_set, r1], fun j hj => ?_⟩
  show (cl.slots.setIfInBounds i v)[j]? = _
  rw [Array.getElem?_setIfInBounds]
  by_cases q : i = j
  · subst q
    rw [if_pos rfl, r1, if_pos hj]
    simp [upd]
  · rw [if_neg q, r2 j hj]
    simp [upd, Ne.symm q, fun w : j = i => q w.symm]
theorem inb {cl : Cell} {j : Int32} {i : Nat} (h0 : ¬ j < 0) (hi : j.toNatClampNeg = i) (hs : cl.slots.size = n) (hn : i < n) : ¬ (j < 0 ∨ cl.slots.size ≤ j.toNatClampNeg) := by
  rintro (q | q)
  · exact h0 q
  · rw [hs, hi] at q
    omega
theorem Go.ldB (X : Stand p l e R s m args below meth c T locs cells slots) (hx : p.tables.exec = Jvm.exec) (hZ : Z.Warmed39 s.vm) (eT : T.heap = h) (F : BA Z h a .byte n f) {j : Int32} {i : Nat} (h0 : ¬ j < 0) (hi : j.toNatClampNeg = i) (hn : i < n) {pc : Nat} {Ls : Array Slot} {rest : List Value} (hd : decode c.code pc = .ok (.baload, 1)) {P : Outcome → State → Prop}
    (k : Go p e below P (T.setTop (mkF m (pc + 1) Ls (f i :: rest)))) : Go p e below P (T.setTop (mkF m pc Ls (.int j :: .ref a :: rest))) := by
  obtain ⟨cl, A, hs, hv⟩ := F
  exact Go.on (fun t q => X.baloadBytes hx (by rw [eT]; exact A.1) (State.isArrayOf_alike hZ.alike A.2.1) A.2.2 (inb h0 hi hs hn) (by rw [hi]; exact hv i hn) (g := mkF m pc Ls (.int j :: .ref a :: rest)) rfl rfl hd t q) k
theorem Go.ldI (X : Stand p l e R s m args below meth c T locs cells slots) (hx : p.tables.exec = Jvm.exec) (hZ : Z.Warmed39 s.vm) (eT : T.heap = h) (F : BA Z h a .int n f) {j : Int32} {i : Nat} (h0 : ¬ j < 0) (hi : j.toNatClampNeg = i) (hn : i < n) {pc : Nat} {Ls : Array Slot} {rest : List Value} (hd : decode c.code pc = .ok (.iaload, 1)) {P : Outcome → State → Prop}
    (k : Go p e below P (T.setTop (mkF m (pc + 1) Ls (f i :: rest)))) : Go p e below P (T.setTop (mkF m pc Ls (.int j :: .ref a :: rest))) := by
  obtain ⟨cl, A, hs, hv⟩ := F
  exact Go.on (fun t q => X.iaload hx (by rw [eT]; exact A.1) (State.isArrayOf_alike hZ.alike A.2.1) A.2.2 (inb h0 hi hs hn) (by rw [hi]; exact hv i hn) (g := mkF m pc Ls (.int j :: .ref a :: rest)) rfl rfl hd t q) k
theorem Go.len (X : Stand p l e R s m args below meth c T locs cells slots) (hx : p.tables.exec = Jvm.exec) (hZ : Z.Warmed39 s.vm) (eT : T.heap = h) (F : BA Z h a ty n f) {N : Int32} (hN : n.toInt32 = N) {pc : Nat} {Ls : Array Slot} {rest : List Value} (hd : decode c.code pc = .ok (.arraylength, 1)) {P : Outcome → State → Prop}
    (k : Go p e below P (T.setTop (mkF m (pc + 1) Ls (.int N :: rest)))) : Go p e below P (T.setTop (mkF m pc Ls (.ref a :: rest))) := by
  obtain ⟨cl, A, hs, hv⟩ := F
  subst hs hN
  exact Go.on (fun t q => X.arraylength hx (by rw [eT]; exact A.1) (State.isArrayOf_alike hZ.alike A.2.1) (g := mkF m pc Ls (.ref a :: rest)) rfl rfl hd t q) k
theorem Go.stB (X : Stand p l e R s m args below meth c T locs cells slots) (hx : p.tables.exec = Jvm.exec) (hZ : Z.Warmed39 s.vm) (eT : T.heap = h) (F : BA Z h a .byte n f) {j x : Int32} {i : Nat} (h0 : ¬ j < 0) (hi : j.toNatClampNeg = i) (hn : i < n) {pc : Nat} {Ls : Array Slot} {rest : List Value} (hd : decode c.code pc = .ok (.bastore, 1)) {P : Outcome → State → Prop}
    (k : ∀ T' h', Stand p l e R s m args below meth c T' (locs ++ [⟨a, i⟩]) cells slots → T'.heap = h' → Wr h h' a i (.int (nar .byte x)) → BA Z h' a .byte n (upd f i (.int (nar .byte x))) → Go p e below P (T'.setTop (mkF m (pc + 1) Ls rest))) : Go p e below P (T.setTop (mkF m pc Ls (.int x :: .int j :: .ref a :: rest))) := by
  have F' := F
  obtain ⟨cl, A, hs, hv⟩ := F
  obtain ⟨T', h', X', e', W, st⟩ := Jvm.RoadKit.stB X hx hZ eT A (j := j) (x := x) (inb h0 hi hs hn) (g := mkF m pc Ls (.int x :: .int j :: .ref a :: rest)) rfl rfl hd
  subst hi
  exact Go.on st (k T' h' X' e' W (F'.wr W))
theorem Go.stI (X : Stand p l e R s m args below meth c T locs cells slots) (hx : p.tables.exec = Jvm.exec) (hZ : Z.Warmed39 s.vm) (eT : T.heap = h) (F : BA Z h a .int n f) {j x : Int32} {i : Nat} (h0 : ¬ j < 0) (hi : j.toNatClampNeg = i) (hn : i < n) {pc : Nat} {Ls : Array Slot} {rest : List Value} (hd : decode c.code pc = .ok (.iastore, 1)) {P : Outcome → State → Prop}
    (k : ∀ T' h', Stand p l e R s m args below meth c T' (locs ++ [⟨a, i⟩]) cells slots → T'.heap = h' → Wr h h' a i (.int x) → BA Z h' a .int n (upd f i (.int x)) → Go p e below P (T'.setTop (mkF m (pc + 1) Ls rest))) : Go p e below P (T.setTop (mkF m pc Ls (.int x :: .int j :: .ref a :: rest))) := by
  have F' := F
  obtain ⟨cl, A, hs, hv⟩ := F
  obtain ⟨T', h', X', e', W, st⟩ := Jvm.RoadKit.stI X hx hZ eT A (j := j) (x := x) (inb h0 hi hs hn) (g := mkF m pc Ls (.int x :: .int j :: .ref a :: rest)) rfl rfl hd
  subst hi
  exact Go.on st (k T' h' X' e' W (F'.wr W))
/-- an index by its value -/
theorem ix {j : Int32} {i : Nat} (h : j.toInt = (i : Int)) : ¬ j < 0 ∧ j.toNatClampNeg = i := by
  constructor
  · intro q
    have q2 := Int32.lt_iff_toInt_lt.mp q
    have z : (0 : Int32).toInt = 0 := by decide
    omega
  · show j.toInt.toNat = i
    omega
end ArrKit
theorem pd_1 : parseMethodDescriptor "([BI)[I" = some ⟨[(.array .byte), .int], some (.array .int)⟩ := by decide +kernel
/-- how many of the first i places (below N) hold q -/
def cnt (N : Nat) (f : Nat → Int32) (q : Int32) : Nat → Nat
  | 0 => 0
  | i + 1 => if i < N ∧ f i = q then cnt N f q i + 1 else cnt N f q i
theorem cnt_hit {N : Nat} {f : Nat → Int32} {q : Int32} {i : Nat} (h : i < N ∧ f i = q) : cnt N f q (i + 1) = cnt N f q i + 1 := by rw [cnt, if_pos h]
theorem cnt_miss {N : Nat} {f : Nat → Int32} {q : Int32} {i : Nat} (h : ¬ (i < N ∧ f i = q)) : cnt N f q (i + 1) = cnt N f q i := by rw [cnt, if_neg h]
theorem cnt_le {N : Nat} {f : Nat → Int32} {q : Int32} (i : Nat) : cnt N f q i ≤ i := by
  induction i with
  | zero => exact Nat.le_refl _
  | succ i ih =>
    by_cases h : i < N ∧ f i = q
    · rw [cnt_hit h]
      omega
    · rw [cnt_miss h]
      omega
theorem cnt_mono {N : Nat} {f : Nat → Int32} {q : Int32} (i : Nat) : cnt N f q i ≤ cnt N f q (i + 1) := by
  by_cases h : i < N ∧ f i = q
  · rw [cnt_hit h]
    omega
  · rw [cnt_miss h]
    exact Nat.le_refl _
theorem cnt_monoD {N : Nat} {f : Nat → Int32} {q : Int32} (i d : Nat) : cnt N f q i ≤ cnt N f q (i + d) := by
  induction d with
  | zero => exact Nat.le_refl _
  | succ d ih => exact Nat.le_trans ih (cnt_mono (i + d))
theorem cnt_past {N : Nat} {f : Nat → Int32} {q : Int32} (d : Nat) : cnt N f q (N + d) = cnt N f q N := by
  induction d with
  | zero => rfl
  | succ d ih =>
    rw [← ih]
    exact cnt_miss (i := N + d) (by omega)
theorem cnt_lt {N : Nat} {f : Nat → Int32} {q : Int32} {i : Nat} (h : i < N ∧ f i = q) : cnt N f q i < cnt N f q N := by
  have h1 := cnt_hit h
  have h2 := cnt_monoD (N := N) (f := f) (q := q) (i + 1) (N - (i + 1))
  have e : i + 1 + (N - (i + 1)) = N := by omega
  rw [e] at h2
  omega
theorem own_ofNat {S : Nat} (h : S < 1000) : (Int32.ofNat S).toInt = (S : Int) := Int32.toInt_ofNat_of_lt (by omega)
theorem own_ofs {S : Nat} (h : S < 999) : Int32.ofNat S + (1 : Int32) = Int32.ofNat (S + 1) := by
  apply Int32.toInt_inj.mp
  have c := c_iadd (Int32.ofNat S) 1
  have b := rng32 (Int32.ofNat S + (1 : Int32))
  have z1 : (1 : Int32).toInt = 1 := by decide
  rw [own_ofNat (by omega)] at c
  rw [own_ofNat (by omega)]
  omega
theorem own_ltI {i N : Nat} (hi : i < 1000) (hN : N < 1000) : Int32.ofNat i < Int32.ofNat N ↔ i < N := by
  rw [Int32.lt_iff_toInt_lt, own_ofNat hi, own_ofNat hN]
  omega
def QV (Z : State) (a : Addr) (N : Nat) (f : Nat → Int32) (q : Int32) (h0 : Heap) (n0 : Nat) (v : Option Value) (h : Heap) (L : List Loc) : Prop := ∃ (r : Addr) (G : Nat → Value), v = some (.ref r) ∧ Fr n0 L ∧ n0 ≤ h.size ∧ BA Z h a .byte N (fun j => .int (f j)) ∧ BA Z h r .int (cnt N f q N) G ∧ ∀ j, j < N ∧ f j = q → G (cnt N f q j) = .int (Int32.ofNat j)
theorem d1_0 : decode prog_63_method_3_code 0 = .ok (.iconst 0, 1) := by decide +kernel
theorem d1_1 : decode prog_63_method_3_code 1 = .ok (.istore_n 2, 1) := by decide +kernel
theorem d1_2 : decode prog_63_method_3_code 2 = .ok (.aload_n 0, 1) := by decide +kernel
theorem d1_3 : decode prog_63_method_3_code 3 = .ok (.astore_n 3, 1) := by decide +kernel
theorem d1_4 : decode prog_63_method_3_code 4 = .ok (.aload_n 3, 1) := by decide +kernel
theorem d1_5 : decode prog_63_method_3_code 5 = .ok (.arraylength, 1) := by decide +kernel
theorem d1_6 : decode prog_63_method_3_code 6 = .ok (.istore 4, 2) := by decide +kernel
theorem d1_8 : decode prog_63_method_3_code 8 = .ok (.iconst 0, 1) := by decide +kernel
theorem d1_9 : decode prog_63_method_3_code 9 = .ok (.istore 5, 2) := by decide +kernel
theorem d1_11 : decode prog_63_method_3_code 11 = .ok (.iload 5, 2) := by decide +kernel
theorem d1_13 : decode prog_63_method_3_code 13 = .ok (.iload 4, 2) := by decide +kernel
theorem d1_15 : decode prog_63_method_3_code 15 = .ok (.if_icmp .ge 24, 3) := by decide +kernel
theorem d1_18 : decode prog_63_method_3_code 18 = .ok (.aload_n 3, 1) := by decide +kernel
theorem d1_19 : decode prog_63_method_3_code 19 = .ok (.iload 5, 2) := by decide +kernel
theorem d1_21 : decode prog_63_method_3_code 21 = .ok (.baload, 1) := by decide +kernel
theorem d1_22 : decode prog_63_method_3_code 22 = .ok (.istore 6, 2) := by decide +kernel
theorem d1_24 : decode prog_63_method_3_code 24 = .ok (.iload 6, 2) := by decide +kernel
theorem d1_26 : decode prog_63_method_3_code 26 = .ok (.iload_n 1, 1) := by decide +kernel
theorem d1_27 : decode prog_63_method_3_code 27 = .ok (.if_icmp .ne 6, 3) := by decide +kernel
theorem d1_30 : decode prog_63_method_3_code 30 = .ok (.iinc 2 1, 3) := by decide +kernel
theorem d1_33 : decode prog_63_method_3_code 33 = .ok (.iinc 5 1, 3) := by decide +kernel
theorem d1_36 : decode prog_63_method_3_code 36 = .ok (.goto (-25), 3) := by decide +kernel
theorem d1_39 : decode prog_63_method_3_code 39 = .ok (.iload_n 2, 1) := by decide +kernel
theorem d1_40 : decode prog_63_method_3_code 40 = .ok (.newarray .int, 2) := by decide +kernel
theorem d1_42 : decode prog_63_method_3_code 42 = .ok (.astore_n 3, 1) := by decide +kernel
theorem d1_43 : decode prog_63_method_3_code 43 = .ok (.iconst 0, 1) := by decide +kernel
theorem d1_44 : decode prog_63_method_3_code 44 = .ok (.istore 4, 2) := by decide +kernel
theorem d1_46 : decode prog_63_method_3_code 46 = .ok (.iconst 0, 1) := by decide +kernel
theorem d1_47 : decode prog_63_method_3_code 47 = .ok (.istore 5, 2) := by decide +kernel
theorem d1_49 : decode prog_63_method_3_code 49 = .ok (.iload 5, 2) := by decide +kernel
theorem d1_51 : decode prog_63_method_3_code 51 = .ok (.aload_n 0, 1) := by decide +kernel
theorem d1_52 : decode prog_63_method_3_code 52 = .ok (.arraylength, 1) := by decide +kernel
theorem d1_53 : decode prog_63_method_3_code 53 = .ok (.if_icmp .ge 26, 3) := by decide +kernel
theorem d1_56 : decode prog_63_method_3_code 56 = .ok (.aload_n 0, 1) := by decide +kernel
theorem d1_57 : decode prog_63_method_3_code 57 = .ok (.iload 5, 2) := by decide +kernel
theorem d1_59 : decode prog_63_method_3_code 59 = .ok (.baload, 1) := by decide +kernel
theorem d1_60 : decode prog_63_method_3_code 60 = .ok (.iload_n 1, 1) := by decide +kernel
theorem d1_61 : decode prog_63_method_3_code 61 = .ok (.if_icmp .ne 12, 3) := by decide +kernel
theorem d1_64 : decode prog_63_method_3_code 64 = .ok (.aload_n 3, 1) := by decide +kernel
theorem d1_65 : decode prog_63_method_3_code 65 = .ok (.iload 4, 2) := by decide +kernel
theorem d1_67 : decode prog_63_method_3_code 67 = .ok (.iinc 4 1, 3) := by decide +kernel
theorem d1_70 : decode prog_63_method_3_code 70 = .ok (.iload 5, 2) := by decide +kernel
theorem d1_72 : decode prog_63_method_3_code 72 = .ok (.iastore, 1) := by decide +kernel
theorem d1_73 : decode prog_63_method_3_code 73 = .ok (.iinc 5 1, 3) := by decide +kernel
theorem d1_76 : decode prog_63_method_3_code 76 = .ok (.goto (-27), 3) := by decide +kernel
theorem d1_79 : decode prog_63_method_3_code 79 = .ok (.aload_n 3, 1) := by decide +kernel
theorem d1_80 : decode prog_63_method_3_code 80 = .ok (.areturn, 1) := by decide +kernel
set_option maxRecDepth 65536 in
set_option maxHeartbeats 40000000 in
theorem loop1 {p : Program} {l : Launch} {e : Env} {R : Room} {s : State} {m : MethodId} {args : Array Value} {below : List Frame} {meth : Method} {c : Code} {T : State} {locs : List Loc} {cells slots : Nat} {P : Outcome → State → Prop} {Z : State} {h0 : Heap} (X0 : Stand p l e R s m args below meth c T locs cells slots) (hx : p.tables.exec = Jvm.exec) (hZ : Z.Warmed39 s.vm) (e0 : T.heap = h0) (hby : c.code = prog_63_method_3_code)
    {a1 : Addr} {q : Int32} {f : Nat → Int32} {N : Nat} (hN : N ≤ 4) (F0 : BA Z h0 a1 .byte N (fun j => .int (f j))) (k : ∀ s6, (s6 = .unset ∨ ∃ w, s6 = .val w ∧ w.category = 1) → Go p e below P (T.setTop (mkF m 39 #[.val (.ref a1), .val (.int q), .val (.int (Int32.ofNat (cnt N f q N))), .val (.ref a1), .val (.int (Int32.ofNat N)), .val (.int (Int32.ofNat N)), s6] []))) :
    ∀ (n i : Nat) (s6 : Slot), i + n = N → (s6 = .unset ∨ ∃ w, s6 = .val w ∧ w.category = 1) → Go p e below P (T.setTop (mkF m 11 #[.val (.ref a1), .val (.int q), .val (.int (Int32.ofNat (cnt N f q i))), .val (.ref a1), .val (.int (Int32.ofNat N)), .val (.int (Int32.ofNat i)), s6] [])) := by
  intro n
  induction n with
  | zero =>
    intro i s6 hin hs6
    refine Go.on (fun t k => XS.iload X0.here hx rfl (hb hby d1_11) rfl k) ?_
    show Go p e below _ (T.setTop (mkF m 13 #[.val (.ref a1), .val (.int q), .val (.int (Int32.ofNat (cnt N f q i))), .val (.ref a1), .val (.int (Int32.ofNat N)), .val (.int (Int32.ofNat i)), s6] [(.int (Int32.ofNat i))]))
    refine Go.on (fun t k => XS.iload X0.here hx rfl (hb hby d1_13) rfl k) ?_
    show Go p e below _ (T.setTop (mkF m 15 #[.val (.ref a1), .val (.int q), .val (.int (Int32.ofNat (cnt N f q i))), .val (.ref a1), .val (.int (Int32.ofNat N)), .val (.int (Int32.ofNat i)), s6] [(.int (Int32.ofNat N)), (.int (Int32.ofNat i))]))
    refine Go.on (fun t k => XS.icmpYes X0.here hx rfl (pc0 := 15) (pc' := 39) rfl (hb hby d1_15) rfl (flt (fun w => by have := (own_ltI (by omega) (by omega)).mp w; omega)).2.1 (by decide) (by decide) k) ?_
    show Go p e below _ (T.setTop (mkF m 39 #[.val (.ref a1), .val (.int q), .val (.int (Int32.ofNat (cnt N f q i))), .val (.ref a1), .val (.int (Int32.ofNat N)), .val (.int (Int32.ofNat i)), s6] []))
    obtain rfl : i = N := by omega
    exact k _ hs6
  | succ n ih =>
    intro i s6 hin hs6
    have hlt : i < N := by omega
    have hltI : (Int32.ofNat i) < (Int32.ofNat N) := (own_ltI (by omega) (by omega)).mpr hlt
    have hix := ix (own_ofNat (S := i) (by omega))
    refine Go.on (fun t k => XS.iload X0.here hx rfl (hb hby d1_11) rfl k) ?_
    show Go p e below _ (T.setTop (mkF m 13 #[.val (.ref a1), .val (.int q), .val (.int (Int32.ofNat (cnt N f q i))), .val (.ref a1), .val (.int (Int32.ofNat N)), .val (.int (Int32.ofNat i)), s6] [(.int (Int32.ofNat i))]))
    refine Go.on (fun t k => XS.iload X0.here hx rfl (hb hby d1_13) rfl k) ?_
    show Go p e below _ (T.setTop (mkF m 15 #[.val (.ref a1), .val (.int q), .val (.int (Int32.ofNat (cnt N f q i))), .val (.ref a1), .val (.int (Int32.ofNat N)), .val (.int (Int32.ofNat i)), s6] [(.int (Int32.ofNat N)), (.int (Int32.ofNat i))]))
    refine Go.on (fun t k => XS.icmpNo X0.here hx rfl (hb hby d1_15) rfl (tlt hltI).2.1 k) ?_
    show Go p e below _ (T.setTop (mkF m 18 #[.val (.ref a1), .val (.int q), .val (.int (Int32.ofNat (cnt N f q i))), .val (.ref a1), .val (.int (Int32.ofNat N)), .val (.int (Int32.ofNat i)), s6] []))
    refine Go.on (fun t k => XS.aloadN X0.here hx rfl (hb hby d1_18) rfl rfl k) ?_
    show Go p e below _ (T.setTop (mkF m 19 #[.val (.ref a1), .val (.int q), .val (.int (Int32.ofNat (cnt N f q i))), .val (.ref a1), .val (.int (Int32.ofNat N)), .val (.int (Int32.ofNat i)), s6] [(.ref a1)]))
    refine Go.on (fun t k => XS.iload X0.here hx rfl (hb hby d1_19) rfl k) ?_
    show Go p e below _ (T.setTop (mkF m 21 #[.val (.ref a1), .val (.int q), .val (.int (Int32.ofNat (cnt N f q i))), .val (.ref a1), .val (.int (Int32.ofNat N)), .val (.int (Int32.ofNat i)), s6] [(.int (Int32.ofNat i)), (.ref a1)]))
    refine Go.ldB X0 hx hZ e0 F0 (i := i) hix.1 hix.2 hlt (hb hby d1_21) ?_
    show Go p e below _ (T.setTop (mkF m 22 #[.val (.ref a1), .val (.int q), .val (.int (Int32.ofNat (cnt N f q i))), .val (.ref a1), .val (.int (Int32.ofNat N)), .val (.int (Int32.ofNat i)), s6] [(.int (f i))]))
    refine Go.on (fun t k => XS.istoreS X0.here hx rfl (hb hby d1_22) rfl (o := s6) rfl hs6 k) ?_
    show Go p e below _ (T.setTop (mkF m 24 #[.val (.ref a1), .val (.int q), .val (.int (Int32.ofNat (cnt N f q i))), .val (.ref a1), .val (.int (Int32.ofNat N)), .val (.int (Int32.ofNat i)), .val (.int (f i))] []))
    refine Go.on (fun t k => XS.iload X0.here hx rfl (hb hby d1_24) rfl k) ?_
    show Go p e below _ (T.setTop (mkF m 26 #[.val (.ref a1), .val (.int q), .val (.int (Int32.ofNat (cnt N f q i))), .val (.ref a1), .val (.int (Int32.ofNat N)), .val (.int (Int32.ofNat i)), .val (.int (f i))] [(.int (f i))]))
    refine Go.on (fun t k => XS.iloadN X0.here hx rfl (hb hby d1_26) rfl k) ?_
    show Go p e below _ (T.setTop (mkF m 27 #[.val (.ref a1), .val (.int q), .val (.int (Int32.ofNat (cnt N f q i))), .val (.ref a1), .val (.int (Int32.ofNat N)), .val (.int (Int32.ofNat i)), .val (.int (f i))] [(.int q), (.int (f i))]))
    by_cases hc27 : (f i) = q
    · refine Go.on (fun t k => XS.icmpNo X0.here hx rfl (hb hby d1_27) rfl (teq hc27).2 k) ?_
      show Go p e below _ (T.setTop (mkF m 30 #[.val (.ref a1), .val (.int q), .val (.int (Int32.ofNat (cnt N f q i))), .val (.ref a1), .val (.int (Int32.ofNat N)), .val (.int (Int32.ofNat i)), .val (.int (f i))] []))
      refine Go.on (fun t k => XS.iinc X0.here hx rfl (hb hby d1_30) rfl (l' := #[.val (.ref a1), .val (.int q), .val (.int ((Int32.ofNat (cnt N f q i)) + (1 : Int32))), .val (.ref a1), .val (.int (Int32.ofNat N)), .val (.int (Int32.ofNat i)), .val (.int (f i))]) rfl k) ?_
      show Go p e below _ (T.setTop (mkF m 33 #[.val (.ref a1), .val (.int q), .val (.int ((Int32.ofNat (cnt N f q i)) + (1 : Int32))), .val (.ref a1), .val (.int (Int32.ofNat N)), .val (.int (Int32.ofNat i)), .val (.int (f i))] []))
      refine Go.on (fun t k => XS.iinc X0.here hx rfl (hb hby d1_33) rfl (l' := #[.val (.ref a1), .val (.int q), .val (.int ((Int32.ofNat (cnt N f q i)) + (1 : Int32))), .val (.ref a1), .val (.int (Int32.ofNat N)), .val (.int ((Int32.ofNat i) + (1 : Int32))), .val (.int (f i))]) rfl k) ?_
      show Go p e below _ (T.setTop (mkF m 36 #[.val (.ref a1), .val (.int q), .val (.int ((Int32.ofNat (cnt N f q i)) + (1 : Int32))), .val (.ref a1), .val (.int (Int32.ofNat N)), .val (.int ((Int32.ofNat i) + (1 : Int32))), .val (.int (f i))] []))
      refine Go.on (fun t k => XS.goto X0.here hx rfl (pc0 := 36) (pc' := 11) rfl (hb hby d1_36) (by decide) (by decide) k) ?_
      show Go p e below _ (T.setTop (mkF m 11 #[.val (.ref a1), .val (.int q), .val (.int ((Int32.ofNat (cnt N f q i)) + (1 : Int32))), .val (.ref a1), .val (.int (Int32.ofNat N)), .val (.int ((Int32.ofNat i) + (1 : Int32))), .val (.int (f i))] []))
      rw [own_ofs (by omega : i < 999), own_ofs (by have := cnt_le (N := N) (f := f) (q := q) i; omega : cnt N f q i < 999)]
      have hcn := cnt_hit (q := q) ⟨hlt, hc27⟩
      rw [← hcn]
      exact ih (i + 1) _ (by omega) (Or.inr ⟨_, rfl, rfl⟩)
    · refine Go.on (fun t k => XS.icmpYes X0.here hx rfl (pc0 := 27) (pc' := 33) rfl (hb hby d1_27) rfl (feq hc27).2 (by decide) (by decide) k) ?_
      show Go p e below _ (T.setTop (mkF m 33 #[.val (.ref a1), .val (.int q), .val (.int (Int32.ofNat (cnt N f q i))), .val (.ref a1), .val (.int (Int32.ofNat N)), .val (.int (Int32.ofNat i)), .val (.int (f i))] []))
      refine Go.on (fun t k => XS.iinc X0.here hx rfl (hb hby d1_33) rfl (l' := #[.val (.ref a1), .val (.int q), .val (.int (Int32.ofNat (cnt N f q i))), .val (.ref a1), .val (.int (Int32.ofNat N)), .val (.int ((Int32.ofNat i) + (1 : Int32))), .val (.int (f i))]) rfl k) ?_
      show Go p e below _ (T.setTop (mkF m 36 #[.val (.ref a1), .val (.int q), .val (.int (Int32.ofNat (cnt N f q i))), .val (.ref a1), .val (.int (Int32.ofNat N)), .val (.int ((Int32.ofNat i) + (1 : Int32))), .val (.int (f i))] []))
      refine Go.on (fun t k => XS.goto X0.here hx rfl (pc0 := 36) (pc' := 11) rfl (hb hby d1_36) (by decide) (by decide) k) ?_
      show Go p e below _ (T.setTop (mkF m 11 #[.val (.ref a1), .val (.int q), .val (.int (Int32.ofNat (cnt N f q i))), .val (.ref a1), .val (.int (Int32.ofNat N)), .val (.int ((Int32.ofNat i) + (1 : Int32))), .val (.int (f i))] []))
      rw [own_ofs (by omega : i < 999)]
      have hcn := cnt_miss (N := N) (fun w : i < N ∧ f i = q => hc27 w.2)
      rw [← hcn]
      exact ih (i + 1) _ (by omega) (Or.inr ⟨_, rfl, rfl⟩)
set_option maxRecDepth 65536 in
set_option maxHeartbeats 40000000 in
theorem loop2 {p : Program} {l : Launch} {e : Env} {R : Room} {s : State} {m : MethodId} {args : Array Value} {below : List Frame} {meth : Method} {c : Code} {cells slots : Nat} {Z : State} {h0 : Heap} {n0 : Nat} (hx : p.tables.exec = Jvm.exec) (hZ : Z.Warmed39 s.vm) (hby : c.code = prog_63_method_3_code) (hlk : meth.locks = false) (hret : meth.sig.returnType = some (.array .int))
    {a1 r : Addr} {q : Int32} {f : Nat → Int32} {N : Nat} {s6 : Slot} (hN : N ≤ 4) (har : a1 ≠ r) (gr : n0 ≤ r) {C S : Nat} (hC : cells ≤ C) (hS : slots ≤ S) :
    ∀ (n i : Nat) (T : State) (h : Heap) (locs : List Loc) (G : Nat → Value), i + n = N → Stand p l e R s m args below meth c T locs cells slots → T.heap = h → Fr n0 locs → n0 ≤ h.size → BA Z h a1 .byte N (fun j => .int (f j)) → BA Z h r .int (cnt N f q N) G → (∀ t, t < i → t < N ∧ f t = q → G (cnt N f q t) = .int (Int32.ofNat t)) → Go p e below (Pst s (QV Z a1 N f q h0 n0) C S) (T.setTop (mkF m 49 #[.val (.ref a1), .val (.int q), .val (.int (Int32.ofNat (cnt N f q N))), .val (.ref r), .val (.int (Int32.ofNat (cnt N f q i))), .val (.int (Int32.ofNat i)), s6] [])) := by
  intro n
  induction n with
  | zero =>
    intro i T h locs G hin X0 e0 N0 Z0 F0 Fr0 hG
    refine Go.on (fun t k => XS.iload X0.here hx rfl (hb hby d1_49) rfl k) ?_
    show Go p e below _ (T.setTop (mkF m 51 #[.val (.ref a1), .val (.int q), .val (.int (Int32.ofNat (cnt N f q N))), .val (.ref r), .val (.int (Int32.ofNat (cnt N f q i))), .val (.int (Int32.ofNat i)), s6] [(.int (Int32.ofNat i))]))
    refine Go.on (fun t k => XS.aloadN X0.here hx rfl (hb hby d1_51) rfl rfl k) ?_
    show Go p e below _ (T.setTop (mkF m 52 #[.val (.ref a1), .val (.int q), .val (.int (Int32.ofNat (cnt N f q N))), .val (.ref r), .val (.int (Int32.ofNat (cnt N f q i))), .val (.int (Int32.ofNat i)), s6] [(.ref a1), (.int (Int32.ofNat i))]))
    refine Go.len X0 hx hZ e0 F0 (N := Int32.ofNat N) rfl (hb hby d1_52) ?_
    show Go p e below _ (T.setTop (mkF m 53 #[.val (.ref a1), .val (.int q), .val (.int (Int32.ofNat (cnt N f q N))), .val (.ref r), .val (.int (Int32.ofNat (cnt N f q i))), .val (.int (Int32.ofNat i)), s6] [(.int (Int32.ofNat N)), (.int (Int32.ofNat i))]))
    refine Go.on (fun t k => XS.icmpYes X0.here hx rfl (pc0 := 53) (pc' := 79) rfl (hb hby d1_53) rfl (flt (fun w => by have := (own_ltI (by omega) (by omega)).mp w; omega)).2.1 (by decide) (by decide) k) ?_
    show Go p e below _ (T.setTop (mkF m 79 #[.val (.ref a1), .val (.int q), .val (.int (Int32.ofNat (cnt N f q N))), .val (.ref r), .val (.int (Int32.ofNat (cnt N f q i))), .val (.int (Int32.ofNat i)), s6] []))
    refine Go.on (fun t k => XS.aloadN X0.here hx rfl (hb hby d1_79) rfl rfl k) ?_
    show Go p e below _ (T.setTop (mkF m 80 #[.val (.ref a1), .val (.int q), .val (.int (Int32.ofNat (cnt N f q N))), .val (.ref r), .val (.int (Int32.ofNat (cnt N f q i))), .val (.int (Int32.ofNat i)), s6] [(.ref r)]))
    obtain rfl : i = N := by omega
    exact Go.retA X0 hx hlk hret rfl rfl (hb hby d1_80) hC hS (show QV Z a1 i f q h0 n0 _ T.heap _ from ⟨r, G, rfl, N0, by rw [e0]; exact Z0, by rw [e0]; exact F0, by rw [e0]; exact Fr0, fun j hj => hG j hj.1 hj⟩)
  | succ n ih =>
    intro i T h locs G hin X0 e0 N0 Z0 F0 Fr0 hG
    have hlt : i < N := by omega
    have hltI : (Int32.ofNat i) < (Int32.ofNat N) := (own_ltI (by omega) (by omega)).mpr hlt
    have hix := ix (own_ofNat (S := i) (by omega))
    have hcx := ix (own_ofNat (S := cnt N f q i) (by have := cnt_le (N := N) (f := f) (q := q) i; omega))
    refine Go.on (fun t k => XS.iload X0.here hx rfl (hb hby d1_49) rfl k) ?_
    show Go p e below _ (T.setTop (mkF m 51 #[.val (.ref a1), .val (.int q), .val (.int (Int32.ofNat (cnt N f q N))), .val (.ref r), .val (.int (Int32.ofNat (cnt N f q i))), .val (.int (Int32.ofNat i)), s6] [(.int (Int32.ofNat i))]))
    refine Go.on (fun t k => XS.aloadN X0.here hx rfl (hb hby d1_51) rfl rfl k) ?_
    show Go p e below _ (T.setTop (mkF m 52 #[.val (.ref a1), .val (.int q), .val (.int (Int32.ofNat (cnt N f q N))), .val (.ref r), .val (.int (Int32.ofNat (cnt N f q i))), .val (.int (Int32.ofNat i)), s6] [(.ref a1), (.int (Int32.ofNat i))]))
    refine Go.len X0 hx hZ e0 F0 (N := Int32.ofNat N) rfl (hb hby d1_52) ?_
    show Go p e below _ (T.setTop (mkF m 53 #[.val (.ref a1), .val (.int q), .val (.int (Int32.ofNat (cnt N f q N))), .val (.ref r), .val (.int (Int32.ofNat (cnt N f q i))), .val (.int (Int32.ofNat i)), s6] [(.int (Int32.ofNat N)), (.int (Int32.ofNat i))]))
    refine Go.on (fun t k => XS.icmpNo X0.here hx rfl (hb hby d1_53) rfl (tlt hltI).2.1 k) ?_
    show Go p e below _ (T.setTop (mkF m 56 #[.val (.ref a1), .val (.int q), .val (.int (Int32.ofNat (cnt N f q N))), .val (.ref r), .val (.int (Int32.ofNat (cnt N f q i))), .val (.int (Int32.ofNat i)), s6] []))
    refine Go.on (fun t k => XS.aloadN X0.here hx rfl (hb hby d1_56) rfl rfl k) ?_
    show Go p e below _ (T.setTop (mkF m 57 #[.val (.ref a1), .val (.int q), .val (.int (Int32.ofNat (cnt N f q N))), .val (.ref r), .val (.int (Int32.ofNat (cnt N f q i))), .val (.int (Int32.ofNat i)), s6] [(.ref a1)]))
    refine Go.on (fun t k => XS.iload X0.here hx rfl (hb hby d1_57) rfl k) ?_
    show Go p e below _ (T.setTop (mkF m 59 #[.val (.ref a1), .val (.int q), .val (.int (Int32.ofNat (cnt N f q N))), .val (.ref r), .val (.int (Int32.ofNat (cnt N f q i))), .val (.int (Int32.ofNat i)), s6] [(.int (Int32.ofNat i)), (.ref a1)]))
    refine Go.ldB X0 hx hZ e0 F0 (i := i) hix.1 hix.2 hlt (hb hby d1_59) ?_
    show Go p e below _ (T.setTop (mkF m 60 #[.val (.ref a1), .val (.int q), .val (.int (Int32.ofNat (cnt N f q N))), .val (.ref r), .val (.int (Int32.ofNat (cnt N f q i))), .val (.int (Int32.ofNat i)), s6] [(.int (f i))]))
    refine Go.on (fun t k => XS.iloadN X0.here hx rfl (hb hby d1_60) rfl k) ?_
    show Go p e below _ (T.setTop (mkF m 61 #[.val (.ref a1), .val (.int q), .val (.int (Int32.ofNat (cnt N f q N))), .val (.ref r), .val (.int (Int32.ofNat (cnt N f q i))), .val (.int (Int32.ofNat i)), s6] [(.int q), (.int (f i))]))
    by_cases hc61 : (f i) = q
    · refine Go.on (fun t k => XS.icmpNo X0.here hx rfl (hb hby d1_61) rfl (teq hc61).2 k) ?_
      show Go p e below _ (T.setTop (mkF m 64 #[.val (.ref a1), .val (.int q), .val (.int (Int32.ofNat (cnt N f q N))), .val (.ref r), .val (.int (Int32.ofNat (cnt N f q i))), .val (.int (Int32.ofNat i)), s6] []))
      refine Go.on (fun t k => XS.aloadN X0.here hx rfl (hb hby d1_64) rfl rfl k) ?_
      show Go p e below _ (T.setTop (mkF m 65 #[.val (.ref a1), .val (.int q), .val (.int (Int32.ofNat (cnt N f q N))), .val (.ref r), .val (.int (Int32.ofNat (cnt N f q i))), .val (.int (Int32.ofNat i)), s6] [(.ref r)]))
      refine Go.on (fun t k => XS.iload X0.here hx rfl (hb hby d1_65) rfl k) ?_
      show Go p e below _ (T.setTop (mkF m 67 #[.val (.ref a1), .val (.int q), .val (.int (Int32.ofNat (cnt N f q N))), .val (.ref r), .val (.int (Int32.ofNat (cnt N f q i))), .val (.int (Int32.ofNat i)), s6] [(.int (Int32.ofNat (cnt N f q i))), (.ref r)]))
      refine Go.on (fun t k => XS.iinc X0.here hx rfl (hb hby d1_67) rfl (l' := #[.val (.ref a1), .val (.int q), .val (.int (Int32.ofNat (cnt N f q N))), .val (.ref r), .val (.int ((Int32.ofNat (cnt N f q i)) + (1 : Int32))), .val (.int (Int32.ofNat i)), s6]) rfl k) ?_
      show Go p e below _ (T.setTop (mkF m 70 #[.val (.ref a1), .val (.int q), .val (.int (Int32.ofNat (cnt N f q N))), .val (.ref r), .val (.int ((Int32.ofNat (cnt N f q i)) + (1 : Int32))), .val (.int (Int32.ofNat i)), s6] [(.int (Int32.ofNat (cnt N f q i))), (.ref r)]))
      refine Go.on (fun t k => XS.iload X0.here hx rfl (hb hby d1_70) rfl k) ?_
      show Go p e below _ (T.setTop (mkF m 72 #[.val (.ref a1), .val (.int q), .val (.int (Int32.ofNat (cnt N f q N))), .val (.ref r), .val (.int ((Int32.ofNat (cnt N f q i)) + (1 : Int32))), .val (.int (Int32.ofNat i)), s6] [(.int (Int32.ofNat i)), (.int (Int32.ofNat (cnt N f q i))), (.ref r)]))
      refine Go.stI X0 hx hZ e0 Fr0 (i := (cnt N f q i)) hcx.1 hcx.2 (cnt_lt ⟨hlt, hc61⟩) (hb hby d1_72) ?_
      intro T1 h1 X1 e1 W1 F1
      have N1 := Fr.snoc X1 N0 gr
      show Go p e below _ (T1.setTop (mkF m 73 #[.val (.ref a1), .val (.int q), .val (.int (Int32.ofNat (cnt N f q N))), .val (.ref r), .val (.int ((Int32.ofNat (cnt N f q i)) + (1 : Int32))), .val (.int (Int32.ofNat i)), s6] []))
      refine Go.on (fun t k => XS.iinc X1.here hx rfl (hb hby d1_73) rfl (l' := #[.val (.ref a1), .val (.int q), .val (.int (Int32.ofNat (cnt N f q N))), .val (.ref r), .val (.int ((Int32.ofNat (cnt N f q i)) + (1 : Int32))), .val (.int ((Int32.ofNat i) + (1 : Int32))), s6]) rfl k) ?_
      show Go p e below _ (T1.setTop (mkF m 76 #[.val (.ref a1), .val (.int q), .val (.int (Int32.ofNat (cnt N f q N))), .val (.ref r), .val (.int ((Int32.ofNat (cnt N f q i)) + (1 : Int32))), .val (.int ((Int32.ofNat i) + (1 : Int32))), s6] []))
      refine Go.on (fun t k => XS.goto X1.here hx rfl (pc0 := 76) (pc' := 49) rfl (hb hby d1_76) (by decide) (by decide) k) ?_
      show Go p e below _ (T1.setTop (mkF m 49 #[.val (.ref a1), .val (.int q), .val (.int (Int32.ofNat (cnt N f q N))), .val (.ref r), .val (.int ((Int32.ofNat (cnt N f q i)) + (1 : Int32))), .val (.int ((Int32.ofNat i) + (1 : Int32))), s6] []))
      rw [own_ofs (by omega : i < 999), own_ofs (by have := cnt_le (N := N) (f := f) (q := q) i; omega : cnt N f q i < 999)]
      have hcn := cnt_hit (q := q) ⟨hlt, hc61⟩
      rw [← hcn]
      refine ih (i + 1) T1 h1 _ _ (by omega) X1 e1 N1 (by rw [W1.size]; exact Z0) (F0.other W1 har) F1 (fun t ht hm => ?_)
      unfold upd
      by_cases hti : t = i
      · rw [hti, if_pos rfl]
      · have h1 := cnt_hit (N := N) (f := f) (q := q) hm
        have h2 := cnt_monoD (N := N) (f := f) (q := q) (t + 1) (i - (t + 1))
        have e2 : t + 1 + (i - (t + 1)) = i := by omega
        rw [e2] at h2
        rw [if_neg (by omega)]
        exact hG t (by omega) hm
    · refine Go.on (fun t k => XS.icmpYes X0.here hx rfl (pc0 := 61) (pc' := 73) rfl (hb hby d1_61) rfl (feq hc61).2 (by decide) (by decide) k) ?_
      show Go p e below _ (T.setTop (mkF m 73 #[.val (.ref a1), .val (.int q), .val (.int (Int32.ofNat (cnt N f q N))), .val (.ref r), .val (.int (Int32.ofNat (cnt N f q i))), .val (.int (Int32.ofNat i)), s6] []))
      refine Go.on (fun t k => XS.iinc X0.here hx rfl (hb hby d1_73) rfl (l' := #[.val (.ref a1), .val (.int q), .val (.int (Int32.ofNat (cnt N f q N))), .val (.ref r), .val (.int (Int32.ofNat (cnt N f q i))), .val (.int ((Int32.ofNat i) + (1 : Int32))), s6]) rfl k) ?_
      show Go p e below _ (T.setTop (mkF m 76 #[.val (.ref a1), .val (.int q), .val (.int (Int32.ofNat (cnt N f q N))), .val (.ref r), .val (.int (Int32.ofNat (cnt N f q i))), .val (.int ((Int32.ofNat i) + (1 : Int32))), s6] []))
      refine Go.on (fun t k => XS.goto X0.here hx rfl (pc0 := 76) (pc' := 49) rfl (hb hby d1_76) (by decide) (by decide) k) ?_
      show Go p e below _ (T.setTop (mkF m 49 #[.val (.ref a1), .val (.int q), .val (.int (Int32.ofNat (cnt N f q N))), .val (.ref r), .val (.int (Int32.ofNat (cnt N f q i))), .val (.int ((Int32.ofNat i) + (1 : Int32))), s6] []))
      rw [own_ofs (by omega : i < 999)]
      have hcn := cnt_miss (N := N) (fun w : i < N ∧ f i = q => hc61 w.2)
      rw [← hcn]
      refine ih (i + 1) T h _ _ (by omega) X0 e0 N0 Z0 F0 Fr0 (fun t ht hm => ?_)
      have hti : t ≠ i := fun w => hc61 (w ▸ hm.2)
      exact hG t (by omega) hm
theorem pn_1 : plainFor (⟨"com/example/planarium/planarium/separator/Separation", "verticesIn", "([BI)[I"⟩ : MethodName) = true := by first | exact plainFor_of_name (by first | (simp [plainName, overriddenIn]; done) | decide +kernel) | decide +kernel
theorem ef_1 (m : MethodId) (x0 : Addr) (x1 : Int32) : entryFrame m #[(.ref x0), (.int x1)] 7 = mkF m 0 #[.val (.ref x0), .val (.int x1), .unset, .unset, .unset, .unset, .unset] [] := by first | (simp [entryFrame, mkF, argsToLocals, Value.category]; done) | rfl
set_option maxRecDepth 65536 in
set_option maxHeartbeats 40000000 in
theorem rm1 (l : Launch) (Z : State) (a0 : Array Value) (hw : ∀ d ∈ tables_1, d.before a0 Z = true) (ws : List Jvm.Cond) (a1 : Addr) (q : Int32) (N : Nat) (f : Nat → Int32) (h0 : Heap) (n0 : Nat) (Z0 : n0 ≤ h0.size) (hN : N ≤ 4) (F0 : BA Z h0 a1 .byte N (fun j => .int (f j))) :
    MetFree l (⟨"com/example/planarium/planarium/separator/Separation", "verticesIn", "([BI)[I"⟩ : MethodName) (head1 (Jvm.Cond.code (⟨"com/example/planarium/planarium/separator/Separation", "verticesIn", "([BI)[I"⟩ : MethodName) prog_63_method_3_code 7 (some (.array .int)) :: ws) ({ frames := 0, cells := 1, slots := 4, locals := 0 } : Room)) (fun a U => a = #[(.ref a1), (.int q)] ∧ Z.Warmed39 U.vm ∧ U.heap = h0) (fun _ _ _ _ _ => True) (fun _ U o U' => ∃ v L, o = .returned v ∧ QV Z a1 N f q h0 n0 v U'.heap L ∧ FrameEnd U o U' L ({ frames := 0, cells := 1, slots := 4, locals := 0 } : Room).cells ({ frames := 0, cells := 1, slots := 4, locals := 0 } : Room).slots) := by
  refine MetFree.of_bodySF pn_1 hisR ?_
  intro p e s m args below meth c s₁ Bd hml0 hP hK
  obtain ⟨rfl, hZ, hh⟩ := hP
  have hx := Bd.exec
  have hby := Bd.bytes
  have hlk := Bd.notSynchronized
  have hret := Bd.returns
  have hml : c.maxLocals = 7 := hml0
  have hown : s.vm.findClass "com/example/planarium/planarium/separator/Separation" = some m.cls := findClass_of_methodNamed Bd.named
  have hnm := (name_of_methodNamed Bd.named Bd.method).1
  have X0 : Stand p l e ({ frames := 0, cells := 1, slots := 4, locals := 0 } : Room) s m #[(.ref a1), (.int q)] below meth c s₁ [] 0 0 := Stand.of_body Bd
  have e0 : s₁.heap = h0 := by rw [← hh, Bd.state]; rfl
  have N0 := Fr.nil n0
  show Go p e below (Pst s (QV Z a1 N f q h0 n0) ({ frames := 0, cells := 1, slots := 4, locals := 0 } : Room).cells ({ frames := 0, cells := 1, slots := 4, locals := 0 } : Room).slots) (s₁.setTop (entryFrame m #[(.ref a1), (.int q)] 7))
  refine Go.on (fun t k => castTop (ef_1 m a1 q) k) ?_
  show Go p e below _ (s₁.setTop (mkF m 0 #[.val (.ref a1), .val (.int q), .unset, .unset, .unset, .unset, .unset] []))
  refine Go.on (fun t k => XS.iconst X0.here hx rfl (hb hby d1_0) k) ?_
  show Go p e below _ (s₁.setTop (mkF m 1 #[.val (.ref a1), .val (.int q), .unset, .unset, .unset, .unset, .unset] [(.int (0 : Int32))]))
  refine Go.on (fun t k => XS.istoreN X0.here hx rfl (hb hby d1_1) rfl (l' := #[.val (.ref a1), .val (.int q), .val (.int (0 : Int32)), .unset, .unset, .unset, .unset]) rfl k) ?_
  show Go p e below _ (s₁.setTop (mkF m 2 #[.val (.ref a1), .val (.int q), .val (.int (0 : Int32)), .unset, .unset, .unset, .unset] []))
  refine Go.on (fun t k => XS.aloadN X0.here hx rfl (hb hby d1_2) rfl rfl k) ?_
  show Go p e below _ (s₁.setTop (mkF m 3 #[.val (.ref a1), .val (.int q), .val (.int (0 : Int32)), .unset, .unset, .unset, .unset] [(.ref a1)]))
  refine Go.on (fun t k => XS.astoreN X0.here hx rfl (hb hby d1_3) rfl rfl (l' := #[.val (.ref a1), .val (.int q), .val (.int (0 : Int32)), .val (.ref a1), .unset, .unset, .unset]) rfl k) ?_
  show Go p e below _ (s₁.setTop (mkF m 4 #[.val (.ref a1), .val (.int q), .val (.int (0 : Int32)), .val (.ref a1), .unset, .unset, .unset] []))
  refine Go.on (fun t k => XS.aloadN X0.here hx rfl (hb hby d1_4) rfl rfl k) ?_
  show Go p e below _ (s₁.setTop (mkF m 5 #[.val (.ref a1), .val (.int q), .val (.int (0 : Int32)), .val (.ref a1), .unset, .unset, .unset] [(.ref a1)]))
  refine Go.len X0 hx hZ e0 F0 (N := Int32.ofNat N) rfl (hb hby d1_5) ?_
  show Go p e below _ (s₁.setTop (mkF m 6 #[.val (.ref a1), .val (.int q), .val (.int (0 : Int32)), .val (.ref a1), .unset, .unset, .unset] [(.int (Int32.ofNat N))]))
  refine Go.on (fun t k => XS.istore X0.here hx rfl (hb hby d1_6) rfl (l' := #[.val (.ref a1), .val (.int q), .val (.int (0 : Int32)), .val (.ref a1), .val (.int (Int32.ofNat N)), .unset, .unset]) rfl k) ?_
  show Go p e below _ (s₁.setTop (mkF m 8 #[.val (.ref a1), .val (.int q), .val (.int (0 : Int32)), .val (.ref a1), .val (.int (Int32.ofNat N)), .unset, .unset] []))
  refine Go.on (fun t k => XS.iconst X0.here hx rfl (hb hby d1_8) k) ?_
  show Go p e below _ (s₁.setTop (mkF m 9 #[.val (.ref a1), .val (.int q), .val (.int (0 : Int32)), .val (.ref a1), .val (.int (Int32.ofNat N)), .unset, .unset] [(.int (0 : Int32))]))
  refine Go.on (fun t k => XS.istore X0.here hx rfl (hb hby d1_9) rfl (l' := #[.val (.ref a1), .val (.int q), .val (.int (0 : Int32)), .val (.ref a1), .val (.int (Int32.ofNat N)), .val (.int (0 : Int32)), .unset]) rfl k) ?_
  show Go p e below _ (s₁.setTop (mkF m 11 #[.val (.ref a1), .val (.int q), .val (.int (0 : Int32)), .val (.ref a1), .val (.int (Int32.ofNat N)), .val (.int (0 : Int32)), .unset] []))
  refine loop1 (q := q) X0 hx hZ e0 hby hN F0 ?_ N 0 _ (by omega) (Or.inl rfl)
  intro s6 hs6
  show Go p e below _ (s₁.setTop (mkF m 39 #[.val (.ref a1), .val (.int q), .val (.int (Int32.ofNat (cnt N f q N))), .val (.ref a1), .val (.int (Int32.ofNat N)), .val (.int (Int32.ofNat N)), s6] []))
  refine Go.on (fun t k => XS.iloadN X0.here hx rfl (hb hby d1_39) rfl k) ?_
  show Go p e below _ (s₁.setTop (mkF m 40 #[.val (.ref a1), .val (.int q), .val (.int (Int32.ofNat (cnt N f q N))), .val (.ref a1), .val (.int (Int32.ofNat N)), .val (.int (Int32.ofNat N)), s6] [(.int (Int32.ofNat (cnt N f q N)))]))
  have hcx := ix (own_ofNat (S := cnt N f q N) (by have := cnt_le (N := N) (f := f) (q := q) N; omega))
  obtain ⟨T11, h11, cA11, X11, e11, E11, A11, st11⟩ := newP X0 hx hZ (aty := .int) (hw _ (List.mem_of_getElem? (i := 5) rfl)) e0 (g := (mkF m 40 #[.val (.ref a1), .val (.int q), .val (.int (Int32.ofNat (cnt N f q N))), .val (.ref a1), .val (.int (Int32.ofNat N)), .val (.int (Int32.ofNat N)), s6] [(.int (Int32.ofNat (cnt N f q N)))])) rfl (hb hby d1_40) (n := (Int32.ofNat (cnt N f q N))) rfl hcx.1 (cap := 4) (by rw [hcx.2]; have := cnt_le (N := N) (f := f) (q := q) N; omega) (by decide) (by decide) (by decide)
  obtain ⟨a11, g11⟩ : ∃ z, z = h0.size := ⟨_, rfl⟩
  rw [← g11] at A11 st11
  have Z11 : n0 ≤ h11.size := Nat.le_trans Z0 E11.1
  have G11 : n0 ≤ a11 := Nat.le_trans Z0 (Nat.le_of_eq g11.symm)
  have F11 : BA Z h11 a11 .int ((Int32.ofNat (cnt N f q N))).toNatClampNeg (fun _ => defaultValue .int) := BA.new A11 rfl
  refine Go.on st11 ?_
  show Go p e below _ (T11.setTop (mkF m 42 #[.val (.ref a1), .val (.int q), .val (.int (Int32.ofNat (cnt N f q N))), .val (.ref a1), .val (.int (Int32.ofNat N)), .val (.int (Int32.ofNat N)), s6] [(.ref a11)]))
  have Fr11 := F11
  rw [hcx.2] at Fr11
  refine Go.on (fun t k => XS.astoreN X11.here hx rfl (hb hby d1_42) rfl rfl (l' := #[.val (.ref a1), .val (.int q), .val (.int (Int32.ofNat (cnt N f q N))), .val (.ref a11), .val (.int (Int32.ofNat N)), .val (.int (Int32.ofNat N)), s6]) rfl k) ?_
  show Go p e below _ (T11.setTop (mkF m 43 #[.val (.ref a1), .val (.int q), .val (.int (Int32.ofNat (cnt N f q N))), .val (.ref a11), .val (.int (Int32.ofNat N)), .val (.int (Int32.ofNat N)), s6] []))
  refine Go.on (fun t k => XS.iconst X11.here hx rfl (hb hby d1_43) k) ?_
  show Go p e below _ (T11.setTop (mkF m 44 #[.val (.ref a1), .val (.int q), .val (.int (Int32.ofNat (cnt N f q N))), .val (.ref a11), .val (.int (Int32.ofNat N)), .val (.int (Int32.ofNat N)), s6] [(.int (0 : Int32))]))
  refine Go.on (fun t k => XS.istore X11.here hx rfl (hb hby d1_44) rfl (l' := #[.val (.ref a1), .val (.int q), .val (.int (Int32.ofNat (cnt N f q N))), .val (.ref a11), .val (.int (0 : Int32)), .val (.int (Int32.ofNat N)), s6]) rfl k) ?_
  show Go p e below _ (T11.setTop (mkF m 46 #[.val (.ref a1), .val (.int q), .val (.int (Int32.ofNat (cnt N f q N))), .val (.ref a11), .val (.int (0 : Int32)), .val (.int (Int32.ofNat N)), s6] []))
  refine Go.on (fun t k => XS.iconst X11.here hx rfl (hb hby d1_46) k) ?_
  show Go p e below _ (T11.setTop (mkF m 47 #[.val (.ref a1), .val (.int q), .val (.int (Int32.ofNat (cnt N f q N))), .val (.ref a11), .val (.int (0 : Int32)), .val (.int (Int32.ofNat N)), s6] [(.int (0 : Int32))]))
  refine Go.on (fun t k => XS.istore X11.here hx rfl (hb hby d1_47) rfl (l' := #[.val (.ref a1), .val (.int q), .val (.int (Int32.ofNat (cnt N f q N))), .val (.ref a11), .val (.int (0 : Int32)), .val (.int (0 : Int32)), s6]) rfl k) ?_
  show Go p e below _ (T11.setTop (mkF m 49 #[.val (.ref a1), .val (.int q), .val (.int (Int32.ofNat (cnt N f q N))), .val (.ref a11), .val (.int (0 : Int32)), .val (.int (0 : Int32)), s6] []))
  exact loop2 hx hZ hby hlk hret hN (Nat.ne_of_lt (Nat.lt_of_lt_of_eq F0.lt g11.symm)) G11 (Nat.le_refl _) (Nat.le_refl _) N 0 T11 h11 [] _ (by omega) X11 e11 N0 Z11 (F0.ext E11) Fr11 (fun t ht _ => by omega)
def own_lab (mode b0 b1 b2 b3 q : Int32) : Int32 := if mode = (0 : Int32) then b0 else if mode = (1 : Int32) then b1 else if mode = (2 : Int32) then b2 else if mode = (3 : Int32) then b3 else q
def own_f (b0 b1 b2 b3 : Int32) (j : Nat) : Int32 := if j = 0 then b0 else if j = 1 then b1 else if j = 2 then b2 else b3
/-- the first i places filled, the rest 0 -/
def own_g (b0 b1 b2 b3 : Int32) (i j : Nat) : Int32 := if j < i then own_f b0 b1 b2 b3 j else 0
def own_m (N : Nat) (f : Nat → Int32) (q : Int32) (i : Nat) : Int32 := if i < N ∧ f i = q then 1 else 0
def own_t (x : Int32) : Int32 := if x = (0 : Int32) then 0 else 1
theorem own_t_m (N : Nat) (f : Nat → Int32) (q : Int32) (i : Nat) : own_t (own_m N f q i) = own_m N f q i := by
  unfold own_m
  by_cases h : i < N ∧ f i = q
  · rw [if_pos h]
    decide
  · rw [if_neg h]
    decide
theorem own_m_cnt (N : Nat) (f : Nat → Int32) (q : Int32) (i : Nat) (hi : i < 900) : Int32.ofNat (cnt N f q i) + own_m N f q i = Int32.ofNat (cnt N f q (i + 1)) := by
  have hl := cnt_le (N := N) (f := f) (q := q) i
  unfold own_m
  by_cases h : i < N ∧ f i = q
  · rw [if_pos h, cnt_hit h]
    exact own_ofs (by omega)
  · rw [if_neg h, cnt_miss h]
    exact Int32.add_zero _
theorem own_narb (x : Int32) : nar .byte (x.toInt8.toInt32) = x.toInt8.toInt32 := by simp [nar]
theorem own_count (N : Nat) (hN : N ≤ 4) (f : Nat → Int32) (q : Int32) : Int32.ofNat (cnt N f q N) = ((own_t (own_m N f q 0) + own_t (own_m N f q 1)) + own_t (own_m N f q 2)) + own_t (own_m N f q 3) := by
  rw [own_t_m, own_t_m, own_t_m, own_t_m]
  have e0 : own_m N f q 0 = Int32.ofNat (cnt N f q 1) := by
    rw [← own_m_cnt N f q 0 (by decide)]
    exact (Int32.zero_add _).symm
  rw [e0, own_m_cnt N f q 1 (by decide), own_m_cnt N f q 2 (by decide), own_m_cnt N f q 3 (by decide)]
  have := cnt_past (N := N) (f := f) (q := q) (4 - N)
  have e : N + (4 - N) = 4 := by omega
  rw [e] at this
  rw [← this]
set_option maxRecDepth 65536 in
set_option maxHeartbeats 4000000 in
theorem pA {p : Program} {l : Launch} {e : Env} {R : Room} {s : State} {m : MethodId} {args : Array Value} {below : List Frame} {meth : Method} {c : Code} {T : State} {locs : List Loc} {cells slots : Nat} {P : Outcome → State → Prop} (X0 : Stand p l e R s m args below meth c T locs cells slots) (hx : p.tables.exec = Jvm.exec) (hby : c.code = code) {x0 x1 x2 len b0 b1 b2 b3 mode : Int32}
    (k : Go p e below P (T.setTop (mkF m 94 #[.val (.int x0), .val (.int x1), .val (.int x2), .val (.int len), .val (.int b0), .val (.int b1), .val (.int b2), .val (.int b3), .val (.int mode), .val (.int (own_lab mode b0 b1 b2 b3 x1)), .unset, .unset, .unset, .unset, .unset, .unset, .unset, .unset] []))) :
    Go p e below P (T.setTop (mkF m 40 #[.val (.int x0), .val (.int x1), .val (.int x2), .val (.int len), .val (.int b0), .val (.int b1), .val (.int b2), .val (.int b3), .val (.int mode), .unset, .unset, .unset, .unset, .unset, .unset, .unset, .unset, .unset] [])) := by
  refine Go.on (fun t k => XS.iload X0.here hx rfl (hb hby at_40) rfl k) ?_
  show Go p e below _ (T.setTop (mkF m 42 #[.val (.int x0), .val (.int x1), .val (.int x2), .val (.int len), .val (.int b0), .val (.int b1), .val (.int b2), .val (.int b3), .val (.int mode), .unset, .unset, .unset, .unset, .unset, .unset, .unset, .unset, .unset] [(.int mode)]))
  by_cases hc42 : mode = (0 : Int32)
  · refine Go.on (fun t k => XS.ifNo X0.here hx rfl (hb hby at_42) rfl ((if0 _ _).trans (teq hc42).2) k) ?_
    show Go p e below _ (T.setTop (mkF m 45 #[.val (.int x0), .val (.int x1), .val (.int x2), .val (.int len), .val (.int b0), .val (.int b1), .val (.int b2), .val (.int b3), .val (.int mode), .unset, .unset, .unset, .unset, .unset, .unset, .unset, .unset, .unset] []))
    refine Go.on (fun t k => XS.iload X0.here hx rfl (hb hby at_45) rfl k) ?_
    show Go p e below _ (T.setTop (mkF m 47 #[.val (.int x0), .val (.int x1), .val (.int x2), .val (.int len), .val (.int b0), .val (.int b1), .val (.int b2), .val (.int b3), .val (.int mode), .unset, .unset, .unset, .unset, .unset, .unset, .unset, .unset, .unset] [(.int b0)]))
    refine Go.on (fun t k => XS.istore X0.here hx rfl (hb hby at_47) rfl (l' := #[.val (.int x0), .val (.int x1), .val (.int x2), .val (.int len), .val (.int b0), .val (.int b1), .val (.int b2), .val (.int b3), .val (.int mode), .val (.int b0), .unset, .unset, .unset, .unset, .unset, .unset, .unset, .unset]) rfl k) ?_
    show Go p e below _ (T.setTop (mkF m 49 #[.val (.int x0), .val (.int x1), .val (.int x2), .val (.int len), .val (.int b0), .val (.int b1), .val (.int b2), .val (.int b3), .val (.int mode), .val (.int b0), .unset, .unset, .unset, .unset, .unset, .unset, .unset, .unset] []))
    refine Go.on (fun t k => XS.goto X0.here hx rfl (pc0 := 49) (pc' := 94) rfl (hb hby at_49) (by decide) (by decide) k) ?_
    show Go p e below _ (T.setTop (mkF m 94 #[.val (.int x0), .val (.int x1), .val (.int x2), .val (.int len), .val (.int b0), .val (.int b1), .val (.int b2), .val (.int b3), .val (.int mode), .val (.int b0), .unset, .unset, .unset, .unset, .unset, .unset, .unset, .unset] []))
    have ee : own_lab mode b0 b1 b2 b3 x1 = b0 := by unfold own_lab; rw [if_pos hc42]
    rw [ee] at k
    exact k
  · refine Go.on (fun t k => XS.ifYes X0.here hx rfl (pc0 := 42) (pc' := 52) rfl (hb hby at_42) rfl ((if0 _ _).trans (feq hc42).2) (by decide) (by decide) k) ?_
    show Go p e below _ (T.setTop (mkF m 52 #[.val (.int x0), .val (.int x1), .val (.int x2), .val (.int len), .val (.int b0), .val (.int b1), .val (.int b2), .val (.int b3), .val (.int mode), .unset, .unset, .unset, .unset, .unset, .unset, .unset, .unset, .unset] []))
    refine Go.on (fun t k => XS.iload X0.here hx rfl (hb hby at_52) rfl k) ?_
    show Go p e below _ (T.setTop (mkF m 54 #[.val (.int x0), .val (.int x1), .val (.int x2), .val (.int len), .val (.int b0), .val (.int b1), .val (.int b2), .val (.int b3), .val (.int mode), .unset, .unset, .unset, .unset, .unset, .unset, .unset, .unset, .unset] [(.int mode)]))
    refine Go.on (fun t k => XS.iconst X0.here hx rfl (hb hby at_54) k) ?_
    show Go p e below _ (T.setTop (mkF m 55 #[.val (.int x0), .val (.int x1), .val (.int x2), .val (.int len), .val (.int b0), .val (.int b1), .val (.int b2), .val (.int b3), .val (.int mode), .unset, .unset, .unset, .unset, .unset, .unset, .unset, .unset, .unset] [(.int (1 : Int32)), (.int mode)]))
    by_cases hc55 : mode = (1 : Int32)
    · refine Go.on (fun t k => XS.icmpNo X0.here hx rfl (hb hby at_55) rfl (teq hc55).2 k) ?_
      show Go p e below _ (T.setTop (mkF m 58 #[.val (.int x0), .val (.int x1), .val (.int x2), .val (.int len), .val (.int b0), .val (.int b1), .val (.int b2), .val (.int b3), .val (.int mode), .unset, .unset, .unset, .unset, .unset, .unset, .unset, .unset, .unset] []))
      refine Go.on (fun t k => XS.iload X0.here hx rfl (hb hby at_58) rfl k) ?_
      show Go p e below _ (T.setTop (mkF m 60 #[.val (.int x0), .val (.int x1), .val (.int x2), .val (.int len), .val (.int b0), .val (.int b1), .val (.int b2), .val (.int b3), .val (.int mode), .unset, .unset, .unset, .unset, .unset, .unset, .unset, .unset, .unset] [(.int b1)]))
      refine Go.on (fun t k => XS.istore X0.here hx rfl (hb hby at_60) rfl (l' := #[.val (.int x0), .val (.int x1), .val (.int x2), .val (.int len), .val (.int b0), .val (.int b1), .val (.int b2), .val (.int b3), .val (.int mode), .val (.int b1), .unset, .unset, .unset, .unset, .unset, .unset, .unset, .unset]) rfl k) ?_
      show Go p e below _ (T.setTop (mkF m 62 #[.val (.int x0), .val (.int x1), .val (.int x2), .val (.int len), .val (.int b0), .val (.int b1), .val (.int b2), .val (.int b3), .val (.int mode), .val (.int b1), .unset, .unset, .unset, .unset, .unset, .unset, .unset, .unset] []))
      refine Go.on (fun t k => XS.goto X0.here hx rfl (pc0 := 62) (pc' := 94) rfl (hb hby at_62) (by decide) (by decide) k) ?_
      show Go p e below _ (T.setTop (mkF m 94 #[.val (.int x0), .val (.int x1), .val (.int x2), .val (.int len), .val (.int b0), .val (.int b1), .val (.int b2), .val (.int b3), .val (.int mode), .val (.int b1), .unset, .unset, .unset, .unset, .unset, .unset, .unset, .unset] []))
      have ee : own_lab mode b0 b1 b2 b3 x1 = b1 := by unfold own_lab; rw [if_neg hc42, if_pos hc55]
      rw [ee] at k
      exact k
    · refine Go.on (fun t k => XS.icmpYes X0.here hx rfl (pc0 := 55) (pc' := 65) rfl (hb hby at_55) rfl (feq hc55).2 (by decide) (by decide) k) ?_
      show Go p e below _ (T.setTop (mkF m 65 #[.val (.int x0), .val (.int x1), .val (.int x2), .val (.int len), .val (.int b0), .val (.int b1), .val (.int b2), .val (.int b3), .val (.int mode), .unset, .unset, .unset, .unset, .unset, .unset, .unset, .unset, .unset] []))
      refine Go.on (fun t k => XS.iload X0.here hx rfl (hb hby at_65) rfl k) ?_
      show Go p e below _ (T.setTop (mkF m 67 #[.val (.int x0), .val (.int x1), .val (.int x2), .val (.int len), .val (.int b0), .val (.int b1), .val (.int b2), .val (.int b3), .val (.int mode), .unset, .unset, .unset, .unset, .unset, .unset, .unset, .unset, .unset] [(.int mode)]))
      refine Go.on (fun t k => XS.iconst X0.here hx rfl (hb hby at_67) k) ?_
      show Go p e below _ (T.setTop (mkF m 68 #[.val (.int x0), .val (.int x1), .val (.int x2), .val (.int len), .val (.int b0), .val (.int b1), .val (.int b2), .val (.int b3), .val (.int mode), .unset, .unset, .unset, .unset, .unset, .unset, .unset, .unset, .unset] [(.int (2 : Int32)), (.int mode)]))
      by_cases hc68 : mode = (2 : Int32)
      · refine Go.on (fun t k => XS.icmpNo X0.here hx rfl (hb hby at_68) rfl (teq hc68).2 k) ?_
        show Go p e below _ (T.setTop (mkF m 71 #[.val (.int x0), .val (.int x1), .val (.int x2), .val (.int len), .val (.int b0), .val (.int b1), .val (.int b2), .val (.int b3), .val (.int mode), .unset, .unset, .unset, .unset, .unset, .unset, .unset, .unset, .unset] []))
        refine Go.on (fun t k => XS.iload X0.here hx rfl (hb hby at_71) rfl k) ?_
        show Go p e below _ (T.setTop (mkF m 73 #[.val (.int x0), .val (.int x1), .val (.int x2), .val (.int len), .val (.int b0), .val (.int b1), .val (.int b2), .val (.int b3), .val (.int mode), .unset, .unset, .unset, .unset, .unset, .unset, .unset, .unset, .unset] [(.int b2)]))
        refine Go.on (fun t k => XS.istore X0.here hx rfl (hb hby at_73) rfl (l' := #[.val (.int x0), .val (.int x1), .val (.int x2), .val (.int len), .val (.int b0), .val (.int b1), .val (.int b2), .val (.int b3), .val (.int mode), .val (.int b2), .unset, .unset, .unset, .unset, .unset, .unset, .unset, .unset]) rfl k) ?_
        show Go p e below _ (T.setTop (mkF m 75 #[.val (.int x0), .val (.int x1), .val (.int x2), .val (.int len), .val (.int b0), .val (.int b1), .val (.int b2), .val (.int b3), .val (.int mode), .val (.int b2), .unset, .unset, .unset, .unset, .unset, .unset, .unset, .unset] []))
        refine Go.on (fun t k => XS.goto X0.here hx rfl (pc0 := 75) (pc' := 94) rfl (hb hby at_75) (by decide) (by decide) k) ?_
        show Go p e below _ (T.setTop (mkF m 94 #[.val (.int x0), .val (.int x1), .val (.int x2), .val (.int len), .val (.int b0), .val (.int b1), .val (.int b2), .val (.int b3), .val (.int mode), .val (.int b2), .unset, .unset, .unset, .unset, .unset, .unset, .unset, .unset] []))
        have ee : own_lab mode b0 b1 b2 b3 x1 = b2 := by unfold own_lab; rw [if_neg hc42, if_neg hc55, if_pos hc68]
        rw [ee] at k
        exact k
      · refine Go.on (fun t k => XS.icmpYes X0.here hx rfl (pc0 := 68) (pc' := 78) rfl (hb hby at_68) rfl (feq hc68).2 (by decide) (by decide) k) ?_
        show Go p e below _ (T.setTop (mkF m 78 #[.val (.int x0), .val (.int x1), .val (.int x2), .val (.int len), .val (.int b0), .val (.int b1), .val (.int b2), .val (.int b3), .val (.int mode), .unset, .unset, .unset, .unset, .unset, .unset, .unset, .unset, .unset] []))
        refine Go.on (fun t k => XS.iload X0.here hx rfl (hb hby at_78) rfl k) ?_
        show Go p e below _ (T.setTop (mkF m 80 #[.val (.int x0), .val (.int x1), .val (.int x2), .val (.int len), .val (.int b0), .val (.int b1), .val (.int b2), .val (.int b3), .val (.int mode), .unset, .unset, .unset, .unset, .unset, .unset, .unset, .unset, .unset] [(.int mode)]))
        refine Go.on (fun t k => XS.iconst X0.here hx rfl (hb hby at_80) k) ?_
        show Go p e below _ (T.setTop (mkF m 81 #[.val (.int x0), .val (.int x1), .val (.int x2), .val (.int len), .val (.int b0), .val (.int b1), .val (.int b2), .val (.int b3), .val (.int mode), .unset, .unset, .unset, .unset, .unset, .unset, .unset, .unset, .unset] [(.int (3 : Int32)), (.int mode)]))
        by_cases hc81 : mode = (3 : Int32)
        · refine Go.on (fun t k => XS.icmpNo X0.here hx rfl (hb hby at_81) rfl (teq hc81).2 k) ?_
          show Go p e below _ (T.setTop (mkF m 84 #[.val (.int x0), .val (.int x1), .val (.int x2), .val (.int len), .val (.int b0), .val (.int b1), .val (.int b2), .val (.int b3), .val (.int mode), .unset, .unset, .unset, .unset, .unset, .unset, .unset, .unset, .unset] []))
          refine Go.on (fun t k => XS.iload X0.here hx rfl (hb hby at_84) rfl k) ?_
          show Go p e below _ (T.setTop (mkF m 86 #[.val (.int x0), .val (.int x1), .val (.int x2), .val (.int len), .val (.int b0), .val (.int b1), .val (.int b2), .val (.int b3), .val (.int mode), .unset, .unset, .unset, .unset, .unset, .unset, .unset, .unset, .unset] [(.int b3)]))
          refine Go.on (fun t k => XS.istore X0.here hx rfl (hb hby at_86) rfl (l' := #[.val (.int x0), .val (.int x1), .val (.int x2), .val (.int len), .val (.int b0), .val (.int b1), .val (.int b2), .val (.int b3), .val (.int mode), .val (.int b3), .unset, .unset, .unset, .unset, .unset, .unset, .unset, .unset]) rfl k) ?_
          show Go p e below _ (T.setTop (mkF m 88 #[.val (.int x0), .val (.int x1), .val (.int x2), .val (.int len), .val (.int b0), .val (.int b1), .val (.int b2), .val (.int b3), .val (.int mode), .val (.int b3), .unset, .unset, .unset, .unset, .unset, .unset, .unset, .unset] []))
          refine Go.on (fun t k => XS.goto X0.here hx rfl (pc0 := 88) (pc' := 94) rfl (hb hby at_88) (by decide) (by decide) k) ?_
          show Go p e below _ (T.setTop (mkF m 94 #[.val (.int x0), .val (.int x1), .val (.int x2), .val (.int len), .val (.int b0), .val (.int b1), .val (.int b2), .val (.int b3), .val (.int mode), .val (.int b3), .unset, .unset, .unset, .unset, .unset, .unset, .unset, .unset] []))
          have ee : own_lab mode b0 b1 b2 b3 x1 = b3 := by unfold own_lab; rw [if_neg hc42, if_neg hc55, if_neg hc68, if_pos hc81]
          rw [ee] at k
          exact k
        · refine Go.on (fun t k => XS.icmpYes X0.here hx rfl (pc0 := 81) (pc' := 91) rfl (hb hby at_81) rfl (feq hc81).2 (by decide) (by decide) k) ?_
          show Go p e below _ (T.setTop (mkF m 91 #[.val (.int x0), .val (.int x1), .val (.int x2), .val (.int len), .val (.int b0), .val (.int b1), .val (.int b2), .val (.int b3), .val (.int mode), .unset, .unset, .unset, .unset, .unset, .unset, .unset, .unset, .unset] []))
          refine Go.on (fun t k => XS.iloadN X0.here hx rfl (hb hby at_91) rfl k) ?_
          show Go p e below _ (T.setTop (mkF m 92 #[.val (.int x0), .val (.int x1), .val (.int x2), .val (.int len), .val (.int b0), .val (.int b1), .val (.int b2), .val (.int b3), .val (.int mode), .unset, .unset, .unset, .unset, .unset, .unset, .unset, .unset, .unset] [(.int x1)]))
          refine Go.on (fun t k => XS.istore X0.here hx rfl (hb hby at_92) rfl (l' := #[.val (.int x0), .val (.int x1), .val (.int x2), .val (.int len), .val (.int b0), .val (.int b1), .val (.int b2), .val (.int b3), .val (.int mode), .val (.int x1), .unset, .unset, .unset, .unset, .unset, .unset, .unset, .unset]) rfl k) ?_
          show Go p e below _ (T.setTop (mkF m 94 #[.val (.int x0), .val (.int x1), .val (.int x2), .val (.int len), .val (.int b0), .val (.int b1), .val (.int b2), .val (.int b3), .val (.int mode), .val (.int x1), .unset, .unset, .unset, .unset, .unset, .unset, .unset, .unset] []))
          have ee : own_lab mode b0 b1 b2 b3 x1 = x1 := by unfold own_lab; rw [if_neg hc42, if_neg hc55, if_neg hc68, if_neg hc81]
          rw [ee] at k
          exact k
set_option maxRecDepth 65536 in
set_option maxHeartbeats 4000000 in
theorem pS0 {p : Program} {l : Launch} {e : Env} {R : Room} {s : State} {m : MethodId} {args : Array Value} {below : List Frame} {meth : Method} {c : Code} {T : State} {locs : List Loc} {cells slots : Nat} {P : Outcome → State → Prop} (X0 : Stand p l e R s m args below meth c T locs cells slots) (hx : p.tables.exec = Jvm.exec) (hby : c.code = code) {x0 x1 x2 len b0 b1 b2 b3 mode lab : Int32} {a : Addr} {Z : State} {h : Heap} {n0 N : Nat} (hZ : Z.Warmed39 s.vm) (e0 : T.heap = h) (N0 : Fr n0 locs) (Z0 : n0 ≤ h.size) (ga : n0 ≤ a) (hL : len.toInt = (N : Int)) (hbb : nar .byte b0 = b0) (F0 : BA Z h a .byte N (fun j => .int (own_g b0 b1 b2 b3 0 j)))
    (k : ∀ (T' : State) (h' : Heap) (locs' : List Loc), Stand p l e R s m args below meth c T' locs' cells slots → T'.heap = h' → Fr n0 locs' → n0 ≤ h'.size → BA Z h' a .byte N (fun j => .int (own_g b0 b1 b2 b3 1 j)) → Go p e below P (T'.setTop (mkF m 109 #[.val (.int x0), .val (.int x1), .val (.int x2), .val (.int len), .val (.int b0), .val (.int b1), .val (.int b2), .val (.int b3), .val (.int mode), .val (.int lab), .val (.ref a), .unset, .unset, .unset, .unset, .unset, .unset, .unset] []))) :
    Go p e below P (T.setTop (mkF m 99 #[.val (.int x0), .val (.int x1), .val (.int x2), .val (.int len), .val (.int b0), .val (.int b1), .val (.int b2), .val (.int b3), .val (.int mode), .val (.int lab), .val (.ref a), .unset, .unset, .unset, .unset, .unset, .unset, .unset] [])) := by
  refine Go.on (fun t k => XS.iloadN X0.here hx rfl (hb hby at_99) rfl k) ?_
  show Go p e below _ (T.setTop (mkF m 100 #[.val (.int x0), .val (.int x1), .val (.int x2), .val (.int len), .val (.int b0), .val (.int b1), .val (.int b2), .val (.int b3), .val (.int mode), .val (.int lab), .val (.ref a), .unset, .unset, .unset, .unset, .unset, .unset, .unset] [(.int len)]))
  by_cases hc100 : (0 : Int32) < len
  · refine Go.on (fun t k => XS.ifNo X0.here hx rfl (hb hby at_100) rfl ((if0 _ _).trans (tlt hc100).2.2.2) k) ?_
    show Go p e below _ (T.setTop (mkF m 103 #[.val (.int x0), .val (.int x1), .val (.int x2), .val (.int len), .val (.int b0), .val (.int b1), .val (.int b2), .val (.int b3), .val (.int mode), .val (.int lab), .val (.ref a), .unset, .unset, .unset, .unset, .unset, .unset, .unset] []))
    refine Go.on (fun t k => XS.aload X0.here hx rfl (hb hby at_103) rfl rfl k) ?_
    show Go p e below _ (T.setTop (mkF m 105 #[.val (.int x0), .val (.int x1), .val (.int x2), .val (.int len), .val (.int b0), .val (.int b1), .val (.int b2), .val (.int b3), .val (.int mode), .val (.int lab), .val (.ref a), .unset, .unset, .unset, .unset, .unset, .unset, .unset] [(.ref a)]))
    refine Go.on (fun t k => XS.iconst X0.here hx rfl (hb hby at_105) k) ?_
    show Go p e below _ (T.setTop (mkF m 106 #[.val (.int x0), .val (.int x1), .val (.int x2), .val (.int len), .val (.int b0), .val (.int b1), .val (.int b2), .val (.int b3), .val (.int mode), .val (.int lab), .val (.ref a), .unset, .unset, .unset, .unset, .unset, .unset, .unset] [(.int (0 : Int32)), (.ref a)]))
    refine Go.on (fun t k => XS.iload X0.here hx rfl (hb hby at_106) rfl k) ?_
    show Go p e below _ (T.setTop (mkF m 108 #[.val (.int x0), .val (.int x1), .val (.int x2), .val (.int len), .val (.int b0), .val (.int b1), .val (.int b2), .val (.int b3), .val (.int mode), .val (.int lab), .val (.ref a), .unset, .unset, .unset, .unset, .unset, .unset, .unset] [(.int b0), (.int (0 : Int32)), (.ref a)]))
    have zi : (0 : Int32).toInt = 0 := by decide
    refine Go.stB X0 hx hZ e0 F0 (i := 0) (by decide) (by decide) (by have := Int32.lt_iff_toInt_lt.mp hc100; omega) (hb hby at_108) ?_
    intro T1 h1 X1 e1 W1 F1
    have N1 := Fr.snoc X1 N0 ga
    show Go p e below _ (T1.setTop (mkF m 109 #[.val (.int x0), .val (.int x1), .val (.int x2), .val (.int len), .val (.int b0), .val (.int b1), .val (.int b2), .val (.int b3), .val (.int mode), .val (.int lab), .val (.ref a), .unset, .unset, .unset, .unset, .unset, .unset, .unset] []))
    refine k T1 h1 _ X1 e1 N1 (by rw [W1.size]; exact Z0) (F1.fn (fun j hj => ?_))
    unfold upd own_g
    rw [hbb]
    by_cases u : j = 0
    · rw [if_pos u, if_pos (by omega), u]
      rfl
    · rw [if_neg u]
      show Value.int (if j < 0 then own_f b0 b1 b2 b3 j else 0) = Value.int (if j < 1 then own_f b0 b1 b2 b3 j else 0)
      by_cases u2 : j < 0
      · rw [if_pos u2, if_pos (by omega)]
      · rw [if_neg u2, if_neg (by omega)]
  · refine Go.on (fun t k => XS.ifYes X0.here hx rfl (pc0 := 100) (pc' := 109) rfl (hb hby at_100) rfl ((if0 _ _).trans (flt hc100).2.2.2) (by decide) (by decide) k) ?_
    show Go p e below _ (T.setTop (mkF m 109 #[.val (.int x0), .val (.int x1), .val (.int x2), .val (.int len), .val (.int b0), .val (.int b1), .val (.int b2), .val (.int b3), .val (.int mode), .val (.int lab), .val (.ref a), .unset, .unset, .unset, .unset, .unset, .unset, .unset] []))
    have zi : (0 : Int32).toInt = 0 := by decide
    have hlen : ¬ (0 : Int) < N := fun u => hc100 (Int32.lt_iff_toInt_lt.mpr (by omega))
    refine k T h _ X0 e0 N0 Z0 (F0.fn (fun j hj => ?_))
    unfold own_g
    by_cases u2 : j < 0
    · rw [if_pos u2, if_pos (by omega)]
    · rw [if_neg u2, if_neg (by omega)]
set_option maxRecDepth 65536 in
set_option maxHeartbeats 4000000 in
theorem pS1 {p : Program} {l : Launch} {e : Env} {R : Room} {s : State} {m : MethodId} {args : Array Value} {below : List Frame} {meth : Method} {c : Code} {T : State} {locs : List Loc} {cells slots : Nat} {P : Outcome → State → Prop} (X0 : Stand p l e R s m args below meth c T locs cells slots) (hx : p.tables.exec = Jvm.exec) (hby : c.code = code) {x0 x1 x2 len b0 b1 b2 b3 mode lab : Int32} {a : Addr} {Z : State} {h : Heap} {n0 N : Nat} (hZ : Z.Warmed39 s.vm) (e0 : T.heap = h) (N0 : Fr n0 locs) (Z0 : n0 ≤ h.size) (ga : n0 ≤ a) (hL : len.toInt = (N : Int)) (hbb : nar .byte b1 = b1) (F0 : BA Z h a .byte N (fun j => .int (own_g b0 b1 b2 b3 1 j)))
    (k : ∀ (T' : State) (h' : Heap) (locs' : List Loc), Stand p l e R s m args below meth c T' locs' cells slots → T'.heap = h' → Fr n0 locs' → n0 ≤ h'.size → BA Z h' a .byte N (fun j => .int (own_g b0 b1 b2 b3 2 j)) → Go p e below P (T'.setTop (mkF m 120 #[.val (.int x0), .val (.int x1), .val (.int x2), .val (.int len), .val (.int b0), .val (.int b1), .val (.int b2), .val (.int b3), .val (.int mode), .val (.int lab), .val (.ref a), .unset, .unset, .unset, .unset, .unset, .unset, .unset] []))) :
    Go p e below P (T.setTop (mkF m 109 #[.val (.int x0), .val (.int x1), .val (.int x2), .val (.int len), .val (.int b0), .val (.int b1), .val (.int b2), .val (.int b3), .val (.int mode), .val (.int lab), .val (.ref a), .unset, .unset, .unset, .unset, .unset, .unset, .unset] [])) := by
  refine Go.on (fun t k => XS.iloadN X0.here hx rfl (hb hby at_109) rfl k) ?_
  show Go p e below _ (T.setTop (mkF m 110 #[.val (.int x0), .val (.int x1), .val (.int x2), .val (.int len), .val (.int b0), .val (.int b1), .val (.int b2), .val (.int b3), .val (.int mode), .val (.int lab), .val (.ref a), .unset, .unset, .unset, .unset, .unset, .unset, .unset] [(.int len)]))
  refine Go.on (fun t k => XS.iconst X0.here hx rfl (hb hby at_110) k) ?_
  show Go p e below _ (T.setTop (mkF m 111 #[.val (.int x0), .val (.int x1), .val (.int x2), .val (.int len), .val (.int b0), .val (.int b1), .val (.int b2), .val (.int b3), .val (.int mode), .val (.int lab), .val (.ref a), .unset, .unset, .unset, .unset, .unset, .unset, .unset] [(.int (1 : Int32)), (.int len)]))
  by_cases hc111 : (1 : Int32) < len
  · refine Go.on (fun t k => XS.icmpNo X0.here hx rfl (hb hby at_111) rfl (tlt hc111).2.2.2 k) ?_
    show Go p e below _ (T.setTop (mkF m 114 #[.val (.int x0), .val (.int x1), .val (.int x2), .val (.int len), .val (.int b0), .val (.int b1), .val (.int b2), .val (.int b3), .val (.int mode), .val (.int lab), .val (.ref a), .unset, .unset, .unset, .unset, .unset, .unset, .unset] []))
    refine Go.on (fun t k => XS.aload X0.here hx rfl (hb hby at_114) rfl rfl k) ?_
    show Go p e below _ (T.setTop (mkF m 116 #[.val (.int x0), .val (.int x1), .val (.int x2), .val (.int len), .val (.int b0), .val (.int b1), .val (.int b2), .val (.int b3), .val (.int mode), .val (.int lab), .val (.ref a), .unset, .unset, .unset, .unset, .unset, .unset, .unset] [(.ref a)]))
    refine Go.on (fun t k => XS.iconst X0.here hx rfl (hb hby at_116) k) ?_
    show Go p e below _ (T.setTop (mkF m 117 #[.val (.int x0), .val (.int x1), .val (.int x2), .val (.int len), .val (.int b0), .val (.int b1), .val (.int b2), .val (.int b3), .val (.int mode), .val (.int lab), .val (.ref a), .unset, .unset, .unset, .unset, .unset, .unset, .unset] [(.int (1 : Int32)), (.ref a)]))
    refine Go.on (fun t k => XS.iload X0.here hx rfl (hb hby at_117) rfl k) ?_
    show Go p e below _ (T.setTop (mkF m 119 #[.val (.int x0), .val (.int x1), .val (.int x2), .val (.int len), .val (.int b0), .val (.int b1), .val (.int b2), .val (.int b3), .val (.int mode), .val (.int lab), .val (.ref a), .unset, .unset, .unset, .unset, .unset, .unset, .unset] [(.int b1), (.int (1 : Int32)), (.ref a)]))
    have zi : (1 : Int32).toInt = 1 := by decide
    refine Go.stB X0 hx hZ e0 F0 (i := 1) (by decide) (by decide) (by have := Int32.lt_iff_toInt_lt.mp hc111; omega) (hb hby at_119) ?_
    intro T1 h1 X1 e1 W1 F1
    have N1 := Fr.snoc X1 N0 ga
    show Go p e below _ (T1.setTop (mkF m 120 #[.val (.int x0), .val (.int x1), .val (.int x2), .val (.int len), .val (.int b0), .val (.int b1), .val (.int b2), .val (.int b3), .val (.int mode), .val (.int lab), .val (.ref a), .unset, .unset, .unset, .unset, .unset, .unset, .unset] []))
    refine k T1 h1 _ X1 e1 N1 (by rw [W1.size]; exact Z0) (F1.fn (fun j hj => ?_))
    unfold upd own_g
    rw [hbb]
    by_cases u : j = 1
    · rw [if_pos u, if_pos (by omega), u]
      rfl
    · rw [if_neg u]
      show Value.int (if j < 1 then own_f b0 b1 b2 b3 j else 0) = Value.int (if j < 2 then own_f b0 b1 b2 b3 j else 0)
      by_cases u2 : j < 1
      · rw [if_pos u2, if_pos (by omega)]
      · rw [if_neg u2, if_neg (by omega)]
  · refine Go.on (fun t k => XS.icmpYes X0.here hx rfl (pc0 := 111) (pc' := 120) rfl (hb hby at_111) rfl (flt hc111).2.2.2 (by decide) (by decide) k) ?_
    show Go p e below _ (T.setTop (mkF m 120 #[.val (.int x0), .val (.int x1), .val (.int x2), .val (.int len), .val (.int b0), .val (.int b1), .val (.int b2), .val (.int b3), .val (.int mode), .val (.int lab), .val (.ref a), .unset, .unset, .unset, .unset, .unset, .unset, .unset] []))
    have zi : (1 : Int32).toInt = 1 := by decide
    have hlen : ¬ (1 : Int) < N := fun u => hc111 (Int32.lt_iff_toInt_lt.mpr (by omega))
    refine k T h _ X0 e0 N0 Z0 (F0.fn (fun j hj => ?_))
    unfold own_g
    by_cases u2 : j < 1
    · rw [if_pos u2, if_pos (by omega)]
    · rw [if_neg u2, if_neg (by omega)]
set_option maxRecDepth 65536 in
set_option maxHeartbeats 4000000 in
theorem pS2 {p : Program} {l : Launch} {e : Env} {R : Room} {s : State} {m : MethodId} {args : Array Value} {below : List Frame} {meth : Method} {c : Code} {T : State} {locs : List Loc} {cells slots : Nat} {P : Outcome → State → Prop} (X0 : Stand p l e R s m args below meth c T locs cells slots) (hx : p.tables.exec = Jvm.exec) (hby : c.code = code) {x0 x1 x2 len b0 b1 b2 b3 mode lab : Int32} {a : Addr} {Z : State} {h : Heap} {n0 N : Nat} (hZ : Z.Warmed39 s.vm) (e0 : T.heap = h) (N0 : Fr n0 locs) (Z0 : n0 ≤ h.size) (ga : n0 ≤ a) (hL : len.toInt = (N : Int)) (hbb : nar .byte b2 = b2) (F0 : BA Z h a .byte N (fun j => .int (own_g b0 b1 b2 b3 2 j)))
    (k : ∀ (T' : State) (h' : Heap) (locs' : List Loc), Stand p l e R s m args below meth c T' locs' cells slots → T'.heap = h' → Fr n0 locs' → n0 ≤ h'.size → BA Z h' a .byte N (fun j => .int (own_g b0 b1 b2 b3 3 j)) → Go p e below P (T'.setTop (mkF m 131 #[.val (.int x0), .val (.int x1), .val (.int x2), .val (.int len), .val (.int b0), .val (.int b1), .val (.int b2), .val (.int b3), .val (.int mode), .val (.int lab), .val (.ref a), .unset, .unset, .unset, .unset, .unset, .unset, .unset] []))) :
    Go p e below P (T.setTop (mkF m 120 #[.val (.int x0), .val (.int x1), .val (.int x2), .val (.int len), .val (.int b0), .val (.int b1), .val (.int b2), .val (.int b3), .val (.int mode), .val (.int lab), .val (.ref a), .unset, .unset, .unset, .unset, .unset, .unset, .unset] [])) := by
  refine Go.on (fun t k => XS.iloadN X0.here hx rfl (hb hby at_120) rfl k) ?_
  show Go p e below _ (T.setTop (mkF m 121 #[.val (.int x0), .val (.int x1), .val (.int x2), .val (.int len), .val (.int b0), .val (.int b1), .val (.int b2), .val (.int b3), .val (.int mode), .val (.int lab), .val (.ref a), .unset, .unset, .unset, .unset, .unset, .unset, .unset] [(.int len)]))
  refine Go.on (fun t k => XS.iconst X0.here hx rfl (hb hby at_121) k) ?_
  show Go p e below _ (T.setTop (mkF m 122 #[.val (.int x0), .val (.int x1), .val (.int x2), .val (.int len), .val (.int b0), .val (.int b1), .val (.int b2), .val (.int b3), .val (.int mode), .val (.int lab), .val (.ref a), .unset, .unset, .unset, .unset, .unset, .unset, .unset] [(.int (2 : Int32)), (.int len)]))
  by_cases hc122 : (2 : Int32) < len
  · refine Go.on (fun t k => XS.icmpNo X0.here hx rfl (hb hby at_122) rfl (tlt hc122).2.2.2 k) ?_
    show Go p e below _ (T.setTop (mkF m 125 #[.val (.int x0), .val (.int x1), .val (.int x2), .val (.int len), .val (.int b0), .val (.int b1), .val (.int b2), .val (.int b3), .val (.int mode), .val (.int lab), .val (.ref a), .unset, .unset, .unset, .unset, .unset, .unset, .unset] []))
    refine Go.on (fun t k => XS.aload X0.here hx rfl (hb hby at_125) rfl rfl k) ?_
    show Go p e below _ (T.setTop (mkF m 127 #[.val (.int x0), .val (.int x1), .val (.int x2), .val (.int len), .val (.int b0), .val (.int b1), .val (.int b2), .val (.int b3), .val (.int mode), .val (.int lab), .val (.ref a), .unset, .unset, .unset, .unset, .unset, .unset, .unset] [(.ref a)]))
    refine Go.on (fun t k => XS.iconst X0.here hx rfl (hb hby at_127) k) ?_
    show Go p e below _ (T.setTop (mkF m 128 #[.val (.int x0), .val (.int x1), .val (.int x2), .val (.int len), .val (.int b0), .val (.int b1), .val (.int b2), .val (.int b3), .val (.int mode), .val (.int lab), .val (.ref a), .unset, .unset, .unset, .unset, .unset, .unset, .unset] [(.int (2 : Int32)), (.ref a)]))
    refine Go.on (fun t k => XS.iload X0.here hx rfl (hb hby at_128) rfl k) ?_
    show Go p e below _ (T.setTop (mkF m 130 #[.val (.int x0), .val (.int x1), .val (.int x2), .val (.int len), .val (.int b0), .val (.int b1), .val (.int b2), .val (.int b3), .val (.int mode), .val (.int lab), .val (.ref a), .unset, .unset, .unset, .unset, .unset, .unset, .unset] [(.int b2), (.int (2 : Int32)), (.ref a)]))
    have zi : (2 : Int32).toInt = 2 := by decide
    refine Go.stB X0 hx hZ e0 F0 (i := 2) (by decide) (by decide) (by have := Int32.lt_iff_toInt_lt.mp hc122; omega) (hb hby at_130) ?_
    intro T1 h1 X1 e1 W1 F1
    have N1 := Fr.snoc X1 N0 ga
    show Go p e below _ (T1.setTop (mkF m 131 #[.val (.int x0), .val (.int x1), .val (.int x2), .val (.int len), .val (.int b0), .val (.int b1), .val (.int b2), .val (.int b3), .val (.int mode), .val (.int lab), .val (.ref a), .unset, .unset, .unset, .unset, .unset, .unset, .unset] []))
    refine k T1 h1 _ X1 e1 N1 (by rw [W1.size]; exact Z0) (F1.fn (fun j hj => ?_))
    unfold upd own_g
    rw [hbb]
    by_cases u : j = 2
    · rw [if_pos u, if_pos (by omega), u]
      rfl
    · rw [if_neg u]
      show Value.int (if j < 2 then own_f b0 b1 b2 b3 j else 0) = Value.int (if j < 3 then own_f b0 b1 b2 b3 j else 0)
      by_cases u2 : j < 2
      · rw [if_pos u2, if_pos (by omega)]
      · rw [if_neg u2, if_neg (by omega)]
  · refine Go.on (fun t k => XS.icmpYes X0.here hx rfl (pc0 := 122) (pc' := 131) rfl (hb hby at_122) rfl (flt hc122).2.2.2 (by decide) (by decide) k) ?_
    show Go p e below _ (T.setTop (mkF m 131 #[.val (.int x0), .val (.int x1), .val (.int x2), .val (.int len), .val (.int b0), .val (.int b1), .val (.int b2), .val (.int b3), .val (.int mode), .val (.int lab), .val (.ref a), .unset, .unset, .unset, .unset, .unset, .unset, .unset] []))
    have zi : (2 : Int32).toInt = 2 := by decide
    have hlen : ¬ (2 : Int) < N := fun u => hc122 (Int32.lt_iff_toInt_lt.mpr (by omega))
    refine k T h _ X0 e0 N0 Z0 (F0.fn (fun j hj => ?_))
    unfold own_g
    by_cases u2 : j < 2
    · rw [if_pos u2, if_pos (by omega)]
    · rw [if_neg u2, if_neg (by omega)]
set_option maxRecDepth 65536 in
set_option maxHeartbeats 4000000 in
theorem pS3 {p : Program} {l : Launch} {e : Env} {R : Room} {s : State} {m : MethodId} {args : Array Value} {below : List Frame} {meth : Method} {c : Code} {T : State} {locs : List Loc} {cells slots : Nat} {P : Outcome → State → Prop} (X0 : Stand p l e R s m args below meth c T locs cells slots) (hx : p.tables.exec = Jvm.exec) (hby : c.code = code) {x0 x1 x2 len b0 b1 b2 b3 mode lab : Int32} {a : Addr} {Z : State} {h : Heap} {n0 N : Nat} (hZ : Z.Warmed39 s.vm) (e0 : T.heap = h) (N0 : Fr n0 locs) (Z0 : n0 ≤ h.size) (ga : n0 ≤ a) (hL : len.toInt = (N : Int)) (hbb : nar .byte b3 = b3) (F0 : BA Z h a .byte N (fun j => .int (own_g b0 b1 b2 b3 3 j)))
    (k : ∀ (T' : State) (h' : Heap) (locs' : List Loc), Stand p l e R s m args below meth c T' locs' cells slots → T'.heap = h' → Fr n0 locs' → n0 ≤ h'.size → BA Z h' a .byte N (fun j => .int (own_g b0 b1 b2 b3 4 j)) → Go p e below P (T'.setTop (mkF m 142 #[.val (.int x0), .val (.int x1), .val (.int x2), .val (.int len), .val (.int b0), .val (.int b1), .val (.int b2), .val (.int b3), .val (.int mode), .val (.int lab), .val (.ref a), .unset, .unset, .unset, .unset, .unset, .unset, .unset] []))) :
    Go p e below P (T.setTop (mkF m 131 #[.val (.int x0), .val (.int x1), .val (.int x2), .val (.int len), .val (.int b0), .val (.int b1), .val (.int b2), .val (.int b3), .val (.int mode), .val (.int lab), .val (.ref a), .unset, .unset, .unset, .unset, .unset, .unset, .unset] [])) := by
  refine Go.on (fun t k => XS.iloadN X0.here hx rfl (hb hby at_131) rfl k) ?_
  show Go p e below _ (T.setTop (mkF m 132 #[.val (.int x0), .val (.int x1), .val (.int x2), .val (.int len), .val (.int b0), .val (.int b1), .val (.int b2), .val (.int b3), .val (.int mode), .val (.int lab), .val (.ref a), .unset, .unset, .unset, .unset, .unset, .unset, .unset] [(.int len)]))
  refine Go.on (fun t k => XS.iconst X0.here hx rfl (hb hby at_132) k) ?_
  show Go p e below _ (T.setTop (mkF m 133 #[.val (.int x0), .val (.int x1), .val (.int x2), .val (.int len), .val (.int b0), .val (.int b1), .val (.int b2), .val (.int b3), .val (.int mode), .val (.int lab), .val (.ref a), .unset, .unset, .unset, .unset, .unset, .unset, .unset] [(.int (3 : Int32)), (.int len)]))
  by_cases hc133 : (3 : Int32) < len
  · refine Go.on (fun t k => XS.icmpNo X0.here hx rfl (hb hby at_133) rfl (tlt hc133).2.2.2 k) ?_
    show Go p e below _ (T.setTop (mkF m 136 #[.val (.int x0), .val (.int x1), .val (.int x2), .val (.int len), .val (.int b0), .val (.int b1), .val (.int b2), .val (.int b3), .val (.int mode), .val (.int lab), .val (.ref a), .unset, .unset, .unset, .unset, .unset, .unset, .unset] []))
    refine Go.on (fun t k => XS.aload X0.here hx rfl (hb hby at_136) rfl rfl k) ?_
    show Go p e below _ (T.setTop (mkF m 138 #[.val (.int x0), .val (.int x1), .val (.int x2), .val (.int len), .val (.int b0), .val (.int b1), .val (.int b2), .val (.int b3), .val (.int mode), .val (.int lab), .val (.ref a), .unset, .unset, .unset, .unset, .unset, .unset, .unset] [(.ref a)]))
    refine Go.on (fun t k => XS.iconst X0.here hx rfl (hb hby at_138) k) ?_
    show Go p e below _ (T.setTop (mkF m 139 #[.val (.int x0), .val (.int x1), .val (.int x2), .val (.int len), .val (.int b0), .val (.int b1), .val (.int b2), .val (.int b3), .val (.int mode), .val (.int lab), .val (.ref a), .unset, .unset, .unset, .unset, .unset, .unset, .unset] [(.int (3 : Int32)), (.ref a)]))
    refine Go.on (fun t k => XS.iload X0.here hx rfl (hb hby at_139) rfl k) ?_
    show Go p e below _ (T.setTop (mkF m 141 #[.val (.int x0), .val (.int x1), .val (.int x2), .val (.int len), .val (.int b0), .val (.int b1), .val (.int b2), .val (.int b3), .val (.int mode), .val (.int lab), .val (.ref a), .unset, .unset, .unset, .unset, .unset, .unset, .unset] [(.int b3), (.int (3 : Int32)), (.ref a)]))
    have zi : (3 : Int32).toInt = 3 := by decide
    refine Go.stB X0 hx hZ e0 F0 (i := 3) (by decide) (by decide) (by have := Int32.lt_iff_toInt_lt.mp hc133; omega) (hb hby at_141) ?_
    intro T1 h1 X1 e1 W1 F1
    have N1 := Fr.snoc X1 N0 ga
    show Go p e below _ (T1.setTop (mkF m 142 #[.val (.int x0), .val (.int x1), .val (.int x2), .val (.int len), .val (.int b0), .val (.int b1), .val (.int b2), .val (.int b3), .val (.int mode), .val (.int lab), .val (.ref a), .unset, .unset, .unset, .unset, .unset, .unset, .unset] []))
    refine k T1 h1 _ X1 e1 N1 (by rw [W1.size]; exact Z0) (F1.fn (fun j hj => ?_))
    unfold upd own_g
    rw [hbb]
    by_cases u : j = 3
    · rw [if_pos u, if_pos (by omega), u]
      rfl
    · rw [if_neg u]
      show Value.int (if j < 3 then own_f b0 b1 b2 b3 j else 0) = Value.int (if j < 4 then own_f b0 b1 b2 b3 j else 0)
      by_cases u2 : j < 3
      · rw [if_pos u2, if_pos (by omega)]
      · rw [if_neg u2, if_neg (by omega)]
  · refine Go.on (fun t k => XS.icmpYes X0.here hx rfl (pc0 := 133) (pc' := 142) rfl (hb hby at_133) rfl (flt hc133).2.2.2 (by decide) (by decide) k) ?_
    show Go p e below _ (T.setTop (mkF m 142 #[.val (.int x0), .val (.int x1), .val (.int x2), .val (.int len), .val (.int b0), .val (.int b1), .val (.int b2), .val (.int b3), .val (.int mode), .val (.int lab), .val (.ref a), .unset, .unset, .unset, .unset, .unset, .unset, .unset] []))
    have zi : (3 : Int32).toInt = 3 := by decide
    have hlen : ¬ (3 : Int) < N := fun u => hc133 (Int32.lt_iff_toInt_lt.mpr (by omega))
    refine k T h _ X0 e0 N0 Z0 (F0.fn (fun j hj => ?_))
    unfold own_g
    by_cases u2 : j < 3
    · rw [if_pos u2, if_pos (by omega)]
    · rw [if_neg u2, if_neg (by omega)]
set_option maxRecDepth 65536 in
set_option maxHeartbeats 4000000 in
theorem pM0 {p : Program} {l : Launch} {e : Env} {R : Room} {s : State} {m : MethodId} {args : Array Value} {below : List Frame} {meth : Method} {c : Code} {T : State} {locs : List Loc} {cells slots : Nat} {P : Outcome → State → Prop} (X0 : Stand p l e R s m args below meth c T locs cells slots) (hx : p.tables.exec = Jvm.exec) (hby : c.code = code) {x0 x1 x2 len b0 b1 b2 b3 mode lab : Int32} {a : Addr} {N : Nat} (hL : len.toInt = (N : Int))
    (k : Go p e below P (T.setTop (mkF m 160 #[.val (.int x0), .val (.int x1), .val (.int x2), .val (.int len), .val (.int b0), .val (.int b1), .val (.int b2), .val (.int b3), .val (.int mode), .val (.int lab), .val (.ref a), .val (.int (own_m N (own_f b0 b1 b2 b3) lab 0)), .unset, .unset, .unset, .unset, .unset, .unset] []))) :
    Go p e below P (T.setTop (mkF m 142 #[.val (.int x0), .val (.int x1), .val (.int x2), .val (.int len), .val (.int b0), .val (.int b1), .val (.int b2), .val (.int b3), .val (.int mode), .val (.int lab), .val (.ref a), .unset, .unset, .unset, .unset, .unset, .unset, .unset] [])) := by
  refine Go.on (fun t k => XS.iloadN X0.here hx rfl (hb hby at_142) rfl k) ?_
  show Go p e below _ (T.setTop (mkF m 143 #[.val (.int x0), .val (.int x1), .val (.int x2), .val (.int len), .val (.int b0), .val (.int b1), .val (.int b2), .val (.int b3), .val (.int mode), .val (.int lab), .val (.ref a), .unset, .unset, .unset, .unset, .unset, .unset, .unset] [(.int len)]))
  by_cases hc143 : (0 : Int32) < len
  · refine Go.on (fun t k => XS.ifNo X0.here hx rfl (hb hby at_143) rfl ((if0 _ _).trans (tlt hc143).2.2.2) k) ?_
    show Go p e below _ (T.setTop (mkF m 146 #[.val (.int x0), .val (.int x1), .val (.int x2), .val (.int len), .val (.int b0), .val (.int b1), .val (.int b2), .val (.int b3), .val (.int mode), .val (.int lab), .val (.ref a), .unset, .unset, .unset, .unset, .unset, .unset, .unset] []))
    refine Go.on (fun t k => XS.iload X0.here hx rfl (hb hby at_146) rfl k) ?_
    show Go p e below _ (T.setTop (mkF m 148 #[.val (.int x0), .val (.int x1), .val (.int x2), .val (.int len), .val (.int b0), .val (.int b1), .val (.int b2), .val (.int b3), .val (.int mode), .val (.int lab), .val (.ref a), .unset, .unset, .unset, .unset, .unset, .unset, .unset] [(.int b0)]))
    refine Go.on (fun t k => XS.iload X0.here hx rfl (hb hby at_148) rfl k) ?_
    show Go p e below _ (T.setTop (mkF m 150 #[.val (.int x0), .val (.int x1), .val (.int x2), .val (.int len), .val (.int b0), .val (.int b1), .val (.int b2), .val (.int b3), .val (.int mode), .val (.int lab), .val (.ref a), .unset, .unset, .unset, .unset, .unset, .unset, .unset] [(.int lab), (.int b0)]))
    by_cases hc150 : b0 = lab
    · refine Go.on (fun t k => XS.icmpNo X0.here hx rfl (hb hby at_150) rfl (teq hc150).2 k) ?_
      show Go p e below _ (T.setTop (mkF m 153 #[.val (.int x0), .val (.int x1), .val (.int x2), .val (.int len), .val (.int b0), .val (.int b1), .val (.int b2), .val (.int b3), .val (.int mode), .val (.int lab), .val (.ref a), .unset, .unset, .unset, .unset, .unset, .unset, .unset] []))
      refine Go.on (fun t k => XS.iconst X0.here hx rfl (hb hby at_153) k) ?_
      show Go p e below _ (T.setTop (mkF m 154 #[.val (.int x0), .val (.int x1), .val (.int x2), .val (.int len), .val (.int b0), .val (.int b1), .val (.int b2), .val (.int b3), .val (.int mode), .val (.int lab), .val (.ref a), .unset, .unset, .unset, .unset, .unset, .unset, .unset] [(.int (1 : Int32))]))
      refine Go.on (fun t k => XS.goto X0.here hx rfl (pc0 := 154) (pc' := 158) rfl (hb hby at_154) (by decide) (by decide) k) ?_
      show Go p e below _ (T.setTop (mkF m 158 #[.val (.int x0), .val (.int x1), .val (.int x2), .val (.int len), .val (.int b0), .val (.int b1), .val (.int b2), .val (.int b3), .val (.int mode), .val (.int lab), .val (.ref a), .unset, .unset, .unset, .unset, .unset, .unset, .unset] [(.int (1 : Int32))]))
      refine Go.on (fun t k => XS.istore X0.here hx rfl (hb hby at_158) rfl (l' := #[.val (.int x0), .val (.int x1), .val (.int x2), .val (.int len), .val (.int b0), .val (.int b1), .val (.int b2), .val (.int b3), .val (.int mode), .val (.int lab), .val (.ref a), .val (.int (1 : Int32)), .unset, .unset, .unset, .unset, .unset, .unset]) rfl k) ?_
      show Go p e below _ (T.setTop (mkF m 160 #[.val (.int x0), .val (.int x1), .val (.int x2), .val (.int len), .val (.int b0), .val (.int b1), .val (.int b2), .val (.int b3), .val (.int mode), .val (.int lab), .val (.ref a), .val (.int (1 : Int32)), .unset, .unset, .unset, .unset, .unset, .unset] []))
      have zi : (0 : Int32).toInt = 0 := by decide
      have hl := Int32.lt_iff_toInt_lt.mp hc143
      have ee : (own_m N (own_f b0 b1 b2 b3) lab 0) = (1 : Int32) := if_pos ⟨by omega, hc150⟩
      rw [ee] at k
      exact k
    · refine Go.on (fun t k => XS.icmpYes X0.here hx rfl (pc0 := 150) (pc' := 157) rfl (hb hby at_150) rfl (feq hc150).2 (by decide) (by decide) k) ?_
      show Go p e below _ (T.setTop (mkF m 157 #[.val (.int x0), .val (.int x1), .val (.int x2), .val (.int len), .val (.int b0), .val (.int b1), .val (.int b2), .val (.int b3), .val (.int mode), .val (.int lab), .val (.ref a), .unset, .unset, .unset, .unset, .unset, .unset, .unset] []))
      refine Go.on (fun t k => XS.iconst X0.here hx rfl (hb hby at_157) k) ?_
      show Go p e below _ (T.setTop (mkF m 158 #[.val (.int x0), .val (.int x1), .val (.int x2), .val (.int len), .val (.int b0), .val (.int b1), .val (.int b2), .val (.int b3), .val (.int mode), .val (.int lab), .val (.ref a), .unset, .unset, .unset, .unset, .unset, .unset, .unset] [(.int (0 : Int32))]))
      refine Go.on (fun t k => XS.istore X0.here hx rfl (hb hby at_158) rfl (l' := #[.val (.int x0), .val (.int x1), .val (.int x2), .val (.int len), .val (.int b0), .val (.int b1), .val (.int b2), .val (.int b3), .val (.int mode), .val (.int lab), .val (.ref a), .val (.int (0 : Int32)), .unset, .unset, .unset, .unset, .unset, .unset]) rfl k) ?_
      show Go p e below _ (T.setTop (mkF m 160 #[.val (.int x0), .val (.int x1), .val (.int x2), .val (.int len), .val (.int b0), .val (.int b1), .val (.int b2), .val (.int b3), .val (.int mode), .val (.int lab), .val (.ref a), .val (.int (0 : Int32)), .unset, .unset, .unset, .unset, .unset, .unset] []))
      have zi : (0 : Int32).toInt = 0 := by decide
      have hl := Int32.lt_iff_toInt_lt.mp hc143
      have ee : (own_m N (own_f b0 b1 b2 b3) lab 0) = (0 : Int32) := if_neg (fun u => hc150 u.2)
      rw [ee] at k
      exact k
  · refine Go.on (fun t k => XS.ifYes X0.here hx rfl (pc0 := 143) (pc' := 157) rfl (hb hby at_143) rfl ((if0 _ _).trans (flt hc143).2.2.2) (by decide) (by decide) k) ?_
    show Go p e below _ (T.setTop (mkF m 157 #[.val (.int x0), .val (.int x1), .val (.int x2), .val (.int len), .val (.int b0), .val (.int b1), .val (.int b2), .val (.int b3), .val (.int mode), .val (.int lab), .val (.ref a), .unset, .unset, .unset, .unset, .unset, .unset, .unset] []))
    refine Go.on (fun t k => XS.iconst X0.here hx rfl (hb hby at_157) k) ?_
    show Go p e below _ (T.setTop (mkF m 158 #[.val (.int x0), .val (.int x1), .val (.int x2), .val (.int len), .val (.int b0), .val (.int b1), .val (.int b2), .val (.int b3), .val (.int mode), .val (.int lab), .val (.ref a), .unset, .unset, .unset, .unset, .unset, .unset, .unset] [(.int (0 : Int32))]))
    refine Go.on (fun t k => XS.istore X0.here hx rfl (hb hby at_158) rfl (l' := #[.val (.int x0), .val (.int x1), .val (.int x2), .val (.int len), .val (.int b0), .val (.int b1), .val (.int b2), .val (.int b3), .val (.int mode), .val (.int lab), .val (.ref a), .val (.int (0 : Int32)), .unset, .unset, .unset, .unset, .unset, .unset]) rfl k) ?_
    show Go p e below _ (T.setTop (mkF m 160 #[.val (.int x0), .val (.int x1), .val (.int x2), .val (.int len), .val (.int b0), .val (.int b1), .val (.int b2), .val (.int b3), .val (.int mode), .val (.int lab), .val (.ref a), .val (.int (0 : Int32)), .unset, .unset, .unset, .unset, .unset, .unset] []))
    have zi : (0 : Int32).toInt = 0 := by decide
    have ee : (own_m N (own_f b0 b1 b2 b3) lab 0) = (0 : Int32) := if_neg (fun u => hc143 (Int32.lt_iff_toInt_lt.mpr (by omega)))
    rw [ee] at k
    exact k
set_option maxRecDepth 65536 in
set_option maxHeartbeats 4000000 in
theorem pM1 {p : Program} {l : Launch} {e : Env} {R : Room} {s : State} {m : MethodId} {args : Array Value} {below : List Frame} {meth : Method} {c : Code} {T : State} {locs : List Loc} {cells slots : Nat} {P : Outcome → State → Prop} (X0 : Stand p l e R s m args below meth c T locs cells slots) (hx : p.tables.exec = Jvm.exec) (hby : c.code = code) {x0 x1 x2 len b0 b1 b2 b3 mode lab m0 : Int32} {a : Addr} {N : Nat} (hL : len.toInt = (N : Int))
    (k : Go p e below P (T.setTop (mkF m 179 #[.val (.int x0), .val (.int x1), .val (.int x2), .val (.int len), .val (.int b0), .val (.int b1), .val (.int b2), .val (.int b3), .val (.int mode), .val (.int lab), .val (.ref a), .val (.int m0), .val (.int (own_m N (own_f b0 b1 b2 b3) lab 1)), .unset, .unset, .unset, .unset, .unset] []))) :
    Go p e below P (T.setTop (mkF m 160 #[.val (.int x0), .val (.int x1), .val (.int x2), .val (.int len), .val (.int b0), .val (.int b1), .val (.int b2), .val (.int b3), .val (.int mode), .val (.int lab), .val (.ref a), .val (.int m0), .unset, .unset, .unset, .unset, .unset, .unset] [])) := by
  refine Go.on (fun t k => XS.iloadN X0.here hx rfl (hb hby at_160) rfl k) ?_
  show Go p e below _ (T.setTop (mkF m 161 #[.val (.int x0), .val (.int x1), .val (.int x2), .val (.int len), .val (.int b0), .val (.int b1), .val (.int b2), .val (.int b3), .val (.int mode), .val (.int lab), .val (.ref a), .val (.int m0), .unset, .unset, .unset, .unset, .unset, .unset] [(.int len)]))
  refine Go.on (fun t k => XS.iconst X0.here hx rfl (hb hby at_161) k) ?_
  show Go p e below _ (T.setTop (mkF m 162 #[.val (.int x0), .val (.int x1), .val (.int x2), .val (.int len), .val (.int b0), .val (.int b1), .val (.int b2), .val (.int b3), .val (.int mode), .val (.int lab), .val (.ref a), .val (.int m0), .unset, .unset, .unset, .unset, .unset, .unset] [(.int (1 : Int32)), (.int len)]))
  by_cases hc162 : (1 : Int32) < len
  · refine Go.on (fun t k => XS.icmpNo X0.here hx rfl (hb hby at_162) rfl (tlt hc162).2.2.2 k) ?_
    show Go p e below _ (T.setTop (mkF m 165 #[.val (.int x0), .val (.int x1), .val (.int x2), .val (.int len), .val (.int b0), .val (.int b1), .val (.int b2), .val (.int b3), .val (.int mode), .val (.int lab), .val (.ref a), .val (.int m0), .unset, .unset, .unset, .unset, .unset, .unset] []))
    refine Go.on (fun t k => XS.iload X0.here hx rfl (hb hby at_165) rfl k) ?_
    show Go p e below _ (T.setTop (mkF m 167 #[.val (.int x0), .val (.int x1), .val (.int x2), .val (.int len), .val (.int b0), .val (.int b1), .val (.int b2), .val (.int b3), .val (.int mode), .val (.int lab), .val (.ref a), .val (.int m0), .unset, .unset, .unset, .unset, .unset, .unset] [(.int b1)]))
    refine Go.on (fun t k => XS.iload X0.here hx rfl (hb hby at_167) rfl k) ?_
    show Go p e below _ (T.setTop (mkF m 169 #[.val (.int x0), .val (.int x1), .val (.int x2), .val (.int len), .val (.int b0), .val (.int b1), .val (.int b2), .val (.int b3), .val (.int mode), .val (.int lab), .val (.ref a), .val (.int m0), .unset, .unset, .unset, .unset, .unset, .unset] [(.int lab), (.int b1)]))
    by_cases hc169 : b1 = lab
    · refine Go.on (fun t k => XS.icmpNo X0.here hx rfl (hb hby at_169) rfl (teq hc169).2 k) ?_
      show Go p e below _ (T.setTop (mkF m 172 #[.val (.int x0), .val (.int x1), .val (.int x2), .val (.int len), .val (.int b0), .val (.int b1), .val (.int b2), .val (.int b3), .val (.int mode), .val (.int lab), .val (.ref a), .val (.int m0), .unset, .unset, .unset, .unset, .unset, .unset] []))
      refine Go.on (fun t k => XS.iconst X0.here hx rfl (hb hby at_172) k) ?_
      show Go p e below _ (T.setTop (mkF m 173 #[.val (.int x0), .val (.int x1), .val (.int x2), .val (.int len), .val (.int b0), .val (.int b1), .val (.int b2), .val (.int b3), .val (.int mode), .val (.int lab), .val (.ref a), .val (.int m0), .unset, .unset, .unset, .unset, .unset, .unset] [(.int (1 : Int32))]))
      refine Go.on (fun t k => XS.goto X0.here hx rfl (pc0 := 173) (pc' := 177) rfl (hb hby at_173) (by decide) (by decide) k) ?_
      show Go p e below _ (T.setTop (mkF m 177 #[.val (.int x0), .val (.int x1), .val (.int x2), .val (.int len), .val (.int b0), .val (.int b1), .val (.int b2), .val (.int b3), .val (.int mode), .val (.int lab), .val (.ref a), .val (.int m0), .unset, .unset, .unset, .unset, .unset, .unset] [(.int (1 : Int32))]))
      refine Go.on (fun t k => XS.istore X0.here hx rfl (hb hby at_177) rfl (l' := #[.val (.int x0), .val (.int x1), .val (.int x2), .val (.int len), .val (.int b0), .val (.int b1), .val (.int b2), .val (.int b3), .val (.int mode), .val (.int lab), .val (.ref a), .val (.int m0), .val (.int (1 : Int32)), .unset, .unset, .unset, .unset, .unset]) rfl k) ?_
      show Go p e below _ (T.setTop (mkF m 179 #[.val (.int x0), .val (.int x1), .val (.int x2), .val (.int len), .val (.int b0), .val (.int b1), .val (.int b2), .val (.int b3), .val (.int mode), .val (.int lab), .val (.ref a), .val (.int m0), .val (.int (1 : Int32)), .unset, .unset, .unset, .unset, .unset] []))
      have zi : (1 : Int32).toInt = 1 := by decide
      have hl := Int32.lt_iff_toInt_lt.mp hc162
      have ee : (own_m N (own_f b0 b1 b2 b3) lab 1) = (1 : Int32) := if_pos ⟨by omega, hc169⟩
      rw [ee] at k
      exact k
    · refine Go.on (fun t k => XS.icmpYes X0.here hx rfl (pc0 := 169) (pc' := 176) rfl (hb hby at_169) rfl (feq hc169).2 (by decide) (by decide) k) ?_
      show Go p e below _ (T.setTop (mkF m 176 #[.val (.int x0), .val (.int x1), .val (.int x2), .val (.int len), .val (.int b0), .val (.int b1), .val (.int b2), .val (.int b3), .val (.int mode), .val (.int lab), .val (.ref a), .val (.int m0), .unset, .unset, .unset, .unset, .unset, .unset] []))
      refine Go.on (fun t k => XS.iconst X0.here hx rfl (hb hby at_176) k) ?_
      show Go p e below _ (T.setTop (mkF m 177 #[.val (.int x0), .val (.int x1), .val (.int x2), .val (.int len), .val (.int b0), .val (.int b1), .val (.int b2), .val (.int b3), .val (.int mode), .val (.int lab), .val (.ref a), .val (.int m0), .unset, .unset, .unset, .unset, .unset, .unset] [(.int (0 : Int32))]))
      refine Go.on (fun t k => XS.istore X0.here hx rfl (hb hby at_177) rfl (l' := #[.val (.int x0), .val (.int x1), .val (.int x2), .val (.int len), .val (.int b0), .val (.int b1), .val (.int b2), .val (.int b3), .val (.int mode), .val (.int lab), .val (.ref a), .val (.int m0), .val (.int (0 : Int32)), .unset, .unset, .unset, .unset, .unset]) rfl k) ?_
      show Go p e below _ (T.setTop (mkF m 179 #[.val (.int x0), .val (.int x1), .val (.int x2), .val (.int len), .val (.int b0), .val (.int b1), .val (.int b2), .val (.int b3), .val (.int mode), .val (.int lab), .val (.ref a), .val (.int m0), .val (.int (0 : Int32)), .unset, .unset, .unset, .unset, .unset] []))
      have zi : (1 : Int32).toInt = 1 := by decide
      have hl := Int32.lt_iff_toInt_lt.mp hc162
      have ee : (own_m N (own_f b0 b1 b2 b3) lab 1) = (0 : Int32) := if_neg (fun u => hc169 u.2)
      rw [ee] at k
      exact k
  · refine Go.on (fun t k => XS.icmpYes X0.here hx rfl (pc0 := 162) (pc' := 176) rfl (hb hby at_162) rfl (flt hc162).2.2.2 (by decide) (by decide) k) ?_
    show Go p e below _ (T.setTop (mkF m 176 #[.val (.int x0), .val (.int x1), .val (.int x2), .val (.int len), .val (.int b0), .val (.int b1), .val (.int b2), .val (.int b3), .val (.int mode), .val (.int lab), .val (.ref a), .val (.int m0), .unset, .unset, .unset, .unset, .unset, .unset] []))
    refine Go.on (fun t k => XS.iconst X0.here hx rfl (hb hby at_176) k) ?_
    show Go p e below _ (T.setTop (mkF m 177 #[.val (.int x0), .val (.int x1), .val (.int x2), .val (.int len), .val (.int b0), .val (.int b1), .val (.int b2), .val (.int b3), .val (.int mode), .val (.int lab), .val (.ref a), .val (.int m0), .unset, .unset, .unset, .unset, .unset, .unset] [(.int (0 : Int32))]))
    refine Go.on (fun t k => XS.istore X0.here hx rfl (hb hby at_177) rfl (l' := #[.val (.int x0), .val (.int x1), .val (.int x2), .val (.int len), .val (.int b0), .val (.int b1), .val (.int b2), .val (.int b3), .val (.int mode), .val (.int lab), .val (.ref a), .val (.int m0), .val (.int (0 : Int32)), .unset, .unset, .unset, .unset, .unset]) rfl k) ?_
    show Go p e below _ (T.setTop (mkF m 179 #[.val (.int x0), .val (.int x1), .val (.int x2), .val (.int len), .val (.int b0), .val (.int b1), .val (.int b2), .val (.int b3), .val (.int mode), .val (.int lab), .val (.ref a), .val (.int m0), .val (.int (0 : Int32)), .unset, .unset, .unset, .unset, .unset] []))
    have zi : (1 : Int32).toInt = 1 := by decide
    have ee : (own_m N (own_f b0 b1 b2 b3) lab 1) = (0 : Int32) := if_neg (fun u => hc162 (Int32.lt_iff_toInt_lt.mpr (by omega)))
    rw [ee] at k
    exact k
set_option maxRecDepth 65536 in
set_option maxHeartbeats 4000000 in
theorem pM2 {p : Program} {l : Launch} {e : Env} {R : Room} {s : State} {m : MethodId} {args : Array Value} {below : List Frame} {meth : Method} {c : Code} {T : State} {locs : List Loc} {cells slots : Nat} {P : Outcome → State → Prop} (X0 : Stand p l e R s m args below meth c T locs cells slots) (hx : p.tables.exec = Jvm.exec) (hby : c.code = code) {x0 x1 x2 len b0 b1 b2 b3 mode lab m0 m1 : Int32} {a : Addr} {N : Nat} (hL : len.toInt = (N : Int))
    (k : Go p e below P (T.setTop (mkF m 198 #[.val (.int x0), .val (.int x1), .val (.int x2), .val (.int len), .val (.int b0), .val (.int b1), .val (.int b2), .val (.int b3), .val (.int mode), .val (.int lab), .val (.ref a), .val (.int m0), .val (.int m1), .val (.int (own_m N (own_f b0 b1 b2 b3) lab 2)), .unset, .unset, .unset, .unset] []))) :
    Go p e below P (T.setTop (mkF m 179 #[.val (.int x0), .val (.int x1), .val (.int x2), .val (.int len), .val (.int b0), .val (.int b1), .val (.int b2), .val (.int b3), .val (.int mode), .val (.int lab), .val (.ref a), .val (.int m0), .val (.int m1), .unset, .unset, .unset, .unset, .unset] [])) := by
  refine Go.on (fun t k => XS.iloadN X0.here hx rfl (hb hby at_179) rfl k) ?_
  show Go p e below _ (T.setTop (mkF m 180 #[.val (.int x0), .val (.int x1), .val (.int x2), .val (.int len), .val (.int b0), .val (.int b1), .val (.int b2), .val (.int b3), .val (.int mode), .val (.int lab), .val (.ref a), .val (.int m0), .val (.int m1), .unset, .unset, .unset, .unset, .unset] [(.int len)]))
  refine Go.on (fun t k => XS.iconst X0.here hx rfl (hb hby at_180) k) ?_
  show Go p e below _ (T.setTop (mkF m 181 #[.val (.int x0), .val (.int x1), .val (.int x2), .val (.int len), .val (.int b0), .val (.int b1), .val (.int b2), .val (.int b3), .val (.int mode), .val (.int lab), .val (.ref a), .val (.int m0), .val (.int m1), .unset, .unset, .unset, .unset, .unset] [(.int (2 : Int32)), (.int len)]))
  by_cases hc181 : (2 : Int32) < len
  · refine Go.on (fun t k => XS.icmpNo X0.here hx rfl (hb hby at_181) rfl (tlt hc181).2.2.2 k) ?_
    show Go p e below _ (T.setTop (mkF m 184 #[.val (.int x0), .val (.int x1), .val (.int x2), .val (.int len), .val (.int b0), .val (.int b1), .val (.int b2), .val (.int b3), .val (.int mode), .val (.int lab), .val (.ref a), .val (.int m0), .val (.int m1), .unset, .unset, .unset, .unset, .unset] []))
    refine Go.on (fun t k => XS.iload X0.here hx rfl (hb hby at_184) rfl k) ?_
    show Go p e below _ (T.setTop (mkF m 186 #[.val (.int x0), .val (.int x1), .val (.int x2), .val (.int len), .val (.int b0), .val (.int b1), .val (.int b2), .val (.int b3), .val (.int mode), .val (.int lab), .val (.ref a), .val (.int m0), .val (.int m1), .unset, .unset, .unset, .unset, .unset] [(.int b2)]))
    refine Go.on (fun t k => XS.iload X0.here hx rfl (hb hby at_186) rfl k) ?_
    show Go p e below _ (T.setTop (mkF m 188 #[.val (.int x0), .val (.int x1), .val (.int x2), .val (.int len), .val (.int b0), .val (.int b1), .val (.int b2), .val (.int b3), .val (.int mode), .val (.int lab), .val (.ref a), .val (.int m0), .val (.int m1), .unset, .unset, .unset, .unset, .unset] [(.int lab), (.int b2)]))
    by_cases hc188 : b2 = lab
    · refine Go.on (fun t k => XS.icmpNo X0.here hx rfl (hb hby at_188) rfl (teq hc188).2 k) ?_
      show Go p e below _ (T.setTop (mkF m 191 #[.val (.int x0), .val (.int x1), .val (.int x2), .val (.int len), .val (.int b0), .val (.int b1), .val (.int b2), .val (.int b3), .val (.int mode), .val (.int lab), .val (.ref a), .val (.int m0), .val (.int m1), .unset, .unset, .unset, .unset, .unset] []))
      refine Go.on (fun t k => XS.iconst X0.here hx rfl (hb hby at_191) k) ?_
      show Go p e below _ (T.setTop (mkF m 192 #[.val (.int x0), .val (.int x1), .val (.int x2), .val (.int len), .val (.int b0), .val (.int b1), .val (.int b2), .val (.int b3), .val (.int mode), .val (.int lab), .val (.ref a), .val (.int m0), .val (.int m1), .unset, .unset, .unset, .unset, .unset] [(.int (1 : Int32))]))
      refine Go.on (fun t k => XS.goto X0.here hx rfl (pc0 := 192) (pc' := 196) rfl (hb hby at_192) (by decide) (by decide) k) ?_
      show Go p e below _ (T.setTop (mkF m 196 #[.val (.int x0), .val (.int x1), .val (.int x2), .val (.int len), .val (.int b0), .val (.int b1), .val (.int b2), .val (.int b3), .val (.int mode), .val (.int lab), .val (.ref a), .val (.int m0), .val (.int m1), .unset, .unset, .unset, .unset, .unset] [(.int (1 : Int32))]))
      refine Go.on (fun t k => XS.istore X0.here hx rfl (hb hby at_196) rfl (l' := #[.val (.int x0), .val (.int x1), .val (.int x2), .val (.int len), .val (.int b0), .val (.int b1), .val (.int b2), .val (.int b3), .val (.int mode), .val (.int lab), .val (.ref a), .val (.int m0), .val (.int m1), .val (.int (1 : Int32)), .unset, .unset, .unset, .unset]) rfl k) ?_
      show Go p e below _ (T.setTop (mkF m 198 #[.val (.int x0), .val (.int x1), .val (.int x2), .val (.int len), .val (.int b0), .val (.int b1), .val (.int b2), .val (.int b3), .val (.int mode), .val (.int lab), .val (.ref a), .val (.int m0), .val (.int m1), .val (.int (1 : Int32)), .unset, .unset, .unset, .unset] []))
      have zi : (2 : Int32).toInt = 2 := by decide
      have hl := Int32.lt_iff_toInt_lt.mp hc181
      have ee : (own_m N (own_f b0 b1 b2 b3) lab 2) = (1 : Int32) := if_pos ⟨by omega, hc188⟩
      rw [ee] at k
      exact k
    · refine Go.on (fun t k => XS.icmpYes X0.here hx rfl (pc0 := 188) (pc' := 195) rfl (hb hby at_188) rfl (feq hc188).2 (by decide) (by decide) k) ?_
      show Go p e below _ (T.setTop (mkF m 195 #[.val (.int x0), .val (.int x1), .val (.int x2), .val (.int len), .val (.int b0), .val (.int b1), .val (.int b2), .val (.int b3), .val (.int mode), .val (.int lab), .val (.ref a), .val (.int m0), .val (.int m1), .unset, .unset, .unset, .unset, .unset] []))
      refine Go.on (fun t k => XS.iconst X0.here hx rfl (hb hby at_195) k) ?_
      show Go p e below _ (T.setTop (mkF m 196 #[.val (.int x0), .val (.int x1), .val (.int x2), .val (.int len), .val (.int b0), .val (.int b1), .val (.int b2), .val (.int b3), .val (.int mode), .val (.int lab), .val (.ref a), .val (.int m0), .val (.int m1), .unset, .unset, .unset, .unset, .unset] [(.int (0 : Int32))]))
      refine Go.on (fun t k => XS.istore X0.here hx rfl (hb hby at_196) rfl (l' := #[.val (.int x0), .val (.int x1), .val (.int x2), .val (.int len), .val (.int b0), .val (.int b1), .val (.int b2), .val (.int b3), .val (.int mode), .val (.int lab), .val (.ref a), .val (.int m0), .val (.int m1), .val (.int (0 : Int32)), .unset, .unset, .unset, .unset]) rfl k) ?_
      show Go p e below _ (T.setTop (mkF m 198 #[.val (.int x0), .val (.int x1), .val (.int x2), .val (.int len), .val (.int b0), .val (.int b1), .val (.int b2), .val (.int b3), .val (.int mode), .val (.int lab), .val (.ref a), .val (.int m0), .val (.int m1), .val (.int (0 : Int32)), .unset, .unset, .unset, .unset] []))
      have zi : (2 : Int32).toInt = 2 := by decide
      have hl := Int32.lt_iff_toInt_lt.mp hc181
      have ee : (own_m N (own_f b0 b1 b2 b3) lab 2) = (0 : Int32) := if_neg (fun u => hc188 u.2)
      rw [ee] at k
      exact k
  · refine Go.on (fun t k => XS.icmpYes X0.here hx rfl (pc0 := 181) (pc' := 195) rfl (hb hby at_181) rfl (flt hc181).2.2.2 (by decide) (by decide) k) ?_
    show Go p e below _ (T.setTop (mkF m 195 #[.val (.int x0), .val (.int x1), .val (.int x2), .val (.int len), .val (.int b0), .val (.int b1), .val (.int b2), .val (.int b3), .val (.int mode), .val (.int lab), .val (.ref a), .val (.int m0), .val (.int m1), .unset, .unset, .unset, .unset, .unset] []))
    refine Go.on (fun t k => XS.iconst X0.here hx rfl (hb hby at_195) k) ?_
    show Go p e below _ (T.setTop (mkF m 196 #[.val (.int x0), .val (.int x1), .val (.int x2), .val (.int len), .val (.int b0), .val (.int b1), .val (.int b2), .val (.int b3), .val (.int mode), .val (.int lab), .val (.ref a), .val (.int m0), .val (.int m1), .unset, .unset, .unset, .unset, .unset] [(.int (0 : Int32))]))
    refine Go.on (fun t k => XS.istore X0.here hx rfl (hb hby at_196) rfl (l' := #[.val (.int x0), .val (.int x1), .val (.int x2), .val (.int len), .val (.int b0), .val (.int b1), .val (.int b2), .val (.int b3), .val (.int mode), .val (.int lab), .val (.ref a), .val (.int m0), .val (.int m1), .val (.int (0 : Int32)), .unset, .unset, .unset, .unset]) rfl k) ?_
    show Go p e below _ (T.setTop (mkF m 198 #[.val (.int x0), .val (.int x1), .val (.int x2), .val (.int len), .val (.int b0), .val (.int b1), .val (.int b2), .val (.int b3), .val (.int mode), .val (.int lab), .val (.ref a), .val (.int m0), .val (.int m1), .val (.int (0 : Int32)), .unset, .unset, .unset, .unset] []))
    have zi : (2 : Int32).toInt = 2 := by decide
    have ee : (own_m N (own_f b0 b1 b2 b3) lab 2) = (0 : Int32) := if_neg (fun u => hc181 (Int32.lt_iff_toInt_lt.mpr (by omega)))
    rw [ee] at k
    exact k
set_option maxRecDepth 65536 in
set_option maxHeartbeats 4000000 in
theorem pM3 {p : Program} {l : Launch} {e : Env} {R : Room} {s : State} {m : MethodId} {args : Array Value} {below : List Frame} {meth : Method} {c : Code} {T : State} {locs : List Loc} {cells slots : Nat} {P : Outcome → State → Prop} (X0 : Stand p l e R s m args below meth c T locs cells slots) (hx : p.tables.exec = Jvm.exec) (hby : c.code = code) {x0 x1 x2 len b0 b1 b2 b3 mode lab m0 m1 m2 : Int32} {a : Addr} {N : Nat} (hL : len.toInt = (N : Int))
    (k : Go p e below P (T.setTop (mkF m 217 #[.val (.int x0), .val (.int x1), .val (.int x2), .val (.int len), .val (.int b0), .val (.int b1), .val (.int b2), .val (.int b3), .val (.int mode), .val (.int lab), .val (.ref a), .val (.int m0), .val (.int m1), .val (.int m2), .val (.int (own_m N (own_f b0 b1 b2 b3) lab 3)), .unset, .unset, .unset] []))) :
    Go p e below P (T.setTop (mkF m 198 #[.val (.int x0), .val (.int x1), .val (.int x2), .val (.int len), .val (.int b0), .val (.int b1), .val (.int b2), .val (.int b3), .val (.int mode), .val (.int lab), .val (.ref a), .val (.int m0), .val (.int m1), .val (.int m2), .unset, .unset, .unset, .unset] [])) := by
  refine Go.on (fun t k => XS.iloadN X0.here hx rfl (hb hby at_198) rfl k) ?_
  show Go p e below _ (T.setTop (mkF m 199 #[.val (.int x0), .val (.int x1), .val (.int x2), .val (.int len), .val (.int b0), .val (.int b1), .val (.int b2), .val (.int b3), .val (.int mode), .val (.int lab), .val (.ref a), .val (.int m0), .val (.int m1), .val (.int m2), .unset, .unset, .unset, .unset] [(.int len)]))
  refine Go.on (fun t k => XS.iconst X0.here hx rfl (hb hby at_199) k) ?_
  show Go p e below _ (T.setTop (mkF m 200 #[.val (.int x0), .val (.int x1), .val (.int x2), .val (.int len), .val (.int b0), .val (.int b1), .val (.int b2), .val (.int b3), .val (.int mode), .val (.int lab), .val (.ref a), .val (.int m0), .val (.int m1), .val (.int m2), .unset, .unset, .unset, .unset] [(.int (3 : Int32)), (.int len)]))
  by_cases hc200 : (3 : Int32) < len
  · refine Go.on (fun t k => XS.icmpNo X0.here hx rfl (hb hby at_200) rfl (tlt hc200).2.2.2 k) ?_
    show Go p e below _ (T.setTop (mkF m 203 #[.val (.int x0), .val (.int x1), .val (.int x2), .val (.int len), .val (.int b0), .val (.int b1), .val (.int b2), .val (.int b3), .val (.int mode), .val (.int lab), .val (.ref a), .val (.int m0), .val (.int m1), .val (.int m2), .unset, .unset, .unset, .unset] []))
    refine Go.on (fun t k => XS.iload X0.here hx rfl (hb hby at_203) rfl k) ?_
    show Go p e below _ (T.setTop (mkF m 205 #[.val (.int x0), .val (.int x1), .val (.int x2), .val (.int len), .val (.int b0), .val (.int b1), .val (.int b2), .val (.int b3), .val (.int mode), .val (.int lab), .val (.ref a), .val (.int m0), .val (.int m1), .val (.int m2), .unset, .unset, .unset, .unset] [(.int b3)]))
    refine Go.on (fun t k => XS.iload X0.here hx rfl (hb hby at_205) rfl k) ?_
    show Go p e below _ (T.setTop (mkF m 207 #[.val (.int x0), .val (.int x1), .val (.int x2), .val (.int len), .val (.int b0), .val (.int b1), .val (.int b2), .val (.int b3), .val (.int mode), .val (.int lab), .val (.ref a), .val (.int m0), .val (.int m1), .val (.int m2), .unset, .unset, .unset, .unset] [(.int lab), (.int b3)]))
    by_cases hc207 : b3 = lab
    · refine Go.on (fun t k => XS.icmpNo X0.here hx rfl (hb hby at_207) rfl (teq hc207).2 k) ?_
      show Go p e below _ (T.setTop (mkF m 210 #[.val (.int x0), .val (.int x1), .val (.int x2), .val (.int len), .val (.int b0), .val (.int b1), .val (.int b2), .val (.int b3), .val (.int mode), .val (.int lab), .val (.ref a), .val (.int m0), .val (.int m1), .val (.int m2), .unset, .unset, .unset, .unset] []))
      refine Go.on (fun t k => XS.iconst X0.here hx rfl (hb hby at_210) k) ?_
      show Go p e below _ (T.setTop (mkF m 211 #[.val (.int x0), .val (.int x1), .val (.int x2), .val (.int len), .val (.int b0), .val (.int b1), .val (.int b2), .val (.int b3), .val (.int mode), .val (.int lab), .val (.ref a), .val (.int m0), .val (.int m1), .val (.int m2), .unset, .unset, .unset, .unset] [(.int (1 : Int32))]))
      refine Go.on (fun t k => XS.goto X0.here hx rfl (pc0 := 211) (pc' := 215) rfl (hb hby at_211) (by decide) (by decide) k) ?_
      show Go p e below _ (T.setTop (mkF m 215 #[.val (.int x0), .val (.int x1), .val (.int x2), .val (.int len), .val (.int b0), .val (.int b1), .val (.int b2), .val (.int b3), .val (.int mode), .val (.int lab), .val (.ref a), .val (.int m0), .val (.int m1), .val (.int m2), .unset, .unset, .unset, .unset] [(.int (1 : Int32))]))
      refine Go.on (fun t k => XS.istore X0.here hx rfl (hb hby at_215) rfl (l' := #[.val (.int x0), .val (.int x1), .val (.int x2), .val (.int len), .val (.int b0), .val (.int b1), .val (.int b2), .val (.int b3), .val (.int mode), .val (.int lab), .val (.ref a), .val (.int m0), .val (.int m1), .val (.int m2), .val (.int (1 : Int32)), .unset, .unset, .unset]) rfl k) ?_
      show Go p e below _ (T.setTop (mkF m 217 #[.val (.int x0), .val (.int x1), .val (.int x2), .val (.int len), .val (.int b0), .val (.int b1), .val (.int b2), .val (.int b3), .val (.int mode), .val (.int lab), .val (.ref a), .val (.int m0), .val (.int m1), .val (.int m2), .val (.int (1 : Int32)), .unset, .unset, .unset] []))
      have zi : (3 : Int32).toInt = 3 := by decide
      have hl := Int32.lt_iff_toInt_lt.mp hc200
      have ee : (own_m N (own_f b0 b1 b2 b3) lab 3) = (1 : Int32) := if_pos ⟨by omega, hc207⟩
      rw [ee] at k
      exact k
    · refine Go.on (fun t k => XS.icmpYes X0.here hx rfl (pc0 := 207) (pc' := 214) rfl (hb hby at_207) rfl (feq hc207).2 (by decide) (by decide) k) ?_
      show Go p e below _ (T.setTop (mkF m 214 #[.val (.int x0), .val (.int x1), .val (.int x2), .val (.int len), .val (.int b0), .val (.int b1), .val (.int b2), .val (.int b3), .val (.int mode), .val (.int lab), .val (.ref a), .val (.int m0), .val (.int m1), .val (.int m2), .unset, .unset, .unset, .unset] []))
      refine Go.on (fun t k => XS.iconst X0.here hx rfl (hb hby at_214) k) ?_
      show Go p e below _ (T.setTop (mkF m 215 #[.val (.int x0), .val (.int x1), .val (.int x2), .val (.int len), .val (.int b0), .val (.int b1), .val (.int b2), .val (.int b3), .val (.int mode), .val (.int lab), .val (.ref a), .val (.int m0), .val (.int m1), .val (.int m2), .unset, .unset, .unset, .unset] [(.int (0 : Int32))]))
      refine Go.on (fun t k => XS.istore X0.here hx rfl (hb hby at_215) rfl (l' := #[.val (.int x0), .val (.int x1), .val (.int x2), .val (.int len), .val (.int b0), .val (.int b1), .val (.int b2), .val (.int b3), .val (.int mode), .val (.int lab), .val (.ref a), .val (.int m0), .val (.int m1), .val (.int m2), .val (.int (0 : Int32)), .unset, .unset, .unset]) rfl k) ?_
      show Go p e below _ (T.setTop (mkF m 217 #[.val (.int x0), .val (.int x1), .val (.int x2), .val (.int len), .val (.int b0), .val (.int b1), .val (.int b2), .val (.int b3), .val (.int mode), .val (.int lab), .val (.ref a), .val (.int m0), .val (.int m1), .val (.int m2), .val (.int (0 : Int32)), .unset, .unset, .unset] []))
      have zi : (3 : Int32).toInt = 3 := by decide
      have hl := Int32.lt_iff_toInt_lt.mp hc200
      have ee : (own_m N (own_f b0 b1 b2 b3) lab 3) = (0 : Int32) := if_neg (fun u => hc207 u.2)
      rw [ee] at k
      exact k
  · refine Go.on (fun t k => XS.icmpYes X0.here hx rfl (pc0 := 200) (pc' := 214) rfl (hb hby at_200) rfl (flt hc200).2.2.2 (by decide) (by decide) k) ?_
    show Go p e below _ (T.setTop (mkF m 214 #[.val (.int x0), .val (.int x1), .val (.int x2), .val (.int len), .val (.int b0), .val (.int b1), .val (.int b2), .val (.int b3), .val (.int mode), .val (.int lab), .val (.ref a), .val (.int m0), .val (.int m1), .val (.int m2), .unset, .unset, .unset, .unset] []))
    refine Go.on (fun t k => XS.iconst X0.here hx rfl (hb hby at_214) k) ?_
    show Go p e below _ (T.setTop (mkF m 215 #[.val (.int x0), .val (.int x1), .val (.int x2), .val (.int len), .val (.int b0), .val (.int b1), .val (.int b2), .val (.int b3), .val (.int mode), .val (.int lab), .val (.ref a), .val (.int m0), .val (.int m1), .val (.int m2), .unset, .unset, .unset, .unset] [(.int (0 : Int32))]))
    refine Go.on (fun t k => XS.istore X0.here hx rfl (hb hby at_215) rfl (l' := #[.val (.int x0), .val (.int x1), .val (.int x2), .val (.int len), .val (.int b0), .val (.int b1), .val (.int b2), .val (.int b3), .val (.int mode), .val (.int lab), .val (.ref a), .val (.int m0), .val (.int m1), .val (.int m2), .val (.int (0 : Int32)), .unset, .unset, .unset]) rfl k) ?_
    show Go p e below _ (T.setTop (mkF m 217 #[.val (.int x0), .val (.int x1), .val (.int x2), .val (.int len), .val (.int b0), .val (.int b1), .val (.int b2), .val (.int b3), .val (.int mode), .val (.int lab), .val (.ref a), .val (.int m0), .val (.int m1), .val (.int m2), .val (.int (0 : Int32)), .unset, .unset, .unset] []))
    have zi : (3 : Int32).toInt = 3 := by decide
    have ee : (own_m N (own_f b0 b1 b2 b3) lab 3) = (0 : Int32) := if_neg (fun u => hc200 (Int32.lt_iff_toInt_lt.mpr (by omega)))
    rw [ee] at k
    exact k
set_option maxRecDepth 65536 in
set_option maxHeartbeats 4000000 in
theorem pT0 {p : Program} {l : Launch} {e : Env} {R : Room} {s : State} {m : MethodId} {args : Array Value} {below : List Frame} {meth : Method} {c : Code} {T : State} {locs : List Loc} {cells slots : Nat} {P : Outcome → State → Prop} (X0 : Stand p l e R s m args below meth c T locs cells slots) (hx : p.tables.exec = Jvm.exec) (hby : c.code = code) {x0 x1 x2 len b0 b1 b2 b3 mode lab m0 m1 m2 m3 : Int32} {a : Addr}
    (k : Go p e below P (T.setTop (mkF m 227 #[.val (.int x0), .val (.int x1), .val (.int x2), .val (.int len), .val (.int b0), .val (.int b1), .val (.int b2), .val (.int b3), .val (.int mode), .val (.int lab), .val (.ref a), .val (.int m0), .val (.int m1), .val (.int m2), .val (.int m3), .unset, .unset, .unset] [(.int (own_t m0))]))) :
    Go p e below P (T.setTop (mkF m 217 #[.val (.int x0), .val (.int x1), .val (.int x2), .val (.int len), .val (.int b0), .val (.int b1), .val (.int b2), .val (.int b3), .val (.int mode), .val (.int lab), .val (.ref a), .val (.int m0), .val (.int m1), .val (.int m2), .val (.int m3), .unset, .unset, .unset] [])) := by
  refine Go.on (fun t k => XS.iload X0.here hx rfl (hb hby at_217) rfl k) ?_
  show Go p e below _ (T.setTop (mkF m 219 #[.val (.int x0), .val (.int x1), .val (.int x2), .val (.int len), .val (.int b0), .val (.int b1), .val (.int b2), .val (.int b3), .val (.int mode), .val (.int lab), .val (.ref a), .val (.int m0), .val (.int m1), .val (.int m2), .val (.int m3), .unset, .unset, .unset] [(.int m0)]))
  by_cases hc219 : m0 = (0 : Int32)
  · refine Go.on (fun t k => XS.ifYes X0.here hx rfl (pc0 := 219) (pc' := 226) rfl (hb hby at_219) rfl ((if0 _ _).trans (teq hc219).1) (by decide) (by decide) k) ?_
    show Go p e below _ (T.setTop (mkF m 226 #[.val (.int x0), .val (.int x1), .val (.int x2), .val (.int len), .val (.int b0), .val (.int b1), .val (.int b2), .val (.int b3), .val (.int mode), .val (.int lab), .val (.ref a), .val (.int m0), .val (.int m1), .val (.int m2), .val (.int m3), .unset, .unset, .unset] []))
    refine Go.on (fun t k => XS.iconst X0.here hx rfl (hb hby at_226) k) ?_
    show Go p e below _ (T.setTop (mkF m 227 #[.val (.int x0), .val (.int x1), .val (.int x2), .val (.int len), .val (.int b0), .val (.int b1), .val (.int b2), .val (.int b3), .val (.int mode), .val (.int lab), .val (.ref a), .val (.int m0), .val (.int m1), .val (.int m2), .val (.int m3), .unset, .unset, .unset] [(.int (0 : Int32))]))
    have ee : own_t m0 = (0 : Int32) := if_pos hc219
    rw [ee] at k
    exact k
  · refine Go.on (fun t k => XS.ifNo X0.here hx rfl (hb hby at_219) rfl ((if0 _ _).trans (feq hc219).1) k) ?_
    show Go p e below _ (T.setTop (mkF m 222 #[.val (.int x0), .val (.int x1), .val (.int x2), .val (.int len), .val (.int b0), .val (.int b1), .val (.int b2), .val (.int b3), .val (.int mode), .val (.int lab), .val (.ref a), .val (.int m0), .val (.int m1), .val (.int m2), .val (.int m3), .unset, .unset, .unset] []))
    refine Go.on (fun t k => XS.iconst X0.here hx rfl (hb hby at_222) k) ?_
    show Go p e below _ (T.setTop (mkF m 223 #[.val (.int x0), .val (.int x1), .val (.int x2), .val (.int len), .val (.int b0), .val (.int b1), .val (.int b2), .val (.int b3), .val (.int mode), .val (.int lab), .val (.ref a), .val (.int m0), .val (.int m1), .val (.int m2), .val (.int m3), .unset, .unset, .unset] [(.int (1 : Int32))]))
    refine Go.on (fun t k => XS.goto X0.here hx rfl (pc0 := 223) (pc' := 227) rfl (hb hby at_223) (by decide) (by decide) k) ?_
    show Go p e below _ (T.setTop (mkF m 227 #[.val (.int x0), .val (.int x1), .val (.int x2), .val (.int len), .val (.int b0), .val (.int b1), .val (.int b2), .val (.int b3), .val (.int mode), .val (.int lab), .val (.ref a), .val (.int m0), .val (.int m1), .val (.int m2), .val (.int m3), .unset, .unset, .unset] [(.int (1 : Int32))]))
    have ee : own_t m0 = (1 : Int32) := if_neg hc219
    rw [ee] at k
    exact k
set_option maxRecDepth 65536 in
set_option maxHeartbeats 4000000 in
theorem pT1 {p : Program} {l : Launch} {e : Env} {R : Room} {s : State} {m : MethodId} {args : Array Value} {below : List Frame} {meth : Method} {c : Code} {T : State} {locs : List Loc} {cells slots : Nat} {P : Outcome → State → Prop} (X0 : Stand p l e R s m args below meth c T locs cells slots) (hx : p.tables.exec = Jvm.exec) (hby : c.code = code) {x0 x1 x2 len b0 b1 b2 b3 mode lab m0 m1 m2 m3 y : Int32} {a : Addr}
    (k : Go p e below P (T.setTop (mkF m 238 #[.val (.int x0), .val (.int x1), .val (.int x2), .val (.int len), .val (.int b0), .val (.int b1), .val (.int b2), .val (.int b3), .val (.int mode), .val (.int lab), .val (.ref a), .val (.int m0), .val (.int m1), .val (.int m2), .val (.int m3), .unset, .unset, .unset] [(.int (y + (own_t m1)))]))) :
    Go p e below P (T.setTop (mkF m 227 #[.val (.int x0), .val (.int x1), .val (.int x2), .val (.int len), .val (.int b0), .val (.int b1), .val (.int b2), .val (.int b3), .val (.int mode), .val (.int lab), .val (.ref a), .val (.int m0), .val (.int m1), .val (.int m2), .val (.int m3), .unset, .unset, .unset] [(.int y)])) := by
  refine Go.on (fun t k => XS.iload X0.here hx rfl (hb hby at_227) rfl k) ?_
  show Go p e below _ (T.setTop (mkF m 229 #[.val (.int x0), .val (.int x1), .val (.int x2), .val (.int len), .val (.int b0), .val (.int b1), .val (.int b2), .val (.int b3), .val (.int mode), .val (.int lab), .val (.ref a), .val (.int m0), .val (.int m1), .val (.int m2), .val (.int m3), .unset, .unset, .unset] [(.int m1), (.int y)]))
  by_cases hc229 : m1 = (0 : Int32)
  · refine Go.on (fun t k => XS.ifYes X0.here hx rfl (pc0 := 229) (pc' := 236) rfl (hb hby at_229) rfl ((if0 _ _).trans (teq hc229).1) (by decide) (by decide) k) ?_
    show Go p e below _ (T.setTop (mkF m 236 #[.val (.int x0), .val (.int x1), .val (.int x2), .val (.int len), .val (.int b0), .val (.int b1), .val (.int b2), .val (.int b3), .val (.int mode), .val (.int lab), .val (.ref a), .val (.int m0), .val (.int m1), .val (.int m2), .val (.int m3), .unset, .unset, .unset] [(.int y)]))
    refine Go.on (fun t k => XS.iconst X0.here hx rfl (hb hby at_236) k) ?_
    show Go p e below _ (T.setTop (mkF m 237 #[.val (.int x0), .val (.int x1), .val (.int x2), .val (.int len), .val (.int b0), .val (.int b1), .val (.int b2), .val (.int b3), .val (.int mode), .val (.int lab), .val (.ref a), .val (.int m0), .val (.int m1), .val (.int m2), .val (.int m3), .unset, .unset, .unset] [(.int (0 : Int32)), (.int y)]))
    refine Go.on (fun t k => XS.iadd X0.here hx rfl (hb hby at_237) rfl k) ?_
    show Go p e below _ (T.setTop (mkF m 238 #[.val (.int x0), .val (.int x1), .val (.int x2), .val (.int len), .val (.int b0), .val (.int b1), .val (.int b2), .val (.int b3), .val (.int mode), .val (.int lab), .val (.ref a), .val (.int m0), .val (.int m1), .val (.int m2), .val (.int m3), .unset, .unset, .unset] [(.int (y + (0 : Int32)))]))
    have ee : own_t m1 = (0 : Int32) := if_pos hc229
    rw [ee] at k
    exact k
  · refine Go.on (fun t k => XS.ifNo X0.here hx rfl (hb hby at_229) rfl ((if0 _ _).trans (feq hc229).1) k) ?_
    show Go p e below _ (T.setTop (mkF m 232 #[.val (.int x0), .val (.int x1), .val (.int x2), .val (.int len), .val (.int b0), .val (.int b1), .val (.int b2), .val (.int b3), .val (.int mode), .val (.int lab), .val (.ref a), .val (.int m0), .val (.int m1), .val (.int m2), .val (.int m3), .unset, .unset, .unset] [(.int y)]))
    refine Go.on (fun t k => XS.iconst X0.here hx rfl (hb hby at_232) k) ?_
    show Go p e below _ (T.setTop (mkF m 233 #[.val (.int x0), .val (.int x1), .val (.int x2), .val (.int len), .val (.int b0), .val (.int b1), .val (.int b2), .val (.int b3), .val (.int mode), .val (.int lab), .val (.ref a), .val (.int m0), .val (.int m1), .val (.int m2), .val (.int m3), .unset, .unset, .unset] [(.int (1 : Int32)), (.int y)]))
    refine Go.on (fun t k => XS.goto X0.here hx rfl (pc0 := 233) (pc' := 237) rfl (hb hby at_233) (by decide) (by decide) k) ?_
    show Go p e below _ (T.setTop (mkF m 237 #[.val (.int x0), .val (.int x1), .val (.int x2), .val (.int len), .val (.int b0), .val (.int b1), .val (.int b2), .val (.int b3), .val (.int mode), .val (.int lab), .val (.ref a), .val (.int m0), .val (.int m1), .val (.int m2), .val (.int m3), .unset, .unset, .unset] [(.int (1 : Int32)), (.int y)]))
    refine Go.on (fun t k => XS.iadd X0.here hx rfl (hb hby at_237) rfl k) ?_
    show Go p e below _ (T.setTop (mkF m 238 #[.val (.int x0), .val (.int x1), .val (.int x2), .val (.int len), .val (.int b0), .val (.int b1), .val (.int b2), .val (.int b3), .val (.int mode), .val (.int lab), .val (.ref a), .val (.int m0), .val (.int m1), .val (.int m2), .val (.int m3), .unset, .unset, .unset] [(.int (y + (1 : Int32)))]))
    have ee : own_t m1 = (1 : Int32) := if_neg hc229
    rw [ee] at k
    exact k
set_option maxRecDepth 65536 in
set_option maxHeartbeats 4000000 in
theorem pT2 {p : Program} {l : Launch} {e : Env} {R : Room} {s : State} {m : MethodId} {args : Array Value} {below : List Frame} {meth : Method} {c : Code} {T : State} {locs : List Loc} {cells slots : Nat} {P : Outcome → State → Prop} (X0 : Stand p l e R s m args below meth c T locs cells slots) (hx : p.tables.exec = Jvm.exec) (hby : c.code = code) {x0 x1 x2 len b0 b1 b2 b3 mode lab m0 m1 m2 m3 y : Int32} {a : Addr}
    (k : Go p e below P (T.setTop (mkF m 249 #[.val (.int x0), .val (.int x1), .val (.int x2), .val (.int len), .val (.int b0), .val (.int b1), .val (.int b2), .val (.int b3), .val (.int mode), .val (.int lab), .val (.ref a), .val (.int m0), .val (.int m1), .val (.int m2), .val (.int m3), .unset, .unset, .unset] [(.int (y + (own_t m2)))]))) :
    Go p e below P (T.setTop (mkF m 238 #[.val (.int x0), .val (.int x1), .val (.int x2), .val (.int len), .val (.int b0), .val (.int b1), .val (.int b2), .val (.int b3), .val (.int mode), .val (.int lab), .val (.ref a), .val (.int m0), .val (.int m1), .val (.int m2), .val (.int m3), .unset, .unset, .unset] [(.int y)])) := by
  refine Go.on (fun t k => XS.iload X0.here hx rfl (hb hby at_238) rfl k) ?_
  show Go p e below _ (T.setTop (mkF m 240 #[.val (.int x0), .val (.int x1), .val (.int x2), .val (.int len), .val (.int b0), .val (.int b1), .val (.int b2), .val (.int b3), .val (.int mode), .val (.int lab), .val (.ref a), .val (.int m0), .val (.int m1), .val (.int m2), .val (.int m3), .unset, .unset, .unset] [(.int m2), (.int y)]))
  by_cases hc240 : m2 = (0 : Int32)
  · refine Go.on (fun t k => XS.ifYes X0.here hx rfl (pc0 := 240) (pc' := 247) rfl (hb hby at_240) rfl ((if0 _ _).trans (teq hc240).1) (by decide) (by decide) k) ?_
    show Go p e below _ (T.setTop (mkF m 247 #[.val (.int x0), .val (.int x1), .val (.int x2), .val (.int len), .val (.int b0), .val (.int b1), .val (.int b2), .val (.int b3), .val (.int mode), .val (.int lab), .val (.ref a), .val (.int m0), .val (.int m1), .val (.int m2), .val (.int m3), .unset, .unset, .unset] [(.int y)]))
    refine Go.on (fun t k => XS.iconst X0.here hx rfl (hb hby at_247) k) ?_
    show Go p e below _ (T.setTop (mkF m 248 #[.val (.int x0), .val (.int x1), .val (.int x2), .val (.int len), .val (.int b0), .val (.int b1), .val (.int b2), .val (.int b3), .val (.int mode), .val (.int lab), .val (.ref a), .val (.int m0), .val (.int m1), .val (.int m2), .val (.int m3), .unset, .unset, .unset] [(.int (0 : Int32)), (.int y)]))
    refine Go.on (fun t k => XS.iadd X0.here hx rfl (hb hby at_248) rfl k) ?_
    show Go p e below _ (T.setTop (mkF m 249 #[.val (.int x0), .val (.int x1), .val (.int x2), .val (.int len), .val (.int b0), .val (.int b1), .val (.int b2), .val (.int b3), .val (.int mode), .val (.int lab), .val (.ref a), .val (.int m0), .val (.int m1), .val (.int m2), .val (.int m3), .unset, .unset, .unset] [(.int (y + (0 : Int32)))]))
    have ee : own_t m2 = (0 : Int32) := if_pos hc240
    rw [ee] at k
    exact k
  · refine Go.on (fun t k => XS.ifNo X0.here hx rfl (hb hby at_240) rfl ((if0 _ _).trans (feq hc240).1) k) ?_
    show Go p e below _ (T.setTop (mkF m 243 #[.val (.int x0), .val (.int x1), .val (.int x2), .val (.int len), .val (.int b0), .val (.int b1), .val (.int b2), .val (.int b3), .val (.int mode), .val (.int lab), .val (.ref a), .val (.int m0), .val (.int m1), .val (.int m2), .val (.int m3), .unset, .unset, .unset] [(.int y)]))
    refine Go.on (fun t k => XS.iconst X0.here hx rfl (hb hby at_243) k) ?_
    show Go p e below _ (T.setTop (mkF m 244 #[.val (.int x0), .val (.int x1), .val (.int x2), .val (.int len), .val (.int b0), .val (.int b1), .val (.int b2), .val (.int b3), .val (.int mode), .val (.int lab), .val (.ref a), .val (.int m0), .val (.int m1), .val (.int m2), .val (.int m3), .unset, .unset, .unset] [(.int (1 : Int32)), (.int y)]))
    refine Go.on (fun t k => XS.goto X0.here hx rfl (pc0 := 244) (pc' := 248) rfl (hb hby at_244) (by decide) (by decide) k) ?_
    show Go p e below _ (T.setTop (mkF m 248 #[.val (.int x0), .val (.int x1), .val (.int x2), .val (.int len), .val (.int b0), .val (.int b1), .val (.int b2), .val (.int b3), .val (.int mode), .val (.int lab), .val (.ref a), .val (.int m0), .val (.int m1), .val (.int m2), .val (.int m3), .unset, .unset, .unset] [(.int (1 : Int32)), (.int y)]))
    refine Go.on (fun t k => XS.iadd X0.here hx rfl (hb hby at_248) rfl k) ?_
    show Go p e below _ (T.setTop (mkF m 249 #[.val (.int x0), .val (.int x1), .val (.int x2), .val (.int len), .val (.int b0), .val (.int b1), .val (.int b2), .val (.int b3), .val (.int mode), .val (.int lab), .val (.ref a), .val (.int m0), .val (.int m1), .val (.int m2), .val (.int m3), .unset, .unset, .unset] [(.int (y + (1 : Int32)))]))
    have ee : own_t m2 = (1 : Int32) := if_neg hc240
    rw [ee] at k
    exact k
set_option maxRecDepth 65536 in
set_option maxHeartbeats 4000000 in
theorem pT3 {p : Program} {l : Launch} {e : Env} {R : Room} {s : State} {m : MethodId} {args : Array Value} {below : List Frame} {meth : Method} {c : Code} {T : State} {locs : List Loc} {cells slots : Nat} {P : Outcome → State → Prop} (X0 : Stand p l e R s m args below meth c T locs cells slots) (hx : p.tables.exec = Jvm.exec) (hby : c.code = code) {x0 x1 x2 len b0 b1 b2 b3 mode lab m0 m1 m2 m3 y : Int32} {a : Addr}
    (k : Go p e below P (T.setTop (mkF m 260 #[.val (.int x0), .val (.int x1), .val (.int x2), .val (.int len), .val (.int b0), .val (.int b1), .val (.int b2), .val (.int b3), .val (.int mode), .val (.int lab), .val (.ref a), .val (.int m0), .val (.int m1), .val (.int m2), .val (.int m3), .unset, .unset, .unset] [(.int (y + (own_t m3)))]))) :
    Go p e below P (T.setTop (mkF m 249 #[.val (.int x0), .val (.int x1), .val (.int x2), .val (.int len), .val (.int b0), .val (.int b1), .val (.int b2), .val (.int b3), .val (.int mode), .val (.int lab), .val (.ref a), .val (.int m0), .val (.int m1), .val (.int m2), .val (.int m3), .unset, .unset, .unset] [(.int y)])) := by
  refine Go.on (fun t k => XS.iload X0.here hx rfl (hb hby at_249) rfl k) ?_
  show Go p e below _ (T.setTop (mkF m 251 #[.val (.int x0), .val (.int x1), .val (.int x2), .val (.int len), .val (.int b0), .val (.int b1), .val (.int b2), .val (.int b3), .val (.int mode), .val (.int lab), .val (.ref a), .val (.int m0), .val (.int m1), .val (.int m2), .val (.int m3), .unset, .unset, .unset] [(.int m3), (.int y)]))
  by_cases hc251 : m3 = (0 : Int32)
  · refine Go.on (fun t k => XS.ifYes X0.here hx rfl (pc0 := 251) (pc' := 258) rfl (hb hby at_251) rfl ((if0 _ _).trans (teq hc251).1) (by decide) (by decide) k) ?_
    show Go p e below _ (T.setTop (mkF m 258 #[.val (.int x0), .val (.int x1), .val (.int x2), .val (.int len), .val (.int b0), .val (.int b1), .val (.int b2), .val (.int b3), .val (.int mode), .val (.int lab), .val (.ref a), .val (.int m0), .val (.int m1), .val (.int m2), .val (.int m3), .unset, .unset, .unset] [(.int y)]))
    refine Go.on (fun t k => XS.iconst X0.here hx rfl (hb hby at_258) k) ?_
    show Go p e below _ (T.setTop (mkF m 259 #[.val (.int x0), .val (.int x1), .val (.int x2), .val (.int len), .val (.int b0), .val (.int b1), .val (.int b2), .val (.int b3), .val (.int mode), .val (.int lab), .val (.ref a), .val (.int m0), .val (.int m1), .val (.int m2), .val (.int m3), .unset, .unset, .unset] [(.int (0 : Int32)), (.int y)]))
    refine Go.on (fun t k => XS.iadd X0.here hx rfl (hb hby at_259) rfl k) ?_
    show Go p e below _ (T.setTop (mkF m 260 #[.val (.int x0), .val (.int x1), .val (.int x2), .val (.int len), .val (.int b0), .val (.int b1), .val (.int b2), .val (.int b3), .val (.int mode), .val (.int lab), .val (.ref a), .val (.int m0), .val (.int m1), .val (.int m2), .val (.int m3), .unset, .unset, .unset] [(.int (y + (0 : Int32)))]))
    have ee : own_t m3 = (0 : Int32) := if_pos hc251
    rw [ee] at k
    exact k
  · refine Go.on (fun t k => XS.ifNo X0.here hx rfl (hb hby at_251) rfl ((if0 _ _).trans (feq hc251).1) k) ?_
    show Go p e below _ (T.setTop (mkF m 254 #[.val (.int x0), .val (.int x1), .val (.int x2), .val (.int len), .val (.int b0), .val (.int b1), .val (.int b2), .val (.int b3), .val (.int mode), .val (.int lab), .val (.ref a), .val (.int m0), .val (.int m1), .val (.int m2), .val (.int m3), .unset, .unset, .unset] [(.int y)]))
    refine Go.on (fun t k => XS.iconst X0.here hx rfl (hb hby at_254) k) ?_
    show Go p e below _ (T.setTop (mkF m 255 #[.val (.int x0), .val (.int x1), .val (.int x2), .val (.int len), .val (.int b0), .val (.int b1), .val (.int b2), .val (.int b3), .val (.int mode), .val (.int lab), .val (.ref a), .val (.int m0), .val (.int m1), .val (.int m2), .val (.int m3), .unset, .unset, .unset] [(.int (1 : Int32)), (.int y)]))
    refine Go.on (fun t k => XS.goto X0.here hx rfl (pc0 := 255) (pc' := 259) rfl (hb hby at_255) (by decide) (by decide) k) ?_
    show Go p e below _ (T.setTop (mkF m 259 #[.val (.int x0), .val (.int x1), .val (.int x2), .val (.int len), .val (.int b0), .val (.int b1), .val (.int b2), .val (.int b3), .val (.int mode), .val (.int lab), .val (.ref a), .val (.int m0), .val (.int m1), .val (.int m2), .val (.int m3), .unset, .unset, .unset] [(.int (1 : Int32)), (.int y)]))
    refine Go.on (fun t k => XS.iadd X0.here hx rfl (hb hby at_259) rfl k) ?_
    show Go p e below _ (T.setTop (mkF m 260 #[.val (.int x0), .val (.int x1), .val (.int x2), .val (.int len), .val (.int b0), .val (.int b1), .val (.int b2), .val (.int b3), .val (.int mode), .val (.int lab), .val (.ref a), .val (.int m0), .val (.int m1), .val (.int m2), .val (.int m3), .unset, .unset, .unset] [(.int (y + (1 : Int32)))]))
    have ee : own_t m3 = (1 : Int32) := if_neg hc251
    rw [ee] at k
    exact k
set_option maxRecDepth 65536 in
set_option maxHeartbeats 4000000 in
theorem pR0 {p : Program} {l : Launch} {e : Env} {R : Room} {s : State} {m : MethodId} {args : Array Value} {below : List Frame} {meth : Method} {c : Code} {T : State} {locs : List Loc} {cells slots : Nat} {P : Outcome → State → Prop} (X0 : Stand p l e R s m args below meth c T locs cells slots) (hx : p.tables.exec = Jvm.exec) (hby : c.code = code) {x0 x1 x2 len b0 b1 b2 b3 mode lab m0 m1 m2 m3 ct : Int32} {a r : Addr} {Z : State} {h : Heap} {N : Nat} (hZ : Z.Warmed39 s.vm) (e0 : T.heap = h) (hL : len.toInt = (N : Int)) (F0 : BA Z h a .byte N (fun j => .int ((own_f b0 b1 b2 b3) j)))
    (k : Go p e below P (T.setTop (mkF m 303 #[.val (.int x0), .val (.int x1), .val (.int x2), .val (.int len), .val (.int b0), .val (.int b1), .val (.int b2), .val (.int b3), .val (.int mode), .val (.int lab), .val (.ref a), .val (.int m0), .val (.int m1), .val (.int m2), .val (.int m3), .val (.int ct), .val (.ref r), .unset] []))) :
    Go p e below P (T.setTop (mkF m 288 #[.val (.int x0), .val (.int x1), .val (.int x2), .val (.int len), .val (.int b0), .val (.int b1), .val (.int b2), .val (.int b3), .val (.int mode), .val (.int lab), .val (.ref a), .val (.int m0), .val (.int m1), .val (.int m2), .val (.int m3), .val (.int ct), .val (.ref r), .unset] [])) := by
  refine Go.on (fun t k => XS.iloadN X0.here hx rfl (hb hby at_288) rfl k) ?_
  show Go p e below _ (T.setTop (mkF m 289 #[.val (.int x0), .val (.int x1), .val (.int x2), .val (.int len), .val (.int b0), .val (.int b1), .val (.int b2), .val (.int b3), .val (.int mode), .val (.int lab), .val (.ref a), .val (.int m0), .val (.int m1), .val (.int m2), .val (.int m3), .val (.int ct), .val (.ref r), .unset] [(.int len)]))
  by_cases hc289 : (0 : Int32) < len
  · refine Go.on (fun t k => XS.ifNo X0.here hx rfl (hb hby at_289) rfl ((if0 _ _).trans (tlt hc289).2.2.2) k) ?_
    show Go p e below _ (T.setTop (mkF m 292 #[.val (.int x0), .val (.int x1), .val (.int x2), .val (.int len), .val (.int b0), .val (.int b1), .val (.int b2), .val (.int b3), .val (.int mode), .val (.int lab), .val (.ref a), .val (.int m0), .val (.int m1), .val (.int m2), .val (.int m3), .val (.int ct), .val (.ref r), .unset] []))
    refine Go.on (fun t k => XS.aload X0.here hx rfl (hb hby at_292) rfl rfl k) ?_
    show Go p e below _ (T.setTop (mkF m 294 #[.val (.int x0), .val (.int x1), .val (.int x2), .val (.int len), .val (.int b0), .val (.int b1), .val (.int b2), .val (.int b3), .val (.int mode), .val (.int lab), .val (.ref a), .val (.int m0), .val (.int m1), .val (.int m2), .val (.int m3), .val (.int ct), .val (.ref r), .unset] [(.ref a)]))
    refine Go.on (fun t k => XS.iconst X0.here hx rfl (hb hby at_294) k) ?_
    show Go p e below _ (T.setTop (mkF m 295 #[.val (.int x0), .val (.int x1), .val (.int x2), .val (.int len), .val (.int b0), .val (.int b1), .val (.int b2), .val (.int b3), .val (.int mode), .val (.int lab), .val (.ref a), .val (.int m0), .val (.int m1), .val (.int m2), .val (.int m3), .val (.int ct), .val (.ref r), .unset] [(.int (0 : Int32)), (.ref a)]))
    have zi : (0 : Int32).toInt = 0 := by decide
    refine Go.ldB X0 hx hZ e0 F0 (i := 0) (by decide) (by decide) (by have := Int32.lt_iff_toInt_lt.mp hc289; omega) (hb hby at_295) ?_
    show Go p e below _ (T.setTop (mkF m 296 #[.val (.int x0), .val (.int x1), .val (.int x2), .val (.int len), .val (.int b0), .val (.int b1), .val (.int b2), .val (.int b3), .val (.int mode), .val (.int lab), .val (.ref a), .val (.int m0), .val (.int m1), .val (.int m2), .val (.int m3), .val (.int ct), .val (.ref r), .unset] [(.int b0)]))
    refine Go.on (fun t k => XS.iload X0.here hx rfl (hb hby at_296) rfl k) ?_
    show Go p e below _ (T.setTop (mkF m 298 #[.val (.int x0), .val (.int x1), .val (.int x2), .val (.int len), .val (.int b0), .val (.int b1), .val (.int b2), .val (.int b3), .val (.int mode), .val (.int lab), .val (.ref a), .val (.int m0), .val (.int m1), .val (.int m2), .val (.int m3), .val (.int ct), .val (.ref r), .unset] [(.int b0), (.int b0)]))
    refine Go.on (fun t k => XS.icmpYes X0.here hx rfl (pc0 := 298) (pc' := 303) rfl (hb hby at_298) rfl (teq (rfl : b0 = b0)).1 (by decide) (by decide) k) ?_
    show Go p e below _ (T.setTop (mkF m 303 #[.val (.int x0), .val (.int x1), .val (.int x2), .val (.int len), .val (.int b0), .val (.int b1), .val (.int b2), .val (.int b3), .val (.int mode), .val (.int lab), .val (.ref a), .val (.int m0), .val (.int m1), .val (.int m2), .val (.int m3), .val (.int ct), .val (.ref r), .unset] []))
    exact k
  · refine Go.on (fun t k => XS.ifYes X0.here hx rfl (pc0 := 289) (pc' := 303) rfl (hb hby at_289) rfl ((if0 _ _).trans (flt hc289).2.2.2) (by decide) (by decide) k) ?_
    show Go p e below _ (T.setTop (mkF m 303 #[.val (.int x0), .val (.int x1), .val (.int x2), .val (.int len), .val (.int b0), .val (.int b1), .val (.int b2), .val (.int b3), .val (.int mode), .val (.int lab), .val (.ref a), .val (.int m0), .val (.int m1), .val (.int m2), .val (.int m3), .val (.int ct), .val (.ref r), .unset] []))
    exact k
set_option maxRecDepth 65536 in
set_option maxHeartbeats 4000000 in
theorem pR1 {p : Program} {l : Launch} {e : Env} {R : Room} {s : State} {m : MethodId} {args : Array Value} {below : List Frame} {meth : Method} {c : Code} {T : State} {locs : List Loc} {cells slots : Nat} {P : Outcome → State → Prop} (X0 : Stand p l e R s m args below meth c T locs cells slots) (hx : p.tables.exec = Jvm.exec) (hby : c.code = code) {x0 x1 x2 len b0 b1 b2 b3 mode lab m0 m1 m2 m3 ct : Int32} {a r : Addr} {Z : State} {h : Heap} {N : Nat} (hZ : Z.Warmed39 s.vm) (e0 : T.heap = h) (hL : len.toInt = (N : Int)) (F0 : BA Z h a .byte N (fun j => .int ((own_f b0 b1 b2 b3) j)))
    (k : Go p e below P (T.setTop (mkF m 319 #[.val (.int x0), .val (.int x1), .val (.int x2), .val (.int len), .val (.int b0), .val (.int b1), .val (.int b2), .val (.int b3), .val (.int mode), .val (.int lab), .val (.ref a), .val (.int m0), .val (.int m1), .val (.int m2), .val (.int m3), .val (.int ct), .val (.ref r), .unset] []))) :
    Go p e below P (T.setTop (mkF m 303 #[.val (.int x0), .val (.int x1), .val (.int x2), .val (.int len), .val (.int b0), .val (.int b1), .val (.int b2), .val (.int b3), .val (.int mode), .val (.int lab), .val (.ref a), .val (.int m0), .val (.int m1), .val (.int m2), .val (.int m3), .val (.int ct), .val (.ref r), .unset] [])) := by
  refine Go.on (fun t k => XS.iloadN X0.here hx rfl (hb hby at_303) rfl k) ?_
  show Go p e below _ (T.setTop (mkF m 304 #[.val (.int x0), .val (.int x1), .val (.int x2), .val (.int len), .val (.int b0), .val (.int b1), .val (.int b2), .val (.int b3), .val (.int mode), .val (.int lab), .val (.ref a), .val (.int m0), .val (.int m1), .val (.int m2), .val (.int m3), .val (.int ct), .val (.ref r), .unset] [(.int len)]))
  refine Go.on (fun t k => XS.iconst X0.here hx rfl (hb hby at_304) k) ?_
  show Go p e below _ (T.setTop (mkF m 305 #[.val (.int x0), .val (.int x1), .val (.int x2), .val (.int len), .val (.int b0), .val (.int b1), .val (.int b2), .val (.int b3), .val (.int mode), .val (.int lab), .val (.ref a), .val (.int m0), .val (.int m1), .val (.int m2), .val (.int m3), .val (.int ct), .val (.ref r), .unset] [(.int (1 : Int32)), (.int len)]))
  by_cases hc305 : (1 : Int32) < len
  · refine Go.on (fun t k => XS.icmpNo X0.here hx rfl (hb hby at_305) rfl (tlt hc305).2.2.2 k) ?_
    show Go p e below _ (T.setTop (mkF m 308 #[.val (.int x0), .val (.int x1), .val (.int x2), .val (.int len), .val (.int b0), .val (.int b1), .val (.int b2), .val (.int b3), .val (.int mode), .val (.int lab), .val (.ref a), .val (.int m0), .val (.int m1), .val (.int m2), .val (.int m3), .val (.int ct), .val (.ref r), .unset] []))
    refine Go.on (fun t k => XS.aload X0.here hx rfl (hb hby at_308) rfl rfl k) ?_
    show Go p e below _ (T.setTop (mkF m 310 #[.val (.int x0), .val (.int x1), .val (.int x2), .val (.int len), .val (.int b0), .val (.int b1), .val (.int b2), .val (.int b3), .val (.int mode), .val (.int lab), .val (.ref a), .val (.int m0), .val (.int m1), .val (.int m2), .val (.int m3), .val (.int ct), .val (.ref r), .unset] [(.ref a)]))
    refine Go.on (fun t k => XS.iconst X0.here hx rfl (hb hby at_310) k) ?_
    show Go p e below _ (T.setTop (mkF m 311 #[.val (.int x0), .val (.int x1), .val (.int x2), .val (.int len), .val (.int b0), .val (.int b1), .val (.int b2), .val (.int b3), .val (.int mode), .val (.int lab), .val (.ref a), .val (.int m0), .val (.int m1), .val (.int m2), .val (.int m3), .val (.int ct), .val (.ref r), .unset] [(.int (1 : Int32)), (.ref a)]))
    have zi : (1 : Int32).toInt = 1 := by decide
    refine Go.ldB X0 hx hZ e0 F0 (i := 1) (by decide) (by decide) (by have := Int32.lt_iff_toInt_lt.mp hc305; omega) (hb hby at_311) ?_
    show Go p e below _ (T.setTop (mkF m 312 #[.val (.int x0), .val (.int x1), .val (.int x2), .val (.int len), .val (.int b0), .val (.int b1), .val (.int b2), .val (.int b3), .val (.int mode), .val (.int lab), .val (.ref a), .val (.int m0), .val (.int m1), .val (.int m2), .val (.int m3), .val (.int ct), .val (.ref r), .unset] [(.int b1)]))
    refine Go.on (fun t k => XS.iload X0.here hx rfl (hb hby at_312) rfl k) ?_
    show Go p e below _ (T.setTop (mkF m 314 #[.val (.int x0), .val (.int x1), .val (.int x2), .val (.int len), .val (.int b0), .val (.int b1), .val (.int b2), .val (.int b3), .val (.int mode), .val (.int lab), .val (.ref a), .val (.int m0), .val (.int m1), .val (.int m2), .val (.int m3), .val (.int ct), .val (.ref r), .unset] [(.int b1), (.int b1)]))
    refine Go.on (fun t k => XS.icmpYes X0.here hx rfl (pc0 := 314) (pc' := 319) rfl (hb hby at_314) rfl (teq (rfl : b1 = b1)).1 (by decide) (by decide) k) ?_
    show Go p e below _ (T.setTop (mkF m 319 #[.val (.int x0), .val (.int x1), .val (.int x2), .val (.int len), .val (.int b0), .val (.int b1), .val (.int b2), .val (.int b3), .val (.int mode), .val (.int lab), .val (.ref a), .val (.int m0), .val (.int m1), .val (.int m2), .val (.int m3), .val (.int ct), .val (.ref r), .unset] []))
    exact k
  · refine Go.on (fun t k => XS.icmpYes X0.here hx rfl (pc0 := 305) (pc' := 319) rfl (hb hby at_305) rfl (flt hc305).2.2.2 (by decide) (by decide) k) ?_
    show Go p e below _ (T.setTop (mkF m 319 #[.val (.int x0), .val (.int x1), .val (.int x2), .val (.int len), .val (.int b0), .val (.int b1), .val (.int b2), .val (.int b3), .val (.int mode), .val (.int lab), .val (.ref a), .val (.int m0), .val (.int m1), .val (.int m2), .val (.int m3), .val (.int ct), .val (.ref r), .unset] []))
    exact k
set_option maxRecDepth 65536 in
set_option maxHeartbeats 4000000 in
theorem pR2 {p : Program} {l : Launch} {e : Env} {R : Room} {s : State} {m : MethodId} {args : Array Value} {below : List Frame} {meth : Method} {c : Code} {T : State} {locs : List Loc} {cells slots : Nat} {P : Outcome → State → Prop} (X0 : Stand p l e R s m args below meth c T locs cells slots) (hx : p.tables.exec = Jvm.exec) (hby : c.code = code) {x0 x1 x2 len b0 b1 b2 b3 mode lab m0 m1 m2 m3 ct : Int32} {a r : Addr} {Z : State} {h : Heap} {N : Nat} (hZ : Z.Warmed39 s.vm) (e0 : T.heap = h) (hL : len.toInt = (N : Int)) (F0 : BA Z h a .byte N (fun j => .int ((own_f b0 b1 b2 b3) j)))
    (k : Go p e below P (T.setTop (mkF m 335 #[.val (.int x0), .val (.int x1), .val (.int x2), .val (.int len), .val (.int b0), .val (.int b1), .val (.int b2), .val (.int b3), .val (.int mode), .val (.int lab), .val (.ref a), .val (.int m0), .val (.int m1), .val (.int m2), .val (.int m3), .val (.int ct), .val (.ref r), .unset] []))) :
    Go p e below P (T.setTop (mkF m 319 #[.val (.int x0), .val (.int x1), .val (.int x2), .val (.int len), .val (.int b0), .val (.int b1), .val (.int b2), .val (.int b3), .val (.int mode), .val (.int lab), .val (.ref a), .val (.int m0), .val (.int m1), .val (.int m2), .val (.int m3), .val (.int ct), .val (.ref r), .unset] [])) := by
  refine Go.on (fun t k => XS.iloadN X0.here hx rfl (hb hby at_319) rfl k) ?_
  show Go p e below _ (T.setTop (mkF m 320 #[.val (.int x0), .val (.int x1), .val (.int x2), .val (.int len), .val (.int b0), .val (.int b1), .val (.int b2), .val (.int b3), .val (.int mode), .val (.int lab), .val (.ref a), .val (.int m0), .val (.int m1), .val (.int m2), .val (.int m3), .val (.int ct), .val (.ref r), .unset] [(.int len)]))
  refine Go.on (fun t k => XS.iconst X0.here hx rfl (hb hby at_320) k) ?_
  show Go p e below _ (T.setTop (mkF m 321 #[.val (.int x0), .val (.int x1), .val (.int x2), .val (.int len), .val (.int b0), .val (.int b1), .val (.int b2), .val (.int b3), .val (.int mode), .val (.int lab), .val (.ref a), .val (.int m0), .val (.int m1), .val (.int m2), .val (.int m3), .val (.int ct), .val (.ref r), .unset] [(.int (2 : Int32)), (.int len)]))
  by_cases hc321 : (2 : Int32) < len
  · refine Go.on (fun t k => XS.icmpNo X0.here hx rfl (hb hby at_321) rfl (tlt hc321).2.2.2 k) ?_
    show Go p e below _ (T.setTop (mkF m 324 #[.val (.int x0), .val (.int x1), .val (.int x2), .val (.int len), .val (.int b0), .val (.int b1), .val (.int b2), .val (.int b3), .val (.int mode), .val (.int lab), .val (.ref a), .val (.int m0), .val (.int m1), .val (.int m2), .val (.int m3), .val (.int ct), .val (.ref r), .unset] []))
    refine Go.on (fun t k => XS.aload X0.here hx rfl (hb hby at_324) rfl rfl k) ?_
    show Go p e below _ (T.setTop (mkF m 326 #[.val (.int x0), .val (.int x1), .val (.int x2), .val (.int len), .val (.int b0), .val (.int b1), .val (.int b2), .val (.int b3), .val (.int mode), .val (.int lab), .val (.ref a), .val (.int m0), .val (.int m1), .val (.int m2), .val (.int m3), .val (.int ct), .val (.ref r), .unset] [(.ref a)]))
    refine Go.on (fun t k => XS.iconst X0.here hx rfl (hb hby at_326) k) ?_
    show Go p e below _ (T.setTop (mkF m 327 #[.val (.int x0), .val (.int x1), .val (.int x2), .val (.int len), .val (.int b0), .val (.int b1), .val (.int b2), .val (.int b3), .val (.int mode), .val (.int lab), .val (.ref a), .val (.int m0), .val (.int m1), .val (.int m2), .val (.int m3), .val (.int ct), .val (.ref r), .unset] [(.int (2 : Int32)), (.ref a)]))
    have zi : (2 : Int32).toInt = 2 := by decide
    refine Go.ldB X0 hx hZ e0 F0 (i := 2) (by decide) (by decide) (by have := Int32.lt_iff_toInt_lt.mp hc321; omega) (hb hby at_327) ?_
    show Go p e below _ (T.setTop (mkF m 328 #[.val (.int x0), .val (.int x1), .val (.int x2), .val (.int len), .val (.int b0), .val (.int b1), .val (.int b2), .val (.int b3), .val (.int mode), .val (.int lab), .val (.ref a), .val (.int m0), .val (.int m1), .val (.int m2), .val (.int m3), .val (.int ct), .val (.ref r), .unset] [(.int b2)]))
    refine Go.on (fun t k => XS.iload X0.here hx rfl (hb hby at_328) rfl k) ?_
    show Go p e below _ (T.setTop (mkF m 330 #[.val (.int x0), .val (.int x1), .val (.int x2), .val (.int len), .val (.int b0), .val (.int b1), .val (.int b2), .val (.int b3), .val (.int mode), .val (.int lab), .val (.ref a), .val (.int m0), .val (.int m1), .val (.int m2), .val (.int m3), .val (.int ct), .val (.ref r), .unset] [(.int b2), (.int b2)]))
    refine Go.on (fun t k => XS.icmpYes X0.here hx rfl (pc0 := 330) (pc' := 335) rfl (hb hby at_330) rfl (teq (rfl : b2 = b2)).1 (by decide) (by decide) k) ?_
    show Go p e below _ (T.setTop (mkF m 335 #[.val (.int x0), .val (.int x1), .val (.int x2), .val (.int len), .val (.int b0), .val (.int b1), .val (.int b2), .val (.int b3), .val (.int mode), .val (.int lab), .val (.ref a), .val (.int m0), .val (.int m1), .val (.int m2), .val (.int m3), .val (.int ct), .val (.ref r), .unset] []))
    exact k
  · refine Go.on (fun t k => XS.icmpYes X0.here hx rfl (pc0 := 321) (pc' := 335) rfl (hb hby at_321) rfl (flt hc321).2.2.2 (by decide) (by decide) k) ?_
    show Go p e below _ (T.setTop (mkF m 335 #[.val (.int x0), .val (.int x1), .val (.int x2), .val (.int len), .val (.int b0), .val (.int b1), .val (.int b2), .val (.int b3), .val (.int mode), .val (.int lab), .val (.ref a), .val (.int m0), .val (.int m1), .val (.int m2), .val (.int m3), .val (.int ct), .val (.ref r), .unset] []))
    exact k
set_option maxRecDepth 65536 in
set_option maxHeartbeats 4000000 in
theorem pR3 {p : Program} {l : Launch} {e : Env} {R : Room} {s : State} {m : MethodId} {args : Array Value} {below : List Frame} {meth : Method} {c : Code} {T : State} {locs : List Loc} {cells slots : Nat} {P : Outcome → State → Prop} (X0 : Stand p l e R s m args below meth c T locs cells slots) (hx : p.tables.exec = Jvm.exec) (hby : c.code = code) {x0 x1 x2 len b0 b1 b2 b3 mode lab m0 m1 m2 m3 ct : Int32} {a r : Addr} {Z : State} {h : Heap} {N : Nat} (hZ : Z.Warmed39 s.vm) (e0 : T.heap = h) (hL : len.toInt = (N : Int)) (F0 : BA Z h a .byte N (fun j => .int ((own_f b0 b1 b2 b3) j)))
    (k : Go p e below P (T.setTop (mkF m 351 #[.val (.int x0), .val (.int x1), .val (.int x2), .val (.int len), .val (.int b0), .val (.int b1), .val (.int b2), .val (.int b3), .val (.int mode), .val (.int lab), .val (.ref a), .val (.int m0), .val (.int m1), .val (.int m2), .val (.int m3), .val (.int ct), .val (.ref r), .unset] []))) :
    Go p e below P (T.setTop (mkF m 335 #[.val (.int x0), .val (.int x1), .val (.int x2), .val (.int len), .val (.int b0), .val (.int b1), .val (.int b2), .val (.int b3), .val (.int mode), .val (.int lab), .val (.ref a), .val (.int m0), .val (.int m1), .val (.int m2), .val (.int m3), .val (.int ct), .val (.ref r), .unset] [])) := by
  refine Go.on (fun t k => XS.iloadN X0.here hx rfl (hb hby at_335) rfl k) ?_
  show Go p e below _ (T.setTop (mkF m 336 #[.val (.int x0), .val (.int x1), .val (.int x2), .val (.int len), .val (.int b0), .val (.int b1), .val (.int b2), .val (.int b3), .val (.int mode), .val (.int lab), .val (.ref a), .val (.int m0), .val (.int m1), .val (.int m2), .val (.int m3), .val (.int ct), .val (.ref r), .unset] [(.int len)]))
  refine Go.on (fun t k => XS.iconst X0.here hx rfl (hb hby at_336) k) ?_
  show Go p e below _ (T.setTop (mkF m 337 #[.val (.int x0), .val (.int x1), .val (.int x2), .val (.int len), .val (.int b0), .val (.int b1), .val (.int b2), .val (.int b3), .val (.int mode), .val (.int lab), .val (.ref a), .val (.int m0), .val (.int m1), .val (.int m2), .val (.int m3), .val (.int ct), .val (.ref r), .unset] [(.int (3 : Int32)), (.int len)]))
  by_cases hc337 : (3 : Int32) < len
  · refine Go.on (fun t k => XS.icmpNo X0.here hx rfl (hb hby at_337) rfl (tlt hc337).2.2.2 k) ?_
    show Go p e below _ (T.setTop (mkF m 340 #[.val (.int x0), .val (.int x1), .val (.int x2), .val (.int len), .val (.int b0), .val (.int b1), .val (.int b2), .val (.int b3), .val (.int mode), .val (.int lab), .val (.ref a), .val (.int m0), .val (.int m1), .val (.int m2), .val (.int m3), .val (.int ct), .val (.ref r), .unset] []))
    refine Go.on (fun t k => XS.aload X0.here hx rfl (hb hby at_340) rfl rfl k) ?_
    show Go p e below _ (T.setTop (mkF m 342 #[.val (.int x0), .val (.int x1), .val (.int x2), .val (.int len), .val (.int b0), .val (.int b1), .val (.int b2), .val (.int b3), .val (.int mode), .val (.int lab), .val (.ref a), .val (.int m0), .val (.int m1), .val (.int m2), .val (.int m3), .val (.int ct), .val (.ref r), .unset] [(.ref a)]))
    refine Go.on (fun t k => XS.iconst X0.here hx rfl (hb hby at_342) k) ?_
    show Go p e below _ (T.setTop (mkF m 343 #[.val (.int x0), .val (.int x1), .val (.int x2), .val (.int len), .val (.int b0), .val (.int b1), .val (.int b2), .val (.int b3), .val (.int mode), .val (.int lab), .val (.ref a), .val (.int m0), .val (.int m1), .val (.int m2), .val (.int m3), .val (.int ct), .val (.ref r), .unset] [(.int (3 : Int32)), (.ref a)]))
    have zi : (3 : Int32).toInt = 3 := by decide
    refine Go.ldB X0 hx hZ e0 F0 (i := 3) (by decide) (by decide) (by have := Int32.lt_iff_toInt_lt.mp hc337; omega) (hb hby at_343) ?_
    show Go p e below _ (T.setTop (mkF m 344 #[.val (.int x0), .val (.int x1), .val (.int x2), .val (.int len), .val (.int b0), .val (.int b1), .val (.int b2), .val (.int b3), .val (.int mode), .val (.int lab), .val (.ref a), .val (.int m0), .val (.int m1), .val (.int m2), .val (.int m3), .val (.int ct), .val (.ref r), .unset] [(.int b3)]))
    refine Go.on (fun t k => XS.iload X0.here hx rfl (hb hby at_344) rfl k) ?_
    show Go p e below _ (T.setTop (mkF m 346 #[.val (.int x0), .val (.int x1), .val (.int x2), .val (.int len), .val (.int b0), .val (.int b1), .val (.int b2), .val (.int b3), .val (.int mode), .val (.int lab), .val (.ref a), .val (.int m0), .val (.int m1), .val (.int m2), .val (.int m3), .val (.int ct), .val (.ref r), .unset] [(.int b3), (.int b3)]))
    refine Go.on (fun t k => XS.icmpYes X0.here hx rfl (pc0 := 346) (pc' := 351) rfl (hb hby at_346) rfl (teq (rfl : b3 = b3)).1 (by decide) (by decide) k) ?_
    show Go p e below _ (T.setTop (mkF m 351 #[.val (.int x0), .val (.int x1), .val (.int x2), .val (.int len), .val (.int b0), .val (.int b1), .val (.int b2), .val (.int b3), .val (.int mode), .val (.int lab), .val (.ref a), .val (.int m0), .val (.int m1), .val (.int m2), .val (.int m3), .val (.int ct), .val (.ref r), .unset] []))
    exact k
  · refine Go.on (fun t k => XS.icmpYes X0.here hx rfl (pc0 := 337) (pc' := 351) rfl (hb hby at_337) rfl (flt hc337).2.2.2 (by decide) (by decide) k) ?_
    show Go p e below _ (T.setTop (mkF m 351 #[.val (.int x0), .val (.int x1), .val (.int x2), .val (.int len), .val (.int b0), .val (.int b1), .val (.int b2), .val (.int b3), .val (.int mode), .val (.int lab), .val (.ref a), .val (.int m0), .val (.int m1), .val (.int m2), .val (.int m3), .val (.int ct), .val (.ref r), .unset] []))
    exact k
set_option maxRecDepth 65536 in
set_option maxHeartbeats 4000000 in
theorem pK0 {p : Program} {l : Launch} {e : Env} {R : Room} {s : State} {m : MethodId} {args : Array Value} {below : List Frame} {meth : Method} {c : Code} {T : State} {locs : List Loc} {cells slots : Nat} {P : Outcome → State → Prop} (X0 : Stand p l e R s m args below meth c T locs cells slots) (hx : p.tables.exec = Jvm.exec) (hby : c.code = code) {x0 x1 x2 len b0 b1 b2 b3 mode lab m1 m2 m3 ct : Int32} {a r : Addr} {Z : State} {h : Heap} {N : Nat} {G : Nat → Value} (hZ : Z.Warmed39 s.vm) (e0 : T.heap = h) (F0 : BA Z h r .int (cnt N (own_f b0 b1 b2 b3) lab N) G) (hG : ∀ j, j < N ∧ (own_f b0 b1 b2 b3) j = lab → G (cnt N (own_f b0 b1 b2 b3) lab j) = .int (Int32.ofNat j))
    (k : Go p e below P (T.setTop (mkF m 372 #[.val (.int x0), .val (.int x1), .val (.int x2), .val (.int len), .val (.int b0), .val (.int b1), .val (.int b2), .val (.int b3), .val (.int mode), .val (.int lab), .val (.ref a), .val (.int (own_m N (own_f b0 b1 b2 b3) lab 0)), .val (.int m1), .val (.int m2), .val (.int m3), .val (.int ct), .val (.ref r), .val (.int (Int32.ofNat (cnt N (own_f b0 b1 b2 b3) lab 1)))] []))) :
    Go p e below P (T.setTop (mkF m 354 #[.val (.int x0), .val (.int x1), .val (.int x2), .val (.int len), .val (.int b0), .val (.int b1), .val (.int b2), .val (.int b3), .val (.int mode), .val (.int lab), .val (.ref a), .val (.int (own_m N (own_f b0 b1 b2 b3) lab 0)), .val (.int m1), .val (.int m2), .val (.int m3), .val (.int ct), .val (.ref r), .val (.int (Int32.ofNat (cnt N (own_f b0 b1 b2 b3) lab 0)))] [])) := by
  refine Go.on (fun t k => XS.iload X0.here hx rfl (hb hby at_354) rfl k) ?_
  show Go p e below _ (T.setTop (mkF m 356 #[.val (.int x0), .val (.int x1), .val (.int x2), .val (.int len), .val (.int b0), .val (.int b1), .val (.int b2), .val (.int b3), .val (.int mode), .val (.int lab), .val (.ref a), .val (.int (own_m N (own_f b0 b1 b2 b3) lab 0)), .val (.int m1), .val (.int m2), .val (.int m3), .val (.int ct), .val (.ref r), .val (.int (Int32.ofNat (cnt N (own_f b0 b1 b2 b3) lab 0)))] [(.int (own_m N (own_f b0 b1 b2 b3) lab 0))]))
  by_cases hc356 : (own_m N (own_f b0 b1 b2 b3) lab 0) = (0 : Int32)
  · refine Go.on (fun t k => XS.ifYes X0.here hx rfl (pc0 := 356) (pc' := 372) rfl (hb hby at_356) rfl ((if0 _ _).trans (teq hc356).1) (by decide) (by decide) k) ?_
    show Go p e below _ (T.setTop (mkF m 372 #[.val (.int x0), .val (.int x1), .val (.int x2), .val (.int len), .val (.int b0), .val (.int b1), .val (.int b2), .val (.int b3), .val (.int mode), .val (.int lab), .val (.ref a), .val (.int (own_m N (own_f b0 b1 b2 b3) lab 0)), .val (.int m1), .val (.int m2), .val (.int m3), .val (.int ct), .val (.ref r), .val (.int (Int32.ofNat (cnt N (own_f b0 b1 b2 b3) lab 0)))] []))
    have hn : ¬ (0 < N ∧ (own_f b0 b1 b2 b3) 0 = lab) := fun u => by
      have w1 : (own_m N (own_f b0 b1 b2 b3) lab 0) = (1 : Int32) := if_pos u
      rw [w1] at hc356
      exact absurd hc356 (by decide)
    have hcn : cnt N (own_f b0 b1 b2 b3) lab 1 = cnt N (own_f b0 b1 b2 b3) lab 0 := cnt_miss hn
    rw [hcn] at k
    exact k
  · refine Go.on (fun t k => XS.ifNo X0.here hx rfl (hb hby at_356) rfl ((if0 _ _).trans (feq hc356).1) k) ?_
    show Go p e below _ (T.setTop (mkF m 359 #[.val (.int x0), .val (.int x1), .val (.int x2), .val (.int len), .val (.int b0), .val (.int b1), .val (.int b2), .val (.int b3), .val (.int mode), .val (.int lab), .val (.ref a), .val (.int (own_m N (own_f b0 b1 b2 b3) lab 0)), .val (.int m1), .val (.int m2), .val (.int m3), .val (.int ct), .val (.ref r), .val (.int (Int32.ofNat (cnt N (own_f b0 b1 b2 b3) lab 0)))] []))
    refine Go.on (fun t k => XS.aload X0.here hx rfl (hb hby at_359) rfl rfl k) ?_
    show Go p e below _ (T.setTop (mkF m 361 #[.val (.int x0), .val (.int x1), .val (.int x2), .val (.int len), .val (.int b0), .val (.int b1), .val (.int b2), .val (.int b3), .val (.int mode), .val (.int lab), .val (.ref a), .val (.int (own_m N (own_f b0 b1 b2 b3) lab 0)), .val (.int m1), .val (.int m2), .val (.int m3), .val (.int ct), .val (.ref r), .val (.int (Int32.ofNat (cnt N (own_f b0 b1 b2 b3) lab 0)))] [(.ref r)]))
    refine Go.on (fun t k => XS.iload X0.here hx rfl (hb hby at_361) rfl k) ?_
    show Go p e below _ (T.setTop (mkF m 363 #[.val (.int x0), .val (.int x1), .val (.int x2), .val (.int len), .val (.int b0), .val (.int b1), .val (.int b2), .val (.int b3), .val (.int mode), .val (.int lab), .val (.ref a), .val (.int (own_m N (own_f b0 b1 b2 b3) lab 0)), .val (.int m1), .val (.int m2), .val (.int m3), .val (.int ct), .val (.ref r), .val (.int (Int32.ofNat (cnt N (own_f b0 b1 b2 b3) lab 0)))] [(.int (Int32.ofNat (cnt N (own_f b0 b1 b2 b3) lab 0))), (.ref r)]))
    have hm : 0 < N ∧ (own_f b0 b1 b2 b3) 0 = lab := by
      by_cases u : 0 < N ∧ (own_f b0 b1 b2 b3) 0 = lab
      · exact u
      · exact absurd (if_neg u : (own_m N (own_f b0 b1 b2 b3) lab 0) = (0 : Int32)) hc356
    have hcl := cnt_lt hm
    have hcx := ix (own_ofNat (S := cnt N (own_f b0 b1 b2 b3) lab 0) (by have := cnt_le (N := N) (f := (own_f b0 b1 b2 b3)) (q := lab) 0; omega))
    refine Go.ldI X0 hx hZ e0 F0 (i := cnt N (own_f b0 b1 b2 b3) lab 0) hcx.1 hcx.2 hcl (hb hby at_363) ?_
    rw [hG 0 hm]
    show Go p e below _ (T.setTop (mkF m 364 #[.val (.int x0), .val (.int x1), .val (.int x2), .val (.int len), .val (.int b0), .val (.int b1), .val (.int b2), .val (.int b3), .val (.int mode), .val (.int lab), .val (.ref a), .val (.int (own_m N (own_f b0 b1 b2 b3) lab 0)), .val (.int m1), .val (.int m2), .val (.int m3), .val (.int ct), .val (.ref r), .val (.int (Int32.ofNat (cnt N (own_f b0 b1 b2 b3) lab 0)))] [(.int (0 : Int32))]))
    refine Go.on (fun t k => XS.ifYes X0.here hx rfl (pc0 := 364) (pc' := 369) rfl (hb hby at_364) rfl ((if0 _ _).trans (teq (by decide : ((0 : Int32) = (0 : Int32)))).1) (by decide) (by decide) k) ?_
    show Go p e below _ (T.setTop (mkF m 369 #[.val (.int x0), .val (.int x1), .val (.int x2), .val (.int len), .val (.int b0), .val (.int b1), .val (.int b2), .val (.int b3), .val (.int mode), .val (.int lab), .val (.ref a), .val (.int (own_m N (own_f b0 b1 b2 b3) lab 0)), .val (.int m1), .val (.int m2), .val (.int m3), .val (.int ct), .val (.ref r), .val (.int (Int32.ofNat (cnt N (own_f b0 b1 b2 b3) lab 0)))] []))
    refine Go.on (fun t k => XS.iinc X0.here hx rfl (hb hby at_369) rfl (l' := #[.val (.int x0), .val (.int x1), .val (.int x2), .val (.int len), .val (.int b0), .val (.int b1), .val (.int b2), .val (.int b3), .val (.int mode), .val (.int lab), .val (.ref a), .val (.int (own_m N (own_f b0 b1 b2 b3) lab 0)), .val (.int m1), .val (.int m2), .val (.int m3), .val (.int ct), .val (.ref r), .val (.int ((Int32.ofNat (cnt N (own_f b0 b1 b2 b3) lab 0)) + (1 : Int32)))]) rfl k) ?_
    show Go p e below _ (T.setTop (mkF m 372 #[.val (.int x0), .val (.int x1), .val (.int x2), .val (.int len), .val (.int b0), .val (.int b1), .val (.int b2), .val (.int b3), .val (.int mode), .val (.int lab), .val (.ref a), .val (.int (own_m N (own_f b0 b1 b2 b3) lab 0)), .val (.int m1), .val (.int m2), .val (.int m3), .val (.int ct), .val (.ref r), .val (.int ((Int32.ofNat (cnt N (own_f b0 b1 b2 b3) lab 0)) + (1 : Int32)))] []))
    have hcn : cnt N (own_f b0 b1 b2 b3) lab 1 = cnt N (own_f b0 b1 b2 b3) lab 0 + 1 := cnt_hit hm
    rw [hcn, ← own_ofs (by have := cnt_le (N := N) (f := (own_f b0 b1 b2 b3)) (q := lab) 0; omega)] at k
    exact k
set_option maxRecDepth 65536 in
set_option maxHeartbeats 4000000 in
theorem pK1 {p : Program} {l : Launch} {e : Env} {R : Room} {s : State} {m : MethodId} {args : Array Value} {below : List Frame} {meth : Method} {c : Code} {T : State} {locs : List Loc} {cells slots : Nat} {P : Outcome → State → Prop} (X0 : Stand p l e R s m args below meth c T locs cells slots) (hx : p.tables.exec = Jvm.exec) (hby : c.code = code) {x0 x1 x2 len b0 b1 b2 b3 mode lab m0 m2 m3 ct : Int32} {a r : Addr} {Z : State} {h : Heap} {N : Nat} {G : Nat → Value} (hZ : Z.Warmed39 s.vm) (e0 : T.heap = h) (F0 : BA Z h r .int (cnt N (own_f b0 b1 b2 b3) lab N) G) (hG : ∀ j, j < N ∧ (own_f b0 b1 b2 b3) j = lab → G (cnt N (own_f b0 b1 b2 b3) lab j) = .int (Int32.ofNat j))
    (k : Go p e below P (T.setTop (mkF m 391 #[.val (.int x0), .val (.int x1), .val (.int x2), .val (.int len), .val (.int b0), .val (.int b1), .val (.int b2), .val (.int b3), .val (.int mode), .val (.int lab), .val (.ref a), .val (.int m0), .val (.int (own_m N (own_f b0 b1 b2 b3) lab 1)), .val (.int m2), .val (.int m3), .val (.int ct), .val (.ref r), .val (.int (Int32.ofNat (cnt N (own_f b0 b1 b2 b3) lab 2)))] []))) :
    Go p e below P (T.setTop (mkF m 372 #[.val (.int x0), .val (.int x1), .val (.int x2), .val (.int len), .val (.int b0), .val (.int b1), .val (.int b2), .val (.int b3), .val (.int mode), .val (.int lab), .val (.ref a), .val (.int m0), .val (.int (own_m N (own_f b0 b1 b2 b3) lab 1)), .val (.int m2), .val (.int m3), .val (.int ct), .val (.ref r), .val (.int (Int32.ofNat (cnt N (own_f b0 b1 b2 b3) lab 1)))] [])) := by
  refine Go.on (fun t k => XS.iload X0.here hx rfl (hb hby at_372) rfl k) ?_
  show Go p e below _ (T.setTop (mkF m 374 #[.val (.int x0), .val (.int x1), .val (.int x2), .val (.int len), .val (.int b0), .val (.int b1), .val (.int b2), .val (.int b3), .val (.int mode), .val (.int lab), .val (.ref a), .val (.int m0), .val (.int (own_m N (own_f b0 b1 b2 b3) lab 1)), .val (.int m2), .val (.int m3), .val (.int ct), .val (.ref r), .val (.int (Int32.ofNat (cnt N (own_f b0 b1 b2 b3) lab 1)))] [(.int (own_m N (own_f b0 b1 b2 b3) lab 1))]))
  by_cases hc374 : (own_m N (own_f b0 b1 b2 b3) lab 1) = (0 : Int32)
  · refine Go.on (fun t k => XS.ifYes X0.here hx rfl (pc0 := 374) (pc' := 391) rfl (hb hby at_374) rfl ((if0 _ _).trans (teq hc374).1) (by decide) (by decide) k) ?_
    show Go p e below _ (T.setTop (mkF m 391 #[.val (.int x0), .val (.int x1), .val (.int x2), .val (.int len), .val (.int b0), .val (.int b1), .val (.int b2), .val (.int b3), .val (.int mode), .val (.int lab), .val (.ref a), .val (.int m0), .val (.int (own_m N (own_f b0 b1 b2 b3) lab 1)), .val (.int m2), .val (.int m3), .val (.int ct), .val (.ref r), .val (.int (Int32.ofNat (cnt N (own_f b0 b1 b2 b3) lab 1)))] []))
    have hn : ¬ (1 < N ∧ (own_f b0 b1 b2 b3) 1 = lab) := fun u => by
      have w1 : (own_m N (own_f b0 b1 b2 b3) lab 1) = (1 : Int32) := if_pos u
      rw [w1] at hc374
      exact absurd hc374 (by decide)
    have hcn : cnt N (own_f b0 b1 b2 b3) lab 2 = cnt N (own_f b0 b1 b2 b3) lab 1 := cnt_miss hn
    rw [hcn] at k
    exact k
  · refine Go.on (fun t k => XS.ifNo X0.here hx rfl (hb hby at_374) rfl ((if0 _ _).trans (feq hc374).1) k) ?_
    show Go p e below _ (T.setTop (mkF m 377 #[.val (.int x0), .val (.int x1), .val (.int x2), .val (.int len), .val (.int b0), .val (.int b1), .val (.int b2), .val (.int b3), .val (.int mode), .val (.int lab), .val (.ref a), .val (.int m0), .val (.int (own_m N (own_f b0 b1 b2 b3) lab 1)), .val (.int m2), .val (.int m3), .val (.int ct), .val (.ref r), .val (.int (Int32.ofNat (cnt N (own_f b0 b1 b2 b3) lab 1)))] []))
    refine Go.on (fun t k => XS.aload X0.here hx rfl (hb hby at_377) rfl rfl k) ?_
    show Go p e below _ (T.setTop (mkF m 379 #[.val (.int x0), .val (.int x1), .val (.int x2), .val (.int len), .val (.int b0), .val (.int b1), .val (.int b2), .val (.int b3), .val (.int mode), .val (.int lab), .val (.ref a), .val (.int m0), .val (.int (own_m N (own_f b0 b1 b2 b3) lab 1)), .val (.int m2), .val (.int m3), .val (.int ct), .val (.ref r), .val (.int (Int32.ofNat (cnt N (own_f b0 b1 b2 b3) lab 1)))] [(.ref r)]))
    refine Go.on (fun t k => XS.iload X0.here hx rfl (hb hby at_379) rfl k) ?_
    show Go p e below _ (T.setTop (mkF m 381 #[.val (.int x0), .val (.int x1), .val (.int x2), .val (.int len), .val (.int b0), .val (.int b1), .val (.int b2), .val (.int b3), .val (.int mode), .val (.int lab), .val (.ref a), .val (.int m0), .val (.int (own_m N (own_f b0 b1 b2 b3) lab 1)), .val (.int m2), .val (.int m3), .val (.int ct), .val (.ref r), .val (.int (Int32.ofNat (cnt N (own_f b0 b1 b2 b3) lab 1)))] [(.int (Int32.ofNat (cnt N (own_f b0 b1 b2 b3) lab 1))), (.ref r)]))
    have hm : 1 < N ∧ (own_f b0 b1 b2 b3) 1 = lab := by
      by_cases u : 1 < N ∧ (own_f b0 b1 b2 b3) 1 = lab
      · exact u
      · exact absurd (if_neg u : (own_m N (own_f b0 b1 b2 b3) lab 1) = (0 : Int32)) hc374
    have hcl := cnt_lt hm
    have hcx := ix (own_ofNat (S := cnt N (own_f b0 b1 b2 b3) lab 1) (by have := cnt_le (N := N) (f := (own_f b0 b1 b2 b3)) (q := lab) 1; omega))
    refine Go.ldI X0 hx hZ e0 F0 (i := cnt N (own_f b0 b1 b2 b3) lab 1) hcx.1 hcx.2 hcl (hb hby at_381) ?_
    rw [hG 1 hm]
    show Go p e below _ (T.setTop (mkF m 382 #[.val (.int x0), .val (.int x1), .val (.int x2), .val (.int len), .val (.int b0), .val (.int b1), .val (.int b2), .val (.int b3), .val (.int mode), .val (.int lab), .val (.ref a), .val (.int m0), .val (.int (own_m N (own_f b0 b1 b2 b3) lab 1)), .val (.int m2), .val (.int m3), .val (.int ct), .val (.ref r), .val (.int (Int32.ofNat (cnt N (own_f b0 b1 b2 b3) lab 1)))] [(.int (1 : Int32))]))
    refine Go.on (fun t k => XS.iconst X0.here hx rfl (hb hby at_382) k) ?_
    show Go p e below _ (T.setTop (mkF m 383 #[.val (.int x0), .val (.int x1), .val (.int x2), .val (.int len), .val (.int b0), .val (.int b1), .val (.int b2), .val (.int b3), .val (.int mode), .val (.int lab), .val (.ref a), .val (.int m0), .val (.int (own_m N (own_f b0 b1 b2 b3) lab 1)), .val (.int m2), .val (.int m3), .val (.int ct), .val (.ref r), .val (.int (Int32.ofNat (cnt N (own_f b0 b1 b2 b3) lab 1)))] [(.int (1 : Int32)), (.int (1 : Int32))]))
    refine Go.on (fun t k => XS.icmpYes X0.here hx rfl (pc0 := 383) (pc' := 388) rfl (hb hby at_383) rfl (teq (by decide : ((1 : Int32) = (1 : Int32)))).1 (by decide) (by decide) k) ?_
    show Go p e below _ (T.setTop (mkF m 388 #[.val (.int x0), .val (.int x1), .val (.int x2), .val (.int len), .val (.int b0), .val (.int b1), .val (.int b2), .val (.int b3), .val (.int mode), .val (.int lab), .val (.ref a), .val (.int m0), .val (.int (own_m N (own_f b0 b1 b2 b3) lab 1)), .val (.int m2), .val (.int m3), .val (.int ct), .val (.ref r), .val (.int (Int32.ofNat (cnt N (own_f b0 b1 b2 b3) lab 1)))] []))
    refine Go.on (fun t k => XS.iinc X0.here hx rfl (hb hby at_388) rfl (l' := #[.val (.int x0), .val (.int x1), .val (.int x2), .val (.int len), .val (.int b0), .val (.int b1), .val (.int b2), .val (.int b3), .val (.int mode), .val (.int lab), .val (.ref a), .val (.int m0), .val (.int (own_m N (own_f b0 b1 b2 b3) lab 1)), .val (.int m2), .val (.int m3), .val (.int ct), .val (.ref r), .val (.int ((Int32.ofNat (cnt N (own_f b0 b1 b2 b3) lab 1)) + (1 : Int32)))]) rfl k) ?_
    show Go p e below _ (T.setTop (mkF m 391 #[.val (.int x0), .val (.int x1), .val (.int x2), .val (.int len), .val (.int b0), .val (.int b1), .val (.int b2), .val (.int b3), .val (.int mode), .val (.int lab), .val (.ref a), .val (.int m0), .val (.int (own_m N (own_f b0 b1 b2 b3) lab 1)), .val (.int m2), .val (.int m3), .val (.int ct), .val (.ref r), .val (.int ((Int32.ofNat (cnt N (own_f b0 b1 b2 b3) lab 1)) + (1 : Int32)))] []))
    have hcn : cnt N (own_f b0 b1 b2 b3) lab 2 = cnt N (own_f b0 b1 b2 b3) lab 1 + 1 := cnt_hit hm
    rw [hcn, ← own_ofs (by have := cnt_le (N := N) (f := (own_f b0 b1 b2 b3)) (q := lab) 1; omega)] at k
    exact k
set_option maxRecDepth 65536 in
set_option maxHeartbeats 4000000 in
theorem pK2 {p : Program} {l : Launch} {e : Env} {R : Room} {s : State} {m : MethodId} {args : Array Value} {below : List Frame} {meth : Method} {c : Code} {T : State} {locs : List Loc} {cells slots : Nat} {P : Outcome → State → Prop} (X0 : Stand p l e R s m args below meth c T locs cells slots) (hx : p.tables.exec = Jvm.exec) (hby : c.code = code) {x0 x1 x2 len b0 b1 b2 b3 mode lab m0 m1 m3 ct : Int32} {a r : Addr} {Z : State} {h : Heap} {N : Nat} {G : Nat → Value} (hZ : Z.Warmed39 s.vm) (e0 : T.heap = h) (F0 : BA Z h r .int (cnt N (own_f b0 b1 b2 b3) lab N) G) (hG : ∀ j, j < N ∧ (own_f b0 b1 b2 b3) j = lab → G (cnt N (own_f b0 b1 b2 b3) lab j) = .int (Int32.ofNat j))
    (k : Go p e below P (T.setTop (mkF m 410 #[.val (.int x0), .val (.int x1), .val (.int x2), .val (.int len), .val (.int b0), .val (.int b1), .val (.int b2), .val (.int b3), .val (.int mode), .val (.int lab), .val (.ref a), .val (.int m0), .val (.int m1), .val (.int (own_m N (own_f b0 b1 b2 b3) lab 2)), .val (.int m3), .val (.int ct), .val (.ref r), .val (.int (Int32.ofNat (cnt N (own_f b0 b1 b2 b3) lab 3)))] []))) :
    Go p e below P (T.setTop (mkF m 391 #[.val (.int x0), .val (.int x1), .val (.int x2), .val (.int len), .val (.int b0), .val (.int b1), .val (.int b2), .val (.int b3), .val (.int mode), .val (.int lab), .val (.ref a), .val (.int m0), .val (.int m1), .val (.int (own_m N (own_f b0 b1 b2 b3) lab 2)), .val (.int m3), .val (.int ct), .val (.ref r), .val (.int (Int32.ofNat (cnt N (own_f b0 b1 b2 b3) lab 2)))] [])) := by
  refine Go.on (fun t k => XS.iload X0.here hx rfl (hb hby at_391) rfl k) ?_
  show Go p e below _ (T.setTop (mkF m 393 #[.val (.int x0), .val (.int x1), .val (.int x2), .val (.int len), .val (.int b0), .val (.int b1), .val (.int b2), .val (.int b3), .val (.int mode), .val (.int lab), .val (.ref a), .val (.int m0), .val (.int m1), .val (.int (own_m N (own_f b0 b1 b2 b3) lab 2)), .val (.int m3), .val (.int ct), .val (.ref r), .val (.int (Int32.ofNat (cnt N (own_f b0 b1 b2 b3) lab 2)))] [(.int (own_m N (own_f b0 b1 b2 b3) lab 2))]))
  by_cases hc393 : (own_m N (own_f b0 b1 b2 b3) lab 2) = (0 : Int32)
  · refine Go.on (fun t k => XS.ifYes X0.here hx rfl (pc0 := 393) (pc' := 410) rfl (hb hby at_393) rfl ((if0 _ _).trans (teq hc393).1) (by decide) (by decide) k) ?_
    show Go p e below _ (T.setTop (mkF m 410 #[.val (.int x0), .val (.int x1), .val (.int x2), .val (.int len), .val (.int b0), .val (.int b1), .val (.int b2), .val (.int b3), .val (.int mode), .val (.int lab), .val (.ref a), .val (.int m0), .val (.int m1), .val (.int (own_m N (own_f b0 b1 b2 b3) lab 2)), .val (.int m3), .val (.int ct), .val (.ref r), .val (.int (Int32.ofNat (cnt N (own_f b0 b1 b2 b3) lab 2)))] []))
    have hn : ¬ (2 < N ∧ (own_f b0 b1 b2 b3) 2 = lab) := fun u => by
      have w1 : (own_m N (own_f b0 b1 b2 b3) lab 2) = (1 : Int32) := if_pos u
      rw [w1] at hc393
      exact absurd hc393 (by decide)
    have hcn : cnt N (own_f b0 b1 b2 b3) lab 3 = cnt N (own_f b0 b1 b2 b3) lab 2 := cnt_miss hn
    rw [hcn] at k
    exact k
  · refine Go.on (fun t k => XS.ifNo X0.here hx rfl (hb hby at_393) rfl ((if0 _ _).trans (feq hc393).1) k) ?_
    show Go p e below _ (T.setTop (mkF m 396 #[.val (.int x0), .val (.int x1), .val (.int x2), .val (.int len), .val (.int b0), .val (.int b1), .val (.int b2), .val (.int b3), .val (.int mode), .val (.int lab), .val (.ref a), .val (.int m0), .val (.int m1), .val (.int (own_m N (own_f b0 b1 b2 b3) lab 2)), .val (.int m3), .val (.int ct), .val (.ref r), .val (.int (Int32.ofNat (cnt N (own_f b0 b1 b2 b3) lab 2)))] []))
    refine Go.on (fun t k => XS.aload X0.here hx rfl (hb hby at_396) rfl rfl k) ?_
    show Go p e below _ (T.setTop (mkF m 398 #[.val (.int x0), .val (.int x1), .val (.int x2), .val (.int len), .val (.int b0), .val (.int b1), .val (.int b2), .val (.int b3), .val (.int mode), .val (.int lab), .val (.ref a), .val (.int m0), .val (.int m1), .val (.int (own_m N (own_f b0 b1 b2 b3) lab 2)), .val (.int m3), .val (.int ct), .val (.ref r), .val (.int (Int32.ofNat (cnt N (own_f b0 b1 b2 b3) lab 2)))] [(.ref r)]))
    refine Go.on (fun t k => XS.iload X0.here hx rfl (hb hby at_398) rfl k) ?_
    show Go p e below _ (T.setTop (mkF m 400 #[.val (.int x0), .val (.int x1), .val (.int x2), .val (.int len), .val (.int b0), .val (.int b1), .val (.int b2), .val (.int b3), .val (.int mode), .val (.int lab), .val (.ref a), .val (.int m0), .val (.int m1), .val (.int (own_m N (own_f b0 b1 b2 b3) lab 2)), .val (.int m3), .val (.int ct), .val (.ref r), .val (.int (Int32.ofNat (cnt N (own_f b0 b1 b2 b3) lab 2)))] [(.int (Int32.ofNat (cnt N (own_f b0 b1 b2 b3) lab 2))), (.ref r)]))
    have hm : 2 < N ∧ (own_f b0 b1 b2 b3) 2 = lab := by
      by_cases u : 2 < N ∧ (own_f b0 b1 b2 b3) 2 = lab
      · exact u
      · exact absurd (if_neg u : (own_m N (own_f b0 b1 b2 b3) lab 2) = (0 : Int32)) hc393
    have hcl := cnt_lt hm
    have hcx := ix (own_ofNat (S := cnt N (own_f b0 b1 b2 b3) lab 2) (by have := cnt_le (N := N) (f := (own_f b0 b1 b2 b3)) (q := lab) 2; omega))
    refine Go.ldI X0 hx hZ e0 F0 (i := cnt N (own_f b0 b1 b2 b3) lab 2) hcx.1 hcx.2 hcl (hb hby at_400) ?_
    rw [hG 2 hm]
    show Go p e below _ (T.setTop (mkF m 401 #[.val (.int x0), .val (.int x1), .val (.int x2), .val (.int len), .val (.int b0), .val (.int b1), .val (.int b2), .val (.int b3), .val (.int mode), .val (.int lab), .val (.ref a), .val (.int m0), .val (.int m1), .val (.int (own_m N (own_f b0 b1 b2 b3) lab 2)), .val (.int m3), .val (.int ct), .val (.ref r), .val (.int (Int32.ofNat (cnt N (own_f b0 b1 b2 b3) lab 2)))] [(.int (2 : Int32))]))
    refine Go.on (fun t k => XS.iconst X0.here hx rfl (hb hby at_401) k) ?_
    show Go p e below _ (T.setTop (mkF m 402 #[.val (.int x0), .val (.int x1), .val (.int x2), .val (.int len), .val (.int b0), .val (.int b1), .val (.int b2), .val (.int b3), .val (.int mode), .val (.int lab), .val (.ref a), .val (.int m0), .val (.int m1), .val (.int (own_m N (own_f b0 b1 b2 b3) lab 2)), .val (.int m3), .val (.int ct), .val (.ref r), .val (.int (Int32.ofNat (cnt N (own_f b0 b1 b2 b3) lab 2)))] [(.int (2 : Int32)), (.int (2 : Int32))]))
    refine Go.on (fun t k => XS.icmpYes X0.here hx rfl (pc0 := 402) (pc' := 407) rfl (hb hby at_402) rfl (teq (by decide : ((2 : Int32) = (2 : Int32)))).1 (by decide) (by decide) k) ?_
    show Go p e below _ (T.setTop (mkF m 407 #[.val (.int x0), .val (.int x1), .val (.int x2), .val (.int len), .val (.int b0), .val (.int b1), .val (.int b2), .val (.int b3), .val (.int mode), .val (.int lab), .val (.ref a), .val (.int m0), .val (.int m1), .val (.int (own_m N (own_f b0 b1 b2 b3) lab 2)), .val (.int m3), .val (.int ct), .val (.ref r), .val (.int (Int32.ofNat (cnt N (own_f b0 b1 b2 b3) lab 2)))] []))
    refine Go.on (fun t k => XS.iinc X0.here hx rfl (hb hby at_407) rfl (l' := #[.val (.int x0), .val (.int x1), .val (.int x2), .val (.int len), .val (.int b0), .val (.int b1), .val (.int b2), .val (.int b3), .val (.int mode), .val (.int lab), .val (.ref a), .val (.int m0), .val (.int m1), .val (.int (own_m N (own_f b0 b1 b2 b3) lab 2)), .val (.int m3), .val (.int ct), .val (.ref r), .val (.int ((Int32.ofNat (cnt N (own_f b0 b1 b2 b3) lab 2)) + (1 : Int32)))]) rfl k) ?_
    show Go p e below _ (T.setTop (mkF m 410 #[.val (.int x0), .val (.int x1), .val (.int x2), .val (.int len), .val (.int b0), .val (.int b1), .val (.int b2), .val (.int b3), .val (.int mode), .val (.int lab), .val (.ref a), .val (.int m0), .val (.int m1), .val (.int (own_m N (own_f b0 b1 b2 b3) lab 2)), .val (.int m3), .val (.int ct), .val (.ref r), .val (.int ((Int32.ofNat (cnt N (own_f b0 b1 b2 b3) lab 2)) + (1 : Int32)))] []))
    have hcn : cnt N (own_f b0 b1 b2 b3) lab 3 = cnt N (own_f b0 b1 b2 b3) lab 2 + 1 := cnt_hit hm
    rw [hcn, ← own_ofs (by have := cnt_le (N := N) (f := (own_f b0 b1 b2 b3)) (q := lab) 2; omega)] at k
    exact k
set_option maxRecDepth 65536 in
set_option maxHeartbeats 4000000 in
theorem pK3 {p : Program} {l : Launch} {e : Env} {R : Room} {s : State} {m : MethodId} {args : Array Value} {below : List Frame} {meth : Method} {c : Code} {T : State} {locs : List Loc} {cells slots : Nat} {P : Outcome → State → Prop} (X0 : Stand p l e R s m args below meth c T locs cells slots) (hx : p.tables.exec = Jvm.exec) (hby : c.code = code) {x0 x1 x2 len b0 b1 b2 b3 mode lab m0 m1 m2 ct : Int32} {a r : Addr} {Z : State} {h : Heap} {N : Nat} {G : Nat → Value} (hZ : Z.Warmed39 s.vm) (e0 : T.heap = h) (F0 : BA Z h r .int (cnt N (own_f b0 b1 b2 b3) lab N) G) (hG : ∀ j, j < N ∧ (own_f b0 b1 b2 b3) j = lab → G (cnt N (own_f b0 b1 b2 b3) lab j) = .int (Int32.ofNat j))
    (k : Go p e below P (T.setTop (mkF m 429 #[.val (.int x0), .val (.int x1), .val (.int x2), .val (.int len), .val (.int b0), .val (.int b1), .val (.int b2), .val (.int b3), .val (.int mode), .val (.int lab), .val (.ref a), .val (.int m0), .val (.int m1), .val (.int m2), .val (.int (own_m N (own_f b0 b1 b2 b3) lab 3)), .val (.int ct), .val (.ref r), .val (.int (Int32.ofNat (cnt N (own_f b0 b1 b2 b3) lab 4)))] []))) :
    Go p e below P (T.setTop (mkF m 410 #[.val (.int x0), .val (.int x1), .val (.int x2), .val (.int len), .val (.int b0), .val (.int b1), .val (.int b2), .val (.int b3), .val (.int mode), .val (.int lab), .val (.ref a), .val (.int m0), .val (.int m1), .val (.int m2), .val (.int (own_m N (own_f b0 b1 b2 b3) lab 3)), .val (.int ct), .val (.ref r), .val (.int (Int32.ofNat (cnt N (own_f b0 b1 b2 b3) lab 3)))] [])) := by
  refine Go.on (fun t k => XS.iload X0.here hx rfl (hb hby at_410) rfl k) ?_
  show Go p e below _ (T.setTop (mkF m 412 #[.val (.int x0), .val (.int x1), .val (.int x2), .val (.int len), .val (.int b0), .val (.int b1), .val (.int b2), .val (.int b3), .val (.int mode), .val (.int lab), .val (.ref a), .val (.int m0), .val (.int m1), .val (.int m2), .val (.int (own_m N (own_f b0 b1 b2 b3) lab 3)), .val (.int ct), .val (.ref r), .val (.int (Int32.ofNat (cnt N (own_f b0 b1 b2 b3) lab 3)))] [(.int (own_m N (own_f b0 b1 b2 b3) lab 3))]))
  by_cases hc412 : (own_m N (own_f b0 b1 b2 b3) lab 3) = (0 : Int32)
  · refine Go.on (fun t k => XS.ifYes X0.here hx rfl (pc0 := 412) (pc' := 429) rfl (hb hby at_412) rfl ((if0 _ _).trans (teq hc412).1) (by decide) (by decide) k) ?_
    show Go p e below _ (T.setTop (mkF m 429 #[.val (.int x0), .val (.int x1), .val (.int x2), .val (.int len), .val (.int b0), .val (.int b1), .val (.int b2), .val (.int b3), .val (.int mode), .val (.int lab), .val (.ref a), .val (.int m0), .val (.int m1), .val (.int m2), .val (.int (own_m N (own_f b0 b1 b2 b3) lab 3)), .val (.int ct), .val (.ref r), .val (.int (Int32.ofNat (cnt N (own_f b0 b1 b2 b3) lab 3)))] []))
    have hn : ¬ (3 < N ∧ (own_f b0 b1 b2 b3) 3 = lab) := fun u => by
      have w1 : (own_m N (own_f b0 b1 b2 b3) lab 3) = (1 : Int32) := if_pos u
      rw [w1] at hc412
      exact absurd hc412 (by decide)
    have hcn : cnt N (own_f b0 b1 b2 b3) lab 4 = cnt N (own_f b0 b1 b2 b3) lab 3 := cnt_miss hn
    rw [hcn] at k
    exact k
  · refine Go.on (fun t k => XS.ifNo X0.here hx rfl (hb hby at_412) rfl ((if0 _ _).trans (feq hc412).1) k) ?_
    show Go p e below _ (T.setTop (mkF m 415 #[.val (.int x0), .val (.int x1), .val (.int x2), .val (.int len), .val (.int b0), .val (.int b1), .val (.int b2), .val (.int b3), .val (.int mode), .val (.int lab), .val (.ref a), .val (.int m0), .val (.int m1), .val (.int m2), .val (.int (own_m N (own_f b0 b1 b2 b3) lab 3)), .val (.int ct), .val (.ref r), .val (.int (Int32.ofNat (cnt N (own_f b0 b1 b2 b3) lab 3)))] []))
    refine Go.on (fun t k => XS.aload X0.here hx rfl (hb hby at_415) rfl rfl k) ?_
    show Go p e below _ (T.setTop (mkF m 417 #[.val (.int x0), .val (.int x1), .val (.int x2), .val (.int len), .val (.int b0), .val (.int b1), .val (.int b2), .val (.int b3), .val (.int mode), .val (.int lab), .val (.ref a), .val (.int m0), .val (.int m1), .val (.int m2), .val (.int (own_m N (own_f b0 b1 b2 b3) lab 3)), .val (.int ct), .val (.ref r), .val (.int (Int32.ofNat (cnt N (own_f b0 b1 b2 b3) lab 3)))] [(.ref r)]))
    refine Go.on (fun t k => XS.iload X0.here hx rfl (hb hby at_417) rfl k) ?_
    show Go p e below _ (T.setTop (mkF m 419 #[.val (.int x0), .val (.int x1), .val (.int x2), .val (.int len), .val (.int b0), .val (.int b1), .val (.int b2), .val (.int b3), .val (.int mode), .val (.int lab), .val (.ref a), .val (.int m0), .val (.int m1), .val (.int m2), .val (.int (own_m N (own_f b0 b1 b2 b3) lab 3)), .val (.int ct), .val (.ref r), .val (.int (Int32.ofNat (cnt N (own_f b0 b1 b2 b3) lab 3)))] [(.int (Int32.ofNat (cnt N (own_f b0 b1 b2 b3) lab 3))), (.ref r)]))
    have hm : 3 < N ∧ (own_f b0 b1 b2 b3) 3 = lab := by
      by_cases u : 3 < N ∧ (own_f b0 b1 b2 b3) 3 = lab
      · exact u
      · exact absurd (if_neg u : (own_m N (own_f b0 b1 b2 b3) lab 3) = (0 : Int32)) hc412
    have hcl := cnt_lt hm
    have hcx := ix (own_ofNat (S := cnt N (own_f b0 b1 b2 b3) lab 3) (by have := cnt_le (N := N) (f := (own_f b0 b1 b2 b3)) (q := lab) 3; omega))
    refine Go.ldI X0 hx hZ e0 F0 (i := cnt N (own_f b0 b1 b2 b3) lab 3) hcx.1 hcx.2 hcl (hb hby at_419) ?_
    rw [hG 3 hm]
    show Go p e below _ (T.setTop (mkF m 420 #[.val (.int x0), .val (.int x1), .val (.int x2), .val (.int len), .val (.int b0), .val (.int b1), .val (.int b2), .val (.int b3), .val (.int mode), .val (.int lab), .val (.ref a), .val (.int m0), .val (.int m1), .val (.int m2), .val (.int (own_m N (own_f b0 b1 b2 b3) lab 3)), .val (.int ct), .val (.ref r), .val (.int (Int32.ofNat (cnt N (own_f b0 b1 b2 b3) lab 3)))] [(.int (3 : Int32))]))
    refine Go.on (fun t k => XS.iconst X0.here hx rfl (hb hby at_420) k) ?_
    show Go p e below _ (T.setTop (mkF m 421 #[.val (.int x0), .val (.int x1), .val (.int x2), .val (.int len), .val (.int b0), .val (.int b1), .val (.int b2), .val (.int b3), .val (.int mode), .val (.int lab), .val (.ref a), .val (.int m0), .val (.int m1), .val (.int m2), .val (.int (own_m N (own_f b0 b1 b2 b3) lab 3)), .val (.int ct), .val (.ref r), .val (.int (Int32.ofNat (cnt N (own_f b0 b1 b2 b3) lab 3)))] [(.int (3 : Int32)), (.int (3 : Int32))]))
    refine Go.on (fun t k => XS.icmpYes X0.here hx rfl (pc0 := 421) (pc' := 426) rfl (hb hby at_421) rfl (teq (by decide : ((3 : Int32) = (3 : Int32)))).1 (by decide) (by decide) k) ?_
    show Go p e below _ (T.setTop (mkF m 426 #[.val (.int x0), .val (.int x1), .val (.int x2), .val (.int len), .val (.int b0), .val (.int b1), .val (.int b2), .val (.int b3), .val (.int mode), .val (.int lab), .val (.ref a), .val (.int m0), .val (.int m1), .val (.int m2), .val (.int (own_m N (own_f b0 b1 b2 b3) lab 3)), .val (.int ct), .val (.ref r), .val (.int (Int32.ofNat (cnt N (own_f b0 b1 b2 b3) lab 3)))] []))
    refine Go.on (fun t k => XS.iinc X0.here hx rfl (hb hby at_426) rfl (l' := #[.val (.int x0), .val (.int x1), .val (.int x2), .val (.int len), .val (.int b0), .val (.int b1), .val (.int b2), .val (.int b3), .val (.int mode), .val (.int lab), .val (.ref a), .val (.int m0), .val (.int m1), .val (.int m2), .val (.int (own_m N (own_f b0 b1 b2 b3) lab 3)), .val (.int ct), .val (.ref r), .val (.int ((Int32.ofNat (cnt N (own_f b0 b1 b2 b3) lab 3)) + (1 : Int32)))]) rfl k) ?_
    show Go p e below _ (T.setTop (mkF m 429 #[.val (.int x0), .val (.int x1), .val (.int x2), .val (.int len), .val (.int b0), .val (.int b1), .val (.int b2), .val (.int b3), .val (.int mode), .val (.int lab), .val (.ref a), .val (.int m0), .val (.int m1), .val (.int m2), .val (.int (own_m N (own_f b0 b1 b2 b3) lab 3)), .val (.int ct), .val (.ref r), .val (.int ((Int32.ofNat (cnt N (own_f b0 b1 b2 b3) lab 3)) + (1 : Int32)))] []))
    have hcn : cnt N (own_f b0 b1 b2 b3) lab 4 = cnt N (own_f b0 b1 b2 b3) lab 3 + 1 := cnt_hit hm
    rw [hcn, ← own_ofs (by have := cnt_le (N := N) (f := (own_f b0 b1 b2 b3)) (q := lab) 3; omega)] at k
    exact k
def own_ln (x : Int32) : Int32 := (x &&& (7 : Int32)) % (5 : Int32)
theorem own_ln_rng (x : Int32) : (own_ln x).toInt = ((own_ln x).toInt.toNat : Int) ∧ (own_ln x).toInt.toNat ≤ 4 := by
  have hx := c_and x 7 (by decide)
  have z5 : (5 : Int32).toInt = 5 := by decide
  have r := (c_irem (x &&& (7 : Int32)) 5 _ z5).1 hx.1
  unfold own_ln
  omega
def own_b0 (x : Int32) : Int32 := x.toInt8.toInt32
def own_b1 (x : Int32) : Int32 := (x >>> ((8 : Int32) &&& 31)).toInt8.toInt32
def own_b2 (x : Int32) : Int32 := (x >>> ((16 : Int32) &&& 31)).toInt8.toInt32
def own_b3 (x : Int32) : Int32 := (x >>> ((24 : Int32) &&& 31)).toInt8.toInt32
def Q0 (n0 : Nat) (v : Option Value) (h : Heap) (L : List Loc) : Prop := v = some (.int 1) ∧ Fr n0 L
theorem pn_0 : plainFor x = true := by first | exact plainFor_of_name (by first | (simp [plainName, overriddenIn]; done) | decide +kernel) | decide +kernel
theorem ef_0 (m : MethodId) (x0 : Int32) (x1 : Int32) (x2 : Int32) : entryFrame m #[(.int x0), (.int x1), (.int x2)] maxLocals = mkF m 0 #[.val (.int x0), .val (.int x1), .val (.int x2), .unset, .unset, .unset, .unset, .unset, .unset, .unset, .unset, .unset, .unset, .unset, .unset, .unset, .unset, .unset] [] := by first | (simp [entryFrame, mkF, argsToLocals, Value.category, maxLocals]; done) | rfl
set_option maxRecDepth 65536 in
set_option maxHeartbeats 40000000 in
theorem rm0 (l : Launch) (Z : State) (a0 : Array Value) (hw : ∀ d ∈ tables_1, d.before a0 Z = true) (ws : List Jvm.Cond) (p1 p2 p3 : Int32) (h0 : Heap) (n0 : Nat) (Z0 : n0 ≤ h0.size)  :
    MetFree l x (head1 (Jvm.Cond.code x code maxLocals ret :: ws) room_1) (fun a U => a = #[(.int p1), (.int p2), (.int p3)] ∧ Z.Warmed39 U.vm ∧ U.heap = h0) (fun _ _ _ _ _ => True) (fun _ U o U' => ∃ v L, o = .returned v ∧ Q0 n0 v U'.heap L ∧ FrameEnd U o U' L 16 128) := by
  refine MetFree.of_bodySF pn_0 hisR ?_
  intro p e s m args below meth c s₁ Bd hml0 hP hK
  obtain ⟨rfl, hZ, hh⟩ := hP
  have hx := Bd.exec
  have hby := Bd.bytes
  have hlk := Bd.notSynchronized
  have hret := Bd.returns
  have hml : c.maxLocals = 18 := hml0
  have hown : s.vm.findClass "com/example/planarium/planarium/separator/SeparationVerticesInPinLaw" = some m.cls := findClass_of_methodNamed Bd.named
  have hnm := (name_of_methodNamed Bd.named Bd.method).1
  have X0 : Stand p l e room_1 s m #[(.int p1), (.int p2), (.int p3)] below meth c s₁ [] 0 0 := Stand.of_body Bd
  have e0 : s₁.heap = h0 := by rw [← hh, Bd.state]; rfl
  have N0 := Fr.nil n0
  show Go p e below (Pst s (Q0 n0) 16 128) (s₁.setTop (entryFrame m #[(.int p1), (.int p2), (.int p3)] maxLocals))
  refine Go.on (fun t k => castTop (ef_0 m p1 p2 p3) k) ?_
  show Go p e below _ (s₁.setTop (mkF m 0 #[.val (.int p1), .val (.int p2), .val (.int p3), .unset, .unset, .unset, .unset, .unset, .unset, .unset, .unset, .unset, .unset, .unset, .unset, .unset, .unset, .unset] []))
  refine Go.on (fun t k => XS.iloadN X0.here hx rfl (hb hby at_0) rfl k) ?_
  show Go p e below _ (s₁.setTop (mkF m 1 #[.val (.int p1), .val (.int p2), .val (.int p3), .unset, .unset, .unset, .unset, .unset, .unset, .unset, .unset, .unset, .unset, .unset, .unset, .unset, .unset, .unset] [(.int p3)]))
  refine Go.on (fun t k => XS.bipush X0.here hx rfl (hb hby at_1) k) ?_
  show Go p e below _ (s₁.setTop (mkF m 3 #[.val (.int p1), .val (.int p2), .val (.int p3), .unset, .unset, .unset, .unset, .unset, .unset, .unset, .unset, .unset, .unset, .unset, .unset, .unset, .unset, .unset] [(.int (7 : Int32)), (.int p3)]))
  refine Go.on (fun t k => XS.iand X0.here hx rfl (hb hby at_3) rfl k) ?_
  show Go p e below _ (s₁.setTop (mkF m 4 #[.val (.int p1), .val (.int p2), .val (.int p3), .unset, .unset, .unset, .unset, .unset, .unset, .unset, .unset, .unset, .unset, .unset, .unset, .unset, .unset, .unset] [(.int (p3 &&& (7 : Int32)))]))
  refine Go.on (fun t k => XS.iconst X0.here hx rfl (hb hby at_4) k) ?_
  show Go p e below _ (s₁.setTop (mkF m 5 #[.val (.int p1), .val (.int p2), .val (.int p3), .unset, .unset, .unset, .unset, .unset, .unset, .unset, .unset, .unset, .unset, .unset, .unset, .unset, .unset, .unset] [(.int (5 : Int32)), (.int (p3 &&& (7 : Int32)))]))
  refine Go.on (fun t k => iremM X0 hx rfl (hb hby at_5) rfl (by decide) k) ?_
  show Go p e below _ (s₁.setTop (mkF m 6 #[.val (.int p1), .val (.int p2), .val (.int p3), .unset, .unset, .unset, .unset, .unset, .unset, .unset, .unset, .unset, .unset, .unset, .unset, .unset, .unset, .unset] [(.int (own_ln p3))]))
  refine Go.on (fun t k => XS.istoreN X0.here hx rfl (hb hby at_6) rfl (l' := #[.val (.int p1), .val (.int p2), .val (.int p3), .val (.int (own_ln p3)), .unset, .unset, .unset, .unset, .unset, .unset, .unset, .unset, .unset, .unset, .unset, .unset, .unset, .unset]) rfl k) ?_
  show Go p e below _ (s₁.setTop (mkF m 7 #[.val (.int p1), .val (.int p2), .val (.int p3), .val (.int (own_ln p3)), .unset, .unset, .unset, .unset, .unset, .unset, .unset, .unset, .unset, .unset, .unset, .unset, .unset, .unset] []))
  refine Go.on (fun t k => XS.iloadN X0.here hx rfl (hb hby at_7) rfl k) ?_
  show Go p e below _ (s₁.setTop (mkF m 8 #[.val (.int p1), .val (.int p2), .val (.int p3), .val (.int (own_ln p3)), .unset, .unset, .unset, .unset, .unset, .unset, .unset, .unset, .unset, .unset, .unset, .unset, .unset, .unset] [(.int p1)]))
  refine Go.on (fun t k => XS.i2b X0.here hx rfl (hb hby at_8) rfl k) ?_
  show Go p e below _ (s₁.setTop (mkF m 9 #[.val (.int p1), .val (.int p2), .val (.int p3), .val (.int (own_ln p3)), .unset, .unset, .unset, .unset, .unset, .unset, .unset, .unset, .unset, .unset, .unset, .unset, .unset, .unset] [(.int (own_b0 p1))]))
  refine Go.on (fun t k => XS.istore X0.here hx rfl (hb hby at_9) rfl (l' := #[.val (.int p1), .val (.int p2), .val (.int p3), .val (.int (own_ln p3)), .val (.int (own_b0 p1)), .unset, .unset, .unset, .unset, .unset, .unset, .unset, .unset, .unset, .unset, .unset, .unset, .unset]) rfl k) ?_
  show Go p e below _ (s₁.setTop (mkF m 11 #[.val (.int p1), .val (.int p2), .val (.int p3), .val (.int (own_ln p3)), .val (.int (own_b0 p1)), .unset, .unset, .unset, .unset, .unset, .unset, .unset, .unset, .unset, .unset, .unset, .unset, .unset] []))
  refine Go.on (fun t k => XS.iloadN X0.here hx rfl (hb hby at_11) rfl k) ?_
  show Go p e below _ (s₁.setTop (mkF m 12 #[.val (.int p1), .val (.int p2), .val (.int p3), .val (.int (own_ln p3)), .val (.int (own_b0 p1)), .unset, .unset, .unset, .unset, .unset, .unset, .unset, .unset, .unset, .unset, .unset, .unset, .unset] [(.int p1)]))
  refine Go.on (fun t k => XS.bipush X0.here hx rfl (hb hby at_12) k) ?_
  show Go p e below _ (s₁.setTop (mkF m 14 #[.val (.int p1), .val (.int p2), .val (.int p3), .val (.int (own_ln p3)), .val (.int (own_b0 p1)), .unset, .unset, .unset, .unset, .unset, .unset, .unset, .unset, .unset, .unset, .unset, .unset, .unset] [(.int (8 : Int32)), (.int p1)]))
  refine Go.on (fun t k => XS.ishr X0.here hx rfl (hb hby at_14) rfl k) ?_
  show Go p e below _ (s₁.setTop (mkF m 15 #[.val (.int p1), .val (.int p2), .val (.int p3), .val (.int (own_ln p3)), .val (.int (own_b0 p1)), .unset, .unset, .unset, .unset, .unset, .unset, .unset, .unset, .unset, .unset, .unset, .unset, .unset] [(.int (p1 >>> ((8 : Int32) &&& 31)))]))
  refine Go.on (fun t k => XS.i2b X0.here hx rfl (hb hby at_15) rfl k) ?_
  show Go p e below _ (s₁.setTop (mkF m 16 #[.val (.int p1), .val (.int p2), .val (.int p3), .val (.int (own_ln p3)), .val (.int (own_b0 p1)), .unset, .unset, .unset, .unset, .unset, .unset, .unset, .unset, .unset, .unset, .unset, .unset, .unset] [(.int (own_b1 p1))]))
  refine Go.on (fun t k => XS.istore X0.here hx rfl (hb hby at_16) rfl (l' := #[.val (.int p1), .val (.int p2), .val (.int p3), .val (.int (own_ln p3)), .val (.int (own_b0 p1)), .val (.int (own_b1 p1)), .unset, .unset, .unset, .unset, .unset, .unset, .unset, .unset, .unset, .unset, .unset, .unset]) rfl k) ?_
  show Go p e below _ (s₁.setTop (mkF m 18 #[.val (.int p1), .val (.int p2), .val (.int p3), .val (.int (own_ln p3)), .val (.int (own_b0 p1)), .val (.int (own_b1 p1)), .unset, .unset, .unset, .unset, .unset, .unset, .unset, .unset, .unset, .unset, .unset, .unset] []))
  refine Go.on (fun t k => XS.iloadN X0.here hx rfl (hb hby at_18) rfl k) ?_
  show Go p e below _ (s₁.setTop (mkF m 19 #[.val (.int p1), .val (.int p2), .val (.int p3), .val (.int (own_ln p3)), .val (.int (own_b0 p1)), .val (.int (own_b1 p1)), .unset, .unset, .unset, .unset, .unset, .unset, .unset, .unset, .unset, .unset, .unset, .unset] [(.int p1)]))
  refine Go.on (fun t k => XS.bipush X0.here hx rfl (hb hby at_19) k) ?_
  show Go p e below _ (s₁.setTop (mkF m 21 #[.val (.int p1), .val (.int p2), .val (.int p3), .val (.int (own_ln p3)), .val (.int (own_b0 p1)), .val (.int (own_b1 p1)), .unset, .unset, .unset, .unset, .unset, .unset, .unset, .unset, .unset, .unset, .unset, .unset] [(.int (16 : Int32)), (.int p1)]))
  refine Go.on (fun t k => XS.ishr X0.here hx rfl (hb hby at_21) rfl k) ?_
  show Go p e below _ (s₁.setTop (mkF m 22 #[.val (.int p1), .val (.int p2), .val (.int p3), .val (.int (own_ln p3)), .val (.int (own_b0 p1)), .val (.int (own_b1 p1)), .unset, .unset, .unset, .unset, .unset, .unset, .unset, .unset, .unset, .unset, .unset, .unset] [(.int (p1 >>> ((16 : Int32) &&& 31)))]))
  refine Go.on (fun t k => XS.i2b X0.here hx rfl (hb hby at_22) rfl k) ?_
  show Go p e below _ (s₁.setTop (mkF m 23 #[.val (.int p1), .val (.int p2), .val (.int p3), .val (.int (own_ln p3)), .val (.int (own_b0 p1)), .val (.int (own_b1 p1)), .unset, .unset, .unset, .unset, .unset, .unset, .unset, .unset, .unset, .unset, .unset, .unset] [(.int (own_b2 p1))]))
  refine Go.on (fun t k => XS.istore X0.here hx rfl (hb hby at_23) rfl (l' := #[.val (.int p1), .val (.int p2), .val (.int p3), .val (.int (own_ln p3)), .val (.int (own_b0 p1)), .val (.int (own_b1 p1)), .val (.int (own_b2 p1)), .unset, .unset, .unset, .unset, .unset, .unset, .unset, .unset, .unset, .unset, .unset]) rfl k) ?_
  show Go p e below _ (s₁.setTop (mkF m 25 #[.val (.int p1), .val (.int p2), .val (.int p3), .val (.int (own_ln p3)), .val (.int (own_b0 p1)), .val (.int (own_b1 p1)), .val (.int (own_b2 p1)), .unset, .unset, .unset, .unset, .unset, .unset, .unset, .unset, .unset, .unset, .unset] []))
  refine Go.on (fun t k => XS.iloadN X0.here hx rfl (hb hby at_25) rfl k) ?_
  show Go p e below _ (s₁.setTop (mkF m 26 #[.val (.int p1), .val (.int p2), .val (.int p3), .val (.int (own_ln p3)), .val (.int (own_b0 p1)), .val (.int (own_b1 p1)), .val (.int (own_b2 p1)), .unset, .unset, .unset, .unset, .unset, .unset, .unset, .unset, .unset, .unset, .unset] [(.int p1)]))
  refine Go.on (fun t k => XS.bipush X0.here hx rfl (hb hby at_26) k) ?_
  show Go p e below _ (s₁.setTop (mkF m 28 #[.val (.int p1), .val (.int p2), .val (.int p3), .val (.int (own_ln p3)), .val (.int (own_b0 p1)), .val (.int (own_b1 p1)), .val (.int (own_b2 p1)), .unset, .unset, .unset, .unset, .unset, .unset, .unset, .unset, .unset, .unset, .unset] [(.int (24 : Int32)), (.int p1)]))
  refine Go.on (fun t k => XS.ishr X0.here hx rfl (hb hby at_28) rfl k) ?_
  show Go p e below _ (s₁.setTop (mkF m 29 #[.val (.int p1), .val (.int p2), .val (.int p3), .val (.int (own_ln p3)), .val (.int (own_b0 p1)), .val (.int (own_b1 p1)), .val (.int (own_b2 p1)), .unset, .unset, .unset, .unset, .unset, .unset, .unset, .unset, .unset, .unset, .unset] [(.int (p1 >>> ((24 : Int32) &&& 31)))]))
  refine Go.on (fun t k => XS.i2b X0.here hx rfl (hb hby at_29) rfl k) ?_
  show Go p e below _ (s₁.setTop (mkF m 30 #[.val (.int p1), .val (.int p2), .val (.int p3), .val (.int (own_ln p3)), .val (.int (own_b0 p1)), .val (.int (own_b1 p1)), .val (.int (own_b2 p1)), .unset, .unset, .unset, .unset, .unset, .unset, .unset, .unset, .unset, .unset, .unset] [(.int (own_b3 p1))]))
  refine Go.on (fun t k => XS.istore X0.here hx rfl (hb hby at_30) rfl (l' := #[.val (.int p1), .val (.int p2), .val (.int p3), .val (.int (own_ln p3)), .val (.int (own_b0 p1)), .val (.int (own_b1 p1)), .val (.int (own_b2 p1)), .val (.int (own_b3 p1)), .unset, .unset, .unset, .unset, .unset, .unset, .unset, .unset, .unset, .unset]) rfl k) ?_
  show Go p e below _ (s₁.setTop (mkF m 32 #[.val (.int p1), .val (.int p2), .val (.int p3), .val (.int (own_ln p3)), .val (.int (own_b0 p1)), .val (.int (own_b1 p1)), .val (.int (own_b2 p1)), .val (.int (own_b3 p1)), .unset, .unset, .unset, .unset, .unset, .unset, .unset, .unset, .unset, .unset] []))
  refine Go.on (fun t k => XS.iloadN X0.here hx rfl (hb hby at_32) rfl k) ?_
  show Go p e below _ (s₁.setTop (mkF m 33 #[.val (.int p1), .val (.int p2), .val (.int p3), .val (.int (own_ln p3)), .val (.int (own_b0 p1)), .val (.int (own_b1 p1)), .val (.int (own_b2 p1)), .val (.int (own_b3 p1)), .unset, .unset, .unset, .unset, .unset, .unset, .unset, .unset, .unset, .unset] [(.int p3)]))
  refine Go.on (fun t k => XS.iconst X0.here hx rfl (hb hby at_33) k) ?_
  show Go p e below _ (s₁.setTop (mkF m 34 #[.val (.int p1), .val (.int p2), .val (.int p3), .val (.int (own_ln p3)), .val (.int (own_b0 p1)), .val (.int (own_b1 p1)), .val (.int (own_b2 p1)), .val (.int (own_b3 p1)), .unset, .unset, .unset, .unset, .unset, .unset, .unset, .unset, .unset, .unset] [(.int (3 : Int32)), (.int p3)]))
  refine Go.on (fun t k => XS.iushr X0.here hx rfl (hb hby at_34) rfl k) ?_
  show Go p e below _ (s₁.setTop (mkF m 35 #[.val (.int p1), .val (.int p2), .val (.int p3), .val (.int (own_ln p3)), .val (.int (own_b0 p1)), .val (.int (own_b1 p1)), .val (.int (own_b2 p1)), .val (.int (own_b3 p1)), .unset, .unset, .unset, .unset, .unset, .unset, .unset, .unset, .unset, .unset] [(.int (ushrI p3 (3 : Int32)))]))
  refine Go.on (fun t k => XS.bipush X0.here hx rfl (hb hby at_35) k) ?_
  show Go p e below _ (s₁.setTop (mkF m 37 #[.val (.int p1), .val (.int p2), .val (.int p3), .val (.int (own_ln p3)), .val (.int (own_b0 p1)), .val (.int (own_b1 p1)), .val (.int (own_b2 p1)), .val (.int (own_b3 p1)), .unset, .unset, .unset, .unset, .unset, .unset, .unset, .unset, .unset, .unset] [(.int (7 : Int32)), (.int (ushrI p3 (3 : Int32)))]))
  refine Go.on (fun t k => XS.iand X0.here hx rfl (hb hby at_37) rfl k) ?_
  show Go p e below _ (s₁.setTop (mkF m 38 #[.val (.int p1), .val (.int p2), .val (.int p3), .val (.int (own_ln p3)), .val (.int (own_b0 p1)), .val (.int (own_b1 p1)), .val (.int (own_b2 p1)), .val (.int (own_b3 p1)), .unset, .unset, .unset, .unset, .unset, .unset, .unset, .unset, .unset, .unset] [(.int ((ushrI p3 (3 : Int32)) &&& (7 : Int32)))]))
  refine Go.on (fun t k => XS.istore X0.here hx rfl (hb hby at_38) rfl (l' := #[.val (.int p1), .val (.int p2), .val (.int p3), .val (.int (own_ln p3)), .val (.int (own_b0 p1)), .val (.int (own_b1 p1)), .val (.int (own_b2 p1)), .val (.int (own_b3 p1)), .val (.int ((ushrI p3 (3 : Int32)) &&& (7 : Int32))), .unset, .unset, .unset, .unset, .unset, .unset, .unset, .unset, .unset]) rfl k) ?_
  show Go p e below _ (s₁.setTop (mkF m 40 #[.val (.int p1), .val (.int p2), .val (.int p3), .val (.int (own_ln p3)), .val (.int (own_b0 p1)), .val (.int (own_b1 p1)), .val (.int (own_b2 p1)), .val (.int (own_b3 p1)), .val (.int ((ushrI p3 (3 : Int32)) &&& (7 : Int32))), .unset, .unset, .unset, .unset, .unset, .unset, .unset, .unset, .unset] []))
  refine pA X0 hx hby  ?_
  show Go p e below _ (s₁.setTop (mkF m 94 #[.val (.int p1), .val (.int p2), .val (.int p3), .val (.int (own_ln p3)), .val (.int (own_b0 p1)), .val (.int (own_b1 p1)), .val (.int (own_b2 p1)), .val (.int (own_b3 p1)), .val (.int ((ushrI p3 (3 : Int32)) &&& (7 : Int32))), .val (.int (own_lab ((ushrI p3 (3 : Int32)) &&& (7 : Int32)) (own_b0 p1) (own_b1 p1) (own_b2 p1) (own_b3 p1) p2)), .unset, .unset, .unset, .unset, .unset, .unset, .unset, .unset] []))
  refine Go.on (fun t k => XS.iloadN X0.here hx rfl (hb hby at_94) rfl k) ?_
  show Go p e below _ (s₁.setTop (mkF m 95 #[.val (.int p1), .val (.int p2), .val (.int p3), .val (.int (own_ln p3)), .val (.int (own_b0 p1)), .val (.int (own_b1 p1)), .val (.int (own_b2 p1)), .val (.int (own_b3 p1)), .val (.int ((ushrI p3 (3 : Int32)) &&& (7 : Int32))), .val (.int (own_lab ((ushrI p3 (3 : Int32)) &&& (7 : Int32)) (own_b0 p1) (own_b1 p1) (own_b2 p1) (own_b3 p1) p2)), .unset, .unset, .unset, .unset, .unset, .unset, .unset, .unset] [(.int (own_ln p3))]))
  have hln := own_ln_rng p3
  have hlx := ix hln.1
  obtain ⟨lab, hlab⟩ : ∃ z, z = (own_lab ((ushrI p3 (3 : Int32)) &&& (7 : Int32)) (own_b0 p1) (own_b1 p1) (own_b2 p1) (own_b3 p1) p2) := ⟨_, rfl⟩
  rw [← hlab]
  show Go p e below _ (s₁.setTop (mkF m 95 #[.val (.int p1), .val (.int p2), .val (.int p3), .val (.int (own_ln p3)), .val (.int (own_b0 p1)), .val (.int (own_b1 p1)), .val (.int (own_b2 p1)), .val (.int (own_b3 p1)), .val (.int ((ushrI p3 (3 : Int32)) &&& (7 : Int32))), .val (.int lab), .unset, .unset, .unset, .unset, .unset, .unset, .unset, .unset] [(.int (own_ln p3))]))
  obtain ⟨T1, h1, cA1, X1, e1, E1, A1, st1⟩ := newP X0 hx hZ (aty := .byte) (hw _ (List.mem_of_getElem? (i := 0) rfl)) e0 (g := (mkF m 95 #[.val (.int p1), .val (.int p2), .val (.int p3), .val (.int (own_ln p3)), .val (.int (own_b0 p1)), .val (.int (own_b1 p1)), .val (.int (own_b2 p1)), .val (.int (own_b3 p1)), .val (.int ((ushrI p3 (3 : Int32)) &&& (7 : Int32))), .val (.int lab), .unset, .unset, .unset, .unset, .unset, .unset, .unset, .unset] [(.int (own_ln p3))])) rfl (hb hby at_95) (n := (own_ln p3)) rfl hlx.1 (cap := 4) (by rw [hlx.2]; exact hln.2) (by decide) (by decide) (by decide)
  obtain ⟨a1, g1⟩ : ∃ z, z = h0.size := ⟨_, rfl⟩
  rw [← g1] at A1 st1
  have Z1 : n0 ≤ h1.size := Nat.le_trans Z0 E1.1
  have G1 : n0 ≤ a1 := Nat.le_trans Z0 (Nat.le_of_eq g1.symm)
  have F1 : BA Z h1 a1 .byte ((own_ln p3)).toNatClampNeg (fun _ => defaultValue .byte) := BA.new A1 rfl
  refine Go.on st1 ?_
  show Go p e below _ (T1.setTop (mkF m 97 #[.val (.int p1), .val (.int p2), .val (.int p3), .val (.int (own_ln p3)), .val (.int (own_b0 p1)), .val (.int (own_b1 p1)), .val (.int (own_b2 p1)), .val (.int (own_b3 p1)), .val (.int ((ushrI p3 (3 : Int32)) &&& (7 : Int32))), .val (.int lab), .unset, .unset, .unset, .unset, .unset, .unset, .unset, .unset] [(.ref a1)]))
  have Fz1 : BA Z h1 a1 .byte ((own_ln p3).toInt.toNat) (fun j => .int (own_g (own_b0 p1) (own_b1 p1) (own_b2 p1) (own_b3 p1) 0 j)) := by
    have w1 := F1
    rw [hlx.2] at w1
    exact w1.fn (fun j hj => rfl)
  refine Go.on (fun t k => XS.astore X1.here hx rfl (hb hby at_97) rfl rfl (l' := #[.val (.int p1), .val (.int p2), .val (.int p3), .val (.int (own_ln p3)), .val (.int (own_b0 p1)), .val (.int (own_b1 p1)), .val (.int (own_b2 p1)), .val (.int (own_b3 p1)), .val (.int ((ushrI p3 (3 : Int32)) &&& (7 : Int32))), .val (.int lab), .val (.ref a1), .unset, .unset, .unset, .unset, .unset, .unset, .unset]) rfl k) ?_
  show Go p e below _ (T1.setTop (mkF m 99 #[.val (.int p1), .val (.int p2), .val (.int p3), .val (.int (own_ln p3)), .val (.int (own_b0 p1)), .val (.int (own_b1 p1)), .val (.int (own_b2 p1)), .val (.int (own_b3 p1)), .val (.int ((ushrI p3 (3 : Int32)) &&& (7 : Int32))), .val (.int lab), .val (.ref a1), .unset, .unset, .unset, .unset, .unset, .unset, .unset] []))
  refine pS0 X1 hx hby hZ e1 N0 Z1 G1 hln.1 (own_narb _) Fz1 ?_
  intro T2 h2 L2 X2 e2 N2 Z2 F2
  show Go p e below _ (T2.setTop (mkF m 109 #[.val (.int p1), .val (.int p2), .val (.int p3), .val (.int (own_ln p3)), .val (.int (own_b0 p1)), .val (.int (own_b1 p1)), .val (.int (own_b2 p1)), .val (.int (own_b3 p1)), .val (.int ((ushrI p3 (3 : Int32)) &&& (7 : Int32))), .val (.int lab), .val (.ref a1), .unset, .unset, .unset, .unset, .unset, .unset, .unset] []))
  refine pS1 X2 hx hby hZ e2 N2 Z2 G1 hln.1 (own_narb _) F2 ?_
  intro T3 h3 L3 X3 e3 N3 Z3 F3
  show Go p e below _ (T3.setTop (mkF m 120 #[.val (.int p1), .val (.int p2), .val (.int p3), .val (.int (own_ln p3)), .val (.int (own_b0 p1)), .val (.int (own_b1 p1)), .val (.int (own_b2 p1)), .val (.int (own_b3 p1)), .val (.int ((ushrI p3 (3 : Int32)) &&& (7 : Int32))), .val (.int lab), .val (.ref a1), .unset, .unset, .unset, .unset, .unset, .unset, .unset] []))
  refine pS2 X3 hx hby hZ e3 N3 Z3 G1 hln.1 (own_narb _) F3 ?_
  intro T4 h4 L4 X4 e4 N4 Z4 F4
  show Go p e below _ (T4.setTop (mkF m 131 #[.val (.int p1), .val (.int p2), .val (.int p3), .val (.int (own_ln p3)), .val (.int (own_b0 p1)), .val (.int (own_b1 p1)), .val (.int (own_b2 p1)), .val (.int (own_b3 p1)), .val (.int ((ushrI p3 (3 : Int32)) &&& (7 : Int32))), .val (.int lab), .val (.ref a1), .unset, .unset, .unset, .unset, .unset, .unset, .unset] []))
  refine pS3 X4 hx hby hZ e4 N4 Z4 G1 hln.1 (own_narb _) F4 ?_
  intro T5 h5 L5 X5 e5 N5 Z5 F5
  show Go p e below _ (T5.setTop (mkF m 142 #[.val (.int p1), .val (.int p2), .val (.int p3), .val (.int (own_ln p3)), .val (.int (own_b0 p1)), .val (.int (own_b1 p1)), .val (.int (own_b2 p1)), .val (.int (own_b3 p1)), .val (.int ((ushrI p3 (3 : Int32)) &&& (7 : Int32))), .val (.int lab), .val (.ref a1), .unset, .unset, .unset, .unset, .unset, .unset, .unset] []))
  refine pM0 X5 hx hby hln.1 ?_
  show Go p e below _ (T5.setTop (mkF m 160 #[.val (.int p1), .val (.int p2), .val (.int p3), .val (.int (own_ln p3)), .val (.int (own_b0 p1)), .val (.int (own_b1 p1)), .val (.int (own_b2 p1)), .val (.int (own_b3 p1)), .val (.int ((ushrI p3 (3 : Int32)) &&& (7 : Int32))), .val (.int lab), .val (.ref a1), .val (.int (own_m ((own_ln p3).toInt.toNat) (own_f (own_b0 p1) (own_b1 p1) (own_b2 p1) (own_b3 p1)) lab 0)), .unset, .unset, .unset, .unset, .unset, .unset] []))
  refine pM1 X5 hx hby hln.1 ?_
  show Go p e below _ (T5.setTop (mkF m 179 #[.val (.int p1), .val (.int p2), .val (.int p3), .val (.int (own_ln p3)), .val (.int (own_b0 p1)), .val (.int (own_b1 p1)), .val (.int (own_b2 p1)), .val (.int (own_b3 p1)), .val (.int ((ushrI p3 (3 : Int32)) &&& (7 : Int32))), .val (.int lab), .val (.ref a1), .val (.int (own_m ((own_ln p3).toInt.toNat) (own_f (own_b0 p1) (own_b1 p1) (own_b2 p1) (own_b3 p1)) lab 0)), .val (.int (own_m ((own_ln p3).toInt.toNat) (own_f (own_b0 p1) (own_b1 p1) (own_b2 p1) (own_b3 p1)) lab 1)), .unset, .unset, .unset, .unset, .unset] []))
  refine pM2 X5 hx hby hln.1 ?_
  show Go p e below _ (T5.setTop (mkF m 198 #[.val (.int p1), .val (.int p2), .val (.int p3), .val (.int (own_ln p3)), .val (.int (own_b0 p1)), .val (.int (own_b1 p1)), .val (.int (own_b2 p1)), .val (.int (own_b3 p1)), .val (.int ((ushrI p3 (3 : Int32)) &&& (7 : Int32))), .val (.int lab), .val (.ref a1), .val (.int (own_m ((own_ln p3).toInt.toNat) (own_f (own_b0 p1) (own_b1 p1) (own_b2 p1) (own_b3 p1)) lab 0)), .val (.int (own_m ((own_ln p3).toInt.toNat) (own_f (own_b0 p1) (own_b1 p1) (own_b2 p1) (own_b3 p1)) lab 1)), .val (.int (own_m ((own_ln p3).toInt.toNat) (own_f (own_b0 p1) (own_b1 p1) (own_b2 p1) (own_b3 p1)) lab 2)), .unset, .unset, .unset, .unset] []))
  refine pM3 X5 hx hby hln.1 ?_
  show Go p e below _ (T5.setTop (mkF m 217 #[.val (.int p1), .val (.int p2), .val (.int p3), .val (.int (own_ln p3)), .val (.int (own_b0 p1)), .val (.int (own_b1 p1)), .val (.int (own_b2 p1)), .val (.int (own_b3 p1)), .val (.int ((ushrI p3 (3 : Int32)) &&& (7 : Int32))), .val (.int lab), .val (.ref a1), .val (.int (own_m ((own_ln p3).toInt.toNat) (own_f (own_b0 p1) (own_b1 p1) (own_b2 p1) (own_b3 p1)) lab 0)), .val (.int (own_m ((own_ln p3).toInt.toNat) (own_f (own_b0 p1) (own_b1 p1) (own_b2 p1) (own_b3 p1)) lab 1)), .val (.int (own_m ((own_ln p3).toInt.toNat) (own_f (own_b0 p1) (own_b1 p1) (own_b2 p1) (own_b3 p1)) lab 2)), .val (.int (own_m ((own_ln p3).toInt.toNat) (own_f (own_b0 p1) (own_b1 p1) (own_b2 p1) (own_b3 p1)) lab 3)), .unset, .unset, .unset] []))
  refine pT0 X5 hx hby ?_
  show Go p e below _ (T5.setTop (mkF m 227 #[.val (.int p1), .val (.int p2), .val (.int p3), .val (.int (own_ln p3)), .val (.int (own_b0 p1)), .val (.int (own_b1 p1)), .val (.int (own_b2 p1)), .val (.int (own_b3 p1)), .val (.int ((ushrI p3 (3 : Int32)) &&& (7 : Int32))), .val (.int lab), .val (.ref a1), .val (.int (own_m ((own_ln p3).toInt.toNat) (own_f (own_b0 p1) (own_b1 p1) (own_b2 p1) (own_b3 p1)) lab 0)), .val (.int (own_m ((own_ln p3).toInt.toNat) (own_f (own_b0 p1) (own_b1 p1) (own_b2 p1) (own_b3 p1)) lab 1)), .val (.int (own_m ((own_ln p3).toInt.toNat) (own_f (own_b0 p1) (own_b1 p1) (own_b2 p1) (own_b3 p1)) lab 2)), .val (.int (own_m ((own_ln p3).toInt.toNat) (own_f (own_b0 p1) (own_b1 p1) (own_b2 p1) (own_b3 p1)) lab 3)), .unset, .unset, .unset] [(.int (own_t (own_m ((own_ln p3).toInt.toNat) (own_f (own_b0 p1) (own_b1 p1) (own_b2 p1) (own_b3 p1)) lab 0)))]))
  refine pT1 X5 hx hby ?_
  show Go p e below _ (T5.setTop (mkF m 238 #[.val (.int p1), .val (.int p2), .val (.int p3), .val (.int (own_ln p3)), .val (.int (own_b0 p1)), .val (.int (own_b1 p1)), .val (.int (own_b2 p1)), .val (.int (own_b3 p1)), .val (.int ((ushrI p3 (3 : Int32)) &&& (7 : Int32))), .val (.int lab), .val (.ref a1), .val (.int (own_m ((own_ln p3).toInt.toNat) (own_f (own_b0 p1) (own_b1 p1) (own_b2 p1) (own_b3 p1)) lab 0)), .val (.int (own_m ((own_ln p3).toInt.toNat) (own_f (own_b0 p1) (own_b1 p1) (own_b2 p1) (own_b3 p1)) lab 1)), .val (.int (own_m ((own_ln p3).toInt.toNat) (own_f (own_b0 p1) (own_b1 p1) (own_b2 p1) (own_b3 p1)) lab 2)), .val (.int (own_m ((own_ln p3).toInt.toNat) (own_f (own_b0 p1) (own_b1 p1) (own_b2 p1) (own_b3 p1)) lab 3)), .unset, .unset, .unset] [(.int ((own_t (own_m ((own_ln p3).toInt.toNat) (own_f (own_b0 p1) (own_b1 p1) (own_b2 p1) (own_b3 p1)) lab 0)) + (own_t (own_m ((own_ln p3).toInt.toNat) (own_f (own_b0 p1) (own_b1 p1) (own_b2 p1) (own_b3 p1)) lab 1))))]))
  refine pT2 X5 hx hby ?_
  show Go p e below _ (T5.setTop (mkF m 249 #[.val (.int p1), .val (.int p2), .val (.int p3), .val (.int (own_ln p3)), .val (.int (own_b0 p1)), .val (.int (own_b1 p1)), .val (.int (own_b2 p1)), .val (.int (own_b3 p1)), .val (.int ((ushrI p3 (3 : Int32)) &&& (7 : Int32))), .val (.int lab), .val (.ref a1), .val (.int (own_m ((own_ln p3).toInt.toNat) (own_f (own_b0 p1) (own_b1 p1) (own_b2 p1) (own_b3 p1)) lab 0)), .val (.int (own_m ((own_ln p3).toInt.toNat) (own_f (own_b0 p1) (own_b1 p1) (own_b2 p1) (own_b3 p1)) lab 1)), .val (.int (own_m ((own_ln p3).toInt.toNat) (own_f (own_b0 p1) (own_b1 p1) (own_b2 p1) (own_b3 p1)) lab 2)), .val (.int (own_m ((own_ln p3).toInt.toNat) (own_f (own_b0 p1) (own_b1 p1) (own_b2 p1) (own_b3 p1)) lab 3)), .unset, .unset, .unset] [(.int (((own_t (own_m ((own_ln p3).toInt.toNat) (own_f (own_b0 p1) (own_b1 p1) (own_b2 p1) (own_b3 p1)) lab 0)) + (own_t (own_m ((own_ln p3).toInt.toNat) (own_f (own_b0 p1) (own_b1 p1) (own_b2 p1) (own_b3 p1)) lab 1))) + (own_t (own_m ((own_ln p3).toInt.toNat) (own_f (own_b0 p1) (own_b1 p1) (own_b2 p1) (own_b3 p1)) lab 2))))]))
  refine pT3 X5 hx hby ?_
  show Go p e below _ (T5.setTop (mkF m 260 #[.val (.int p1), .val (.int p2), .val (.int p3), .val (.int (own_ln p3)), .val (.int (own_b0 p1)), .val (.int (own_b1 p1)), .val (.int (own_b2 p1)), .val (.int (own_b3 p1)), .val (.int ((ushrI p3 (3 : Int32)) &&& (7 : Int32))), .val (.int lab), .val (.ref a1), .val (.int (own_m ((own_ln p3).toInt.toNat) (own_f (own_b0 p1) (own_b1 p1) (own_b2 p1) (own_b3 p1)) lab 0)), .val (.int (own_m ((own_ln p3).toInt.toNat) (own_f (own_b0 p1) (own_b1 p1) (own_b2 p1) (own_b3 p1)) lab 1)), .val (.int (own_m ((own_ln p3).toInt.toNat) (own_f (own_b0 p1) (own_b1 p1) (own_b2 p1) (own_b3 p1)) lab 2)), .val (.int (own_m ((own_ln p3).toInt.toNat) (own_f (own_b0 p1) (own_b1 p1) (own_b2 p1) (own_b3 p1)) lab 3)), .unset, .unset, .unset] [(.int ((((own_t (own_m ((own_ln p3).toInt.toNat) (own_f (own_b0 p1) (own_b1 p1) (own_b2 p1) (own_b3 p1)) lab 0)) + (own_t (own_m ((own_ln p3).toInt.toNat) (own_f (own_b0 p1) (own_b1 p1) (own_b2 p1) (own_b3 p1)) lab 1))) + (own_t (own_m ((own_ln p3).toInt.toNat) (own_f (own_b0 p1) (own_b1 p1) (own_b2 p1) (own_b3 p1)) lab 2))) + (own_t (own_m ((own_ln p3).toInt.toNat) (own_f (own_b0 p1) (own_b1 p1) (own_b2 p1) (own_b3 p1)) lab 3))))]))
  refine Go.on (fun t k => XS.istore X5.here hx rfl (hb hby at_260) rfl (l' := #[.val (.int p1), .val (.int p2), .val (.int p3), .val (.int (own_ln p3)), .val (.int (own_b0 p1)), .val (.int (own_b1 p1)), .val (.int (own_b2 p1)), .val (.int (own_b3 p1)), .val (.int ((ushrI p3 (3 : Int32)) &&& (7 : Int32))), .val (.int lab), .val (.ref a1), .val (.int (own_m ((own_ln p3).toInt.toNat) (own_f (own_b0 p1) (own_b1 p1) (own_b2 p1) (own_b3 p1)) lab 0)), .val (.int (own_m ((own_ln p3).toInt.toNat) (own_f (own_b0 p1) (own_b1 p1) (own_b2 p1) (own_b3 p1)) lab 1)), .val (.int (own_m ((own_ln p3).toInt.toNat) (own_f (own_b0 p1) (own_b1 p1) (own_b2 p1) (own_b3 p1)) lab 2)), .val (.int (own_m ((own_ln p3).toInt.toNat) (own_f (own_b0 p1) (own_b1 p1) (own_b2 p1) (own_b3 p1)) lab 3)), .val (.int ((((own_t (own_m ((own_ln p3).toInt.toNat) (own_f (own_b0 p1) (own_b1 p1) (own_b2 p1) (own_b3 p1)) lab 0)) + (own_t (own_m ((own_ln p3).toInt.toNat) (own_f (own_b0 p1) (own_b1 p1) (own_b2 p1) (own_b3 p1)) lab 1))) + (own_t (own_m ((own_ln p3).toInt.toNat) (own_f (own_b0 p1) (own_b1 p1) (own_b2 p1) (own_b3 p1)) lab 2))) + (own_t (own_m ((own_ln p3).toInt.toNat) (own_f (own_b0 p1) (own_b1 p1) (own_b2 p1) (own_b3 p1)) lab 3)))), .unset, .unset]) rfl k) ?_
  show Go p e below _ (T5.setTop (mkF m 262 #[.val (.int p1), .val (.int p2), .val (.int p3), .val (.int (own_ln p3)), .val (.int (own_b0 p1)), .val (.int (own_b1 p1)), .val (.int (own_b2 p1)), .val (.int (own_b3 p1)), .val (.int ((ushrI p3 (3 : Int32)) &&& (7 : Int32))), .val (.int lab), .val (.ref a1), .val (.int (own_m ((own_ln p3).toInt.toNat) (own_f (own_b0 p1) (own_b1 p1) (own_b2 p1) (own_b3 p1)) lab 0)), .val (.int (own_m ((own_ln p3).toInt.toNat) (own_f (own_b0 p1) (own_b1 p1) (own_b2 p1) (own_b3 p1)) lab 1)), .val (.int (own_m ((own_ln p3).toInt.toNat) (own_f (own_b0 p1) (own_b1 p1) (own_b2 p1) (own_b3 p1)) lab 2)), .val (.int (own_m ((own_ln p3).toInt.toNat) (own_f (own_b0 p1) (own_b1 p1) (own_b2 p1) (own_b3 p1)) lab 3)), .val (.int ((((own_t (own_m ((own_ln p3).toInt.toNat) (own_f (own_b0 p1) (own_b1 p1) (own_b2 p1) (own_b3 p1)) lab 0)) + (own_t (own_m ((own_ln p3).toInt.toNat) (own_f (own_b0 p1) (own_b1 p1) (own_b2 p1) (own_b3 p1)) lab 1))) + (own_t (own_m ((own_ln p3).toInt.toNat) (own_f (own_b0 p1) (own_b1 p1) (own_b2 p1) (own_b3 p1)) lab 2))) + (own_t (own_m ((own_ln p3).toInt.toNat) (own_f (own_b0 p1) (own_b1 p1) (own_b2 p1) (own_b3 p1)) lab 3)))), .unset, .unset] []))
  refine Go.on (fun t k => XS.aload X5.here hx rfl (hb hby at_262) rfl rfl k) ?_
  show Go p e below _ (T5.setTop (mkF m 264 #[.val (.int p1), .val (.int p2), .val (.int p3), .val (.int (own_ln p3)), .val (.int (own_b0 p1)), .val (.int (own_b1 p1)), .val (.int (own_b2 p1)), .val (.int (own_b3 p1)), .val (.int ((ushrI p3 (3 : Int32)) &&& (7 : Int32))), .val (.int lab), .val (.ref a1), .val (.int (own_m ((own_ln p3).toInt.toNat) (own_f (own_b0 p1) (own_b1 p1) (own_b2 p1) (own_b3 p1)) lab 0)), .val (.int (own_m ((own_ln p3).toInt.toNat) (own_f (own_b0 p1) (own_b1 p1) (own_b2 p1) (own_b3 p1)) lab 1)), .val (.int (own_m ((own_ln p3).toInt.toNat) (own_f (own_b0 p1) (own_b1 p1) (own_b2 p1) (own_b3 p1)) lab 2)), .val (.int (own_m ((own_ln p3).toInt.toNat) (own_f (own_b0 p1) (own_b1 p1) (own_b2 p1) (own_b3 p1)) lab 3)), .val (.int ((((own_t (own_m ((own_ln p3).toInt.toNat) (own_f (own_b0 p1) (own_b1 p1) (own_b2 p1) (own_b3 p1)) lab 0)) + (own_t (own_m ((own_ln p3).toInt.toNat) (own_f (own_b0 p1) (own_b1 p1) (own_b2 p1) (own_b3 p1)) lab 1))) + (own_t (own_m ((own_ln p3).toInt.toNat) (own_f (own_b0 p1) (own_b1 p1) (own_b2 p1) (own_b3 p1)) lab 2))) + (own_t (own_m ((own_ln p3).toInt.toNat) (own_f (own_b0 p1) (own_b1 p1) (own_b2 p1) (own_b3 p1)) lab 3)))), .unset, .unset] [(.ref a1)]))
  refine Go.on (fun t k => XS.iload X5.here hx rfl (hb hby at_264) rfl k) ?_
  show Go p e below _ (T5.setTop (mkF m 266 #[.val (.int p1), .val (.int p2), .val (.int p3), .val (.int (own_ln p3)), .val (.int (own_b0 p1)), .val (.int (own_b1 p1)), .val (.int (own_b2 p1)), .val (.int (own_b3 p1)), .val (.int ((ushrI p3 (3 : Int32)) &&& (7 : Int32))), .val (.int lab), .val (.ref a1), .val (.int (own_m ((own_ln p3).toInt.toNat) (own_f (own_b0 p1) (own_b1 p1) (own_b2 p1) (own_b3 p1)) lab 0)), .val (.int (own_m ((own_ln p3).toInt.toNat) (own_f (own_b0 p1) (own_b1 p1) (own_b2 p1) (own_b3 p1)) lab 1)), .val (.int (own_m ((own_ln p3).toInt.toNat) (own_f (own_b0 p1) (own_b1 p1) (own_b2 p1) (own_b3 p1)) lab 2)), .val (.int (own_m ((own_ln p3).toInt.toNat) (own_f (own_b0 p1) (own_b1 p1) (own_b2 p1) (own_b3 p1)) lab 3)), .val (.int ((((own_t (own_m ((own_ln p3).toInt.toNat) (own_f (own_b0 p1) (own_b1 p1) (own_b2 p1) (own_b3 p1)) lab 0)) + (own_t (own_m ((own_ln p3).toInt.toNat) (own_f (own_b0 p1) (own_b1 p1) (own_b2 p1) (own_b3 p1)) lab 1))) + (own_t (own_m ((own_ln p3).toInt.toNat) (own_f (own_b0 p1) (own_b1 p1) (own_b2 p1) (own_b3 p1)) lab 2))) + (own_t (own_m ((own_ln p3).toInt.toNat) (own_f (own_b0 p1) (own_b1 p1) (own_b2 p1) (own_b3 p1)) lab 3)))), .unset, .unset] [(.int lab), (.ref a1)]))
  have Fq : BA Z h5 a1 .byte ((own_ln p3).toInt.toNat) (fun j => .int ((own_f (own_b0 p1) (own_b1 p1) (own_b2 p1) (own_b3 p1)) j)) := F5.fn (fun j hj => by unfold own_g; rw [if_pos (by omega)])
  obtain ⟨_, _, ⟨T6, L6, k6, n6⟩, -, X6, ⟨Lc6, hQ6, l6, y6, z6⟩, st6⟩ := Jvm.LawKit.callS X5 hx (y := (⟨"com/example/planarium/planarium/separator/Separation", "verticesIn", "([BI)[I"⟩ : MethodName)) hown (mvT hZ (hw _ (List.mem_of_getElem? (i := 1) rfl))) (mvT hZ (hw _ (List.mem_of_getElem? (i := 2) rfl))) (mvT hZ (hw _ (List.mem_of_getElem? (i := 3) rfl))) (mvT hZ (hw _ (List.mem_of_getElem? (i := 4) rfl))) (by decide) (backOf (W := 0) (rm1 l Z a0 hw [] a1 lab ((own_ln p3).toInt.toNat) (own_f (own_b0 p1) (own_b1 p1) (own_b2 p1) (own_b3 p1)) h5 n0 Z5 hln.2 Fq) hZ (hw _ (List.mem_of_getElem? (i := 4) rfl)) (hw _ (List.mem_of_getElem? (i := 3) rfl)) (by decide) (by decide)) (g := (mkF m 266 #[.val (.int p1), .val (.int p2), .val (.int p3), .val (.int (own_ln p3)), .val (.int (own_b0 p1)), .val (.int (own_b1 p1)), .val (.int (own_b2 p1)), .val (.int (own_b3 p1)), .val (.int ((ushrI p3 (3 : Int32)) &&& (7 : Int32))), .val (.int lab), .val (.ref a1), .val (.int (own_m ((own_ln p3).toInt.toNat) (own_f (own_b0 p1) (own_b1 p1) (own_b2 p1) (own_b3 p1)) lab 0)), .val (.int (own_m ((own_ln p3).toInt.toNat) (own_f (own_b0 p1) (own_b1 p1) (own_b2 p1) (own_b3 p1)) lab 1)), .val (.int (own_m ((own_ln p3).toInt.toNat) (own_f (own_b0 p1) (own_b1 p1) (own_b2 p1) (own_b3 p1)) lab 2)), .val (.int (own_m ((own_ln p3).toInt.toNat) (own_f (own_b0 p1) (own_b1 p1) (own_b2 p1) (own_b3 p1)) lab 3)), .val (.int ((((own_t (own_m ((own_ln p3).toInt.toNat) (own_f (own_b0 p1) (own_b1 p1) (own_b2 p1) (own_b3 p1)) lab 0)) + (own_t (own_m ((own_ln p3).toInt.toNat) (own_f (own_b0 p1) (own_b1 p1) (own_b2 p1) (own_b3 p1)) lab 1))) + (own_t (own_m ((own_ln p3).toInt.toNat) (own_f (own_b0 p1) (own_b1 p1) (own_b2 p1) (own_b3 p1)) lab 2))) + (own_t (own_m ((own_ln p3).toInt.toNat) (own_f (own_b0 p1) (own_b1 p1) (own_b2 p1) (own_b3 p1)) lab 3)))), .unset, .unset] [(.int lab), (.ref a1)])) rfl (by rw [hml]; rfl) (argsL := [(.ref a1), (.int lab)]) (rest := []) (lenOf pd_1 rfl) rfl (by show 2 * 0 + _ ≤ _; exact Nat.le_of_eq rfl) (hb hby at_266) (fun _ _ => ⟨rfl, e5, (by decide : 1 + 1 ≤ _), (by decide : 4 + 4 ≤ _)⟩)
  dsimp only [Pt.U, Pt.locs, Pt.cells, Pt.slots] at X6 l6 y6 z6 st6 hQ6
  subst l6 y6 z6
  obtain ⟨r6, G6q, rfl, N6q, Zq6, Fq6, Fr6, HG6⟩ := hQ6
  have N6 := Fr.app N5 N6q
  refine Go.on st6 ?_
  show Go p e below _ (T6.setTop (mkF m 269 #[.val (.int p1), .val (.int p2), .val (.int p3), .val (.int (own_ln p3)), .val (.int (own_b0 p1)), .val (.int (own_b1 p1)), .val (.int (own_b2 p1)), .val (.int (own_b3 p1)), .val (.int ((ushrI p3 (3 : Int32)) &&& (7 : Int32))), .val (.int lab), .val (.ref a1), .val (.int (own_m ((own_ln p3).toInt.toNat) (own_f (own_b0 p1) (own_b1 p1) (own_b2 p1) (own_b3 p1)) lab 0)), .val (.int (own_m ((own_ln p3).toInt.toNat) (own_f (own_b0 p1) (own_b1 p1) (own_b2 p1) (own_b3 p1)) lab 1)), .val (.int (own_m ((own_ln p3).toInt.toNat) (own_f (own_b0 p1) (own_b1 p1) (own_b2 p1) (own_b3 p1)) lab 2)), .val (.int (own_m ((own_ln p3).toInt.toNat) (own_f (own_b0 p1) (own_b1 p1) (own_b2 p1) (own_b3 p1)) lab 3)), .val (.int ((((own_t (own_m ((own_ln p3).toInt.toNat) (own_f (own_b0 p1) (own_b1 p1) (own_b2 p1) (own_b3 p1)) lab 0)) + (own_t (own_m ((own_ln p3).toInt.toNat) (own_f (own_b0 p1) (own_b1 p1) (own_b2 p1) (own_b3 p1)) lab 1))) + (own_t (own_m ((own_ln p3).toInt.toNat) (own_f (own_b0 p1) (own_b1 p1) (own_b2 p1) (own_b3 p1)) lab 2))) + (own_t (own_m ((own_ln p3).toInt.toNat) (own_f (own_b0 p1) (own_b1 p1) (own_b2 p1) (own_b3 p1)) lab 3)))), .unset, .unset] [(.ref r6)]))
  refine Go.on (fun t k => XS.astore X6.here hx rfl (hb hby at_269) rfl rfl (l' := #[.val (.int p1), .val (.int p2), .val (.int p3), .val (.int (own_ln p3)), .val (.int (own_b0 p1)), .val (.int (own_b1 p1)), .val (.int (own_b2 p1)), .val (.int (own_b3 p1)), .val (.int ((ushrI p3 (3 : Int32)) &&& (7 : Int32))), .val (.int lab), .val (.ref a1), .val (.int (own_m ((own_ln p3).toInt.toNat) (own_f (own_b0 p1) (own_b1 p1) (own_b2 p1) (own_b3 p1)) lab 0)), .val (.int (own_m ((own_ln p3).toInt.toNat) (own_f (own_b0 p1) (own_b1 p1) (own_b2 p1) (own_b3 p1)) lab 1)), .val (.int (own_m ((own_ln p3).toInt.toNat) (own_f (own_b0 p1) (own_b1 p1) (own_b2 p1) (own_b3 p1)) lab 2)), .val (.int (own_m ((own_ln p3).toInt.toNat) (own_f (own_b0 p1) (own_b1 p1) (own_b2 p1) (own_b3 p1)) lab 3)), .val (.int ((((own_t (own_m ((own_ln p3).toInt.toNat) (own_f (own_b0 p1) (own_b1 p1) (own_b2 p1) (own_b3 p1)) lab 0)) + (own_t (own_m ((own_ln p3).toInt.toNat) (own_f (own_b0 p1) (own_b1 p1) (own_b2 p1) (own_b3 p1)) lab 1))) + (own_t (own_m ((own_ln p3).toInt.toNat) (own_f (own_b0 p1) (own_b1 p1) (own_b2 p1) (own_b3 p1)) lab 2))) + (own_t (own_m ((own_ln p3).toInt.toNat) (own_f (own_b0 p1) (own_b1 p1) (own_b2 p1) (own_b3 p1)) lab 3)))), .val (.ref r6), .unset]) rfl k) ?_
  show Go p e below _ (T6.setTop (mkF m 271 #[.val (.int p1), .val (.int p2), .val (.int p3), .val (.int (own_ln p3)), .val (.int (own_b0 p1)), .val (.int (own_b1 p1)), .val (.int (own_b2 p1)), .val (.int (own_b3 p1)), .val (.int ((ushrI p3 (3 : Int32)) &&& (7 : Int32))), .val (.int lab), .val (.ref a1), .val (.int (own_m ((own_ln p3).toInt.toNat) (own_f (own_b0 p1) (own_b1 p1) (own_b2 p1) (own_b3 p1)) lab 0)), .val (.int (own_m ((own_ln p3).toInt.toNat) (own_f (own_b0 p1) (own_b1 p1) (own_b2 p1) (own_b3 p1)) lab 1)), .val (.int (own_m ((own_ln p3).toInt.toNat) (own_f (own_b0 p1) (own_b1 p1) (own_b2 p1) (own_b3 p1)) lab 2)), .val (.int (own_m ((own_ln p3).toInt.toNat) (own_f (own_b0 p1) (own_b1 p1) (own_b2 p1) (own_b3 p1)) lab 3)), .val (.int ((((own_t (own_m ((own_ln p3).toInt.toNat) (own_f (own_b0 p1) (own_b1 p1) (own_b2 p1) (own_b3 p1)) lab 0)) + (own_t (own_m ((own_ln p3).toInt.toNat) (own_f (own_b0 p1) (own_b1 p1) (own_b2 p1) (own_b3 p1)) lab 1))) + (own_t (own_m ((own_ln p3).toInt.toNat) (own_f (own_b0 p1) (own_b1 p1) (own_b2 p1) (own_b3 p1)) lab 2))) + (own_t (own_m ((own_ln p3).toInt.toNat) (own_f (own_b0 p1) (own_b1 p1) (own_b2 p1) (own_b3 p1)) lab 3)))), .val (.ref r6), .unset] []))
  refine Go.on (fun t k => XS.aload X6.here hx rfl (hb hby at_271) rfl rfl k) ?_
  show Go p e below _ (T6.setTop (mkF m 273 #[.val (.int p1), .val (.int p2), .val (.int p3), .val (.int (own_ln p3)), .val (.int (own_b0 p1)), .val (.int (own_b1 p1)), .val (.int (own_b2 p1)), .val (.int (own_b3 p1)), .val (.int ((ushrI p3 (3 : Int32)) &&& (7 : Int32))), .val (.int lab), .val (.ref a1), .val (.int (own_m ((own_ln p3).toInt.toNat) (own_f (own_b0 p1) (own_b1 p1) (own_b2 p1) (own_b3 p1)) lab 0)), .val (.int (own_m ((own_ln p3).toInt.toNat) (own_f (own_b0 p1) (own_b1 p1) (own_b2 p1) (own_b3 p1)) lab 1)), .val (.int (own_m ((own_ln p3).toInt.toNat) (own_f (own_b0 p1) (own_b1 p1) (own_b2 p1) (own_b3 p1)) lab 2)), .val (.int (own_m ((own_ln p3).toInt.toNat) (own_f (own_b0 p1) (own_b1 p1) (own_b2 p1) (own_b3 p1)) lab 3)), .val (.int ((((own_t (own_m ((own_ln p3).toInt.toNat) (own_f (own_b0 p1) (own_b1 p1) (own_b2 p1) (own_b3 p1)) lab 0)) + (own_t (own_m ((own_ln p3).toInt.toNat) (own_f (own_b0 p1) (own_b1 p1) (own_b2 p1) (own_b3 p1)) lab 1))) + (own_t (own_m ((own_ln p3).toInt.toNat) (own_f (own_b0 p1) (own_b1 p1) (own_b2 p1) (own_b3 p1)) lab 2))) + (own_t (own_m ((own_ln p3).toInt.toNat) (own_f (own_b0 p1) (own_b1 p1) (own_b2 p1) (own_b3 p1)) lab 3)))), .val (.ref r6), .unset] [(.ref r6)]))
  refine Go.on (fun t k => XS.ifnonnullYes X6.here hx rfl (pc0 := 273) (pc' := 278) rfl (hb hby at_273) rfl (by decide) (by decide) k) ?_
  show Go p e below _ (T6.setTop (mkF m 278 #[.val (.int p1), .val (.int p2), .val (.int p3), .val (.int (own_ln p3)), .val (.int (own_b0 p1)), .val (.int (own_b1 p1)), .val (.int (own_b2 p1)), .val (.int (own_b3 p1)), .val (.int ((ushrI p3 (3 : Int32)) &&& (7 : Int32))), .val (.int lab), .val (.ref a1), .val (.int (own_m ((own_ln p3).toInt.toNat) (own_f (own_b0 p1) (own_b1 p1) (own_b2 p1) (own_b3 p1)) lab 0)), .val (.int (own_m ((own_ln p3).toInt.toNat) (own_f (own_b0 p1) (own_b1 p1) (own_b2 p1) (own_b3 p1)) lab 1)), .val (.int (own_m ((own_ln p3).toInt.toNat) (own_f (own_b0 p1) (own_b1 p1) (own_b2 p1) (own_b3 p1)) lab 2)), .val (.int (own_m ((own_ln p3).toInt.toNat) (own_f (own_b0 p1) (own_b1 p1) (own_b2 p1) (own_b3 p1)) lab 3)), .val (.int ((((own_t (own_m ((own_ln p3).toInt.toNat) (own_f (own_b0 p1) (own_b1 p1) (own_b2 p1) (own_b3 p1)) lab 0)) + (own_t (own_m ((own_ln p3).toInt.toNat) (own_f (own_b0 p1) (own_b1 p1) (own_b2 p1) (own_b3 p1)) lab 1))) + (own_t (own_m ((own_ln p3).toInt.toNat) (own_f (own_b0 p1) (own_b1 p1) (own_b2 p1) (own_b3 p1)) lab 2))) + (own_t (own_m ((own_ln p3).toInt.toNat) (own_f (own_b0 p1) (own_b1 p1) (own_b2 p1) (own_b3 p1)) lab 3)))), .val (.ref r6), .unset] []))
  refine Go.on (fun t k => XS.aload X6.here hx rfl (hb hby at_278) rfl rfl k) ?_
  show Go p e below _ (T6.setTop (mkF m 280 #[.val (.int p1), .val (.int p2), .val (.int p3), .val (.int (own_ln p3)), .val (.int (own_b0 p1)), .val (.int (own_b1 p1)), .val (.int (own_b2 p1)), .val (.int (own_b3 p1)), .val (.int ((ushrI p3 (3 : Int32)) &&& (7 : Int32))), .val (.int lab), .val (.ref a1), .val (.int (own_m ((own_ln p3).toInt.toNat) (own_f (own_b0 p1) (own_b1 p1) (own_b2 p1) (own_b3 p1)) lab 0)), .val (.int (own_m ((own_ln p3).toInt.toNat) (own_f (own_b0 p1) (own_b1 p1) (own_b2 p1) (own_b3 p1)) lab 1)), .val (.int (own_m ((own_ln p3).toInt.toNat) (own_f (own_b0 p1) (own_b1 p1) (own_b2 p1) (own_b3 p1)) lab 2)), .val (.int (own_m ((own_ln p3).toInt.toNat) (own_f (own_b0 p1) (own_b1 p1) (own_b2 p1) (own_b3 p1)) lab 3)), .val (.int ((((own_t (own_m ((own_ln p3).toInt.toNat) (own_f (own_b0 p1) (own_b1 p1) (own_b2 p1) (own_b3 p1)) lab 0)) + (own_t (own_m ((own_ln p3).toInt.toNat) (own_f (own_b0 p1) (own_b1 p1) (own_b2 p1) (own_b3 p1)) lab 1))) + (own_t (own_m ((own_ln p3).toInt.toNat) (own_f (own_b0 p1) (own_b1 p1) (own_b2 p1) (own_b3 p1)) lab 2))) + (own_t (own_m ((own_ln p3).toInt.toNat) (own_f (own_b0 p1) (own_b1 p1) (own_b2 p1) (own_b3 p1)) lab 3)))), .val (.ref r6), .unset] [(.ref r6)]))
  refine Go.len X6 hx hZ (rfl : T6.heap = T6.heap) Fr6 (N := (Int32.ofNat (cnt ((own_ln p3).toInt.toNat) (own_f (own_b0 p1) (own_b1 p1) (own_b2 p1) (own_b3 p1)) lab ((own_ln p3).toInt.toNat)))) rfl (hb hby at_280) ?_
  show Go p e below _ (T6.setTop (mkF m 281 #[.val (.int p1), .val (.int p2), .val (.int p3), .val (.int (own_ln p3)), .val (.int (own_b0 p1)), .val (.int (own_b1 p1)), .val (.int (own_b2 p1)), .val (.int (own_b3 p1)), .val (.int ((ushrI p3 (3 : Int32)) &&& (7 : Int32))), .val (.int lab), .val (.ref a1), .val (.int (own_m ((own_ln p3).toInt.toNat) (own_f (own_b0 p1) (own_b1 p1) (own_b2 p1) (own_b3 p1)) lab 0)), .val (.int (own_m ((own_ln p3).toInt.toNat) (own_f (own_b0 p1) (own_b1 p1) (own_b2 p1) (own_b3 p1)) lab 1)), .val (.int (own_m ((own_ln p3).toInt.toNat) (own_f (own_b0 p1) (own_b1 p1) (own_b2 p1) (own_b3 p1)) lab 2)), .val (.int (own_m ((own_ln p3).toInt.toNat) (own_f (own_b0 p1) (own_b1 p1) (own_b2 p1) (own_b3 p1)) lab 3)), .val (.int ((((own_t (own_m ((own_ln p3).toInt.toNat) (own_f (own_b0 p1) (own_b1 p1) (own_b2 p1) (own_b3 p1)) lab 0)) + (own_t (own_m ((own_ln p3).toInt.toNat) (own_f (own_b0 p1) (own_b1 p1) (own_b2 p1) (own_b3 p1)) lab 1))) + (own_t (own_m ((own_ln p3).toInt.toNat) (own_f (own_b0 p1) (own_b1 p1) (own_b2 p1) (own_b3 p1)) lab 2))) + (own_t (own_m ((own_ln p3).toInt.toNat) (own_f (own_b0 p1) (own_b1 p1) (own_b2 p1) (own_b3 p1)) lab 3)))), .val (.ref r6), .unset] [(.int (Int32.ofNat (cnt ((own_ln p3).toInt.toNat) (own_f (own_b0 p1) (own_b1 p1) (own_b2 p1) (own_b3 p1)) lab ((own_ln p3).toInt.toNat))))]))
  refine Go.on (fun t k => XS.iload X6.here hx rfl (hb hby at_281) rfl k) ?_
  show Go p e below _ (T6.setTop (mkF m 283 #[.val (.int p1), .val (.int p2), .val (.int p3), .val (.int (own_ln p3)), .val (.int (own_b0 p1)), .val (.int (own_b1 p1)), .val (.int (own_b2 p1)), .val (.int (own_b3 p1)), .val (.int ((ushrI p3 (3 : Int32)) &&& (7 : Int32))), .val (.int lab), .val (.ref a1), .val (.int (own_m ((own_ln p3).toInt.toNat) (own_f (own_b0 p1) (own_b1 p1) (own_b2 p1) (own_b3 p1)) lab 0)), .val (.int (own_m ((own_ln p3).toInt.toNat) (own_f (own_b0 p1) (own_b1 p1) (own_b2 p1) (own_b3 p1)) lab 1)), .val (.int (own_m ((own_ln p3).toInt.toNat) (own_f (own_b0 p1) (own_b1 p1) (own_b2 p1) (own_b3 p1)) lab 2)), .val (.int (own_m ((own_ln p3).toInt.toNat) (own_f (own_b0 p1) (own_b1 p1) (own_b2 p1) (own_b3 p1)) lab 3)), .val (.int ((((own_t (own_m ((own_ln p3).toInt.toNat) (own_f (own_b0 p1) (own_b1 p1) (own_b2 p1) (own_b3 p1)) lab 0)) + (own_t (own_m ((own_ln p3).toInt.toNat) (own_f (own_b0 p1) (own_b1 p1) (own_b2 p1) (own_b3 p1)) lab 1))) + (own_t (own_m ((own_ln p3).toInt.toNat) (own_f (own_b0 p1) (own_b1 p1) (own_b2 p1) (own_b3 p1)) lab 2))) + (own_t (own_m ((own_ln p3).toInt.toNat) (own_f (own_b0 p1) (own_b1 p1) (own_b2 p1) (own_b3 p1)) lab 3)))), .val (.ref r6), .unset] [(.int ((((own_t (own_m ((own_ln p3).toInt.toNat) (own_f (own_b0 p1) (own_b1 p1) (own_b2 p1) (own_b3 p1)) lab 0)) + (own_t (own_m ((own_ln p3).toInt.toNat) (own_f (own_b0 p1) (own_b1 p1) (own_b2 p1) (own_b3 p1)) lab 1))) + (own_t (own_m ((own_ln p3).toInt.toNat) (own_f (own_b0 p1) (own_b1 p1) (own_b2 p1) (own_b3 p1)) lab 2))) + (own_t (own_m ((own_ln p3).toInt.toNat) (own_f (own_b0 p1) (own_b1 p1) (own_b2 p1) (own_b3 p1)) lab 3)))), (.int (Int32.ofNat (cnt ((own_ln p3).toInt.toNat) (own_f (own_b0 p1) (own_b1 p1) (own_b2 p1) (own_b3 p1)) lab ((own_ln p3).toInt.toNat))))]))
  refine Go.on (fun t k => XS.icmpYes X6.here hx rfl (pc0 := 283) (pc' := 288) rfl (hb hby at_283) rfl (teq (own_count ((own_ln p3).toInt.toNat) hln.2 (own_f (own_b0 p1) (own_b1 p1) (own_b2 p1) (own_b3 p1)) lab : (Int32.ofNat (cnt ((own_ln p3).toInt.toNat) (own_f (own_b0 p1) (own_b1 p1) (own_b2 p1) (own_b3 p1)) lab ((own_ln p3).toInt.toNat))) = ((((own_t (own_m ((own_ln p3).toInt.toNat) (own_f (own_b0 p1) (own_b1 p1) (own_b2 p1) (own_b3 p1)) lab 0)) + (own_t (own_m ((own_ln p3).toInt.toNat) (own_f (own_b0 p1) (own_b1 p1) (own_b2 p1) (own_b3 p1)) lab 1))) + (own_t (own_m ((own_ln p3).toInt.toNat) (own_f (own_b0 p1) (own_b1 p1) (own_b2 p1) (own_b3 p1)) lab 2))) + (own_t (own_m ((own_ln p3).toInt.toNat) (own_f (own_b0 p1) (own_b1 p1) (own_b2 p1) (own_b3 p1)) lab 3))))).1 (by decide) (by decide) k) ?_
  show Go p e below _ (T6.setTop (mkF m 288 #[.val (.int p1), .val (.int p2), .val (.int p3), .val (.int (own_ln p3)), .val (.int (own_b0 p1)), .val (.int (own_b1 p1)), .val (.int (own_b2 p1)), .val (.int (own_b3 p1)), .val (.int ((ushrI p3 (3 : Int32)) &&& (7 : Int32))), .val (.int lab), .val (.ref a1), .val (.int (own_m ((own_ln p3).toInt.toNat) (own_f (own_b0 p1) (own_b1 p1) (own_b2 p1) (own_b3 p1)) lab 0)), .val (.int (own_m ((own_ln p3).toInt.toNat) (own_f (own_b0 p1) (own_b1 p1) (own_b2 p1) (own_b3 p1)) lab 1)), .val (.int (own_m ((own_ln p3).toInt.toNat) (own_f (own_b0 p1) (own_b1 p1) (own_b2 p1) (own_b3 p1)) lab 2)), .val (.int (own_m ((own_ln p3).toInt.toNat) (own_f (own_b0 p1) (own_b1 p1) (own_b2 p1) (own_b3 p1)) lab 3)), .val (.int ((((own_t (own_m ((own_ln p3).toInt.toNat) (own_f (own_b0 p1) (own_b1 p1) (own_b2 p1) (own_b3 p1)) lab 0)) + (own_t (own_m ((own_ln p3).toInt.toNat) (own_f (own_b0 p1) (own_b1 p1) (own_b2 p1) (own_b3 p1)) lab 1))) + (own_t (own_m ((own_ln p3).toInt.toNat) (own_f (own_b0 p1) (own_b1 p1) (own_b2 p1) (own_b3 p1)) lab 2))) + (own_t (own_m ((own_ln p3).toInt.toNat) (own_f (own_b0 p1) (own_b1 p1) (own_b2 p1) (own_b3 p1)) lab 3)))), .val (.ref r6), .unset] []))
  refine pR0 X6 hx hby hZ (rfl : T6.heap = T6.heap) hln.1 Fq6 ?_
  show Go p e below _ (T6.setTop (mkF m 303 #[.val (.int p1), .val (.int p2), .val (.int p3), .val (.int (own_ln p3)), .val (.int (own_b0 p1)), .val (.int (own_b1 p1)), .val (.int (own_b2 p1)), .val (.int (own_b3 p1)), .val (.int ((ushrI p3 (3 : Int32)) &&& (7 : Int32))), .val (.int lab), .val (.ref a1), .val (.int (own_m ((own_ln p3).toInt.toNat) (own_f (own_b0 p1) (own_b1 p1) (own_b2 p1) (own_b3 p1)) lab 0)), .val (.int (own_m ((own_ln p3).toInt.toNat) (own_f (own_b0 p1) (own_b1 p1) (own_b2 p1) (own_b3 p1)) lab 1)), .val (.int (own_m ((own_ln p3).toInt.toNat) (own_f (own_b0 p1) (own_b1 p1) (own_b2 p1) (own_b3 p1)) lab 2)), .val (.int (own_m ((own_ln p3).toInt.toNat) (own_f (own_b0 p1) (own_b1 p1) (own_b2 p1) (own_b3 p1)) lab 3)), .val (.int ((((own_t (own_m ((own_ln p3).toInt.toNat) (own_f (own_b0 p1) (own_b1 p1) (own_b2 p1) (own_b3 p1)) lab 0)) + (own_t (own_m ((own_ln p3).toInt.toNat) (own_f (own_b0 p1) (own_b1 p1) (own_b2 p1) (own_b3 p1)) lab 1))) + (own_t (own_m ((own_ln p3).toInt.toNat) (own_f (own_b0 p1) (own_b1 p1) (own_b2 p1) (own_b3 p1)) lab 2))) + (own_t (own_m ((own_ln p3).toInt.toNat) (own_f (own_b0 p1) (own_b1 p1) (own_b2 p1) (own_b3 p1)) lab 3)))), .val (.ref r6), .unset] []))
  refine pR1 X6 hx hby hZ (rfl : T6.heap = T6.heap) hln.1 Fq6 ?_
  show Go p e below _ (T6.setTop (mkF m 319 #[.val (.int p1), .val (.int p2), .val (.int p3), .val (.int (own_ln p3)), .val (.int (own_b0 p1)), .val (.int (own_b1 p1)), .val (.int (own_b2 p1)), .val (.int (own_b3 p1)), .val (.int ((ushrI p3 (3 : Int32)) &&& (7 : Int32))), .val (.int lab), .val (.ref a1), .val (.int (own_m ((own_ln p3).toInt.toNat) (own_f (own_b0 p1) (own_b1 p1) (own_b2 p1) (own_b3 p1)) lab 0)), .val (.int (own_m ((own_ln p3).toInt.toNat) (own_f (own_b0 p1) (own_b1 p1) (own_b2 p1) (own_b3 p1)) lab 1)), .val (.int (own_m ((own_ln p3).toInt.toNat) (own_f (own_b0 p1) (own_b1 p1) (own_b2 p1) (own_b3 p1)) lab 2)), .val (.int (own_m ((own_ln p3).toInt.toNat) (own_f (own_b0 p1) (own_b1 p1) (own_b2 p1) (own_b3 p1)) lab 3)), .val (.int ((((own_t (own_m ((own_ln p3).toInt.toNat) (own_f (own_b0 p1) (own_b1 p1) (own_b2 p1) (own_b3 p1)) lab 0)) + (own_t (own_m ((own_ln p3).toInt.toNat) (own_f (own_b0 p1) (own_b1 p1) (own_b2 p1) (own_b3 p1)) lab 1))) + (own_t (own_m ((own_ln p3).toInt.toNat) (own_f (own_b0 p1) (own_b1 p1) (own_b2 p1) (own_b3 p1)) lab 2))) + (own_t (own_m ((own_ln p3).toInt.toNat) (own_f (own_b0 p1) (own_b1 p1) (own_b2 p1) (own_b3 p1)) lab 3)))), .val (.ref r6), .unset] []))
  refine pR2 X6 hx hby hZ (rfl : T6.heap = T6.heap) hln.1 Fq6 ?_
  show Go p e below _ (T6.setTop (mkF m 335 #[.val (.int p1), .val (.int p2), .val (.int p3), .val (.int (own_ln p3)), .val (.int (own_b0 p1)), .val (.int (own_b1 p1)), .val (.int (own_b2 p1)), .val (.int (own_b3 p1)), .val (.int ((ushrI p3 (3 : Int32)) &&& (7 : Int32))), .val (.int lab), .val (.ref a1), .val (.int (own_m ((own_ln p3).toInt.toNat) (own_f (own_b0 p1) (own_b1 p1) (own_b2 p1) (own_b3 p1)) lab 0)), .val (.int (own_m ((own_ln p3).toInt.toNat) (own_f (own_b0 p1) (own_b1 p1) (own_b2 p1) (own_b3 p1)) lab 1)), .val (.int (own_m ((own_ln p3).toInt.toNat) (own_f (own_b0 p1) (own_b1 p1) (own_b2 p1) (own_b3 p1)) lab 2)), .val (.int (own_m ((own_ln p3).toInt.toNat) (own_f (own_b0 p1) (own_b1 p1) (own_b2 p1) (own_b3 p1)) lab 3)), .val (.int ((((own_t (own_m ((own_ln p3).toInt.toNat) (own_f (own_b0 p1) (own_b1 p1) (own_b2 p1) (own_b3 p1)) lab 0)) + (own_t (own_m ((own_ln p3).toInt.toNat) (own_f (own_b0 p1) (own_b1 p1) (own_b2 p1) (own_b3 p1)) lab 1))) + (own_t (own_m ((own_ln p3).toInt.toNat) (own_f (own_b0 p1) (own_b1 p1) (own_b2 p1) (own_b3 p1)) lab 2))) + (own_t (own_m ((own_ln p3).toInt.toNat) (own_f (own_b0 p1) (own_b1 p1) (own_b2 p1) (own_b3 p1)) lab 3)))), .val (.ref r6), .unset] []))
  refine pR3 X6 hx hby hZ (rfl : T6.heap = T6.heap) hln.1 Fq6 ?_
  show Go p e below _ (T6.setTop (mkF m 351 #[.val (.int p1), .val (.int p2), .val (.int p3), .val (.int (own_ln p3)), .val (.int (own_b0 p1)), .val (.int (own_b1 p1)), .val (.int (own_b2 p1)), .val (.int (own_b3 p1)), .val (.int ((ushrI p3 (3 : Int32)) &&& (7 : Int32))), .val (.int lab), .val (.ref a1), .val (.int (own_m ((own_ln p3).toInt.toNat) (own_f (own_b0 p1) (own_b1 p1) (own_b2 p1) (own_b3 p1)) lab 0)), .val (.int (own_m ((own_ln p3).toInt.toNat) (own_f (own_b0 p1) (own_b1 p1) (own_b2 p1) (own_b3 p1)) lab 1)), .val (.int (own_m ((own_ln p3).toInt.toNat) (own_f (own_b0 p1) (own_b1 p1) (own_b2 p1) (own_b3 p1)) lab 2)), .val (.int (own_m ((own_ln p3).toInt.toNat) (own_f (own_b0 p1) (own_b1 p1) (own_b2 p1) (own_b3 p1)) lab 3)), .val (.int ((((own_t (own_m ((own_ln p3).toInt.toNat) (own_f (own_b0 p1) (own_b1 p1) (own_b2 p1) (own_b3 p1)) lab 0)) + (own_t (own_m ((own_ln p3).toInt.toNat) (own_f (own_b0 p1) (own_b1 p1) (own_b2 p1) (own_b3 p1)) lab 1))) + (own_t (own_m ((own_ln p3).toInt.toNat) (own_f (own_b0 p1) (own_b1 p1) (own_b2 p1) (own_b3 p1)) lab 2))) + (own_t (own_m ((own_ln p3).toInt.toNat) (own_f (own_b0 p1) (own_b1 p1) (own_b2 p1) (own_b3 p1)) lab 3)))), .val (.ref r6), .unset] []))
  refine Go.on (fun t k => XS.iconst X6.here hx rfl (hb hby at_351) k) ?_
  show Go p e below _ (T6.setTop (mkF m 352 #[.val (.int p1), .val (.int p2), .val (.int p3), .val (.int (own_ln p3)), .val (.int (own_b0 p1)), .val (.int (own_b1 p1)), .val (.int (own_b2 p1)), .val (.int (own_b3 p1)), .val (.int ((ushrI p3 (3 : Int32)) &&& (7 : Int32))), .val (.int lab), .val (.ref a1), .val (.int (own_m ((own_ln p3).toInt.toNat) (own_f (own_b0 p1) (own_b1 p1) (own_b2 p1) (own_b3 p1)) lab 0)), .val (.int (own_m ((own_ln p3).toInt.toNat) (own_f (own_b0 p1) (own_b1 p1) (own_b2 p1) (own_b3 p1)) lab 1)), .val (.int (own_m ((own_ln p3).toInt.toNat) (own_f (own_b0 p1) (own_b1 p1) (own_b2 p1) (own_b3 p1)) lab 2)), .val (.int (own_m ((own_ln p3).toInt.toNat) (own_f (own_b0 p1) (own_b1 p1) (own_b2 p1) (own_b3 p1)) lab 3)), .val (.int ((((own_t (own_m ((own_ln p3).toInt.toNat) (own_f (own_b0 p1) (own_b1 p1) (own_b2 p1) (own_b3 p1)) lab 0)) + (own_t (own_m ((own_ln p3).toInt.toNat) (own_f (own_b0 p1) (own_b1 p1) (own_b2 p1) (own_b3 p1)) lab 1))) + (own_t (own_m ((own_ln p3).toInt.toNat) (own_f (own_b0 p1) (own_b1 p1) (own_b2 p1) (own_b3 p1)) lab 2))) + (own_t (own_m ((own_ln p3).toInt.toNat) (own_f (own_b0 p1) (own_b1 p1) (own_b2 p1) (own_b3 p1)) lab 3)))), .val (.ref r6), .unset] [(.int (0 : Int32))]))
  refine Go.on (fun t k => XS.istore X6.here hx rfl (hb hby at_352) rfl (l' := #[.val (.int p1), .val (.int p2), .val (.int p3), .val (.int (own_ln p3)), .val (.int (own_b0 p1)), .val (.int (own_b1 p1)), .val (.int (own_b2 p1)), .val (.int (own_b3 p1)), .val (.int ((ushrI p3 (3 : Int32)) &&& (7 : Int32))), .val (.int lab), .val (.ref a1), .val (.int (own_m ((own_ln p3).toInt.toNat) (own_f (own_b0 p1) (own_b1 p1) (own_b2 p1) (own_b3 p1)) lab 0)), .val (.int (own_m ((own_ln p3).toInt.toNat) (own_f (own_b0 p1) (own_b1 p1) (own_b2 p1) (own_b3 p1)) lab 1)), .val (.int (own_m ((own_ln p3).toInt.toNat) (own_f (own_b0 p1) (own_b1 p1) (own_b2 p1) (own_b3 p1)) lab 2)), .val (.int (own_m ((own_ln p3).toInt.toNat) (own_f (own_b0 p1) (own_b1 p1) (own_b2 p1) (own_b3 p1)) lab 3)), .val (.int ((((own_t (own_m ((own_ln p3).toInt.toNat) (own_f (own_b0 p1) (own_b1 p1) (own_b2 p1) (own_b3 p1)) lab 0)) + (own_t (own_m ((own_ln p3).toInt.toNat) (own_f (own_b0 p1) (own_b1 p1) (own_b2 p1) (own_b3 p1)) lab 1))) + (own_t (own_m ((own_ln p3).toInt.toNat) (own_f (own_b0 p1) (own_b1 p1) (own_b2 p1) (own_b3 p1)) lab 2))) + (own_t (own_m ((own_ln p3).toInt.toNat) (own_f (own_b0 p1) (own_b1 p1) (own_b2 p1) (own_b3 p1)) lab 3)))), .val (.ref r6), .val (.int (Int32.ofNat (cnt ((own_ln p3).toInt.toNat) (own_f (own_b0 p1) (own_b1 p1) (own_b2 p1) (own_b3 p1)) lab 0)))]) rfl k) ?_
  show Go p e below _ (T6.setTop (mkF m 354 #[.val (.int p1), .val (.int p2), .val (.int p3), .val (.int (own_ln p3)), .val (.int (own_b0 p1)), .val (.int (own_b1 p1)), .val (.int (own_b2 p1)), .val (.int (own_b3 p1)), .val (.int ((ushrI p3 (3 : Int32)) &&& (7 : Int32))), .val (.int lab), .val (.ref a1), .val (.int (own_m ((own_ln p3).toInt.toNat) (own_f (own_b0 p1) (own_b1 p1) (own_b2 p1) (own_b3 p1)) lab 0)), .val (.int (own_m ((own_ln p3).toInt.toNat) (own_f (own_b0 p1) (own_b1 p1) (own_b2 p1) (own_b3 p1)) lab 1)), .val (.int (own_m ((own_ln p3).toInt.toNat) (own_f (own_b0 p1) (own_b1 p1) (own_b2 p1) (own_b3 p1)) lab 2)), .val (.int (own_m ((own_ln p3).toInt.toNat) (own_f (own_b0 p1) (own_b1 p1) (own_b2 p1) (own_b3 p1)) lab 3)), .val (.int ((((own_t (own_m ((own_ln p3).toInt.toNat) (own_f (own_b0 p1) (own_b1 p1) (own_b2 p1) (own_b3 p1)) lab 0)) + (own_t (own_m ((own_ln p3).toInt.toNat) (own_f (own_b0 p1) (own_b1 p1) (own_b2 p1) (own_b3 p1)) lab 1))) + (own_t (own_m ((own_ln p3).toInt.toNat) (own_f (own_b0 p1) (own_b1 p1) (own_b2 p1) (own_b3 p1)) lab 2))) + (own_t (own_m ((own_ln p3).toInt.toNat) (own_f (own_b0 p1) (own_b1 p1) (own_b2 p1) (own_b3 p1)) lab 3)))), .val (.ref r6), .val (.int (Int32.ofNat (cnt ((own_ln p3).toInt.toNat) (own_f (own_b0 p1) (own_b1 p1) (own_b2 p1) (own_b3 p1)) lab 0)))] []))
  refine pK0 X6 hx hby hZ (rfl : T6.heap = T6.heap) Fr6 HG6 ?_
  show Go p e below _ (T6.setTop (mkF m 372 #[.val (.int p1), .val (.int p2), .val (.int p3), .val (.int (own_ln p3)), .val (.int (own_b0 p1)), .val (.int (own_b1 p1)), .val (.int (own_b2 p1)), .val (.int (own_b3 p1)), .val (.int ((ushrI p3 (3 : Int32)) &&& (7 : Int32))), .val (.int lab), .val (.ref a1), .val (.int (own_m ((own_ln p3).toInt.toNat) (own_f (own_b0 p1) (own_b1 p1) (own_b2 p1) (own_b3 p1)) lab 0)), .val (.int (own_m ((own_ln p3).toInt.toNat) (own_f (own_b0 p1) (own_b1 p1) (own_b2 p1) (own_b3 p1)) lab 1)), .val (.int (own_m ((own_ln p3).toInt.toNat) (own_f (own_b0 p1) (own_b1 p1) (own_b2 p1) (own_b3 p1)) lab 2)), .val (.int (own_m ((own_ln p3).toInt.toNat) (own_f (own_b0 p1) (own_b1 p1) (own_b2 p1) (own_b3 p1)) lab 3)), .val (.int ((((own_t (own_m ((own_ln p3).toInt.toNat) (own_f (own_b0 p1) (own_b1 p1) (own_b2 p1) (own_b3 p1)) lab 0)) + (own_t (own_m ((own_ln p3).toInt.toNat) (own_f (own_b0 p1) (own_b1 p1) (own_b2 p1) (own_b3 p1)) lab 1))) + (own_t (own_m ((own_ln p3).toInt.toNat) (own_f (own_b0 p1) (own_b1 p1) (own_b2 p1) (own_b3 p1)) lab 2))) + (own_t (own_m ((own_ln p3).toInt.toNat) (own_f (own_b0 p1) (own_b1 p1) (own_b2 p1) (own_b3 p1)) lab 3)))), .val (.ref r6), .val (.int (Int32.ofNat (cnt ((own_ln p3).toInt.toNat) (own_f (own_b0 p1) (own_b1 p1) (own_b2 p1) (own_b3 p1)) lab 1)))] []))
  refine pK1 X6 hx hby hZ (rfl : T6.heap = T6.heap) Fr6 HG6 ?_
  show Go p e below _ (T6.setTop (mkF m 391 #[.val (.int p1), .val (.int p2), .val (.int p3), .val (.int (own_ln p3)), .val (.int (own_b0 p1)), .val (.int (own_b1 p1)), .val (.int (own_b2 p1)), .val (.int (own_b3 p1)), .val (.int ((ushrI p3 (3 : Int32)) &&& (7 : Int32))), .val (.int lab), .val (.ref a1), .val (.int (own_m ((own_ln p3).toInt.toNat) (own_f (own_b0 p1) (own_b1 p1) (own_b2 p1) (own_b3 p1)) lab 0)), .val (.int (own_m ((own_ln p3).toInt.toNat) (own_f (own_b0 p1) (own_b1 p1) (own_b2 p1) (own_b3 p1)) lab 1)), .val (.int (own_m ((own_ln p3).toInt.toNat) (own_f (own_b0 p1) (own_b1 p1) (own_b2 p1) (own_b3 p1)) lab 2)), .val (.int (own_m ((own_ln p3).toInt.toNat) (own_f (own_b0 p1) (own_b1 p1) (own_b2 p1) (own_b3 p1)) lab 3)), .val (.int ((((own_t (own_m ((own_ln p3).toInt.toNat) (own_f (own_b0 p1) (own_b1 p1) (own_b2 p1) (own_b3 p1)) lab 0)) + (own_t (own_m ((own_ln p3).toInt.toNat) (own_f (own_b0 p1) (own_b1 p1) (own_b2 p1) (own_b3 p1)) lab 1))) + (own_t (own_m ((own_ln p3).toInt.toNat) (own_f (own_b0 p1) (own_b1 p1) (own_b2 p1) (own_b3 p1)) lab 2))) + (own_t (own_m ((own_ln p3).toInt.toNat) (own_f (own_b0 p1) (own_b1 p1) (own_b2 p1) (own_b3 p1)) lab 3)))), .val (.ref r6), .val (.int (Int32.ofNat (cnt ((own_ln p3).toInt.toNat) (own_f (own_b0 p1) (own_b1 p1) (own_b2 p1) (own_b3 p1)) lab 2)))] []))
  refine pK2 X6 hx hby hZ (rfl : T6.heap = T6.heap) Fr6 HG6 ?_
  show Go p e below _ (T6.setTop (mkF m 410 #[.val (.int p1), .val (.int p2), .val (.int p3), .val (.int (own_ln p3)), .val (.int (own_b0 p1)), .val (.int (own_b1 p1)), .val (.int (own_b2 p1)), .val (.int (own_b3 p1)), .val (.int ((ushrI p3 (3 : Int32)) &&& (7 : Int32))), .val (.int lab), .val (.ref a1), .val (.int (own_m ((own_ln p3).toInt.toNat) (own_f (own_b0 p1) (own_b1 p1) (own_b2 p1) (own_b3 p1)) lab 0)), .val (.int (own_m ((own_ln p3).toInt.toNat) (own_f (own_b0 p1) (own_b1 p1) (own_b2 p1) (own_b3 p1)) lab 1)), .val (.int (own_m ((own_ln p3).toInt.toNat) (own_f (own_b0 p1) (own_b1 p1) (own_b2 p1) (own_b3 p1)) lab 2)), .val (.int (own_m ((own_ln p3).toInt.toNat) (own_f (own_b0 p1) (own_b1 p1) (own_b2 p1) (own_b3 p1)) lab 3)), .val (.int ((((own_t (own_m ((own_ln p3).toInt.toNat) (own_f (own_b0 p1) (own_b1 p1) (own_b2 p1) (own_b3 p1)) lab 0)) + (own_t (own_m ((own_ln p3).toInt.toNat) (own_f (own_b0 p1) (own_b1 p1) (own_b2 p1) (own_b3 p1)) lab 1))) + (own_t (own_m ((own_ln p3).toInt.toNat) (own_f (own_b0 p1) (own_b1 p1) (own_b2 p1) (own_b3 p1)) lab 2))) + (own_t (own_m ((own_ln p3).toInt.toNat) (own_f (own_b0 p1) (own_b1 p1) (own_b2 p1) (own_b3 p1)) lab 3)))), .val (.ref r6), .val (.int (Int32.ofNat (cnt ((own_ln p3).toInt.toNat) (own_f (own_b0 p1) (own_b1 p1) (own_b2 p1) (own_b3 p1)) lab 3)))] []))
  refine pK3 X6 hx hby hZ (rfl : T6.heap = T6.heap) Fr6 HG6 ?_
  show Go p e below _ (T6.setTop (mkF m 429 #[.val (.int p1), .val (.int p2), .val (.int p3), .val (.int (own_ln p3)), .val (.int (own_b0 p1)), .val (.int (own_b1 p1)), .val (.int (own_b2 p1)), .val (.int (own_b3 p1)), .val (.int ((ushrI p3 (3 : Int32)) &&& (7 : Int32))), .val (.int lab), .val (.ref a1), .val (.int (own_m ((own_ln p3).toInt.toNat) (own_f (own_b0 p1) (own_b1 p1) (own_b2 p1) (own_b3 p1)) lab 0)), .val (.int (own_m ((own_ln p3).toInt.toNat) (own_f (own_b0 p1) (own_b1 p1) (own_b2 p1) (own_b3 p1)) lab 1)), .val (.int (own_m ((own_ln p3).toInt.toNat) (own_f (own_b0 p1) (own_b1 p1) (own_b2 p1) (own_b3 p1)) lab 2)), .val (.int (own_m ((own_ln p3).toInt.toNat) (own_f (own_b0 p1) (own_b1 p1) (own_b2 p1) (own_b3 p1)) lab 3)), .val (.int ((((own_t (own_m ((own_ln p3).toInt.toNat) (own_f (own_b0 p1) (own_b1 p1) (own_b2 p1) (own_b3 p1)) lab 0)) + (own_t (own_m ((own_ln p3).toInt.toNat) (own_f (own_b0 p1) (own_b1 p1) (own_b2 p1) (own_b3 p1)) lab 1))) + (own_t (own_m ((own_ln p3).toInt.toNat) (own_f (own_b0 p1) (own_b1 p1) (own_b2 p1) (own_b3 p1)) lab 2))) + (own_t (own_m ((own_ln p3).toInt.toNat) (own_f (own_b0 p1) (own_b1 p1) (own_b2 p1) (own_b3 p1)) lab 3)))), .val (.ref r6), .val (.int (Int32.ofNat (cnt ((own_ln p3).toInt.toNat) (own_f (own_b0 p1) (own_b1 p1) (own_b2 p1) (own_b3 p1)) lab 4)))] []))
  refine Go.on (fun t k => XS.iconst X6.here hx rfl (hb hby at_429) k) ?_
  show Go p e below _ (T6.setTop (mkF m 430 #[.val (.int p1), .val (.int p2), .val (.int p3), .val (.int (own_ln p3)), .val (.int (own_b0 p1)), .val (.int (own_b1 p1)), .val (.int (own_b2 p1)), .val (.int (own_b3 p1)), .val (.int ((ushrI p3 (3 : Int32)) &&& (7 : Int32))), .val (.int lab), .val (.ref a1), .val (.int (own_m ((own_ln p3).toInt.toNat) (own_f (own_b0 p1) (own_b1 p1) (own_b2 p1) (own_b3 p1)) lab 0)), .val (.int (own_m ((own_ln p3).toInt.toNat) (own_f (own_b0 p1) (own_b1 p1) (own_b2 p1) (own_b3 p1)) lab 1)), .val (.int (own_m ((own_ln p3).toInt.toNat) (own_f (own_b0 p1) (own_b1 p1) (own_b2 p1) (own_b3 p1)) lab 2)), .val (.int (own_m ((own_ln p3).toInt.toNat) (own_f (own_b0 p1) (own_b1 p1) (own_b2 p1) (own_b3 p1)) lab 3)), .val (.int ((((own_t (own_m ((own_ln p3).toInt.toNat) (own_f (own_b0 p1) (own_b1 p1) (own_b2 p1) (own_b3 p1)) lab 0)) + (own_t (own_m ((own_ln p3).toInt.toNat) (own_f (own_b0 p1) (own_b1 p1) (own_b2 p1) (own_b3 p1)) lab 1))) + (own_t (own_m ((own_ln p3).toInt.toNat) (own_f (own_b0 p1) (own_b1 p1) (own_b2 p1) (own_b3 p1)) lab 2))) + (own_t (own_m ((own_ln p3).toInt.toNat) (own_f (own_b0 p1) (own_b1 p1) (own_b2 p1) (own_b3 p1)) lab 3)))), .val (.ref r6), .val (.int (Int32.ofNat (cnt ((own_ln p3).toInt.toNat) (own_f (own_b0 p1) (own_b1 p1) (own_b2 p1) (own_b3 p1)) lab 4)))] [(.int (1 : Int32))]))
  exact Go.retN X6 hx hlk hret (by simp) (hb hby at_430) (by decide) (by decide) ⟨by rfl, N6⟩
set_option maxRecDepth 65536 in
set_option maxHeartbeats 40000000 in
theorem comes_1 {Post : Tables → Env → Array Value → State → Outcome → State → Prop} (hpost : ∀ tb e args s v u, (limb_1_1.after args s (.returned v) u = true ∧ limb_1_2.after args s (.returned v) u = true ∧ True) → FrameEnd s (.returned v) u (Jvm.fieldLocs frame_1_writes args s ++ Jvm.arrayLocs frame_1_arrays args s ++ Jvm.staticLocs frame_1_statics s) 16 128 → Post tb e args s (.returned v) u) :
    ArmFor flags0 classFile x code maxLocals ret World_1 tables_1 room_1 Calls_1 rest_1 Pre_1 Post := by
  intro l hfl _ _ p e ha hc hk s m args below hf hA hF happ hP
  obtain ⟨hcalls, hrest, hpre⟩ := hP
  obtain ⟨-, -, -, hnamed, -, -, -, hat⟩ := (Spec.applies_iff hf).mp happ
  obtain ⟨hg, hn⟩ := and_e (Cond.before_iff.mp (show (Jvm.Cond.and given_1 narrow_1).before args s = true from hpre))
  obtain ⟨g0, gA0⟩ := and_e hg
  obtain ⟨w0, w1, w2, rfl⟩ : ∃ w0 w1 w2 : Value, args = #[w0, w1, w2] := by
    have hs : args.size = 3 := by simpa [Cond.value, given_1] using g0
    obtain ⟨L⟩ := args
    match L, hs with
    | [w0, w1, w2], _ => exact ⟨w0, w1, w2, rfl⟩
  have hw := fun d (hd : d ∈ tables_1) => atoms_spec (ws := Jvm.Cond.code x code maxLocals ret :: tables_1) hat d (List.mem_cons_of_mem _ hd)
  obtain ⟨g1, gA1⟩ := and_e gA0
  obtain ⟨i0, ei0⟩ := is_v g1
  obtain rfl : w0 = (.int i0) := Option.some.inj ei0
  obtain ⟨g2, gA2⟩ := and_e gA1
  obtain ⟨i1, ei1⟩ := is_v g2
  obtain rfl : w1 = (.int i1) := Option.some.inj ei1
  obtain ⟨i2, ei2⟩ := is_v gA2
  obtain rfl : w2 = (.int i2) := Option.some.inj ei2
  obtain ⟨n, o, h1, h2, h3, _, L, rfl, ⟨rfl, N⟩, hq⟩ := rm0 l s _ hw tables_1 i0 i1 i2 s.heap s.heap.size (Nat.le_refl _)  p e ha hc hk s m _ below hf ((Spec.applies_iff_loose hf).mp happ).1 ⟨rfl, State.Warmed39.refl s, rfl⟩ trivial
  refine ⟨n, _, h1, h2, h3, hpost _ _ _ _ _ _ ⟨Cond.after_iff.mpr rfl, Cond.after_iff.mpr (eq_i res_at (Term.int_eval (1)) rfl), trivial⟩ ⟨hq.1, hq.2.1, (hq.2.2.sift fun y hy => Or.inr (N y hy)).mono (by decide) (by decide)⟩⟩
theorem main_1_1 : Claimed_1_1 := comes_1 fun _ _ _ _ _ _ h hF => ⟨h.1, hF⟩
theorem main_1_2 : Claimed_1_2 := comes_1 fun _ _ _ _ _ _ h hF => ⟨h.2.1, hF⟩
end Jvm.Pilot.@@N@@
namespace Jvm.Pilot.@@N@@
open Jvm Jvm.ClassFile Sem Op Lib Jvm.Free Jvm.Stand Jvm.Pilot.@@N@@.Jvm.D
/-! MADE BY PROGRAM (witnessworld.py) out of the Statement's table words and the real class files: 9 classes; the members and pool entries that the words name. The judged class is class 1, her method 1. -/
namespace start1
open Jvm.ClassFile
def u (s : String) : CpInfo := .utf8 (stringToUtf16 s)
/-- a pool by its gaps: so many unusable entries, then the entry; so many at the end -/
def gap : Nat → List CpInfo → List CpInfo
  | 0, r => r
  | n + 1, r => .unusable :: gap n r
def poolList (es : List (Nat × CpInfo)) (last : Nat) : List CpInfo := es.foldr (fun e r => gap e.1 (e.2 :: r)) (gap last [])
def pool (es : List (Nat × CpInfo)) (last : Nat) : Array CpInfo := ⟨poolList es last⟩
def fileOf (pool : Array CpInfo) (this : Nat) (attrs : Array Attribute := #[]) (ms : Array MethodInfo := #[]) (fl : Nat := 33) (sup : Nat := 0) (ifs : Array Nat := #[]) (fds : Array FieldInfo := #[]) : ClassFile where
  minorVersion := 0
  majorVersion := 65
  constantPool := pool
  accessFlags := fl
  thisClass := this
  superClass := sup
  interfaces := ifs
  fields := fds
  methods := ms
  attributes := attrs
def plain (name : String) (sup : Option ClassId) : Class where
  name := name
  kind := .ordinary
  loader := none
  accessFlags := 33
  super := sup
  interfaces := #[]
  cf := none
  fields := #[]
  methods := #[]
  instanceTypes := #[]
  staticTypes := #[]
  resolved := #[]
  callSites := []
  init := .initialized
  statics := none
  mirror := none

def pool0 : Array CpInfo := pool [(5, u "<init>"), (0, u "()V"), (1, .class_ 10), (1, u "java/lang/Object")] 113

def k0m0 : Method := { name := "<init>", desc := "()V", sig := { parameters := [], returnType := none }, accessFlags := 1, code := none }
/-- java/lang/Object -/
def k0 : Class := { plain "java/lang/Object" none with
  accessFlags := 33
  interfaces := #[]
  cf := some (fileOf pool0 8 #[] #[{ accessFlags := 1, nameIndex := 5, descriptorIndex := 6, attributes := #[] }] 33 0 #[] #[])
  fields := #[]
  methods := #[k0m0]
  instanceTypes := #[]
  staticTypes := #[]
  resolved := Array.replicate 124 none
  statics := none }

def pool1 : Array CpInfo := pool [(2, .class_ 4), (1, u "java/lang/Object"), (0, u "<init>"), (0, u "()V"), (0, .methodref 8 9), (0, .class_ 10), (0, .nameAndType 11 12), (0, u "com/example/planarium/planarium/separator/Separation"), (0, u "verticesIn"), (0, u "([BI)[I"), (0, .class_ 14), (0, u "com/example/planarium/planarium/separator/SeparationVerticesInPinLaw"), (2, u "law"), (0, u "(III)Z")] 7

def k1m0 : Method := { name := "<init>", desc := "()V", sig := { parameters := [], returnType := none }, accessFlags := 1, code := none }
def k1c1 : Code := { maxStack := 3, maxLocals := 18, code := code, exceptionTable := #[], attributes := #[] }
def k1m1 : Method := { name := "law", desc := "(III)Z", sig := { parameters := [.int, .int, .int], returnType := some .boolean }, accessFlags := 9, code := some k1c1 }
/-- com/example/planarium/planarium/separator/SeparationVerticesInPinLaw -/
def k1 : Class := { plain "com/example/planarium/planarium/separator/SeparationVerticesInPinLaw" (some 0) with
  accessFlags := 49
  interfaces := #[]
  cf := some (fileOf pool1 13 #[] #[{ accessFlags := 1, nameIndex := 5, descriptorIndex := 6, attributes := #[] }, { accessFlags := 9, nameIndex := 17, descriptorIndex := 18, attributes := #[] }] 49 2 #[] #[])
  fields := #[]
  methods := #[k1m0, k1m1]
  instanceTypes := #[]
  staticTypes := #[]
  resolved := Array.replicate 26 none
  statics := none }

def pool2 : Array CpInfo := pool [(2, .class_ 4), (1, u "java/lang/Object"), (2, .class_ 8), (0, u "com/example/planarium/planarium/separator/Separation"), (2, u "phase"), (0, u "Lcom/example/planarium/planarium/separator/Separation$Phase;"), (2, u "root"), (0, u "I"), (2, u "height"), (2, u "middleLevel"), (2, u "middleLevelSize"), (2, u "lowLevel"), (2, u "highLevel"), (2, u "part"), (0, u "[B"), (2, u "partSizes"), (0, u "[I"), (2, u "cyclesExamined"), (22, u "SEPARATOR"), (2, u "FIRST"), (1, u "SECOND"), (1, u "NONE"), (4, .class_ 78), (0, u "com/example/planarium/planarium/separator/Separation$Phase"), (3, u "verticesIn"), (0, u "([BI)[I")] 28

def k2c0 : Code := { maxStack := 3, maxLocals := 7, code := prog_63_method_3_code, exceptionTable := #[], attributes := #[] }
def k2m0 : Method := { name := "verticesIn", desc := "([BI)[I", sig := { parameters := [(.array .byte), .int], returnType := some (.array .int) }, accessFlags := 8, code := some k2c0 }
/-- com/example/planarium/planarium/separator/Separation -/
def k2 : Class := { plain "com/example/planarium/planarium/separator/Separation" (some 0) with
  accessFlags := 49
  interfaces := #[]
  cf := some (fileOf pool2 7 #[.nestMembers #[77]] #[{ accessFlags := 8, nameIndex := 82, descriptorIndex := 83, attributes := #[] }] 49 2 #[] #[{ accessFlags := 25, nameIndex := 65, descriptorIndex := 16, attributes := #[] }, { accessFlags := 25, nameIndex := 68, descriptorIndex := 16, attributes := #[] }, { accessFlags := 25, nameIndex := 70, descriptorIndex := 16, attributes := #[] }, { accessFlags := 25, nameIndex := 72, descriptorIndex := 16, attributes := #[] }, { accessFlags := 18, nameIndex := 11, descriptorIndex := 12, attributes := #[] }, { accessFlags := 18, nameIndex := 15, descriptorIndex := 16, attributes := #[] }, { accessFlags := 18, nameIndex := 19, descriptorIndex := 16, attributes := #[] }, { accessFlags := 18, nameIndex := 22, descriptorIndex := 16, attributes := #[] }, { accessFlags := 18, nameIndex := 25, descriptorIndex := 16, attributes := #[] }, { accessFlags := 18, nameIndex := 28, descriptorIndex := 16, attributes := #[] }, { accessFlags := 18, nameIndex := 31, descriptorIndex := 16, attributes := #[] }, { accessFlags := 18, nameIndex := 34, descriptorIndex := 35, attributes := #[] }, { accessFlags := 18, nameIndex := 38, descriptorIndex := 39, attributes := #[] }, { accessFlags := 18, nameIndex := 42, descriptorIndex := 16, attributes := #[] }])
  fields := #[{ name := "SEPARATOR", type := .int, accessFlags := 25, slot := 0, constantValue := 0 }, { name := "FIRST", type := .int, accessFlags := 25, slot := 1, constantValue := 0 }, { name := "SECOND", type := .int, accessFlags := 25, slot := 2, constantValue := 0 }, { name := "NONE", type := .int, accessFlags := 25, slot := 3, constantValue := 0 }, { name := "phase", type := (.object "com/example/planarium/planarium/separator/Separation$Phase"), accessFlags := 18, slot := 0, constantValue := 0 }, { name := "root", type := .int, accessFlags := 18, slot := 1, constantValue := 0 }, { name := "height", type := .int, accessFlags := 18, slot := 2, constantValue := 0 }, { name := "middleLevel", type := .int, accessFlags := 18, slot := 3, constantValue := 0 }, { name := "middleLevelSize", type := .int, accessFlags := 18, slot := 4, constantValue := 0 }, { name := "lowLevel", type := .int, accessFlags := 18, slot := 5, constantValue := 0 }, { name := "highLevel", type := .int, accessFlags := 18, slot := 6, constantValue := 0 }, { name := "part", type := (.array .byte), accessFlags := 18, slot := 7, constantValue := 0 }, { name := "partSizes", type := (.array .int), accessFlags := 18, slot := 8, constantValue := 0 }, { name := "cyclesExamined", type := .int, accessFlags := 18, slot := 9, constantValue := 0 }]
  methods := #[k2m0]
  instanceTypes := #[(.object "com/example/planarium/planarium/separator/Separation$Phase"), .int, .int, .int, .int, .int, .int, (.array .byte), (.array .int), .int]
  staticTypes := #[.int, .int, .int, .int]
  resolved := Array.replicate 112 none
  statics := none }

def pool3 : Array CpInfo := pool [(1, u "java/lang/Cloneable"), (0, .class_ 1), (0, u "java/lang/Object"), (0, .class_ 3)] 3

/-- java/lang/Cloneable -/
def k3 : Class := { plain "java/lang/Cloneable" (some 0) with
  accessFlags := 1537
  interfaces := #[]
  cf := some (fileOf pool3 2 #[] #[] 1537 4 #[] #[])
  fields := #[]
  methods := #[]
  instanceTypes := #[]
  staticTypes := #[]
  resolved := Array.replicate 8 none
  statics := none }

def pool4 : Array CpInfo := pool [(1, u "java/io/Serializable"), (0, .class_ 1), (0, u "java/lang/Object"), (0, .class_ 3)] 3

/-- java/io/Serializable -/
def k4 : Class := { plain "java/io/Serializable" (some 0) with
  accessFlags := 1537
  interfaces := #[]
  cf := some (fileOf pool4 2 #[] #[] 1537 4 #[] #[])
  fields := #[]
  methods := #[]
  instanceTypes := #[]
  staticTypes := #[]
  resolved := Array.replicate 8 none
  statics := none }

/-- the primitive byte -/
def k5 : Class := { plain "byte" none with kind := .primitive 'B', accessFlags := 0x411 }
/-- [B -/
def k6 : Class := { plain "[B" (some 0) with kind := .array 5 .byte, interfaces := #[3, 4], accessFlags := 1041 }

/-- the primitive int -/
def k7 : Class := { plain "int" none with kind := .primitive 'I', accessFlags := 0x411 }
/-- [I -/
def k8 : Class := { plain "[I" (some 0) with kind := .array 7 .int, interfaces := #[3, 4], accessFlags := 1041 }

def heap : Heap := #[]
def classes : Array Class := #[k0, k1, k2, k3, k4, k5, k6, k7, k8]
def interned : List (Array UInt16 × Addr) := []
def slotsUsed : Nat := 0
def theMethod : MethodId := ⟨1, 1⟩
def args0 : Array Value := #[.int 5, .int 300, .int 7]
def aboutOver (below : List Frame) : State where
  vm := { classes := classes, interned := interned.toArray }
  heap := heap
  slotsUsed := slotsUsed
  threads := #[{ frames := .invoking theMethod args0 :: below }]
def below0 : List Frame := [.native { method := ⟨0, 0⟩, args := #[] }]
def about1 : State := aboutOver below0
def p0 : Program := .bare "" "" ""
def e0 : Env := launch0.env 0 0 0
theorem w_frames : about1.frames = Frame.invoking theMethod args0 :: below0 := rfl
set_option maxRecDepth 65536 in
theorem w_args : argsFit about1.vm theMethod args0 = true := by decide +kernel
set_option maxRecDepth 65536 in
theorem w_heap : heapFits about1 = true := by decide +kernel
set_option maxRecDepth 65536 in
theorem w_runnable : about1.curStatus? = some .runnable := by decide +kernel
set_option maxRecDepth 65536 in
theorem w_alone : about1.alone = true := by decide +kernel
set_option maxRecDepth 65536 in
theorem w_named : about1.methodNamed? x = some theMethod := by decide +kernel
set_option maxRecDepth 65536 in
theorem w_hears : about1.hears theMethod below0 = true := by decide +kernel
set_option maxRecDepth 65536 in
theorem w_ripe : about1.ripe theMethod args0 below0 = true := by decide +kernel
theorem w_running : about1.status = .running := rfl
set_option maxRecDepth 65536 in
theorem w_room : about1.hasRoom e0.platform room_1 = true :=
  launch0.hasRoom_least _ room_1 (by decide +kernel) (by decide +kernel) (by decide +kernel) (by decide +kernel) (by decide +kernel) (by decide +kernel)
theorem allAtoms_all (ts : List Jvm.Cond) (a : Array Jvm.Value) (st : Jvm.State) : (allAtoms ts).before a st = ts.all (fun c => c.before a st) := by
  induction ts with
  | nil => rfl
  | cons c t ih =>
    show (Jvm.Cond.and c (allAtoms t)).before a st = _
    rw [Jvm.Cond.before_and, ih, List.all_cons]
def words1 : List Jvm.Cond := Jvm.Cond.code x code maxLocals ret :: tables_1
/-- a 'code' word, met by the world's own term for the bytes: nothing is compared byte by byte -/
theorem code_word {y : MethodName} {bytes : ByteArray} {mx : Nat} {rt : Option FieldType} {a : Array Value} {s : State} {m : MethodId} {meth : Method} {c : Code} (h1 : s.methodNamed? y = some m) (h2 : s.vm.method? m = some meth) (h3 : meth.code = some c) (h4 : c.code = bytes)
    (h5 : (c.maxLocals == mx && c.exceptionTable.isEmpty && decide (c.maxStack ≤ mostOperands) && decide (meth.sig.returnType = rt) && !meth.locks && decide (parseMethodDescriptor y.desc = some meth.sig)) = true) : (Jvm.Cond.code y bytes mx rt).before a s = true := by
  simp only [Bool.and_eq_true, beq_iff_eq, Bool.not_eq_true', decide_eq_true_eq] at h5
  obtain ⟨⟨⟨⟨⟨g1, g2⟩, g3⟩, g4⟩, g5⟩, g6⟩ := h5
  simp [Cond.before, Cond.holds, Cond.value, h1, h2, h3, h4, g1, g2, g3, g4, g5, g6]
def isCode : Jvm.Cond → Bool
  | .code _ _ _ _ => true
  | _ => false
theorem all_split {L : List Jvm.Cond} {P : Jvm.Cond → Bool} (h1 : L.all (fun c => isCode c || P c) = true) (h2 : ∀ c ∈ L.filter isCode, P c = true) : L.all P = true := by
  refine List.all_eq_true.mpr fun c hc => ?_
  have h := List.all_eq_true.mp h1 c hc
  rcases Bool.eq_false_or_eq_true (isCode c) with hi | hi
  · exact h2 c (List.mem_filter.mpr ⟨hc, hi⟩)
  · simpa [hi] using h
set_option maxRecDepth 65536 in
theorem w_c0 : (Jvm.Cond.code x code maxLocals ret).before args0 about1 = true := code_word (m := ⟨1, 1⟩) (meth := k1m1) (c := k1c1) (by decide +kernel) rfl rfl rfl (by decide +kernel)
set_option maxRecDepth 65536 in
theorem w_c1 : (Jvm.Cond.code ({ cls := "com/example/planarium/planarium/separator/Separation", name := "verticesIn", desc := "([BI)[I" } : Jvm.MethodName) prog_63_method_3_code (7 : Nat) (Option.some (Jvm.ClassFile.FieldType.array Jvm.ClassFile.FieldType.int))).before args0 about1 = true := code_word (m := ⟨2, 0⟩) (meth := k2m0) (c := k2c0) (by decide +kernel) rfl rfl rfl (by decide +kernel)
def codes1 : List Jvm.Cond := [Jvm.Cond.code x code maxLocals ret, Jvm.Cond.code ({ cls := "com/example/planarium/planarium/separator/Separation", name := "verticesIn", desc := "([BI)[I" } : Jvm.MethodName) prog_63_method_3_code (7 : Nat) (Option.some (Jvm.ClassFile.FieldType.array Jvm.ClassFile.FieldType.int))]
set_option maxRecDepth 65536 in
theorem codes_eq : words1.filter isCode = codes1 := rfl
theorem w_codes : ∀ c ∈ words1.filter isCode, c.before args0 about1 = true := by
  rw [codes_eq]
  intro c hc
  simp only [codes1, List.mem_cons, List.not_mem_nil, or_false] at hc
  rcases hc with rfl | rfl
  · exact w_c0
  · exact w_c1
set_option maxRecDepth 65536 in
theorem w_t1 : words1.all (fun c => isCode c || c.before args0 about1) = true := by decide +kernel
theorem w_tables : (allAtoms (Jvm.Cond.code x code maxLocals ret :: tables_1)).before args0 about1 = true := by
  rw [allAtoms_all]
  show words1.all (fun c => c.before args0 about1) = true
  refine all_split ?_ w_codes
  rw [w_t1]
set_option maxRecDepth 65536 in
theorem w_case : (Jvm.Cond.and given_1 narrow_1).before args0 about1 = true := by decide +kernel
theorem w_applies : (headSpec (Jvm.Cond.code x code maxLocals ret :: tables_1) room_1).applies x e0.platform about1 = true :=
  (Spec.applies_iff w_frames).mpr ⟨w_running, w_runnable, w_alone, w_named, w_hears, w_ripe, w_room, w_tables⟩
theorem atStart : AtStart classFile x code maxLocals ret World_1 tables_1 room_1 Calls_1 rest_1 Pre_1 launch0 p0 e0 about1 theMethod args0 below0 :=
  ⟨lists_1, trivial, launch0.admits_env _ _ _, launch0.least_env, fairChoices_fair.cas, fairChoices_fair.clock, w_frames, w_args, w_heap, w_applies, trivial, trivial, w_case⟩
end start1
theorem witness_1 : WitnessClaimed_1 := ⟨start1.p0, start1.e0, start1.about1, start1.theMethod, start1.args0, start1.below0, start1.atStart⟩
end Jvm.Pilot.@@N@@
