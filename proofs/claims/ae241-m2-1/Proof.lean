import JvmDerived
import JvmDerived.Pilot.@@N@@Statement
import JvmDerived.Pilot.@@N@@Code
set_option linter.unusedVariables false
set_option linter.unusedSimpArgs false
namespace Jvm.Pilot.@@N@@
open Jvm Jvm.ClassFile Sem Op Lib Jvm.Free Jvm.Stand Jvm.LawKit Jvm.RoadKit Bundle Jvm.Pilot.@@N@@.Jvm.D
section GoKit
variable {p : Program} {l : Launch} {e : Env} {R : Room} {s : State} {m : MethodId} {args : Array Value} {below : List Frame} {meth : Method} {c : Code} {T : State} {locs : List Loc} {cells slots : Nat}
/-- from the state S the run comes to an end that P says -/
def Go (p : Program) (e : Env) (below : List Frame) (P : Outcome → State → Prop) (S : State) : Prop := ∃ s₂ o, Steps p.tables e below S s₂ ∧ s₂.status = .running ∧ Ended s₂ below o ∧ P o s₂
def Pst (s : State) (Q : Option Value → Heap → List Loc → Prop) (k n : Nat) : Outcome → State → Prop := fun o U => ∃ v L, o = .returned v ∧ Q v U.heap L ∧ FrameEnd s o U L k n
theorem Go.on {P : Outcome → State → Prop} {S S' : State} (h : ∀ t, Steps p.tables e below S' t → Steps p.tables e below S t) (k : Go p e below P S') : Go p e below P S := by
  obtain ⟨s2, o, h1, h2⟩ := k
  exact ⟨s2, o, h _ h1, h2⟩
theorem Go.st {P : Outcome → State → Prop} {S S' : State} (h : Steps p.tables e below S S') (k : Go p e below P S') : Go p e below P S := Go.on (fun _ q => h.trans q) k
theorem Go.retV (X : Stand p l e R s m args below meth c T locs cells slots) (hx : p.tables.exec = Jvm.exec) (hlk : meth.locks = false) {pc : Nat} {Ls : Array Slot} {w : Value} {t : FieldType} {i : Instr} {rest : List Value} (hret : meth.sig.returnType = some t) (hn : narrow t w = w)
    (hi : (i = .ireturn ∧ (t = .int ∨ t = .boolean ∨ t = .byte ∨ t = .char ∨ t = .short) ∧ ∃ z, w = .int z) ∨ (i = .lreturn ∧ t = .long ∧ ∃ z, w = .long z) ∨ (i = .dreturn ∧ t = .double ∧ ∃ z, w = .double z) ∨ (i = .freturn ∧ t = .float ∧ ∃ z, w = .float z) ∨ (i = .areturn ∧ t.isReference = true ∧ w.isRef = true))
    (hd : decode c.code pc = .ok (i, 1)) {Q : Option Value → Heap → List Loc → Prop} {k n : Nat} (hk : cells ≤ k) (hs : slots ≤ n) (hQ : Q (some w) T.heap locs) : Go p e below (Pst s Q k n) (T.setTop (mkF m pc Ls (w :: rest))) := by
  obtain ⟨fs, hr, hrun, hended, hW, hsame⟩ := X.leave (v := some w) (fun h => by rw [hret] at h; cases h) hlk
  exact ⟨_, _, retOut X hx hret hn hi hd hr, hrun, hended, _, _, rfl, hQ, ⟨_, rfl⟩, hW, hsame.mono hk hs⟩
theorem Go.retI (X : Stand p l e R s m args below meth c T locs cells slots) (hx : p.tables.exec = Jvm.exec) (hlk : meth.locks = false) {pc : Nat} {Ls : Array Slot} {z : Int32} {rest : List Value} (hret : meth.sig.returnType = some .int)
    (hd : decode c.code pc = .ok (.ireturn, 1)) {Q : Option Value → Heap → List Loc → Prop} {k n : Nat} (hk : cells ≤ k) (hs : slots ≤ n) (hQ : Q (some (.int z)) T.heap locs) : Go p e below (Pst s Q k n) (T.setTop (mkF m pc Ls (.int z :: rest))) :=
  Go.retV X hx hlk hret rfl (Or.inl ⟨rfl, Or.inl rfl, _, rfl⟩) hd hk hs hQ
theorem Go.retJ (X : Stand p l e R s m args below meth c T locs cells slots) (hx : p.tables.exec = Jvm.exec) (hlk : meth.locks = false) {pc : Nat} {Ls : Array Slot} {z : Int64} {rest : List Value} (hret : meth.sig.returnType = some .long)
    (hd : decode c.code pc = .ok (.lreturn, 1)) {Q : Option Value → Heap → List Loc → Prop} {k n : Nat} (hk : cells ≤ k) (hs : slots ≤ n) (hQ : Q (some (.long z)) T.heap locs) : Go p e below (Pst s Q k n) (T.setTop (mkF m pc Ls (.long z :: rest))) :=
  Go.retV X hx hlk hret rfl (Or.inr (Or.inl ⟨rfl, rfl, _, rfl⟩)) hd hk hs hQ
theorem Go.retA (X : Stand p l e R s m args below meth c T locs cells slots) (hx : p.tables.exec = Jvm.exec) (hlk : meth.locks = false) {pc : Nat} {Ls : Array Slot} {a : Addr} {t : FieldType} {rest : List Value} (hret : meth.sig.returnType = some t) (ht : t.isReference = true) (hn : narrow t (.ref a) = .ref a)
    (hd : decode c.code pc = .ok (.areturn, 1)) {Q : Option Value → Heap → List Loc → Prop} {k n : Nat} (hk : cells ≤ k) (hs : slots ≤ n) (hQ : Q (some (.ref a)) T.heap locs) : Go p e below (Pst s Q k n) (T.setTop (mkF m pc Ls (.ref a :: rest))) :=
  Go.retV X hx hlk hret hn (Or.inr (Or.inr (Or.inr (Or.inr ⟨rfl, ht, rfl⟩)))) hd hk hs hQ
theorem Go.retN (X : Stand p l e R s m args below meth c T locs cells slots) (hx : p.tables.exec = Jvm.exec) (hlk : meth.locks = false) {pc : Nat} {Ls : Array Slot} {z : Int32} {t : FieldType} {rest : List Value} (hret : meth.sig.returnType = some t) (ht : t = .boolean ∨ t = .byte ∨ t = .char ∨ t = .short)
    (hd : decode c.code pc = .ok (.ireturn, 1)) {Q : Option Value → Heap → List Loc → Prop} {k n : Nat} (hk : cells ≤ k) (hs : slots ≤ n) (hQ : Q (some (.int (nar t z))) T.heap locs) : Go p e below (Pst s Q k n) (T.setTop (mkF m pc Ls (.int z :: rest))) := by
  obtain ⟨fs, hr, hrun, hended, hW, hsame⟩ := X.leave (v := some (.int (nar t z))) (fun h => by rw [hret] at h; cases h) hlk
  exact ⟨_, _, Jvm.RoadKit.retN X hx hret ht hd hr, hrun, hended, _, _, rfl, hQ, ⟨_, rfl⟩, hW, hsame.mono hk hs⟩
theorem Go.ret0 (X : Stand p l e R s m args below meth c T locs cells slots) (hx : p.tables.exec = Jvm.exec) (hlk : meth.locks = false) {pc : Nat} {Ls : Array Slot} (hret : meth.sig.returnType = none)
    (hd : decode c.code pc = .ok (.return_, 1)) {Q : Option Value → Heap → List Loc → Prop} {k n : Nat} (hk : cells ≤ k) (hs : slots ≤ n) (hQ : Q none T.heap locs) : Go p e below (Pst s Q k n) (T.setTop (mkF m pc Ls [])) := by
  obtain ⟨fs, hr, hrun, hended, hW, hsame⟩ := X.leave (v := none) (fun _ => rfl) hlk
  exact ⟨_, _, X.returnOut hx hret hd hr, hrun, hended, _, _, rfl, hQ, ⟨_, rfl⟩, hW, hsame.mono hk hs⟩
theorem lremM {g : JFrame} {target : State} (X : Stand p l e R s m args below meth c T locs cells slots) (hx : p.tables.exec = Jvm.exec) (hg : g.method = m) {x y : Int64} {rest : List Value} (hd : decode c.code g.pc = .ok (.lrem, 1)) (hs : g.stack = .long y :: .long x :: rest) (hy : y ≠ 0)
    (hr : Steps p.tables e below (T.setTop { g with pc := g.pc + 1, stack := .long (x % y) :: rest }) target) : Steps p.tables e below (T.setTop g) target := by
  have q : x - x / y * y = x % y := lrem_mod x y
  exact XS.lrem X.here hx hg hd hs hy (by rw [q]; exact hr)
/-- Java's x >>> k on ints and on longs, as the steps leave it -/
def ushrI (x k : Int32) : Int32 := (x.toUInt32 >>> (k &&& 31).toUInt32).toInt32
def ushrJ (x : Int64) (k : Int32) : Int64 := (x.toUInt64 >>> (k &&& 0x3f).toInt64.toUInt64).toInt64
end GoKit
section ArrKit
variable {p : Program} {l : Launch} {e : Env} {R : Room} {s : State} {m : MethodId} {args : Array Value} {below : List Frame} {meth : Method} {c : Code} {T : State} {locs : List Loc} {cells slots : Nat} {Z : State} {h h' : Heap} {a b : Addr} {ty : FieldType} {n : Nat} {f : Nat → Value}
/-- in h the array at a has n places; place j holds f j -/
def BA (Z : State) (h : Heap) (a : Addr) (ty : FieldType) (n : Nat) (f : Nat → Value) : Prop := ∃ cl : Cell, Arr Z h a cl ty ∧ cl.slots.size = n ∧ ∀ j, j < n → cl.slots[j]? = some (f j)
def upd (f : Nat → Value) (i : Nat) (v : Value) : Nat → Value := fun j => if j = i then v else f j
theorem upd_hit {i : Nat} {v : Value} : upd f i v i = v := if_pos rfl
theorem upd_miss {i j : Nat} {v : Value} (q : j ≠ i) : upd f i v j = f j := if_neg q
theorem BA.lt (F : BA Z h a ty n f) : a < h.size := by
  obtain ⟨cl, A, -⟩ := F
  exact A.lt
theorem BA.ext (F : BA Z h a ty n f) (E : Ext h h') : BA Z h' a ty n f := by
  obtain ⟨cl, A, r⟩ := F
  exact ⟨cl, A.ext E, r⟩
theorem BA.other {sl : Nat} {v : Value} (F : BA Z h a ty n f) (W : Wr h h' b sl v) (q : a ≠ b) : BA Z h' a ty n f := by
  obtain ⟨cl, A, r⟩ := F
  exact ⟨cl, A.other W q, r⟩
theorem BA.keep {ws : List Addr} (F : BA Z h a ty n f) (K : Keep h h' ws) (q : a ∉ ws) : BA Z h' a ty n f := by
  obtain ⟨cl, A, r⟩ := F
  exact ⟨cl, ⟨K.2.1 a cl A.1 q, A.2⟩, r⟩
theorem BA.fn {g : Nat → Value} (F : BA Z h a ty n f) (q : ∀ j, j < n → f j = g j) : BA Z h a ty n g := by
  obtain ⟨cl, A, r1, r2⟩ := F
  exact ⟨cl, A, r1, fun j hj => by rw [r2 j hj, q j hj]⟩
theorem BA.new {k : ClassId} {z : Int32} (A : Arr Z h a (newA k ty z) ty) (hz : z.toNatClampNeg = n) : BA Z h a ty n (fun _ => defaultValue ty) := by
  subst hz
  refine ⟨_, A, sz_new _ _ _, fun j hj => ?_⟩
  simp [newA, hj]
theorem BA.wr {i : Nat} {v : Value} (F : BA Z h a ty n f) (W : Wr h h' a i v) : BA Z h' a ty n (upd f i v) := by
  obtain ⟨cl, A, r1, r2⟩ := F
  refine ⟨_, A.same W, by rw [sz_set, r1], fun j hj => ?_⟩
  show (cl.slots.setIfInBounds i v)[j]? = _
  rw [Array.getElem?_setIfInBounds]
  by_cases q : i = j
  · subst q
    rw [if_pos rfl, r1, if_pos hj]
    simp [upd]
  · rw [if_neg q, r2 j hj]
    simp [upd, Ne.symm q, fun w : j = i => q w.symm]
theorem inb {cl : Cell} {j : Int32} {i : Nat} (h0 : ¬ j < 0) (hi : j.toNatClampNeg = i) (hs : cl.slots.size = n) (hn : i < n) : ¬ (j < 0 ∨ cl.slots.size ≤ j.toNatClampNeg) := by
  rintro (q | q)
  · exact h0 q
  · rw [hs, hi] at q
    omega
theorem Go.ldB (X : Stand p l e R s m args below meth c T locs cells slots) (hx : p.tables.exec = Jvm.exec) (hZ : Z.Warmed39 s.vm) (eT : T.heap = h) (F : BA Z h a .byte n f) {j : Int32} {i : Nat} (h0 : ¬ j < 0) (hi : j.toNatClampNeg = i) (hn : i < n) {pc : Nat} {Ls : Array Slot} {rest : List Value} (hd : decode c.code pc = .ok (.baload, 1)) {P : Outcome → State → Prop}
    (k : Go p e below P (T.setTop (mkF m (pc + 1) Ls (f i :: rest)))) : Go p e below P (T.setTop (mkF m pc Ls (.int j :: .ref a :: rest))) := by
  obtain ⟨cl, A, hs, hv⟩ := F
  exact Go.on (fun t q => X.baloadBytes hx (by rw [eT]; exact A.1) (State.isArrayOf_alike hZ.alike A.2.1) A.2.2 (inb h0 hi hs hn) (by rw [hi]; exact hv i hn) (g := mkF m pc Ls (.int j :: .ref a :: rest)) rfl rfl hd t q) k
theorem Go.ldI (X : Stand p l e R s m args below meth c T locs cells slots) (hx : p.tables.exec = Jvm.exec) (hZ : Z.Warmed39 s.vm) (eT : T.heap = h) (F : BA Z h a .int n f) {j : Int32} {i : Nat} (h0 : ¬ j < 0) (hi : j.toNatClampNeg = i) (hn : i < n) {pc : Nat} {Ls : Array Slot} {rest : List Value} (hd : decode c.code pc = .ok (.iaload, 1)) {P : Outcome → State → Prop}
    (k : Go p e below P (T.setTop (mkF m (pc + 1) Ls (f i :: rest)))) : Go p e below P (T.setTop (mkF m pc Ls (.int j :: .ref a :: rest))) := by
  obtain ⟨cl, A, hs, hv⟩ := F
  exact Go.on (fun t q => X.iaload hx (by rw [eT]; exact A.1) (State.isArrayOf_alike hZ.alike A.2.1) A.2.2 (inb h0 hi hs hn) (by rw [hi]; exact hv i hn) (g := mkF m pc Ls (.int j :: .ref a :: rest)) rfl rfl hd t q) k
theorem Go.len (X : Stand p l e R s m args below meth c T locs cells slots) (hx : p.tables.exec = Jvm.exec) (hZ : Z.Warmed39 s.vm) (eT : T.heap = h) (F : BA Z h a ty n f) {N : Int32} (hN : n.toInt32 = N) {pc : Nat} {Ls : Array Slot} {rest : List Value} (hd : decode c.code pc = .ok (.arraylength, 1)) {P : Outcome → State → Prop}
    (k : Go p e below P (T.setTop (mkF m (pc + 1) Ls (.int N :: rest)))) : Go p e below P (T.setTop (mkF m pc Ls (.ref a :: rest))) := by
  obtain ⟨cl, A, hs, hv⟩ := F
  subst hs hN
  exact Go.on (fun t q => X.arraylength hx (by rw [eT]; exact A.1) (State.isArrayOf_alike hZ.alike A.2.1) (g := mkF m pc Ls (.ref a :: rest)) rfl rfl hd t q) k
theorem Go.stB (X : Stand p l e R s m args below meth c T locs cells slots) (hx : p.tables.exec = Jvm.exec) (hZ : Z.Warmed39 s.vm) (eT : T.heap = h) (F : BA Z h a .byte n f) {j x : Int32} {i : Nat} (h0 : ¬ j < 0) (hi : j.toNatClampNeg = i) (hn : i < n) {pc : Nat} {Ls : Array Slot} {rest : List Value} (hd : decode c.code pc = .ok (.bastore, 1)) {P : Outcome → State → Prop}
    (k : ∀ T' h', Stand p l e R s m args below meth c T' (locs ++ [⟨a, i⟩]) cells slots → T'.heap = h' → Wr h h' a i (.int (nar .byte x)) → BA Z h' a .byte n (upd f i (.int (nar .byte x))) → Go p e below P (T'.setTop (mkF m (pc + 1) Ls rest))) : Go p e below P (T.setTop (mkF m pc Ls (.int x :: .int j :: .ref a :: rest))) := by
  have F' := F
  obtain ⟨cl, A, hs, hv⟩ := F
  obtain ⟨T', h', X', e', W, st⟩ := Jvm.RoadKit.stB X hx hZ eT A (j := j) (x := x) (inb h0 hi hs hn) (g := mkF m pc Ls (.int x :: .int j :: .ref a :: rest)) rfl rfl hd
  subst hi
  exact Go.on st (k T' h' X' e' W (F'.wr W))
theorem Go.stI (X : Stand p l e R s m args below meth c T locs cells slots) (hx : p.tables.exec = Jvm.exec) (hZ : Z.Warmed39 s.vm) (eT : T.heap = h) (F : BA Z h a .int n f) {j x : Int32} {i : Nat} (h0 : ¬ j < 0) (hi : j.toNatClampNeg = i) (hn : i < n) {pc : Nat} {Ls : Array Slot} {rest : List Value} (hd : decode c.code pc = .ok (.iastore, 1)) {P : Outcome → State → Prop}
    (k : ∀ T' h', Stand p l e R s m args below meth c T' (locs ++ [⟨a, i⟩]) cells slots → T'.heap = h' → Wr h h' a i (.int x) → BA Z h' a .int n (upd f i (.int x)) → Go p e below P (T'.setTop (mkF m (pc + 1) Ls rest))) : Go p e below P (T.setTop (mkF m pc Ls (.int x :: .int j :: .ref a :: rest))) := by
  have F' := F
  obtain ⟨cl, A, hs, hv⟩ := F
  obtain ⟨T', h', X', e', W, st⟩ := Jvm.RoadKit.stI X hx hZ eT A (j := j) (x := x) (inb h0 hi hs hn) (g := mkF m pc Ls (.int x :: .int j :: .ref a :: rest)) rfl rfl hd
  subst hi
  exact Go.on st (k T' h' X' e' W (F'.wr W))
/-- an index by its value -/
theorem ix {j : Int32} {i : Nat} (h : j.toInt = (i : Int)) : ¬ j < 0 ∧ j.toNatClampNeg = i := by
  constructor
  · intro q
    have q2 := Int32.lt_iff_toInt_lt.mp q
    have z : (0 : Int32).toInt = 0 := by decide
    omega
  · show j.toInt.toNat = i
    omega
end ArrKit
theorem pd_1 : parseMethodDescriptor "([BIJIIB)Z" = some ⟨[(.array .byte), .int, .long, .int, .int, .byte], some .boolean⟩ := by decide +kernel
theorem pd_2 : parseMethodDescriptor "([BIJ)I" = some ⟨[(.array .byte), .int, .long], some .int⟩ := by decide +kernel
theorem pd_3 : parseMethodDescriptor "(J)I" = some ⟨[.long], some .int⟩ := by decide +kernel
theorem own_sh (x : Int64) (k : Int32) (n : Nat) (h : ((k &&& 0x3f).toInt64.toUInt64.toBitVec % 64).toNat = n) : (ushrJ x k).toBitVec = x.toBitVec >>> n := by
  subst h; rfl
def own_len (v : Int64) : Int32 := if v < (128 : Int64) then (1 : Int32) else if v < (16384 : Int64) then (2 : Int32) else if v < (2097152 : Int64) then (3 : Int32) else if v < (268435456 : Int64) then (4 : Int32) else if v < (34359738368 : Int64) then (5 : Int32) else if v < (4398046511104 : Int64) then (6 : Int32) else if v < (562949953421312 : Int64) then (7 : Int32) else if v < (72057594037927936 : Int64) then (8 : Int32) else (9 : Int32)
/-- v, its lowest t groups of seven bits taken away -/
def own_sr (v : Int64) (t : Nat) : Int64 := Int64.ofBitVec (v.toBitVec >>> (7 * t))
theorem own_sr0 (v : Int64) : own_sr v 0 = v := by
  apply Int64.toBitVec_inj.mp
  show v.toBitVec >>> (7 * 0) = v.toBitVec
  simp
theorem own_srs (v : Int64) (t : Nat) : ushrJ (own_sr v t) (7 : Int32) = own_sr v (t + 1) := by
  apply Int64.toBitVec_inj.mp
  rw [own_sh _ 7 7 (by decide)]
  show (v.toBitVec >>> (7 * t)) >>> 7 = v.toBitVec >>> (7 * (t + 1))
  rw [← BitVec.shiftRight_add]
  congr 1
theorem own_sr_at (v : Int64) (t : Nat) (ht : t < 9) : ushrJ v ((7 : Int32) * Int32.ofNat t) = own_sr v t := by
  apply Int64.toBitVec_inj.mp
  have : ∀ t : Fin 9, ((((7 : Int32) * Int32.ofNat t.1) &&& 0x3f).toInt64.toUInt64.toBitVec % 64).toNat = 7 * t.1 := by decide
  rw [own_sh _ _ _ (this ⟨t, ht⟩)]
  rfl
theorem own_nn {x : Int64} (h : 0 ≤ x.toInt) : x.toInt = (x.toBitVec.toNat : Int) := by
  have e : x.toInt = x.toBitVec.toInt := rfl
  rw [e] at h ⊢
  rw [BitVec.toInt_eq_toNat_cond] at h ⊢
  split
  · rfl
  · rename_i q
    rw [if_neg q] at h
    have := x.toBitVec.isLt
    omega
theorem own_shr_nn {x : Int64} (h : 0 ≤ x.toInt) (n : Nat) (y : Int64) (hy : y.toBitVec = x.toBitVec >>> n) : y.toInt = ((x.toBitVec.toNat / 2 ^ n : Nat) : Int) := by
  have e : y.toInt = y.toBitVec.toInt := rfl
  have hx := own_nn h
  have hr := rng64 x
  have hle : x.toBitVec.toNat / 2 ^ n ≤ x.toBitVec.toNat := Nat.div_le_self _ _
  rw [e, hy, BitVec.toInt_eq_toNat_cond, BitVec.toNat_ushiftRight, Nat.shiftRight_eq_div_pow]
  rw [if_pos (by omega)]
theorem own_sr_v {v : Int64} (h : 0 ≤ v.toInt) (t : Nat) : (own_sr v t).toInt = ((v.toInt.toNat / 2 ^ (7 * t) : Nat) : Int) := by
  rw [own_shr_nn h (7 * t) (own_sr v t) rfl]
  have := own_nn h
  have e : v.toInt.toNat = v.toBitVec.toNat := by omega
  rw [e]
theorem own_ushr_nn {x : Int64} (h : 0 ≤ x.toInt) (k : Int32) : 0 ≤ (ushrJ x k).toInt := by
  rw [own_shr_nn h _ (ushrJ x k) (own_sh x k _ rfl)]
  exact Int.natCast_nonneg _
theorem k1 (v : Int64) (hv : 0 ≤ v.toInt) : v < (128 : Int64) ↔ v.toInt.toNat < 128 := by
  rw [Int64.lt_iff_toInt_lt, show (128 : Int64).toInt = 128 from by decide]
  omega
theorem k2 (v : Int64) (hv : 0 ≤ v.toInt) : v < (16384 : Int64) ↔ v.toInt.toNat < 16384 := by
  rw [Int64.lt_iff_toInt_lt, show (16384 : Int64).toInt = 16384 from by decide]
  omega
theorem k3 (v : Int64) (hv : 0 ≤ v.toInt) : v < (2097152 : Int64) ↔ v.toInt.toNat < 2097152 := by
  rw [Int64.lt_iff_toInt_lt, show (2097152 : Int64).toInt = 2097152 from by decide]
  omega
theorem k4 (v : Int64) (hv : 0 ≤ v.toInt) : v < (268435456 : Int64) ↔ v.toInt.toNat < 268435456 := by
  rw [Int64.lt_iff_toInt_lt, show (268435456 : Int64).toInt = 268435456 from by decide]
  omega
theorem k5 (v : Int64) (hv : 0 ≤ v.toInt) : v < (34359738368 : Int64) ↔ v.toInt.toNat < 34359738368 := by
  rw [Int64.lt_iff_toInt_lt, show (34359738368 : Int64).toInt = 34359738368 from by decide]
  omega
theorem k6 (v : Int64) (hv : 0 ≤ v.toInt) : v < (4398046511104 : Int64) ↔ v.toInt.toNat < 4398046511104 := by
  rw [Int64.lt_iff_toInt_lt, show (4398046511104 : Int64).toInt = 4398046511104 from by decide]
  omega
theorem k7 (v : Int64) (hv : 0 ≤ v.toInt) : v < (562949953421312 : Int64) ↔ v.toInt.toNat < 562949953421312 := by
  rw [Int64.lt_iff_toInt_lt, show (562949953421312 : Int64).toInt = 562949953421312 from by decide]
  omega
theorem k8 (v : Int64) (hv : 0 ≤ v.toInt) : v < (72057594037927936 : Int64) ↔ v.toInt.toNat < 72057594037927936 := by
  rw [Int64.lt_iff_toInt_lt, show (72057594037927936 : Int64).toInt = 72057594037927936 from by decide]
  omega
theorem own_len_is (v : Int64) (hv : 0 ≤ v.toInt) (i : Nat) (hi : i ≤ 8) (lo : i = 0 ∨ 2 ^ (7 * i) ≤ v.toInt.toNat) (up : v.toInt.toNat < 2 ^ (7 * (i + 1))) : own_len v = Int32.ofNat (i + 1) := by
  have hc : i = 0 ∨ i = 1 ∨ i = 2 ∨ i = 3 ∨ i = 4 ∨ i = 5 ∨ i = 6 ∨ i = 7 ∨ i = 8 := by omega
  rcases hc with rfl | rfl | rfl | rfl | rfl | rfl | rfl | rfl | rfl
  · have up' : v.toInt.toNat < 128 := up
    · unfold own_len
      rw [if_pos ((k1 v hv).mpr (by omega))]
      rfl
  · have up' : v.toInt.toNat < 16384 := up
    have lo' : 128 ≤ v.toInt.toNat := lo.resolve_left (by decide)
    · unfold own_len
      rw [if_neg (fun q => by have := (k1 v hv).mp q; omega)]
      rw [if_pos ((k2 v hv).mpr (by omega))]
      rfl
  · have up' : v.toInt.toNat < 2097152 := up
    have lo' : 16384 ≤ v.toInt.toNat := lo.resolve_left (by decide)
    · unfold own_len
      rw [if_neg (fun q => by have := (k1 v hv).mp q; omega)]
      rw [if_neg (fun q => by have := (k2 v hv).mp q; omega)]
      rw [if_pos ((k3 v hv).mpr (by omega))]
      rfl
  · have up' : v.toInt.toNat < 268435456 := up
    have lo' : 2097152 ≤ v.toInt.toNat := lo.resolve_left (by decide)
    · unfold own_len
      rw [if_neg (fun q => by have := (k1 v hv).mp q; omega)]
      rw [if_neg (fun q => by have := (k2 v hv).mp q; omega)]
      rw [if_neg (fun q => by have := (k3 v hv).mp q; omega)]
      rw [if_pos ((k4 v hv).mpr (by omega))]
      rfl
  · have up' : v.toInt.toNat < 34359738368 := up
    have lo' : 268435456 ≤ v.toInt.toNat := lo.resolve_left (by decide)
    · unfold own_len
      rw [if_neg (fun q => by have := (k1 v hv).mp q; omega)]
      rw [if_neg (fun q => by have := (k2 v hv).mp q; omega)]
      rw [if_neg (fun q => by have := (k3 v hv).mp q; omega)]
      rw [if_neg (fun q => by have := (k4 v hv).mp q; omega)]
      rw [if_pos ((k5 v hv).mpr (by omega))]
      rfl
  · have up' : v.toInt.toNat < 4398046511104 := up
    have lo' : 34359738368 ≤ v.toInt.toNat := lo.resolve_left (by decide)
    · unfold own_len
      rw [if_neg (fun q => by have := (k1 v hv).mp q; omega)]
      rw [if_neg (fun q => by have := (k2 v hv).mp q; omega)]
      rw [if_neg (fun q => by have := (k3 v hv).mp q; omega)]
      rw [if_neg (fun q => by have := (k4 v hv).mp q; omega)]
      rw [if_neg (fun q => by have := (k5 v hv).mp q; omega)]
      rw [if_pos ((k6 v hv).mpr (by omega))]
      rfl
  · have up' : v.toInt.toNat < 562949953421312 := up
    have lo' : 4398046511104 ≤ v.toInt.toNat := lo.resolve_left (by decide)
    · unfold own_len
      rw [if_neg (fun q => by have := (k1 v hv).mp q; omega)]
      rw [if_neg (fun q => by have := (k2 v hv).mp q; omega)]
      rw [if_neg (fun q => by have := (k3 v hv).mp q; omega)]
      rw [if_neg (fun q => by have := (k4 v hv).mp q; omega)]
      rw [if_neg (fun q => by have := (k5 v hv).mp q; omega)]
      rw [if_neg (fun q => by have := (k6 v hv).mp q; omega)]
      rw [if_pos ((k7 v hv).mpr (by omega))]
      rfl
  · have up' : v.toInt.toNat < 72057594037927936 := up
    have lo' : 562949953421312 ≤ v.toInt.toNat := lo.resolve_left (by decide)
    · unfold own_len
      rw [if_neg (fun q => by have := (k1 v hv).mp q; omega)]
      rw [if_neg (fun q => by have := (k2 v hv).mp q; omega)]
      rw [if_neg (fun q => by have := (k3 v hv).mp q; omega)]
      rw [if_neg (fun q => by have := (k4 v hv).mp q; omega)]
      rw [if_neg (fun q => by have := (k5 v hv).mp q; omega)]
      rw [if_neg (fun q => by have := (k6 v hv).mp q; omega)]
      rw [if_neg (fun q => by have := (k7 v hv).mp q; omega)]
      rw [if_pos ((k8 v hv).mpr (by omega))]
      rfl
  · have up' : v.toInt.toNat < 9223372036854775808 := up
    have lo' : 72057594037927936 ≤ v.toInt.toNat := lo.resolve_left (by decide)
    · unfold own_len
      rw [if_neg (fun q => by have := (k1 v hv).mp q; omega)]
      rw [if_neg (fun q => by have := (k2 v hv).mp q; omega)]
      rw [if_neg (fun q => by have := (k3 v hv).mp q; omega)]
      rw [if_neg (fun q => by have := (k4 v hv).mp q; omega)]
      rw [if_neg (fun q => by have := (k5 v hv).mp q; omega)]
      rw [if_neg (fun q => by have := (k6 v hv).mp q; omega)]
      rw [if_neg (fun q => by have := (k7 v hv).mp q; omega)]
      rw [if_neg (fun q => by have := (k8 v hv).mp q; omega)]
      rfl
def own_cv (at_ : Int32) (v : Int64) (n k fill : Int32) : Int32 := if (k - at_) < (0 : Int32) then fill else if (k - at_) < n then (if (k - at_) = (n - (1 : Int32)) then (((ushrJ v ((7 : Int32) * (k - at_))) &&& (127 : Int64)) ||| (128 : Int64)).toInt32.toInt8.toInt32 else ((ushrJ v ((7 : Int32) * (k - at_))) &&& (127 : Int64)).toInt32.toInt8.toInt32) else fill
/-- the bytes when i groups are written -/
def own_p (A i : Nat) (v : Int64) (fill : Int32) (j : Nat) : Int32 := if A ≤ j ∧ j < A + i then nar .byte ((own_sr v (j - A) &&& (127 : Int64)).toInt32.toInt8.toInt32) else fill
theorem own_narb (x : Int32) : nar .byte (x.toInt8.toInt32) = x.toInt8.toInt32 := by simp [nar]
theorem own_127 (r : Int64) (h0 : 0 ≤ r.toInt) (h1 : r.toInt < 128) : r &&& (127 : Int64) = r := by
  apply Int64.toInt_inj.mp
  rw [c_maskL r 127 7 (by decide) (by decide)]
  have : (2 ^ 7 : Nat) = 128 := by decide
  rw [this]
  omega
theorem own_addn {d : Int32} {D : Nat} (k : Int32) (K : Nat) (hk : k.toInt = K) (hd : d.toInt = D) (h : D + K < 2147483648) : (d + k).toInt = ((D + K : Nat) : Int) := by
  have c := c_iadd d k
  have b := rng32 (d + k)
  rw [hk, hd] at c
  omega
theorem own_ofNat {S : Nat} (h : S < 1000) : (Int32.ofNat S).toInt = (S : Int) := Int32.toInt_ofNat_of_lt (by omega)
theorem own_subn {at_ : Int32} {A j : Nat} (h : at_.toInt = A) (hA : A < 100) (hj : j < 100) : (Int32.ofNat j - at_).toInt = (j : Int) - (A : Int) := by
  have c := c_isub (Int32.ofNat j) at_
  have b := rng32 (Int32.ofNat j - at_)
  rw [own_ofNat (by omega), h] at c
  omega
theorem own_final {at_ : Int32} {A : Nat} (hA : at_.toInt = A) (hA7 : A ≤ 7) (v : Int64) (hv : 0 ≤ v.toInt) (i : Nat) (hi : i ≤ 8) (hl : own_len v = Int32.ofNat (i + 1)) (hr : (own_sr v i).toInt < 128) (fill : Int32) (j : Nat) (hj : j < 16) :
    upd (fun j => .int (own_p A i v fill j)) (A + i) (.int (nar .byte (((own_sr v i ||| (128 : Int64)).toInt32).toInt8.toInt32))) j = .int (own_cv at_ v (own_len v) (Int32.ofNat j) fill) := by
  have hs := own_subn (j := j) hA (by omega) (by omega)
  have z0 : (0 : Int32).toInt = 0 := by decide
  have z1 : (1 : Int32).toInt = 1 := by decide
  have hn : (own_len v).toInt = ((i + 1 : Nat) : Int) := by rw [hl]; exact own_ofNat (by omega)
  have hn1 : (own_len v - (1 : Int32)).toInt = (i : Int) := by
    have c := c_isub (own_len v) 1
    have b := rng32 (own_len v - (1 : Int32))
    omega
  by_cases c1 : j < A
  · have e1 : own_cv at_ v (own_len v) (Int32.ofNat j) fill = fill := by
      unfold own_cv
      rw [if_pos (Int32.lt_iff_toInt_lt.mpr (by omega))]
    have e2 : own_p A i v fill j = fill := by
      unfold own_p
      rw [if_neg (by omega)]
    rw [upd_miss (by omega), e1]
    exact congrArg Value.int e2
  · have n1 : ¬ (Int32.ofNat j - at_) < (0 : Int32) := fun q => by
      have := Int32.lt_iff_toInt_lt.mp q
      omega
    have hk : Int32.ofNat j - at_ = Int32.ofNat (j - A) := by
      apply Int32.toInt_inj.mp
      rw [hs, own_ofNat (by omega)]
      omega
    by_cases c2 : j < A + i + 1
    · have n2 : (Int32.ofNat j - at_) < own_len v := Int32.lt_iff_toInt_lt.mpr (by omega)
      by_cases c3 : j = A + i
      · have n3 : (Int32.ofNat j - at_) = own_len v - (1 : Int32) := Int32.toInt_inj.mp (by omega)
        have e : j - A = i := by omega
        have h0 : 0 ≤ (own_sr v i).toInt := by
          rw [own_sr_v hv]
          exact Int.natCast_nonneg _
        have e1 : own_cv at_ v (own_len v) (Int32.ofNat j) fill = ((own_sr v i ||| (128 : Int64)).toInt32).toInt8.toInt32 := by
          unfold own_cv
          rw [if_neg n1, if_pos n2, if_pos n3, hk, own_sr_at v (j - A) (by omega), e, own_127 _ h0 hr]
        rw [e1, c3, upd_hit, own_narb]
      · have n3 : ¬ (Int32.ofNat j - at_) = own_len v - (1 : Int32) := fun q => by
          have := congrArg Int32.toInt q
          omega
        have e1 : own_cv at_ v (own_len v) (Int32.ofNat j) fill = (own_sr v (j - A) &&& (127 : Int64)).toInt32.toInt8.toInt32 := by
          unfold own_cv
          rw [if_neg n1, if_pos n2, if_neg n3, hk, own_sr_at v (j - A) (by omega)]
        have e2 : own_p A i v fill j = (own_sr v (j - A) &&& (127 : Int64)).toInt32.toInt8.toInt32 := by
          unfold own_p
          rw [if_pos (by omega), own_narb]
        rw [e1, upd_miss c3]
        exact congrArg Value.int e2
    · have n2 : ¬ (Int32.ofNat j - at_) < own_len v := fun q => by
        have := Int32.lt_iff_toInt_lt.mp q
        omega
      have e1 : own_cv at_ v (own_len v) (Int32.ofNat j) fill = fill := by
        unfold own_cv
        rw [if_neg n1, if_neg n2]
      have e2 : own_p A i v fill j = fill := by
        unfold own_p
        rw [if_neg (by omega)]
      rw [upd_miss (by omega), e1]
      exact congrArg Value.int e2
theorem own_turn {A i : Nat} (v : Int64) (fill : Int32) (j : Nat) : upd (fun j => .int (own_p A i v fill j)) (A + i) (.int (nar .byte ((own_sr v i &&& (127 : Int64)).toInt32.toInt8.toInt32))) j = .int (own_p A (i + 1) v fill j) := by
  by_cases c : j = A + i
  · have e : j - A = i := by omega
    have e2 : own_p A (i + 1) v fill j = nar .byte ((own_sr v i &&& (127 : Int64)).toInt32.toInt8.toInt32) := by
      unfold own_p
      rw [if_pos (by omega), e]
    rw [e2, c, upd_hit]
  · have e2 : own_p A (i + 1) v fill j = own_p A i v fill j := by
      unfold own_p
      by_cases d : A ≤ j ∧ j < A + i
      · rw [if_pos d, if_pos (by omega)]
      · rw [if_neg d, if_neg (by omega)]
    rw [upd_miss c, e2]
def QW (Z : State) (a : Addr) (at_ : Int32) (v : Int64) (fill : Int32) (h0 : Heap) (n0 : Nat) (w : Option Value) (h : Heap) (L : List Loc) : Prop := w = some (.int (at_ + own_len v)) ∧ Fr n0 L ∧ n0 ≤ h.size ∧ BA Z h a .byte 16 (fun j => .int (own_cv at_ v (own_len v) (Int32.ofNat j) fill))
theorem d1_0 : decode prog_12_method_3_code 0 = .ok (.lload_n 2, 1) := by decide +kernel
theorem d1_1 : decode prog_12_method_3_code 1 = .ok (.lconst 0, 1) := by decide +kernel
theorem d1_2 : decode prog_12_method_3_code 2 = .ok (.lcmp, 1) := by decide +kernel
theorem d1_3 : decode prog_12_method_3_code 3 = .ok (.ifCond .ge 17, 3) := by decide +kernel
theorem d1_20 : decode prog_12_method_3_code 20 = .ok (.iload_n 1, 1) := by decide +kernel
theorem d1_21 : decode prog_12_method_3_code 21 = .ok (.istore 4, 2) := by decide +kernel
theorem d1_23 : decode prog_12_method_3_code 23 = .ok (.lload_n 2, 1) := by decide +kernel
theorem d1_24 : decode prog_12_method_3_code 24 = .ok (.lstore 5, 2) := by decide +kernel
theorem d1_26 : decode prog_12_method_3_code 26 = .ok (.lload 5, 2) := by decide +kernel
theorem d1_28 : decode prog_12_method_3_code 28 = .ok (.ldc2_w 27, 3) := by decide +kernel
theorem d1_31 : decode prog_12_method_3_code 31 = .ok (.lcmp, 1) := by decide +kernel
theorem d1_32 : decode prog_12_method_3_code 32 = .ok (.ifCond .lt 28, 3) := by decide +kernel
theorem d1_35 : decode prog_12_method_3_code 35 = .ok (.aload_n 0, 1) := by decide +kernel
theorem d1_36 : decode prog_12_method_3_code 36 = .ok (.iload 4, 2) := by decide +kernel
theorem d1_38 : decode prog_12_method_3_code 38 = .ok (.iinc 4 1, 3) := by decide +kernel
theorem d1_41 : decode prog_12_method_3_code 41 = .ok (.lload 5, 2) := by decide +kernel
theorem d1_43 : decode prog_12_method_3_code 43 = .ok (.ldc2_w 29, 3) := by decide +kernel
theorem d1_46 : decode prog_12_method_3_code 46 = .ok (.land, 1) := by decide +kernel
theorem d1_47 : decode prog_12_method_3_code 47 = .ok (.l2i, 1) := by decide +kernel
theorem d1_48 : decode prog_12_method_3_code 48 = .ok (.i2b, 1) := by decide +kernel
theorem d1_49 : decode prog_12_method_3_code 49 = .ok (.bastore, 1) := by decide +kernel
theorem d1_50 : decode prog_12_method_3_code 50 = .ok (.lload 5, 2) := by decide +kernel
theorem d1_52 : decode prog_12_method_3_code 52 = .ok (.bipush 7, 2) := by decide +kernel
theorem d1_54 : decode prog_12_method_3_code 54 = .ok (.lushr, 1) := by decide +kernel
theorem d1_55 : decode prog_12_method_3_code 55 = .ok (.lstore 5, 2) := by decide +kernel
theorem d1_57 : decode prog_12_method_3_code 57 = .ok (.goto (-31), 3) := by decide +kernel
theorem d1_60 : decode prog_12_method_3_code 60 = .ok (.aload_n 0, 1) := by decide +kernel
theorem d1_61 : decode prog_12_method_3_code 61 = .ok (.iload 4, 2) := by decide +kernel
theorem d1_63 : decode prog_12_method_3_code 63 = .ok (.iinc 4 1, 3) := by decide +kernel
theorem d1_66 : decode prog_12_method_3_code 66 = .ok (.lload 5, 2) := by decide +kernel
theorem d1_68 : decode prog_12_method_3_code 68 = .ok (.ldc2_w 27, 3) := by decide +kernel
theorem d1_71 : decode prog_12_method_3_code 71 = .ok (.lor, 1) := by decide +kernel
theorem d1_72 : decode prog_12_method_3_code 72 = .ok (.l2i, 1) := by decide +kernel
theorem d1_73 : decode prog_12_method_3_code 73 = .ok (.i2b, 1) := by decide +kernel
theorem d1_74 : decode prog_12_method_3_code 74 = .ok (.bastore, 1) := by decide +kernel
theorem d1_75 : decode prog_12_method_3_code 75 = .ok (.iload 4, 2) := by decide +kernel
theorem d1_77 : decode prog_12_method_3_code 77 = .ok (.ireturn, 1) := by decide +kernel
set_option maxRecDepth 65536 in
set_option maxHeartbeats 40000000 in
theorem loopW {p : Program} {l : Launch} {e : Env} {R : Room} {s : State} {m : MethodId} {args : Array Value} {below : List Frame} {meth : Method} {c : Code} {cells slots : Nat} {Z : State} {a0 : Array Value} (hw : ∀ d ∈ tables_1, d.before a0 Z = true) (hx : p.tables.exec = Jvm.exec) (hZ : Z.Warmed39 s.vm) (hown : s.vm.findClass "com/example/triplepress/triplepress/container/VByte" = some m.cls) (hby : c.code = prog_12_method_3_code) (hlk : meth.locks = false) (hret : meth.sig.returnType = some .int)
    {a1 : Addr} {p2 : Int32} {v : Int64} {fill : Int32} {h0 : Heap} {n0 A : Nat} (g0 : n0 ≤ a1) (hv : 0 ≤ v.toInt) (hA : p2.toInt = A) (hA7 : A ≤ 7) {C S : Nat} (hC : cells ≤ C) (hS : slots ≤ S) : ∀ (k i : Nat) (T : State) (h : Heap) (locs : List Loc) (en : Int32), i + k = 8 → Stand p l e R s m args below meth c T locs cells slots → T.heap = h → Fr n0 locs → n0 ≤ h.size → en.toInt = ((A + i : Nat) : Int) → (i = 0 ∨ 2 ^ (7 * i) ≤ v.toInt.toNat) → BA Z h a1 .byte 16 (fun j => .int (own_p A i v fill j)) → Go p e below (Pst s (QW Z a1 p2 v fill h0 n0) C S) (T.setTop (mkF m 26 #[.val (.ref a1), .val (.int p2), .val (.long v), .second, .val (.int en), .val (.long (own_sr v i)), .second] [])) := by
  intro k
  induction k with
  | zero =>
    intro i T h locs en hik X0 e0 N0 Z0 hen hlo F0
    obtain rfl : i = 8 := by omega
    have hex := ix hen
    have hsr := own_sr_v hv 8
    have hdn : v.toInt.toNat / 2 ^ (7 * 8) < 128 → v.toInt.toNat < 2 ^ (7 * (8 + 1)) := fun q => by
      have e : 2 ^ (7 * (8 + 1)) = 128 * 2 ^ (7 * 8) := by rw [Nat.mul_add, Nat.pow_add, Nat.mul_comm]
      rw [e]
      exact (Nat.div_lt_iff_lt_mul (Nat.pow_pos (by decide))).mp q
    have hup : ¬ v.toInt.toNat / 2 ^ (7 * 8) < 128 → 2 ^ (7 * (8 + 1)) ≤ v.toInt.toNat := fun q => by
      have e : 2 ^ (7 * (8 + 1)) = 128 * 2 ^ (7 * 8) := by rw [Nat.mul_add, Nat.pow_add, Nat.mul_comm]
      rw [e]
      exact (Nat.le_div_iff_mul_le (Nat.pow_pos (by decide))).mp (by omega)
    have z128 : (128 : Int64).toInt = 128 := by decide
    have hlt : v.toInt.toNat / 2 ^ (7 * 8) < 128 := by
      have := rng64 v
      have e : (2 ^ (7 * 8) : Nat) = 72057594037927936 := by decide
      rw [e]
      omega
    have hlt' : ((v.toInt.toNat / 2 ^ (7 * 8) : Nat) : Int) < 128 := by omega
    have hltI : (own_sr v 8) < (128 : Int64) := Int64.lt_iff_toInt_lt.mpr (by rw [hsr, z128]; exact hlt')
    refine Go.on (fun t k => XS.lload X0.here hx rfl (hb hby d1_26) rfl k) ?_
    show Go p e below _ (T.setTop (mkF m 28 #[.val (.ref a1), .val (.int p2), .val (.long v), .second, .val (.int en), .val (.long (own_sr v 8)), .second] [(.long (own_sr v 8))]))
    refine Go.on (fun t k => X0.ldc2Long hx hown (mvT hZ (hw _ (List.mem_of_getElem? (i := 6) rfl))) (g := (mkF m 28 #[.val (.ref a1), .val (.int p2), .val (.long v), .second, .val (.int en), .val (.long (own_sr v 8)), .second] [(.long (own_sr v 8))])) rfl (hb hby d1_28) _ k) ?_
    show Go p e below _ (T.setTop (mkF m 31 #[.val (.ref a1), .val (.int p2), .val (.long v), .second, .val (.int en), .val (.long (own_sr v 8)), .second] [(.long (128 : Int64)), (.long (own_sr v 8))]))
    refine Go.on (fun t k => XS.lcmp X0.here hx rfl (hb hby d1_31) rfl k) ?_
    show Go p e below _ (T.setTop (mkF m 32 #[.val (.ref a1), .val (.int p2), .val (.long v), .second, .val (.int en), .val (.long (own_sr v 8)), .second] [(.int (lcmpW (own_sr v 8) (128 : Int64)))]))
    refine Go.on (fun t k => XS.ifYes X0.here hx rfl (pc0 := 32) (pc' := 60) rfl (hb hby d1_32) rfl ((if0 _ _).trans (tlt ((lw_lt _ _).mpr hltI)).1) (by decide) (by decide) k) ?_
    show Go p e below _ (T.setTop (mkF m 60 #[.val (.ref a1), .val (.int p2), .val (.long v), .second, .val (.int en), .val (.long (own_sr v 8)), .second] []))
    refine Go.on (fun t k => XS.aloadN X0.here hx rfl (hb hby d1_60) rfl rfl k) ?_
    show Go p e below _ (T.setTop (mkF m 61 #[.val (.ref a1), .val (.int p2), .val (.long v), .second, .val (.int en), .val (.long (own_sr v 8)), .second] [(.ref a1)]))
    refine Go.on (fun t k => XS.iload X0.here hx rfl (hb hby d1_61) rfl k) ?_
    show Go p e below _ (T.setTop (mkF m 63 #[.val (.ref a1), .val (.int p2), .val (.long v), .second, .val (.int en), .val (.long (own_sr v 8)), .second] [(.int en), (.ref a1)]))
    refine Go.on (fun t k => XS.iinc X0.here hx rfl (hb hby d1_63) rfl (l' := #[.val (.ref a1), .val (.int p2), .val (.long v), .second, .val (.int (en + (1 : Int32))), .val (.long (own_sr v 8)), .second]) rfl k) ?_
    show Go p e below _ (T.setTop (mkF m 66 #[.val (.ref a1), .val (.int p2), .val (.long v), .second, .val (.int (en + (1 : Int32))), .val (.long (own_sr v 8)), .second] [(.int en), (.ref a1)]))
    refine Go.on (fun t k => XS.lload X0.here hx rfl (hb hby d1_66) rfl k) ?_
    show Go p e below _ (T.setTop (mkF m 68 #[.val (.ref a1), .val (.int p2), .val (.long v), .second, .val (.int (en + (1 : Int32))), .val (.long (own_sr v 8)), .second] [(.long (own_sr v 8)), (.int en), (.ref a1)]))
    refine Go.on (fun t k => X0.ldc2Long hx hown (mvT hZ (hw _ (List.mem_of_getElem? (i := 6) rfl))) (g := (mkF m 68 #[.val (.ref a1), .val (.int p2), .val (.long v), .second, .val (.int (en + (1 : Int32))), .val (.long (own_sr v 8)), .second] [(.long (own_sr v 8)), (.int en), (.ref a1)])) rfl (hb hby d1_68) _ k) ?_
    show Go p e below _ (T.setTop (mkF m 71 #[.val (.ref a1), .val (.int p2), .val (.long v), .second, .val (.int (en + (1 : Int32))), .val (.long (own_sr v 8)), .second] [(.long (128 : Int64)), (.long (own_sr v 8)), (.int en), (.ref a1)]))
    refine Go.on (fun t k => XS.lor X0.here hx rfl (hb hby d1_71) rfl k) ?_
    show Go p e below _ (T.setTop (mkF m 72 #[.val (.ref a1), .val (.int p2), .val (.long v), .second, .val (.int (en + (1 : Int32))), .val (.long (own_sr v 8)), .second] [(.long ((own_sr v 8) ||| (128 : Int64))), (.int en), (.ref a1)]))
    refine Go.on (fun t k => XS.l2i X0.here hx rfl (hb hby d1_72) rfl k) ?_
    show Go p e below _ (T.setTop (mkF m 73 #[.val (.ref a1), .val (.int p2), .val (.long v), .second, .val (.int (en + (1 : Int32))), .val (.long (own_sr v 8)), .second] [(.int (((own_sr v 8) ||| (128 : Int64)).toInt32)), (.int en), (.ref a1)]))
    refine Go.on (fun t k => XS.i2b X0.here hx rfl (hb hby d1_73) rfl k) ?_
    show Go p e below _ (T.setTop (mkF m 74 #[.val (.ref a1), .val (.int p2), .val (.long v), .second, .val (.int (en + (1 : Int32))), .val (.long (own_sr v 8)), .second] [(.int ((((own_sr v 8) ||| (128 : Int64)).toInt32).toInt8.toInt32)), (.int en), (.ref a1)]))
    refine Go.stB X0 hx hZ e0 F0 (i := A + 8) hex.1 hex.2 (by omega) (hb hby d1_74) ?_
    intro T1 h1 X1 e1 W1 F1
    have N1 := Fr.snoc X1 N0 g0
    show Go p e below _ (T1.setTop (mkF m 75 #[.val (.ref a1), .val (.int p2), .val (.long v), .second, .val (.int (en + (1 : Int32))), .val (.long (own_sr v 8)), .second] []))
    refine Go.on (fun t k => XS.iload X1.here hx rfl (hb hby d1_75) rfl k) ?_
    show Go p e below _ (T1.setTop (mkF m 77 #[.val (.ref a1), .val (.int p2), .val (.long v), .second, .val (.int (en + (1 : Int32))), .val (.long (own_sr v 8)), .second] [(.int (en + (1 : Int32)))]))
    have hl := own_len_is v hv 8 (by omega) hlo (hdn hlt)
    have hE : (en + (1 : Int32)) = p2 + own_len v := by
      apply Int32.toInt_inj.mp
      rw [own_addn 1 1 (by decide) hen (by omega), hl, own_addn _ (8 + 1) (own_ofNat (by omega)) hA (by omega)]
      all_goals omega
    exact Go.retI X1 hx hlk hret (hb hby d1_77) hC hS (show QW Z a1 p2 v fill h0 n0 _ _ _ from ⟨by rw [hE], N1, by rw [e1, W1.size]; exact Z0, by rw [e1]; exact F1.fn (fun j hj => own_final hA hA7 v hv 8 (by omega) hl (by rw [own_sr_v hv]; exact hlt') fill j hj)⟩)
  | succ k ih =>
    intro i T h locs en hik X0 e0 N0 Z0 hen hlo F0
    have hex := ix hen
    have hsr := own_sr_v hv i
    have hdn : v.toInt.toNat / 2 ^ (7 * i) < 128 → v.toInt.toNat < 2 ^ (7 * (i + 1)) := fun q => by
      have e : 2 ^ (7 * (i + 1)) = 128 * 2 ^ (7 * i) := by rw [Nat.mul_add, Nat.pow_add, Nat.mul_comm]
      rw [e]
      exact (Nat.div_lt_iff_lt_mul (Nat.pow_pos (by decide))).mp q
    have hup : ¬ v.toInt.toNat / 2 ^ (7 * i) < 128 → 2 ^ (7 * (i + 1)) ≤ v.toInt.toNat := fun q => by
      have e : 2 ^ (7 * (i + 1)) = 128 * 2 ^ (7 * i) := by rw [Nat.mul_add, Nat.pow_add, Nat.mul_comm]
      rw [e]
      exact (Nat.le_div_iff_mul_le (Nat.pow_pos (by decide))).mp (by omega)
    have z128 : (128 : Int64).toInt = 128 := by decide
    by_cases hlt : v.toInt.toNat / 2 ^ (7 * i) < 128
    · have hlt' : ((v.toInt.toNat / 2 ^ (7 * i) : Nat) : Int) < 128 := by omega
      have hltI : (own_sr v i) < (128 : Int64) := Int64.lt_iff_toInt_lt.mpr (by rw [hsr, z128]; exact hlt')
      refine Go.on (fun t k => XS.lload X0.here hx rfl (hb hby d1_26) rfl k) ?_
      show Go p e below _ (T.setTop (mkF m 28 #[.val (.ref a1), .val (.int p2), .val (.long v), .second, .val (.int en), .val (.long (own_sr v i)), .second] [(.long (own_sr v i))]))
      refine Go.on (fun t k => X0.ldc2Long hx hown (mvT hZ (hw _ (List.mem_of_getElem? (i := 6) rfl))) (g := (mkF m 28 #[.val (.ref a1), .val (.int p2), .val (.long v), .second, .val (.int en), .val (.long (own_sr v i)), .second] [(.long (own_sr v i))])) rfl (hb hby d1_28) _ k) ?_
      show Go p e below _ (T.setTop (mkF m 31 #[.val (.ref a1), .val (.int p2), .val (.long v), .second, .val (.int en), .val (.long (own_sr v i)), .second] [(.long (128 : Int64)), (.long (own_sr v i))]))
      refine Go.on (fun t k => XS.lcmp X0.here hx rfl (hb hby d1_31) rfl k) ?_
      show Go p e below _ (T.setTop (mkF m 32 #[.val (.ref a1), .val (.int p2), .val (.long v), .second, .val (.int en), .val (.long (own_sr v i)), .second] [(.int (lcmpW (own_sr v i) (128 : Int64)))]))
      refine Go.on (fun t k => XS.ifYes X0.here hx rfl (pc0 := 32) (pc' := 60) rfl (hb hby d1_32) rfl ((if0 _ _).trans (tlt ((lw_lt _ _).mpr hltI)).1) (by decide) (by decide) k) ?_
      show Go p e below _ (T.setTop (mkF m 60 #[.val (.ref a1), .val (.int p2), .val (.long v), .second, .val (.int en), .val (.long (own_sr v i)), .second] []))
      refine Go.on (fun t k => XS.aloadN X0.here hx rfl (hb hby d1_60) rfl rfl k) ?_
      show Go p e below _ (T.setTop (mkF m 61 #[.val (.ref a1), .val (.int p2), .val (.long v), .second, .val (.int en), .val (.long (own_sr v i)), .second] [(.ref a1)]))
      refine Go.on (fun t k => XS.iload X0.here hx rfl (hb hby d1_61) rfl k) ?_
      show Go p e below _ (T.setTop (mkF m 63 #[.val (.ref a1), .val (.int p2), .val (.long v), .second, .val (.int en), .val (.long (own_sr v i)), .second] [(.int en), (.ref a1)]))
      refine Go.on (fun t k => XS.iinc X0.here hx rfl (hb hby d1_63) rfl (l' := #[.val (.ref a1), .val (.int p2), .val (.long v), .second, .val (.int (en + (1 : Int32))), .val (.long (own_sr v i)), .second]) rfl k) ?_
      show Go p e below _ (T.setTop (mkF m 66 #[.val (.ref a1), .val (.int p2), .val (.long v), .second, .val (.int (en + (1 : Int32))), .val (.long (own_sr v i)), .second] [(.int en), (.ref a1)]))
      refine Go.on (fun t k => XS.lload X0.here hx rfl (hb hby d1_66) rfl k) ?_
      show Go p e below _ (T.setTop (mkF m 68 #[.val (.ref a1), .val (.int p2), .val (.long v), .second, .val (.int (en + (1 : Int32))), .val (.long (own_sr v i)), .second] [(.long (own_sr v i)), (.int en), (.ref a1)]))
      refine Go.on (fun t k => X0.ldc2Long hx hown (mvT hZ (hw _ (List.mem_of_getElem? (i := 6) rfl))) (g := (mkF m 68 #[.val (.ref a1), .val (.int p2), .val (.long v), .second, .val (.int (en + (1 : Int32))), .val (.long (own_sr v i)), .second] [(.long (own_sr v i)), (.int en), (.ref a1)])) rfl (hb hby d1_68) _ k) ?_
      show Go p e below _ (T.setTop (mkF m 71 #[.val (.ref a1), .val (.int p2), .val (.long v), .second, .val (.int (en + (1 : Int32))), .val (.long (own_sr v i)), .second] [(.long (128 : Int64)), (.long (own_sr v i)), (.int en), (.ref a1)]))
      refine Go.on (fun t k => XS.lor X0.here hx rfl (hb hby d1_71) rfl k) ?_
      show Go p e below _ (T.setTop (mkF m 72 #[.val (.ref a1), .val (.int p2), .val (.long v), .second, .val (.int (en + (1 : Int32))), .val (.long (own_sr v i)), .second] [(.long ((own_sr v i) ||| (128 : Int64))), (.int en), (.ref a1)]))
      refine Go.on (fun t k => XS.l2i X0.here hx rfl (hb hby d1_72) rfl k) ?_
      show Go p e below _ (T.setTop (mkF m 73 #[.val (.ref a1), .val (.int p2), .val (.long v), .second, .val (.int (en + (1 : Int32))), .val (.long (own_sr v i)), .second] [(.int (((own_sr v i) ||| (128 : Int64)).toInt32)), (.int en), (.ref a1)]))
      refine Go.on (fun t k => XS.i2b X0.here hx rfl (hb hby d1_73) rfl k) ?_
      show Go p e below _ (T.setTop (mkF m 74 #[.val (.ref a1), .val (.int p2), .val (.long v), .second, .val (.int (en + (1 : Int32))), .val (.long (own_sr v i)), .second] [(.int ((((own_sr v i) ||| (128 : Int64)).toInt32).toInt8.toInt32)), (.int en), (.ref a1)]))
      refine Go.stB X0 hx hZ e0 F0 (i := A + i) hex.1 hex.2 (by omega) (hb hby d1_74) ?_
      intro T1 h1 X1 e1 W1 F1
      have N1 := Fr.snoc X1 N0 g0
      show Go p e below _ (T1.setTop (mkF m 75 #[.val (.ref a1), .val (.int p2), .val (.long v), .second, .val (.int (en + (1 : Int32))), .val (.long (own_sr v i)), .second] []))
      refine Go.on (fun t k => XS.iload X1.here hx rfl (hb hby d1_75) rfl k) ?_
      show Go p e below _ (T1.setTop (mkF m 77 #[.val (.ref a1), .val (.int p2), .val (.long v), .second, .val (.int (en + (1 : Int32))), .val (.long (own_sr v i)), .second] [(.int (en + (1 : Int32)))]))
      have hl := own_len_is v hv i (by omega) hlo (hdn hlt)
      have hE : (en + (1 : Int32)) = p2 + own_len v := by
        apply Int32.toInt_inj.mp
        rw [own_addn 1 1 (by decide) hen (by omega), hl, own_addn _ (i + 1) (own_ofNat (by omega)) hA (by omega)]
        all_goals omega
      exact Go.retI X1 hx hlk hret (hb hby d1_77) hC hS (show QW Z a1 p2 v fill h0 n0 _ _ _ from ⟨by rw [hE], N1, by rw [e1, W1.size]; exact Z0, by rw [e1]; exact F1.fn (fun j hj => own_final hA hA7 v hv i (by omega) hl (by rw [own_sr_v hv]; exact hlt') fill j hj)⟩)
    · have hnot := hlt
      have hltI : ¬ (own_sr v i) < (128 : Int64) := fun q => by
        have := Int64.lt_iff_toInt_lt.mp q
        rw [hsr, z128] at this
        omega
      refine Go.on (fun t k => XS.lload X0.here hx rfl (hb hby d1_26) rfl k) ?_
      show Go p e below _ (T.setTop (mkF m 28 #[.val (.ref a1), .val (.int p2), .val (.long v), .second, .val (.int en), .val (.long (own_sr v i)), .second] [(.long (own_sr v i))]))
      refine Go.on (fun t k => X0.ldc2Long hx hown (mvT hZ (hw _ (List.mem_of_getElem? (i := 6) rfl))) (g := (mkF m 28 #[.val (.ref a1), .val (.int p2), .val (.long v), .second, .val (.int en), .val (.long (own_sr v i)), .second] [(.long (own_sr v i))])) rfl (hb hby d1_28) _ k) ?_
      show Go p e below _ (T.setTop (mkF m 31 #[.val (.ref a1), .val (.int p2), .val (.long v), .second, .val (.int en), .val (.long (own_sr v i)), .second] [(.long (128 : Int64)), (.long (own_sr v i))]))
      refine Go.on (fun t k => XS.lcmp X0.here hx rfl (hb hby d1_31) rfl k) ?_
      show Go p e below _ (T.setTop (mkF m 32 #[.val (.ref a1), .val (.int p2), .val (.long v), .second, .val (.int en), .val (.long (own_sr v i)), .second] [(.int (lcmpW (own_sr v i) (128 : Int64)))]))
      refine Go.on (fun t k => XS.ifNo X0.here hx rfl (hb hby d1_32) rfl ((if0 _ _).trans (flt (fun q => hltI ((lw_lt _ _).mp q))).1) k) ?_
      show Go p e below _ (T.setTop (mkF m 35 #[.val (.ref a1), .val (.int p2), .val (.long v), .second, .val (.int en), .val (.long (own_sr v i)), .second] []))
      refine Go.on (fun t k => XS.aloadN X0.here hx rfl (hb hby d1_35) rfl rfl k) ?_
      show Go p e below _ (T.setTop (mkF m 36 #[.val (.ref a1), .val (.int p2), .val (.long v), .second, .val (.int en), .val (.long (own_sr v i)), .second] [(.ref a1)]))
      refine Go.on (fun t k => XS.iload X0.here hx rfl (hb hby d1_36) rfl k) ?_
      show Go p e below _ (T.setTop (mkF m 38 #[.val (.ref a1), .val (.int p2), .val (.long v), .second, .val (.int en), .val (.long (own_sr v i)), .second] [(.int en), (.ref a1)]))
      refine Go.on (fun t k => XS.iinc X0.here hx rfl (hb hby d1_38) rfl (l' := #[.val (.ref a1), .val (.int p2), .val (.long v), .second, .val (.int (en + (1 : Int32))), .val (.long (own_sr v i)), .second]) rfl k) ?_
      show Go p e below _ (T.setTop (mkF m 41 #[.val (.ref a1), .val (.int p2), .val (.long v), .second, .val (.int (en + (1 : Int32))), .val (.long (own_sr v i)), .second] [(.int en), (.ref a1)]))
      refine Go.on (fun t k => XS.lload X0.here hx rfl (hb hby d1_41) rfl k) ?_
      show Go p e below _ (T.setTop (mkF m 43 #[.val (.ref a1), .val (.int p2), .val (.long v), .second, .val (.int (en + (1 : Int32))), .val (.long (own_sr v i)), .second] [(.long (own_sr v i)), (.int en), (.ref a1)]))
      refine Go.on (fun t k => X0.ldc2Long hx hown (mvT hZ (hw _ (List.mem_of_getElem? (i := 16) rfl))) (g := (mkF m 43 #[.val (.ref a1), .val (.int p2), .val (.long v), .second, .val (.int (en + (1 : Int32))), .val (.long (own_sr v i)), .second] [(.long (own_sr v i)), (.int en), (.ref a1)])) rfl (hb hby d1_43) _ k) ?_
      show Go p e below _ (T.setTop (mkF m 46 #[.val (.ref a1), .val (.int p2), .val (.long v), .second, .val (.int (en + (1 : Int32))), .val (.long (own_sr v i)), .second] [(.long (127 : Int64)), (.long (own_sr v i)), (.int en), (.ref a1)]))
      refine Go.on (fun t k => XS.land X0.here hx rfl (hb hby d1_46) rfl k) ?_
      show Go p e below _ (T.setTop (mkF m 47 #[.val (.ref a1), .val (.int p2), .val (.long v), .second, .val (.int (en + (1 : Int32))), .val (.long (own_sr v i)), .second] [(.long ((own_sr v i) &&& (127 : Int64))), (.int en), (.ref a1)]))
      refine Go.on (fun t k => XS.l2i X0.here hx rfl (hb hby d1_47) rfl k) ?_
      show Go p e below _ (T.setTop (mkF m 48 #[.val (.ref a1), .val (.int p2), .val (.long v), .second, .val (.int (en + (1 : Int32))), .val (.long (own_sr v i)), .second] [(.int (((own_sr v i) &&& (127 : Int64)).toInt32)), (.int en), (.ref a1)]))
      refine Go.on (fun t k => XS.i2b X0.here hx rfl (hb hby d1_48) rfl k) ?_
      show Go p e below _ (T.setTop (mkF m 49 #[.val (.ref a1), .val (.int p2), .val (.long v), .second, .val (.int (en + (1 : Int32))), .val (.long (own_sr v i)), .second] [(.int ((((own_sr v i) &&& (127 : Int64)).toInt32).toInt8.toInt32)), (.int en), (.ref a1)]))
      refine Go.stB X0 hx hZ e0 F0 (i := A + i) hex.1 hex.2 (by omega) (hb hby d1_49) ?_
      intro T1 h1 X1 e1 W1 F1
      have N1 := Fr.snoc X1 N0 g0
      show Go p e below _ (T1.setTop (mkF m 50 #[.val (.ref a1), .val (.int p2), .val (.long v), .second, .val (.int (en + (1 : Int32))), .val (.long (own_sr v i)), .second] []))
      refine Go.on (fun t k => XS.lload X1.here hx rfl (hb hby d1_50) rfl k) ?_
      show Go p e below _ (T1.setTop (mkF m 52 #[.val (.ref a1), .val (.int p2), .val (.long v), .second, .val (.int (en + (1 : Int32))), .val (.long (own_sr v i)), .second] [(.long (own_sr v i))]))
      refine Go.on (fun t k => XS.bipush X1.here hx rfl (hb hby d1_52) k) ?_
      show Go p e below _ (T1.setTop (mkF m 54 #[.val (.ref a1), .val (.int p2), .val (.long v), .second, .val (.int (en + (1 : Int32))), .val (.long (own_sr v i)), .second] [(.int (7 : Int32)), (.long (own_sr v i))]))
      refine Go.on (fun t k => XS.lushr X1.here hx rfl (hb hby d1_54) rfl k) ?_
      show Go p e below _ (T1.setTop (mkF m 55 #[.val (.ref a1), .val (.int p2), .val (.long v), .second, .val (.int (en + (1 : Int32))), .val (.long (own_sr v i)), .second] [(.long (ushrJ (own_sr v i) (7 : Int32)))]))
      refine Go.on (fun t k => XS.lstore X1.here hx rfl (hb hby d1_55) rfl (l' := #[.val (.ref a1), .val (.int p2), .val (.long v), .second, .val (.int (en + (1 : Int32))), .val (.long (ushrJ (own_sr v i) (7 : Int32))), .second]) rfl k) ?_
      show Go p e below _ (T1.setTop (mkF m 57 #[.val (.ref a1), .val (.int p2), .val (.long v), .second, .val (.int (en + (1 : Int32))), .val (.long (ushrJ (own_sr v i) (7 : Int32))), .second] []))
      refine Go.on (fun t k => XS.goto X1.here hx rfl (pc0 := 57) (pc' := 26) rfl (hb hby d1_57) (by decide) (by decide) k) ?_
      show Go p e below _ (T1.setTop (mkF m 26 #[.val (.ref a1), .val (.int p2), .val (.long v), .second, .val (.int (en + (1 : Int32))), .val (.long (ushrJ (own_sr v i) (7 : Int32))), .second] []))
      rw [own_srs]
      have hen' : (en + (1 : Int32)).toInt = ((A + i + 1 : Nat) : Int) := own_addn 1 1 (by decide) hen (by omega)
      exact ih (i + 1) T1 h1 _ _ (by omega) X1 e1 N1 (by rw [W1.size]; exact Z0) hen' (Or.inr (hup hnot)) (F1.fn (fun j _ => own_turn v fill j))
theorem pn_1 : plainFor (⟨"com/example/triplepress/triplepress/container/VByte", "write", "([BIJ)I"⟩ : MethodName) = true := by first | exact plainFor_of_name (by first | (simp [plainName, overriddenIn]; done) | decide +kernel) | decide +kernel
theorem ef_1 (m : MethodId) (x0 : Addr) (x1 : Int32) (x2 : Int64) : entryFrame m #[(.ref x0), (.int x1), (.long x2)] 7 = mkF m 0 #[.val (.ref x0), .val (.int x1), .val (.long x2), .second, .unset, .unset, .unset] [] := by first | (simp [entryFrame, mkF, argsToLocals, Value.category]; done) | rfl
set_option maxRecDepth 65536 in
set_option maxHeartbeats 40000000 in
theorem rm1 (l : Launch) (Z : State) (a0 : Array Value) (hw : ∀ d ∈ tables_1, d.before a0 Z = true) (ws : List Jvm.Cond) (a1 : Addr) (p2 : Int32) (vl : Int64) (fill : Int32) (A : Nat) (h0 : Heap) (n0 : Nat) (Z0 : n0 ≤ h0.size) (g0 : n0 ≤ a1) (hv : 0 ≤ vl.toInt) (hA : p2.toInt = A) (hA7 : A ≤ 7) (F0 : BA Z h0 a1 .byte 16 (fun _ => .int fill)) :
    MetFree l (⟨"com/example/triplepress/triplepress/container/VByte", "write", "([BIJ)I"⟩ : MethodName) (head1 (Jvm.Cond.code (⟨"com/example/triplepress/triplepress/container/VByte", "write", "([BIJ)I"⟩ : MethodName) prog_12_method_3_code 7 (some .int) :: ws) ({ frames := 0, cells := 0, slots := 0, locals := 0 } : Room)) (fun a U => a = #[(.ref a1), (.int p2), (.long vl)] ∧ Z.Warmed39 U.vm ∧ U.heap = h0) (fun _ _ _ _ _ => True) (fun _ U o U' => ∃ v L, o = .returned v ∧ QW Z a1 p2 vl fill h0 n0 v U'.heap L ∧ FrameEnd U o U' L ({ frames := 0, cells := 0, slots := 0, locals := 0 } : Room).cells ({ frames := 0, cells := 0, slots := 0, locals := 0 } : Room).slots) := by
  refine MetFree.of_bodySF pn_1 hisR ?_
  intro p e s m args below meth c s₁ Bd hml0 hP hK
  obtain ⟨rfl, hZ, hh⟩ := hP
  have hx := Bd.exec
  have hby := Bd.bytes
  have hlk := Bd.notSynchronized
  have hret := Bd.returns
  have hml : c.maxLocals = 7 := hml0
  have hown : s.vm.findClass "com/example/triplepress/triplepress/container/VByte" = some m.cls := findClass_of_methodNamed Bd.named
  have hnm := (name_of_methodNamed Bd.named Bd.method).1
  have X0 : Stand p l e ({ frames := 0, cells := 0, slots := 0, locals := 0 } : Room) s m #[(.ref a1), (.int p2), (.long vl)] below meth c s₁ [] 0 0 := Stand.of_body Bd
  have e0 : s₁.heap = h0 := by rw [← hh, Bd.state]; rfl
  have N0 := Fr.nil n0
  have hv0 : ¬ vl < (0 : Int64) := fun q => by
    have := Int64.lt_iff_toInt_lt.mp q
    have z : (0 : Int64).toInt = 0 := by decide
    omega
  show Go p e below (Pst s (QW Z a1 p2 vl fill h0 n0) ({ frames := 0, cells := 0, slots := 0, locals := 0 } : Room).cells ({ frames := 0, cells := 0, slots := 0, locals := 0 } : Room).slots) (s₁.setTop (entryFrame m #[(.ref a1), (.int p2), (.long vl)] 7))
  refine Go.on (fun t k => castTop (ef_1 m a1 p2 vl) k) ?_
  show Go p e below _ (s₁.setTop (mkF m 0 #[.val (.ref a1), .val (.int p2), .val (.long vl), .second, .unset, .unset, .unset] []))
  refine Go.on (fun t k => XS.lloadN X0.here hx rfl (hb hby d1_0) rfl k) ?_
  show Go p e below _ (s₁.setTop (mkF m 1 #[.val (.ref a1), .val (.int p2), .val (.long vl), .second, .unset, .unset, .unset] [(.long vl)]))
  refine Go.on (fun t k => XS.lconst X0.here hx rfl (hb hby d1_1) k) ?_
  show Go p e below _ (s₁.setTop (mkF m 2 #[.val (.ref a1), .val (.int p2), .val (.long vl), .second, .unset, .unset, .unset] [(.long (0 : Int64)), (.long vl)]))
  refine Go.on (fun t k => XS.lcmp X0.here hx rfl (hb hby d1_2) rfl k) ?_
  show Go p e below _ (s₁.setTop (mkF m 3 #[.val (.ref a1), .val (.int p2), .val (.long vl), .second, .unset, .unset, .unset] [(.int (lcmpW vl (0 : Int64)))]))
  refine Go.on (fun t k => XS.ifYes X0.here hx rfl (pc0 := 3) (pc' := 20) rfl (hb hby d1_3) rfl ((if0 _ _).trans (flt (fun q => hv0 ((lw_lt _ _).mp q))).2.1) (by decide) (by decide) k) ?_
  show Go p e below _ (s₁.setTop (mkF m 20 #[.val (.ref a1), .val (.int p2), .val (.long vl), .second, .unset, .unset, .unset] []))
  refine Go.on (fun t k => XS.iloadN X0.here hx rfl (hb hby d1_20) rfl k) ?_
  show Go p e below _ (s₁.setTop (mkF m 21 #[.val (.ref a1), .val (.int p2), .val (.long vl), .second, .unset, .unset, .unset] [(.int p2)]))
  refine Go.on (fun t k => XS.istore X0.here hx rfl (hb hby d1_21) rfl (l' := #[.val (.ref a1), .val (.int p2), .val (.long vl), .second, .val (.int p2), .unset, .unset]) rfl k) ?_
  show Go p e below _ (s₁.setTop (mkF m 23 #[.val (.ref a1), .val (.int p2), .val (.long vl), .second, .val (.int p2), .unset, .unset] []))
  refine Go.on (fun t k => XS.lloadN X0.here hx rfl (hb hby d1_23) rfl k) ?_
  show Go p e below _ (s₁.setTop (mkF m 24 #[.val (.ref a1), .val (.int p2), .val (.long vl), .second, .val (.int p2), .unset, .unset] [(.long vl)]))
  refine Go.on (fun t k => XS.lstore X0.here hx rfl (hb hby d1_24) rfl (l' := #[.val (.ref a1), .val (.int p2), .val (.long vl), .second, .val (.int p2), .val (.long vl), .second]) rfl k) ?_
  show Go p e below _ (s₁.setTop (mkF m 26 #[.val (.ref a1), .val (.int p2), .val (.long vl), .second, .val (.int p2), .val (.long vl), .second] []))
  have hs0 := own_sr0 vl
  have hgo := loopW (fill := fill) (h0 := h0) hw hx hZ hown hby hlk hret g0 hv hA hA7 (Nat.le_refl 0) (Nat.le_refl 0) 8 0 s₁ h0 [] p2 rfl X0 e0 N0 Z0 hA (Or.inl rfl) (F0.fn (fun j hj => by unfold own_p; rw [if_neg (by omega)]))
  rw [hs0] at hgo
  exact hgo
def QE (v : Int64) (h0 : Heap) (n0 : Nat) (w : Option Value) (h : Heap) (L : List Loc) : Prop := w = some (.int (own_len v)) ∧ Fr n0 L ∧ h = h0
theorem d2_0 : decode method_2_code 0 = .ok (.lload_n 0, 1) := by decide +kernel
theorem d2_1 : decode method_2_code 1 = .ok (.ldc2_w 7, 3) := by decide +kernel
theorem d2_4 : decode method_2_code 4 = .ok (.lcmp, 1) := by decide +kernel
theorem d2_5 : decode method_2_code 5 = .ok (.ifCond .ge 5, 3) := by decide +kernel
theorem d2_8 : decode method_2_code 8 = .ok (.iconst 1, 1) := by decide +kernel
theorem d2_9 : decode method_2_code 9 = .ok (.ireturn, 1) := by decide +kernel
theorem d2_10 : decode method_2_code 10 = .ok (.lload_n 0, 1) := by decide +kernel
theorem d2_11 : decode method_2_code 11 = .ok (.ldc2_w 9, 3) := by decide +kernel
theorem d2_14 : decode method_2_code 14 = .ok (.lcmp, 1) := by decide +kernel
theorem d2_15 : decode method_2_code 15 = .ok (.ifCond .ge 5, 3) := by decide +kernel
theorem d2_18 : decode method_2_code 18 = .ok (.iconst 2, 1) := by decide +kernel
theorem d2_19 : decode method_2_code 19 = .ok (.ireturn, 1) := by decide +kernel
theorem d2_20 : decode method_2_code 20 = .ok (.lload_n 0, 1) := by decide +kernel
theorem d2_21 : decode method_2_code 21 = .ok (.ldc2_w 11, 3) := by decide +kernel
theorem d2_24 : decode method_2_code 24 = .ok (.lcmp, 1) := by decide +kernel
theorem d2_25 : decode method_2_code 25 = .ok (.ifCond .ge 5, 3) := by decide +kernel
theorem d2_28 : decode method_2_code 28 = .ok (.iconst 3, 1) := by decide +kernel
theorem d2_29 : decode method_2_code 29 = .ok (.ireturn, 1) := by decide +kernel
theorem d2_30 : decode method_2_code 30 = .ok (.lload_n 0, 1) := by decide +kernel
theorem d2_31 : decode method_2_code 31 = .ok (.ldc2_w 13, 3) := by decide +kernel
theorem d2_34 : decode method_2_code 34 = .ok (.lcmp, 1) := by decide +kernel
theorem d2_35 : decode method_2_code 35 = .ok (.ifCond .ge 5, 3) := by decide +kernel
theorem d2_38 : decode method_2_code 38 = .ok (.iconst 4, 1) := by decide +kernel
theorem d2_39 : decode method_2_code 39 = .ok (.ireturn, 1) := by decide +kernel
theorem d2_40 : decode method_2_code 40 = .ok (.lload_n 0, 1) := by decide +kernel
theorem d2_41 : decode method_2_code 41 = .ok (.ldc2_w 15, 3) := by decide +kernel
theorem d2_44 : decode method_2_code 44 = .ok (.lcmp, 1) := by decide +kernel
theorem d2_45 : decode method_2_code 45 = .ok (.ifCond .ge 5, 3) := by decide +kernel
theorem d2_48 : decode method_2_code 48 = .ok (.iconst 5, 1) := by decide +kernel
theorem d2_49 : decode method_2_code 49 = .ok (.ireturn, 1) := by decide +kernel
theorem d2_50 : decode method_2_code 50 = .ok (.lload_n 0, 1) := by decide +kernel
theorem d2_51 : decode method_2_code 51 = .ok (.ldc2_w 17, 3) := by decide +kernel
theorem d2_54 : decode method_2_code 54 = .ok (.lcmp, 1) := by decide +kernel
theorem d2_55 : decode method_2_code 55 = .ok (.ifCond .ge 6, 3) := by decide +kernel
theorem d2_58 : decode method_2_code 58 = .ok (.bipush 6, 2) := by decide +kernel
theorem d2_60 : decode method_2_code 60 = .ok (.ireturn, 1) := by decide +kernel
theorem d2_61 : decode method_2_code 61 = .ok (.lload_n 0, 1) := by decide +kernel
theorem d2_62 : decode method_2_code 62 = .ok (.ldc2_w 19, 3) := by decide +kernel
theorem d2_65 : decode method_2_code 65 = .ok (.lcmp, 1) := by decide +kernel
theorem d2_66 : decode method_2_code 66 = .ok (.ifCond .ge 6, 3) := by decide +kernel
theorem d2_69 : decode method_2_code 69 = .ok (.bipush 7, 2) := by decide +kernel
theorem d2_71 : decode method_2_code 71 = .ok (.ireturn, 1) := by decide +kernel
theorem d2_72 : decode method_2_code 72 = .ok (.lload_n 0, 1) := by decide +kernel
theorem d2_73 : decode method_2_code 73 = .ok (.ldc2_w 21, 3) := by decide +kernel
theorem d2_76 : decode method_2_code 76 = .ok (.lcmp, 1) := by decide +kernel
theorem d2_77 : decode method_2_code 77 = .ok (.ifCond .ge 6, 3) := by decide +kernel
theorem d2_80 : decode method_2_code 80 = .ok (.bipush 8, 2) := by decide +kernel
theorem d2_82 : decode method_2_code 82 = .ok (.ireturn, 1) := by decide +kernel
theorem d2_83 : decode method_2_code 83 = .ok (.bipush 9, 2) := by decide +kernel
theorem d2_85 : decode method_2_code 85 = .ok (.ireturn, 1) := by decide +kernel
theorem pn_2 : plainFor (⟨"com/example/triplepress/triplepress/container/VByteWritePinLaw", "expectedLength", "(J)I"⟩ : MethodName) = true := by first | exact plainFor_of_name (by first | (simp [plainName, overriddenIn]; done) | decide +kernel) | decide +kernel
theorem ef_2 (m : MethodId) (x0 : Int64) : entryFrame m #[(.long x0)] 2 = mkF m 0 #[.val (.long x0), .second] [] := by first | (simp [entryFrame, mkF, argsToLocals, Value.category]; done) | rfl
set_option maxRecDepth 65536 in
set_option maxHeartbeats 40000000 in
theorem rm2 (l : Launch) (Z : State) (a0 : Array Value) (hw : ∀ d ∈ tables_1, d.before a0 Z = true) (ws : List Jvm.Cond) (vl : Int64) (h0 : Heap) (n0 : Nat) (Z0 : n0 ≤ h0.size)  :
    MetFree l (⟨"com/example/triplepress/triplepress/container/VByteWritePinLaw", "expectedLength", "(J)I"⟩ : MethodName) (head1 (Jvm.Cond.code (⟨"com/example/triplepress/triplepress/container/VByteWritePinLaw", "expectedLength", "(J)I"⟩ : MethodName) method_2_code 2 (some .int) :: ws) ({ frames := 0, cells := 0, slots := 0, locals := 0 } : Room)) (fun a U => a = #[(.long vl)] ∧ Z.Warmed39 U.vm ∧ U.heap = h0) (fun _ _ _ _ _ => True) (fun _ U o U' => ∃ v L, o = .returned v ∧ QE vl h0 n0 v U'.heap L ∧ FrameEnd U o U' L ({ frames := 0, cells := 0, slots := 0, locals := 0 } : Room).cells ({ frames := 0, cells := 0, slots := 0, locals := 0 } : Room).slots) := by
  refine MetFree.of_bodySF pn_2 hisR ?_
  intro p e s m args below meth c s₁ Bd hml0 hP hK
  obtain ⟨rfl, hZ, hh⟩ := hP
  have hx := Bd.exec
  have hby := Bd.bytes
  have hlk := Bd.notSynchronized
  have hret := Bd.returns
  have hml : c.maxLocals = 2 := hml0
  have hown : s.vm.findClass "com/example/triplepress/triplepress/container/VByteWritePinLaw" = some m.cls := findClass_of_methodNamed Bd.named
  have hnm := (name_of_methodNamed Bd.named Bd.method).1
  have X0 : Stand p l e ({ frames := 0, cells := 0, slots := 0, locals := 0 } : Room) s m #[(.long vl)] below meth c s₁ [] 0 0 := Stand.of_body Bd
  have e0 : s₁.heap = h0 := by rw [← hh, Bd.state]; rfl
  have N0 := Fr.nil n0
  show Go p e below (Pst s (QE vl h0 n0) ({ frames := 0, cells := 0, slots := 0, locals := 0 } : Room).cells ({ frames := 0, cells := 0, slots := 0, locals := 0 } : Room).slots) (s₁.setTop (entryFrame m #[(.long vl)] 2))
  refine Go.on (fun t k => castTop (ef_2 m vl) k) ?_
  show Go p e below _ (s₁.setTop (mkF m 0 #[.val (.long vl), .second] []))
  refine Go.on (fun t k => XS.lloadN X0.here hx rfl (hb hby d2_0) rfl k) ?_
  show Go p e below _ (s₁.setTop (mkF m 1 #[.val (.long vl), .second] [(.long vl)]))
  refine Go.on (fun t k => X0.ldc2Long hx hown (mvT hZ (hw _ (List.mem_of_getElem? (i := 11) rfl))) (g := (mkF m 1 #[.val (.long vl), .second] [(.long vl)])) rfl (hb hby d2_1) _ k) ?_
  show Go p e below _ (s₁.setTop (mkF m 4 #[.val (.long vl), .second] [(.long (128 : Int64)), (.long vl)]))
  refine Go.on (fun t k => XS.lcmp X0.here hx rfl (hb hby d2_4) rfl k) ?_
  show Go p e below _ (s₁.setTop (mkF m 5 #[.val (.long vl), .second] [(.int (lcmpW vl (128 : Int64)))]))
  by_cases hc5 : vl < (128 : Int64)
  · refine Go.on (fun t k => XS.ifNo X0.here hx rfl (hb hby d2_5) rfl ((if0 _ _).trans (tlt ((lw_lt _ _).mpr hc5)).2.1) k) ?_
    show Go p e below _ (s₁.setTop (mkF m 8 #[.val (.long vl), .second] []))
    refine Go.on (fun t k => XS.iconst X0.here hx rfl (hb hby d2_8) k) ?_
    show Go p e below _ (s₁.setTop (mkF m 9 #[.val (.long vl), .second] [(.int (1 : Int32))]))
    have hv : own_len vl = (1 : Int32) := by simp only [own_len, hc5, if_true, if_false]
    exact Go.retI X0 hx hlk hret (hb hby d2_9) (Nat.le_refl _) (Nat.le_refl _) ⟨by rw [hv], N0, e0⟩
  · refine Go.on (fun t k => XS.ifYes X0.here hx rfl (pc0 := 5) (pc' := 10) rfl (hb hby d2_5) rfl ((if0 _ _).trans (flt (fun q => hc5 ((lw_lt _ _).mp q))).2.1) (by decide) (by decide) k) ?_
    show Go p e below _ (s₁.setTop (mkF m 10 #[.val (.long vl), .second] []))
    refine Go.on (fun t k => XS.lloadN X0.here hx rfl (hb hby d2_10) rfl k) ?_
    show Go p e below _ (s₁.setTop (mkF m 11 #[.val (.long vl), .second] [(.long vl)]))
    refine Go.on (fun t k => X0.ldc2Long hx hown (mvT hZ (hw _ (List.mem_of_getElem? (i := 17) rfl))) (g := (mkF m 11 #[.val (.long vl), .second] [(.long vl)])) rfl (hb hby d2_11) _ k) ?_
    show Go p e below _ (s₁.setTop (mkF m 14 #[.val (.long vl), .second] [(.long (16384 : Int64)), (.long vl)]))
    refine Go.on (fun t k => XS.lcmp X0.here hx rfl (hb hby d2_14) rfl k) ?_
    show Go p e below _ (s₁.setTop (mkF m 15 #[.val (.long vl), .second] [(.int (lcmpW vl (16384 : Int64)))]))
    by_cases hc15 : vl < (16384 : Int64)
    · refine Go.on (fun t k => XS.ifNo X0.here hx rfl (hb hby d2_15) rfl ((if0 _ _).trans (tlt ((lw_lt _ _).mpr hc15)).2.1) k) ?_
      show Go p e below _ (s₁.setTop (mkF m 18 #[.val (.long vl), .second] []))
      refine Go.on (fun t k => XS.iconst X0.here hx rfl (hb hby d2_18) k) ?_
      show Go p e below _ (s₁.setTop (mkF m 19 #[.val (.long vl), .second] [(.int (2 : Int32))]))
      have hv : own_len vl = (2 : Int32) := by simp only [own_len, hc5, hc15, if_true, if_false]
      exact Go.retI X0 hx hlk hret (hb hby d2_19) (Nat.le_refl _) (Nat.le_refl _) ⟨by rw [hv], N0, e0⟩
    · refine Go.on (fun t k => XS.ifYes X0.here hx rfl (pc0 := 15) (pc' := 20) rfl (hb hby d2_15) rfl ((if0 _ _).trans (flt (fun q => hc15 ((lw_lt _ _).mp q))).2.1) (by decide) (by decide) k) ?_
      show Go p e below _ (s₁.setTop (mkF m 20 #[.val (.long vl), .second] []))
      refine Go.on (fun t k => XS.lloadN X0.here hx rfl (hb hby d2_20) rfl k) ?_
      show Go p e below _ (s₁.setTop (mkF m 21 #[.val (.long vl), .second] [(.long vl)]))
      refine Go.on (fun t k => X0.ldc2Long hx hown (mvT hZ (hw _ (List.mem_of_getElem? (i := 18) rfl))) (g := (mkF m 21 #[.val (.long vl), .second] [(.long vl)])) rfl (hb hby d2_21) _ k) ?_
      show Go p e below _ (s₁.setTop (mkF m 24 #[.val (.long vl), .second] [(.long (2097152 : Int64)), (.long vl)]))
      refine Go.on (fun t k => XS.lcmp X0.here hx rfl (hb hby d2_24) rfl k) ?_
      show Go p e below _ (s₁.setTop (mkF m 25 #[.val (.long vl), .second] [(.int (lcmpW vl (2097152 : Int64)))]))
      by_cases hc25 : vl < (2097152 : Int64)
      · refine Go.on (fun t k => XS.ifNo X0.here hx rfl (hb hby d2_25) rfl ((if0 _ _).trans (tlt ((lw_lt _ _).mpr hc25)).2.1) k) ?_
        show Go p e below _ (s₁.setTop (mkF m 28 #[.val (.long vl), .second] []))
        refine Go.on (fun t k => XS.iconst X0.here hx rfl (hb hby d2_28) k) ?_
        show Go p e below _ (s₁.setTop (mkF m 29 #[.val (.long vl), .second] [(.int (3 : Int32))]))
        have hv : own_len vl = (3 : Int32) := by simp only [own_len, hc5, hc15, hc25, if_true, if_false]
        exact Go.retI X0 hx hlk hret (hb hby d2_29) (Nat.le_refl _) (Nat.le_refl _) ⟨by rw [hv], N0, e0⟩
      · refine Go.on (fun t k => XS.ifYes X0.here hx rfl (pc0 := 25) (pc' := 30) rfl (hb hby d2_25) rfl ((if0 _ _).trans (flt (fun q => hc25 ((lw_lt _ _).mp q))).2.1) (by decide) (by decide) k) ?_
        show Go p e below _ (s₁.setTop (mkF m 30 #[.val (.long vl), .second] []))
        refine Go.on (fun t k => XS.lloadN X0.here hx rfl (hb hby d2_30) rfl k) ?_
        show Go p e below _ (s₁.setTop (mkF m 31 #[.val (.long vl), .second] [(.long vl)]))
        refine Go.on (fun t k => X0.ldc2Long hx hown (mvT hZ (hw _ (List.mem_of_getElem? (i := 19) rfl))) (g := (mkF m 31 #[.val (.long vl), .second] [(.long vl)])) rfl (hb hby d2_31) _ k) ?_
        show Go p e below _ (s₁.setTop (mkF m 34 #[.val (.long vl), .second] [(.long (268435456 : Int64)), (.long vl)]))
        refine Go.on (fun t k => XS.lcmp X0.here hx rfl (hb hby d2_34) rfl k) ?_
        show Go p e below _ (s₁.setTop (mkF m 35 #[.val (.long vl), .second] [(.int (lcmpW vl (268435456 : Int64)))]))
        by_cases hc35 : vl < (268435456 : Int64)
        · refine Go.on (fun t k => XS.ifNo X0.here hx rfl (hb hby d2_35) rfl ((if0 _ _).trans (tlt ((lw_lt _ _).mpr hc35)).2.1) k) ?_
          show Go p e below _ (s₁.setTop (mkF m 38 #[.val (.long vl), .second] []))
          refine Go.on (fun t k => XS.iconst X0.here hx rfl (hb hby d2_38) k) ?_
          show Go p e below _ (s₁.setTop (mkF m 39 #[.val (.long vl), .second] [(.int (4 : Int32))]))
          have hv : own_len vl = (4 : Int32) := by simp only [own_len, hc5, hc15, hc25, hc35, if_true, if_false]
          exact Go.retI X0 hx hlk hret (hb hby d2_39) (Nat.le_refl _) (Nat.le_refl _) ⟨by rw [hv], N0, e0⟩
        · refine Go.on (fun t k => XS.ifYes X0.here hx rfl (pc0 := 35) (pc' := 40) rfl (hb hby d2_35) rfl ((if0 _ _).trans (flt (fun q => hc35 ((lw_lt _ _).mp q))).2.1) (by decide) (by decide) k) ?_
          show Go p e below _ (s₁.setTop (mkF m 40 #[.val (.long vl), .second] []))
          refine Go.on (fun t k => XS.lloadN X0.here hx rfl (hb hby d2_40) rfl k) ?_
          show Go p e below _ (s₁.setTop (mkF m 41 #[.val (.long vl), .second] [(.long vl)]))
          refine Go.on (fun t k => X0.ldc2Long hx hown (mvT hZ (hw _ (List.mem_of_getElem? (i := 20) rfl))) (g := (mkF m 41 #[.val (.long vl), .second] [(.long vl)])) rfl (hb hby d2_41) _ k) ?_
          show Go p e below _ (s₁.setTop (mkF m 44 #[.val (.long vl), .second] [(.long (34359738368 : Int64)), (.long vl)]))
          refine Go.on (fun t k => XS.lcmp X0.here hx rfl (hb hby d2_44) rfl k) ?_
          show Go p e below _ (s₁.setTop (mkF m 45 #[.val (.long vl), .second] [(.int (lcmpW vl (34359738368 : Int64)))]))
          by_cases hc45 : vl < (34359738368 : Int64)
          · refine Go.on (fun t k => XS.ifNo X0.here hx rfl (hb hby d2_45) rfl ((if0 _ _).trans (tlt ((lw_lt _ _).mpr hc45)).2.1) k) ?_
            show Go p e below _ (s₁.setTop (mkF m 48 #[.val (.long vl), .second] []))
            refine Go.on (fun t k => XS.iconst X0.here hx rfl (hb hby d2_48) k) ?_
            show Go p e below _ (s₁.setTop (mkF m 49 #[.val (.long vl), .second] [(.int (5 : Int32))]))
            have hv : own_len vl = (5 : Int32) := by simp only [own_len, hc5, hc15, hc25, hc35, hc45, if_true, if_false]
            exact Go.retI X0 hx hlk hret (hb hby d2_49) (Nat.le_refl _) (Nat.le_refl _) ⟨by rw [hv], N0, e0⟩
          · refine Go.on (fun t k => XS.ifYes X0.here hx rfl (pc0 := 45) (pc' := 50) rfl (hb hby d2_45) rfl ((if0 _ _).trans (flt (fun q => hc45 ((lw_lt _ _).mp q))).2.1) (by decide) (by decide) k) ?_
            show Go p e below _ (s₁.setTop (mkF m 50 #[.val (.long vl), .second] []))
            refine Go.on (fun t k => XS.lloadN X0.here hx rfl (hb hby d2_50) rfl k) ?_
            show Go p e below _ (s₁.setTop (mkF m 51 #[.val (.long vl), .second] [(.long vl)]))
            refine Go.on (fun t k => X0.ldc2Long hx hown (mvT hZ (hw _ (List.mem_of_getElem? (i := 21) rfl))) (g := (mkF m 51 #[.val (.long vl), .second] [(.long vl)])) rfl (hb hby d2_51) _ k) ?_
            show Go p e below _ (s₁.setTop (mkF m 54 #[.val (.long vl), .second] [(.long (4398046511104 : Int64)), (.long vl)]))
            refine Go.on (fun t k => XS.lcmp X0.here hx rfl (hb hby d2_54) rfl k) ?_
            show Go p e below _ (s₁.setTop (mkF m 55 #[.val (.long vl), .second] [(.int (lcmpW vl (4398046511104 : Int64)))]))
            by_cases hc55 : vl < (4398046511104 : Int64)
            · refine Go.on (fun t k => XS.ifNo X0.here hx rfl (hb hby d2_55) rfl ((if0 _ _).trans (tlt ((lw_lt _ _).mpr hc55)).2.1) k) ?_
              show Go p e below _ (s₁.setTop (mkF m 58 #[.val (.long vl), .second] []))
              refine Go.on (fun t k => XS.bipush X0.here hx rfl (hb hby d2_58) k) ?_
              show Go p e below _ (s₁.setTop (mkF m 60 #[.val (.long vl), .second] [(.int (6 : Int32))]))
              have hv : own_len vl = (6 : Int32) := by simp only [own_len, hc5, hc15, hc25, hc35, hc45, hc55, if_true, if_false]
              exact Go.retI X0 hx hlk hret (hb hby d2_60) (Nat.le_refl _) (Nat.le_refl _) ⟨by rw [hv], N0, e0⟩
            · refine Go.on (fun t k => XS.ifYes X0.here hx rfl (pc0 := 55) (pc' := 61) rfl (hb hby d2_55) rfl ((if0 _ _).trans (flt (fun q => hc55 ((lw_lt _ _).mp q))).2.1) (by decide) (by decide) k) ?_
              show Go p e below _ (s₁.setTop (mkF m 61 #[.val (.long vl), .second] []))
              refine Go.on (fun t k => XS.lloadN X0.here hx rfl (hb hby d2_61) rfl k) ?_
              show Go p e below _ (s₁.setTop (mkF m 62 #[.val (.long vl), .second] [(.long vl)]))
              refine Go.on (fun t k => X0.ldc2Long hx hown (mvT hZ (hw _ (List.mem_of_getElem? (i := 22) rfl))) (g := (mkF m 62 #[.val (.long vl), .second] [(.long vl)])) rfl (hb hby d2_62) _ k) ?_
              show Go p e below _ (s₁.setTop (mkF m 65 #[.val (.long vl), .second] [(.long (562949953421312 : Int64)), (.long vl)]))
              refine Go.on (fun t k => XS.lcmp X0.here hx rfl (hb hby d2_65) rfl k) ?_
              show Go p e below _ (s₁.setTop (mkF m 66 #[.val (.long vl), .second] [(.int (lcmpW vl (562949953421312 : Int64)))]))
              by_cases hc66 : vl < (562949953421312 : Int64)
              · refine Go.on (fun t k => XS.ifNo X0.here hx rfl (hb hby d2_66) rfl ((if0 _ _).trans (tlt ((lw_lt _ _).mpr hc66)).2.1) k) ?_
                show Go p e below _ (s₁.setTop (mkF m 69 #[.val (.long vl), .second] []))
                refine Go.on (fun t k => XS.bipush X0.here hx rfl (hb hby d2_69) k) ?_
                show Go p e below _ (s₁.setTop (mkF m 71 #[.val (.long vl), .second] [(.int (7 : Int32))]))
                have hv : own_len vl = (7 : Int32) := by simp only [own_len, hc5, hc15, hc25, hc35, hc45, hc55, hc66, if_true, if_false]
                exact Go.retI X0 hx hlk hret (hb hby d2_71) (Nat.le_refl _) (Nat.le_refl _) ⟨by rw [hv], N0, e0⟩
              · refine Go.on (fun t k => XS.ifYes X0.here hx rfl (pc0 := 66) (pc' := 72) rfl (hb hby d2_66) rfl ((if0 _ _).trans (flt (fun q => hc66 ((lw_lt _ _).mp q))).2.1) (by decide) (by decide) k) ?_
                show Go p e below _ (s₁.setTop (mkF m 72 #[.val (.long vl), .second] []))
                refine Go.on (fun t k => XS.lloadN X0.here hx rfl (hb hby d2_72) rfl k) ?_
                show Go p e below _ (s₁.setTop (mkF m 73 #[.val (.long vl), .second] [(.long vl)]))
                refine Go.on (fun t k => X0.ldc2Long hx hown (mvT hZ (hw _ (List.mem_of_getElem? (i := 23) rfl))) (g := (mkF m 73 #[.val (.long vl), .second] [(.long vl)])) rfl (hb hby d2_73) _ k) ?_
                show Go p e below _ (s₁.setTop (mkF m 76 #[.val (.long vl), .second] [(.long (72057594037927936 : Int64)), (.long vl)]))
                refine Go.on (fun t k => XS.lcmp X0.here hx rfl (hb hby d2_76) rfl k) ?_
                show Go p e below _ (s₁.setTop (mkF m 77 #[.val (.long vl), .second] [(.int (lcmpW vl (72057594037927936 : Int64)))]))
                by_cases hc77 : vl < (72057594037927936 : Int64)
                · refine Go.on (fun t k => XS.ifNo X0.here hx rfl (hb hby d2_77) rfl ((if0 _ _).trans (tlt ((lw_lt _ _).mpr hc77)).2.1) k) ?_
                  show Go p e below _ (s₁.setTop (mkF m 80 #[.val (.long vl), .second] []))
                  refine Go.on (fun t k => XS.bipush X0.here hx rfl (hb hby d2_80) k) ?_
                  show Go p e below _ (s₁.setTop (mkF m 82 #[.val (.long vl), .second] [(.int (8 : Int32))]))
                  have hv : own_len vl = (8 : Int32) := by simp only [own_len, hc5, hc15, hc25, hc35, hc45, hc55, hc66, hc77, if_true, if_false]
                  exact Go.retI X0 hx hlk hret (hb hby d2_82) (Nat.le_refl _) (Nat.le_refl _) ⟨by rw [hv], N0, e0⟩
                · refine Go.on (fun t k => XS.ifYes X0.here hx rfl (pc0 := 77) (pc' := 83) rfl (hb hby d2_77) rfl ((if0 _ _).trans (flt (fun q => hc77 ((lw_lt _ _).mp q))).2.1) (by decide) (by decide) k) ?_
                  show Go p e below _ (s₁.setTop (mkF m 83 #[.val (.long vl), .second] []))
                  refine Go.on (fun t k => XS.bipush X0.here hx rfl (hb hby d2_83) k) ?_
                  show Go p e below _ (s₁.setTop (mkF m 85 #[.val (.long vl), .second] [(.int (9 : Int32))]))
                  have hv : own_len vl = (9 : Int32) := by simp only [own_len, hc5, hc15, hc25, hc35, hc45, hc55, hc66, hc77, if_true, if_false]
                  exact Go.retI X0 hx hlk hret (hb hby d2_85) (Nat.le_refl _) (Nat.le_refl _) ⟨by rw [hv], N0, e0⟩
def QC (h0 : Heap) (n0 : Nat) (w : Option Value) (h : Heap) (L : List Loc) : Prop := w = some (.int 1) ∧ Fr n0 L ∧ h = h0
theorem d3_0 : decode method_3_code 0 = .ok (.iload 5, 2) := by decide +kernel
theorem d3_2 : decode method_3_code 2 = .ok (.iload_n 1, 1) := by decide +kernel
theorem d3_3 : decode method_3_code 3 = .ok (.isub, 1) := by decide +kernel
theorem d3_4 : decode method_3_code 4 = .ok (.istore 7, 2) := by decide +kernel
theorem d3_6 : decode method_3_code 6 = .ok (.iload 7, 2) := by decide +kernel
theorem d3_8 : decode method_3_code 8 = .ok (.ifCond .lt 10, 3) := by decide +kernel
theorem d3_11 : decode method_3_code 11 = .ok (.iload 7, 2) := by decide +kernel
theorem d3_13 : decode method_3_code 13 = .ok (.iload 4, 2) := by decide +kernel
theorem d3_15 : decode method_3_code 15 = .ok (.if_icmp .lt 18, 3) := by decide +kernel
theorem d3_18 : decode method_3_code 18 = .ok (.aload_n 0, 1) := by decide +kernel
theorem d3_19 : decode method_3_code 19 = .ok (.iload 5, 2) := by decide +kernel
theorem d3_21 : decode method_3_code 21 = .ok (.baload, 1) := by decide +kernel
theorem d3_22 : decode method_3_code 22 = .ok (.iload 6, 2) := by decide +kernel
theorem d3_24 : decode method_3_code 24 = .ok (.if_icmp .ne 7, 3) := by decide +kernel
theorem d3_27 : decode method_3_code 27 = .ok (.iconst 1, 1) := by decide +kernel
theorem d3_28 : decode method_3_code 28 = .ok (.goto 4, 3) := by decide +kernel
theorem d3_32 : decode method_3_code 32 = .ok (.ireturn, 1) := by decide +kernel
theorem d3_33 : decode method_3_code 33 = .ok (.lload_n 2, 1) := by decide +kernel
theorem d3_34 : decode method_3_code 34 = .ok (.bipush 7, 2) := by decide +kernel
theorem d3_36 : decode method_3_code 36 = .ok (.iload 7, 2) := by decide +kernel
theorem d3_38 : decode method_3_code 38 = .ok (.imul, 1) := by decide +kernel
theorem d3_39 : decode method_3_code 39 = .ok (.lushr, 1) := by decide +kernel
theorem d3_40 : decode method_3_code 40 = .ok (.ldc2_w 23, 3) := by decide +kernel
theorem d3_43 : decode method_3_code 43 = .ok (.land, 1) := by decide +kernel
theorem d3_44 : decode method_3_code 44 = .ok (.lstore 8, 2) := by decide +kernel
theorem d3_46 : decode method_3_code 46 = .ok (.iload 7, 2) := by decide +kernel
theorem d3_48 : decode method_3_code 48 = .ok (.iload 4, 2) := by decide +kernel
theorem d3_50 : decode method_3_code 50 = .ok (.iconst 1, 1) := by decide +kernel
theorem d3_51 : decode method_3_code 51 = .ok (.isub, 1) := by decide +kernel
theorem d3_52 : decode method_3_code 52 = .ok (.if_icmp .ne 11, 3) := by decide +kernel
theorem d3_55 : decode method_3_code 55 = .ok (.lload 8, 2) := by decide +kernel
theorem d3_57 : decode method_3_code 57 = .ok (.ldc2_w 7, 3) := by decide +kernel
theorem d3_60 : decode method_3_code 60 = .ok (.lor, 1) := by decide +kernel
theorem d3_61 : decode method_3_code 61 = .ok (.lstore 8, 2) := by decide +kernel
theorem d3_63 : decode method_3_code 63 = .ok (.aload_n 0, 1) := by decide +kernel
theorem d3_64 : decode method_3_code 64 = .ok (.iload 5, 2) := by decide +kernel
theorem d3_66 : decode method_3_code 66 = .ok (.baload, 1) := by decide +kernel
theorem d3_67 : decode method_3_code 67 = .ok (.lload 8, 2) := by decide +kernel
theorem d3_69 : decode method_3_code 69 = .ok (.l2i, 1) := by decide +kernel
theorem d3_70 : decode method_3_code 70 = .ok (.i2b, 1) := by decide +kernel
theorem d3_71 : decode method_3_code 71 = .ok (.if_icmp .ne 7, 3) := by decide +kernel
theorem d3_74 : decode method_3_code 74 = .ok (.iconst 1, 1) := by decide +kernel
theorem d3_75 : decode method_3_code 75 = .ok (.goto 4, 3) := by decide +kernel
theorem d3_79 : decode method_3_code 79 = .ok (.ireturn, 1) := by decide +kernel
theorem pn_3 : plainFor (⟨"com/example/triplepress/triplepress/container/VByteWritePinLaw", "cell", "([BIJIIB)Z"⟩ : MethodName) = true := by first | exact plainFor_of_name (by first | (simp [plainName, overriddenIn]; done) | decide +kernel) | decide +kernel
theorem ef_3 (m : MethodId) (x0 : Addr) (x1 : Int32) (x2 : Int64) (x3 : Int32) (x4 : Int32) (x5 : Int32) : entryFrame m #[(.ref x0), (.int x1), (.long x2), (.int x3), (.int x4), (.int x5)] 10 = mkF m 0 #[.val (.ref x0), .val (.int x1), .val (.long x2), .second, .val (.int x3), .val (.int x4), .val (.int x5), .unset, .unset, .unset] [] := by first | (simp [entryFrame, mkF, argsToLocals, Value.category]; done) | rfl
set_option maxRecDepth 65536 in
set_option maxHeartbeats 40000000 in
theorem rm3 (l : Launch) (Z : State) (a0 : Array Value) (hw : ∀ d ∈ tables_1, d.before a0 Z = true) (ws : List Jvm.Cond) (a1 : Addr) (p2 : Int32) (vl : Int64) (p4 p5 p6 : Int32) (K : Nat) (f : Nat → Value) (h0 : Heap) (n0 : Nat) (Z0 : n0 ≤ h0.size) (F0 : BA Z h0 a1 .byte 16 f) (hkx : ¬ p5 < 0 ∧ p5.toNatClampNeg = K) (hK2 : K < 16) (hf : f K = .int (own_cv p2 vl p4 p5 p6)) :
    MetFree l (⟨"com/example/triplepress/triplepress/container/VByteWritePinLaw", "cell", "([BIJIIB)Z"⟩ : MethodName) (head1 (Jvm.Cond.code (⟨"com/example/triplepress/triplepress/container/VByteWritePinLaw", "cell", "([BIJIIB)Z"⟩ : MethodName) method_3_code 10 (some .boolean) :: ws) ({ frames := 0, cells := 0, slots := 0, locals := 0 } : Room)) (fun a U => a = #[(.ref a1), (.int p2), (.long vl), (.int p4), (.int p5), (.int p6)] ∧ Z.Warmed39 U.vm ∧ U.heap = h0) (fun _ _ _ _ _ => True) (fun _ U o U' => ∃ v L, o = .returned v ∧ QC h0 n0 v U'.heap L ∧ FrameEnd U o U' L ({ frames := 0, cells := 0, slots := 0, locals := 0 } : Room).cells ({ frames := 0, cells := 0, slots := 0, locals := 0 } : Room).slots) := by
  refine MetFree.of_bodySF pn_3 hisR ?_
  intro p e s m args below meth c s₁ Bd hml0 hP hK
  obtain ⟨rfl, hZ, hh⟩ := hP
  have hx := Bd.exec
  have hby := Bd.bytes
  have hlk := Bd.notSynchronized
  have hret := Bd.returns
  have hml : c.maxLocals = 10 := hml0
  have hown : s.vm.findClass "com/example/triplepress/triplepress/container/VByteWritePinLaw" = some m.cls := findClass_of_methodNamed Bd.named
  have hnm := (name_of_methodNamed Bd.named Bd.method).1
  have X0 : Stand p l e ({ frames := 0, cells := 0, slots := 0, locals := 0 } : Room) s m #[(.ref a1), (.int p2), (.long vl), (.int p4), (.int p5), (.int p6)] below meth c s₁ [] 0 0 := Stand.of_body Bd
  have e0 : s₁.heap = h0 := by rw [← hh, Bd.state]; rfl
  have N0 := Fr.nil n0
  show Go p e below (Pst s (QC h0 n0) ({ frames := 0, cells := 0, slots := 0, locals := 0 } : Room).cells ({ frames := 0, cells := 0, slots := 0, locals := 0 } : Room).slots) (s₁.setTop (entryFrame m #[(.ref a1), (.int p2), (.long vl), (.int p4), (.int p5), (.int p6)] 10))
  refine Go.on (fun t k => castTop (ef_3 m a1 p2 vl p4 p5 p6) k) ?_
  show Go p e below _ (s₁.setTop (mkF m 0 #[.val (.ref a1), .val (.int p2), .val (.long vl), .second, .val (.int p4), .val (.int p5), .val (.int p6), .unset, .unset, .unset] []))
  refine Go.on (fun t k => XS.iload X0.here hx rfl (hb hby d3_0) rfl k) ?_
  show Go p e below _ (s₁.setTop (mkF m 2 #[.val (.ref a1), .val (.int p2), .val (.long vl), .second, .val (.int p4), .val (.int p5), .val (.int p6), .unset, .unset, .unset] [(.int p5)]))
  refine Go.on (fun t k => XS.iloadN X0.here hx rfl (hb hby d3_2) rfl k) ?_
  show Go p e below _ (s₁.setTop (mkF m 3 #[.val (.ref a1), .val (.int p2), .val (.long vl), .second, .val (.int p4), .val (.int p5), .val (.int p6), .unset, .unset, .unset] [(.int p2), (.int p5)]))
  refine Go.on (fun t k => XS.isub X0.here hx rfl (hb hby d3_3) rfl k) ?_
  show Go p e below _ (s₁.setTop (mkF m 4 #[.val (.ref a1), .val (.int p2), .val (.long vl), .second, .val (.int p4), .val (.int p5), .val (.int p6), .unset, .unset, .unset] [(.int (p5 - p2))]))
  refine Go.on (fun t k => XS.istore X0.here hx rfl (hb hby d3_4) rfl (l' := #[.val (.ref a1), .val (.int p2), .val (.long vl), .second, .val (.int p4), .val (.int p5), .val (.int p6), .val (.int (p5 - p2)), .unset, .unset]) rfl k) ?_
  show Go p e below _ (s₁.setTop (mkF m 6 #[.val (.ref a1), .val (.int p2), .val (.long vl), .second, .val (.int p4), .val (.int p5), .val (.int p6), .val (.int (p5 - p2)), .unset, .unset] []))
  refine Go.on (fun t k => XS.iload X0.here hx rfl (hb hby d3_6) rfl k) ?_
  show Go p e below _ (s₁.setTop (mkF m 8 #[.val (.ref a1), .val (.int p2), .val (.long vl), .second, .val (.int p4), .val (.int p5), .val (.int p6), .val (.int (p5 - p2)), .unset, .unset] [(.int (p5 - p2))]))
  by_cases hc8 : (p5 - p2) < (0 : Int32)
  · refine Go.on (fun t k => XS.ifYes X0.here hx rfl (pc0 := 8) (pc' := 18) rfl (hb hby d3_8) rfl ((if0 _ _).trans (tlt hc8).1) (by decide) (by decide) k) ?_
    show Go p e below _ (s₁.setTop (mkF m 18 #[.val (.ref a1), .val (.int p2), .val (.long vl), .second, .val (.int p4), .val (.int p5), .val (.int p6), .val (.int (p5 - p2)), .unset, .unset] []))
    refine Go.on (fun t k => XS.aloadN X0.here hx rfl (hb hby d3_18) rfl rfl k) ?_
    show Go p e below _ (s₁.setTop (mkF m 19 #[.val (.ref a1), .val (.int p2), .val (.long vl), .second, .val (.int p4), .val (.int p5), .val (.int p6), .val (.int (p5 - p2)), .unset, .unset] [(.ref a1)]))
    refine Go.on (fun t k => XS.iload X0.here hx rfl (hb hby d3_19) rfl k) ?_
    show Go p e below _ (s₁.setTop (mkF m 21 #[.val (.ref a1), .val (.int p2), .val (.long vl), .second, .val (.int p4), .val (.int p5), .val (.int p6), .val (.int (p5 - p2)), .unset, .unset] [(.int p5), (.ref a1)]))
    refine Go.ldB X0 hx hZ e0 F0 (i := K) hkx.1 hkx.2 hK2 (hb hby d3_21) ?_
    rw [hf]
    show Go p e below _ (s₁.setTop (mkF m 22 #[.val (.ref a1), .val (.int p2), .val (.long vl), .second, .val (.int p4), .val (.int p5), .val (.int p6), .val (.int (p5 - p2)), .unset, .unset] [(.int (own_cv p2 vl p4 p5 p6))]))
    refine Go.on (fun t k => XS.iload X0.here hx rfl (hb hby d3_22) rfl k) ?_
    show Go p e below _ (s₁.setTop (mkF m 24 #[.val (.ref a1), .val (.int p2), .val (.long vl), .second, .val (.int p4), .val (.int p5), .val (.int p6), .val (.int (p5 - p2)), .unset, .unset] [(.int p6), (.int (own_cv p2 vl p4 p5 p6))]))
    refine Go.on (fun t k => XS.icmpNo X0.here hx rfl (hb hby d3_24) rfl (teq (by unfold own_cv; rw [if_pos hc8] : (own_cv p2 vl p4 p5 p6) = p6)).2 k) ?_
    show Go p e below _ (s₁.setTop (mkF m 27 #[.val (.ref a1), .val (.int p2), .val (.long vl), .second, .val (.int p4), .val (.int p5), .val (.int p6), .val (.int (p5 - p2)), .unset, .unset] []))
    refine Go.on (fun t k => XS.iconst X0.here hx rfl (hb hby d3_27) k) ?_
    show Go p e below _ (s₁.setTop (mkF m 28 #[.val (.ref a1), .val (.int p2), .val (.long vl), .second, .val (.int p4), .val (.int p5), .val (.int p6), .val (.int (p5 - p2)), .unset, .unset] [(.int (1 : Int32))]))
    refine Go.on (fun t k => XS.goto X0.here hx rfl (pc0 := 28) (pc' := 32) rfl (hb hby d3_28) (by decide) (by decide) k) ?_
    show Go p e below _ (s₁.setTop (mkF m 32 #[.val (.ref a1), .val (.int p2), .val (.long vl), .second, .val (.int p4), .val (.int p5), .val (.int p6), .val (.int (p5 - p2)), .unset, .unset] [(.int (1 : Int32))]))
    exact Go.retN X0 hx hlk hret (by simp) (hb hby d3_32) (Nat.le_refl _) (Nat.le_refl _) (show QC h0 n0 _ _ _ from ⟨rfl, N0, e0⟩)
  · refine Go.on (fun t k => XS.ifNo X0.here hx rfl (hb hby d3_8) rfl ((if0 _ _).trans (flt hc8).1) k) ?_
    show Go p e below _ (s₁.setTop (mkF m 11 #[.val (.ref a1), .val (.int p2), .val (.long vl), .second, .val (.int p4), .val (.int p5), .val (.int p6), .val (.int (p5 - p2)), .unset, .unset] []))
    refine Go.on (fun t k => XS.iload X0.here hx rfl (hb hby d3_11) rfl k) ?_
    show Go p e below _ (s₁.setTop (mkF m 13 #[.val (.ref a1), .val (.int p2), .val (.long vl), .second, .val (.int p4), .val (.int p5), .val (.int p6), .val (.int (p5 - p2)), .unset, .unset] [(.int (p5 - p2))]))
    refine Go.on (fun t k => XS.iload X0.here hx rfl (hb hby d3_13) rfl k) ?_
    show Go p e below _ (s₁.setTop (mkF m 15 #[.val (.ref a1), .val (.int p2), .val (.long vl), .second, .val (.int p4), .val (.int p5), .val (.int p6), .val (.int (p5 - p2)), .unset, .unset] [(.int p4), (.int (p5 - p2))]))
    by_cases hc15 : (p5 - p2) < p4
    · refine Go.on (fun t k => XS.icmpYes X0.here hx rfl (pc0 := 15) (pc' := 33) rfl (hb hby d3_15) rfl (tlt hc15).1 (by decide) (by decide) k) ?_
      show Go p e below _ (s₁.setTop (mkF m 33 #[.val (.ref a1), .val (.int p2), .val (.long vl), .second, .val (.int p4), .val (.int p5), .val (.int p6), .val (.int (p5 - p2)), .unset, .unset] []))
      refine Go.on (fun t k => XS.lloadN X0.here hx rfl (hb hby d3_33) rfl k) ?_
      show Go p e below _ (s₁.setTop (mkF m 34 #[.val (.ref a1), .val (.int p2), .val (.long vl), .second, .val (.int p4), .val (.int p5), .val (.int p6), .val (.int (p5 - p2)), .unset, .unset] [(.long vl)]))
      refine Go.on (fun t k => XS.bipush X0.here hx rfl (hb hby d3_34) k) ?_
      show Go p e below _ (s₁.setTop (mkF m 36 #[.val (.ref a1), .val (.int p2), .val (.long vl), .second, .val (.int p4), .val (.int p5), .val (.int p6), .val (.int (p5 - p2)), .unset, .unset] [(.int (7 : Int32)), (.long vl)]))
      refine Go.on (fun t k => XS.iload X0.here hx rfl (hb hby d3_36) rfl k) ?_
      show Go p e below _ (s₁.setTop (mkF m 38 #[.val (.ref a1), .val (.int p2), .val (.long vl), .second, .val (.int p4), .val (.int p5), .val (.int p6), .val (.int (p5 - p2)), .unset, .unset] [(.int (p5 - p2)), (.int (7 : Int32)), (.long vl)]))
      refine Go.on (fun t k => XS.imul X0.here hx rfl (hb hby d3_38) rfl k) ?_
      show Go p e below _ (s₁.setTop (mkF m 39 #[.val (.ref a1), .val (.int p2), .val (.long vl), .second, .val (.int p4), .val (.int p5), .val (.int p6), .val (.int (p5 - p2)), .unset, .unset] [(.int ((7 : Int32) * (p5 - p2))), (.long vl)]))
      refine Go.on (fun t k => XS.lushr X0.here hx rfl (hb hby d3_39) rfl k) ?_
      show Go p e below _ (s₁.setTop (mkF m 40 #[.val (.ref a1), .val (.int p2), .val (.long vl), .second, .val (.int p4), .val (.int p5), .val (.int p6), .val (.int (p5 - p2)), .unset, .unset] [(.long (ushrJ vl ((7 : Int32) * (p5 - p2))))]))
      refine Go.on (fun t k => X0.ldc2Long hx hown (mvT hZ (hw _ (List.mem_of_getElem? (i := 15) rfl))) (g := (mkF m 40 #[.val (.ref a1), .val (.int p2), .val (.long vl), .second, .val (.int p4), .val (.int p5), .val (.int p6), .val (.int (p5 - p2)), .unset, .unset] [(.long (ushrJ vl ((7 : Int32) * (p5 - p2))))])) rfl (hb hby d3_40) _ k) ?_
      show Go p e below _ (s₁.setTop (mkF m 43 #[.val (.ref a1), .val (.int p2), .val (.long vl), .second, .val (.int p4), .val (.int p5), .val (.int p6), .val (.int (p5 - p2)), .unset, .unset] [(.long (127 : Int64)), (.long (ushrJ vl ((7 : Int32) * (p5 - p2))))]))
      refine Go.on (fun t k => XS.land X0.here hx rfl (hb hby d3_43) rfl k) ?_
      show Go p e below _ (s₁.setTop (mkF m 44 #[.val (.ref a1), .val (.int p2), .val (.long vl), .second, .val (.int p4), .val (.int p5), .val (.int p6), .val (.int (p5 - p2)), .unset, .unset] [(.long ((ushrJ vl ((7 : Int32) * (p5 - p2))) &&& (127 : Int64)))]))
      refine Go.on (fun t k => XS.lstore X0.here hx rfl (hb hby d3_44) rfl (l' := #[.val (.ref a1), .val (.int p2), .val (.long vl), .second, .val (.int p4), .val (.int p5), .val (.int p6), .val (.int (p5 - p2)), .val (.long ((ushrJ vl ((7 : Int32) * (p5 - p2))) &&& (127 : Int64))), .second]) rfl k) ?_
      show Go p e below _ (s₁.setTop (mkF m 46 #[.val (.ref a1), .val (.int p2), .val (.long vl), .second, .val (.int p4), .val (.int p5), .val (.int p6), .val (.int (p5 - p2)), .val (.long ((ushrJ vl ((7 : Int32) * (p5 - p2))) &&& (127 : Int64))), .second] []))
      refine Go.on (fun t k => XS.iload X0.here hx rfl (hb hby d3_46) rfl k) ?_
      show Go p e below _ (s₁.setTop (mkF m 48 #[.val (.ref a1), .val (.int p2), .val (.long vl), .second, .val (.int p4), .val (.int p5), .val (.int p6), .val (.int (p5 - p2)), .val (.long ((ushrJ vl ((7 : Int32) * (p5 - p2))) &&& (127 : Int64))), .second] [(.int (p5 - p2))]))
      refine Go.on (fun t k => XS.iload X0.here hx rfl (hb hby d3_48) rfl k) ?_
      show Go p e below _ (s₁.setTop (mkF m 50 #[.val (.ref a1), .val (.int p2), .val (.long vl), .second, .val (.int p4), .val (.int p5), .val (.int p6), .val (.int (p5 - p2)), .val (.long ((ushrJ vl ((7 : Int32) * (p5 - p2))) &&& (127 : Int64))), .second] [(.int p4), (.int (p5 - p2))]))
      refine Go.on (fun t k => XS.iconst X0.here hx rfl (hb hby d3_50) k) ?_
      show Go p e below _ (s₁.setTop (mkF m 51 #[.val (.ref a1), .val (.int p2), .val (.long vl), .second, .val (.int p4), .val (.int p5), .val (.int p6), .val (.int (p5 - p2)), .val (.long ((ushrJ vl ((7 : Int32) * (p5 - p2))) &&& (127 : Int64))), .second] [(.int (1 : Int32)), (.int p4), (.int (p5 - p2))]))
      refine Go.on (fun t k => XS.isub X0.here hx rfl (hb hby d3_51) rfl k) ?_
      show Go p e below _ (s₁.setTop (mkF m 52 #[.val (.ref a1), .val (.int p2), .val (.long vl), .second, .val (.int p4), .val (.int p5), .val (.int p6), .val (.int (p5 - p2)), .val (.long ((ushrJ vl ((7 : Int32) * (p5 - p2))) &&& (127 : Int64))), .second] [(.int (p4 - (1 : Int32))), (.int (p5 - p2))]))
      by_cases hc52 : (p5 - p2) = (p4 - (1 : Int32))
      · refine Go.on (fun t k => XS.icmpNo X0.here hx rfl (hb hby d3_52) rfl (teq hc52).2 k) ?_
        show Go p e below _ (s₁.setTop (mkF m 55 #[.val (.ref a1), .val (.int p2), .val (.long vl), .second, .val (.int p4), .val (.int p5), .val (.int p6), .val (.int (p5 - p2)), .val (.long ((ushrJ vl ((7 : Int32) * (p5 - p2))) &&& (127 : Int64))), .second] []))
        refine Go.on (fun t k => XS.lload X0.here hx rfl (hb hby d3_55) rfl k) ?_
        show Go p e below _ (s₁.setTop (mkF m 57 #[.val (.ref a1), .val (.int p2), .val (.long vl), .second, .val (.int p4), .val (.int p5), .val (.int p6), .val (.int (p5 - p2)), .val (.long ((ushrJ vl ((7 : Int32) * (p5 - p2))) &&& (127 : Int64))), .second] [(.long ((ushrJ vl ((7 : Int32) * (p5 - p2))) &&& (127 : Int64)))]))
        refine Go.on (fun t k => X0.ldc2Long hx hown (mvT hZ (hw _ (List.mem_of_getElem? (i := 11) rfl))) (g := (mkF m 57 #[.val (.ref a1), .val (.int p2), .val (.long vl), .second, .val (.int p4), .val (.int p5), .val (.int p6), .val (.int (p5 - p2)), .val (.long ((ushrJ vl ((7 : Int32) * (p5 - p2))) &&& (127 : Int64))), .second] [(.long ((ushrJ vl ((7 : Int32) * (p5 - p2))) &&& (127 : Int64)))])) rfl (hb hby d3_57) _ k) ?_
        show Go p e below _ (s₁.setTop (mkF m 60 #[.val (.ref a1), .val (.int p2), .val (.long vl), .second, .val (.int p4), .val (.int p5), .val (.int p6), .val (.int (p5 - p2)), .val (.long ((ushrJ vl ((7 : Int32) * (p5 - p2))) &&& (127 : Int64))), .second] [(.long (128 : Int64)), (.long ((ushrJ vl ((7 : Int32) * (p5 - p2))) &&& (127 : Int64)))]))
        refine Go.on (fun t k => XS.lor X0.here hx rfl (hb hby d3_60) rfl k) ?_
        show Go p e below _ (s₁.setTop (mkF m 61 #[.val (.ref a1), .val (.int p2), .val (.long vl), .second, .val (.int p4), .val (.int p5), .val (.int p6), .val (.int (p5 - p2)), .val (.long ((ushrJ vl ((7 : Int32) * (p5 - p2))) &&& (127 : Int64))), .second] [(.long (((ushrJ vl ((7 : Int32) * (p5 - p2))) &&& (127 : Int64)) ||| (128 : Int64)))]))
        refine Go.on (fun t k => XS.lstore X0.here hx rfl (hb hby d3_61) rfl (l' := #[.val (.ref a1), .val (.int p2), .val (.long vl), .second, .val (.int p4), .val (.int p5), .val (.int p6), .val (.int (p5 - p2)), .val (.long (((ushrJ vl ((7 : Int32) * (p5 - p2))) &&& (127 : Int64)) ||| (128 : Int64))), .second]) rfl k) ?_
        show Go p e below _ (s₁.setTop (mkF m 63 #[.val (.ref a1), .val (.int p2), .val (.long vl), .second, .val (.int p4), .val (.int p5), .val (.int p6), .val (.int (p5 - p2)), .val (.long (((ushrJ vl ((7 : Int32) * (p5 - p2))) &&& (127 : Int64)) ||| (128 : Int64))), .second] []))
        refine Go.on (fun t k => XS.aloadN X0.here hx rfl (hb hby d3_63) rfl rfl k) ?_
        show Go p e below _ (s₁.setTop (mkF m 64 #[.val (.ref a1), .val (.int p2), .val (.long vl), .second, .val (.int p4), .val (.int p5), .val (.int p6), .val (.int (p5 - p2)), .val (.long (((ushrJ vl ((7 : Int32) * (p5 - p2))) &&& (127 : Int64)) ||| (128 : Int64))), .second] [(.ref a1)]))
        refine Go.on (fun t k => XS.iload X0.here hx rfl (hb hby d3_64) rfl k) ?_
        show Go p e below _ (s₁.setTop (mkF m 66 #[.val (.ref a1), .val (.int p2), .val (.long vl), .second, .val (.int p4), .val (.int p5), .val (.int p6), .val (.int (p5 - p2)), .val (.long (((ushrJ vl ((7 : Int32) * (p5 - p2))) &&& (127 : Int64)) ||| (128 : Int64))), .second] [(.int p5), (.ref a1)]))
        refine Go.ldB X0 hx hZ e0 F0 (i := K) hkx.1 hkx.2 hK2 (hb hby d3_66) ?_
        rw [hf]
        show Go p e below _ (s₁.setTop (mkF m 67 #[.val (.ref a1), .val (.int p2), .val (.long vl), .second, .val (.int p4), .val (.int p5), .val (.int p6), .val (.int (p5 - p2)), .val (.long (((ushrJ vl ((7 : Int32) * (p5 - p2))) &&& (127 : Int64)) ||| (128 : Int64))), .second] [(.int (own_cv p2 vl p4 p5 p6))]))
        refine Go.on (fun t k => XS.lload X0.here hx rfl (hb hby d3_67) rfl k) ?_
        show Go p e below _ (s₁.setTop (mkF m 69 #[.val (.ref a1), .val (.int p2), .val (.long vl), .second, .val (.int p4), .val (.int p5), .val (.int p6), .val (.int (p5 - p2)), .val (.long (((ushrJ vl ((7 : Int32) * (p5 - p2))) &&& (127 : Int64)) ||| (128 : Int64))), .second] [(.long (((ushrJ vl ((7 : Int32) * (p5 - p2))) &&& (127 : Int64)) ||| (128 : Int64))), (.int (own_cv p2 vl p4 p5 p6))]))
        refine Go.on (fun t k => XS.l2i X0.here hx rfl (hb hby d3_69) rfl k) ?_
        show Go p e below _ (s₁.setTop (mkF m 70 #[.val (.ref a1), .val (.int p2), .val (.long vl), .second, .val (.int p4), .val (.int p5), .val (.int p6), .val (.int (p5 - p2)), .val (.long (((ushrJ vl ((7 : Int32) * (p5 - p2))) &&& (127 : Int64)) ||| (128 : Int64))), .second] [(.int ((((ushrJ vl ((7 : Int32) * (p5 - p2))) &&& (127 : Int64)) ||| (128 : Int64)).toInt32)), (.int (own_cv p2 vl p4 p5 p6))]))
        refine Go.on (fun t k => XS.i2b X0.here hx rfl (hb hby d3_70) rfl k) ?_
        show Go p e below _ (s₁.setTop (mkF m 71 #[.val (.ref a1), .val (.int p2), .val (.long vl), .second, .val (.int p4), .val (.int p5), .val (.int p6), .val (.int (p5 - p2)), .val (.long (((ushrJ vl ((7 : Int32) * (p5 - p2))) &&& (127 : Int64)) ||| (128 : Int64))), .second] [(.int (((((ushrJ vl ((7 : Int32) * (p5 - p2))) &&& (127 : Int64)) ||| (128 : Int64)).toInt32).toInt8.toInt32)), (.int (own_cv p2 vl p4 p5 p6))]))
        refine Go.on (fun t k => XS.icmpNo X0.here hx rfl (hb hby d3_71) rfl (teq (by unfold own_cv; rw [if_neg hc8, if_pos hc15, if_pos hc52] : (own_cv p2 vl p4 p5 p6) = (((((ushrJ vl ((7 : Int32) * (p5 - p2))) &&& (127 : Int64)) ||| (128 : Int64)).toInt32).toInt8.toInt32))).2 k) ?_
        show Go p e below _ (s₁.setTop (mkF m 74 #[.val (.ref a1), .val (.int p2), .val (.long vl), .second, .val (.int p4), .val (.int p5), .val (.int p6), .val (.int (p5 - p2)), .val (.long (((ushrJ vl ((7 : Int32) * (p5 - p2))) &&& (127 : Int64)) ||| (128 : Int64))), .second] []))
        refine Go.on (fun t k => XS.iconst X0.here hx rfl (hb hby d3_74) k) ?_
        show Go p e below _ (s₁.setTop (mkF m 75 #[.val (.ref a1), .val (.int p2), .val (.long vl), .second, .val (.int p4), .val (.int p5), .val (.int p6), .val (.int (p5 - p2)), .val (.long (((ushrJ vl ((7 : Int32) * (p5 - p2))) &&& (127 : Int64)) ||| (128 : Int64))), .second] [(.int (1 : Int32))]))
        refine Go.on (fun t k => XS.goto X0.here hx rfl (pc0 := 75) (pc' := 79) rfl (hb hby d3_75) (by decide) (by decide) k) ?_
        show Go p e below _ (s₁.setTop (mkF m 79 #[.val (.ref a1), .val (.int p2), .val (.long vl), .second, .val (.int p4), .val (.int p5), .val (.int p6), .val (.int (p5 - p2)), .val (.long (((ushrJ vl ((7 : Int32) * (p5 - p2))) &&& (127 : Int64)) ||| (128 : Int64))), .second] [(.int (1 : Int32))]))
        exact Go.retN X0 hx hlk hret (by simp) (hb hby d3_79) (Nat.le_refl _) (Nat.le_refl _) (show QC h0 n0 _ _ _ from ⟨rfl, N0, e0⟩)
      · refine Go.on (fun t k => XS.icmpYes X0.here hx rfl (pc0 := 52) (pc' := 63) rfl (hb hby d3_52) rfl (feq hc52).2 (by decide) (by decide) k) ?_
        show Go p e below _ (s₁.setTop (mkF m 63 #[.val (.ref a1), .val (.int p2), .val (.long vl), .second, .val (.int p4), .val (.int p5), .val (.int p6), .val (.int (p5 - p2)), .val (.long ((ushrJ vl ((7 : Int32) * (p5 - p2))) &&& (127 : Int64))), .second] []))
        refine Go.on (fun t k => XS.aloadN X0.here hx rfl (hb hby d3_63) rfl rfl k) ?_
        show Go p e below _ (s₁.setTop (mkF m 64 #[.val (.ref a1), .val (.int p2), .val (.long vl), .second, .val (.int p4), .val (.int p5), .val (.int p6), .val (.int (p5 - p2)), .val (.long ((ushrJ vl ((7 : Int32) * (p5 - p2))) &&& (127 : Int64))), .second] [(.ref a1)]))
        refine Go.on (fun t k => XS.iload X0.here hx rfl (hb hby d3_64) rfl k) ?_
        show Go p e below _ (s₁.setTop (mkF m 66 #[.val (.ref a1), .val (.int p2), .val (.long vl), .second, .val (.int p4), .val (.int p5), .val (.int p6), .val (.int (p5 - p2)), .val (.long ((ushrJ vl ((7 : Int32) * (p5 - p2))) &&& (127 : Int64))), .second] [(.int p5), (.ref a1)]))
        refine Go.ldB X0 hx hZ e0 F0 (i := K) hkx.1 hkx.2 hK2 (hb hby d3_66) ?_
        rw [hf]
        show Go p e below _ (s₁.setTop (mkF m 67 #[.val (.ref a1), .val (.int p2), .val (.long vl), .second, .val (.int p4), .val (.int p5), .val (.int p6), .val (.int (p5 - p2)), .val (.long ((ushrJ vl ((7 : Int32) * (p5 - p2))) &&& (127 : Int64))), .second] [(.int (own_cv p2 vl p4 p5 p6))]))
        refine Go.on (fun t k => XS.lload X0.here hx rfl (hb hby d3_67) rfl k) ?_
        show Go p e below _ (s₁.setTop (mkF m 69 #[.val (.ref a1), .val (.int p2), .val (.long vl), .second, .val (.int p4), .val (.int p5), .val (.int p6), .val (.int (p5 - p2)), .val (.long ((ushrJ vl ((7 : Int32) * (p5 - p2))) &&& (127 : Int64))), .second] [(.long ((ushrJ vl ((7 : Int32) * (p5 - p2))) &&& (127 : Int64))), (.int (own_cv p2 vl p4 p5 p6))]))
        refine Go.on (fun t k => XS.l2i X0.here hx rfl (hb hby d3_69) rfl k) ?_
        show Go p e below _ (s₁.setTop (mkF m 70 #[.val (.ref a1), .val (.int p2), .val (.long vl), .second, .val (.int p4), .val (.int p5), .val (.int p6), .val (.int (p5 - p2)), .val (.long ((ushrJ vl ((7 : Int32) * (p5 - p2))) &&& (127 : Int64))), .second] [(.int (((ushrJ vl ((7 : Int32) * (p5 - p2))) &&& (127 : Int64)).toInt32)), (.int (own_cv p2 vl p4 p5 p6))]))
        refine Go.on (fun t k => XS.i2b X0.here hx rfl (hb hby d3_70) rfl k) ?_
        show Go p e below _ (s₁.setTop (mkF m 71 #[.val (.ref a1), .val (.int p2), .val (.long vl), .second, .val (.int p4), .val (.int p5), .val (.int p6), .val (.int (p5 - p2)), .val (.long ((ushrJ vl ((7 : Int32) * (p5 - p2))) &&& (127 : Int64))), .second] [(.int ((((ushrJ vl ((7 : Int32) * (p5 - p2))) &&& (127 : Int64)).toInt32).toInt8.toInt32)), (.int (own_cv p2 vl p4 p5 p6))]))
        refine Go.on (fun t k => XS.icmpNo X0.here hx rfl (hb hby d3_71) rfl (teq (by unfold own_cv; rw [if_neg hc8, if_pos hc15, if_neg hc52] : (own_cv p2 vl p4 p5 p6) = ((((ushrJ vl ((7 : Int32) * (p5 - p2))) &&& (127 : Int64)).toInt32).toInt8.toInt32))).2 k) ?_
        show Go p e below _ (s₁.setTop (mkF m 74 #[.val (.ref a1), .val (.int p2), .val (.long vl), .second, .val (.int p4), .val (.int p5), .val (.int p6), .val (.int (p5 - p2)), .val (.long ((ushrJ vl ((7 : Int32) * (p5 - p2))) &&& (127 : Int64))), .second] []))
        refine Go.on (fun t k => XS.iconst X0.here hx rfl (hb hby d3_74) k) ?_
        show Go p e below _ (s₁.setTop (mkF m 75 #[.val (.ref a1), .val (.int p2), .val (.long vl), .second, .val (.int p4), .val (.int p5), .val (.int p6), .val (.int (p5 - p2)), .val (.long ((ushrJ vl ((7 : Int32) * (p5 - p2))) &&& (127 : Int64))), .second] [(.int (1 : Int32))]))
        refine Go.on (fun t k => XS.goto X0.here hx rfl (pc0 := 75) (pc' := 79) rfl (hb hby d3_75) (by decide) (by decide) k) ?_
        show Go p e below _ (s₁.setTop (mkF m 79 #[.val (.ref a1), .val (.int p2), .val (.long vl), .second, .val (.int p4), .val (.int p5), .val (.int p6), .val (.int (p5 - p2)), .val (.long ((ushrJ vl ((7 : Int32) * (p5 - p2))) &&& (127 : Int64))), .second] [(.int (1 : Int32))]))
        exact Go.retN X0 hx hlk hret (by simp) (hb hby d3_79) (Nat.le_refl _) (Nat.le_refl _) (show QC h0 n0 _ _ _ from ⟨rfl, N0, e0⟩)
    · refine Go.on (fun t k => XS.icmpNo X0.here hx rfl (hb hby d3_15) rfl (flt hc15).1 k) ?_
      show Go p e below _ (s₁.setTop (mkF m 18 #[.val (.ref a1), .val (.int p2), .val (.long vl), .second, .val (.int p4), .val (.int p5), .val (.int p6), .val (.int (p5 - p2)), .unset, .unset] []))
      refine Go.on (fun t k => XS.aloadN X0.here hx rfl (hb hby d3_18) rfl rfl k) ?_
      show Go p e below _ (s₁.setTop (mkF m 19 #[.val (.ref a1), .val (.int p2), .val (.long vl), .second, .val (.int p4), .val (.int p5), .val (.int p6), .val (.int (p5 - p2)), .unset, .unset] [(.ref a1)]))
      refine Go.on (fun t k => XS.iload X0.here hx rfl (hb hby d3_19) rfl k) ?_
      show Go p e below _ (s₁.setTop (mkF m 21 #[.val (.ref a1), .val (.int p2), .val (.long vl), .second, .val (.int p4), .val (.int p5), .val (.int p6), .val (.int (p5 - p2)), .unset, .unset] [(.int p5), (.ref a1)]))
      refine Go.ldB X0 hx hZ e0 F0 (i := K) hkx.1 hkx.2 hK2 (hb hby d3_21) ?_
      rw [hf]
      show Go p e below _ (s₁.setTop (mkF m 22 #[.val (.ref a1), .val (.int p2), .val (.long vl), .second, .val (.int p4), .val (.int p5), .val (.int p6), .val (.int (p5 - p2)), .unset, .unset] [(.int (own_cv p2 vl p4 p5 p6))]))
      refine Go.on (fun t k => XS.iload X0.here hx rfl (hb hby d3_22) rfl k) ?_
      show Go p e below _ (s₁.setTop (mkF m 24 #[.val (.ref a1), .val (.int p2), .val (.long vl), .second, .val (.int p4), .val (.int p5), .val (.int p6), .val (.int (p5 - p2)), .unset, .unset] [(.int p6), (.int (own_cv p2 vl p4 p5 p6))]))
      refine Go.on (fun t k => XS.icmpNo X0.here hx rfl (hb hby d3_24) rfl (teq (by unfold own_cv; rw [if_neg hc8, if_neg hc15] : (own_cv p2 vl p4 p5 p6) = p6)).2 k) ?_
      show Go p e below _ (s₁.setTop (mkF m 27 #[.val (.ref a1), .val (.int p2), .val (.long vl), .second, .val (.int p4), .val (.int p5), .val (.int p6), .val (.int (p5 - p2)), .unset, .unset] []))
      refine Go.on (fun t k => XS.iconst X0.here hx rfl (hb hby d3_27) k) ?_
      show Go p e below _ (s₁.setTop (mkF m 28 #[.val (.ref a1), .val (.int p2), .val (.long vl), .second, .val (.int p4), .val (.int p5), .val (.int p6), .val (.int (p5 - p2)), .unset, .unset] [(.int (1 : Int32))]))
      refine Go.on (fun t k => XS.goto X0.here hx rfl (pc0 := 28) (pc' := 32) rfl (hb hby d3_28) (by decide) (by decide) k) ?_
      show Go p e below _ (s₁.setTop (mkF m 32 #[.val (.ref a1), .val (.int p2), .val (.long vl), .second, .val (.int p4), .val (.int p5), .val (.int p6), .val (.int (p5 - p2)), .unset, .unset] [(.int (1 : Int32))]))
      exact Go.retN X0 hx hlk hret (by simp) (hb hby d3_32) (Nat.le_refl _) (Nat.le_refl _) (show QC h0 n0 _ _ _ from ⟨rfl, N0, e0⟩)
def own_v (x : Int64) (s : Int32) : Int64 := ushrJ (x &&& (9223372036854775807 : Int64)) (s &&& (63 : Int32))
def own_fill (f : Int32) : Int32 := f.toInt8.toInt32
def own_at (a : Int32) : Int32 := a &&& (7 : Int32)
theorem own_v_nn (x : Int64) (s : Int32) : 0 ≤ (own_v x s).toInt := by
  apply own_ushr_nn
  rw [c_maskL x 9223372036854775807 63 (by decide) (by decide)]
  omega
theorem own_at_rng (a : Int32) : (own_at a).toInt = ((own_at a).toInt.toNat : Int) ∧ (own_at a).toInt.toNat ≤ 7 := by
  have h : (own_at a).toInt = a.toInt % (2 ^ 3 : Nat) := c_mask a 7 3 (by decide) (by decide)
  have h2 : (2 ^ 3 : Nat) = 8 := by decide
  rw [h2] at h
  omega
def own_w (fill : Int32) (k j : Nat) : Int32 := if j < k then fill else 0
theorem own_wk {fill : Int32} (hf : nar .byte fill = fill) (k j : Nat) : upd (fun j => .int (own_w fill k j)) k (.int (nar .byte fill)) j = .int (own_w fill (k + 1) j) := by
  by_cases c : j = k
  · rw [c, upd_hit, hf]
    unfold own_w
    rw [if_pos (by omega)]
  · have e2 : own_w fill (k + 1) j = own_w fill k j := by
      unfold own_w
      by_cases d : j < k
      · rw [if_pos d, if_pos (by omega)]
      · rw [if_neg d, if_neg (by omega)]
    rw [upd_miss c, e2]
def Q0 (n0 : Nat) (v : Option Value) (h : Heap) (L : List Loc) : Prop := v = some (.int 1) ∧ Fr n0 L
set_option maxRecDepth 65536 in
set_option maxHeartbeats 40000000 in
theorem pC0 {p : Program} {l : Launch} {e : Env} {s : State} {m : MethodId} {args : Array Value} {below : List Frame} {meth : Method} {c : Code} {T : State} {locs : List Loc} {P : Outcome → State → Prop} {Z : State} {a0 : Array Value} (hw : ∀ d ∈ tables_1, d.before a0 Z = true) (X0 : Stand p l e room_1 s m args below meth c T locs 1 16) (hx : p.tables.exec = Jvm.exec) (hby : c.code = code) (hml : c.maxLocals = 13) (hZ : Z.Warmed39 s.vm) (hown : s.vm.findClass "com/example/triplepress/triplepress/container/VByteWritePinLaw" = some m.cls)
    {q1 vv : Int64} {p2 p3 p4 at_ ff en nn : Int32} {a : Addr} {h : Heap} {n0 : Nat} (e0 : T.heap = h) (N0 : Fr n0 locs) (Z0 : n0 ≤ h.size) (F0 : BA Z h a .byte 16 (fun j => .int (own_cv at_ vv nn (Int32.ofNat j) ff)))
    (k : ∀ (T' : State) (locs' : List Loc), Stand p l e room_1 s m args below meth c T' locs' 1 16 → T'.heap = h → Fr n0 locs' → Go p e below P (T'.setTop (mkF m 183 #[.val (.long q1), .second, .val (.int p2), .val (.int p3), .val (.int p4), .val (.long vv), .second, .val (.int at_), .val (.int ff), .val (.ref a), .val (.int en), .val (.int nn), .val (.int (1 : Int32))] []))) : Go p e below P (T.setTop (mkF m 154 #[.val (.long q1), .second, .val (.int p2), .val (.int p3), .val (.int p4), .val (.long vv), .second, .val (.int at_), .val (.int ff), .val (.ref a), .val (.int en), .val (.int nn), .val (.int (1 : Int32))] [])) := by
  refine Go.on (fun t k => XS.iload X0.here hx rfl (hb hby at_154) rfl k) ?_
  show Go p e below _ (T.setTop (mkF m 156 #[.val (.long q1), .second, .val (.int p2), .val (.int p3), .val (.int p4), .val (.long vv), .second, .val (.int at_), .val (.int ff), .val (.ref a), .val (.int en), .val (.int nn), .val (.int (1 : Int32))] [(.int (1 : Int32))]))
  refine Go.on (fun t k => XS.ifNo X0.here hx rfl (hb hby at_156) rfl ((if0 _ _).trans (feq (by decide : ¬ ((1 : Int32) = (0 : Int32)))).1) k) ?_
  show Go p e below _ (T.setTop (mkF m 159 #[.val (.long q1), .second, .val (.int p2), .val (.int p3), .val (.int p4), .val (.long vv), .second, .val (.int at_), .val (.int ff), .val (.ref a), .val (.int en), .val (.int nn), .val (.int (1 : Int32))] []))
  refine Go.on (fun t k => XS.aload X0.here hx rfl (hb hby at_159) rfl rfl k) ?_
  show Go p e below _ (T.setTop (mkF m 161 #[.val (.long q1), .second, .val (.int p2), .val (.int p3), .val (.int p4), .val (.long vv), .second, .val (.int at_), .val (.int ff), .val (.ref a), .val (.int en), .val (.int nn), .val (.int (1 : Int32))] [(.ref a)]))
  refine Go.on (fun t k => XS.iload X0.here hx rfl (hb hby at_161) rfl k) ?_
  show Go p e below _ (T.setTop (mkF m 163 #[.val (.long q1), .second, .val (.int p2), .val (.int p3), .val (.int p4), .val (.long vv), .second, .val (.int at_), .val (.int ff), .val (.ref a), .val (.int en), .val (.int nn), .val (.int (1 : Int32))] [(.int at_), (.ref a)]))
  refine Go.on (fun t k => XS.lload X0.here hx rfl (hb hby at_163) rfl k) ?_
  show Go p e below _ (T.setTop (mkF m 165 #[.val (.long q1), .second, .val (.int p2), .val (.int p3), .val (.int p4), .val (.long vv), .second, .val (.int at_), .val (.int ff), .val (.ref a), .val (.int en), .val (.int nn), .val (.int (1 : Int32))] [(.long vv), (.int at_), (.ref a)]))
  refine Go.on (fun t k => XS.iload X0.here hx rfl (hb hby at_165) rfl k) ?_
  show Go p e below _ (T.setTop (mkF m 167 #[.val (.long q1), .second, .val (.int p2), .val (.int p3), .val (.int p4), .val (.long vv), .second, .val (.int at_), .val (.int ff), .val (.ref a), .val (.int en), .val (.int nn), .val (.int (1 : Int32))] [(.int nn), (.long vv), (.int at_), (.ref a)]))
  refine Go.on (fun t k => XS.iconst X0.here hx rfl (hb hby at_167) k) ?_
  show Go p e below _ (T.setTop (mkF m 168 #[.val (.long q1), .second, .val (.int p2), .val (.int p3), .val (.int p4), .val (.long vv), .second, .val (.int at_), .val (.int ff), .val (.ref a), .val (.int en), .val (.int nn), .val (.int (1 : Int32))] [(.int (0 : Int32)), (.int nn), (.long vv), (.int at_), (.ref a)]))
  refine Go.on (fun t k => XS.iload X0.here hx rfl (hb hby at_168) rfl k) ?_
  show Go p e below _ (T.setTop (mkF m 170 #[.val (.long q1), .second, .val (.int p2), .val (.int p3), .val (.int p4), .val (.long vv), .second, .val (.int at_), .val (.int ff), .val (.ref a), .val (.int en), .val (.int nn), .val (.int (1 : Int32))] [(.int ff), (.int (0 : Int32)), (.int nn), (.long vv), (.int at_), (.ref a)]))
  obtain ⟨_, _, ⟨T11, L11, k11, n11⟩, -, X11, ⟨Lc11, hQ11, l11, y11, z11⟩, st11⟩ := Jvm.LawKit.callS X0 hx (y := (⟨"com/example/triplepress/triplepress/container/VByteWritePinLaw", "cell", "([BIJIIB)Z"⟩ : MethodName)) hown (mvT hZ (hw _ (List.mem_of_getElem? (i := 12) rfl))) (mvT hZ (hw _ (List.mem_of_getElem? (i := 13) rfl))) (mvT hZ (hw _ (List.mem_of_getElem? (i := 9) rfl))) (mvT hZ (hw _ (List.mem_of_getElem? (i := 14) rfl))) (by decide) (backOf (W := 0) (rm3 l Z a0 hw [] a at_ vv nn (0 : Int32) ff 0 (fun j => .int (own_cv at_ vv nn (Int32.ofNat j) ff)) h n0 Z0 F0 (by decide) (by decide) (congrArg (fun z => Value.int (own_cv at_ vv nn z ff)) (by decide : Int32.ofNat 0 = (0 : Int32)))) hZ (hw _ (List.mem_of_getElem? (i := 14) rfl)) (hw _ (List.mem_of_getElem? (i := 9) rfl)) (by decide) (by decide)) (g := (mkF m 170 #[.val (.long q1), .second, .val (.int p2), .val (.int p3), .val (.int p4), .val (.long vv), .second, .val (.int at_), .val (.int ff), .val (.ref a), .val (.int en), .val (.int nn), .val (.int (1 : Int32))] [(.int ff), (.int (0 : Int32)), (.int nn), (.long vv), (.int at_), (.ref a)])) rfl (by rw [hml]; rfl) (argsL := [(.ref a), (.int at_), (.long vv), (.int nn), (.int (0 : Int32)), (.int ff)]) (rest := []) (lenOf pd_1 rfl) rfl (by show 2 * 0 + _ ≤ _; exact Nat.le_of_eq rfl) (hb hby at_170) (fun _ _ => ⟨rfl, e0, (by decide : 1 + 0 ≤ _), (by decide : 16 + 0 ≤ _)⟩)
  dsimp only [Pt.U, Pt.locs, Pt.cells, Pt.slots] at X11 l11 y11 z11 st11 hQ11
  subst l11 y11 z11
  obtain ⟨rfl, N11q, e11⟩ := hQ11
  have N11 := Fr.app N0 N11q
  refine Go.on st11 ?_
  show Go p e below _ (T11.setTop (mkF m 173 #[.val (.long q1), .second, .val (.int p2), .val (.int p3), .val (.int p4), .val (.long vv), .second, .val (.int at_), .val (.int ff), .val (.ref a), .val (.int en), .val (.int nn), .val (.int (1 : Int32))] [(.int (1 : Int32))]))
  refine Go.on (fun t k => XS.ifNo X11.here hx rfl (hb hby at_173) rfl ((if0 _ _).trans (feq (by decide : ¬ ((1 : Int32) = (0 : Int32)))).1) k) ?_
  show Go p e below _ (T11.setTop (mkF m 176 #[.val (.long q1), .second, .val (.int p2), .val (.int p3), .val (.int p4), .val (.long vv), .second, .val (.int at_), .val (.int ff), .val (.ref a), .val (.int en), .val (.int nn), .val (.int (1 : Int32))] []))
  refine Go.on (fun t k => XS.iconst X11.here hx rfl (hb hby at_176) k) ?_
  show Go p e below _ (T11.setTop (mkF m 177 #[.val (.long q1), .second, .val (.int p2), .val (.int p3), .val (.int p4), .val (.long vv), .second, .val (.int at_), .val (.int ff), .val (.ref a), .val (.int en), .val (.int nn), .val (.int (1 : Int32))] [(.int (1 : Int32))]))
  refine Go.on (fun t k => XS.goto X11.here hx rfl (pc0 := 177) (pc' := 181) rfl (hb hby at_177) (by decide) (by decide) k) ?_
  show Go p e below _ (T11.setTop (mkF m 181 #[.val (.long q1), .second, .val (.int p2), .val (.int p3), .val (.int p4), .val (.long vv), .second, .val (.int at_), .val (.int ff), .val (.ref a), .val (.int en), .val (.int nn), .val (.int (1 : Int32))] [(.int (1 : Int32))]))
  refine Go.on (fun t k => XS.istore X11.here hx rfl (hb hby at_181) rfl (l' := #[.val (.long q1), .second, .val (.int p2), .val (.int p3), .val (.int p4), .val (.long vv), .second, .val (.int at_), .val (.int ff), .val (.ref a), .val (.int en), .val (.int nn), .val (.int (1 : Int32))]) rfl k) ?_
  show Go p e below _ (T11.setTop (mkF m 183 #[.val (.long q1), .second, .val (.int p2), .val (.int p3), .val (.int p4), .val (.long vv), .second, .val (.int at_), .val (.int ff), .val (.ref a), .val (.int en), .val (.int nn), .val (.int (1 : Int32))] []))
  exact k T11 _ X11 e11 N11
set_option maxRecDepth 65536 in
set_option maxHeartbeats 40000000 in
theorem pC1 {p : Program} {l : Launch} {e : Env} {s : State} {m : MethodId} {args : Array Value} {below : List Frame} {meth : Method} {c : Code} {T : State} {locs : List Loc} {P : Outcome → State → Prop} {Z : State} {a0 : Array Value} (hw : ∀ d ∈ tables_1, d.before a0 Z = true) (X0 : Stand p l e room_1 s m args below meth c T locs 1 16) (hx : p.tables.exec = Jvm.exec) (hby : c.code = code) (hml : c.maxLocals = 13) (hZ : Z.Warmed39 s.vm) (hown : s.vm.findClass "com/example/triplepress/triplepress/container/VByteWritePinLaw" = some m.cls)
    {q1 vv : Int64} {p2 p3 p4 at_ ff en nn : Int32} {a : Addr} {h : Heap} {n0 : Nat} (e0 : T.heap = h) (N0 : Fr n0 locs) (Z0 : n0 ≤ h.size) (F0 : BA Z h a .byte 16 (fun j => .int (own_cv at_ vv nn (Int32.ofNat j) ff)))
    (k : ∀ (T' : State) (locs' : List Loc), Stand p l e room_1 s m args below meth c T' locs' 1 16 → T'.heap = h → Fr n0 locs' → Go p e below P (T'.setTop (mkF m 212 #[.val (.long q1), .second, .val (.int p2), .val (.int p3), .val (.int p4), .val (.long vv), .second, .val (.int at_), .val (.int ff), .val (.ref a), .val (.int en), .val (.int nn), .val (.int (1 : Int32))] []))) : Go p e below P (T.setTop (mkF m 183 #[.val (.long q1), .second, .val (.int p2), .val (.int p3), .val (.int p4), .val (.long vv), .second, .val (.int at_), .val (.int ff), .val (.ref a), .val (.int en), .val (.int nn), .val (.int (1 : Int32))] [])) := by
  refine Go.on (fun t k => XS.iload X0.here hx rfl (hb hby at_183) rfl k) ?_
  show Go p e below _ (T.setTop (mkF m 185 #[.val (.long q1), .second, .val (.int p2), .val (.int p3), .val (.int p4), .val (.long vv), .second, .val (.int at_), .val (.int ff), .val (.ref a), .val (.int en), .val (.int nn), .val (.int (1 : Int32))] [(.int (1 : Int32))]))
  refine Go.on (fun t k => XS.ifNo X0.here hx rfl (hb hby at_185) rfl ((if0 _ _).trans (feq (by decide : ¬ ((1 : Int32) = (0 : Int32)))).1) k) ?_
  show Go p e below _ (T.setTop (mkF m 188 #[.val (.long q1), .second, .val (.int p2), .val (.int p3), .val (.int p4), .val (.long vv), .second, .val (.int at_), .val (.int ff), .val (.ref a), .val (.int en), .val (.int nn), .val (.int (1 : Int32))] []))
  refine Go.on (fun t k => XS.aload X0.here hx rfl (hb hby at_188) rfl rfl k) ?_
  show Go p e below _ (T.setTop (mkF m 190 #[.val (.long q1), .second, .val (.int p2), .val (.int p3), .val (.int p4), .val (.long vv), .second, .val (.int at_), .val (.int ff), .val (.ref a), .val (.int en), .val (.int nn), .val (.int (1 : Int32))] [(.ref a)]))
  refine Go.on (fun t k => XS.iload X0.here hx rfl (hb hby at_190) rfl k) ?_
  show Go p e below _ (T.setTop (mkF m 192 #[.val (.long q1), .second, .val (.int p2), .val (.int p3), .val (.int p4), .val (.long vv), .second, .val (.int at_), .val (.int ff), .val (.ref a), .val (.int en), .val (.int nn), .val (.int (1 : Int32))] [(.int at_), (.ref a)]))
  refine Go.on (fun t k => XS.lload X0.here hx rfl (hb hby at_192) rfl k) ?_
  show Go p e below _ (T.setTop (mkF m 194 #[.val (.long q1), .second, .val (.int p2), .val (.int p3), .val (.int p4), .val (.long vv), .second, .val (.int at_), .val (.int ff), .val (.ref a), .val (.int en), .val (.int nn), .val (.int (1 : Int32))] [(.long vv), (.int at_), (.ref a)]))
  refine Go.on (fun t k => XS.iload X0.here hx rfl (hb hby at_194) rfl k) ?_
  show Go p e below _ (T.setTop (mkF m 196 #[.val (.long q1), .second, .val (.int p2), .val (.int p3), .val (.int p4), .val (.long vv), .second, .val (.int at_), .val (.int ff), .val (.ref a), .val (.int en), .val (.int nn), .val (.int (1 : Int32))] [(.int nn), (.long vv), (.int at_), (.ref a)]))
  refine Go.on (fun t k => XS.iconst X0.here hx rfl (hb hby at_196) k) ?_
  show Go p e below _ (T.setTop (mkF m 197 #[.val (.long q1), .second, .val (.int p2), .val (.int p3), .val (.int p4), .val (.long vv), .second, .val (.int at_), .val (.int ff), .val (.ref a), .val (.int en), .val (.int nn), .val (.int (1 : Int32))] [(.int (1 : Int32)), (.int nn), (.long vv), (.int at_), (.ref a)]))
  refine Go.on (fun t k => XS.iload X0.here hx rfl (hb hby at_197) rfl k) ?_
  show Go p e below _ (T.setTop (mkF m 199 #[.val (.long q1), .second, .val (.int p2), .val (.int p3), .val (.int p4), .val (.long vv), .second, .val (.int at_), .val (.int ff), .val (.ref a), .val (.int en), .val (.int nn), .val (.int (1 : Int32))] [(.int ff), (.int (1 : Int32)), (.int nn), (.long vv), (.int at_), (.ref a)]))
  obtain ⟨_, _, ⟨T11, L11, k11, n11⟩, -, X11, ⟨Lc11, hQ11, l11, y11, z11⟩, st11⟩ := Jvm.LawKit.callS X0 hx (y := (⟨"com/example/triplepress/triplepress/container/VByteWritePinLaw", "cell", "([BIJIIB)Z"⟩ : MethodName)) hown (mvT hZ (hw _ (List.mem_of_getElem? (i := 12) rfl))) (mvT hZ (hw _ (List.mem_of_getElem? (i := 13) rfl))) (mvT hZ (hw _ (List.mem_of_getElem? (i := 9) rfl))) (mvT hZ (hw _ (List.mem_of_getElem? (i := 14) rfl))) (by decide) (backOf (W := 0) (rm3 l Z a0 hw [] a at_ vv nn (1 : Int32) ff 1 (fun j => .int (own_cv at_ vv nn (Int32.ofNat j) ff)) h n0 Z0 F0 (by decide) (by decide) (congrArg (fun z => Value.int (own_cv at_ vv nn z ff)) (by decide : Int32.ofNat 1 = (1 : Int32)))) hZ (hw _ (List.mem_of_getElem? (i := 14) rfl)) (hw _ (List.mem_of_getElem? (i := 9) rfl)) (by decide) (by decide)) (g := (mkF m 199 #[.val (.long q1), .second, .val (.int p2), .val (.int p3), .val (.int p4), .val (.long vv), .second, .val (.int at_), .val (.int ff), .val (.ref a), .val (.int en), .val (.int nn), .val (.int (1 : Int32))] [(.int ff), (.int (1 : Int32)), (.int nn), (.long vv), (.int at_), (.ref a)])) rfl (by rw [hml]; rfl) (argsL := [(.ref a), (.int at_), (.long vv), (.int nn), (.int (1 : Int32)), (.int ff)]) (rest := []) (lenOf pd_1 rfl) rfl (by show 2 * 0 + _ ≤ _; exact Nat.le_of_eq rfl) (hb hby at_199) (fun _ _ => ⟨rfl, e0, (by decide : 1 + 0 ≤ _), (by decide : 16 + 0 ≤ _)⟩)
  dsimp only [Pt.U, Pt.locs, Pt.cells, Pt.slots] at X11 l11 y11 z11 st11 hQ11
  subst l11 y11 z11
  obtain ⟨rfl, N11q, e11⟩ := hQ11
  have N11 := Fr.app N0 N11q
  refine Go.on st11 ?_
  show Go p e below _ (T11.setTop (mkF m 202 #[.val (.long q1), .second, .val (.int p2), .val (.int p3), .val (.int p4), .val (.long vv), .second, .val (.int at_), .val (.int ff), .val (.ref a), .val (.int en), .val (.int nn), .val (.int (1 : Int32))] [(.int (1 : Int32))]))
  refine Go.on (fun t k => XS.ifNo X11.here hx rfl (hb hby at_202) rfl ((if0 _ _).trans (feq (by decide : ¬ ((1 : Int32) = (0 : Int32)))).1) k) ?_
  show Go p e below _ (T11.setTop (mkF m 205 #[.val (.long q1), .second, .val (.int p2), .val (.int p3), .val (.int p4), .val (.long vv), .second, .val (.int at_), .val (.int ff), .val (.ref a), .val (.int en), .val (.int nn), .val (.int (1 : Int32))] []))
  refine Go.on (fun t k => XS.iconst X11.here hx rfl (hb hby at_205) k) ?_
  show Go p e below _ (T11.setTop (mkF m 206 #[.val (.long q1), .second, .val (.int p2), .val (.int p3), .val (.int p4), .val (.long vv), .second, .val (.int at_), .val (.int ff), .val (.ref a), .val (.int en), .val (.int nn), .val (.int (1 : Int32))] [(.int (1 : Int32))]))
  refine Go.on (fun t k => XS.goto X11.here hx rfl (pc0 := 206) (pc' := 210) rfl (hb hby at_206) (by decide) (by decide) k) ?_
  show Go p e below _ (T11.setTop (mkF m 210 #[.val (.long q1), .second, .val (.int p2), .val (.int p3), .val (.int p4), .val (.long vv), .second, .val (.int at_), .val (.int ff), .val (.ref a), .val (.int en), .val (.int nn), .val (.int (1 : Int32))] [(.int (1 : Int32))]))
  refine Go.on (fun t k => XS.istore X11.here hx rfl (hb hby at_210) rfl (l' := #[.val (.long q1), .second, .val (.int p2), .val (.int p3), .val (.int p4), .val (.long vv), .second, .val (.int at_), .val (.int ff), .val (.ref a), .val (.int en), .val (.int nn), .val (.int (1 : Int32))]) rfl k) ?_
  show Go p e below _ (T11.setTop (mkF m 212 #[.val (.long q1), .second, .val (.int p2), .val (.int p3), .val (.int p4), .val (.long vv), .second, .val (.int at_), .val (.int ff), .val (.ref a), .val (.int en), .val (.int nn), .val (.int (1 : Int32))] []))
  exact k T11 _ X11 e11 N11
set_option maxRecDepth 65536 in
set_option maxHeartbeats 40000000 in
theorem pC2 {p : Program} {l : Launch} {e : Env} {s : State} {m : MethodId} {args : Array Value} {below : List Frame} {meth : Method} {c : Code} {T : State} {locs : List Loc} {P : Outcome → State → Prop} {Z : State} {a0 : Array Value} (hw : ∀ d ∈ tables_1, d.before a0 Z = true) (X0 : Stand p l e room_1 s m args below meth c T locs 1 16) (hx : p.tables.exec = Jvm.exec) (hby : c.code = code) (hml : c.maxLocals = 13) (hZ : Z.Warmed39 s.vm) (hown : s.vm.findClass "com/example/triplepress/triplepress/container/VByteWritePinLaw" = some m.cls)
    {q1 vv : Int64} {p2 p3 p4 at_ ff en nn : Int32} {a : Addr} {h : Heap} {n0 : Nat} (e0 : T.heap = h) (N0 : Fr n0 locs) (Z0 : n0 ≤ h.size) (F0 : BA Z h a .byte 16 (fun j => .int (own_cv at_ vv nn (Int32.ofNat j) ff)))
    (k : ∀ (T' : State) (locs' : List Loc), Stand p l e room_1 s m args below meth c T' locs' 1 16 → T'.heap = h → Fr n0 locs' → Go p e below P (T'.setTop (mkF m 241 #[.val (.long q1), .second, .val (.int p2), .val (.int p3), .val (.int p4), .val (.long vv), .second, .val (.int at_), .val (.int ff), .val (.ref a), .val (.int en), .val (.int nn), .val (.int (1 : Int32))] []))) : Go p e below P (T.setTop (mkF m 212 #[.val (.long q1), .second, .val (.int p2), .val (.int p3), .val (.int p4), .val (.long vv), .second, .val (.int at_), .val (.int ff), .val (.ref a), .val (.int en), .val (.int nn), .val (.int (1 : Int32))] [])) := by
  refine Go.on (fun t k => XS.iload X0.here hx rfl (hb hby at_212) rfl k) ?_
  show Go p e below _ (T.setTop (mkF m 214 #[.val (.long q1), .second, .val (.int p2), .val (.int p3), .val (.int p4), .val (.long vv), .second, .val (.int at_), .val (.int ff), .val (.ref a), .val (.int en), .val (.int nn), .val (.int (1 : Int32))] [(.int (1 : Int32))]))
  refine Go.on (fun t k => XS.ifNo X0.here hx rfl (hb hby at_214) rfl ((if0 _ _).trans (feq (by decide : ¬ ((1 : Int32) = (0 : Int32)))).1) k) ?_
  show Go p e below _ (T.setTop (mkF m 217 #[.val (.long q1), .second, .val (.int p2), .val (.int p3), .val (.int p4), .val (.long vv), .second, .val (.int at_), .val (.int ff), .val (.ref a), .val (.int en), .val (.int nn), .val (.int (1 : Int32))] []))
  refine Go.on (fun t k => XS.aload X0.here hx rfl (hb hby at_217) rfl rfl k) ?_
  show Go p e below _ (T.setTop (mkF m 219 #[.val (.long q1), .second, .val (.int p2), .val (.int p3), .val (.int p4), .val (.long vv), .second, .val (.int at_), .val (.int ff), .val (.ref a), .val (.int en), .val (.int nn), .val (.int (1 : Int32))] [(.ref a)]))
  refine Go.on (fun t k => XS.iload X0.here hx rfl (hb hby at_219) rfl k) ?_
  show Go p e below _ (T.setTop (mkF m 221 #[.val (.long q1), .second, .val (.int p2), .val (.int p3), .val (.int p4), .val (.long vv), .second, .val (.int at_), .val (.int ff), .val (.ref a), .val (.int en), .val (.int nn), .val (.int (1 : Int32))] [(.int at_), (.ref a)]))
  refine Go.on (fun t k => XS.lload X0.here hx rfl (hb hby at_221) rfl k) ?_
  show Go p e below _ (T.setTop (mkF m 223 #[.val (.long q1), .second, .val (.int p2), .val (.int p3), .val (.int p4), .val (.long vv), .second, .val (.int at_), .val (.int ff), .val (.ref a), .val (.int en), .val (.int nn), .val (.int (1 : Int32))] [(.long vv), (.int at_), (.ref a)]))
  refine Go.on (fun t k => XS.iload X0.here hx rfl (hb hby at_223) rfl k) ?_
  show Go p e below _ (T.setTop (mkF m 225 #[.val (.long q1), .second, .val (.int p2), .val (.int p3), .val (.int p4), .val (.long vv), .second, .val (.int at_), .val (.int ff), .val (.ref a), .val (.int en), .val (.int nn), .val (.int (1 : Int32))] [(.int nn), (.long vv), (.int at_), (.ref a)]))
  refine Go.on (fun t k => XS.iconst X0.here hx rfl (hb hby at_225) k) ?_
  show Go p e below _ (T.setTop (mkF m 226 #[.val (.long q1), .second, .val (.int p2), .val (.int p3), .val (.int p4), .val (.long vv), .second, .val (.int at_), .val (.int ff), .val (.ref a), .val (.int en), .val (.int nn), .val (.int (1 : Int32))] [(.int (2 : Int32)), (.int nn), (.long vv), (.int at_), (.ref a)]))
  refine Go.on (fun t k => XS.iload X0.here hx rfl (hb hby at_226) rfl k) ?_
  show Go p e below _ (T.setTop (mkF m 228 #[.val (.long q1), .second, .val (.int p2), .val (.int p3), .val (.int p4), .val (.long vv), .second, .val (.int at_), .val (.int ff), .val (.ref a), .val (.int en), .val (.int nn), .val (.int (1 : Int32))] [(.int ff), (.int (2 : Int32)), (.int nn), (.long vv), (.int at_), (.ref a)]))
  obtain ⟨_, _, ⟨T11, L11, k11, n11⟩, -, X11, ⟨Lc11, hQ11, l11, y11, z11⟩, st11⟩ := Jvm.LawKit.callS X0 hx (y := (⟨"com/example/triplepress/triplepress/container/VByteWritePinLaw", "cell", "([BIJIIB)Z"⟩ : MethodName)) hown (mvT hZ (hw _ (List.mem_of_getElem? (i := 12) rfl))) (mvT hZ (hw _ (List.mem_of_getElem? (i := 13) rfl))) (mvT hZ (hw _ (List.mem_of_getElem? (i := 9) rfl))) (mvT hZ (hw _ (List.mem_of_getElem? (i := 14) rfl))) (by decide) (backOf (W := 0) (rm3 l Z a0 hw [] a at_ vv nn (2 : Int32) ff 2 (fun j => .int (own_cv at_ vv nn (Int32.ofNat j) ff)) h n0 Z0 F0 (by decide) (by decide) (congrArg (fun z => Value.int (own_cv at_ vv nn z ff)) (by decide : Int32.ofNat 2 = (2 : Int32)))) hZ (hw _ (List.mem_of_getElem? (i := 14) rfl)) (hw _ (List.mem_of_getElem? (i := 9) rfl)) (by decide) (by decide)) (g := (mkF m 228 #[.val (.long q1), .second, .val (.int p2), .val (.int p3), .val (.int p4), .val (.long vv), .second, .val (.int at_), .val (.int ff), .val (.ref a), .val (.int en), .val (.int nn), .val (.int (1 : Int32))] [(.int ff), (.int (2 : Int32)), (.int nn), (.long vv), (.int at_), (.ref a)])) rfl (by rw [hml]; rfl) (argsL := [(.ref a), (.int at_), (.long vv), (.int nn), (.int (2 : Int32)), (.int ff)]) (rest := []) (lenOf pd_1 rfl) rfl (by show 2 * 0 + _ ≤ _; exact Nat.le_of_eq rfl) (hb hby at_228) (fun _ _ => ⟨rfl, e0, (by decide : 1 + 0 ≤ _), (by decide : 16 + 0 ≤ _)⟩)
  dsimp only [Pt.U, Pt.locs, Pt.cells, Pt.slots] at X11 l11 y11 z11 st11 hQ11
  subst l11 y11 z11
  obtain ⟨rfl, N11q, e11⟩ := hQ11
  have N11 := Fr.app N0 N11q
  refine Go.on st11 ?_
  show Go p e below _ (T11.setTop (mkF m 231 #[.val (.long q1), .second, .val (.int p2), .val (.int p3), .val (.int p4), .val (.long vv), .second, .val (.int at_), .val (.int ff), .val (.ref a), .val (.int en), .val (.int nn), .val (.int (1 : Int32))] [(.int (1 : Int32))]))
  refine Go.on (fun t k => XS.ifNo X11.here hx rfl (hb hby at_231) rfl ((if0 _ _).trans (feq (by decide : ¬ ((1 : Int32) = (0 : Int32)))).1) k) ?_
  show Go p e below _ (T11.setTop (mkF m 234 #[.val (.long q1), .second, .val (.int p2), .val (.int p3), .val (.int p4), .val (.long vv), .second, .val (.int at_), .val (.int ff), .val (.ref a), .val (.int en), .val (.int nn), .val (.int (1 : Int32))] []))
  refine Go.on (fun t k => XS.iconst X11.here hx rfl (hb hby at_234) k) ?_
  show Go p e below _ (T11.setTop (mkF m 235 #[.val (.long q1), .second, .val (.int p2), .val (.int p3), .val (.int p4), .val (.long vv), .second, .val (.int at_), .val (.int ff), .val (.ref a), .val (.int en), .val (.int nn), .val (.int (1 : Int32))] [(.int (1 : Int32))]))
  refine Go.on (fun t k => XS.goto X11.here hx rfl (pc0 := 235) (pc' := 239) rfl (hb hby at_235) (by decide) (by decide) k) ?_
  show Go p e below _ (T11.setTop (mkF m 239 #[.val (.long q1), .second, .val (.int p2), .val (.int p3), .val (.int p4), .val (.long vv), .second, .val (.int at_), .val (.int ff), .val (.ref a), .val (.int en), .val (.int nn), .val (.int (1 : Int32))] [(.int (1 : Int32))]))
  refine Go.on (fun t k => XS.istore X11.here hx rfl (hb hby at_239) rfl (l' := #[.val (.long q1), .second, .val (.int p2), .val (.int p3), .val (.int p4), .val (.long vv), .second, .val (.int at_), .val (.int ff), .val (.ref a), .val (.int en), .val (.int nn), .val (.int (1 : Int32))]) rfl k) ?_
  show Go p e below _ (T11.setTop (mkF m 241 #[.val (.long q1), .second, .val (.int p2), .val (.int p3), .val (.int p4), .val (.long vv), .second, .val (.int at_), .val (.int ff), .val (.ref a), .val (.int en), .val (.int nn), .val (.int (1 : Int32))] []))
  exact k T11 _ X11 e11 N11
set_option maxRecDepth 65536 in
set_option maxHeartbeats 40000000 in
theorem pC3 {p : Program} {l : Launch} {e : Env} {s : State} {m : MethodId} {args : Array Value} {below : List Frame} {meth : Method} {c : Code} {T : State} {locs : List Loc} {P : Outcome → State → Prop} {Z : State} {a0 : Array Value} (hw : ∀ d ∈ tables_1, d.before a0 Z = true) (X0 : Stand p l e room_1 s m args below meth c T locs 1 16) (hx : p.tables.exec = Jvm.exec) (hby : c.code = code) (hml : c.maxLocals = 13) (hZ : Z.Warmed39 s.vm) (hown : s.vm.findClass "com/example/triplepress/triplepress/container/VByteWritePinLaw" = some m.cls)
    {q1 vv : Int64} {p2 p3 p4 at_ ff en nn : Int32} {a : Addr} {h : Heap} {n0 : Nat} (e0 : T.heap = h) (N0 : Fr n0 locs) (Z0 : n0 ≤ h.size) (F0 : BA Z h a .byte 16 (fun j => .int (own_cv at_ vv nn (Int32.ofNat j) ff)))
    (k : ∀ (T' : State) (locs' : List Loc), Stand p l e room_1 s m args below meth c T' locs' 1 16 → T'.heap = h → Fr n0 locs' → Go p e below P (T'.setTop (mkF m 270 #[.val (.long q1), .second, .val (.int p2), .val (.int p3), .val (.int p4), .val (.long vv), .second, .val (.int at_), .val (.int ff), .val (.ref a), .val (.int en), .val (.int nn), .val (.int (1 : Int32))] []))) : Go p e below P (T.setTop (mkF m 241 #[.val (.long q1), .second, .val (.int p2), .val (.int p3), .val (.int p4), .val (.long vv), .second, .val (.int at_), .val (.int ff), .val (.ref a), .val (.int en), .val (.int nn), .val (.int (1 : Int32))] [])) := by
  refine Go.on (fun t k => XS.iload X0.here hx rfl (hb hby at_241) rfl k) ?_
  show Go p e below _ (T.setTop (mkF m 243 #[.val (.long q1), .second, .val (.int p2), .val (.int p3), .val (.int p4), .val (.long vv), .second, .val (.int at_), .val (.int ff), .val (.ref a), .val (.int en), .val (.int nn), .val (.int (1 : Int32))] [(.int (1 : Int32))]))
  refine Go.on (fun t k => XS.ifNo X0.here hx rfl (hb hby at_243) rfl ((if0 _ _).trans (feq (by decide : ¬ ((1 : Int32) = (0 : Int32)))).1) k) ?_
  show Go p e below _ (T.setTop (mkF m 246 #[.val (.long q1), .second, .val (.int p2), .val (.int p3), .val (.int p4), .val (.long vv), .second, .val (.int at_), .val (.int ff), .val (.ref a), .val (.int en), .val (.int nn), .val (.int (1 : Int32))] []))
  refine Go.on (fun t k => XS.aload X0.here hx rfl (hb hby at_246) rfl rfl k) ?_
  show Go p e below _ (T.setTop (mkF m 248 #[.val (.long q1), .second, .val (.int p2), .val (.int p3), .val (.int p4), .val (.long vv), .second, .val (.int at_), .val (.int ff), .val (.ref a), .val (.int en), .val (.int nn), .val (.int (1 : Int32))] [(.ref a)]))
  refine Go.on (fun t k => XS.iload X0.here hx rfl (hb hby at_248) rfl k) ?_
  show Go p e below _ (T.setTop (mkF m 250 #[.val (.long q1), .second, .val (.int p2), .val (.int p3), .val (.int p4), .val (.long vv), .second, .val (.int at_), .val (.int ff), .val (.ref a), .val (.int en), .val (.int nn), .val (.int (1 : Int32))] [(.int at_), (.ref a)]))
  refine Go.on (fun t k => XS.lload X0.here hx rfl (hb hby at_250) rfl k) ?_
  show Go p e below _ (T.setTop (mkF m 252 #[.val (.long q1), .second, .val (.int p2), .val (.int p3), .val (.int p4), .val (.long vv), .second, .val (.int at_), .val (.int ff), .val (.ref a), .val (.int en), .val (.int nn), .val (.int (1 : Int32))] [(.long vv), (.int at_), (.ref a)]))
  refine Go.on (fun t k => XS.iload X0.here hx rfl (hb hby at_252) rfl k) ?_
  show Go p e below _ (T.setTop (mkF m 254 #[.val (.long q1), .second, .val (.int p2), .val (.int p3), .val (.int p4), .val (.long vv), .second, .val (.int at_), .val (.int ff), .val (.ref a), .val (.int en), .val (.int nn), .val (.int (1 : Int32))] [(.int nn), (.long vv), (.int at_), (.ref a)]))
  refine Go.on (fun t k => XS.iconst X0.here hx rfl (hb hby at_254) k) ?_
  show Go p e below _ (T.setTop (mkF m 255 #[.val (.long q1), .second, .val (.int p2), .val (.int p3), .val (.int p4), .val (.long vv), .second, .val (.int at_), .val (.int ff), .val (.ref a), .val (.int en), .val (.int nn), .val (.int (1 : Int32))] [(.int (3 : Int32)), (.int nn), (.long vv), (.int at_), (.ref a)]))
  refine Go.on (fun t k => XS.iload X0.here hx rfl (hb hby at_255) rfl k) ?_
  show Go p e below _ (T.setTop (mkF m 257 #[.val (.long q1), .second, .val (.int p2), .val (.int p3), .val (.int p4), .val (.long vv), .second, .val (.int at_), .val (.int ff), .val (.ref a), .val (.int en), .val (.int nn), .val (.int (1 : Int32))] [(.int ff), (.int (3 : Int32)), (.int nn), (.long vv), (.int at_), (.ref a)]))
  obtain ⟨_, _, ⟨T11, L11, k11, n11⟩, -, X11, ⟨Lc11, hQ11, l11, y11, z11⟩, st11⟩ := Jvm.LawKit.callS X0 hx (y := (⟨"com/example/triplepress/triplepress/container/VByteWritePinLaw", "cell", "([BIJIIB)Z"⟩ : MethodName)) hown (mvT hZ (hw _ (List.mem_of_getElem? (i := 12) rfl))) (mvT hZ (hw _ (List.mem_of_getElem? (i := 13) rfl))) (mvT hZ (hw _ (List.mem_of_getElem? (i := 9) rfl))) (mvT hZ (hw _ (List.mem_of_getElem? (i := 14) rfl))) (by decide) (backOf (W := 0) (rm3 l Z a0 hw [] a at_ vv nn (3 : Int32) ff 3 (fun j => .int (own_cv at_ vv nn (Int32.ofNat j) ff)) h n0 Z0 F0 (by decide) (by decide) (congrArg (fun z => Value.int (own_cv at_ vv nn z ff)) (by decide : Int32.ofNat 3 = (3 : Int32)))) hZ (hw _ (List.mem_of_getElem? (i := 14) rfl)) (hw _ (List.mem_of_getElem? (i := 9) rfl)) (by decide) (by decide)) (g := (mkF m 257 #[.val (.long q1), .second, .val (.int p2), .val (.int p3), .val (.int p4), .val (.long vv), .second, .val (.int at_), .val (.int ff), .val (.ref a), .val (.int en), .val (.int nn), .val (.int (1 : Int32))] [(.int ff), (.int (3 : Int32)), (.int nn), (.long vv), (.int at_), (.ref a)])) rfl (by rw [hml]; rfl) (argsL := [(.ref a), (.int at_), (.long vv), (.int nn), (.int (3 : Int32)), (.int ff)]) (rest := []) (lenOf pd_1 rfl) rfl (by show 2 * 0 + _ ≤ _; exact Nat.le_of_eq rfl) (hb hby at_257) (fun _ _ => ⟨rfl, e0, (by decide : 1 + 0 ≤ _), (by decide : 16 + 0 ≤ _)⟩)
  dsimp only [Pt.U, Pt.locs, Pt.cells, Pt.slots] at X11 l11 y11 z11 st11 hQ11
  subst l11 y11 z11
  obtain ⟨rfl, N11q, e11⟩ := hQ11
  have N11 := Fr.app N0 N11q
  refine Go.on st11 ?_
  show Go p e below _ (T11.setTop (mkF m 260 #[.val (.long q1), .second, .val (.int p2), .val (.int p3), .val (.int p4), .val (.long vv), .second, .val (.int at_), .val (.int ff), .val (.ref a), .val (.int en), .val (.int nn), .val (.int (1 : Int32))] [(.int (1 : Int32))]))
  refine Go.on (fun t k => XS.ifNo X11.here hx rfl (hb hby at_260) rfl ((if0 _ _).trans (feq (by decide : ¬ ((1 : Int32) = (0 : Int32)))).1) k) ?_
  show Go p e below _ (T11.setTop (mkF m 263 #[.val (.long q1), .second, .val (.int p2), .val (.int p3), .val (.int p4), .val (.long vv), .second, .val (.int at_), .val (.int ff), .val (.ref a), .val (.int en), .val (.int nn), .val (.int (1 : Int32))] []))
  refine Go.on (fun t k => XS.iconst X11.here hx rfl (hb hby at_263) k) ?_
  show Go p e below _ (T11.setTop (mkF m 264 #[.val (.long q1), .second, .val (.int p2), .val (.int p3), .val (.int p4), .val (.long vv), .second, .val (.int at_), .val (.int ff), .val (.ref a), .val (.int en), .val (.int nn), .val (.int (1 : Int32))] [(.int (1 : Int32))]))
  refine Go.on (fun t k => XS.goto X11.here hx rfl (pc0 := 264) (pc' := 268) rfl (hb hby at_264) (by decide) (by decide) k) ?_
  show Go p e below _ (T11.setTop (mkF m 268 #[.val (.long q1), .second, .val (.int p2), .val (.int p3), .val (.int p4), .val (.long vv), .second, .val (.int at_), .val (.int ff), .val (.ref a), .val (.int en), .val (.int nn), .val (.int (1 : Int32))] [(.int (1 : Int32))]))
  refine Go.on (fun t k => XS.istore X11.here hx rfl (hb hby at_268) rfl (l' := #[.val (.long q1), .second, .val (.int p2), .val (.int p3), .val (.int p4), .val (.long vv), .second, .val (.int at_), .val (.int ff), .val (.ref a), .val (.int en), .val (.int nn), .val (.int (1 : Int32))]) rfl k) ?_
  show Go p e below _ (T11.setTop (mkF m 270 #[.val (.long q1), .second, .val (.int p2), .val (.int p3), .val (.int p4), .val (.long vv), .second, .val (.int at_), .val (.int ff), .val (.ref a), .val (.int en), .val (.int nn), .val (.int (1 : Int32))] []))
  exact k T11 _ X11 e11 N11
set_option maxRecDepth 65536 in
set_option maxHeartbeats 40000000 in
theorem pC4 {p : Program} {l : Launch} {e : Env} {s : State} {m : MethodId} {args : Array Value} {below : List Frame} {meth : Method} {c : Code} {T : State} {locs : List Loc} {P : Outcome → State → Prop} {Z : State} {a0 : Array Value} (hw : ∀ d ∈ tables_1, d.before a0 Z = true) (X0 : Stand p l e room_1 s m args below meth c T locs 1 16) (hx : p.tables.exec = Jvm.exec) (hby : c.code = code) (hml : c.maxLocals = 13) (hZ : Z.Warmed39 s.vm) (hown : s.vm.findClass "com/example/triplepress/triplepress/container/VByteWritePinLaw" = some m.cls)
    {q1 vv : Int64} {p2 p3 p4 at_ ff en nn : Int32} {a : Addr} {h : Heap} {n0 : Nat} (e0 : T.heap = h) (N0 : Fr n0 locs) (Z0 : n0 ≤ h.size) (F0 : BA Z h a .byte 16 (fun j => .int (own_cv at_ vv nn (Int32.ofNat j) ff)))
    (k : ∀ (T' : State) (locs' : List Loc), Stand p l e room_1 s m args below meth c T' locs' 1 16 → T'.heap = h → Fr n0 locs' → Go p e below P (T'.setTop (mkF m 299 #[.val (.long q1), .second, .val (.int p2), .val (.int p3), .val (.int p4), .val (.long vv), .second, .val (.int at_), .val (.int ff), .val (.ref a), .val (.int en), .val (.int nn), .val (.int (1 : Int32))] []))) : Go p e below P (T.setTop (mkF m 270 #[.val (.long q1), .second, .val (.int p2), .val (.int p3), .val (.int p4), .val (.long vv), .second, .val (.int at_), .val (.int ff), .val (.ref a), .val (.int en), .val (.int nn), .val (.int (1 : Int32))] [])) := by
  refine Go.on (fun t k => XS.iload X0.here hx rfl (hb hby at_270) rfl k) ?_
  show Go p e below _ (T.setTop (mkF m 272 #[.val (.long q1), .second, .val (.int p2), .val (.int p3), .val (.int p4), .val (.long vv), .second, .val (.int at_), .val (.int ff), .val (.ref a), .val (.int en), .val (.int nn), .val (.int (1 : Int32))] [(.int (1 : Int32))]))
  refine Go.on (fun t k => XS.ifNo X0.here hx rfl (hb hby at_272) rfl ((if0 _ _).trans (feq (by decide : ¬ ((1 : Int32) = (0 : Int32)))).1) k) ?_
  show Go p e below _ (T.setTop (mkF m 275 #[.val (.long q1), .second, .val (.int p2), .val (.int p3), .val (.int p4), .val (.long vv), .second, .val (.int at_), .val (.int ff), .val (.ref a), .val (.int en), .val (.int nn), .val (.int (1 : Int32))] []))
  refine Go.on (fun t k => XS.aload X0.here hx rfl (hb hby at_275) rfl rfl k) ?_
  show Go p e below _ (T.setTop (mkF m 277 #[.val (.long q1), .second, .val (.int p2), .val (.int p3), .val (.int p4), .val (.long vv), .second, .val (.int at_), .val (.int ff), .val (.ref a), .val (.int en), .val (.int nn), .val (.int (1 : Int32))] [(.ref a)]))
  refine Go.on (fun t k => XS.iload X0.here hx rfl (hb hby at_277) rfl k) ?_
  show Go p e below _ (T.setTop (mkF m 279 #[.val (.long q1), .second, .val (.int p2), .val (.int p3), .val (.int p4), .val (.long vv), .second, .val (.int at_), .val (.int ff), .val (.ref a), .val (.int en), .val (.int nn), .val (.int (1 : Int32))] [(.int at_), (.ref a)]))
  refine Go.on (fun t k => XS.lload X0.here hx rfl (hb hby at_279) rfl k) ?_
  show Go p e below _ (T.setTop (mkF m 281 #[.val (.long q1), .second, .val (.int p2), .val (.int p3), .val (.int p4), .val (.long vv), .second, .val (.int at_), .val (.int ff), .val (.ref a), .val (.int en), .val (.int nn), .val (.int (1 : Int32))] [(.long vv), (.int at_), (.ref a)]))
  refine Go.on (fun t k => XS.iload X0.here hx rfl (hb hby at_281) rfl k) ?_
  show Go p e below _ (T.setTop (mkF m 283 #[.val (.long q1), .second, .val (.int p2), .val (.int p3), .val (.int p4), .val (.long vv), .second, .val (.int at_), .val (.int ff), .val (.ref a), .val (.int en), .val (.int nn), .val (.int (1 : Int32))] [(.int nn), (.long vv), (.int at_), (.ref a)]))
  refine Go.on (fun t k => XS.iconst X0.here hx rfl (hb hby at_283) k) ?_
  show Go p e below _ (T.setTop (mkF m 284 #[.val (.long q1), .second, .val (.int p2), .val (.int p3), .val (.int p4), .val (.long vv), .second, .val (.int at_), .val (.int ff), .val (.ref a), .val (.int en), .val (.int nn), .val (.int (1 : Int32))] [(.int (4 : Int32)), (.int nn), (.long vv), (.int at_), (.ref a)]))
  refine Go.on (fun t k => XS.iload X0.here hx rfl (hb hby at_284) rfl k) ?_
  show Go p e below _ (T.setTop (mkF m 286 #[.val (.long q1), .second, .val (.int p2), .val (.int p3), .val (.int p4), .val (.long vv), .second, .val (.int at_), .val (.int ff), .val (.ref a), .val (.int en), .val (.int nn), .val (.int (1 : Int32))] [(.int ff), (.int (4 : Int32)), (.int nn), (.long vv), (.int at_), (.ref a)]))
  obtain ⟨_, _, ⟨T11, L11, k11, n11⟩, -, X11, ⟨Lc11, hQ11, l11, y11, z11⟩, st11⟩ := Jvm.LawKit.callS X0 hx (y := (⟨"com/example/triplepress/triplepress/container/VByteWritePinLaw", "cell", "([BIJIIB)Z"⟩ : MethodName)) hown (mvT hZ (hw _ (List.mem_of_getElem? (i := 12) rfl))) (mvT hZ (hw _ (List.mem_of_getElem? (i := 13) rfl))) (mvT hZ (hw _ (List.mem_of_getElem? (i := 9) rfl))) (mvT hZ (hw _ (List.mem_of_getElem? (i := 14) rfl))) (by decide) (backOf (W := 0) (rm3 l Z a0 hw [] a at_ vv nn (4 : Int32) ff 4 (fun j => .int (own_cv at_ vv nn (Int32.ofNat j) ff)) h n0 Z0 F0 (by decide) (by decide) (congrArg (fun z => Value.int (own_cv at_ vv nn z ff)) (by decide : Int32.ofNat 4 = (4 : Int32)))) hZ (hw _ (List.mem_of_getElem? (i := 14) rfl)) (hw _ (List.mem_of_getElem? (i := 9) rfl)) (by decide) (by decide)) (g := (mkF m 286 #[.val (.long q1), .second, .val (.int p2), .val (.int p3), .val (.int p4), .val (.long vv), .second, .val (.int at_), .val (.int ff), .val (.ref a), .val (.int en), .val (.int nn), .val (.int (1 : Int32))] [(.int ff), (.int (4 : Int32)), (.int nn), (.long vv), (.int at_), (.ref a)])) rfl (by rw [hml]; rfl) (argsL := [(.ref a), (.int at_), (.long vv), (.int nn), (.int (4 : Int32)), (.int ff)]) (rest := []) (lenOf pd_1 rfl) rfl (by show 2 * 0 + _ ≤ _; exact Nat.le_of_eq rfl) (hb hby at_286) (fun _ _ => ⟨rfl, e0, (by decide : 1 + 0 ≤ _), (by decide : 16 + 0 ≤ _)⟩)
  dsimp only [Pt.U, Pt.locs, Pt.cells, Pt.slots] at X11 l11 y11 z11 st11 hQ11
  subst l11 y11 z11
  obtain ⟨rfl, N11q, e11⟩ := hQ11
  have N11 := Fr.app N0 N11q
  refine Go.on st11 ?_
  show Go p e below _ (T11.setTop (mkF m 289 #[.val (.long q1), .second, .val (.int p2), .val (.int p3), .val (.int p4), .val (.long vv), .second, .val (.int at_), .val (.int ff), .val (.ref a), .val (.int en), .val (.int nn), .val (.int (1 : Int32))] [(.int (1 : Int32))]))
  refine Go.on (fun t k => XS.ifNo X11.here hx rfl (hb hby at_289) rfl ((if0 _ _).trans (feq (by decide : ¬ ((1 : Int32) = (0 : Int32)))).1) k) ?_
  show Go p e below _ (T11.setTop (mkF m 292 #[.val (.long q1), .second, .val (.int p2), .val (.int p3), .val (.int p4), .val (.long vv), .second, .val (.int at_), .val (.int ff), .val (.ref a), .val (.int en), .val (.int nn), .val (.int (1 : Int32))] []))
  refine Go.on (fun t k => XS.iconst X11.here hx rfl (hb hby at_292) k) ?_
  show Go p e below _ (T11.setTop (mkF m 293 #[.val (.long q1), .second, .val (.int p2), .val (.int p3), .val (.int p4), .val (.long vv), .second, .val (.int at_), .val (.int ff), .val (.ref a), .val (.int en), .val (.int nn), .val (.int (1 : Int32))] [(.int (1 : Int32))]))
  refine Go.on (fun t k => XS.goto X11.here hx rfl (pc0 := 293) (pc' := 297) rfl (hb hby at_293) (by decide) (by decide) k) ?_
  show Go p e below _ (T11.setTop (mkF m 297 #[.val (.long q1), .second, .val (.int p2), .val (.int p3), .val (.int p4), .val (.long vv), .second, .val (.int at_), .val (.int ff), .val (.ref a), .val (.int en), .val (.int nn), .val (.int (1 : Int32))] [(.int (1 : Int32))]))
  refine Go.on (fun t k => XS.istore X11.here hx rfl (hb hby at_297) rfl (l' := #[.val (.long q1), .second, .val (.int p2), .val (.int p3), .val (.int p4), .val (.long vv), .second, .val (.int at_), .val (.int ff), .val (.ref a), .val (.int en), .val (.int nn), .val (.int (1 : Int32))]) rfl k) ?_
  show Go p e below _ (T11.setTop (mkF m 299 #[.val (.long q1), .second, .val (.int p2), .val (.int p3), .val (.int p4), .val (.long vv), .second, .val (.int at_), .val (.int ff), .val (.ref a), .val (.int en), .val (.int nn), .val (.int (1 : Int32))] []))
  exact k T11 _ X11 e11 N11
set_option maxRecDepth 65536 in
set_option maxHeartbeats 40000000 in
theorem pC5 {p : Program} {l : Launch} {e : Env} {s : State} {m : MethodId} {args : Array Value} {below : List Frame} {meth : Method} {c : Code} {T : State} {locs : List Loc} {P : Outcome → State → Prop} {Z : State} {a0 : Array Value} (hw : ∀ d ∈ tables_1, d.before a0 Z = true) (X0 : Stand p l e room_1 s m args below meth c T locs 1 16) (hx : p.tables.exec = Jvm.exec) (hby : c.code = code) (hml : c.maxLocals = 13) (hZ : Z.Warmed39 s.vm) (hown : s.vm.findClass "com/example/triplepress/triplepress/container/VByteWritePinLaw" = some m.cls)
    {q1 vv : Int64} {p2 p3 p4 at_ ff en nn : Int32} {a : Addr} {h : Heap} {n0 : Nat} (e0 : T.heap = h) (N0 : Fr n0 locs) (Z0 : n0 ≤ h.size) (F0 : BA Z h a .byte 16 (fun j => .int (own_cv at_ vv nn (Int32.ofNat j) ff)))
    (k : ∀ (T' : State) (locs' : List Loc), Stand p l e room_1 s m args below meth c T' locs' 1 16 → T'.heap = h → Fr n0 locs' → Go p e below P (T'.setTop (mkF m 328 #[.val (.long q1), .second, .val (.int p2), .val (.int p3), .val (.int p4), .val (.long vv), .second, .val (.int at_), .val (.int ff), .val (.ref a), .val (.int en), .val (.int nn), .val (.int (1 : Int32))] []))) : Go p e below P (T.setTop (mkF m 299 #[.val (.long q1), .second, .val (.int p2), .val (.int p3), .val (.int p4), .val (.long vv), .second, .val (.int at_), .val (.int ff), .val (.ref a), .val (.int en), .val (.int nn), .val (.int (1 : Int32))] [])) := by
  refine Go.on (fun t k => XS.iload X0.here hx rfl (hb hby at_299) rfl k) ?_
  show Go p e below _ (T.setTop (mkF m 301 #[.val (.long q1), .second, .val (.int p2), .val (.int p3), .val (.int p4), .val (.long vv), .second, .val (.int at_), .val (.int ff), .val (.ref a), .val (.int en), .val (.int nn), .val (.int (1 : Int32))] [(.int (1 : Int32))]))
  refine Go.on (fun t k => XS.ifNo X0.here hx rfl (hb hby at_301) rfl ((if0 _ _).trans (feq (by decide : ¬ ((1 : Int32) = (0 : Int32)))).1) k) ?_
  show Go p e below _ (T.setTop (mkF m 304 #[.val (.long q1), .second, .val (.int p2), .val (.int p3), .val (.int p4), .val (.long vv), .second, .val (.int at_), .val (.int ff), .val (.ref a), .val (.int en), .val (.int nn), .val (.int (1 : Int32))] []))
  refine Go.on (fun t k => XS.aload X0.here hx rfl (hb hby at_304) rfl rfl k) ?_
  show Go p e below _ (T.setTop (mkF m 306 #[.val (.long q1), .second, .val (.int p2), .val (.int p3), .val (.int p4), .val (.long vv), .second, .val (.int at_), .val (.int ff), .val (.ref a), .val (.int en), .val (.int nn), .val (.int (1 : Int32))] [(.ref a)]))
  refine Go.on (fun t k => XS.iload X0.here hx rfl (hb hby at_306) rfl k) ?_
  show Go p e below _ (T.setTop (mkF m 308 #[.val (.long q1), .second, .val (.int p2), .val (.int p3), .val (.int p4), .val (.long vv), .second, .val (.int at_), .val (.int ff), .val (.ref a), .val (.int en), .val (.int nn), .val (.int (1 : Int32))] [(.int at_), (.ref a)]))
  refine Go.on (fun t k => XS.lload X0.here hx rfl (hb hby at_308) rfl k) ?_
  show Go p e below _ (T.setTop (mkF m 310 #[.val (.long q1), .second, .val (.int p2), .val (.int p3), .val (.int p4), .val (.long vv), .second, .val (.int at_), .val (.int ff), .val (.ref a), .val (.int en), .val (.int nn), .val (.int (1 : Int32))] [(.long vv), (.int at_), (.ref a)]))
  refine Go.on (fun t k => XS.iload X0.here hx rfl (hb hby at_310) rfl k) ?_
  show Go p e below _ (T.setTop (mkF m 312 #[.val (.long q1), .second, .val (.int p2), .val (.int p3), .val (.int p4), .val (.long vv), .second, .val (.int at_), .val (.int ff), .val (.ref a), .val (.int en), .val (.int nn), .val (.int (1 : Int32))] [(.int nn), (.long vv), (.int at_), (.ref a)]))
  refine Go.on (fun t k => XS.iconst X0.here hx rfl (hb hby at_312) k) ?_
  show Go p e below _ (T.setTop (mkF m 313 #[.val (.long q1), .second, .val (.int p2), .val (.int p3), .val (.int p4), .val (.long vv), .second, .val (.int at_), .val (.int ff), .val (.ref a), .val (.int en), .val (.int nn), .val (.int (1 : Int32))] [(.int (5 : Int32)), (.int nn), (.long vv), (.int at_), (.ref a)]))
  refine Go.on (fun t k => XS.iload X0.here hx rfl (hb hby at_313) rfl k) ?_
  show Go p e below _ (T.setTop (mkF m 315 #[.val (.long q1), .second, .val (.int p2), .val (.int p3), .val (.int p4), .val (.long vv), .second, .val (.int at_), .val (.int ff), .val (.ref a), .val (.int en), .val (.int nn), .val (.int (1 : Int32))] [(.int ff), (.int (5 : Int32)), (.int nn), (.long vv), (.int at_), (.ref a)]))
  obtain ⟨_, _, ⟨T11, L11, k11, n11⟩, -, X11, ⟨Lc11, hQ11, l11, y11, z11⟩, st11⟩ := Jvm.LawKit.callS X0 hx (y := (⟨"com/example/triplepress/triplepress/container/VByteWritePinLaw", "cell", "([BIJIIB)Z"⟩ : MethodName)) hown (mvT hZ (hw _ (List.mem_of_getElem? (i := 12) rfl))) (mvT hZ (hw _ (List.mem_of_getElem? (i := 13) rfl))) (mvT hZ (hw _ (List.mem_of_getElem? (i := 9) rfl))) (mvT hZ (hw _ (List.mem_of_getElem? (i := 14) rfl))) (by decide) (backOf (W := 0) (rm3 l Z a0 hw [] a at_ vv nn (5 : Int32) ff 5 (fun j => .int (own_cv at_ vv nn (Int32.ofNat j) ff)) h n0 Z0 F0 (by decide) (by decide) (congrArg (fun z => Value.int (own_cv at_ vv nn z ff)) (by decide : Int32.ofNat 5 = (5 : Int32)))) hZ (hw _ (List.mem_of_getElem? (i := 14) rfl)) (hw _ (List.mem_of_getElem? (i := 9) rfl)) (by decide) (by decide)) (g := (mkF m 315 #[.val (.long q1), .second, .val (.int p2), .val (.int p3), .val (.int p4), .val (.long vv), .second, .val (.int at_), .val (.int ff), .val (.ref a), .val (.int en), .val (.int nn), .val (.int (1 : Int32))] [(.int ff), (.int (5 : Int32)), (.int nn), (.long vv), (.int at_), (.ref a)])) rfl (by rw [hml]; rfl) (argsL := [(.ref a), (.int at_), (.long vv), (.int nn), (.int (5 : Int32)), (.int ff)]) (rest := []) (lenOf pd_1 rfl) rfl (by show 2 * 0 + _ ≤ _; exact Nat.le_of_eq rfl) (hb hby at_315) (fun _ _ => ⟨rfl, e0, (by decide : 1 + 0 ≤ _), (by decide : 16 + 0 ≤ _)⟩)
  dsimp only [Pt.U, Pt.locs, Pt.cells, Pt.slots] at X11 l11 y11 z11 st11 hQ11
  subst l11 y11 z11
  obtain ⟨rfl, N11q, e11⟩ := hQ11
  have N11 := Fr.app N0 N11q
  refine Go.on st11 ?_
  show Go p e below _ (T11.setTop (mkF m 318 #[.val (.long q1), .second, .val (.int p2), .val (.int p3), .val (.int p4), .val (.long vv), .second, .val (.int at_), .val (.int ff), .val (.ref a), .val (.int en), .val (.int nn), .val (.int (1 : Int32))] [(.int (1 : Int32))]))
  refine Go.on (fun t k => XS.ifNo X11.here hx rfl (hb hby at_318) rfl ((if0 _ _).trans (feq (by decide : ¬ ((1 : Int32) = (0 : Int32)))).1) k) ?_
  show Go p e below _ (T11.setTop (mkF m 321 #[.val (.long q1), .second, .val (.int p2), .val (.int p3), .val (.int p4), .val (.long vv), .second, .val (.int at_), .val (.int ff), .val (.ref a), .val (.int en), .val (.int nn), .val (.int (1 : Int32))] []))
  refine Go.on (fun t k => XS.iconst X11.here hx rfl (hb hby at_321) k) ?_
  show Go p e below _ (T11.setTop (mkF m 322 #[.val (.long q1), .second, .val (.int p2), .val (.int p3), .val (.int p4), .val (.long vv), .second, .val (.int at_), .val (.int ff), .val (.ref a), .val (.int en), .val (.int nn), .val (.int (1 : Int32))] [(.int (1 : Int32))]))
  refine Go.on (fun t k => XS.goto X11.here hx rfl (pc0 := 322) (pc' := 326) rfl (hb hby at_322) (by decide) (by decide) k) ?_
  show Go p e below _ (T11.setTop (mkF m 326 #[.val (.long q1), .second, .val (.int p2), .val (.int p3), .val (.int p4), .val (.long vv), .second, .val (.int at_), .val (.int ff), .val (.ref a), .val (.int en), .val (.int nn), .val (.int (1 : Int32))] [(.int (1 : Int32))]))
  refine Go.on (fun t k => XS.istore X11.here hx rfl (hb hby at_326) rfl (l' := #[.val (.long q1), .second, .val (.int p2), .val (.int p3), .val (.int p4), .val (.long vv), .second, .val (.int at_), .val (.int ff), .val (.ref a), .val (.int en), .val (.int nn), .val (.int (1 : Int32))]) rfl k) ?_
  show Go p e below _ (T11.setTop (mkF m 328 #[.val (.long q1), .second, .val (.int p2), .val (.int p3), .val (.int p4), .val (.long vv), .second, .val (.int at_), .val (.int ff), .val (.ref a), .val (.int en), .val (.int nn), .val (.int (1 : Int32))] []))
  exact k T11 _ X11 e11 N11
set_option maxRecDepth 65536 in
set_option maxHeartbeats 40000000 in
theorem pC6 {p : Program} {l : Launch} {e : Env} {s : State} {m : MethodId} {args : Array Value} {below : List Frame} {meth : Method} {c : Code} {T : State} {locs : List Loc} {P : Outcome → State → Prop} {Z : State} {a0 : Array Value} (hw : ∀ d ∈ tables_1, d.before a0 Z = true) (X0 : Stand p l e room_1 s m args below meth c T locs 1 16) (hx : p.tables.exec = Jvm.exec) (hby : c.code = code) (hml : c.maxLocals = 13) (hZ : Z.Warmed39 s.vm) (hown : s.vm.findClass "com/example/triplepress/triplepress/container/VByteWritePinLaw" = some m.cls)
    {q1 vv : Int64} {p2 p3 p4 at_ ff en nn : Int32} {a : Addr} {h : Heap} {n0 : Nat} (e0 : T.heap = h) (N0 : Fr n0 locs) (Z0 : n0 ≤ h.size) (F0 : BA Z h a .byte 16 (fun j => .int (own_cv at_ vv nn (Int32.ofNat j) ff)))
    (k : ∀ (T' : State) (locs' : List Loc), Stand p l e room_1 s m args below meth c T' locs' 1 16 → T'.heap = h → Fr n0 locs' → Go p e below P (T'.setTop (mkF m 358 #[.val (.long q1), .second, .val (.int p2), .val (.int p3), .val (.int p4), .val (.long vv), .second, .val (.int at_), .val (.int ff), .val (.ref a), .val (.int en), .val (.int nn), .val (.int (1 : Int32))] []))) : Go p e below P (T.setTop (mkF m 328 #[.val (.long q1), .second, .val (.int p2), .val (.int p3), .val (.int p4), .val (.long vv), .second, .val (.int at_), .val (.int ff), .val (.ref a), .val (.int en), .val (.int nn), .val (.int (1 : Int32))] [])) := by
  refine Go.on (fun t k => XS.iload X0.here hx rfl (hb hby at_328) rfl k) ?_
  show Go p e below _ (T.setTop (mkF m 330 #[.val (.long q1), .second, .val (.int p2), .val (.int p3), .val (.int p4), .val (.long vv), .second, .val (.int at_), .val (.int ff), .val (.ref a), .val (.int en), .val (.int nn), .val (.int (1 : Int32))] [(.int (1 : Int32))]))
  refine Go.on (fun t k => XS.ifNo X0.here hx rfl (hb hby at_330) rfl ((if0 _ _).trans (feq (by decide : ¬ ((1 : Int32) = (0 : Int32)))).1) k) ?_
  show Go p e below _ (T.setTop (mkF m 333 #[.val (.long q1), .second, .val (.int p2), .val (.int p3), .val (.int p4), .val (.long vv), .second, .val (.int at_), .val (.int ff), .val (.ref a), .val (.int en), .val (.int nn), .val (.int (1 : Int32))] []))
  refine Go.on (fun t k => XS.aload X0.here hx rfl (hb hby at_333) rfl rfl k) ?_
  show Go p e below _ (T.setTop (mkF m 335 #[.val (.long q1), .second, .val (.int p2), .val (.int p3), .val (.int p4), .val (.long vv), .second, .val (.int at_), .val (.int ff), .val (.ref a), .val (.int en), .val (.int nn), .val (.int (1 : Int32))] [(.ref a)]))
  refine Go.on (fun t k => XS.iload X0.here hx rfl (hb hby at_335) rfl k) ?_
  show Go p e below _ (T.setTop (mkF m 337 #[.val (.long q1), .second, .val (.int p2), .val (.int p3), .val (.int p4), .val (.long vv), .second, .val (.int at_), .val (.int ff), .val (.ref a), .val (.int en), .val (.int nn), .val (.int (1 : Int32))] [(.int at_), (.ref a)]))
  refine Go.on (fun t k => XS.lload X0.here hx rfl (hb hby at_337) rfl k) ?_
  show Go p e below _ (T.setTop (mkF m 339 #[.val (.long q1), .second, .val (.int p2), .val (.int p3), .val (.int p4), .val (.long vv), .second, .val (.int at_), .val (.int ff), .val (.ref a), .val (.int en), .val (.int nn), .val (.int (1 : Int32))] [(.long vv), (.int at_), (.ref a)]))
  refine Go.on (fun t k => XS.iload X0.here hx rfl (hb hby at_339) rfl k) ?_
  show Go p e below _ (T.setTop (mkF m 341 #[.val (.long q1), .second, .val (.int p2), .val (.int p3), .val (.int p4), .val (.long vv), .second, .val (.int at_), .val (.int ff), .val (.ref a), .val (.int en), .val (.int nn), .val (.int (1 : Int32))] [(.int nn), (.long vv), (.int at_), (.ref a)]))
  refine Go.on (fun t k => XS.bipush X0.here hx rfl (hb hby at_341) k) ?_
  show Go p e below _ (T.setTop (mkF m 343 #[.val (.long q1), .second, .val (.int p2), .val (.int p3), .val (.int p4), .val (.long vv), .second, .val (.int at_), .val (.int ff), .val (.ref a), .val (.int en), .val (.int nn), .val (.int (1 : Int32))] [(.int (6 : Int32)), (.int nn), (.long vv), (.int at_), (.ref a)]))
  refine Go.on (fun t k => XS.iload X0.here hx rfl (hb hby at_343) rfl k) ?_
  show Go p e below _ (T.setTop (mkF m 345 #[.val (.long q1), .second, .val (.int p2), .val (.int p3), .val (.int p4), .val (.long vv), .second, .val (.int at_), .val (.int ff), .val (.ref a), .val (.int en), .val (.int nn), .val (.int (1 : Int32))] [(.int ff), (.int (6 : Int32)), (.int nn), (.long vv), (.int at_), (.ref a)]))
  obtain ⟨_, _, ⟨T11, L11, k11, n11⟩, -, X11, ⟨Lc11, hQ11, l11, y11, z11⟩, st11⟩ := Jvm.LawKit.callS X0 hx (y := (⟨"com/example/triplepress/triplepress/container/VByteWritePinLaw", "cell", "([BIJIIB)Z"⟩ : MethodName)) hown (mvT hZ (hw _ (List.mem_of_getElem? (i := 12) rfl))) (mvT hZ (hw _ (List.mem_of_getElem? (i := 13) rfl))) (mvT hZ (hw _ (List.mem_of_getElem? (i := 9) rfl))) (mvT hZ (hw _ (List.mem_of_getElem? (i := 14) rfl))) (by decide) (backOf (W := 0) (rm3 l Z a0 hw [] a at_ vv nn (6 : Int32) ff 6 (fun j => .int (own_cv at_ vv nn (Int32.ofNat j) ff)) h n0 Z0 F0 (by decide) (by decide) (congrArg (fun z => Value.int (own_cv at_ vv nn z ff)) (by decide : Int32.ofNat 6 = (6 : Int32)))) hZ (hw _ (List.mem_of_getElem? (i := 14) rfl)) (hw _ (List.mem_of_getElem? (i := 9) rfl)) (by decide) (by decide)) (g := (mkF m 345 #[.val (.long q1), .second, .val (.int p2), .val (.int p3), .val (.int p4), .val (.long vv), .second, .val (.int at_), .val (.int ff), .val (.ref a), .val (.int en), .val (.int nn), .val (.int (1 : Int32))] [(.int ff), (.int (6 : Int32)), (.int nn), (.long vv), (.int at_), (.ref a)])) rfl (by rw [hml]; rfl) (argsL := [(.ref a), (.int at_), (.long vv), (.int nn), (.int (6 : Int32)), (.int ff)]) (rest := []) (lenOf pd_1 rfl) rfl (by show 2 * 0 + _ ≤ _; exact Nat.le_of_eq rfl) (hb hby at_345) (fun _ _ => ⟨rfl, e0, (by decide : 1 + 0 ≤ _), (by decide : 16 + 0 ≤ _)⟩)
  dsimp only [Pt.U, Pt.locs, Pt.cells, Pt.slots] at X11 l11 y11 z11 st11 hQ11
  subst l11 y11 z11
  obtain ⟨rfl, N11q, e11⟩ := hQ11
  have N11 := Fr.app N0 N11q
  refine Go.on st11 ?_
  show Go p e below _ (T11.setTop (mkF m 348 #[.val (.long q1), .second, .val (.int p2), .val (.int p3), .val (.int p4), .val (.long vv), .second, .val (.int at_), .val (.int ff), .val (.ref a), .val (.int en), .val (.int nn), .val (.int (1 : Int32))] [(.int (1 : Int32))]))
  refine Go.on (fun t k => XS.ifNo X11.here hx rfl (hb hby at_348) rfl ((if0 _ _).trans (feq (by decide : ¬ ((1 : Int32) = (0 : Int32)))).1) k) ?_
  show Go p e below _ (T11.setTop (mkF m 351 #[.val (.long q1), .second, .val (.int p2), .val (.int p3), .val (.int p4), .val (.long vv), .second, .val (.int at_), .val (.int ff), .val (.ref a), .val (.int en), .val (.int nn), .val (.int (1 : Int32))] []))
  refine Go.on (fun t k => XS.iconst X11.here hx rfl (hb hby at_351) k) ?_
  show Go p e below _ (T11.setTop (mkF m 352 #[.val (.long q1), .second, .val (.int p2), .val (.int p3), .val (.int p4), .val (.long vv), .second, .val (.int at_), .val (.int ff), .val (.ref a), .val (.int en), .val (.int nn), .val (.int (1 : Int32))] [(.int (1 : Int32))]))
  refine Go.on (fun t k => XS.goto X11.here hx rfl (pc0 := 352) (pc' := 356) rfl (hb hby at_352) (by decide) (by decide) k) ?_
  show Go p e below _ (T11.setTop (mkF m 356 #[.val (.long q1), .second, .val (.int p2), .val (.int p3), .val (.int p4), .val (.long vv), .second, .val (.int at_), .val (.int ff), .val (.ref a), .val (.int en), .val (.int nn), .val (.int (1 : Int32))] [(.int (1 : Int32))]))
  refine Go.on (fun t k => XS.istore X11.here hx rfl (hb hby at_356) rfl (l' := #[.val (.long q1), .second, .val (.int p2), .val (.int p3), .val (.int p4), .val (.long vv), .second, .val (.int at_), .val (.int ff), .val (.ref a), .val (.int en), .val (.int nn), .val (.int (1 : Int32))]) rfl k) ?_
  show Go p e below _ (T11.setTop (mkF m 358 #[.val (.long q1), .second, .val (.int p2), .val (.int p3), .val (.int p4), .val (.long vv), .second, .val (.int at_), .val (.int ff), .val (.ref a), .val (.int en), .val (.int nn), .val (.int (1 : Int32))] []))
  exact k T11 _ X11 e11 N11
set_option maxRecDepth 65536 in
set_option maxHeartbeats 40000000 in
theorem pC7 {p : Program} {l : Launch} {e : Env} {s : State} {m : MethodId} {args : Array Value} {below : List Frame} {meth : Method} {c : Code} {T : State} {locs : List Loc} {P : Outcome → State → Prop} {Z : State} {a0 : Array Value} (hw : ∀ d ∈ tables_1, d.before a0 Z = true) (X0 : Stand p l e room_1 s m args below meth c T locs 1 16) (hx : p.tables.exec = Jvm.exec) (hby : c.code = code) (hml : c.maxLocals = 13) (hZ : Z.Warmed39 s.vm) (hown : s.vm.findClass "com/example/triplepress/triplepress/container/VByteWritePinLaw" = some m.cls)
    {q1 vv : Int64} {p2 p3 p4 at_ ff en nn : Int32} {a : Addr} {h : Heap} {n0 : Nat} (e0 : T.heap = h) (N0 : Fr n0 locs) (Z0 : n0 ≤ h.size) (F0 : BA Z h a .byte 16 (fun j => .int (own_cv at_ vv nn (Int32.ofNat j) ff)))
    (k : ∀ (T' : State) (locs' : List Loc), Stand p l e room_1 s m args below meth c T' locs' 1 16 → T'.heap = h → Fr n0 locs' → Go p e below P (T'.setTop (mkF m 388 #[.val (.long q1), .second, .val (.int p2), .val (.int p3), .val (.int p4), .val (.long vv), .second, .val (.int at_), .val (.int ff), .val (.ref a), .val (.int en), .val (.int nn), .val (.int (1 : Int32))] []))) : Go p e below P (T.setTop (mkF m 358 #[.val (.long q1), .second, .val (.int p2), .val (.int p3), .val (.int p4), .val (.long vv), .second, .val (.int at_), .val (.int ff), .val (.ref a), .val (.int en), .val (.int nn), .val (.int (1 : Int32))] [])) := by
  refine Go.on (fun t k => XS.iload X0.here hx rfl (hb hby at_358) rfl k) ?_
  show Go p e below _ (T.setTop (mkF m 360 #[.val (.long q1), .second, .val (.int p2), .val (.int p3), .val (.int p4), .val (.long vv), .second, .val (.int at_), .val (.int ff), .val (.ref a), .val (.int en), .val (.int nn), .val (.int (1 : Int32))] [(.int (1 : Int32))]))
  refine Go.on (fun t k => XS.ifNo X0.here hx rfl (hb hby at_360) rfl ((if0 _ _).trans (feq (by decide : ¬ ((1 : Int32) = (0 : Int32)))).1) k) ?_
  show Go p e below _ (T.setTop (mkF m 363 #[.val (.long q1), .second, .val (.int p2), .val (.int p3), .val (.int p4), .val (.long vv), .second, .val (.int at_), .val (.int ff), .val (.ref a), .val (.int en), .val (.int nn), .val (.int (1 : Int32))] []))
  refine Go.on (fun t k => XS.aload X0.here hx rfl (hb hby at_363) rfl rfl k) ?_
  show Go p e below _ (T.setTop (mkF m 365 #[.val (.long q1), .second, .val (.int p2), .val (.int p3), .val (.int p4), .val (.long vv), .second, .val (.int at_), .val (.int ff), .val (.ref a), .val (.int en), .val (.int nn), .val (.int (1 : Int32))] [(.ref a)]))
  refine Go.on (fun t k => XS.iload X0.here hx rfl (hb hby at_365) rfl k) ?_
  show Go p e below _ (T.setTop (mkF m 367 #[.val (.long q1), .second, .val (.int p2), .val (.int p3), .val (.int p4), .val (.long vv), .second, .val (.int at_), .val (.int ff), .val (.ref a), .val (.int en), .val (.int nn), .val (.int (1 : Int32))] [(.int at_), (.ref a)]))
  refine Go.on (fun t k => XS.lload X0.here hx rfl (hb hby at_367) rfl k) ?_
  show Go p e below _ (T.setTop (mkF m 369 #[.val (.long q1), .second, .val (.int p2), .val (.int p3), .val (.int p4), .val (.long vv), .second, .val (.int at_), .val (.int ff), .val (.ref a), .val (.int en), .val (.int nn), .val (.int (1 : Int32))] [(.long vv), (.int at_), (.ref a)]))
  refine Go.on (fun t k => XS.iload X0.here hx rfl (hb hby at_369) rfl k) ?_
  show Go p e below _ (T.setTop (mkF m 371 #[.val (.long q1), .second, .val (.int p2), .val (.int p3), .val (.int p4), .val (.long vv), .second, .val (.int at_), .val (.int ff), .val (.ref a), .val (.int en), .val (.int nn), .val (.int (1 : Int32))] [(.int nn), (.long vv), (.int at_), (.ref a)]))
  refine Go.on (fun t k => XS.bipush X0.here hx rfl (hb hby at_371) k) ?_
  show Go p e below _ (T.setTop (mkF m 373 #[.val (.long q1), .second, .val (.int p2), .val (.int p3), .val (.int p4), .val (.long vv), .second, .val (.int at_), .val (.int ff), .val (.ref a), .val (.int en), .val (.int nn), .val (.int (1 : Int32))] [(.int (7 : Int32)), (.int nn), (.long vv), (.int at_), (.ref a)]))
  refine Go.on (fun t k => XS.iload X0.here hx rfl (hb hby at_373) rfl k) ?_
  show Go p e below _ (T.setTop (mkF m 375 #[.val (.long q1), .second, .val (.int p2), .val (.int p3), .val (.int p4), .val (.long vv), .second, .val (.int at_), .val (.int ff), .val (.ref a), .val (.int en), .val (.int nn), .val (.int (1 : Int32))] [(.int ff), (.int (7 : Int32)), (.int nn), (.long vv), (.int at_), (.ref a)]))
  obtain ⟨_, _, ⟨T11, L11, k11, n11⟩, -, X11, ⟨Lc11, hQ11, l11, y11, z11⟩, st11⟩ := Jvm.LawKit.callS X0 hx (y := (⟨"com/example/triplepress/triplepress/container/VByteWritePinLaw", "cell", "([BIJIIB)Z"⟩ : MethodName)) hown (mvT hZ (hw _ (List.mem_of_getElem? (i := 12) rfl))) (mvT hZ (hw _ (List.mem_of_getElem? (i := 13) rfl))) (mvT hZ (hw _ (List.mem_of_getElem? (i := 9) rfl))) (mvT hZ (hw _ (List.mem_of_getElem? (i := 14) rfl))) (by decide) (backOf (W := 0) (rm3 l Z a0 hw [] a at_ vv nn (7 : Int32) ff 7 (fun j => .int (own_cv at_ vv nn (Int32.ofNat j) ff)) h n0 Z0 F0 (by decide) (by decide) (congrArg (fun z => Value.int (own_cv at_ vv nn z ff)) (by decide : Int32.ofNat 7 = (7 : Int32)))) hZ (hw _ (List.mem_of_getElem? (i := 14) rfl)) (hw _ (List.mem_of_getElem? (i := 9) rfl)) (by decide) (by decide)) (g := (mkF m 375 #[.val (.long q1), .second, .val (.int p2), .val (.int p3), .val (.int p4), .val (.long vv), .second, .val (.int at_), .val (.int ff), .val (.ref a), .val (.int en), .val (.int nn), .val (.int (1 : Int32))] [(.int ff), (.int (7 : Int32)), (.int nn), (.long vv), (.int at_), (.ref a)])) rfl (by rw [hml]; rfl) (argsL := [(.ref a), (.int at_), (.long vv), (.int nn), (.int (7 : Int32)), (.int ff)]) (rest := []) (lenOf pd_1 rfl) rfl (by show 2 * 0 + _ ≤ _; exact Nat.le_of_eq rfl) (hb hby at_375) (fun _ _ => ⟨rfl, e0, (by decide : 1 + 0 ≤ _), (by decide : 16 + 0 ≤ _)⟩)
  dsimp only [Pt.U, Pt.locs, Pt.cells, Pt.slots] at X11 l11 y11 z11 st11 hQ11
  subst l11 y11 z11
  obtain ⟨rfl, N11q, e11⟩ := hQ11
  have N11 := Fr.app N0 N11q
  refine Go.on st11 ?_
  show Go p e below _ (T11.setTop (mkF m 378 #[.val (.long q1), .second, .val (.int p2), .val (.int p3), .val (.int p4), .val (.long vv), .second, .val (.int at_), .val (.int ff), .val (.ref a), .val (.int en), .val (.int nn), .val (.int (1 : Int32))] [(.int (1 : Int32))]))
  refine Go.on (fun t k => XS.ifNo X11.here hx rfl (hb hby at_378) rfl ((if0 _ _).trans (feq (by decide : ¬ ((1 : Int32) = (0 : Int32)))).1) k) ?_
  show Go p e below _ (T11.setTop (mkF m 381 #[.val (.long q1), .second, .val (.int p2), .val (.int p3), .val (.int p4), .val (.long vv), .second, .val (.int at_), .val (.int ff), .val (.ref a), .val (.int en), .val (.int nn), .val (.int (1 : Int32))] []))
  refine Go.on (fun t k => XS.iconst X11.here hx rfl (hb hby at_381) k) ?_
  show Go p e below _ (T11.setTop (mkF m 382 #[.val (.long q1), .second, .val (.int p2), .val (.int p3), .val (.int p4), .val (.long vv), .second, .val (.int at_), .val (.int ff), .val (.ref a), .val (.int en), .val (.int nn), .val (.int (1 : Int32))] [(.int (1 : Int32))]))
  refine Go.on (fun t k => XS.goto X11.here hx rfl (pc0 := 382) (pc' := 386) rfl (hb hby at_382) (by decide) (by decide) k) ?_
  show Go p e below _ (T11.setTop (mkF m 386 #[.val (.long q1), .second, .val (.int p2), .val (.int p3), .val (.int p4), .val (.long vv), .second, .val (.int at_), .val (.int ff), .val (.ref a), .val (.int en), .val (.int nn), .val (.int (1 : Int32))] [(.int (1 : Int32))]))
  refine Go.on (fun t k => XS.istore X11.here hx rfl (hb hby at_386) rfl (l' := #[.val (.long q1), .second, .val (.int p2), .val (.int p3), .val (.int p4), .val (.long vv), .second, .val (.int at_), .val (.int ff), .val (.ref a), .val (.int en), .val (.int nn), .val (.int (1 : Int32))]) rfl k) ?_
  show Go p e below _ (T11.setTop (mkF m 388 #[.val (.long q1), .second, .val (.int p2), .val (.int p3), .val (.int p4), .val (.long vv), .second, .val (.int at_), .val (.int ff), .val (.ref a), .val (.int en), .val (.int nn), .val (.int (1 : Int32))] []))
  exact k T11 _ X11 e11 N11
set_option maxRecDepth 65536 in
set_option maxHeartbeats 40000000 in
theorem pC8 {p : Program} {l : Launch} {e : Env} {s : State} {m : MethodId} {args : Array Value} {below : List Frame} {meth : Method} {c : Code} {T : State} {locs : List Loc} {P : Outcome → State → Prop} {Z : State} {a0 : Array Value} (hw : ∀ d ∈ tables_1, d.before a0 Z = true) (X0 : Stand p l e room_1 s m args below meth c T locs 1 16) (hx : p.tables.exec = Jvm.exec) (hby : c.code = code) (hml : c.maxLocals = 13) (hZ : Z.Warmed39 s.vm) (hown : s.vm.findClass "com/example/triplepress/triplepress/container/VByteWritePinLaw" = some m.cls)
    {q1 vv : Int64} {p2 p3 p4 at_ ff en nn : Int32} {a : Addr} {h : Heap} {n0 : Nat} (e0 : T.heap = h) (N0 : Fr n0 locs) (Z0 : n0 ≤ h.size) (F0 : BA Z h a .byte 16 (fun j => .int (own_cv at_ vv nn (Int32.ofNat j) ff)))
    (k : ∀ (T' : State) (locs' : List Loc), Stand p l e room_1 s m args below meth c T' locs' 1 16 → T'.heap = h → Fr n0 locs' → Go p e below P (T'.setTop (mkF m 418 #[.val (.long q1), .second, .val (.int p2), .val (.int p3), .val (.int p4), .val (.long vv), .second, .val (.int at_), .val (.int ff), .val (.ref a), .val (.int en), .val (.int nn), .val (.int (1 : Int32))] []))) : Go p e below P (T.setTop (mkF m 388 #[.val (.long q1), .second, .val (.int p2), .val (.int p3), .val (.int p4), .val (.long vv), .second, .val (.int at_), .val (.int ff), .val (.ref a), .val (.int en), .val (.int nn), .val (.int (1 : Int32))] [])) := by
  refine Go.on (fun t k => XS.iload X0.here hx rfl (hb hby at_388) rfl k) ?_
  show Go p e below _ (T.setTop (mkF m 390 #[.val (.long q1), .second, .val (.int p2), .val (.int p3), .val (.int p4), .val (.long vv), .second, .val (.int at_), .val (.int ff), .val (.ref a), .val (.int en), .val (.int nn), .val (.int (1 : Int32))] [(.int (1 : Int32))]))
  refine Go.on (fun t k => XS.ifNo X0.here hx rfl (hb hby at_390) rfl ((if0 _ _).trans (feq (by decide : ¬ ((1 : Int32) = (0 : Int32)))).1) k) ?_
  show Go p e below _ (T.setTop (mkF m 393 #[.val (.long q1), .second, .val (.int p2), .val (.int p3), .val (.int p4), .val (.long vv), .second, .val (.int at_), .val (.int ff), .val (.ref a), .val (.int en), .val (.int nn), .val (.int (1 : Int32))] []))
  refine Go.on (fun t k => XS.aload X0.here hx rfl (hb hby at_393) rfl rfl k) ?_
  show Go p e below _ (T.setTop (mkF m 395 #[.val (.long q1), .second, .val (.int p2), .val (.int p3), .val (.int p4), .val (.long vv), .second, .val (.int at_), .val (.int ff), .val (.ref a), .val (.int en), .val (.int nn), .val (.int (1 : Int32))] [(.ref a)]))
  refine Go.on (fun t k => XS.iload X0.here hx rfl (hb hby at_395) rfl k) ?_
  show Go p e below _ (T.setTop (mkF m 397 #[.val (.long q1), .second, .val (.int p2), .val (.int p3), .val (.int p4), .val (.long vv), .second, .val (.int at_), .val (.int ff), .val (.ref a), .val (.int en), .val (.int nn), .val (.int (1 : Int32))] [(.int at_), (.ref a)]))
  refine Go.on (fun t k => XS.lload X0.here hx rfl (hb hby at_397) rfl k) ?_
  show Go p e below _ (T.setTop (mkF m 399 #[.val (.long q1), .second, .val (.int p2), .val (.int p3), .val (.int p4), .val (.long vv), .second, .val (.int at_), .val (.int ff), .val (.ref a), .val (.int en), .val (.int nn), .val (.int (1 : Int32))] [(.long vv), (.int at_), (.ref a)]))
  refine Go.on (fun t k => XS.iload X0.here hx rfl (hb hby at_399) rfl k) ?_
  show Go p e below _ (T.setTop (mkF m 401 #[.val (.long q1), .second, .val (.int p2), .val (.int p3), .val (.int p4), .val (.long vv), .second, .val (.int at_), .val (.int ff), .val (.ref a), .val (.int en), .val (.int nn), .val (.int (1 : Int32))] [(.int nn), (.long vv), (.int at_), (.ref a)]))
  refine Go.on (fun t k => XS.bipush X0.here hx rfl (hb hby at_401) k) ?_
  show Go p e below _ (T.setTop (mkF m 403 #[.val (.long q1), .second, .val (.int p2), .val (.int p3), .val (.int p4), .val (.long vv), .second, .val (.int at_), .val (.int ff), .val (.ref a), .val (.int en), .val (.int nn), .val (.int (1 : Int32))] [(.int (8 : Int32)), (.int nn), (.long vv), (.int at_), (.ref a)]))
  refine Go.on (fun t k => XS.iload X0.here hx rfl (hb hby at_403) rfl k) ?_
  show Go p e below _ (T.setTop (mkF m 405 #[.val (.long q1), .second, .val (.int p2), .val (.int p3), .val (.int p4), .val (.long vv), .second, .val (.int at_), .val (.int ff), .val (.ref a), .val (.int en), .val (.int nn), .val (.int (1 : Int32))] [(.int ff), (.int (8 : Int32)), (.int nn), (.long vv), (.int at_), (.ref a)]))
  obtain ⟨_, _, ⟨T11, L11, k11, n11⟩, -, X11, ⟨Lc11, hQ11, l11, y11, z11⟩, st11⟩ := Jvm.LawKit.callS X0 hx (y := (⟨"com/example/triplepress/triplepress/container/VByteWritePinLaw", "cell", "([BIJIIB)Z"⟩ : MethodName)) hown (mvT hZ (hw _ (List.mem_of_getElem? (i := 12) rfl))) (mvT hZ (hw _ (List.mem_of_getElem? (i := 13) rfl))) (mvT hZ (hw _ (List.mem_of_getElem? (i := 9) rfl))) (mvT hZ (hw _ (List.mem_of_getElem? (i := 14) rfl))) (by decide) (backOf (W := 0) (rm3 l Z a0 hw [] a at_ vv nn (8 : Int32) ff 8 (fun j => .int (own_cv at_ vv nn (Int32.ofNat j) ff)) h n0 Z0 F0 (by decide) (by decide) (congrArg (fun z => Value.int (own_cv at_ vv nn z ff)) (by decide : Int32.ofNat 8 = (8 : Int32)))) hZ (hw _ (List.mem_of_getElem? (i := 14) rfl)) (hw _ (List.mem_of_getElem? (i := 9) rfl)) (by decide) (by decide)) (g := (mkF m 405 #[.val (.long q1), .second, .val (.int p2), .val (.int p3), .val (.int p4), .val (.long vv), .second, .val (.int at_), .val (.int ff), .val (.ref a), .val (.int en), .val (.int nn), .val (.int (1 : Int32))] [(.int ff), (.int (8 : Int32)), (.int nn), (.long vv), (.int at_), (.ref a)])) rfl (by rw [hml]; rfl) (argsL := [(.ref a), (.int at_), (.long vv), (.int nn), (.int (8 : Int32)), (.int ff)]) (rest := []) (lenOf pd_1 rfl) rfl (by show 2 * 0 + _ ≤ _; exact Nat.le_of_eq rfl) (hb hby at_405) (fun _ _ => ⟨rfl, e0, (by decide : 1 + 0 ≤ _), (by decide : 16 + 0 ≤ _)⟩)
  dsimp only [Pt.U, Pt.locs, Pt.cells, Pt.slots] at X11 l11 y11 z11 st11 hQ11
  subst l11 y11 z11
  obtain ⟨rfl, N11q, e11⟩ := hQ11
  have N11 := Fr.app N0 N11q
  refine Go.on st11 ?_
  show Go p e below _ (T11.setTop (mkF m 408 #[.val (.long q1), .second, .val (.int p2), .val (.int p3), .val (.int p4), .val (.long vv), .second, .val (.int at_), .val (.int ff), .val (.ref a), .val (.int en), .val (.int nn), .val (.int (1 : Int32))] [(.int (1 : Int32))]))
  refine Go.on (fun t k => XS.ifNo X11.here hx rfl (hb hby at_408) rfl ((if0 _ _).trans (feq (by decide : ¬ ((1 : Int32) = (0 : Int32)))).1) k) ?_
  show Go p e below _ (T11.setTop (mkF m 411 #[.val (.long q1), .second, .val (.int p2), .val (.int p3), .val (.int p4), .val (.long vv), .second, .val (.int at_), .val (.int ff), .val (.ref a), .val (.int en), .val (.int nn), .val (.int (1 : Int32))] []))
  refine Go.on (fun t k => XS.iconst X11.here hx rfl (hb hby at_411) k) ?_
  show Go p e below _ (T11.setTop (mkF m 412 #[.val (.long q1), .second, .val (.int p2), .val (.int p3), .val (.int p4), .val (.long vv), .second, .val (.int at_), .val (.int ff), .val (.ref a), .val (.int en), .val (.int nn), .val (.int (1 : Int32))] [(.int (1 : Int32))]))
  refine Go.on (fun t k => XS.goto X11.here hx rfl (pc0 := 412) (pc' := 416) rfl (hb hby at_412) (by decide) (by decide) k) ?_
  show Go p e below _ (T11.setTop (mkF m 416 #[.val (.long q1), .second, .val (.int p2), .val (.int p3), .val (.int p4), .val (.long vv), .second, .val (.int at_), .val (.int ff), .val (.ref a), .val (.int en), .val (.int nn), .val (.int (1 : Int32))] [(.int (1 : Int32))]))
  refine Go.on (fun t k => XS.istore X11.here hx rfl (hb hby at_416) rfl (l' := #[.val (.long q1), .second, .val (.int p2), .val (.int p3), .val (.int p4), .val (.long vv), .second, .val (.int at_), .val (.int ff), .val (.ref a), .val (.int en), .val (.int nn), .val (.int (1 : Int32))]) rfl k) ?_
  show Go p e below _ (T11.setTop (mkF m 418 #[.val (.long q1), .second, .val (.int p2), .val (.int p3), .val (.int p4), .val (.long vv), .second, .val (.int at_), .val (.int ff), .val (.ref a), .val (.int en), .val (.int nn), .val (.int (1 : Int32))] []))
  exact k T11 _ X11 e11 N11
set_option maxRecDepth 65536 in
set_option maxHeartbeats 40000000 in
theorem pC9 {p : Program} {l : Launch} {e : Env} {s : State} {m : MethodId} {args : Array Value} {below : List Frame} {meth : Method} {c : Code} {T : State} {locs : List Loc} {P : Outcome → State → Prop} {Z : State} {a0 : Array Value} (hw : ∀ d ∈ tables_1, d.before a0 Z = true) (X0 : Stand p l e room_1 s m args below meth c T locs 1 16) (hx : p.tables.exec = Jvm.exec) (hby : c.code = code) (hml : c.maxLocals = 13) (hZ : Z.Warmed39 s.vm) (hown : s.vm.findClass "com/example/triplepress/triplepress/container/VByteWritePinLaw" = some m.cls)
    {q1 vv : Int64} {p2 p3 p4 at_ ff en nn : Int32} {a : Addr} {h : Heap} {n0 : Nat} (e0 : T.heap = h) (N0 : Fr n0 locs) (Z0 : n0 ≤ h.size) (F0 : BA Z h a .byte 16 (fun j => .int (own_cv at_ vv nn (Int32.ofNat j) ff)))
    (k : ∀ (T' : State) (locs' : List Loc), Stand p l e room_1 s m args below meth c T' locs' 1 16 → T'.heap = h → Fr n0 locs' → Go p e below P (T'.setTop (mkF m 448 #[.val (.long q1), .second, .val (.int p2), .val (.int p3), .val (.int p4), .val (.long vv), .second, .val (.int at_), .val (.int ff), .val (.ref a), .val (.int en), .val (.int nn), .val (.int (1 : Int32))] []))) : Go p e below P (T.setTop (mkF m 418 #[.val (.long q1), .second, .val (.int p2), .val (.int p3), .val (.int p4), .val (.long vv), .second, .val (.int at_), .val (.int ff), .val (.ref a), .val (.int en), .val (.int nn), .val (.int (1 : Int32))] [])) := by
  refine Go.on (fun t k => XS.iload X0.here hx rfl (hb hby at_418) rfl k) ?_
  show Go p e below _ (T.setTop (mkF m 420 #[.val (.long q1), .second, .val (.int p2), .val (.int p3), .val (.int p4), .val (.long vv), .second, .val (.int at_), .val (.int ff), .val (.ref a), .val (.int en), .val (.int nn), .val (.int (1 : Int32))] [(.int (1 : Int32))]))
  refine Go.on (fun t k => XS.ifNo X0.here hx rfl (hb hby at_420) rfl ((if0 _ _).trans (feq (by decide : ¬ ((1 : Int32) = (0 : Int32)))).1) k) ?_
  show Go p e below _ (T.setTop (mkF m 423 #[.val (.long q1), .second, .val (.int p2), .val (.int p3), .val (.int p4), .val (.long vv), .second, .val (.int at_), .val (.int ff), .val (.ref a), .val (.int en), .val (.int nn), .val (.int (1 : Int32))] []))
  refine Go.on (fun t k => XS.aload X0.here hx rfl (hb hby at_423) rfl rfl k) ?_
  show Go p e below _ (T.setTop (mkF m 425 #[.val (.long q1), .second, .val (.int p2), .val (.int p3), .val (.int p4), .val (.long vv), .second, .val (.int at_), .val (.int ff), .val (.ref a), .val (.int en), .val (.int nn), .val (.int (1 : Int32))] [(.ref a)]))
  refine Go.on (fun t k => XS.iload X0.here hx rfl (hb hby at_425) rfl k) ?_
  show Go p e below _ (T.setTop (mkF m 427 #[.val (.long q1), .second, .val (.int p2), .val (.int p3), .val (.int p4), .val (.long vv), .second, .val (.int at_), .val (.int ff), .val (.ref a), .val (.int en), .val (.int nn), .val (.int (1 : Int32))] [(.int at_), (.ref a)]))
  refine Go.on (fun t k => XS.lload X0.here hx rfl (hb hby at_427) rfl k) ?_
  show Go p e below _ (T.setTop (mkF m 429 #[.val (.long q1), .second, .val (.int p2), .val (.int p3), .val (.int p4), .val (.long vv), .second, .val (.int at_), .val (.int ff), .val (.ref a), .val (.int en), .val (.int nn), .val (.int (1 : Int32))] [(.long vv), (.int at_), (.ref a)]))
  refine Go.on (fun t k => XS.iload X0.here hx rfl (hb hby at_429) rfl k) ?_
  show Go p e below _ (T.setTop (mkF m 431 #[.val (.long q1), .second, .val (.int p2), .val (.int p3), .val (.int p4), .val (.long vv), .second, .val (.int at_), .val (.int ff), .val (.ref a), .val (.int en), .val (.int nn), .val (.int (1 : Int32))] [(.int nn), (.long vv), (.int at_), (.ref a)]))
  refine Go.on (fun t k => XS.bipush X0.here hx rfl (hb hby at_431) k) ?_
  show Go p e below _ (T.setTop (mkF m 433 #[.val (.long q1), .second, .val (.int p2), .val (.int p3), .val (.int p4), .val (.long vv), .second, .val (.int at_), .val (.int ff), .val (.ref a), .val (.int en), .val (.int nn), .val (.int (1 : Int32))] [(.int (9 : Int32)), (.int nn), (.long vv), (.int at_), (.ref a)]))
  refine Go.on (fun t k => XS.iload X0.here hx rfl (hb hby at_433) rfl k) ?_
  show Go p e below _ (T.setTop (mkF m 435 #[.val (.long q1), .second, .val (.int p2), .val (.int p3), .val (.int p4), .val (.long vv), .second, .val (.int at_), .val (.int ff), .val (.ref a), .val (.int en), .val (.int nn), .val (.int (1 : Int32))] [(.int ff), (.int (9 : Int32)), (.int nn), (.long vv), (.int at_), (.ref a)]))
  obtain ⟨_, _, ⟨T11, L11, k11, n11⟩, -, X11, ⟨Lc11, hQ11, l11, y11, z11⟩, st11⟩ := Jvm.LawKit.callS X0 hx (y := (⟨"com/example/triplepress/triplepress/container/VByteWritePinLaw", "cell", "([BIJIIB)Z"⟩ : MethodName)) hown (mvT hZ (hw _ (List.mem_of_getElem? (i := 12) rfl))) (mvT hZ (hw _ (List.mem_of_getElem? (i := 13) rfl))) (mvT hZ (hw _ (List.mem_of_getElem? (i := 9) rfl))) (mvT hZ (hw _ (List.mem_of_getElem? (i := 14) rfl))) (by decide) (backOf (W := 0) (rm3 l Z a0 hw [] a at_ vv nn (9 : Int32) ff 9 (fun j => .int (own_cv at_ vv nn (Int32.ofNat j) ff)) h n0 Z0 F0 (by decide) (by decide) (congrArg (fun z => Value.int (own_cv at_ vv nn z ff)) (by decide : Int32.ofNat 9 = (9 : Int32)))) hZ (hw _ (List.mem_of_getElem? (i := 14) rfl)) (hw _ (List.mem_of_getElem? (i := 9) rfl)) (by decide) (by decide)) (g := (mkF m 435 #[.val (.long q1), .second, .val (.int p2), .val (.int p3), .val (.int p4), .val (.long vv), .second, .val (.int at_), .val (.int ff), .val (.ref a), .val (.int en), .val (.int nn), .val (.int (1 : Int32))] [(.int ff), (.int (9 : Int32)), (.int nn), (.long vv), (.int at_), (.ref a)])) rfl (by rw [hml]; rfl) (argsL := [(.ref a), (.int at_), (.long vv), (.int nn), (.int (9 : Int32)), (.int ff)]) (rest := []) (lenOf pd_1 rfl) rfl (by show 2 * 0 + _ ≤ _; exact Nat.le_of_eq rfl) (hb hby at_435) (fun _ _ => ⟨rfl, e0, (by decide : 1 + 0 ≤ _), (by decide : 16 + 0 ≤ _)⟩)
  dsimp only [Pt.U, Pt.locs, Pt.cells, Pt.slots] at X11 l11 y11 z11 st11 hQ11
  subst l11 y11 z11
  obtain ⟨rfl, N11q, e11⟩ := hQ11
  have N11 := Fr.app N0 N11q
  refine Go.on st11 ?_
  show Go p e below _ (T11.setTop (mkF m 438 #[.val (.long q1), .second, .val (.int p2), .val (.int p3), .val (.int p4), .val (.long vv), .second, .val (.int at_), .val (.int ff), .val (.ref a), .val (.int en), .val (.int nn), .val (.int (1 : Int32))] [(.int (1 : Int32))]))
  refine Go.on (fun t k => XS.ifNo X11.here hx rfl (hb hby at_438) rfl ((if0 _ _).trans (feq (by decide : ¬ ((1 : Int32) = (0 : Int32)))).1) k) ?_
  show Go p e below _ (T11.setTop (mkF m 441 #[.val (.long q1), .second, .val (.int p2), .val (.int p3), .val (.int p4), .val (.long vv), .second, .val (.int at_), .val (.int ff), .val (.ref a), .val (.int en), .val (.int nn), .val (.int (1 : Int32))] []))
  refine Go.on (fun t k => XS.iconst X11.here hx rfl (hb hby at_441) k) ?_
  show Go p e below _ (T11.setTop (mkF m 442 #[.val (.long q1), .second, .val (.int p2), .val (.int p3), .val (.int p4), .val (.long vv), .second, .val (.int at_), .val (.int ff), .val (.ref a), .val (.int en), .val (.int nn), .val (.int (1 : Int32))] [(.int (1 : Int32))]))
  refine Go.on (fun t k => XS.goto X11.here hx rfl (pc0 := 442) (pc' := 446) rfl (hb hby at_442) (by decide) (by decide) k) ?_
  show Go p e below _ (T11.setTop (mkF m 446 #[.val (.long q1), .second, .val (.int p2), .val (.int p3), .val (.int p4), .val (.long vv), .second, .val (.int at_), .val (.int ff), .val (.ref a), .val (.int en), .val (.int nn), .val (.int (1 : Int32))] [(.int (1 : Int32))]))
  refine Go.on (fun t k => XS.istore X11.here hx rfl (hb hby at_446) rfl (l' := #[.val (.long q1), .second, .val (.int p2), .val (.int p3), .val (.int p4), .val (.long vv), .second, .val (.int at_), .val (.int ff), .val (.ref a), .val (.int en), .val (.int nn), .val (.int (1 : Int32))]) rfl k) ?_
  show Go p e below _ (T11.setTop (mkF m 448 #[.val (.long q1), .second, .val (.int p2), .val (.int p3), .val (.int p4), .val (.long vv), .second, .val (.int at_), .val (.int ff), .val (.ref a), .val (.int en), .val (.int nn), .val (.int (1 : Int32))] []))
  exact k T11 _ X11 e11 N11
set_option maxRecDepth 65536 in
set_option maxHeartbeats 40000000 in
theorem pC10 {p : Program} {l : Launch} {e : Env} {s : State} {m : MethodId} {args : Array Value} {below : List Frame} {meth : Method} {c : Code} {T : State} {locs : List Loc} {P : Outcome → State → Prop} {Z : State} {a0 : Array Value} (hw : ∀ d ∈ tables_1, d.before a0 Z = true) (X0 : Stand p l e room_1 s m args below meth c T locs 1 16) (hx : p.tables.exec = Jvm.exec) (hby : c.code = code) (hml : c.maxLocals = 13) (hZ : Z.Warmed39 s.vm) (hown : s.vm.findClass "com/example/triplepress/triplepress/container/VByteWritePinLaw" = some m.cls)
    {q1 vv : Int64} {p2 p3 p4 at_ ff en nn : Int32} {a : Addr} {h : Heap} {n0 : Nat} (e0 : T.heap = h) (N0 : Fr n0 locs) (Z0 : n0 ≤ h.size) (F0 : BA Z h a .byte 16 (fun j => .int (own_cv at_ vv nn (Int32.ofNat j) ff)))
    (k : ∀ (T' : State) (locs' : List Loc), Stand p l e room_1 s m args below meth c T' locs' 1 16 → T'.heap = h → Fr n0 locs' → Go p e below P (T'.setTop (mkF m 478 #[.val (.long q1), .second, .val (.int p2), .val (.int p3), .val (.int p4), .val (.long vv), .second, .val (.int at_), .val (.int ff), .val (.ref a), .val (.int en), .val (.int nn), .val (.int (1 : Int32))] []))) : Go p e below P (T.setTop (mkF m 448 #[.val (.long q1), .second, .val (.int p2), .val (.int p3), .val (.int p4), .val (.long vv), .second, .val (.int at_), .val (.int ff), .val (.ref a), .val (.int en), .val (.int nn), .val (.int (1 : Int32))] [])) := by
  refine Go.on (fun t k => XS.iload X0.here hx rfl (hb hby at_448) rfl k) ?_
  show Go p e below _ (T.setTop (mkF m 450 #[.val (.long q1), .second, .val (.int p2), .val (.int p3), .val (.int p4), .val (.long vv), .second, .val (.int at_), .val (.int ff), .val (.ref a), .val (.int en), .val (.int nn), .val (.int (1 : Int32))] [(.int (1 : Int32))]))
  refine Go.on (fun t k => XS.ifNo X0.here hx rfl (hb hby at_450) rfl ((if0 _ _).trans (feq (by decide : ¬ ((1 : Int32) = (0 : Int32)))).1) k) ?_
  show Go p e below _ (T.setTop (mkF m 453 #[.val (.long q1), .second, .val (.int p2), .val (.int p3), .val (.int p4), .val (.long vv), .second, .val (.int at_), .val (.int ff), .val (.ref a), .val (.int en), .val (.int nn), .val (.int (1 : Int32))] []))
  refine Go.on (fun t k => XS.aload X0.here hx rfl (hb hby at_453) rfl rfl k) ?_
  show Go p e below _ (T.setTop (mkF m 455 #[.val (.long q1), .second, .val (.int p2), .val (.int p3), .val (.int p4), .val (.long vv), .second, .val (.int at_), .val (.int ff), .val (.ref a), .val (.int en), .val (.int nn), .val (.int (1 : Int32))] [(.ref a)]))
  refine Go.on (fun t k => XS.iload X0.here hx rfl (hb hby at_455) rfl k) ?_
  show Go p e below _ (T.setTop (mkF m 457 #[.val (.long q1), .second, .val (.int p2), .val (.int p3), .val (.int p4), .val (.long vv), .second, .val (.int at_), .val (.int ff), .val (.ref a), .val (.int en), .val (.int nn), .val (.int (1 : Int32))] [(.int at_), (.ref a)]))
  refine Go.on (fun t k => XS.lload X0.here hx rfl (hb hby at_457) rfl k) ?_
  show Go p e below _ (T.setTop (mkF m 459 #[.val (.long q1), .second, .val (.int p2), .val (.int p3), .val (.int p4), .val (.long vv), .second, .val (.int at_), .val (.int ff), .val (.ref a), .val (.int en), .val (.int nn), .val (.int (1 : Int32))] [(.long vv), (.int at_), (.ref a)]))
  refine Go.on (fun t k => XS.iload X0.here hx rfl (hb hby at_459) rfl k) ?_
  show Go p e below _ (T.setTop (mkF m 461 #[.val (.long q1), .second, .val (.int p2), .val (.int p3), .val (.int p4), .val (.long vv), .second, .val (.int at_), .val (.int ff), .val (.ref a), .val (.int en), .val (.int nn), .val (.int (1 : Int32))] [(.int nn), (.long vv), (.int at_), (.ref a)]))
  refine Go.on (fun t k => XS.bipush X0.here hx rfl (hb hby at_461) k) ?_
  show Go p e below _ (T.setTop (mkF m 463 #[.val (.long q1), .second, .val (.int p2), .val (.int p3), .val (.int p4), .val (.long vv), .second, .val (.int at_), .val (.int ff), .val (.ref a), .val (.int en), .val (.int nn), .val (.int (1 : Int32))] [(.int (10 : Int32)), (.int nn), (.long vv), (.int at_), (.ref a)]))
  refine Go.on (fun t k => XS.iload X0.here hx rfl (hb hby at_463) rfl k) ?_
  show Go p e below _ (T.setTop (mkF m 465 #[.val (.long q1), .second, .val (.int p2), .val (.int p3), .val (.int p4), .val (.long vv), .second, .val (.int at_), .val (.int ff), .val (.ref a), .val (.int en), .val (.int nn), .val (.int (1 : Int32))] [(.int ff), (.int (10 : Int32)), (.int nn), (.long vv), (.int at_), (.ref a)]))
  obtain ⟨_, _, ⟨T11, L11, k11, n11⟩, -, X11, ⟨Lc11, hQ11, l11, y11, z11⟩, st11⟩ := Jvm.LawKit.callS X0 hx (y := (⟨"com/example/triplepress/triplepress/container/VByteWritePinLaw", "cell", "([BIJIIB)Z"⟩ : MethodName)) hown (mvT hZ (hw _ (List.mem_of_getElem? (i := 12) rfl))) (mvT hZ (hw _ (List.mem_of_getElem? (i := 13) rfl))) (mvT hZ (hw _ (List.mem_of_getElem? (i := 9) rfl))) (mvT hZ (hw _ (List.mem_of_getElem? (i := 14) rfl))) (by decide) (backOf (W := 0) (rm3 l Z a0 hw [] a at_ vv nn (10 : Int32) ff 10 (fun j => .int (own_cv at_ vv nn (Int32.ofNat j) ff)) h n0 Z0 F0 (by decide) (by decide) (congrArg (fun z => Value.int (own_cv at_ vv nn z ff)) (by decide : Int32.ofNat 10 = (10 : Int32)))) hZ (hw _ (List.mem_of_getElem? (i := 14) rfl)) (hw _ (List.mem_of_getElem? (i := 9) rfl)) (by decide) (by decide)) (g := (mkF m 465 #[.val (.long q1), .second, .val (.int p2), .val (.int p3), .val (.int p4), .val (.long vv), .second, .val (.int at_), .val (.int ff), .val (.ref a), .val (.int en), .val (.int nn), .val (.int (1 : Int32))] [(.int ff), (.int (10 : Int32)), (.int nn), (.long vv), (.int at_), (.ref a)])) rfl (by rw [hml]; rfl) (argsL := [(.ref a), (.int at_), (.long vv), (.int nn), (.int (10 : Int32)), (.int ff)]) (rest := []) (lenOf pd_1 rfl) rfl (by show 2 * 0 + _ ≤ _; exact Nat.le_of_eq rfl) (hb hby at_465) (fun _ _ => ⟨rfl, e0, (by decide : 1 + 0 ≤ _), (by decide : 16 + 0 ≤ _)⟩)
  dsimp only [Pt.U, Pt.locs, Pt.cells, Pt.slots] at X11 l11 y11 z11 st11 hQ11
  subst l11 y11 z11
  obtain ⟨rfl, N11q, e11⟩ := hQ11
  have N11 := Fr.app N0 N11q
  refine Go.on st11 ?_
  show Go p e below _ (T11.setTop (mkF m 468 #[.val (.long q1), .second, .val (.int p2), .val (.int p3), .val (.int p4), .val (.long vv), .second, .val (.int at_), .val (.int ff), .val (.ref a), .val (.int en), .val (.int nn), .val (.int (1 : Int32))] [(.int (1 : Int32))]))
  refine Go.on (fun t k => XS.ifNo X11.here hx rfl (hb hby at_468) rfl ((if0 _ _).trans (feq (by decide : ¬ ((1 : Int32) = (0 : Int32)))).1) k) ?_
  show Go p e below _ (T11.setTop (mkF m 471 #[.val (.long q1), .second, .val (.int p2), .val (.int p3), .val (.int p4), .val (.long vv), .second, .val (.int at_), .val (.int ff), .val (.ref a), .val (.int en), .val (.int nn), .val (.int (1 : Int32))] []))
  refine Go.on (fun t k => XS.iconst X11.here hx rfl (hb hby at_471) k) ?_
  show Go p e below _ (T11.setTop (mkF m 472 #[.val (.long q1), .second, .val (.int p2), .val (.int p3), .val (.int p4), .val (.long vv), .second, .val (.int at_), .val (.int ff), .val (.ref a), .val (.int en), .val (.int nn), .val (.int (1 : Int32))] [(.int (1 : Int32))]))
  refine Go.on (fun t k => XS.goto X11.here hx rfl (pc0 := 472) (pc' := 476) rfl (hb hby at_472) (by decide) (by decide) k) ?_
  show Go p e below _ (T11.setTop (mkF m 476 #[.val (.long q1), .second, .val (.int p2), .val (.int p3), .val (.int p4), .val (.long vv), .second, .val (.int at_), .val (.int ff), .val (.ref a), .val (.int en), .val (.int nn), .val (.int (1 : Int32))] [(.int (1 : Int32))]))
  refine Go.on (fun t k => XS.istore X11.here hx rfl (hb hby at_476) rfl (l' := #[.val (.long q1), .second, .val (.int p2), .val (.int p3), .val (.int p4), .val (.long vv), .second, .val (.int at_), .val (.int ff), .val (.ref a), .val (.int en), .val (.int nn), .val (.int (1 : Int32))]) rfl k) ?_
  show Go p e below _ (T11.setTop (mkF m 478 #[.val (.long q1), .second, .val (.int p2), .val (.int p3), .val (.int p4), .val (.long vv), .second, .val (.int at_), .val (.int ff), .val (.ref a), .val (.int en), .val (.int nn), .val (.int (1 : Int32))] []))
  exact k T11 _ X11 e11 N11
set_option maxRecDepth 65536 in
set_option maxHeartbeats 40000000 in
theorem pC11 {p : Program} {l : Launch} {e : Env} {s : State} {m : MethodId} {args : Array Value} {below : List Frame} {meth : Method} {c : Code} {T : State} {locs : List Loc} {P : Outcome → State → Prop} {Z : State} {a0 : Array Value} (hw : ∀ d ∈ tables_1, d.before a0 Z = true) (X0 : Stand p l e room_1 s m args below meth c T locs 1 16) (hx : p.tables.exec = Jvm.exec) (hby : c.code = code) (hml : c.maxLocals = 13) (hZ : Z.Warmed39 s.vm) (hown : s.vm.findClass "com/example/triplepress/triplepress/container/VByteWritePinLaw" = some m.cls)
    {q1 vv : Int64} {p2 p3 p4 at_ ff en nn : Int32} {a : Addr} {h : Heap} {n0 : Nat} (e0 : T.heap = h) (N0 : Fr n0 locs) (Z0 : n0 ≤ h.size) (F0 : BA Z h a .byte 16 (fun j => .int (own_cv at_ vv nn (Int32.ofNat j) ff)))
    (k : ∀ (T' : State) (locs' : List Loc), Stand p l e room_1 s m args below meth c T' locs' 1 16 → T'.heap = h → Fr n0 locs' → Go p e below P (T'.setTop (mkF m 508 #[.val (.long q1), .second, .val (.int p2), .val (.int p3), .val (.int p4), .val (.long vv), .second, .val (.int at_), .val (.int ff), .val (.ref a), .val (.int en), .val (.int nn), .val (.int (1 : Int32))] []))) : Go p e below P (T.setTop (mkF m 478 #[.val (.long q1), .second, .val (.int p2), .val (.int p3), .val (.int p4), .val (.long vv), .second, .val (.int at_), .val (.int ff), .val (.ref a), .val (.int en), .val (.int nn), .val (.int (1 : Int32))] [])) := by
  refine Go.on (fun t k => XS.iload X0.here hx rfl (hb hby at_478) rfl k) ?_
  show Go p e below _ (T.setTop (mkF m 480 #[.val (.long q1), .second, .val (.int p2), .val (.int p3), .val (.int p4), .val (.long vv), .second, .val (.int at_), .val (.int ff), .val (.ref a), .val (.int en), .val (.int nn), .val (.int (1 : Int32))] [(.int (1 : Int32))]))
  refine Go.on (fun t k => XS.ifNo X0.here hx rfl (hb hby at_480) rfl ((if0 _ _).trans (feq (by decide : ¬ ((1 : Int32) = (0 : Int32)))).1) k) ?_
  show Go p e below _ (T.setTop (mkF m 483 #[.val (.long q1), .second, .val (.int p2), .val (.int p3), .val (.int p4), .val (.long vv), .second, .val (.int at_), .val (.int ff), .val (.ref a), .val (.int en), .val (.int nn), .val (.int (1 : Int32))] []))
  refine Go.on (fun t k => XS.aload X0.here hx rfl (hb hby at_483) rfl rfl k) ?_
  show Go p e below _ (T.setTop (mkF m 485 #[.val (.long q1), .second, .val (.int p2), .val (.int p3), .val (.int p4), .val (.long vv), .second, .val (.int at_), .val (.int ff), .val (.ref a), .val (.int en), .val (.int nn), .val (.int (1 : Int32))] [(.ref a)]))
  refine Go.on (fun t k => XS.iload X0.here hx rfl (hb hby at_485) rfl k) ?_
  show Go p e below _ (T.setTop (mkF m 487 #[.val (.long q1), .second, .val (.int p2), .val (.int p3), .val (.int p4), .val (.long vv), .second, .val (.int at_), .val (.int ff), .val (.ref a), .val (.int en), .val (.int nn), .val (.int (1 : Int32))] [(.int at_), (.ref a)]))
  refine Go.on (fun t k => XS.lload X0.here hx rfl (hb hby at_487) rfl k) ?_
  show Go p e below _ (T.setTop (mkF m 489 #[.val (.long q1), .second, .val (.int p2), .val (.int p3), .val (.int p4), .val (.long vv), .second, .val (.int at_), .val (.int ff), .val (.ref a), .val (.int en), .val (.int nn), .val (.int (1 : Int32))] [(.long vv), (.int at_), (.ref a)]))
  refine Go.on (fun t k => XS.iload X0.here hx rfl (hb hby at_489) rfl k) ?_
  show Go p e below _ (T.setTop (mkF m 491 #[.val (.long q1), .second, .val (.int p2), .val (.int p3), .val (.int p4), .val (.long vv), .second, .val (.int at_), .val (.int ff), .val (.ref a), .val (.int en), .val (.int nn), .val (.int (1 : Int32))] [(.int nn), (.long vv), (.int at_), (.ref a)]))
  refine Go.on (fun t k => XS.bipush X0.here hx rfl (hb hby at_491) k) ?_
  show Go p e below _ (T.setTop (mkF m 493 #[.val (.long q1), .second, .val (.int p2), .val (.int p3), .val (.int p4), .val (.long vv), .second, .val (.int at_), .val (.int ff), .val (.ref a), .val (.int en), .val (.int nn), .val (.int (1 : Int32))] [(.int (11 : Int32)), (.int nn), (.long vv), (.int at_), (.ref a)]))
  refine Go.on (fun t k => XS.iload X0.here hx rfl (hb hby at_493) rfl k) ?_
  show Go p e below _ (T.setTop (mkF m 495 #[.val (.long q1), .second, .val (.int p2), .val (.int p3), .val (.int p4), .val (.long vv), .second, .val (.int at_), .val (.int ff), .val (.ref a), .val (.int en), .val (.int nn), .val (.int (1 : Int32))] [(.int ff), (.int (11 : Int32)), (.int nn), (.long vv), (.int at_), (.ref a)]))
  obtain ⟨_, _, ⟨T11, L11, k11, n11⟩, -, X11, ⟨Lc11, hQ11, l11, y11, z11⟩, st11⟩ := Jvm.LawKit.callS X0 hx (y := (⟨"com/example/triplepress/triplepress/container/VByteWritePinLaw", "cell", "([BIJIIB)Z"⟩ : MethodName)) hown (mvT hZ (hw _ (List.mem_of_getElem? (i := 12) rfl))) (mvT hZ (hw _ (List.mem_of_getElem? (i := 13) rfl))) (mvT hZ (hw _ (List.mem_of_getElem? (i := 9) rfl))) (mvT hZ (hw _ (List.mem_of_getElem? (i := 14) rfl))) (by decide) (backOf (W := 0) (rm3 l Z a0 hw [] a at_ vv nn (11 : Int32) ff 11 (fun j => .int (own_cv at_ vv nn (Int32.ofNat j) ff)) h n0 Z0 F0 (by decide) (by decide) (congrArg (fun z => Value.int (own_cv at_ vv nn z ff)) (by decide : Int32.ofNat 11 = (11 : Int32)))) hZ (hw _ (List.mem_of_getElem? (i := 14) rfl)) (hw _ (List.mem_of_getElem? (i := 9) rfl)) (by decide) (by decide)) (g := (mkF m 495 #[.val (.long q1), .second, .val (.int p2), .val (.int p3), .val (.int p4), .val (.long vv), .second, .val (.int at_), .val (.int ff), .val (.ref a), .val (.int en), .val (.int nn), .val (.int (1 : Int32))] [(.int ff), (.int (11 : Int32)), (.int nn), (.long vv), (.int at_), (.ref a)])) rfl (by rw [hml]; rfl) (argsL := [(.ref a), (.int at_), (.long vv), (.int nn), (.int (11 : Int32)), (.int ff)]) (rest := []) (lenOf pd_1 rfl) rfl (by show 2 * 0 + _ ≤ _; exact Nat.le_of_eq rfl) (hb hby at_495) (fun _ _ => ⟨rfl, e0, (by decide : 1 + 0 ≤ _), (by decide : 16 + 0 ≤ _)⟩)
  dsimp only [Pt.U, Pt.locs, Pt.cells, Pt.slots] at X11 l11 y11 z11 st11 hQ11
  subst l11 y11 z11
  obtain ⟨rfl, N11q, e11⟩ := hQ11
  have N11 := Fr.app N0 N11q
  refine Go.on st11 ?_
  show Go p e below _ (T11.setTop (mkF m 498 #[.val (.long q1), .second, .val (.int p2), .val (.int p3), .val (.int p4), .val (.long vv), .second, .val (.int at_), .val (.int ff), .val (.ref a), .val (.int en), .val (.int nn), .val (.int (1 : Int32))] [(.int (1 : Int32))]))
  refine Go.on (fun t k => XS.ifNo X11.here hx rfl (hb hby at_498) rfl ((if0 _ _).trans (feq (by decide : ¬ ((1 : Int32) = (0 : Int32)))).1) k) ?_
  show Go p e below _ (T11.setTop (mkF m 501 #[.val (.long q1), .second, .val (.int p2), .val (.int p3), .val (.int p4), .val (.long vv), .second, .val (.int at_), .val (.int ff), .val (.ref a), .val (.int en), .val (.int nn), .val (.int (1 : Int32))] []))
  refine Go.on (fun t k => XS.iconst X11.here hx rfl (hb hby at_501) k) ?_
  show Go p e below _ (T11.setTop (mkF m 502 #[.val (.long q1), .second, .val (.int p2), .val (.int p3), .val (.int p4), .val (.long vv), .second, .val (.int at_), .val (.int ff), .val (.ref a), .val (.int en), .val (.int nn), .val (.int (1 : Int32))] [(.int (1 : Int32))]))
  refine Go.on (fun t k => XS.goto X11.here hx rfl (pc0 := 502) (pc' := 506) rfl (hb hby at_502) (by decide) (by decide) k) ?_
  show Go p e below _ (T11.setTop (mkF m 506 #[.val (.long q1), .second, .val (.int p2), .val (.int p3), .val (.int p4), .val (.long vv), .second, .val (.int at_), .val (.int ff), .val (.ref a), .val (.int en), .val (.int nn), .val (.int (1 : Int32))] [(.int (1 : Int32))]))
  refine Go.on (fun t k => XS.istore X11.here hx rfl (hb hby at_506) rfl (l' := #[.val (.long q1), .second, .val (.int p2), .val (.int p3), .val (.int p4), .val (.long vv), .second, .val (.int at_), .val (.int ff), .val (.ref a), .val (.int en), .val (.int nn), .val (.int (1 : Int32))]) rfl k) ?_
  show Go p e below _ (T11.setTop (mkF m 508 #[.val (.long q1), .second, .val (.int p2), .val (.int p3), .val (.int p4), .val (.long vv), .second, .val (.int at_), .val (.int ff), .val (.ref a), .val (.int en), .val (.int nn), .val (.int (1 : Int32))] []))
  exact k T11 _ X11 e11 N11
set_option maxRecDepth 65536 in
set_option maxHeartbeats 40000000 in
theorem pC12 {p : Program} {l : Launch} {e : Env} {s : State} {m : MethodId} {args : Array Value} {below : List Frame} {meth : Method} {c : Code} {T : State} {locs : List Loc} {P : Outcome → State → Prop} {Z : State} {a0 : Array Value} (hw : ∀ d ∈ tables_1, d.before a0 Z = true) (X0 : Stand p l e room_1 s m args below meth c T locs 1 16) (hx : p.tables.exec = Jvm.exec) (hby : c.code = code) (hml : c.maxLocals = 13) (hZ : Z.Warmed39 s.vm) (hown : s.vm.findClass "com/example/triplepress/triplepress/container/VByteWritePinLaw" = some m.cls)
    {q1 vv : Int64} {p2 p3 p4 at_ ff en nn : Int32} {a : Addr} {h : Heap} {n0 : Nat} (e0 : T.heap = h) (N0 : Fr n0 locs) (Z0 : n0 ≤ h.size) (F0 : BA Z h a .byte 16 (fun j => .int (own_cv at_ vv nn (Int32.ofNat j) ff)))
    (k : ∀ (T' : State) (locs' : List Loc), Stand p l e room_1 s m args below meth c T' locs' 1 16 → T'.heap = h → Fr n0 locs' → Go p e below P (T'.setTop (mkF m 538 #[.val (.long q1), .second, .val (.int p2), .val (.int p3), .val (.int p4), .val (.long vv), .second, .val (.int at_), .val (.int ff), .val (.ref a), .val (.int en), .val (.int nn), .val (.int (1 : Int32))] []))) : Go p e below P (T.setTop (mkF m 508 #[.val (.long q1), .second, .val (.int p2), .val (.int p3), .val (.int p4), .val (.long vv), .second, .val (.int at_), .val (.int ff), .val (.ref a), .val (.int en), .val (.int nn), .val (.int (1 : Int32))] [])) := by
  refine Go.on (fun t k => XS.iload X0.here hx rfl (hb hby at_508) rfl k) ?_
  show Go p e below _ (T.setTop (mkF m 510 #[.val (.long q1), .second, .val (.int p2), .val (.int p3), .val (.int p4), .val (.long vv), .second, .val (.int at_), .val (.int ff), .val (.ref a), .val (.int en), .val (.int nn), .val (.int (1 : Int32))] [(.int (1 : Int32))]))
  refine Go.on (fun t k => XS.ifNo X0.here hx rfl (hb hby at_510) rfl ((if0 _ _).trans (feq (by decide : ¬ ((1 : Int32) = (0 : Int32)))).1) k) ?_
  show Go p e below _ (T.setTop (mkF m 513 #[.val (.long q1), .second, .val (.int p2), .val (.int p3), .val (.int p4), .val (.long vv), .second, .val (.int at_), .val (.int ff), .val (.ref a), .val (.int en), .val (.int nn), .val (.int (1 : Int32))] []))
  refine Go.on (fun t k => XS.aload X0.here hx rfl (hb hby at_513) rfl rfl k) ?_
  show Go p e below _ (T.setTop (mkF m 515 #[.val (.long q1), .second, .val (.int p2), .val (.int p3), .val (.int p4), .val (.long vv), .second, .val (.int at_), .val (.int ff), .val (.ref a), .val (.int en), .val (.int nn), .val (.int (1 : Int32))] [(.ref a)]))
  refine Go.on (fun t k => XS.iload X0.here hx rfl (hb hby at_515) rfl k) ?_
  show Go p e below _ (T.setTop (mkF m 517 #[.val (.long q1), .second, .val (.int p2), .val (.int p3), .val (.int p4), .val (.long vv), .second, .val (.int at_), .val (.int ff), .val (.ref a), .val (.int en), .val (.int nn), .val (.int (1 : Int32))] [(.int at_), (.ref a)]))
  refine Go.on (fun t k => XS.lload X0.here hx rfl (hb hby at_517) rfl k) ?_
  show Go p e below _ (T.setTop (mkF m 519 #[.val (.long q1), .second, .val (.int p2), .val (.int p3), .val (.int p4), .val (.long vv), .second, .val (.int at_), .val (.int ff), .val (.ref a), .val (.int en), .val (.int nn), .val (.int (1 : Int32))] [(.long vv), (.int at_), (.ref a)]))
  refine Go.on (fun t k => XS.iload X0.here hx rfl (hb hby at_519) rfl k) ?_
  show Go p e below _ (T.setTop (mkF m 521 #[.val (.long q1), .second, .val (.int p2), .val (.int p3), .val (.int p4), .val (.long vv), .second, .val (.int at_), .val (.int ff), .val (.ref a), .val (.int en), .val (.int nn), .val (.int (1 : Int32))] [(.int nn), (.long vv), (.int at_), (.ref a)]))
  refine Go.on (fun t k => XS.bipush X0.here hx rfl (hb hby at_521) k) ?_
  show Go p e below _ (T.setTop (mkF m 523 #[.val (.long q1), .second, .val (.int p2), .val (.int p3), .val (.int p4), .val (.long vv), .second, .val (.int at_), .val (.int ff), .val (.ref a), .val (.int en), .val (.int nn), .val (.int (1 : Int32))] [(.int (12 : Int32)), (.int nn), (.long vv), (.int at_), (.ref a)]))
  refine Go.on (fun t k => XS.iload X0.here hx rfl (hb hby at_523) rfl k) ?_
  show Go p e below _ (T.setTop (mkF m 525 #[.val (.long q1), .second, .val (.int p2), .val (.int p3), .val (.int p4), .val (.long vv), .second, .val (.int at_), .val (.int ff), .val (.ref a), .val (.int en), .val (.int nn), .val (.int (1 : Int32))] [(.int ff), (.int (12 : Int32)), (.int nn), (.long vv), (.int at_), (.ref a)]))
  obtain ⟨_, _, ⟨T11, L11, k11, n11⟩, -, X11, ⟨Lc11, hQ11, l11, y11, z11⟩, st11⟩ := Jvm.LawKit.callS X0 hx (y := (⟨"com/example/triplepress/triplepress/container/VByteWritePinLaw", "cell", "([BIJIIB)Z"⟩ : MethodName)) hown (mvT hZ (hw _ (List.mem_of_getElem? (i := 12) rfl))) (mvT hZ (hw _ (List.mem_of_getElem? (i := 13) rfl))) (mvT hZ (hw _ (List.mem_of_getElem? (i := 9) rfl))) (mvT hZ (hw _ (List.mem_of_getElem? (i := 14) rfl))) (by decide) (backOf (W := 0) (rm3 l Z a0 hw [] a at_ vv nn (12 : Int32) ff 12 (fun j => .int (own_cv at_ vv nn (Int32.ofNat j) ff)) h n0 Z0 F0 (by decide) (by decide) (congrArg (fun z => Value.int (own_cv at_ vv nn z ff)) (by decide : Int32.ofNat 12 = (12 : Int32)))) hZ (hw _ (List.mem_of_getElem? (i := 14) rfl)) (hw _ (List.mem_of_getElem? (i := 9) rfl)) (by decide) (by decide)) (g := (mkF m 525 #[.val (.long q1), .second, .val (.int p2), .val (.int p3), .val (.int p4), .val (.long vv), .second, .val (.int at_), .val (.int ff), .val (.ref a), .val (.int en), .val (.int nn), .val (.int (1 : Int32))] [(.int ff), (.int (12 : Int32)), (.int nn), (.long vv), (.int at_), (.ref a)])) rfl (by rw [hml]; rfl) (argsL := [(.ref a), (.int at_), (.long vv), (.int nn), (.int (12 : Int32)), (.int ff)]) (rest := []) (lenOf pd_1 rfl) rfl (by show 2 * 0 + _ ≤ _; exact Nat.le_of_eq rfl) (hb hby at_525) (fun _ _ => ⟨rfl, e0, (by decide : 1 + 0 ≤ _), (by decide : 16 + 0 ≤ _)⟩)
  dsimp only [Pt.U, Pt.locs, Pt.cells, Pt.slots] at X11 l11 y11 z11 st11 hQ11
  subst l11 y11 z11
  obtain ⟨rfl, N11q, e11⟩ := hQ11
  have N11 := Fr.app N0 N11q
  refine Go.on st11 ?_
  show Go p e below _ (T11.setTop (mkF m 528 #[.val (.long q1), .second, .val (.int p2), .val (.int p3), .val (.int p4), .val (.long vv), .second, .val (.int at_), .val (.int ff), .val (.ref a), .val (.int en), .val (.int nn), .val (.int (1 : Int32))] [(.int (1 : Int32))]))
  refine Go.on (fun t k => XS.ifNo X11.here hx rfl (hb hby at_528) rfl ((if0 _ _).trans (feq (by decide : ¬ ((1 : Int32) = (0 : Int32)))).1) k) ?_
  show Go p e below _ (T11.setTop (mkF m 531 #[.val (.long q1), .second, .val (.int p2), .val (.int p3), .val (.int p4), .val (.long vv), .second, .val (.int at_), .val (.int ff), .val (.ref a), .val (.int en), .val (.int nn), .val (.int (1 : Int32))] []))
  refine Go.on (fun t k => XS.iconst X11.here hx rfl (hb hby at_531) k) ?_
  show Go p e below _ (T11.setTop (mkF m 532 #[.val (.long q1), .second, .val (.int p2), .val (.int p3), .val (.int p4), .val (.long vv), .second, .val (.int at_), .val (.int ff), .val (.ref a), .val (.int en), .val (.int nn), .val (.int (1 : Int32))] [(.int (1 : Int32))]))
  refine Go.on (fun t k => XS.goto X11.here hx rfl (pc0 := 532) (pc' := 536) rfl (hb hby at_532) (by decide) (by decide) k) ?_
  show Go p e below _ (T11.setTop (mkF m 536 #[.val (.long q1), .second, .val (.int p2), .val (.int p3), .val (.int p4), .val (.long vv), .second, .val (.int at_), .val (.int ff), .val (.ref a), .val (.int en), .val (.int nn), .val (.int (1 : Int32))] [(.int (1 : Int32))]))
  refine Go.on (fun t k => XS.istore X11.here hx rfl (hb hby at_536) rfl (l' := #[.val (.long q1), .second, .val (.int p2), .val (.int p3), .val (.int p4), .val (.long vv), .second, .val (.int at_), .val (.int ff), .val (.ref a), .val (.int en), .val (.int nn), .val (.int (1 : Int32))]) rfl k) ?_
  show Go p e below _ (T11.setTop (mkF m 538 #[.val (.long q1), .second, .val (.int p2), .val (.int p3), .val (.int p4), .val (.long vv), .second, .val (.int at_), .val (.int ff), .val (.ref a), .val (.int en), .val (.int nn), .val (.int (1 : Int32))] []))
  exact k T11 _ X11 e11 N11
set_option maxRecDepth 65536 in
set_option maxHeartbeats 40000000 in
theorem pC13 {p : Program} {l : Launch} {e : Env} {s : State} {m : MethodId} {args : Array Value} {below : List Frame} {meth : Method} {c : Code} {T : State} {locs : List Loc} {P : Outcome → State → Prop} {Z : State} {a0 : Array Value} (hw : ∀ d ∈ tables_1, d.before a0 Z = true) (X0 : Stand p l e room_1 s m args below meth c T locs 1 16) (hx : p.tables.exec = Jvm.exec) (hby : c.code = code) (hml : c.maxLocals = 13) (hZ : Z.Warmed39 s.vm) (hown : s.vm.findClass "com/example/triplepress/triplepress/container/VByteWritePinLaw" = some m.cls)
    {q1 vv : Int64} {p2 p3 p4 at_ ff en nn : Int32} {a : Addr} {h : Heap} {n0 : Nat} (e0 : T.heap = h) (N0 : Fr n0 locs) (Z0 : n0 ≤ h.size) (F0 : BA Z h a .byte 16 (fun j => .int (own_cv at_ vv nn (Int32.ofNat j) ff)))
    (k : ∀ (T' : State) (locs' : List Loc), Stand p l e room_1 s m args below meth c T' locs' 1 16 → T'.heap = h → Fr n0 locs' → Go p e below P (T'.setTop (mkF m 568 #[.val (.long q1), .second, .val (.int p2), .val (.int p3), .val (.int p4), .val (.long vv), .second, .val (.int at_), .val (.int ff), .val (.ref a), .val (.int en), .val (.int nn), .val (.int (1 : Int32))] []))) : Go p e below P (T.setTop (mkF m 538 #[.val (.long q1), .second, .val (.int p2), .val (.int p3), .val (.int p4), .val (.long vv), .second, .val (.int at_), .val (.int ff), .val (.ref a), .val (.int en), .val (.int nn), .val (.int (1 : Int32))] [])) := by
  refine Go.on (fun t k => XS.iload X0.here hx rfl (hb hby at_538) rfl k) ?_
  show Go p e below _ (T.setTop (mkF m 540 #[.val (.long q1), .second, .val (.int p2), .val (.int p3), .val (.int p4), .val (.long vv), .second, .val (.int at_), .val (.int ff), .val (.ref a), .val (.int en), .val (.int nn), .val (.int (1 : Int32))] [(.int (1 : Int32))]))
  refine Go.on (fun t k => XS.ifNo X0.here hx rfl (hb hby at_540) rfl ((if0 _ _).trans (feq (by decide : ¬ ((1 : Int32) = (0 : Int32)))).1) k) ?_
  show Go p e below _ (T.setTop (mkF m 543 #[.val (.long q1), .second, .val (.int p2), .val (.int p3), .val (.int p4), .val (.long vv), .second, .val (.int at_), .val (.int ff), .val (.ref a), .val (.int en), .val (.int nn), .val (.int (1 : Int32))] []))
  refine Go.on (fun t k => XS.aload X0.here hx rfl (hb hby at_543) rfl rfl k) ?_
  show Go p e below _ (T.setTop (mkF m 545 #[.val (.long q1), .second, .val (.int p2), .val (.int p3), .val (.int p4), .val (.long vv), .second, .val (.int at_), .val (.int ff), .val (.ref a), .val (.int en), .val (.int nn), .val (.int (1 : Int32))] [(.ref a)]))
  refine Go.on (fun t k => XS.iload X0.here hx rfl (hb hby at_545) rfl k) ?_
  show Go p e below _ (T.setTop (mkF m 547 #[.val (.long q1), .second, .val (.int p2), .val (.int p3), .val (.int p4), .val (.long vv), .second, .val (.int at_), .val (.int ff), .val (.ref a), .val (.int en), .val (.int nn), .val (.int (1 : Int32))] [(.int at_), (.ref a)]))
  refine Go.on (fun t k => XS.lload X0.here hx rfl (hb hby at_547) rfl k) ?_
  show Go p e below _ (T.setTop (mkF m 549 #[.val (.long q1), .second, .val (.int p2), .val (.int p3), .val (.int p4), .val (.long vv), .second, .val (.int at_), .val (.int ff), .val (.ref a), .val (.int en), .val (.int nn), .val (.int (1 : Int32))] [(.long vv), (.int at_), (.ref a)]))
  refine Go.on (fun t k => XS.iload X0.here hx rfl (hb hby at_549) rfl k) ?_
  show Go p e below _ (T.setTop (mkF m 551 #[.val (.long q1), .second, .val (.int p2), .val (.int p3), .val (.int p4), .val (.long vv), .second, .val (.int at_), .val (.int ff), .val (.ref a), .val (.int en), .val (.int nn), .val (.int (1 : Int32))] [(.int nn), (.long vv), (.int at_), (.ref a)]))
  refine Go.on (fun t k => XS.bipush X0.here hx rfl (hb hby at_551) k) ?_
  show Go p e below _ (T.setTop (mkF m 553 #[.val (.long q1), .second, .val (.int p2), .val (.int p3), .val (.int p4), .val (.long vv), .second, .val (.int at_), .val (.int ff), .val (.ref a), .val (.int en), .val (.int nn), .val (.int (1 : Int32))] [(.int (13 : Int32)), (.int nn), (.long vv), (.int at_), (.ref a)]))
  refine Go.on (fun t k => XS.iload X0.here hx rfl (hb hby at_553) rfl k) ?_
  show Go p e below _ (T.setTop (mkF m 555 #[.val (.long q1), .second, .val (.int p2), .val (.int p3), .val (.int p4), .val (.long vv), .second, .val (.int at_), .val (.int ff), .val (.ref a), .val (.int en), .val (.int nn), .val (.int (1 : Int32))] [(.int ff), (.int (13 : Int32)), (.int nn), (.long vv), (.int at_), (.ref a)]))
  obtain ⟨_, _, ⟨T11, L11, k11, n11⟩, -, X11, ⟨Lc11, hQ11, l11, y11, z11⟩, st11⟩ := Jvm.LawKit.callS X0 hx (y := (⟨"com/example/triplepress/triplepress/container/VByteWritePinLaw", "cell", "([BIJIIB)Z"⟩ : MethodName)) hown (mvT hZ (hw _ (List.mem_of_getElem? (i := 12) rfl))) (mvT hZ (hw _ (List.mem_of_getElem? (i := 13) rfl))) (mvT hZ (hw _ (List.mem_of_getElem? (i := 9) rfl))) (mvT hZ (hw _ (List.mem_of_getElem? (i := 14) rfl))) (by decide) (backOf (W := 0) (rm3 l Z a0 hw [] a at_ vv nn (13 : Int32) ff 13 (fun j => .int (own_cv at_ vv nn (Int32.ofNat j) ff)) h n0 Z0 F0 (by decide) (by decide) (congrArg (fun z => Value.int (own_cv at_ vv nn z ff)) (by decide : Int32.ofNat 13 = (13 : Int32)))) hZ (hw _ (List.mem_of_getElem? (i := 14) rfl)) (hw _ (List.mem_of_getElem? (i := 9) rfl)) (by decide) (by decide)) (g := (mkF m 555 #[.val (.long q1), .second, .val (.int p2), .val (.int p3), .val (.int p4), .val (.long vv), .second, .val (.int at_), .val (.int ff), .val (.ref a), .val (.int en), .val (.int nn), .val (.int (1 : Int32))] [(.int ff), (.int (13 : Int32)), (.int nn), (.long vv), (.int at_), (.ref a)])) rfl (by rw [hml]; rfl) (argsL := [(.ref a), (.int at_), (.long vv), (.int nn), (.int (13 : Int32)), (.int ff)]) (rest := []) (lenOf pd_1 rfl) rfl (by show 2 * 0 + _ ≤ _; exact Nat.le_of_eq rfl) (hb hby at_555) (fun _ _ => ⟨rfl, e0, (by decide : 1 + 0 ≤ _), (by decide : 16 + 0 ≤ _)⟩)
  dsimp only [Pt.U, Pt.locs, Pt.cells, Pt.slots] at X11 l11 y11 z11 st11 hQ11
  subst l11 y11 z11
  obtain ⟨rfl, N11q, e11⟩ := hQ11
  have N11 := Fr.app N0 N11q
  refine Go.on st11 ?_
  show Go p e below _ (T11.setTop (mkF m 558 #[.val (.long q1), .second, .val (.int p2), .val (.int p3), .val (.int p4), .val (.long vv), .second, .val (.int at_), .val (.int ff), .val (.ref a), .val (.int en), .val (.int nn), .val (.int (1 : Int32))] [(.int (1 : Int32))]))
  refine Go.on (fun t k => XS.ifNo X11.here hx rfl (hb hby at_558) rfl ((if0 _ _).trans (feq (by decide : ¬ ((1 : Int32) = (0 : Int32)))).1) k) ?_
  show Go p e below _ (T11.setTop (mkF m 561 #[.val (.long q1), .second, .val (.int p2), .val (.int p3), .val (.int p4), .val (.long vv), .second, .val (.int at_), .val (.int ff), .val (.ref a), .val (.int en), .val (.int nn), .val (.int (1 : Int32))] []))
  refine Go.on (fun t k => XS.iconst X11.here hx rfl (hb hby at_561) k) ?_
  show Go p e below _ (T11.setTop (mkF m 562 #[.val (.long q1), .second, .val (.int p2), .val (.int p3), .val (.int p4), .val (.long vv), .second, .val (.int at_), .val (.int ff), .val (.ref a), .val (.int en), .val (.int nn), .val (.int (1 : Int32))] [(.int (1 : Int32))]))
  refine Go.on (fun t k => XS.goto X11.here hx rfl (pc0 := 562) (pc' := 566) rfl (hb hby at_562) (by decide) (by decide) k) ?_
  show Go p e below _ (T11.setTop (mkF m 566 #[.val (.long q1), .second, .val (.int p2), .val (.int p3), .val (.int p4), .val (.long vv), .second, .val (.int at_), .val (.int ff), .val (.ref a), .val (.int en), .val (.int nn), .val (.int (1 : Int32))] [(.int (1 : Int32))]))
  refine Go.on (fun t k => XS.istore X11.here hx rfl (hb hby at_566) rfl (l' := #[.val (.long q1), .second, .val (.int p2), .val (.int p3), .val (.int p4), .val (.long vv), .second, .val (.int at_), .val (.int ff), .val (.ref a), .val (.int en), .val (.int nn), .val (.int (1 : Int32))]) rfl k) ?_
  show Go p e below _ (T11.setTop (mkF m 568 #[.val (.long q1), .second, .val (.int p2), .val (.int p3), .val (.int p4), .val (.long vv), .second, .val (.int at_), .val (.int ff), .val (.ref a), .val (.int en), .val (.int nn), .val (.int (1 : Int32))] []))
  exact k T11 _ X11 e11 N11
set_option maxRecDepth 65536 in
set_option maxHeartbeats 40000000 in
theorem pC14 {p : Program} {l : Launch} {e : Env} {s : State} {m : MethodId} {args : Array Value} {below : List Frame} {meth : Method} {c : Code} {T : State} {locs : List Loc} {P : Outcome → State → Prop} {Z : State} {a0 : Array Value} (hw : ∀ d ∈ tables_1, d.before a0 Z = true) (X0 : Stand p l e room_1 s m args below meth c T locs 1 16) (hx : p.tables.exec = Jvm.exec) (hby : c.code = code) (hml : c.maxLocals = 13) (hZ : Z.Warmed39 s.vm) (hown : s.vm.findClass "com/example/triplepress/triplepress/container/VByteWritePinLaw" = some m.cls)
    {q1 vv : Int64} {p2 p3 p4 at_ ff en nn : Int32} {a : Addr} {h : Heap} {n0 : Nat} (e0 : T.heap = h) (N0 : Fr n0 locs) (Z0 : n0 ≤ h.size) (F0 : BA Z h a .byte 16 (fun j => .int (own_cv at_ vv nn (Int32.ofNat j) ff)))
    (k : ∀ (T' : State) (locs' : List Loc), Stand p l e room_1 s m args below meth c T' locs' 1 16 → T'.heap = h → Fr n0 locs' → Go p e below P (T'.setTop (mkF m 598 #[.val (.long q1), .second, .val (.int p2), .val (.int p3), .val (.int p4), .val (.long vv), .second, .val (.int at_), .val (.int ff), .val (.ref a), .val (.int en), .val (.int nn), .val (.int (1 : Int32))] []))) : Go p e below P (T.setTop (mkF m 568 #[.val (.long q1), .second, .val (.int p2), .val (.int p3), .val (.int p4), .val (.long vv), .second, .val (.int at_), .val (.int ff), .val (.ref a), .val (.int en), .val (.int nn), .val (.int (1 : Int32))] [])) := by
  refine Go.on (fun t k => XS.iload X0.here hx rfl (hb hby at_568) rfl k) ?_
  show Go p e below _ (T.setTop (mkF m 570 #[.val (.long q1), .second, .val (.int p2), .val (.int p3), .val (.int p4), .val (.long vv), .second, .val (.int at_), .val (.int ff), .val (.ref a), .val (.int en), .val (.int nn), .val (.int (1 : Int32))] [(.int (1 : Int32))]))
  refine Go.on (fun t k => XS.ifNo X0.here hx rfl (hb hby at_570) rfl ((if0 _ _).trans (feq (by decide : ¬ ((1 : Int32) = (0 : Int32)))).1) k) ?_
  show Go p e below _ (T.setTop (mkF m 573 #[.val (.long q1), .second, .val (.int p2), .val (.int p3), .val (.int p4), .val (.long vv), .second, .val (.int at_), .val (.int ff), .val (.ref a), .val (.int en), .val (.int nn), .val (.int (1 : Int32))] []))
  refine Go.on (fun t k => XS.aload X0.here hx rfl (hb hby at_573) rfl rfl k) ?_
  show Go p e below _ (T.setTop (mkF m 575 #[.val (.long q1), .second, .val (.int p2), .val (.int p3), .val (.int p4), .val (.long vv), .second, .val (.int at_), .val (.int ff), .val (.ref a), .val (.int en), .val (.int nn), .val (.int (1 : Int32))] [(.ref a)]))
  refine Go.on (fun t k => XS.iload X0.here hx rfl (hb hby at_575) rfl k) ?_
  show Go p e below _ (T.setTop (mkF m 577 #[.val (.long q1), .second, .val (.int p2), .val (.int p3), .val (.int p4), .val (.long vv), .second, .val (.int at_), .val (.int ff), .val (.ref a), .val (.int en), .val (.int nn), .val (.int (1 : Int32))] [(.int at_), (.ref a)]))
  refine Go.on (fun t k => XS.lload X0.here hx rfl (hb hby at_577) rfl k) ?_
  show Go p e below _ (T.setTop (mkF m 579 #[.val (.long q1), .second, .val (.int p2), .val (.int p3), .val (.int p4), .val (.long vv), .second, .val (.int at_), .val (.int ff), .val (.ref a), .val (.int en), .val (.int nn), .val (.int (1 : Int32))] [(.long vv), (.int at_), (.ref a)]))
  refine Go.on (fun t k => XS.iload X0.here hx rfl (hb hby at_579) rfl k) ?_
  show Go p e below _ (T.setTop (mkF m 581 #[.val (.long q1), .second, .val (.int p2), .val (.int p3), .val (.int p4), .val (.long vv), .second, .val (.int at_), .val (.int ff), .val (.ref a), .val (.int en), .val (.int nn), .val (.int (1 : Int32))] [(.int nn), (.long vv), (.int at_), (.ref a)]))
  refine Go.on (fun t k => XS.bipush X0.here hx rfl (hb hby at_581) k) ?_
  show Go p e below _ (T.setTop (mkF m 583 #[.val (.long q1), .second, .val (.int p2), .val (.int p3), .val (.int p4), .val (.long vv), .second, .val (.int at_), .val (.int ff), .val (.ref a), .val (.int en), .val (.int nn), .val (.int (1 : Int32))] [(.int (14 : Int32)), (.int nn), (.long vv), (.int at_), (.ref a)]))
  refine Go.on (fun t k => XS.iload X0.here hx rfl (hb hby at_583) rfl k) ?_
  show Go p e below _ (T.setTop (mkF m 585 #[.val (.long q1), .second, .val (.int p2), .val (.int p3), .val (.int p4), .val (.long vv), .second, .val (.int at_), .val (.int ff), .val (.ref a), .val (.int en), .val (.int nn), .val (.int (1 : Int32))] [(.int ff), (.int (14 : Int32)), (.int nn), (.long vv), (.int at_), (.ref a)]))
  obtain ⟨_, _, ⟨T11, L11, k11, n11⟩, -, X11, ⟨Lc11, hQ11, l11, y11, z11⟩, st11⟩ := Jvm.LawKit.callS X0 hx (y := (⟨"com/example/triplepress/triplepress/container/VByteWritePinLaw", "cell", "([BIJIIB)Z"⟩ : MethodName)) hown (mvT hZ (hw _ (List.mem_of_getElem? (i := 12) rfl))) (mvT hZ (hw _ (List.mem_of_getElem? (i := 13) rfl))) (mvT hZ (hw _ (List.mem_of_getElem? (i := 9) rfl))) (mvT hZ (hw _ (List.mem_of_getElem? (i := 14) rfl))) (by decide) (backOf (W := 0) (rm3 l Z a0 hw [] a at_ vv nn (14 : Int32) ff 14 (fun j => .int (own_cv at_ vv nn (Int32.ofNat j) ff)) h n0 Z0 F0 (by decide) (by decide) (congrArg (fun z => Value.int (own_cv at_ vv nn z ff)) (by decide : Int32.ofNat 14 = (14 : Int32)))) hZ (hw _ (List.mem_of_getElem? (i := 14) rfl)) (hw _ (List.mem_of_getElem? (i := 9) rfl)) (by decide) (by decide)) (g := (mkF m 585 #[.val (.long q1), .second, .val (.int p2), .val (.int p3), .val (.int p4), .val (.long vv), .second, .val (.int at_), .val (.int ff), .val (.ref a), .val (.int en), .val (.int nn), .val (.int (1 : Int32))] [(.int ff), (.int (14 : Int32)), (.int nn), (.long vv), (.int at_), (.ref a)])) rfl (by rw [hml]; rfl) (argsL := [(.ref a), (.int at_), (.long vv), (.int nn), (.int (14 : Int32)), (.int ff)]) (rest := []) (lenOf pd_1 rfl) rfl (by show 2 * 0 + _ ≤ _; exact Nat.le_of_eq rfl) (hb hby at_585) (fun _ _ => ⟨rfl, e0, (by decide : 1 + 0 ≤ _), (by decide : 16 + 0 ≤ _)⟩)
  dsimp only [Pt.U, Pt.locs, Pt.cells, Pt.slots] at X11 l11 y11 z11 st11 hQ11
  subst l11 y11 z11
  obtain ⟨rfl, N11q, e11⟩ := hQ11
  have N11 := Fr.app N0 N11q
  refine Go.on st11 ?_
  show Go p e below _ (T11.setTop (mkF m 588 #[.val (.long q1), .second, .val (.int p2), .val (.int p3), .val (.int p4), .val (.long vv), .second, .val (.int at_), .val (.int ff), .val (.ref a), .val (.int en), .val (.int nn), .val (.int (1 : Int32))] [(.int (1 : Int32))]))
  refine Go.on (fun t k => XS.ifNo X11.here hx rfl (hb hby at_588) rfl ((if0 _ _).trans (feq (by decide : ¬ ((1 : Int32) = (0 : Int32)))).1) k) ?_
  show Go p e below _ (T11.setTop (mkF m 591 #[.val (.long q1), .second, .val (.int p2), .val (.int p3), .val (.int p4), .val (.long vv), .second, .val (.int at_), .val (.int ff), .val (.ref a), .val (.int en), .val (.int nn), .val (.int (1 : Int32))] []))
  refine Go.on (fun t k => XS.iconst X11.here hx rfl (hb hby at_591) k) ?_
  show Go p e below _ (T11.setTop (mkF m 592 #[.val (.long q1), .second, .val (.int p2), .val (.int p3), .val (.int p4), .val (.long vv), .second, .val (.int at_), .val (.int ff), .val (.ref a), .val (.int en), .val (.int nn), .val (.int (1 : Int32))] [(.int (1 : Int32))]))
  refine Go.on (fun t k => XS.goto X11.here hx rfl (pc0 := 592) (pc' := 596) rfl (hb hby at_592) (by decide) (by decide) k) ?_
  show Go p e below _ (T11.setTop (mkF m 596 #[.val (.long q1), .second, .val (.int p2), .val (.int p3), .val (.int p4), .val (.long vv), .second, .val (.int at_), .val (.int ff), .val (.ref a), .val (.int en), .val (.int nn), .val (.int (1 : Int32))] [(.int (1 : Int32))]))
  refine Go.on (fun t k => XS.istore X11.here hx rfl (hb hby at_596) rfl (l' := #[.val (.long q1), .second, .val (.int p2), .val (.int p3), .val (.int p4), .val (.long vv), .second, .val (.int at_), .val (.int ff), .val (.ref a), .val (.int en), .val (.int nn), .val (.int (1 : Int32))]) rfl k) ?_
  show Go p e below _ (T11.setTop (mkF m 598 #[.val (.long q1), .second, .val (.int p2), .val (.int p3), .val (.int p4), .val (.long vv), .second, .val (.int at_), .val (.int ff), .val (.ref a), .val (.int en), .val (.int nn), .val (.int (1 : Int32))] []))
  exact k T11 _ X11 e11 N11
set_option maxRecDepth 65536 in
set_option maxHeartbeats 40000000 in
theorem pC15 {p : Program} {l : Launch} {e : Env} {s : State} {m : MethodId} {args : Array Value} {below : List Frame} {meth : Method} {c : Code} {T : State} {locs : List Loc} {P : Outcome → State → Prop} {Z : State} {a0 : Array Value} (hw : ∀ d ∈ tables_1, d.before a0 Z = true) (X0 : Stand p l e room_1 s m args below meth c T locs 1 16) (hx : p.tables.exec = Jvm.exec) (hby : c.code = code) (hml : c.maxLocals = 13) (hZ : Z.Warmed39 s.vm) (hown : s.vm.findClass "com/example/triplepress/triplepress/container/VByteWritePinLaw" = some m.cls)
    {q1 vv : Int64} {p2 p3 p4 at_ ff en nn : Int32} {a : Addr} {h : Heap} {n0 : Nat} (e0 : T.heap = h) (N0 : Fr n0 locs) (Z0 : n0 ≤ h.size) (F0 : BA Z h a .byte 16 (fun j => .int (own_cv at_ vv nn (Int32.ofNat j) ff)))
    (k : ∀ (T' : State) (locs' : List Loc), Stand p l e room_1 s m args below meth c T' locs' 1 16 → T'.heap = h → Fr n0 locs' → Go p e below P (T'.setTop (mkF m 628 #[.val (.long q1), .second, .val (.int p2), .val (.int p3), .val (.int p4), .val (.long vv), .second, .val (.int at_), .val (.int ff), .val (.ref a), .val (.int en), .val (.int nn), .val (.int (1 : Int32))] []))) : Go p e below P (T.setTop (mkF m 598 #[.val (.long q1), .second, .val (.int p2), .val (.int p3), .val (.int p4), .val (.long vv), .second, .val (.int at_), .val (.int ff), .val (.ref a), .val (.int en), .val (.int nn), .val (.int (1 : Int32))] [])) := by
  refine Go.on (fun t k => XS.iload X0.here hx rfl (hb hby at_598) rfl k) ?_
  show Go p e below _ (T.setTop (mkF m 600 #[.val (.long q1), .second, .val (.int p2), .val (.int p3), .val (.int p4), .val (.long vv), .second, .val (.int at_), .val (.int ff), .val (.ref a), .val (.int en), .val (.int nn), .val (.int (1 : Int32))] [(.int (1 : Int32))]))
  refine Go.on (fun t k => XS.ifNo X0.here hx rfl (hb hby at_600) rfl ((if0 _ _).trans (feq (by decide : ¬ ((1 : Int32) = (0 : Int32)))).1) k) ?_
  show Go p e below _ (T.setTop (mkF m 603 #[.val (.long q1), .second, .val (.int p2), .val (.int p3), .val (.int p4), .val (.long vv), .second, .val (.int at_), .val (.int ff), .val (.ref a), .val (.int en), .val (.int nn), .val (.int (1 : Int32))] []))
  refine Go.on (fun t k => XS.aload X0.here hx rfl (hb hby at_603) rfl rfl k) ?_
  show Go p e below _ (T.setTop (mkF m 605 #[.val (.long q1), .second, .val (.int p2), .val (.int p3), .val (.int p4), .val (.long vv), .second, .val (.int at_), .val (.int ff), .val (.ref a), .val (.int en), .val (.int nn), .val (.int (1 : Int32))] [(.ref a)]))
  refine Go.on (fun t k => XS.iload X0.here hx rfl (hb hby at_605) rfl k) ?_
  show Go p e below _ (T.setTop (mkF m 607 #[.val (.long q1), .second, .val (.int p2), .val (.int p3), .val (.int p4), .val (.long vv), .second, .val (.int at_), .val (.int ff), .val (.ref a), .val (.int en), .val (.int nn), .val (.int (1 : Int32))] [(.int at_), (.ref a)]))
  refine Go.on (fun t k => XS.lload X0.here hx rfl (hb hby at_607) rfl k) ?_
  show Go p e below _ (T.setTop (mkF m 609 #[.val (.long q1), .second, .val (.int p2), .val (.int p3), .val (.int p4), .val (.long vv), .second, .val (.int at_), .val (.int ff), .val (.ref a), .val (.int en), .val (.int nn), .val (.int (1 : Int32))] [(.long vv), (.int at_), (.ref a)]))
  refine Go.on (fun t k => XS.iload X0.here hx rfl (hb hby at_609) rfl k) ?_
  show Go p e below _ (T.setTop (mkF m 611 #[.val (.long q1), .second, .val (.int p2), .val (.int p3), .val (.int p4), .val (.long vv), .second, .val (.int at_), .val (.int ff), .val (.ref a), .val (.int en), .val (.int nn), .val (.int (1 : Int32))] [(.int nn), (.long vv), (.int at_), (.ref a)]))
  refine Go.on (fun t k => XS.bipush X0.here hx rfl (hb hby at_611) k) ?_
  show Go p e below _ (T.setTop (mkF m 613 #[.val (.long q1), .second, .val (.int p2), .val (.int p3), .val (.int p4), .val (.long vv), .second, .val (.int at_), .val (.int ff), .val (.ref a), .val (.int en), .val (.int nn), .val (.int (1 : Int32))] [(.int (15 : Int32)), (.int nn), (.long vv), (.int at_), (.ref a)]))
  refine Go.on (fun t k => XS.iload X0.here hx rfl (hb hby at_613) rfl k) ?_
  show Go p e below _ (T.setTop (mkF m 615 #[.val (.long q1), .second, .val (.int p2), .val (.int p3), .val (.int p4), .val (.long vv), .second, .val (.int at_), .val (.int ff), .val (.ref a), .val (.int en), .val (.int nn), .val (.int (1 : Int32))] [(.int ff), (.int (15 : Int32)), (.int nn), (.long vv), (.int at_), (.ref a)]))
  obtain ⟨_, _, ⟨T11, L11, k11, n11⟩, -, X11, ⟨Lc11, hQ11, l11, y11, z11⟩, st11⟩ := Jvm.LawKit.callS X0 hx (y := (⟨"com/example/triplepress/triplepress/container/VByteWritePinLaw", "cell", "([BIJIIB)Z"⟩ : MethodName)) hown (mvT hZ (hw _ (List.mem_of_getElem? (i := 12) rfl))) (mvT hZ (hw _ (List.mem_of_getElem? (i := 13) rfl))) (mvT hZ (hw _ (List.mem_of_getElem? (i := 9) rfl))) (mvT hZ (hw _ (List.mem_of_getElem? (i := 14) rfl))) (by decide) (backOf (W := 0) (rm3 l Z a0 hw [] a at_ vv nn (15 : Int32) ff 15 (fun j => .int (own_cv at_ vv nn (Int32.ofNat j) ff)) h n0 Z0 F0 (by decide) (by decide) (congrArg (fun z => Value.int (own_cv at_ vv nn z ff)) (by decide : Int32.ofNat 15 = (15 : Int32)))) hZ (hw _ (List.mem_of_getElem? (i := 14) rfl)) (hw _ (List.mem_of_getElem? (i := 9) rfl)) (by decide) (by decide)) (g := (mkF m 615 #[.val (.long q1), .second, .val (.int p2), .val (.int p3), .val (.int p4), .val (.long vv), .second, .val (.int at_), .val (.int ff), .val (.ref a), .val (.int en), .val (.int nn), .val (.int (1 : Int32))] [(.int ff), (.int (15 : Int32)), (.int nn), (.long vv), (.int at_), (.ref a)])) rfl (by rw [hml]; rfl) (argsL := [(.ref a), (.int at_), (.long vv), (.int nn), (.int (15 : Int32)), (.int ff)]) (rest := []) (lenOf pd_1 rfl) rfl (by show 2 * 0 + _ ≤ _; exact Nat.le_of_eq rfl) (hb hby at_615) (fun _ _ => ⟨rfl, e0, (by decide : 1 + 0 ≤ _), (by decide : 16 + 0 ≤ _)⟩)
  dsimp only [Pt.U, Pt.locs, Pt.cells, Pt.slots] at X11 l11 y11 z11 st11 hQ11
  subst l11 y11 z11
  obtain ⟨rfl, N11q, e11⟩ := hQ11
  have N11 := Fr.app N0 N11q
  refine Go.on st11 ?_
  show Go p e below _ (T11.setTop (mkF m 618 #[.val (.long q1), .second, .val (.int p2), .val (.int p3), .val (.int p4), .val (.long vv), .second, .val (.int at_), .val (.int ff), .val (.ref a), .val (.int en), .val (.int nn), .val (.int (1 : Int32))] [(.int (1 : Int32))]))
  refine Go.on (fun t k => XS.ifNo X11.here hx rfl (hb hby at_618) rfl ((if0 _ _).trans (feq (by decide : ¬ ((1 : Int32) = (0 : Int32)))).1) k) ?_
  show Go p e below _ (T11.setTop (mkF m 621 #[.val (.long q1), .second, .val (.int p2), .val (.int p3), .val (.int p4), .val (.long vv), .second, .val (.int at_), .val (.int ff), .val (.ref a), .val (.int en), .val (.int nn), .val (.int (1 : Int32))] []))
  refine Go.on (fun t k => XS.iconst X11.here hx rfl (hb hby at_621) k) ?_
  show Go p e below _ (T11.setTop (mkF m 622 #[.val (.long q1), .second, .val (.int p2), .val (.int p3), .val (.int p4), .val (.long vv), .second, .val (.int at_), .val (.int ff), .val (.ref a), .val (.int en), .val (.int nn), .val (.int (1 : Int32))] [(.int (1 : Int32))]))
  refine Go.on (fun t k => XS.goto X11.here hx rfl (pc0 := 622) (pc' := 626) rfl (hb hby at_622) (by decide) (by decide) k) ?_
  show Go p e below _ (T11.setTop (mkF m 626 #[.val (.long q1), .second, .val (.int p2), .val (.int p3), .val (.int p4), .val (.long vv), .second, .val (.int at_), .val (.int ff), .val (.ref a), .val (.int en), .val (.int nn), .val (.int (1 : Int32))] [(.int (1 : Int32))]))
  refine Go.on (fun t k => XS.istore X11.here hx rfl (hb hby at_626) rfl (l' := #[.val (.long q1), .second, .val (.int p2), .val (.int p3), .val (.int p4), .val (.long vv), .second, .val (.int at_), .val (.int ff), .val (.ref a), .val (.int en), .val (.int nn), .val (.int (1 : Int32))]) rfl k) ?_
  show Go p e below _ (T11.setTop (mkF m 628 #[.val (.long q1), .second, .val (.int p2), .val (.int p3), .val (.int p4), .val (.long vv), .second, .val (.int at_), .val (.int ff), .val (.ref a), .val (.int en), .val (.int nn), .val (.int (1 : Int32))] []))
  exact k T11 _ X11 e11 N11
theorem pn_0 : plainFor x = true := by first | exact plainFor_of_name (by first | (simp [plainName, overriddenIn]; done) | decide +kernel) | decide +kernel
theorem ef_0 (m : MethodId) (x0 : Int64) (x1 : Int32) (x2 : Int32) (x3 : Int32) : entryFrame m #[(.long x0), (.int x1), (.int x2), (.int x3)] maxLocals = mkF m 0 #[.val (.long x0), .second, .val (.int x1), .val (.int x2), .val (.int x3), .unset, .unset, .unset, .unset, .unset, .unset, .unset, .unset] [] := by first | (simp [entryFrame, mkF, argsToLocals, Value.category, maxLocals]; done) | rfl
set_option maxRecDepth 65536 in
set_option maxHeartbeats 40000000 in
theorem rm0 (l : Launch) (Z : State) (a0 : Array Value) (hw : ∀ d ∈ tables_1, d.before a0 Z = true) (ws : List Jvm.Cond) (q1 : Int64) (p2 p3 p4 : Int32) (h0 : Heap) (n0 : Nat) (Z0 : n0 ≤ h0.size)  :
    MetFree l x (head1 (Jvm.Cond.code x code maxLocals ret :: ws) room_1) (fun a U => a = #[(.long q1), (.int p2), (.int p3), (.int p4)] ∧ Z.Warmed39 U.vm ∧ U.heap = h0) (fun _ _ _ _ _ => True) (fun _ U o U' => ∃ v L, o = .returned v ∧ Q0 n0 v U'.heap L ∧ FrameEnd U o U' L 16 128) := by
  refine MetFree.of_bodySF pn_0 hisR ?_
  intro p e s m args below meth c s₁ Bd hml0 hP hK
  obtain ⟨rfl, hZ, hh⟩ := hP
  have hx := Bd.exec
  have hby := Bd.bytes
  have hlk := Bd.notSynchronized
  have hret := Bd.returns
  have hml : c.maxLocals = 13 := hml0
  have hown : s.vm.findClass "com/example/triplepress/triplepress/container/VByteWritePinLaw" = some m.cls := findClass_of_methodNamed Bd.named
  have hnm := (name_of_methodNamed Bd.named Bd.method).1
  have X0 : Stand p l e room_1 s m #[(.long q1), (.int p2), (.int p3), (.int p4)] below meth c s₁ [] 0 0 := Stand.of_body Bd
  have e0 : s₁.heap = h0 := by rw [← hh, Bd.state]; rfl
  have N0 := Fr.nil n0
  show Go p e below (Pst s (Q0 n0) 16 128) (s₁.setTop (entryFrame m #[(.long q1), (.int p2), (.int p3), (.int p4)] maxLocals))
  refine Go.on (fun t k => castTop (ef_0 m q1 p2 p3 p4) k) ?_
  show Go p e below _ (s₁.setTop (mkF m 0 #[.val (.long q1), .second, .val (.int p2), .val (.int p3), .val (.int p4), .unset, .unset, .unset, .unset, .unset, .unset, .unset, .unset] []))
  refine Go.on (fun t k => XS.lloadN X0.here hx rfl (hb hby at_0) rfl k) ?_
  show Go p e below _ (s₁.setTop (mkF m 1 #[.val (.long q1), .second, .val (.int p2), .val (.int p3), .val (.int p4), .unset, .unset, .unset, .unset, .unset, .unset, .unset, .unset] [(.long q1)]))
  refine Go.on (fun t k => X0.ldc2Long hx hown (mvT hZ (hw _ (List.mem_of_getElem? (i := 0) rfl))) (g := (mkF m 1 #[.val (.long q1), .second, .val (.int p2), .val (.int p3), .val (.int p4), .unset, .unset, .unset, .unset, .unset, .unset, .unset, .unset] [(.long q1)])) rfl (hb hby at_1) _ k) ?_
  show Go p e below _ (s₁.setTop (mkF m 4 #[.val (.long q1), .second, .val (.int p2), .val (.int p3), .val (.int p4), .unset, .unset, .unset, .unset, .unset, .unset, .unset, .unset] [(.long (9223372036854775807 : Int64)), (.long q1)]))
  refine Go.on (fun t k => XS.land X0.here hx rfl (hb hby at_4) rfl k) ?_
  show Go p e below _ (s₁.setTop (mkF m 5 #[.val (.long q1), .second, .val (.int p2), .val (.int p3), .val (.int p4), .unset, .unset, .unset, .unset, .unset, .unset, .unset, .unset] [(.long (q1 &&& (9223372036854775807 : Int64)))]))
  refine Go.on (fun t k => XS.iloadN X0.here hx rfl (hb hby at_5) rfl k) ?_
  show Go p e below _ (s₁.setTop (mkF m 6 #[.val (.long q1), .second, .val (.int p2), .val (.int p3), .val (.int p4), .unset, .unset, .unset, .unset, .unset, .unset, .unset, .unset] [(.int p2), (.long (q1 &&& (9223372036854775807 : Int64)))]))
  refine Go.on (fun t k => XS.bipush X0.here hx rfl (hb hby at_6) k) ?_
  show Go p e below _ (s₁.setTop (mkF m 8 #[.val (.long q1), .second, .val (.int p2), .val (.int p3), .val (.int p4), .unset, .unset, .unset, .unset, .unset, .unset, .unset, .unset] [(.int (63 : Int32)), (.int p2), (.long (q1 &&& (9223372036854775807 : Int64)))]))
  refine Go.on (fun t k => XS.iand X0.here hx rfl (hb hby at_8) rfl k) ?_
  show Go p e below _ (s₁.setTop (mkF m 9 #[.val (.long q1), .second, .val (.int p2), .val (.int p3), .val (.int p4), .unset, .unset, .unset, .unset, .unset, .unset, .unset, .unset] [(.int (p2 &&& (63 : Int32))), (.long (q1 &&& (9223372036854775807 : Int64)))]))
  refine Go.on (fun t k => XS.lushr X0.here hx rfl (hb hby at_9) rfl k) ?_
  show Go p e below _ (s₁.setTop (mkF m 10 #[.val (.long q1), .second, .val (.int p2), .val (.int p3), .val (.int p4), .unset, .unset, .unset, .unset, .unset, .unset, .unset, .unset] [(.long (own_v q1 p2))]))
  refine Go.on (fun t k => XS.lstore X0.here hx rfl (hb hby at_10) rfl (l' := #[.val (.long q1), .second, .val (.int p2), .val (.int p3), .val (.int p4), .val (.long (own_v q1 p2)), .second, .unset, .unset, .unset, .unset, .unset, .unset]) rfl k) ?_
  show Go p e below _ (s₁.setTop (mkF m 12 #[.val (.long q1), .second, .val (.int p2), .val (.int p3), .val (.int p4), .val (.long (own_v q1 p2)), .second, .unset, .unset, .unset, .unset, .unset, .unset] []))
  refine Go.on (fun t k => XS.iloadN X0.here hx rfl (hb hby at_12) rfl k) ?_
  show Go p e below _ (s₁.setTop (mkF m 13 #[.val (.long q1), .second, .val (.int p2), .val (.int p3), .val (.int p4), .val (.long (own_v q1 p2)), .second, .unset, .unset, .unset, .unset, .unset, .unset] [(.int p3)]))
  refine Go.on (fun t k => XS.bipush X0.here hx rfl (hb hby at_13) k) ?_
  show Go p e below _ (s₁.setTop (mkF m 15 #[.val (.long q1), .second, .val (.int p2), .val (.int p3), .val (.int p4), .val (.long (own_v q1 p2)), .second, .unset, .unset, .unset, .unset, .unset, .unset] [(.int (7 : Int32)), (.int p3)]))
  refine Go.on (fun t k => XS.iand X0.here hx rfl (hb hby at_15) rfl k) ?_
  show Go p e below _ (s₁.setTop (mkF m 16 #[.val (.long q1), .second, .val (.int p2), .val (.int p3), .val (.int p4), .val (.long (own_v q1 p2)), .second, .unset, .unset, .unset, .unset, .unset, .unset] [(.int (own_at p3))]))
  refine Go.on (fun t k => XS.istore X0.here hx rfl (hb hby at_16) rfl (l' := #[.val (.long q1), .second, .val (.int p2), .val (.int p3), .val (.int p4), .val (.long (own_v q1 p2)), .second, .val (.int (own_at p3)), .unset, .unset, .unset, .unset, .unset]) rfl k) ?_
  show Go p e below _ (s₁.setTop (mkF m 18 #[.val (.long q1), .second, .val (.int p2), .val (.int p3), .val (.int p4), .val (.long (own_v q1 p2)), .second, .val (.int (own_at p3)), .unset, .unset, .unset, .unset, .unset] []))
  refine Go.on (fun t k => XS.iload X0.here hx rfl (hb hby at_18) rfl k) ?_
  show Go p e below _ (s₁.setTop (mkF m 20 #[.val (.long q1), .second, .val (.int p2), .val (.int p3), .val (.int p4), .val (.long (own_v q1 p2)), .second, .val (.int (own_at p3)), .unset, .unset, .unset, .unset, .unset] [(.int p4)]))
  refine Go.on (fun t k => XS.i2b X0.here hx rfl (hb hby at_20) rfl k) ?_
  show Go p e below _ (s₁.setTop (mkF m 21 #[.val (.long q1), .second, .val (.int p2), .val (.int p3), .val (.int p4), .val (.long (own_v q1 p2)), .second, .val (.int (own_at p3)), .unset, .unset, .unset, .unset, .unset] [(.int (own_fill p4))]))
  refine Go.on (fun t k => XS.istore X0.here hx rfl (hb hby at_21) rfl (l' := #[.val (.long q1), .second, .val (.int p2), .val (.int p3), .val (.int p4), .val (.long (own_v q1 p2)), .second, .val (.int (own_at p3)), .val (.int (own_fill p4)), .unset, .unset, .unset, .unset]) rfl k) ?_
  show Go p e below _ (s₁.setTop (mkF m 23 #[.val (.long q1), .second, .val (.int p2), .val (.int p3), .val (.int p4), .val (.long (own_v q1 p2)), .second, .val (.int (own_at p3)), .val (.int (own_fill p4)), .unset, .unset, .unset, .unset] []))
  refine Go.on (fun t k => XS.bipush X0.here hx rfl (hb hby at_23) k) ?_
  show Go p e below _ (s₁.setTop (mkF m 25 #[.val (.long q1), .second, .val (.int p2), .val (.int p3), .val (.int p4), .val (.long (own_v q1 p2)), .second, .val (.int (own_at p3)), .val (.int (own_fill p4)), .unset, .unset, .unset, .unset] [(.int (16 : Int32))]))
  obtain ⟨T1, h1, cA1, X1, e1, E1, A1, st1⟩ := newP X0 hx hZ (aty := .byte) (hw _ (List.mem_of_getElem? (i := 1) rfl)) e0 (g := (mkF m 25 #[.val (.long q1), .second, .val (.int p2), .val (.int p3), .val (.int p4), .val (.long (own_v q1 p2)), .second, .val (.int (own_at p3)), .val (.int (own_fill p4)), .unset, .unset, .unset, .unset] [(.int (16 : Int32))])) rfl (hb hby at_25) (n := (16 : Int32)) rfl (by decide) (cap := 16) (by decide) (by decide) (by decide) (by decide)
  obtain ⟨a1, g1⟩ : ∃ z, z = h0.size := ⟨_, rfl⟩
  rw [← g1] at A1 st1
  have Z1 : n0 ≤ h1.size := Nat.le_trans Z0 E1.1
  have G1 : n0 ≤ a1 := Nat.le_trans Z0 (Nat.le_of_eq g1.symm)
  have F1 : BA Z h1 a1 .byte 16 (fun _ => defaultValue .byte) := BA.new A1 rfl
  refine Go.on st1 ?_
  show Go p e below _ (T1.setTop (mkF m 27 #[.val (.long q1), .second, .val (.int p2), .val (.int p3), .val (.int p4), .val (.long (own_v q1 p2)), .second, .val (.int (own_at p3)), .val (.int (own_fill p4)), .unset, .unset, .unset, .unset] [(.ref a1)]))
  have hnb : nar .byte (own_fill p4) = (own_fill p4) := own_narb p4
  have Fw0 : BA Z h1 a1 .byte 16 (fun j => .int (own_w (own_fill p4) 0 j)) := F1.fn (fun j _ => rfl)
  refine Go.on (fun t k => XS.dup X1.here hx rfl (hb hby at_27) rfl rfl k) ?_
  show Go p e below _ (T1.setTop (mkF m 28 #[.val (.long q1), .second, .val (.int p2), .val (.int p3), .val (.int p4), .val (.long (own_v q1 p2)), .second, .val (.int (own_at p3)), .val (.int (own_fill p4)), .unset, .unset, .unset, .unset] [(.ref a1), (.ref a1)]))
  refine Go.on (fun t k => XS.iconst X1.here hx rfl (hb hby at_28) k) ?_
  show Go p e below _ (T1.setTop (mkF m 29 #[.val (.long q1), .second, .val (.int p2), .val (.int p3), .val (.int p4), .val (.long (own_v q1 p2)), .second, .val (.int (own_at p3)), .val (.int (own_fill p4)), .unset, .unset, .unset, .unset] [(.int (0 : Int32)), (.ref a1), (.ref a1)]))
  refine Go.on (fun t k => XS.iload X1.here hx rfl (hb hby at_29) rfl k) ?_
  show Go p e below _ (T1.setTop (mkF m 31 #[.val (.long q1), .second, .val (.int p2), .val (.int p3), .val (.int p4), .val (.long (own_v q1 p2)), .second, .val (.int (own_at p3)), .val (.int (own_fill p4)), .unset, .unset, .unset, .unset] [(.int (own_fill p4)), (.int (0 : Int32)), (.ref a1), (.ref a1)]))
  refine Go.stB X1 hx hZ e1 Fw0 (i := 0) (by decide) (by decide) (by decide) (hb hby at_31) ?_
  intro T2 h2 X2 e2 W2 F2
  have N2 := Fr.snoc X2 N0 G1
  show Go p e below _ (T2.setTop (mkF m 32 #[.val (.long q1), .second, .val (.int p2), .val (.int p3), .val (.int p4), .val (.long (own_v q1 p2)), .second, .val (.int (own_at p3)), .val (.int (own_fill p4)), .unset, .unset, .unset, .unset] [(.ref a1)]))
  have Zs2 : n0 ≤ h2.size := by rw [W2.size]; exact Z1
  have Fw2 : BA Z h2 a1 .byte 16 (fun j => .int (own_w (own_fill p4) 1 j)) := F2.fn (fun j _ => own_wk hnb 0 j)
  refine Go.on (fun t k => XS.dup X2.here hx rfl (hb hby at_32) rfl rfl k) ?_
  show Go p e below _ (T2.setTop (mkF m 33 #[.val (.long q1), .second, .val (.int p2), .val (.int p3), .val (.int p4), .val (.long (own_v q1 p2)), .second, .val (.int (own_at p3)), .val (.int (own_fill p4)), .unset, .unset, .unset, .unset] [(.ref a1), (.ref a1)]))
  refine Go.on (fun t k => XS.iconst X2.here hx rfl (hb hby at_33) k) ?_
  show Go p e below _ (T2.setTop (mkF m 34 #[.val (.long q1), .second, .val (.int p2), .val (.int p3), .val (.int p4), .val (.long (own_v q1 p2)), .second, .val (.int (own_at p3)), .val (.int (own_fill p4)), .unset, .unset, .unset, .unset] [(.int (1 : Int32)), (.ref a1), (.ref a1)]))
  refine Go.on (fun t k => XS.iload X2.here hx rfl (hb hby at_34) rfl k) ?_
  show Go p e below _ (T2.setTop (mkF m 36 #[.val (.long q1), .second, .val (.int p2), .val (.int p3), .val (.int p4), .val (.long (own_v q1 p2)), .second, .val (.int (own_at p3)), .val (.int (own_fill p4)), .unset, .unset, .unset, .unset] [(.int (own_fill p4)), (.int (1 : Int32)), (.ref a1), (.ref a1)]))
  refine Go.stB X2 hx hZ e2 Fw2 (i := 1) (by decide) (by decide) (by decide) (hb hby at_36) ?_
  intro T3 h3 X3 e3 W3 F3
  have N3 := Fr.snoc X3 N2 G1
  show Go p e below _ (T3.setTop (mkF m 37 #[.val (.long q1), .second, .val (.int p2), .val (.int p3), .val (.int p4), .val (.long (own_v q1 p2)), .second, .val (.int (own_at p3)), .val (.int (own_fill p4)), .unset, .unset, .unset, .unset] [(.ref a1)]))
  have Zs3 : n0 ≤ h3.size := by rw [W3.size]; exact Zs2
  have Fw3 : BA Z h3 a1 .byte 16 (fun j => .int (own_w (own_fill p4) 2 j)) := F3.fn (fun j _ => own_wk hnb 1 j)
  refine Go.on (fun t k => XS.dup X3.here hx rfl (hb hby at_37) rfl rfl k) ?_
  show Go p e below _ (T3.setTop (mkF m 38 #[.val (.long q1), .second, .val (.int p2), .val (.int p3), .val (.int p4), .val (.long (own_v q1 p2)), .second, .val (.int (own_at p3)), .val (.int (own_fill p4)), .unset, .unset, .unset, .unset] [(.ref a1), (.ref a1)]))
  refine Go.on (fun t k => XS.iconst X3.here hx rfl (hb hby at_38) k) ?_
  show Go p e below _ (T3.setTop (mkF m 39 #[.val (.long q1), .second, .val (.int p2), .val (.int p3), .val (.int p4), .val (.long (own_v q1 p2)), .second, .val (.int (own_at p3)), .val (.int (own_fill p4)), .unset, .unset, .unset, .unset] [(.int (2 : Int32)), (.ref a1), (.ref a1)]))
  refine Go.on (fun t k => XS.iload X3.here hx rfl (hb hby at_39) rfl k) ?_
  show Go p e below _ (T3.setTop (mkF m 41 #[.val (.long q1), .second, .val (.int p2), .val (.int p3), .val (.int p4), .val (.long (own_v q1 p2)), .second, .val (.int (own_at p3)), .val (.int (own_fill p4)), .unset, .unset, .unset, .unset] [(.int (own_fill p4)), (.int (2 : Int32)), (.ref a1), (.ref a1)]))
  refine Go.stB X3 hx hZ e3 Fw3 (i := 2) (by decide) (by decide) (by decide) (hb hby at_41) ?_
  intro T4 h4 X4 e4 W4 F4
  have N4 := Fr.snoc X4 N3 G1
  show Go p e below _ (T4.setTop (mkF m 42 #[.val (.long q1), .second, .val (.int p2), .val (.int p3), .val (.int p4), .val (.long (own_v q1 p2)), .second, .val (.int (own_at p3)), .val (.int (own_fill p4)), .unset, .unset, .unset, .unset] [(.ref a1)]))
  have Zs4 : n0 ≤ h4.size := by rw [W4.size]; exact Zs3
  have Fw4 : BA Z h4 a1 .byte 16 (fun j => .int (own_w (own_fill p4) 3 j)) := F4.fn (fun j _ => own_wk hnb 2 j)
  refine Go.on (fun t k => XS.dup X4.here hx rfl (hb hby at_42) rfl rfl k) ?_
  show Go p e below _ (T4.setTop (mkF m 43 #[.val (.long q1), .second, .val (.int p2), .val (.int p3), .val (.int p4), .val (.long (own_v q1 p2)), .second, .val (.int (own_at p3)), .val (.int (own_fill p4)), .unset, .unset, .unset, .unset] [(.ref a1), (.ref a1)]))
  refine Go.on (fun t k => XS.iconst X4.here hx rfl (hb hby at_43) k) ?_
  show Go p e below _ (T4.setTop (mkF m 44 #[.val (.long q1), .second, .val (.int p2), .val (.int p3), .val (.int p4), .val (.long (own_v q1 p2)), .second, .val (.int (own_at p3)), .val (.int (own_fill p4)), .unset, .unset, .unset, .unset] [(.int (3 : Int32)), (.ref a1), (.ref a1)]))
  refine Go.on (fun t k => XS.iload X4.here hx rfl (hb hby at_44) rfl k) ?_
  show Go p e below _ (T4.setTop (mkF m 46 #[.val (.long q1), .second, .val (.int p2), .val (.int p3), .val (.int p4), .val (.long (own_v q1 p2)), .second, .val (.int (own_at p3)), .val (.int (own_fill p4)), .unset, .unset, .unset, .unset] [(.int (own_fill p4)), (.int (3 : Int32)), (.ref a1), (.ref a1)]))
  refine Go.stB X4 hx hZ e4 Fw4 (i := 3) (by decide) (by decide) (by decide) (hb hby at_46) ?_
  intro T5 h5 X5 e5 W5 F5
  have N5 := Fr.snoc X5 N4 G1
  show Go p e below _ (T5.setTop (mkF m 47 #[.val (.long q1), .second, .val (.int p2), .val (.int p3), .val (.int p4), .val (.long (own_v q1 p2)), .second, .val (.int (own_at p3)), .val (.int (own_fill p4)), .unset, .unset, .unset, .unset] [(.ref a1)]))
  have Zs5 : n0 ≤ h5.size := by rw [W5.size]; exact Zs4
  have Fw5 : BA Z h5 a1 .byte 16 (fun j => .int (own_w (own_fill p4) 4 j)) := F5.fn (fun j _ => own_wk hnb 3 j)
  refine Go.on (fun t k => XS.dup X5.here hx rfl (hb hby at_47) rfl rfl k) ?_
  show Go p e below _ (T5.setTop (mkF m 48 #[.val (.long q1), .second, .val (.int p2), .val (.int p3), .val (.int p4), .val (.long (own_v q1 p2)), .second, .val (.int (own_at p3)), .val (.int (own_fill p4)), .unset, .unset, .unset, .unset] [(.ref a1), (.ref a1)]))
  refine Go.on (fun t k => XS.iconst X5.here hx rfl (hb hby at_48) k) ?_
  show Go p e below _ (T5.setTop (mkF m 49 #[.val (.long q1), .second, .val (.int p2), .val (.int p3), .val (.int p4), .val (.long (own_v q1 p2)), .second, .val (.int (own_at p3)), .val (.int (own_fill p4)), .unset, .unset, .unset, .unset] [(.int (4 : Int32)), (.ref a1), (.ref a1)]))
  refine Go.on (fun t k => XS.iload X5.here hx rfl (hb hby at_49) rfl k) ?_
  show Go p e below _ (T5.setTop (mkF m 51 #[.val (.long q1), .second, .val (.int p2), .val (.int p3), .val (.int p4), .val (.long (own_v q1 p2)), .second, .val (.int (own_at p3)), .val (.int (own_fill p4)), .unset, .unset, .unset, .unset] [(.int (own_fill p4)), (.int (4 : Int32)), (.ref a1), (.ref a1)]))
  refine Go.stB X5 hx hZ e5 Fw5 (i := 4) (by decide) (by decide) (by decide) (hb hby at_51) ?_
  intro T6 h6 X6 e6 W6 F6
  have N6 := Fr.snoc X6 N5 G1
  show Go p e below _ (T6.setTop (mkF m 52 #[.val (.long q1), .second, .val (.int p2), .val (.int p3), .val (.int p4), .val (.long (own_v q1 p2)), .second, .val (.int (own_at p3)), .val (.int (own_fill p4)), .unset, .unset, .unset, .unset] [(.ref a1)]))
  have Zs6 : n0 ≤ h6.size := by rw [W6.size]; exact Zs5
  have Fw6 : BA Z h6 a1 .byte 16 (fun j => .int (own_w (own_fill p4) 5 j)) := F6.fn (fun j _ => own_wk hnb 4 j)
  refine Go.on (fun t k => XS.dup X6.here hx rfl (hb hby at_52) rfl rfl k) ?_
  show Go p e below _ (T6.setTop (mkF m 53 #[.val (.long q1), .second, .val (.int p2), .val (.int p3), .val (.int p4), .val (.long (own_v q1 p2)), .second, .val (.int (own_at p3)), .val (.int (own_fill p4)), .unset, .unset, .unset, .unset] [(.ref a1), (.ref a1)]))
  refine Go.on (fun t k => XS.iconst X6.here hx rfl (hb hby at_53) k) ?_
  show Go p e below _ (T6.setTop (mkF m 54 #[.val (.long q1), .second, .val (.int p2), .val (.int p3), .val (.int p4), .val (.long (own_v q1 p2)), .second, .val (.int (own_at p3)), .val (.int (own_fill p4)), .unset, .unset, .unset, .unset] [(.int (5 : Int32)), (.ref a1), (.ref a1)]))
  refine Go.on (fun t k => XS.iload X6.here hx rfl (hb hby at_54) rfl k) ?_
  show Go p e below _ (T6.setTop (mkF m 56 #[.val (.long q1), .second, .val (.int p2), .val (.int p3), .val (.int p4), .val (.long (own_v q1 p2)), .second, .val (.int (own_at p3)), .val (.int (own_fill p4)), .unset, .unset, .unset, .unset] [(.int (own_fill p4)), (.int (5 : Int32)), (.ref a1), (.ref a1)]))
  refine Go.stB X6 hx hZ e6 Fw6 (i := 5) (by decide) (by decide) (by decide) (hb hby at_56) ?_
  intro T7 h7 X7 e7 W7 F7
  have N7 := Fr.snoc X7 N6 G1
  show Go p e below _ (T7.setTop (mkF m 57 #[.val (.long q1), .second, .val (.int p2), .val (.int p3), .val (.int p4), .val (.long (own_v q1 p2)), .second, .val (.int (own_at p3)), .val (.int (own_fill p4)), .unset, .unset, .unset, .unset] [(.ref a1)]))
  have Zs7 : n0 ≤ h7.size := by rw [W7.size]; exact Zs6
  have Fw7 : BA Z h7 a1 .byte 16 (fun j => .int (own_w (own_fill p4) 6 j)) := F7.fn (fun j _ => own_wk hnb 5 j)
  refine Go.on (fun t k => XS.dup X7.here hx rfl (hb hby at_57) rfl rfl k) ?_
  show Go p e below _ (T7.setTop (mkF m 58 #[.val (.long q1), .second, .val (.int p2), .val (.int p3), .val (.int p4), .val (.long (own_v q1 p2)), .second, .val (.int (own_at p3)), .val (.int (own_fill p4)), .unset, .unset, .unset, .unset] [(.ref a1), (.ref a1)]))
  refine Go.on (fun t k => XS.bipush X7.here hx rfl (hb hby at_58) k) ?_
  show Go p e below _ (T7.setTop (mkF m 60 #[.val (.long q1), .second, .val (.int p2), .val (.int p3), .val (.int p4), .val (.long (own_v q1 p2)), .second, .val (.int (own_at p3)), .val (.int (own_fill p4)), .unset, .unset, .unset, .unset] [(.int (6 : Int32)), (.ref a1), (.ref a1)]))
  refine Go.on (fun t k => XS.iload X7.here hx rfl (hb hby at_60) rfl k) ?_
  show Go p e below _ (T7.setTop (mkF m 62 #[.val (.long q1), .second, .val (.int p2), .val (.int p3), .val (.int p4), .val (.long (own_v q1 p2)), .second, .val (.int (own_at p3)), .val (.int (own_fill p4)), .unset, .unset, .unset, .unset] [(.int (own_fill p4)), (.int (6 : Int32)), (.ref a1), (.ref a1)]))
  refine Go.stB X7 hx hZ e7 Fw7 (i := 6) (by decide) (by decide) (by decide) (hb hby at_62) ?_
  intro T8 h8 X8 e8 W8 F8
  have N8 := Fr.snoc X8 N7 G1
  show Go p e below _ (T8.setTop (mkF m 63 #[.val (.long q1), .second, .val (.int p2), .val (.int p3), .val (.int p4), .val (.long (own_v q1 p2)), .second, .val (.int (own_at p3)), .val (.int (own_fill p4)), .unset, .unset, .unset, .unset] [(.ref a1)]))
  have Zs8 : n0 ≤ h8.size := by rw [W8.size]; exact Zs7
  have Fw8 : BA Z h8 a1 .byte 16 (fun j => .int (own_w (own_fill p4) 7 j)) := F8.fn (fun j _ => own_wk hnb 6 j)
  refine Go.on (fun t k => XS.dup X8.here hx rfl (hb hby at_63) rfl rfl k) ?_
  show Go p e below _ (T8.setTop (mkF m 64 #[.val (.long q1), .second, .val (.int p2), .val (.int p3), .val (.int p4), .val (.long (own_v q1 p2)), .second, .val (.int (own_at p3)), .val (.int (own_fill p4)), .unset, .unset, .unset, .unset] [(.ref a1), (.ref a1)]))
  refine Go.on (fun t k => XS.bipush X8.here hx rfl (hb hby at_64) k) ?_
  show Go p e below _ (T8.setTop (mkF m 66 #[.val (.long q1), .second, .val (.int p2), .val (.int p3), .val (.int p4), .val (.long (own_v q1 p2)), .second, .val (.int (own_at p3)), .val (.int (own_fill p4)), .unset, .unset, .unset, .unset] [(.int (7 : Int32)), (.ref a1), (.ref a1)]))
  refine Go.on (fun t k => XS.iload X8.here hx rfl (hb hby at_66) rfl k) ?_
  show Go p e below _ (T8.setTop (mkF m 68 #[.val (.long q1), .second, .val (.int p2), .val (.int p3), .val (.int p4), .val (.long (own_v q1 p2)), .second, .val (.int (own_at p3)), .val (.int (own_fill p4)), .unset, .unset, .unset, .unset] [(.int (own_fill p4)), (.int (7 : Int32)), (.ref a1), (.ref a1)]))
  refine Go.stB X8 hx hZ e8 Fw8 (i := 7) (by decide) (by decide) (by decide) (hb hby at_68) ?_
  intro T9 h9 X9 e9 W9 F9
  have N9 := Fr.snoc X9 N8 G1
  show Go p e below _ (T9.setTop (mkF m 69 #[.val (.long q1), .second, .val (.int p2), .val (.int p3), .val (.int p4), .val (.long (own_v q1 p2)), .second, .val (.int (own_at p3)), .val (.int (own_fill p4)), .unset, .unset, .unset, .unset] [(.ref a1)]))
  have Zs9 : n0 ≤ h9.size := by rw [W9.size]; exact Zs8
  have Fw9 : BA Z h9 a1 .byte 16 (fun j => .int (own_w (own_fill p4) 8 j)) := F9.fn (fun j _ => own_wk hnb 7 j)
  refine Go.on (fun t k => XS.dup X9.here hx rfl (hb hby at_69) rfl rfl k) ?_
  show Go p e below _ (T9.setTop (mkF m 70 #[.val (.long q1), .second, .val (.int p2), .val (.int p3), .val (.int p4), .val (.long (own_v q1 p2)), .second, .val (.int (own_at p3)), .val (.int (own_fill p4)), .unset, .unset, .unset, .unset] [(.ref a1), (.ref a1)]))
  refine Go.on (fun t k => XS.bipush X9.here hx rfl (hb hby at_70) k) ?_
  show Go p e below _ (T9.setTop (mkF m 72 #[.val (.long q1), .second, .val (.int p2), .val (.int p3), .val (.int p4), .val (.long (own_v q1 p2)), .second, .val (.int (own_at p3)), .val (.int (own_fill p4)), .unset, .unset, .unset, .unset] [(.int (8 : Int32)), (.ref a1), (.ref a1)]))
  refine Go.on (fun t k => XS.iload X9.here hx rfl (hb hby at_72) rfl k) ?_
  show Go p e below _ (T9.setTop (mkF m 74 #[.val (.long q1), .second, .val (.int p2), .val (.int p3), .val (.int p4), .val (.long (own_v q1 p2)), .second, .val (.int (own_at p3)), .val (.int (own_fill p4)), .unset, .unset, .unset, .unset] [(.int (own_fill p4)), (.int (8 : Int32)), (.ref a1), (.ref a1)]))
  refine Go.stB X9 hx hZ e9 Fw9 (i := 8) (by decide) (by decide) (by decide) (hb hby at_74) ?_
  intro T10 h10 X10 e10 W10 F10
  have N10 := Fr.snoc X10 N9 G1
  show Go p e below _ (T10.setTop (mkF m 75 #[.val (.long q1), .second, .val (.int p2), .val (.int p3), .val (.int p4), .val (.long (own_v q1 p2)), .second, .val (.int (own_at p3)), .val (.int (own_fill p4)), .unset, .unset, .unset, .unset] [(.ref a1)]))
  have Zs10 : n0 ≤ h10.size := by rw [W10.size]; exact Zs9
  have Fw10 : BA Z h10 a1 .byte 16 (fun j => .int (own_w (own_fill p4) 9 j)) := F10.fn (fun j _ => own_wk hnb 8 j)
  refine Go.on (fun t k => XS.dup X10.here hx rfl (hb hby at_75) rfl rfl k) ?_
  show Go p e below _ (T10.setTop (mkF m 76 #[.val (.long q1), .second, .val (.int p2), .val (.int p3), .val (.int p4), .val (.long (own_v q1 p2)), .second, .val (.int (own_at p3)), .val (.int (own_fill p4)), .unset, .unset, .unset, .unset] [(.ref a1), (.ref a1)]))
  refine Go.on (fun t k => XS.bipush X10.here hx rfl (hb hby at_76) k) ?_
  show Go p e below _ (T10.setTop (mkF m 78 #[.val (.long q1), .second, .val (.int p2), .val (.int p3), .val (.int p4), .val (.long (own_v q1 p2)), .second, .val (.int (own_at p3)), .val (.int (own_fill p4)), .unset, .unset, .unset, .unset] [(.int (9 : Int32)), (.ref a1), (.ref a1)]))
  refine Go.on (fun t k => XS.iload X10.here hx rfl (hb hby at_78) rfl k) ?_
  show Go p e below _ (T10.setTop (mkF m 80 #[.val (.long q1), .second, .val (.int p2), .val (.int p3), .val (.int p4), .val (.long (own_v q1 p2)), .second, .val (.int (own_at p3)), .val (.int (own_fill p4)), .unset, .unset, .unset, .unset] [(.int (own_fill p4)), (.int (9 : Int32)), (.ref a1), (.ref a1)]))
  refine Go.stB X10 hx hZ e10 Fw10 (i := 9) (by decide) (by decide) (by decide) (hb hby at_80) ?_
  intro T11 h11 X11 e11 W11 F11
  have N11 := Fr.snoc X11 N10 G1
  show Go p e below _ (T11.setTop (mkF m 81 #[.val (.long q1), .second, .val (.int p2), .val (.int p3), .val (.int p4), .val (.long (own_v q1 p2)), .second, .val (.int (own_at p3)), .val (.int (own_fill p4)), .unset, .unset, .unset, .unset] [(.ref a1)]))
  have Zs11 : n0 ≤ h11.size := by rw [W11.size]; exact Zs10
  have Fw11 : BA Z h11 a1 .byte 16 (fun j => .int (own_w (own_fill p4) 10 j)) := F11.fn (fun j _ => own_wk hnb 9 j)
  refine Go.on (fun t k => XS.dup X11.here hx rfl (hb hby at_81) rfl rfl k) ?_
  show Go p e below _ (T11.setTop (mkF m 82 #[.val (.long q1), .second, .val (.int p2), .val (.int p3), .val (.int p4), .val (.long (own_v q1 p2)), .second, .val (.int (own_at p3)), .val (.int (own_fill p4)), .unset, .unset, .unset, .unset] [(.ref a1), (.ref a1)]))
  refine Go.on (fun t k => XS.bipush X11.here hx rfl (hb hby at_82) k) ?_
  show Go p e below _ (T11.setTop (mkF m 84 #[.val (.long q1), .second, .val (.int p2), .val (.int p3), .val (.int p4), .val (.long (own_v q1 p2)), .second, .val (.int (own_at p3)), .val (.int (own_fill p4)), .unset, .unset, .unset, .unset] [(.int (10 : Int32)), (.ref a1), (.ref a1)]))
  refine Go.on (fun t k => XS.iload X11.here hx rfl (hb hby at_84) rfl k) ?_
  show Go p e below _ (T11.setTop (mkF m 86 #[.val (.long q1), .second, .val (.int p2), .val (.int p3), .val (.int p4), .val (.long (own_v q1 p2)), .second, .val (.int (own_at p3)), .val (.int (own_fill p4)), .unset, .unset, .unset, .unset] [(.int (own_fill p4)), (.int (10 : Int32)), (.ref a1), (.ref a1)]))
  refine Go.stB X11 hx hZ e11 Fw11 (i := 10) (by decide) (by decide) (by decide) (hb hby at_86) ?_
  intro T12 h12 X12 e12 W12 F12
  have N12 := Fr.snoc X12 N11 G1
  show Go p e below _ (T12.setTop (mkF m 87 #[.val (.long q1), .second, .val (.int p2), .val (.int p3), .val (.int p4), .val (.long (own_v q1 p2)), .second, .val (.int (own_at p3)), .val (.int (own_fill p4)), .unset, .unset, .unset, .unset] [(.ref a1)]))
  have Zs12 : n0 ≤ h12.size := by rw [W12.size]; exact Zs11
  have Fw12 : BA Z h12 a1 .byte 16 (fun j => .int (own_w (own_fill p4) 11 j)) := F12.fn (fun j _ => own_wk hnb 10 j)
  refine Go.on (fun t k => XS.dup X12.here hx rfl (hb hby at_87) rfl rfl k) ?_
  show Go p e below _ (T12.setTop (mkF m 88 #[.val (.long q1), .second, .val (.int p2), .val (.int p3), .val (.int p4), .val (.long (own_v q1 p2)), .second, .val (.int (own_at p3)), .val (.int (own_fill p4)), .unset, .unset, .unset, .unset] [(.ref a1), (.ref a1)]))
  refine Go.on (fun t k => XS.bipush X12.here hx rfl (hb hby at_88) k) ?_
  show Go p e below _ (T12.setTop (mkF m 90 #[.val (.long q1), .second, .val (.int p2), .val (.int p3), .val (.int p4), .val (.long (own_v q1 p2)), .second, .val (.int (own_at p3)), .val (.int (own_fill p4)), .unset, .unset, .unset, .unset] [(.int (11 : Int32)), (.ref a1), (.ref a1)]))
  refine Go.on (fun t k => XS.iload X12.here hx rfl (hb hby at_90) rfl k) ?_
  show Go p e below _ (T12.setTop (mkF m 92 #[.val (.long q1), .second, .val (.int p2), .val (.int p3), .val (.int p4), .val (.long (own_v q1 p2)), .second, .val (.int (own_at p3)), .val (.int (own_fill p4)), .unset, .unset, .unset, .unset] [(.int (own_fill p4)), (.int (11 : Int32)), (.ref a1), (.ref a1)]))
  refine Go.stB X12 hx hZ e12 Fw12 (i := 11) (by decide) (by decide) (by decide) (hb hby at_92) ?_
  intro T13 h13 X13 e13 W13 F13
  have N13 := Fr.snoc X13 N12 G1
  show Go p e below _ (T13.setTop (mkF m 93 #[.val (.long q1), .second, .val (.int p2), .val (.int p3), .val (.int p4), .val (.long (own_v q1 p2)), .second, .val (.int (own_at p3)), .val (.int (own_fill p4)), .unset, .unset, .unset, .unset] [(.ref a1)]))
  have Zs13 : n0 ≤ h13.size := by rw [W13.size]; exact Zs12
  have Fw13 : BA Z h13 a1 .byte 16 (fun j => .int (own_w (own_fill p4) 12 j)) := F13.fn (fun j _ => own_wk hnb 11 j)
  refine Go.on (fun t k => XS.dup X13.here hx rfl (hb hby at_93) rfl rfl k) ?_
  show Go p e below _ (T13.setTop (mkF m 94 #[.val (.long q1), .second, .val (.int p2), .val (.int p3), .val (.int p4), .val (.long (own_v q1 p2)), .second, .val (.int (own_at p3)), .val (.int (own_fill p4)), .unset, .unset, .unset, .unset] [(.ref a1), (.ref a1)]))
  refine Go.on (fun t k => XS.bipush X13.here hx rfl (hb hby at_94) k) ?_
  show Go p e below _ (T13.setTop (mkF m 96 #[.val (.long q1), .second, .val (.int p2), .val (.int p3), .val (.int p4), .val (.long (own_v q1 p2)), .second, .val (.int (own_at p3)), .val (.int (own_fill p4)), .unset, .unset, .unset, .unset] [(.int (12 : Int32)), (.ref a1), (.ref a1)]))
  refine Go.on (fun t k => XS.iload X13.here hx rfl (hb hby at_96) rfl k) ?_
  show Go p e below _ (T13.setTop (mkF m 98 #[.val (.long q1), .second, .val (.int p2), .val (.int p3), .val (.int p4), .val (.long (own_v q1 p2)), .second, .val (.int (own_at p3)), .val (.int (own_fill p4)), .unset, .unset, .unset, .unset] [(.int (own_fill p4)), (.int (12 : Int32)), (.ref a1), (.ref a1)]))
  refine Go.stB X13 hx hZ e13 Fw13 (i := 12) (by decide) (by decide) (by decide) (hb hby at_98) ?_
  intro T14 h14 X14 e14 W14 F14
  have N14 := Fr.snoc X14 N13 G1
  show Go p e below _ (T14.setTop (mkF m 99 #[.val (.long q1), .second, .val (.int p2), .val (.int p3), .val (.int p4), .val (.long (own_v q1 p2)), .second, .val (.int (own_at p3)), .val (.int (own_fill p4)), .unset, .unset, .unset, .unset] [(.ref a1)]))
  have Zs14 : n0 ≤ h14.size := by rw [W14.size]; exact Zs13
  have Fw14 : BA Z h14 a1 .byte 16 (fun j => .int (own_w (own_fill p4) 13 j)) := F14.fn (fun j _ => own_wk hnb 12 j)
  refine Go.on (fun t k => XS.dup X14.here hx rfl (hb hby at_99) rfl rfl k) ?_
  show Go p e below _ (T14.setTop (mkF m 100 #[.val (.long q1), .second, .val (.int p2), .val (.int p3), .val (.int p4), .val (.long (own_v q1 p2)), .second, .val (.int (own_at p3)), .val (.int (own_fill p4)), .unset, .unset, .unset, .unset] [(.ref a1), (.ref a1)]))
  refine Go.on (fun t k => XS.bipush X14.here hx rfl (hb hby at_100) k) ?_
  show Go p e below _ (T14.setTop (mkF m 102 #[.val (.long q1), .second, .val (.int p2), .val (.int p3), .val (.int p4), .val (.long (own_v q1 p2)), .second, .val (.int (own_at p3)), .val (.int (own_fill p4)), .unset, .unset, .unset, .unset] [(.int (13 : Int32)), (.ref a1), (.ref a1)]))
  refine Go.on (fun t k => XS.iload X14.here hx rfl (hb hby at_102) rfl k) ?_
  show Go p e below _ (T14.setTop (mkF m 104 #[.val (.long q1), .second, .val (.int p2), .val (.int p3), .val (.int p4), .val (.long (own_v q1 p2)), .second, .val (.int (own_at p3)), .val (.int (own_fill p4)), .unset, .unset, .unset, .unset] [(.int (own_fill p4)), (.int (13 : Int32)), (.ref a1), (.ref a1)]))
  refine Go.stB X14 hx hZ e14 Fw14 (i := 13) (by decide) (by decide) (by decide) (hb hby at_104) ?_
  intro T15 h15 X15 e15 W15 F15
  have N15 := Fr.snoc X15 N14 G1
  show Go p e below _ (T15.setTop (mkF m 105 #[.val (.long q1), .second, .val (.int p2), .val (.int p3), .val (.int p4), .val (.long (own_v q1 p2)), .second, .val (.int (own_at p3)), .val (.int (own_fill p4)), .unset, .unset, .unset, .unset] [(.ref a1)]))
  have Zs15 : n0 ≤ h15.size := by rw [W15.size]; exact Zs14
  have Fw15 : BA Z h15 a1 .byte 16 (fun j => .int (own_w (own_fill p4) 14 j)) := F15.fn (fun j _ => own_wk hnb 13 j)
  refine Go.on (fun t k => XS.dup X15.here hx rfl (hb hby at_105) rfl rfl k) ?_
  show Go p e below _ (T15.setTop (mkF m 106 #[.val (.long q1), .second, .val (.int p2), .val (.int p3), .val (.int p4), .val (.long (own_v q1 p2)), .second, .val (.int (own_at p3)), .val (.int (own_fill p4)), .unset, .unset, .unset, .unset] [(.ref a1), (.ref a1)]))
  refine Go.on (fun t k => XS.bipush X15.here hx rfl (hb hby at_106) k) ?_
  show Go p e below _ (T15.setTop (mkF m 108 #[.val (.long q1), .second, .val (.int p2), .val (.int p3), .val (.int p4), .val (.long (own_v q1 p2)), .second, .val (.int (own_at p3)), .val (.int (own_fill p4)), .unset, .unset, .unset, .unset] [(.int (14 : Int32)), (.ref a1), (.ref a1)]))
  refine Go.on (fun t k => XS.iload X15.here hx rfl (hb hby at_108) rfl k) ?_
  show Go p e below _ (T15.setTop (mkF m 110 #[.val (.long q1), .second, .val (.int p2), .val (.int p3), .val (.int p4), .val (.long (own_v q1 p2)), .second, .val (.int (own_at p3)), .val (.int (own_fill p4)), .unset, .unset, .unset, .unset] [(.int (own_fill p4)), (.int (14 : Int32)), (.ref a1), (.ref a1)]))
  refine Go.stB X15 hx hZ e15 Fw15 (i := 14) (by decide) (by decide) (by decide) (hb hby at_110) ?_
  intro T16 h16 X16 e16 W16 F16
  have N16 := Fr.snoc X16 N15 G1
  show Go p e below _ (T16.setTop (mkF m 111 #[.val (.long q1), .second, .val (.int p2), .val (.int p3), .val (.int p4), .val (.long (own_v q1 p2)), .second, .val (.int (own_at p3)), .val (.int (own_fill p4)), .unset, .unset, .unset, .unset] [(.ref a1)]))
  have Zs16 : n0 ≤ h16.size := by rw [W16.size]; exact Zs15
  have Fw16 : BA Z h16 a1 .byte 16 (fun j => .int (own_w (own_fill p4) 15 j)) := F16.fn (fun j _ => own_wk hnb 14 j)
  refine Go.on (fun t k => XS.dup X16.here hx rfl (hb hby at_111) rfl rfl k) ?_
  show Go p e below _ (T16.setTop (mkF m 112 #[.val (.long q1), .second, .val (.int p2), .val (.int p3), .val (.int p4), .val (.long (own_v q1 p2)), .second, .val (.int (own_at p3)), .val (.int (own_fill p4)), .unset, .unset, .unset, .unset] [(.ref a1), (.ref a1)]))
  refine Go.on (fun t k => XS.bipush X16.here hx rfl (hb hby at_112) k) ?_
  show Go p e below _ (T16.setTop (mkF m 114 #[.val (.long q1), .second, .val (.int p2), .val (.int p3), .val (.int p4), .val (.long (own_v q1 p2)), .second, .val (.int (own_at p3)), .val (.int (own_fill p4)), .unset, .unset, .unset, .unset] [(.int (15 : Int32)), (.ref a1), (.ref a1)]))
  refine Go.on (fun t k => XS.iload X16.here hx rfl (hb hby at_114) rfl k) ?_
  show Go p e below _ (T16.setTop (mkF m 116 #[.val (.long q1), .second, .val (.int p2), .val (.int p3), .val (.int p4), .val (.long (own_v q1 p2)), .second, .val (.int (own_at p3)), .val (.int (own_fill p4)), .unset, .unset, .unset, .unset] [(.int (own_fill p4)), (.int (15 : Int32)), (.ref a1), (.ref a1)]))
  refine Go.stB X16 hx hZ e16 Fw16 (i := 15) (by decide) (by decide) (by decide) (hb hby at_116) ?_
  intro T17 h17 X17 e17 W17 F17
  have N17 := Fr.snoc X17 N16 G1
  show Go p e below _ (T17.setTop (mkF m 117 #[.val (.long q1), .second, .val (.int p2), .val (.int p3), .val (.int p4), .val (.long (own_v q1 p2)), .second, .val (.int (own_at p3)), .val (.int (own_fill p4)), .unset, .unset, .unset, .unset] [(.ref a1)]))
  have Zs17 : n0 ≤ h17.size := by rw [W17.size]; exact Zs16
  have Fw17 : BA Z h17 a1 .byte 16 (fun j => .int (own_w (own_fill p4) 16 j)) := F17.fn (fun j _ => own_wk hnb 15 j)
  refine Go.on (fun t k => XS.astore X17.here hx rfl (hb hby at_117) rfl rfl (l' := #[.val (.long q1), .second, .val (.int p2), .val (.int p3), .val (.int p4), .val (.long (own_v q1 p2)), .second, .val (.int (own_at p3)), .val (.int (own_fill p4)), .val (.ref a1), .unset, .unset, .unset]) rfl k) ?_
  show Go p e below _ (T17.setTop (mkF m 119 #[.val (.long q1), .second, .val (.int p2), .val (.int p3), .val (.int p4), .val (.long (own_v q1 p2)), .second, .val (.int (own_at p3)), .val (.int (own_fill p4)), .val (.ref a1), .unset, .unset, .unset] []))
  refine Go.on (fun t k => XS.aload X17.here hx rfl (hb hby at_119) rfl rfl k) ?_
  show Go p e below _ (T17.setTop (mkF m 121 #[.val (.long q1), .second, .val (.int p2), .val (.int p3), .val (.int p4), .val (.long (own_v q1 p2)), .second, .val (.int (own_at p3)), .val (.int (own_fill p4)), .val (.ref a1), .unset, .unset, .unset] [(.ref a1)]))
  refine Go.on (fun t k => XS.iload X17.here hx rfl (hb hby at_121) rfl k) ?_
  show Go p e below _ (T17.setTop (mkF m 123 #[.val (.long q1), .second, .val (.int p2), .val (.int p3), .val (.int p4), .val (.long (own_v q1 p2)), .second, .val (.int (own_at p3)), .val (.int (own_fill p4)), .val (.ref a1), .unset, .unset, .unset] [(.int (own_at p3)), (.ref a1)]))
  refine Go.on (fun t k => XS.lload X17.here hx rfl (hb hby at_123) rfl k) ?_
  show Go p e below _ (T17.setTop (mkF m 125 #[.val (.long q1), .second, .val (.int p2), .val (.int p3), .val (.int p4), .val (.long (own_v q1 p2)), .second, .val (.int (own_at p3)), .val (.int (own_fill p4)), .val (.ref a1), .unset, .unset, .unset] [(.long (own_v q1 p2)), (.int (own_at p3)), (.ref a1)]))
  have hat := own_at_rng p3
  have Ff : BA Z h17 a1 .byte 16 (fun _ => .int (own_fill p4)) := Fw17.fn (fun j hj => by unfold own_w; rw [if_pos hj])
  obtain ⟨_, _, ⟨T18, L18, k18, n18⟩, -, X18, ⟨Lc18, hQ18, l18, y18, z18⟩, st18⟩ := Jvm.LawKit.callS X17 hx (y := (⟨"com/example/triplepress/triplepress/container/VByte", "write", "([BIJ)I"⟩ : MethodName)) hown (mvT hZ (hw _ (List.mem_of_getElem? (i := 2) rfl))) (mvT hZ (hw _ (List.mem_of_getElem? (i := 3) rfl))) (mvT hZ (hw _ (List.mem_of_getElem? (i := 4) rfl))) (mvT hZ (hw _ (List.mem_of_getElem? (i := 5) rfl))) (by decide) (backOf (W := 0) (rm1 l Z a0 hw [] a1 (own_at p3) (own_v q1 p2) (own_fill p4) ((own_at p3).toInt.toNat) h17 n0 Zs17 G1 (own_v_nn q1 p2) hat.1 hat.2 Ff) hZ (hw _ (List.mem_of_getElem? (i := 5) rfl)) (hw _ (List.mem_of_getElem? (i := 4) rfl)) (by decide) (by decide)) (g := (mkF m 125 #[.val (.long q1), .second, .val (.int p2), .val (.int p3), .val (.int p4), .val (.long (own_v q1 p2)), .second, .val (.int (own_at p3)), .val (.int (own_fill p4)), .val (.ref a1), .unset, .unset, .unset] [(.long (own_v q1 p2)), (.int (own_at p3)), (.ref a1)])) rfl (by rw [hml]; rfl) (argsL := [(.ref a1), (.int (own_at p3)), (.long (own_v q1 p2))]) (rest := []) (lenOf pd_2 rfl) rfl (by show 2 * 0 + _ ≤ _; exact Nat.le_of_eq rfl) (hb hby at_125) (fun _ _ => ⟨rfl, e17, (by decide : 1 + 0 ≤ _), (by decide : 16 + 0 ≤ _)⟩)
  dsimp only [Pt.U, Pt.locs, Pt.cells, Pt.slots] at X18 l18 y18 z18 st18 hQ18
  subst l18 y18 z18
  obtain ⟨rfl, N18q, Z18, F18⟩ := hQ18
  have N18 := Fr.app N17 N18q
  refine Go.on st18 ?_
  show Go p e below _ (T18.setTop (mkF m 128 #[.val (.long q1), .second, .val (.int p2), .val (.int p3), .val (.int p4), .val (.long (own_v q1 p2)), .second, .val (.int (own_at p3)), .val (.int (own_fill p4)), .val (.ref a1), .unset, .unset, .unset] [(.int ((own_at p3) + (own_len (own_v q1 p2))))]))
  refine Go.on (fun t k => XS.istore X18.here hx rfl (hb hby at_128) rfl (l' := #[.val (.long q1), .second, .val (.int p2), .val (.int p3), .val (.int p4), .val (.long (own_v q1 p2)), .second, .val (.int (own_at p3)), .val (.int (own_fill p4)), .val (.ref a1), .val (.int ((own_at p3) + (own_len (own_v q1 p2)))), .unset, .unset]) rfl k) ?_
  show Go p e below _ (T18.setTop (mkF m 130 #[.val (.long q1), .second, .val (.int p2), .val (.int p3), .val (.int p4), .val (.long (own_v q1 p2)), .second, .val (.int (own_at p3)), .val (.int (own_fill p4)), .val (.ref a1), .val (.int ((own_at p3) + (own_len (own_v q1 p2)))), .unset, .unset] []))
  refine Go.on (fun t k => XS.lload X18.here hx rfl (hb hby at_130) rfl k) ?_
  show Go p e below _ (T18.setTop (mkF m 132 #[.val (.long q1), .second, .val (.int p2), .val (.int p3), .val (.int p4), .val (.long (own_v q1 p2)), .second, .val (.int (own_at p3)), .val (.int (own_fill p4)), .val (.ref a1), .val (.int ((own_at p3) + (own_len (own_v q1 p2)))), .unset, .unset] [(.long (own_v q1 p2))]))
  obtain ⟨_, _, ⟨T19, L19, k19, n19⟩, -, X19, ⟨Lc19, hQ19, l19, y19, z19⟩, st19⟩ := Jvm.LawKit.callS X18 hx (y := (⟨"com/example/triplepress/triplepress/container/VByteWritePinLaw", "expectedLength", "(J)I"⟩ : MethodName)) hown (mvT hZ (hw _ (List.mem_of_getElem? (i := 7) rfl))) (mvT hZ (hw _ (List.mem_of_getElem? (i := 8) rfl))) (mvT hZ (hw _ (List.mem_of_getElem? (i := 9) rfl))) (mvT hZ (hw _ (List.mem_of_getElem? (i := 10) rfl))) (by decide) (backOf (W := 0) (rm2 l Z a0 hw [] (own_v q1 p2) T18.heap n0 Z18) hZ (hw _ (List.mem_of_getElem? (i := 10) rfl)) (hw _ (List.mem_of_getElem? (i := 9) rfl)) (by decide) (by decide)) (g := (mkF m 132 #[.val (.long q1), .second, .val (.int p2), .val (.int p3), .val (.int p4), .val (.long (own_v q1 p2)), .second, .val (.int (own_at p3)), .val (.int (own_fill p4)), .val (.ref a1), .val (.int ((own_at p3) + (own_len (own_v q1 p2)))), .unset, .unset] [(.long (own_v q1 p2))])) rfl (by rw [hml]; rfl) (argsL := [(.long (own_v q1 p2))]) (rest := []) (lenOf pd_3 rfl) rfl (by show 2 * 0 + _ ≤ _; exact Nat.le_of_eq rfl) (hb hby at_132) (fun _ _ => ⟨rfl, (rfl : T18.heap = T18.heap), (by decide : 1 + 0 ≤ _), (by decide : 16 + 0 ≤ _)⟩)
  dsimp only [Pt.U, Pt.locs, Pt.cells, Pt.slots] at X19 l19 y19 z19 st19 hQ19
  subst l19 y19 z19
  obtain ⟨rfl, N19q, e19⟩ := hQ19
  have N19 := Fr.app N18 N19q
  refine Go.on st19 ?_
  show Go p e below _ (T19.setTop (mkF m 135 #[.val (.long q1), .second, .val (.int p2), .val (.int p3), .val (.int p4), .val (.long (own_v q1 p2)), .second, .val (.int (own_at p3)), .val (.int (own_fill p4)), .val (.ref a1), .val (.int ((own_at p3) + (own_len (own_v q1 p2)))), .unset, .unset] [(.int (own_len (own_v q1 p2)))]))
  have Zc19 : n0 ≤ T19.heap.size := by rw [e19]; exact Z18
  have Fc19 : BA Z T19.heap a1 .byte 16 (fun j => .int (own_cv (own_at p3) (own_v q1 p2) (own_len (own_v q1 p2)) (Int32.ofNat j) (own_fill p4))) := by rw [e19]; exact F18
  refine Go.on (fun t k => XS.istore X19.here hx rfl (hb hby at_135) rfl (l' := #[.val (.long q1), .second, .val (.int p2), .val (.int p3), .val (.int p4), .val (.long (own_v q1 p2)), .second, .val (.int (own_at p3)), .val (.int (own_fill p4)), .val (.ref a1), .val (.int ((own_at p3) + (own_len (own_v q1 p2)))), .val (.int (own_len (own_v q1 p2))), .unset]) rfl k) ?_
  show Go p e below _ (T19.setTop (mkF m 137 #[.val (.long q1), .second, .val (.int p2), .val (.int p3), .val (.int p4), .val (.long (own_v q1 p2)), .second, .val (.int (own_at p3)), .val (.int (own_fill p4)), .val (.ref a1), .val (.int ((own_at p3) + (own_len (own_v q1 p2)))), .val (.int (own_len (own_v q1 p2))), .unset] []))
  refine Go.on (fun t k => XS.iload X19.here hx rfl (hb hby at_137) rfl k) ?_
  show Go p e below _ (T19.setTop (mkF m 139 #[.val (.long q1), .second, .val (.int p2), .val (.int p3), .val (.int p4), .val (.long (own_v q1 p2)), .second, .val (.int (own_at p3)), .val (.int (own_fill p4)), .val (.ref a1), .val (.int ((own_at p3) + (own_len (own_v q1 p2)))), .val (.int (own_len (own_v q1 p2))), .unset] [(.int ((own_at p3) + (own_len (own_v q1 p2))))]))
  refine Go.on (fun t k => XS.iload X19.here hx rfl (hb hby at_139) rfl k) ?_
  show Go p e below _ (T19.setTop (mkF m 141 #[.val (.long q1), .second, .val (.int p2), .val (.int p3), .val (.int p4), .val (.long (own_v q1 p2)), .second, .val (.int (own_at p3)), .val (.int (own_fill p4)), .val (.ref a1), .val (.int ((own_at p3) + (own_len (own_v q1 p2)))), .val (.int (own_len (own_v q1 p2))), .unset] [(.int (own_at p3)), (.int ((own_at p3) + (own_len (own_v q1 p2))))]))
  refine Go.on (fun t k => XS.iload X19.here hx rfl (hb hby at_141) rfl k) ?_
  show Go p e below _ (T19.setTop (mkF m 143 #[.val (.long q1), .second, .val (.int p2), .val (.int p3), .val (.int p4), .val (.long (own_v q1 p2)), .second, .val (.int (own_at p3)), .val (.int (own_fill p4)), .val (.ref a1), .val (.int ((own_at p3) + (own_len (own_v q1 p2)))), .val (.int (own_len (own_v q1 p2))), .unset] [(.int (own_len (own_v q1 p2))), (.int (own_at p3)), (.int ((own_at p3) + (own_len (own_v q1 p2))))]))
  refine Go.on (fun t k => XS.iadd X19.here hx rfl (hb hby at_143) rfl k) ?_
  show Go p e below _ (T19.setTop (mkF m 144 #[.val (.long q1), .second, .val (.int p2), .val (.int p3), .val (.int p4), .val (.long (own_v q1 p2)), .second, .val (.int (own_at p3)), .val (.int (own_fill p4)), .val (.ref a1), .val (.int ((own_at p3) + (own_len (own_v q1 p2)))), .val (.int (own_len (own_v q1 p2))), .unset] [(.int ((own_at p3) + (own_len (own_v q1 p2)))), (.int ((own_at p3) + (own_len (own_v q1 p2))))]))
  refine Go.on (fun t k => XS.icmpNo X19.here hx rfl (hb hby at_144) rfl (teq (rfl : ((own_at p3) + (own_len (own_v q1 p2))) = ((own_at p3) + (own_len (own_v q1 p2))))).2 k) ?_
  show Go p e below _ (T19.setTop (mkF m 147 #[.val (.long q1), .second, .val (.int p2), .val (.int p3), .val (.int p4), .val (.long (own_v q1 p2)), .second, .val (.int (own_at p3)), .val (.int (own_fill p4)), .val (.ref a1), .val (.int ((own_at p3) + (own_len (own_v q1 p2)))), .val (.int (own_len (own_v q1 p2))), .unset] []))
  refine Go.on (fun t k => XS.iconst X19.here hx rfl (hb hby at_147) k) ?_
  show Go p e below _ (T19.setTop (mkF m 148 #[.val (.long q1), .second, .val (.int p2), .val (.int p3), .val (.int p4), .val (.long (own_v q1 p2)), .second, .val (.int (own_at p3)), .val (.int (own_fill p4)), .val (.ref a1), .val (.int ((own_at p3) + (own_len (own_v q1 p2)))), .val (.int (own_len (own_v q1 p2))), .unset] [(.int (1 : Int32))]))
  refine Go.on (fun t k => XS.goto X19.here hx rfl (pc0 := 148) (pc' := 152) rfl (hb hby at_148) (by decide) (by decide) k) ?_
  show Go p e below _ (T19.setTop (mkF m 152 #[.val (.long q1), .second, .val (.int p2), .val (.int p3), .val (.int p4), .val (.long (own_v q1 p2)), .second, .val (.int (own_at p3)), .val (.int (own_fill p4)), .val (.ref a1), .val (.int ((own_at p3) + (own_len (own_v q1 p2)))), .val (.int (own_len (own_v q1 p2))), .unset] [(.int (1 : Int32))]))
  refine Go.on (fun t k => XS.istore X19.here hx rfl (hb hby at_152) rfl (l' := #[.val (.long q1), .second, .val (.int p2), .val (.int p3), .val (.int p4), .val (.long (own_v q1 p2)), .second, .val (.int (own_at p3)), .val (.int (own_fill p4)), .val (.ref a1), .val (.int ((own_at p3) + (own_len (own_v q1 p2)))), .val (.int (own_len (own_v q1 p2))), .val (.int (1 : Int32))]) rfl k) ?_
  show Go p e below _ (T19.setTop (mkF m 154 #[.val (.long q1), .second, .val (.int p2), .val (.int p3), .val (.int p4), .val (.long (own_v q1 p2)), .second, .val (.int (own_at p3)), .val (.int (own_fill p4)), .val (.ref a1), .val (.int ((own_at p3) + (own_len (own_v q1 p2)))), .val (.int (own_len (own_v q1 p2))), .val (.int (1 : Int32))] []))
  refine pC0 hw X19 hx hby hml hZ hown (rfl : T19.heap = T19.heap) N19 Zc19 Fc19 ?_
  intro T20 L20 X20 e20 N20
  show Go p e below _ (T20.setTop (mkF m 183 #[.val (.long q1), .second, .val (.int p2), .val (.int p3), .val (.int p4), .val (.long (own_v q1 p2)), .second, .val (.int (own_at p3)), .val (.int (own_fill p4)), .val (.ref a1), .val (.int ((own_at p3) + (own_len (own_v q1 p2)))), .val (.int (own_len (own_v q1 p2))), .val (.int (1 : Int32))] []))
  refine pC1 hw X20 hx hby hml hZ hown e20 N20 Zc19 Fc19 ?_
  intro T21 L21 X21 e21 N21
  show Go p e below _ (T21.setTop (mkF m 212 #[.val (.long q1), .second, .val (.int p2), .val (.int p3), .val (.int p4), .val (.long (own_v q1 p2)), .second, .val (.int (own_at p3)), .val (.int (own_fill p4)), .val (.ref a1), .val (.int ((own_at p3) + (own_len (own_v q1 p2)))), .val (.int (own_len (own_v q1 p2))), .val (.int (1 : Int32))] []))
  refine pC2 hw X21 hx hby hml hZ hown e21 N21 Zc19 Fc19 ?_
  intro T22 L22 X22 e22 N22
  show Go p e below _ (T22.setTop (mkF m 241 #[.val (.long q1), .second, .val (.int p2), .val (.int p3), .val (.int p4), .val (.long (own_v q1 p2)), .second, .val (.int (own_at p3)), .val (.int (own_fill p4)), .val (.ref a1), .val (.int ((own_at p3) + (own_len (own_v q1 p2)))), .val (.int (own_len (own_v q1 p2))), .val (.int (1 : Int32))] []))
  refine pC3 hw X22 hx hby hml hZ hown e22 N22 Zc19 Fc19 ?_
  intro T23 L23 X23 e23 N23
  show Go p e below _ (T23.setTop (mkF m 270 #[.val (.long q1), .second, .val (.int p2), .val (.int p3), .val (.int p4), .val (.long (own_v q1 p2)), .second, .val (.int (own_at p3)), .val (.int (own_fill p4)), .val (.ref a1), .val (.int ((own_at p3) + (own_len (own_v q1 p2)))), .val (.int (own_len (own_v q1 p2))), .val (.int (1 : Int32))] []))
  refine pC4 hw X23 hx hby hml hZ hown e23 N23 Zc19 Fc19 ?_
  intro T24 L24 X24 e24 N24
  show Go p e below _ (T24.setTop (mkF m 299 #[.val (.long q1), .second, .val (.int p2), .val (.int p3), .val (.int p4), .val (.long (own_v q1 p2)), .second, .val (.int (own_at p3)), .val (.int (own_fill p4)), .val (.ref a1), .val (.int ((own_at p3) + (own_len (own_v q1 p2)))), .val (.int (own_len (own_v q1 p2))), .val (.int (1 : Int32))] []))
  refine pC5 hw X24 hx hby hml hZ hown e24 N24 Zc19 Fc19 ?_
  intro T25 L25 X25 e25 N25
  show Go p e below _ (T25.setTop (mkF m 328 #[.val (.long q1), .second, .val (.int p2), .val (.int p3), .val (.int p4), .val (.long (own_v q1 p2)), .second, .val (.int (own_at p3)), .val (.int (own_fill p4)), .val (.ref a1), .val (.int ((own_at p3) + (own_len (own_v q1 p2)))), .val (.int (own_len (own_v q1 p2))), .val (.int (1 : Int32))] []))
  refine pC6 hw X25 hx hby hml hZ hown e25 N25 Zc19 Fc19 ?_
  intro T26 L26 X26 e26 N26
  show Go p e below _ (T26.setTop (mkF m 358 #[.val (.long q1), .second, .val (.int p2), .val (.int p3), .val (.int p4), .val (.long (own_v q1 p2)), .second, .val (.int (own_at p3)), .val (.int (own_fill p4)), .val (.ref a1), .val (.int ((own_at p3) + (own_len (own_v q1 p2)))), .val (.int (own_len (own_v q1 p2))), .val (.int (1 : Int32))] []))
  refine pC7 hw X26 hx hby hml hZ hown e26 N26 Zc19 Fc19 ?_
  intro T27 L27 X27 e27 N27
  show Go p e below _ (T27.setTop (mkF m 388 #[.val (.long q1), .second, .val (.int p2), .val (.int p3), .val (.int p4), .val (.long (own_v q1 p2)), .second, .val (.int (own_at p3)), .val (.int (own_fill p4)), .val (.ref a1), .val (.int ((own_at p3) + (own_len (own_v q1 p2)))), .val (.int (own_len (own_v q1 p2))), .val (.int (1 : Int32))] []))
  refine pC8 hw X27 hx hby hml hZ hown e27 N27 Zc19 Fc19 ?_
  intro T28 L28 X28 e28 N28
  show Go p e below _ (T28.setTop (mkF m 418 #[.val (.long q1), .second, .val (.int p2), .val (.int p3), .val (.int p4), .val (.long (own_v q1 p2)), .second, .val (.int (own_at p3)), .val (.int (own_fill p4)), .val (.ref a1), .val (.int ((own_at p3) + (own_len (own_v q1 p2)))), .val (.int (own_len (own_v q1 p2))), .val (.int (1 : Int32))] []))
  refine pC9 hw X28 hx hby hml hZ hown e28 N28 Zc19 Fc19 ?_
  intro T29 L29 X29 e29 N29
  show Go p e below _ (T29.setTop (mkF m 448 #[.val (.long q1), .second, .val (.int p2), .val (.int p3), .val (.int p4), .val (.long (own_v q1 p2)), .second, .val (.int (own_at p3)), .val (.int (own_fill p4)), .val (.ref a1), .val (.int ((own_at p3) + (own_len (own_v q1 p2)))), .val (.int (own_len (own_v q1 p2))), .val (.int (1 : Int32))] []))
  refine pC10 hw X29 hx hby hml hZ hown e29 N29 Zc19 Fc19 ?_
  intro T30 L30 X30 e30 N30
  show Go p e below _ (T30.setTop (mkF m 478 #[.val (.long q1), .second, .val (.int p2), .val (.int p3), .val (.int p4), .val (.long (own_v q1 p2)), .second, .val (.int (own_at p3)), .val (.int (own_fill p4)), .val (.ref a1), .val (.int ((own_at p3) + (own_len (own_v q1 p2)))), .val (.int (own_len (own_v q1 p2))), .val (.int (1 : Int32))] []))
  refine pC11 hw X30 hx hby hml hZ hown e30 N30 Zc19 Fc19 ?_
  intro T31 L31 X31 e31 N31
  show Go p e below _ (T31.setTop (mkF m 508 #[.val (.long q1), .second, .val (.int p2), .val (.int p3), .val (.int p4), .val (.long (own_v q1 p2)), .second, .val (.int (own_at p3)), .val (.int (own_fill p4)), .val (.ref a1), .val (.int ((own_at p3) + (own_len (own_v q1 p2)))), .val (.int (own_len (own_v q1 p2))), .val (.int (1 : Int32))] []))
  refine pC12 hw X31 hx hby hml hZ hown e31 N31 Zc19 Fc19 ?_
  intro T32 L32 X32 e32 N32
  show Go p e below _ (T32.setTop (mkF m 538 #[.val (.long q1), .second, .val (.int p2), .val (.int p3), .val (.int p4), .val (.long (own_v q1 p2)), .second, .val (.int (own_at p3)), .val (.int (own_fill p4)), .val (.ref a1), .val (.int ((own_at p3) + (own_len (own_v q1 p2)))), .val (.int (own_len (own_v q1 p2))), .val (.int (1 : Int32))] []))
  refine pC13 hw X32 hx hby hml hZ hown e32 N32 Zc19 Fc19 ?_
  intro T33 L33 X33 e33 N33
  show Go p e below _ (T33.setTop (mkF m 568 #[.val (.long q1), .second, .val (.int p2), .val (.int p3), .val (.int p4), .val (.long (own_v q1 p2)), .second, .val (.int (own_at p3)), .val (.int (own_fill p4)), .val (.ref a1), .val (.int ((own_at p3) + (own_len (own_v q1 p2)))), .val (.int (own_len (own_v q1 p2))), .val (.int (1 : Int32))] []))
  refine pC14 hw X33 hx hby hml hZ hown e33 N33 Zc19 Fc19 ?_
  intro T34 L34 X34 e34 N34
  show Go p e below _ (T34.setTop (mkF m 598 #[.val (.long q1), .second, .val (.int p2), .val (.int p3), .val (.int p4), .val (.long (own_v q1 p2)), .second, .val (.int (own_at p3)), .val (.int (own_fill p4)), .val (.ref a1), .val (.int ((own_at p3) + (own_len (own_v q1 p2)))), .val (.int (own_len (own_v q1 p2))), .val (.int (1 : Int32))] []))
  refine pC15 hw X34 hx hby hml hZ hown e34 N34 Zc19 Fc19 ?_
  intro T35 L35 X35 e35 N35
  show Go p e below _ (T35.setTop (mkF m 628 #[.val (.long q1), .second, .val (.int p2), .val (.int p3), .val (.int p4), .val (.long (own_v q1 p2)), .second, .val (.int (own_at p3)), .val (.int (own_fill p4)), .val (.ref a1), .val (.int ((own_at p3) + (own_len (own_v q1 p2)))), .val (.int (own_len (own_v q1 p2))), .val (.int (1 : Int32))] []))
  refine Go.on (fun t k => XS.iload X35.here hx rfl (hb hby at_628) rfl k) ?_
  show Go p e below _ (T35.setTop (mkF m 630 #[.val (.long q1), .second, .val (.int p2), .val (.int p3), .val (.int p4), .val (.long (own_v q1 p2)), .second, .val (.int (own_at p3)), .val (.int (own_fill p4)), .val (.ref a1), .val (.int ((own_at p3) + (own_len (own_v q1 p2)))), .val (.int (own_len (own_v q1 p2))), .val (.int (1 : Int32))] [(.int (1 : Int32))]))
  exact Go.retN X35 hx hlk hret (by simp) (hb hby at_630) (by decide) (by decide) ⟨by rfl, N35⟩
set_option maxRecDepth 65536 in
set_option maxHeartbeats 40000000 in
theorem comes_1 {Post : Tables → Env → Array Value → State → Outcome → State → Prop} (hpost : ∀ tb e args s v u, (limb_1_1.after args s (.returned v) u = true ∧ limb_1_2.after args s (.returned v) u = true ∧ True) → FrameEnd s (.returned v) u (Jvm.fieldLocs frame_1_writes args s ++ Jvm.arrayLocs frame_1_arrays args s ++ Jvm.staticLocs frame_1_statics s) 16 128 → Post tb e args s (.returned v) u) :
    ArmFor flags0 classFile x code maxLocals ret World_1 tables_1 room_1 Calls_1 rest_1 Pre_1 Post := by
  intro l hfl _ _ p e ha hc hk s m args below hf hA hF happ hP
  obtain ⟨hcalls, hrest, hpre⟩ := hP
  obtain ⟨-, -, -, hnamed, -, -, -, hat⟩ := (Spec.applies_iff hf).mp happ
  obtain ⟨hg, hn⟩ := and_e (Cond.before_iff.mp (show (Jvm.Cond.and given_1 narrow_1).before args s = true from hpre))
  obtain ⟨g0, gA0⟩ := and_e hg
  obtain ⟨w0, w1, w2, w3, rfl⟩ : ∃ w0 w1 w2 w3 : Value, args = #[w0, w1, w2, w3] := by
    have hs : args.size = 4 := by simpa [Cond.value, given_1] using g0
    obtain ⟨L⟩ := args
    match L, hs with
    | [w0, w1, w2, w3], _ => exact ⟨w0, w1, w2, w3, rfl⟩
  have hw := fun d (hd : d ∈ tables_1) => atoms_spec (ws := Jvm.Cond.code x code maxLocals ret :: tables_1) hat d (List.mem_cons_of_mem _ hd)
  obtain ⟨g1, gA1⟩ := and_e gA0
  obtain ⟨i0, ei0⟩ := isL_v g1
  obtain rfl : w0 = (.long i0) := Option.some.inj ei0
  obtain ⟨g2, gA2⟩ := and_e gA1
  obtain ⟨i1, ei1⟩ := is_v g2
  obtain rfl : w1 = (.int i1) := Option.some.inj ei1
  obtain ⟨g3, gA3⟩ := and_e gA2
  obtain ⟨i2, ei2⟩ := is_v g3
  obtain rfl : w2 = (.int i2) := Option.some.inj ei2
  obtain ⟨i3, ei3⟩ := is_v gA3
  obtain rfl : w3 = (.int i3) := Option.some.inj ei3
  obtain ⟨n, o, h1, h2, h3, _, L, rfl, ⟨rfl, N⟩, hq⟩ := rm0 l s _ hw tables_1 i0 i1 i2 i3 s.heap s.heap.size (Nat.le_refl _)  p e ha hc hk s m _ below hf ((Spec.applies_iff_loose hf).mp happ).1 ⟨rfl, State.Warmed39.refl s, rfl⟩ trivial
  refine ⟨n, _, h1, h2, h3, hpost _ _ _ _ _ _ ⟨Cond.after_iff.mpr rfl, Cond.after_iff.mpr (eq_i res_at (Term.int_eval (1)) rfl), trivial⟩ ⟨hq.1, hq.2.1, (hq.2.2.sift fun y hy => Or.inr (N y hy)).mono (by decide) (by decide)⟩⟩
theorem main_1_1 : Claimed_1_1 := comes_1 fun _ _ _ _ _ _ h hF => ⟨h.1, hF⟩
theorem main_1_2 : Claimed_1_2 := comes_1 fun _ _ _ _ _ _ h hF => ⟨h.2.1, hF⟩
end Jvm.Pilot.@@N@@
namespace Jvm.Pilot.@@N@@
open Jvm Jvm.ClassFile Sem Op Lib Jvm.Free Jvm.Stand Jvm.Pilot.@@N@@.Jvm.D
/-! MADE BY PROGRAM (witnessworld.py) out of the Statement's table words and the real class files: 9 classes; the members and pool entries that the words name. The judged class is class 1, her method 3. -/
namespace start1
open Jvm.ClassFile
def u (s : String) : CpInfo := .utf8 (stringToUtf16 s)
/-- a pool by its gaps: so many unusable entries, then the entry; so many at the end -/
def gap : Nat → List CpInfo → List CpInfo
  | 0, r => r
  | n + 1, r => .unusable :: gap n r
def poolList (es : List (Nat × CpInfo)) (last : Nat) : List CpInfo := es.foldr (fun e r => gap e.1 (e.2 :: r)) (gap last [])
def pool (es : List (Nat × CpInfo)) (last : Nat) : Array CpInfo := ⟨poolList es last⟩
def fileOf (pool : Array CpInfo) (this : Nat) (attrs : Array Attribute := #[]) (ms : Array MethodInfo := #[]) (fl : Nat := 33) (sup : Nat := 0) (ifs : Array Nat := #[]) (fds : Array FieldInfo := #[]) : ClassFile where
  minorVersion := 0
  majorVersion := 65
  constantPool := pool
  accessFlags := fl
  thisClass := this
  superClass := sup
  interfaces := ifs
  fields := fds
  methods := ms
  attributes := attrs
def plain (name : String) (sup : Option ClassId) : Class where
  name := name
  kind := .ordinary
  loader := none
  accessFlags := 33
  super := sup
  interfaces := #[]
  cf := none
  fields := #[]
  methods := #[]
  instanceTypes := #[]
  staticTypes := #[]
  resolved := #[]
  callSites := []
  init := .initialized
  statics := none
  mirror := none

def pool0 : Array CpInfo := pool [(5, u "<init>"), (0, u "()V"), (1, .class_ 10), (1, u "java/lang/Object")] 113

def k0m0 : Method := { name := "<init>", desc := "()V", sig := { parameters := [], returnType := none }, accessFlags := 1, code := none }
/-- java/lang/Object -/
def k0 : Class := { plain "java/lang/Object" none with
  accessFlags := 33
  interfaces := #[]
  cf := some (fileOf pool0 8 #[] #[{ accessFlags := 1, nameIndex := 5, descriptorIndex := 6, attributes := #[] }] 33 0 #[] #[])
  fields := #[]
  methods := #[k0m0]
  instanceTypes := #[]
  staticTypes := #[]
  resolved := Array.replicate 124 none
  statics := none }

def pool1 : Array CpInfo := pool [(2, .class_ 4), (1, u "java/lang/Object"), (0, u "<init>"), (0, u "()V"), (0, .long 128), (1, .long 16384), (1, .long 2097152), (1, .long 268435456), (1, .long 34359738368), (1, .long 4398046511104), (1, .long 562949953421312), (1, .long 72057594037927936), (1, .long 127), (3, .long 9223372036854775807), (1, .methodref 30 31), (0, .class_ 32), (0, .nameAndType 33 34), (0, u "com/example/triplepress/triplepress/container/VByte"), (0, u "write"), (0, u "([BIJ)I"), (0, .methodref 36 37), (0, .class_ 38), (0, .nameAndType 39 40), (0, u "com/example/triplepress/triplepress/container/VByteWritePinLaw"), (0, u "expectedLength"), (0, u "(J)I"), (0, .methodref 36 42), (0, .nameAndType 43 44), (0, u "cell"), (0, u "([BIJIIB)Z"), (3, u "law"), (0, u "(JIII)Z")] 4

def k1m0 : Method := { name := "<init>", desc := "()V", sig := { parameters := [], returnType := none }, accessFlags := 2, code := none }
def k1c1 : Code := { maxStack := 4, maxLocals := 2, code := method_2_code, exceptionTable := #[], attributes := #[] }
def k1m1 : Method := { name := "expectedLength", desc := "(J)I", sig := { parameters := [.long], returnType := some .int }, accessFlags := 10, code := some k1c1 }
def k1c2 : Code := { maxStack := 4, maxLocals := 10, code := method_3_code, exceptionTable := #[], attributes := #[] }
def k1m2 : Method := { name := "cell", desc := "([BIJIIB)Z", sig := { parameters := [(.array .byte), .int, .long, .int, .int, .byte], returnType := some .boolean }, accessFlags := 10, code := some k1c2 }
def k1c3 : Code := { maxStack := 7, maxLocals := 13, code := code, exceptionTable := #[], attributes := #[] }
def k1m3 : Method := { name := "law", desc := "(JIII)Z", sig := { parameters := [.long, .int, .int, .int], returnType := some .boolean }, accessFlags := 9, code := some k1c3 }
/-- com/example/triplepress/triplepress/container/VByteWritePinLaw -/
def k1 : Class := { plain "com/example/triplepress/triplepress/container/VByteWritePinLaw" (some 0) with
  accessFlags := 49
  interfaces := #[]
  cf := some (fileOf pool1 36 #[] #[{ accessFlags := 2, nameIndex := 5, descriptorIndex := 6, attributes := #[] }, { accessFlags := 10, nameIndex := 39, descriptorIndex := 40, attributes := #[] }, { accessFlags := 10, nameIndex := 43, descriptorIndex := 44, attributes := #[] }, { accessFlags := 9, nameIndex := 48, descriptorIndex := 49, attributes := #[] }] 49 2 #[] #[])
  fields := #[]
  methods := #[k1m0, k1m1, k1m2, k1m3]
  instanceTypes := #[]
  staticTypes := #[]
  resolved := Array.replicate 54 none
  statics := none }

def pool2 : Array CpInfo := pool [(2, .class_ 4), (1, u "java/lang/Object"), (0, u "<init>"), (0, u "()V"), (0, .class_ 8), (0, u "com/example/triplepress/triplepress/container/VByte"), (2, u "write"), (0, u "([BIJ)I"), (14, .long 128), (1, .long 127), (12, u "MAX_BYTES"), (0, u "I")] 28

def k2m0 : Method := { name := "<init>", desc := "()V", sig := { parameters := [], returnType := none }, accessFlags := 2, code := none }
def k2c1 : Code := { maxStack := 6, maxLocals := 7, code := prog_12_method_3_code, exceptionTable := #[], attributes := #[] }
def k2m1 : Method := { name := "write", desc := "([BIJ)I", sig := { parameters := [(.array .byte), .int, .long], returnType := some .int }, accessFlags := 9, code := some k2c1 }
/-- com/example/triplepress/triplepress/container/VByte -/
def k2 : Class := { plain "com/example/triplepress/triplepress/container/VByte" (some 0) with
  accessFlags := 49
  interfaces := #[]
  cf := some (fileOf pool2 7 #[] #[{ accessFlags := 2, nameIndex := 5, descriptorIndex := 6, attributes := #[] }, { accessFlags := 9, nameIndex := 11, descriptorIndex := 12, attributes := #[] }] 49 2 #[] #[{ accessFlags := 25, nameIndex := 42, descriptorIndex := 43, attributes := #[] }])
  fields := #[{ name := "MAX_BYTES", type := .int, accessFlags := 25, slot := 0, constantValue := 0 }]
  methods := #[k2m0, k2m1]
  instanceTypes := #[]
  staticTypes := #[.int]
  resolved := Array.replicate 72 none
  statics := none }

def pool3 : Array CpInfo := pool [(1, u "java/lang/Cloneable"), (0, .class_ 1), (0, u "java/lang/Object"), (0, .class_ 3)] 3

/-- java/lang/Cloneable -/
def k3 : Class := { plain "java/lang/Cloneable" (some 0) with
  accessFlags := 1537
  interfaces := #[]
  cf := some (fileOf pool3 2 #[] #[] 1537 4 #[] #[])
  fields := #[]
  methods := #[]
  instanceTypes := #[]
  staticTypes := #[]
  resolved := Array.replicate 8 none
  statics := none }

def pool4 : Array CpInfo := pool [(1, u "java/io/Serializable"), (0, .class_ 1), (0, u "java/lang/Object"), (0, .class_ 3)] 3

/-- java/io/Serializable -/
def k4 : Class := { plain "java/io/Serializable" (some 0) with
  accessFlags := 1537
  interfaces := #[]
  cf := some (fileOf pool4 2 #[] #[] 1537 4 #[] #[])
  fields := #[]
  methods := #[]
  instanceTypes := #[]
  staticTypes := #[]
  resolved := Array.replicate 8 none
  statics := none }

/-- the primitive byte -/
def k5 : Class := { plain "byte" none with kind := .primitive 'B', accessFlags := 0x411 }
/-- [B -/
def k6 : Class := { plain "[B" (some 0) with kind := .array 5 .byte, interfaces := #[3, 4], accessFlags := 1041 }

/-- the primitive int -/
def k7 : Class := { plain "int" none with kind := .primitive 'I', accessFlags := 0x411 }
/-- [I -/
def k8 : Class := { plain "[I" (some 0) with kind := .array 7 .int, interfaces := #[3, 4], accessFlags := 1041 }

def heap : Heap := #[]
def classes : Array Class := #[k0, k1, k2, k3, k4, k5, k6, k7, k8]
def interned : List (Array UInt16 × Addr) := []
def slotsUsed : Nat := 0
def theMethod : MethodId := ⟨1, 3⟩
def args0 : Array Value := #[.long 5, .int 3, .int 7, .int 2]
def aboutOver (below : List Frame) : State where
  vm := { classes := classes, interned := interned.toArray }
  heap := heap
  slotsUsed := slotsUsed
  threads := #[{ frames := .invoking theMethod args0 :: below }]
def below0 : List Frame := [.native { method := ⟨0, 0⟩, args := #[] }]
def about1 : State := aboutOver below0
def p0 : Program := .bare "" "" ""
def e0 : Env := launch0.env 0 0 0
theorem w_frames : about1.frames = Frame.invoking theMethod args0 :: below0 := rfl
set_option maxRecDepth 65536 in
theorem w_args : argsFit about1.vm theMethod args0 = true := by decide +kernel
set_option maxRecDepth 65536 in
theorem w_heap : heapFits about1 = true := by decide +kernel
set_option maxRecDepth 65536 in
theorem w_runnable : about1.curStatus? = some .runnable := by decide +kernel
set_option maxRecDepth 65536 in
theorem w_alone : about1.alone = true := by decide +kernel
set_option maxRecDepth 65536 in
theorem w_named : about1.methodNamed? x = some theMethod := by decide +kernel
set_option maxRecDepth 65536 in
theorem w_hears : about1.hears theMethod below0 = true := by decide +kernel
set_option maxRecDepth 65536 in
theorem w_ripe : about1.ripe theMethod args0 below0 = true := by decide +kernel
theorem w_running : about1.status = .running := rfl
set_option maxRecDepth 65536 in
theorem w_room : about1.hasRoom e0.platform room_1 = true :=
  launch0.hasRoom_least _ room_1 (by decide +kernel) (by decide +kernel) (by decide +kernel) (by decide +kernel) (by decide +kernel) (by decide +kernel)
theorem allAtoms_all (ts : List Jvm.Cond) (a : Array Jvm.Value) (st : Jvm.State) : (allAtoms ts).before a st = ts.all (fun c => c.before a st) := by
  induction ts with
  | nil => rfl
  | cons c t ih =>
    show (Jvm.Cond.and c (allAtoms t)).before a st = _
    rw [Jvm.Cond.before_and, ih, List.all_cons]
def words1 : List Jvm.Cond := Jvm.Cond.code x code maxLocals ret :: tables_1
/-- a 'code' word, met by the world's own term for the bytes: nothing is compared byte by byte -/
theorem code_word {y : MethodName} {bytes : ByteArray} {mx : Nat} {rt : Option FieldType} {a : Array Value} {s : State} {m : MethodId} {meth : Method} {c : Code} (h1 : s.methodNamed? y = some m) (h2 : s.vm.method? m = some meth) (h3 : meth.code = some c) (h4 : c.code = bytes)
    (h5 : (c.maxLocals == mx && c.exceptionTable.isEmpty && decide (c.maxStack ≤ mostOperands) && decide (meth.sig.returnType = rt) && !meth.locks && decide (parseMethodDescriptor y.desc = some meth.sig)) = true) : (Jvm.Cond.code y bytes mx rt).before a s = true := by
  simp only [Bool.and_eq_true, beq_iff_eq, Bool.not_eq_true', decide_eq_true_eq] at h5
  obtain ⟨⟨⟨⟨⟨g1, g2⟩, g3⟩, g4⟩, g5⟩, g6⟩ := h5
  simp [Cond.before, Cond.holds, Cond.value, h1, h2, h3, h4, g1, g2, g3, g4, g5, g6]
def isCode : Jvm.Cond → Bool
  | .code _ _ _ _ => true
  | _ => false
theorem all_split {L : List Jvm.Cond} {P : Jvm.Cond → Bool} (h1 : L.all (fun c => isCode c || P c) = true) (h2 : ∀ c ∈ L.filter isCode, P c = true) : L.all P = true := by
  refine List.all_eq_true.mpr fun c hc => ?_
  have h := List.all_eq_true.mp h1 c hc
  rcases Bool.eq_false_or_eq_true (isCode c) with hi | hi
  · exact h2 c (List.mem_filter.mpr ⟨hc, hi⟩)
  · simpa [hi] using h
set_option maxRecDepth 65536 in
theorem w_c0 : (Jvm.Cond.code x code maxLocals ret).before args0 about1 = true := code_word (m := ⟨1, 3⟩) (meth := k1m3) (c := k1c3) (by decide +kernel) rfl rfl rfl (by decide +kernel)
set_option maxRecDepth 65536 in
theorem w_c1 : (Jvm.Cond.code ({ cls := "com/example/triplepress/triplepress/container/VByte", name := "write", desc := "([BIJ)I" } : Jvm.MethodName) prog_12_method_3_code (7 : Nat) (Option.some Jvm.ClassFile.FieldType.int)).before args0 about1 = true := code_word (m := ⟨2, 1⟩) (meth := k2m1) (c := k2c1) (by decide +kernel) rfl rfl rfl (by decide +kernel)
set_option maxRecDepth 65536 in
theorem w_c2 : (Jvm.Cond.code ({ cls := "com/example/triplepress/triplepress/container/VByteWritePinLaw", name := "expectedLength", desc := "(J)I" } : Jvm.MethodName) method_2_code (2 : Nat) (Option.some Jvm.ClassFile.FieldType.int)).before args0 about1 = true := code_word (m := ⟨1, 1⟩) (meth := k1m1) (c := k1c1) (by decide +kernel) rfl rfl rfl (by decide +kernel)
set_option maxRecDepth 65536 in
theorem w_c3 : (Jvm.Cond.code ({ cls := "com/example/triplepress/triplepress/container/VByteWritePinLaw", name := "cell", desc := "([BIJIIB)Z" } : Jvm.MethodName) method_3_code (10 : Nat) (Option.some Jvm.ClassFile.FieldType.boolean)).before args0 about1 = true := code_word (m := ⟨1, 2⟩) (meth := k1m2) (c := k1c2) (by decide +kernel) rfl rfl rfl (by decide +kernel)
def codes1 : List Jvm.Cond := [Jvm.Cond.code x code maxLocals ret, Jvm.Cond.code ({ cls := "com/example/triplepress/triplepress/container/VByte", name := "write", desc := "([BIJ)I" } : Jvm.MethodName) prog_12_method_3_code (7 : Nat) (Option.some Jvm.ClassFile.FieldType.int), Jvm.Cond.code ({ cls := "com/example/triplepress/triplepress/container/VByteWritePinLaw", name := "expectedLength", desc := "(J)I" } : Jvm.MethodName) method_2_code (2 : Nat) (Option.some Jvm.ClassFile.FieldType.int), Jvm.Cond.code ({ cls := "com/example/triplepress/triplepress/container/VByteWritePinLaw", name := "cell", desc := "([BIJIIB)Z" } : Jvm.MethodName) method_3_code (10 : Nat) (Option.some Jvm.ClassFile.FieldType.boolean)]
set_option maxRecDepth 65536 in
theorem codes_eq : words1.filter isCode = codes1 := rfl
theorem w_codes : ∀ c ∈ words1.filter isCode, c.before args0 about1 = true := by
  rw [codes_eq]
  intro c hc
  simp only [codes1, List.mem_cons, List.not_mem_nil, or_false] at hc
  rcases hc with rfl | rfl | rfl | rfl
  · exact w_c0
  · exact w_c1
  · exact w_c2
  · exact w_c3
set_option maxRecDepth 65536 in
theorem w_t1 : (words1.take 24).all (fun c => isCode c || c.before args0 about1) = true := by decide +kernel
set_option maxRecDepth 65536 in
theorem w_t2 : (words1.drop 24).all (fun c => isCode c || c.before args0 about1) = true := by decide +kernel
theorem w_tables : (allAtoms (Jvm.Cond.code x code maxLocals ret :: tables_1)).before args0 about1 = true := by
  rw [allAtoms_all]
  show words1.all (fun c => c.before args0 about1) = true
  refine all_split ?_ w_codes
  rw [← List.take_append_drop 24 words1, List.all_append, w_t1, w_t2]
  rfl
set_option maxRecDepth 65536 in
theorem w_case : (Jvm.Cond.and given_1 narrow_1).before args0 about1 = true := by decide +kernel
theorem w_applies : (headSpec (Jvm.Cond.code x code maxLocals ret :: tables_1) room_1).applies x e0.platform about1 = true :=
  (Spec.applies_iff w_frames).mpr ⟨w_running, w_runnable, w_alone, w_named, w_hears, w_ripe, w_room, w_tables⟩
theorem atStart : AtStart classFile x code maxLocals ret World_1 tables_1 room_1 Calls_1 rest_1 Pre_1 launch0 p0 e0 about1 theMethod args0 below0 :=
  ⟨lists_1, trivial, launch0.admits_env _ _ _, launch0.least_env, fairChoices_fair.cas, fairChoices_fair.clock, w_frames, w_args, w_heap, w_applies, trivial, trivial, w_case⟩
end start1
theorem witness_1 : WitnessClaimed_1 := ⟨start1.p0, start1.e0, start1.about1, start1.theMethod, start1.args0, start1.below0, start1.atStart⟩
end Jvm.Pilot.@@N@@
