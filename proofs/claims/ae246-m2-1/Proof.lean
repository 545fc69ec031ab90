import JvmDerived
import JvmDerived.Pilot.@@N@@Statement
import JvmDerived.Pilot.@@N@@Code
set_option linter.unusedVariables false
set_option linter.unusedSimpArgs false
namespace Jvm.Pilot.@@N@@
open Jvm Jvm.ClassFile Sem Op Lib Jvm.Free Jvm.Stand Jvm.LawKit Jvm.RoadKit Bundle Jvm.Pilot.@@N@@.Jvm.D
section GoKit
variable {p : Program} {l : Launch} {e : Env} {R : Room} {s : State} {m : MethodId} {args : Array Value} {below : List Frame} {meth : Method} {c : Code} {T : State} {locs : List Loc} {cells slots : Nat}
/-- from the state S the run comes to an end that P says -/
def Go (p : Program) (e : Env) (below : List Frame) (P : Outcome → State → Prop) (S : State) : Prop := ∃ s₂ o, Steps p.tables e below S s₂ ∧ s₂.status = .running ∧ Ended s₂ below o ∧ P o s₂
def Pst (s : State) (Q : Option Value → Heap → List Loc → Prop) (k n : Nat) : Outcome → State → Prop := fun o U => ∃ v L, o = .returned v ∧ Q v U.heap L ∧ FrameEnd s o U L k n
theorem Go.on {P : Outcome → State → Prop} {S S' : State} (h : ∀ t, Steps p.tables e below S' t → Steps p.tables e below S t) (k : Go p e below P S') : Go p e below P S := by
  obtain ⟨s2, o, h1, h2⟩ := k
  exact ⟨s2, o, h _ h1, h2⟩
theorem Go.st {P : Outcome → State → Prop} {S S' : State} (h : Steps p.tables e below S S') (k : Go p e below P S') : Go p e below P S := Go.on (fun _ q => h.trans q) k
theorem Go.retV (X : Stand p l e R s m args below meth c T locs cells slots) (hx : p.tables.exec = Jvm.exec) (hlk : meth.locks = false) {pc : Nat} {Ls : Array Slot} {w : Value} {t : FieldType} {i : Instr} {rest : List Value} (hret : meth.sig.returnType = some t) (hn : narrow t w = w)
    (hi : (i = .ireturn ∧ (t = .int ∨ t = .boolean ∨ t = .byte ∨ t = .char ∨ t = .short) ∧ ∃ z, w = .int z) ∨ (i = .lreturn ∧ t = .long ∧ ∃ z, w = .long z) ∨ (i = .dreturn ∧ t = .double ∧ ∃ z, w = .double z) ∨ (i = .freturn ∧ t = .float ∧ ∃ z, w = .float z) ∨ (i = .areturn ∧ t.isReference = true ∧ w.isRef = true))
    (hd : decode c.code pc = .ok (i, 1)) {Q : Option Value → Heap → List Loc → Prop} {k n : Nat} (hk : cells ≤ k) (hs : slots ≤ n) (hQ : Q (some w) T.heap locs) : Go p e below (Pst s Q k n) (T.setTop (mkF m pc Ls (w :: rest))) := by
  obtain ⟨fs, hr, hrun, hended, hW, hsame⟩ := X.leave (v := some w) (fun h => by rw [hret] at h; cases h) hlk
  exact ⟨_, _, retOut X hx hret hn hi hd hr, hrun, hended, _, _, rfl, hQ, ⟨_, rfl⟩, hW, hsame.mono hk hs⟩
theorem Go.retI (X : Stand p l e R s m args below meth c T locs cells slots) (hx : p.tables.exec = Jvm.exec) (hlk : meth.locks = false) {pc : Nat} {Ls : Array Slot} {z : Int32} {rest : List Value} (hret : meth.sig.returnType = some .int)
    (hd : decode c.code pc = .ok (.ireturn, 1)) {Q : Option Value → Heap → List Loc → Prop} {k n : Nat} (hk : cells ≤ k) (hs : slots ≤ n) (hQ : Q (some (.int z)) T.heap locs) : Go p e below (Pst s Q k n) (T.setTop (mkF m pc Ls (.int z :: rest))) :=
  Go.retV X hx hlk hret rfl (Or.inl ⟨rfl, Or.inl rfl, _, rfl⟩) hd hk hs hQ
theorem Go.retJ (X : Stand p l e R s m args below meth c T locs cells slots) (hx : p.tables.exec = Jvm.exec) (hlk : meth.locks = false) {pc : Nat} {Ls : Array Slot} {z : Int64} {rest : List Value} (hret : meth.sig.returnType = some .long)
    (hd : decode c.code pc = .ok (.lreturn, 1)) {Q : Option Value → Heap → List Loc → Prop} {k n : Nat} (hk : cells ≤ k) (hs : slots ≤ n) (hQ : Q (some (.long z)) T.heap locs) : Go p e below (Pst s Q k n) (T.setTop (mkF m pc Ls (.long z :: rest))) :=
  Go.retV X hx hlk hret rfl (Or.inr (Or.inl ⟨rfl, rfl, _, rfl⟩)) hd hk hs hQ
theorem Go.retA (X : Stand p l e R s m args below meth c T locs cells slots) (hx : p.tables.exec = Jvm.exec) (hlk : meth.locks = false) {pc : Nat} {Ls : Array Slot} {a : Addr} {t : FieldType} {rest : List Value} (hret : meth.sig.returnType = some t) (ht : t.isReference = true) (hn : narrow t (.ref a) = .ref a)
    (hd : decode c.code pc = .ok (.areturn, 1)) {Q : Option Value → Heap → List Loc → Prop} {k n : Nat} (hk : cells ≤ k) (hs : slots ≤ n) (hQ : Q (some (.ref a)) T.heap locs) : Go p e below (Pst s Q k n) (T.setTop (mkF m pc Ls (.ref a :: rest))) :=
  Go.retV X hx hlk hret hn (Or.inr (Or.inr (Or.inr (Or.inr ⟨rfl, ht, rfl⟩)))) hd hk hs hQ
theorem Go.retN (X : Stand p l e R s m args below meth c T locs cells slots) (hx : p.tables.exec = Jvm.exec) (hlk : meth.locks = false) {pc : Nat} {Ls : Array Slot} {z : Int32} {t : FieldType} {rest : List Value} (hret : meth.sig.returnType = some t) (ht : t = .boolean ∨ t = .byte ∨ t = .char ∨ t = .short)
    (hd : decode c.code pc = .ok (.ireturn, 1)) {Q : Option Value → Heap → List Loc → Prop} {k n : Nat} (hk : cells ≤ k) (hs : slots ≤ n) (hQ : Q (some (.int (nar t z))) T.heap locs) : Go p e below (Pst s Q k n) (T.setTop (mkF m pc Ls (.int z :: rest))) := by
  obtain ⟨fs, hr, hrun, hended, hW, hsame⟩ := X.leave (v := some (.int (nar t z))) (fun h => by rw [hret] at h; cases h) hlk
  exact ⟨_, _, Jvm.RoadKit.retN X hx hret ht hd hr, hrun, hended, _, _, rfl, hQ, ⟨_, rfl⟩, hW, hsame.mono hk hs⟩
theorem Go.ret0 (X : Stand p l e R s m args below meth c T locs cells slots) (hx : p.tables.exec = Jvm.exec) (hlk : meth.locks = false) {pc : Nat} {Ls : Array Slot} (hret : meth.sig.returnType = none)
    (hd : decode c.code pc = .ok (.return_, 1)) {Q : Option Value → Heap → List Loc → Prop} {k n : Nat} (hk : cells ≤ k) (hs : slots ≤ n) (hQ : Q none T.heap locs) : Go p e below (Pst s Q k n) (T.setTop (mkF m pc Ls [])) := by
  obtain ⟨fs, hr, hrun, hended, hW, hsame⟩ := X.leave (v := none) (fun _ => rfl) hlk
  exact ⟨_, _, X.returnOut hx hret hd hr, hrun, hended, _, _, rfl, hQ, ⟨_, rfl⟩, hW, hsame.mono hk hs⟩
theorem lremM {g : JFrame} {target : State} (X : Stand p l e R s m args below meth c T locs cells slots) (hx : p.tables.exec = Jvm.exec) (hg : g.method = m) {x y : Int64} {rest : List Value} (hd : decode c.code g.pc = .ok (.lrem, 1)) (hs : g.stack = .long y :: .long x :: rest) (hy : y ≠ 0)
    (hr : Steps p.tables e below (T.setTop { g with pc := g.pc + 1, stack := .long (x % y) :: rest }) target) : Steps p.tables e below (T.setTop g) target := by
  have q : x - x / y * y = x % y := lrem_mod x y
  exact XS.lrem X.here hx hg hd hs hy (by rw [q]; exact hr)
/-- Java's x >>> k on ints and on longs, as the steps leave it -/
def ushrI (x k : Int32) : Int32 := (x.toUInt32 >>> (k &&& 31).toUInt32).toInt32
def ushrJ (x : Int64) (k : Int32) : Int64 := (x.toUInt64 >>> (k &&& 0x3f).toInt64.toUInt64).toInt64
end GoKit
theorem pd_1 : parseMethodDescriptor "()V" = some ⟨[], none⟩ := by decide +kernel
theorem pd_2 : parseMethodDescriptor "(II)I" = some ⟨[.int, .int], some .int⟩ := by decide +kernel
theorem pd_3 : parseMethodDescriptor "(IIJJ)V" = some ⟨[.int, .int, .long, .long], none⟩ := by decide +kernel
theorem pd_4 : parseMethodDescriptor "(J)J" = some ⟨[.long], some .long⟩ := by decide +kernel
def own_max (a b : Int32) : Int32 := if a < b then b else a
def own_i (x : Int64) : Int64 := x &&& (9007199254740991 : Int64)
def own_rate (r : Int32) : Int32 := own_max (1 : Int32) (r &&& (2147483647 : Int32))
theorem own_rate_pos (r : Int32) : 1 ≤ (own_rate r).toInt := by
  have h1 : (1 : Int32).toInt = 1 := by decide
  unfold own_rate own_max
  by_cases h : (1 : Int32) < (r &&& (2147483647 : Int32))
  · rw [if_pos h]
    have h2 := Int32.lt_iff_toInt_lt.mp h
    omega
  · rw [if_neg h]
    omega
theorem own_i_rng (x : Int64) : 0 ≤ (own_i x).toInt ∧ (own_i x).toInt < 9007199254740992 := by
  have h : (own_i x).toInt = x.toInt % (2 ^ 53 : Nat) := c_maskL x 9007199254740991 53 (by decide) (by decide)
  have h2 : (2 ^ 53 : Nat) = 9007199254740992 := by decide
  rw [h2] at h
  omega
def own_time (ms i r : Int64) : Int64 := (ms + ((i / r) * (1000 : Int64))) + (((i % r) * (1000 : Int64)) / r)
theorem own_ok (ms i r : Int64) (hi : 0 ≤ i.toInt) (hi2 : i.toInt < 9007199254740992) (hr : 1 ≤ r.toInt) (hr2 : r.toInt < 2147483648) : own_time ms i r = ms + ((i * (1000 : Int64)) / r) := by
  have hk : (1000 : Int64).toInt = 1000 := by decide
  have hm1 : r ≠ (-1 : Int64) := by
    rintro rfl
    have : (-1 : Int64).toInt = -1 := by decide
    omega
  have q0 : 0 ≤ i.toInt / r.toInt := Int.ediv_nonneg hi (by omega)
  have q1 : i.toInt / r.toInt ≤ i.toInt := Int.ediv_le_self _ hi
  have t0 : 0 ≤ i.toInt % r.toInt := Int.emod_nonneg _ (by omega)
  have t1 : i.toInt % r.toInt < r.toInt := Int.emod_lt_of_pos _ (by omega)
  have dm : r.toInt * (i.toInt / r.toInt) + i.toInt % r.toInt = i.toInt := Int.mul_ediv_add_emod _ _
  have e1 : (i / r).toInt = i.toInt / r.toInt := (c_ldiv i r _ rfl hm1).1 hi
  have e2 : (i % r).toInt = i.toInt % r.toInt := by
    rw [Int64.toInt_mod]
    exact (tr _ _).1 hi
  have e3 : (i * (1000 : Int64)).toInt = i.toInt * 1000 := by
    have c := c_lmul i 1000
    have b := rng64 (i * (1000 : Int64))
    rw [hk] at c
    omega
  have e4 : ((i / r) * (1000 : Int64)).toInt = (i.toInt / r.toInt) * 1000 := by
    have c := c_lmul (i / r) 1000
    have b := rng64 ((i / r) * (1000 : Int64))
    rw [hk, e1] at c
    omega
  have e5 : ((i % r) * (1000 : Int64)).toInt = (i.toInt % r.toInt) * 1000 := by
    have c := c_lmul (i % r) 1000
    have b := rng64 ((i % r) * (1000 : Int64))
    rw [hk, e2] at c
    omega
  have e6 : (((i % r) * (1000 : Int64)) / r).toInt = ((i.toInt % r.toInt) * 1000) / r.toInt := by
    have := (c_ldiv ((i % r) * (1000 : Int64)) r _ rfl hm1).1 (by rw [e5]; omega)
    rw [this, e5]
  have e7 : ((i * (1000 : Int64)) / r).toInt = (i.toInt * 1000) / r.toInt := by
    have := (c_ldiv (i * (1000 : Int64)) r _ rfl hm1).1 (by rw [e3]; omega)
    rw [this, e3]
  have key : (i.toInt * 1000) / r.toInt = (i.toInt / r.toInt) * 1000 + ((i.toInt % r.toInt) * 1000) / r.toInt := by
    have h : i.toInt * 1000 = (i.toInt % r.toInt) * 1000 + r.toInt * ((i.toInt / r.toInt) * 1000) := by
      rw [← Int.mul_assoc, ← Int.add_mul, Int.add_comm, dm]
    rw [h, Int.add_mul_ediv_left _ _ (by omega : r.toInt ≠ 0), Int.add_comm]
  have sum : (i * (1000 : Int64)) / r = ((i / r) * (1000 : Int64)) + (((i % r) * (1000 : Int64)) / r) := by
    apply Int64.toInt_inj.mp
    have c := c_ladd ((i / r) * (1000 : Int64)) (((i % r) * (1000 : Int64)) / r)
    have b := rng64 (((i / r) * (1000 : Int64)) + (((i % r) * (1000 : Int64)) / r))
    have b2 := rng64 ((i * (1000 : Int64)) / r)
    rw [e4, e6] at c
    rw [e7] at b2 ⊢
    omega
  rw [sum]
  exact Int64.add_assoc _ _ _
theorem own_nz (r : Int32) : (own_rate r).toInt64 ≠ 0 := by
  intro h
  have h1 := own_rate_pos r
  have h2 : ((own_rate r).toInt64).toInt = (own_rate r).toInt := c_i2l _
  rw [h] at h2
  have h3 : (0 : Int64).toInt = 0 := by decide
  omega
theorem own_end (ms x : Int64) (r : Int32) : own_time ms (own_i x) (own_rate r).toInt64 = ms + ((own_i x * (1000 : Int64)) / (own_rate r).toInt64) := by
  have h1 := own_i_rng x
  have h2 := own_rate_pos r
  have h3 : ((own_rate r).toInt64).toInt = (own_rate r).toInt := c_i2l _
  have h4 := rng32 (own_rate r)
  exact own_ok ms (own_i x) _ h1.1 h1.2 (by omega) (by omega)
def Q1 (a b : Int32) (h0 : Heap) (n0 : Nat) (v : Option Value) (h : Heap) (L : List Loc) : Prop := v = some (.int (own_max a b)) ∧ Fr n0 L ∧ h = h0
theorem d1_0 : decode jdk_29_method_65_code 0 = .ok (.iload_n 0, 1) := by decide +kernel
theorem d1_1 : decode jdk_29_method_65_code 1 = .ok (.iload_n 1, 1) := by decide +kernel
theorem d1_2 : decode jdk_29_method_65_code 2 = .ok (.if_icmp .lt 7, 3) := by decide +kernel
theorem d1_5 : decode jdk_29_method_65_code 5 = .ok (.iload_n 0, 1) := by decide +kernel
theorem d1_6 : decode jdk_29_method_65_code 6 = .ok (.goto 4, 3) := by decide +kernel
theorem d1_9 : decode jdk_29_method_65_code 9 = .ok (.iload_n 1, 1) := by decide +kernel
theorem d1_10 : decode jdk_29_method_65_code 10 = .ok (.ireturn, 1) := by decide +kernel
theorem pn_1 : plainFor (⟨"java/lang/Math", "max", "(II)I"⟩ : MethodName) = true := by first | exact plainFor_of_name (by first | (simp [plainName, overriddenIn]; done) | decide +kernel) | decide +kernel
theorem ef_1 (m : MethodId) (x0 : Int32) (x1 : Int32) : entryFrame m #[(.int x0), (.int x1)] 2 = mkF m 0 #[.val (.int x0), .val (.int x1)] [] := by first | (simp [entryFrame, mkF, argsToLocals, Value.category]; done) | rfl
set_option maxRecDepth 65536 in
set_option maxHeartbeats 40000000 in
theorem rm1 (l : Launch) (Z : State) (a0 : Array Value) (hw : ∀ d ∈ tables_1, d.before a0 Z = true) (ws : List Jvm.Cond) (p1 p2 : Int32) (h0 : Heap) (n0 : Nat) (Z0 : n0 ≤ h0.size)  :
    MetFree l (⟨"java/lang/Math", "max", "(II)I"⟩ : MethodName) (head1 (Jvm.Cond.code (⟨"java/lang/Math", "max", "(II)I"⟩ : MethodName) jdk_29_method_65_code 2 (some .int) :: ws) ({ frames := 0, cells := 0, slots := 0, locals := 0 } : Room)) (fun a U => a = #[(.int p1), (.int p2)] ∧ Z.Warmed39 U.vm ∧ U.heap = h0) (fun _ _ _ _ _ => True) (fun _ U o U' => ∃ v L, o = .returned v ∧ Q1 p1 p2 h0 n0 v U'.heap L ∧ FrameEnd U o U' L ({ frames := 0, cells := 0, slots := 0, locals := 0 } : Room).cells ({ frames := 0, cells := 0, slots := 0, locals := 0 } : Room).slots) := by
  refine MetFree.of_bodySF pn_1 hisR ?_
  intro p e s m args below meth c s₁ Bd hml0 hP hK
  obtain ⟨rfl, hZ, hh⟩ := hP
  have hx := Bd.exec
  have hby := Bd.bytes
  have hlk := Bd.notSynchronized
  have hret := Bd.returns
  have hml : c.maxLocals = 2 := hml0
  have hown : s.vm.findClass "java/lang/Math" = some m.cls := findClass_of_methodNamed Bd.named
  have hnm := (name_of_methodNamed Bd.named Bd.method).1
  have X0 : Stand p l e ({ frames := 0, cells := 0, slots := 0, locals := 0 } : Room) s m #[(.int p1), (.int p2)] below meth c s₁ [] 0 0 := Stand.of_body Bd
  have e0 : s₁.heap = h0 := by rw [← hh, Bd.state]; rfl
  have N0 := Fr.nil n0
  show Go p e below (Pst s (Q1 p1 p2 h0 n0) ({ frames := 0, cells := 0, slots := 0, locals := 0 } : Room).cells ({ frames := 0, cells := 0, slots := 0, locals := 0 } : Room).slots) (s₁.setTop (entryFrame m #[(.int p1), (.int p2)] 2))
  refine Go.on (fun t k => castTop (ef_1 m p1 p2) k) ?_
  show Go p e below _ (s₁.setTop (mkF m 0 #[.val (.int p1), .val (.int p2)] []))
  refine Go.on (fun t k => XS.iloadN X0.here hx rfl (hb hby d1_0) rfl k) ?_
  show Go p e below _ (s₁.setTop (mkF m 1 #[.val (.int p1), .val (.int p2)] [(.int p1)]))
  refine Go.on (fun t k => XS.iloadN X0.here hx rfl (hb hby d1_1) rfl k) ?_
  show Go p e below _ (s₁.setTop (mkF m 2 #[.val (.int p1), .val (.int p2)] [(.int p2), (.int p1)]))
  by_cases hc2 : p1 < p2
  · refine Go.on (fun t k => XS.icmpYes X0.here hx rfl (pc0 := 2) (pc' := 9) rfl (hb hby d1_2) rfl (tlt hc2).1 (by decide) (by decide) k) ?_
    show Go p e below _ (s₁.setTop (mkF m 9 #[.val (.int p1), .val (.int p2)] []))
    refine Go.on (fun t k => XS.iloadN X0.here hx rfl (hb hby d1_9) rfl k) ?_
    show Go p e below _ (s₁.setTop (mkF m 10 #[.val (.int p1), .val (.int p2)] [(.int p2)]))
    have hv : own_max p1 p2 = p2 := by simp only [own_max, hc2, if_true, if_false]
    exact Go.retI X0 hx hlk hret (hb hby d1_10) (Nat.le_refl _) (Nat.le_refl _) ⟨by rw [hv], N0, e0⟩
  · refine Go.on (fun t k => XS.icmpNo X0.here hx rfl (hb hby d1_2) rfl (flt hc2).1 k) ?_
    show Go p e below _ (s₁.setTop (mkF m 5 #[.val (.int p1), .val (.int p2)] []))
    refine Go.on (fun t k => XS.iloadN X0.here hx rfl (hb hby d1_5) rfl k) ?_
    show Go p e below _ (s₁.setTop (mkF m 6 #[.val (.int p1), .val (.int p2)] [(.int p1)]))
    refine Go.on (fun t k => XS.goto X0.here hx rfl (pc0 := 6) (pc' := 10) rfl (hb hby d1_6) (by decide) (by decide) k) ?_
    show Go p e below _ (s₁.setTop (mkF m 10 #[.val (.int p1), .val (.int p2)] [(.int p1)]))
    have hv : own_max p1 p2 = p1 := by simp only [own_max, hc2, if_true, if_false]
    exact Go.retI X0 hx hlk hret (hb hby d1_10) (Nat.le_refl _) (Nat.le_refl _) ⟨by rw [hv], N0, e0⟩
def Q3 (h0 : Heap) (n0 : Nat) (v : Option Value) (h : Heap) (L : List Loc) : Prop := v = none ∧ Fr n0 L ∧ h = h0
theorem d3_0 : decode jdk_30_method_1_code 0 = .ok (.aload_n 0, 1) := by decide +kernel
theorem d3_1 : decode jdk_30_method_1_code 1 = .ok (.invokespecial 1, 3) := by decide +kernel
theorem d3_4 : decode jdk_30_method_1_code 4 = .ok (.return_, 1) := by decide +kernel
theorem pn_3 : plainFor (⟨"java/lang/Record", "<init>", "()V"⟩ : MethodName) = true := by first | exact plainFor_of_name (by first | (simp [plainName, overriddenIn]; done) | decide +kernel) | decide +kernel
theorem ef_3 (m : MethodId) (x0 : Addr) : entryFrame m #[(.ref x0)] 1 = mkF m 0 #[.val (.ref x0)] [] := by first | (simp [entryFrame, mkF, argsToLocals, Value.category]; done) | rfl
set_option maxRecDepth 65536 in
set_option maxHeartbeats 40000000 in
theorem rm3 (l : Launch) (Z : State) (a0 : Array Value) (hw : ∀ d ∈ tables_1, d.before a0 Z = true) (ws : List Jvm.Cond) (a1 : Addr) (h0 : Heap) (n0 : Nat) (Z0 : n0 ≤ h0.size)  :
    MetFree l (⟨"java/lang/Record", "<init>", "()V"⟩ : MethodName) (head1 (Jvm.Cond.code (⟨"java/lang/Record", "<init>", "()V"⟩ : MethodName) jdk_30_method_1_code 1 none :: ws) ({ frames := 1, cells := 0, slots := 0, locals := 12 } : Room)) (fun a U => a = #[(.ref a1)] ∧ Z.Warmed39 U.vm ∧ U.heap = h0) (fun _ _ _ _ _ => True) (fun _ U o U' => ∃ v L, o = .returned v ∧ Q3 h0 n0 v U'.heap L ∧ FrameEnd U o U' L ({ frames := 1, cells := 0, slots := 0, locals := 12 } : Room).cells ({ frames := 1, cells := 0, slots := 0, locals := 12 } : Room).slots) := by
  refine MetFree.of_bodySF pn_3 hisR ?_
  intro p e s m args below meth c s₁ Bd hml0 hP hK
  obtain ⟨rfl, hZ, hh⟩ := hP
  have hx := Bd.exec
  have hby := Bd.bytes
  have hlk := Bd.notSynchronized
  have hret := Bd.returns
  have hml : c.maxLocals = 1 := hml0
  have hown : s.vm.findClass "java/lang/Record" = some m.cls := findClass_of_methodNamed Bd.named
  have hnm := (name_of_methodNamed Bd.named Bd.method).1
  have X0 : Stand p l e ({ frames := 1, cells := 0, slots := 0, locals := 12 } : Room) s m #[(.ref a1)] below meth c s₁ [] 0 0 := Stand.of_body Bd
  have e0 : s₁.heap = h0 := by rw [← hh, Bd.state]; rfl
  have N0 := Fr.nil n0
  show Go p e below (Pst s (Q3 h0 n0) ({ frames := 1, cells := 0, slots := 0, locals := 12 } : Room).cells ({ frames := 1, cells := 0, slots := 0, locals := 12 } : Room).slots) (s₁.setTop (entryFrame m #[(.ref a1)] 1))
  refine Go.on (fun t k => castTop (ef_3 m a1) k) ?_
  show Go p e below _ (s₁.setTop (mkF m 0 #[.val (.ref a1)] []))
  refine Go.on (fun t k => XS.aloadN X0.here hx rfl (hb hby d3_0) rfl rfl k) ?_
  show Go p e below _ (s₁.setTop (mkF m 1 #[.val (.ref a1)] [(.ref a1)]))
  obtain ⟨T1, X1, e1, st1⟩ := initO X0 hx hZ hown (hw _ (List.mem_of_getElem? (i := 17) rfl)) (hw _ (List.mem_of_getElem? (i := 18) rfl)) (hw _ (List.mem_of_getElem? (i := 19) rfl)) e0 (g := (mkF m 1 #[.val (.ref a1)] [(.ref a1)])) rfl (by rw [hml]; rfl) rfl (hb hby d3_1) (by decide) (W := 0) (by show 2 * 0 + _ ≤ _; exact Nat.le_of_eq rfl) (by decide)
  refine Go.on st1 ?_
  show Go p e below _ (T1.setTop (mkF m 4 #[.val (.ref a1)] []))
  exact Go.ret0 X1 hx hlk hret (hb hby d3_4) (Nat.le_refl _) (Nat.le_refl _) (show Q3 h0 n0 _ _ _ from ⟨rfl, N0, e1⟩)
def Q2 (Z : State) (a1 : Addr) (p2 : Int32) (p3 : Int32) (q4 : Int64) (q5 : Int64) (h0 : Heap) (n0 : Nat) (v : Option Value) (h : Heap) (L : List Loc) : Prop := v = none ∧ Fr n0 L ∧ Keep h0 h [a1] ∧ Exa Z h a1 "com/example/rillwork/rillwork/jobs/BidSchedule" ∧ Fld Z h a1 "com/example/rillwork/rillwork/jobs/BidSchedule" "rate" "I" (.int p2) ∧ Fld Z h a1 "com/example/rillwork/rillwork/jobs/BidSchedule" "keys" "I" (.int p3) ∧ Fld Z h a1 "com/example/rillwork/rillwork/jobs/BidSchedule" "startMillis" "J" (.long q4) ∧ Fld Z h a1 "com/example/rillwork/rillwork/jobs/BidSchedule" "startNanos" "J" (.long q5)
theorem d2_0 : decode prog_175_method_1_code 0 = .ok (.aload_n 0, 1) := by decide +kernel
theorem d2_1 : decode prog_175_method_1_code 1 = .ok (.invokespecial 1, 3) := by decide +kernel
theorem d2_4 : decode prog_175_method_1_code 4 = .ok (.aload_n 0, 1) := by decide +kernel
theorem d2_5 : decode prog_175_method_1_code 5 = .ok (.iload_n 1, 1) := by decide +kernel
theorem d2_6 : decode prog_175_method_1_code 6 = .ok (.putfield 7, 3) := by decide +kernel
theorem d2_9 : decode prog_175_method_1_code 9 = .ok (.aload_n 0, 1) := by decide +kernel
theorem d2_10 : decode prog_175_method_1_code 10 = .ok (.iload_n 2, 1) := by decide +kernel
theorem d2_11 : decode prog_175_method_1_code 11 = .ok (.putfield 13, 3) := by decide +kernel
theorem d2_14 : decode prog_175_method_1_code 14 = .ok (.aload_n 0, 1) := by decide +kernel
theorem d2_15 : decode prog_175_method_1_code 15 = .ok (.lload_n 3, 1) := by decide +kernel
theorem d2_16 : decode prog_175_method_1_code 16 = .ok (.putfield 16, 3) := by decide +kernel
theorem d2_19 : decode prog_175_method_1_code 19 = .ok (.aload_n 0, 1) := by decide +kernel
theorem d2_20 : decode prog_175_method_1_code 20 = .ok (.lload 5, 2) := by decide +kernel
theorem d2_22 : decode prog_175_method_1_code 22 = .ok (.putfield 20, 3) := by decide +kernel
theorem d2_25 : decode prog_175_method_1_code 25 = .ok (.return_, 1) := by decide +kernel
theorem pn_2 : plainFor (⟨"com/example/rillwork/rillwork/jobs/BidSchedule", "<init>", "(IIJJ)V"⟩ : MethodName) = true := by first | exact plainFor_of_name (by first | (simp [plainName, overriddenIn]; done) | decide +kernel) | decide +kernel
theorem ef_2 (m : MethodId) (x0 : Addr) (x1 : Int32) (x2 : Int32) (x3 : Int64) (x4 : Int64) : entryFrame m #[(.ref x0), (.int x1), (.int x2), (.long x3), (.long x4)] 7 = mkF m 0 #[.val (.ref x0), .val (.int x1), .val (.int x2), .val (.long x3), .second, .val (.long x4), .second] [] := by first | (simp [entryFrame, mkF, argsToLocals, Value.category]; done) | rfl
set_option maxRecDepth 65536 in
set_option maxHeartbeats 40000000 in
theorem rm2 (l : Launch) (Z : State) (a0 : Array Value) (hw : ∀ d ∈ tables_1, d.before a0 Z = true) (ws : List Jvm.Cond) (a1 : Addr) (p2 : Int32) (p3 : Int32) (q4 : Int64) (q5 : Int64) (u0 u1 u2 u3 : Value) (h0 : Heap) (n0 : Nat) (Z0 : n0 ≤ h0.size) (E0 : Exa Z h0 a1 "com/example/rillwork/rillwork/jobs/BidSchedule") (F_rate : Fld Z h0 a1 "com/example/rillwork/rillwork/jobs/BidSchedule" "rate" "I" u0) (F_keys : Fld Z h0 a1 "com/example/rillwork/rillwork/jobs/BidSchedule" "keys" "I" u1) (F_startMillis : Fld Z h0 a1 "com/example/rillwork/rillwork/jobs/BidSchedule" "startMillis" "J" u2) (F_startNanos : Fld Z h0 a1 "com/example/rillwork/rillwork/jobs/BidSchedule" "startNanos" "J" u3) (g0 : n0 ≤ a1) :
    MetFree l (⟨"com/example/rillwork/rillwork/jobs/BidSchedule", "<init>", "(IIJJ)V"⟩ : MethodName) (head1 (Jvm.Cond.code (⟨"com/example/rillwork/rillwork/jobs/BidSchedule", "<init>", "(IIJJ)V"⟩ : MethodName) prog_175_method_1_code 7 none :: ws) ({ frames := 2, cells := 0, slots := 0, locals := 24 } : Room)) (fun a U => a = #[(.ref a1), (.int p2), (.int p3), (.long q4), (.long q5)] ∧ Z.Warmed39 U.vm ∧ U.heap = h0) (fun _ _ _ _ _ => True) (fun _ U o U' => ∃ v L, o = .returned v ∧ Q2 Z a1 p2 p3 q4 q5 h0 n0 v U'.heap L ∧ FrameEnd U o U' L ({ frames := 2, cells := 0, slots := 0, locals := 24 } : Room).cells ({ frames := 2, cells := 0, slots := 0, locals := 24 } : Room).slots) := by
  refine MetFree.of_bodySF pn_2 hisR ?_
  intro p e s m args below meth c s₁ Bd hml0 hP hK
  obtain ⟨rfl, hZ, hh⟩ := hP
  have hx := Bd.exec
  have hby := Bd.bytes
  have hlk := Bd.notSynchronized
  have hret := Bd.returns
  have hml : c.maxLocals = 7 := hml0
  have hown : s.vm.findClass "com/example/rillwork/rillwork/jobs/BidSchedule" = some m.cls := findClass_of_methodNamed Bd.named
  have hnm := (name_of_methodNamed Bd.named Bd.method).1
  have X0 : Stand p l e ({ frames := 2, cells := 0, slots := 0, locals := 24 } : Room) s m #[(.ref a1), (.int p2), (.int p3), (.long q4), (.long q5)] below meth c s₁ [] 0 0 := Stand.of_body Bd
  have e0 : s₁.heap = h0 := by rw [← hh, Bd.state]; rfl
  have N0 := Fr.nil n0
  show Go p e below (Pst s (Q2 Z a1 p2 p3 q4 q5 h0 n0) ({ frames := 2, cells := 0, slots := 0, locals := 24 } : Room).cells ({ frames := 2, cells := 0, slots := 0, locals := 24 } : Room).slots) (s₁.setTop (entryFrame m #[(.ref a1), (.int p2), (.int p3), (.long q4), (.long q5)] 7))
  refine Go.on (fun t k => castTop (ef_2 m a1 p2 p3 q4 q5) k) ?_
  show Go p e below _ (s₁.setTop (mkF m 0 #[.val (.ref a1), .val (.int p2), .val (.int p3), .val (.long q4), .second, .val (.long q5), .second] []))
  refine Go.on (fun t k => XS.aloadN X0.here hx rfl (hb hby d2_0) rfl rfl k) ?_
  show Go p e below _ (s₁.setTop (mkF m 1 #[.val (.ref a1), .val (.int p2), .val (.int p3), .val (.long q4), .second, .val (.long q5), .second] [(.ref a1)]))
  obtain ⟨_, _, ⟨T1, L1, k1, n1⟩, -, X1, ⟨Lc1, hQ1, l1, y1, z1⟩, st1⟩ := X0.specialBack hx (y := (⟨"java/lang/Record", "<init>", "()V"⟩ : MethodName)) rfl hown (mvT hZ (hw _ (List.mem_of_getElem? (i := 12) rfl))) (mvT hZ (hw _ (List.mem_of_getElem? (i := 13) rfl))) (mvT hZ (hw _ (List.mem_of_getElem? (i := 16) rfl))) (by decide) (backOf (W := 0) (rm3 l Z a0 hw [] a1 h0 n0 Z0) hZ (hw _ (List.mem_of_getElem? (i := 16) rfl)) (hw _ (List.mem_of_getElem? (i := 15) rfl)) (by decide) (by decide)) (g := (mkF m 1 #[.val (.ref a1), .val (.int p2), .val (.int p3), .val (.long q4), .second, .val (.long q5), .second] [(.ref a1)])) rfl (by rw [hml]; rfl) (Steps.refl _) (a := a1) (argsL := []) (rest := []) (lenOf pd_1 rfl) rfl (by show 2 * 0 + _ ≤ _; exact Nat.le_of_eq rfl) (hb hby d2_1) (fun _ _ => ⟨rfl, e0, (by decide : 0 + 0 ≤ _), (by decide : 0 + 0 ≤ _)⟩)
  dsimp only [Pt.U, Pt.locs, Pt.cells, Pt.slots] at X1 l1 y1 z1 st1 hQ1
  subst l1 y1 z1
  obtain ⟨rfl, N1q, e1⟩ := hQ1
  have N1 := Fr.app N0 N1q
  refine Go.st st1 ?_
  show Go p e below _ (T1.setTop (mkF m 4 #[.val (.ref a1), .val (.int p2), .val (.int p3), .val (.long q4), .second, .val (.long q5), .second] []))
  refine Go.on (fun t k => XS.aloadN X1.here hx rfl (hb hby d2_4) rfl rfl k) ?_
  show Go p e below _ (T1.setTop (mkF m 5 #[.val (.ref a1), .val (.int p2), .val (.int p3), .val (.long q4), .second, .val (.long q5), .second] [(.ref a1)]))
  refine Go.on (fun t k => XS.iloadN X1.here hx rfl (hb hby d2_5) rfl k) ?_
  show Go p e below _ (T1.setTop (mkF m 6 #[.val (.ref a1), .val (.int p2), .val (.int p3), .val (.long q4), .second, .val (.long q5), .second] [(.int p2), (.ref a1)]))
  obtain ⟨T2, h2, X2, e2, W2, st2⟩ := putF X1 hx hZ hown (host := "") (Or.inl (hw _ (List.mem_of_getElem? (i := 20) rfl))) Via.refl e1 F_rate E0 (Or.inr ⟨(hw _ (List.mem_of_getElem? (i := 21) rfl)), rfl, hnm⟩) (hw _ (List.mem_of_getElem? (i := 7) rfl)) (ty := .int) (by decide) rfl rfl (g := (mkF m 6 #[.val (.ref a1), .val (.int p2), .val (.int p3), .val (.long q4), .second, .val (.long q5), .second] [(.int p2), (.ref a1)])) rfl rfl (hb hby d2_6)
  have E2 := E0.wr W2
  have K2 := (Keep.refl h0 [a1]).wr W2 (Or.inl (List.mem_of_getElem? (i := 0) rfl))
  have N2 := Fr.snoc X2 N1 g0
  have F2_rate := F_rate.same W2
  have F2_keys := F_keys.other W2 (Or.inr (slot_ne (Or.inr (hw _ (List.mem_of_getElem? (i := 23) rfl))) (Or.inr (hw _ (List.mem_of_getElem? (i := 21) rfl))) (by decide) (t := .int) (t' := .int) (by decide) (by decide)))
  have F2_startMillis := F_startMillis.other W2 (Or.inr (slot_ne (Or.inr (hw _ (List.mem_of_getElem? (i := 25) rfl))) (Or.inr (hw _ (List.mem_of_getElem? (i := 21) rfl))) (by decide) (t := .long) (t' := .int) (by decide) (by decide)))
  have F2_startNanos := F_startNanos.other W2 (Or.inr (slot_ne (Or.inr (hw _ (List.mem_of_getElem? (i := 27) rfl))) (Or.inr (hw _ (List.mem_of_getElem? (i := 21) rfl))) (by decide) (t := .long) (t' := .int) (by decide) (by decide)))
  refine Go.on st2 ?_
  show Go p e below _ (T2.setTop (mkF m 9 #[.val (.ref a1), .val (.int p2), .val (.int p3), .val (.long q4), .second, .val (.long q5), .second] []))
  refine Go.on (fun t k => XS.aloadN X2.here hx rfl (hb hby d2_9) rfl rfl k) ?_
  show Go p e below _ (T2.setTop (mkF m 10 #[.val (.ref a1), .val (.int p2), .val (.int p3), .val (.long q4), .second, .val (.long q5), .second] [(.ref a1)]))
  refine Go.on (fun t k => XS.iloadN X2.here hx rfl (hb hby d2_10) rfl k) ?_
  show Go p e below _ (T2.setTop (mkF m 11 #[.val (.ref a1), .val (.int p2), .val (.int p3), .val (.long q4), .second, .val (.long q5), .second] [(.int p3), (.ref a1)]))
  obtain ⟨T3, h3, X3, e3, W3, st3⟩ := putF X2 hx hZ hown (host := "") (Or.inl (hw _ (List.mem_of_getElem? (i := 22) rfl))) Via.refl e2 F2_keys E2 (Or.inr ⟨(hw _ (List.mem_of_getElem? (i := 23) rfl)), rfl, hnm⟩) (hw _ (List.mem_of_getElem? (i := 7) rfl)) (ty := .int) (by decide) rfl rfl (g := (mkF m 11 #[.val (.ref a1), .val (.int p2), .val (.int p3), .val (.long q4), .second, .val (.long q5), .second] [(.int p3), (.ref a1)])) rfl rfl (hb hby d2_11)
  have E3 := E2.wr W3
  have K3 := K2.wr W3 (Or.inl (List.mem_of_getElem? (i := 0) rfl))
  have N3 := Fr.snoc X3 N2 g0
  have F3_rate := F2_rate.other W3 (Or.inr (slot_ne (Or.inr (hw _ (List.mem_of_getElem? (i := 21) rfl))) (Or.inr (hw _ (List.mem_of_getElem? (i := 23) rfl))) (by decide) (t := .int) (t' := .int) (by decide) (by decide)))
  have F3_keys := F2_keys.same W3
  have F3_startMillis := F2_startMillis.other W3 (Or.inr (slot_ne (Or.inr (hw _ (List.mem_of_getElem? (i := 25) rfl))) (Or.inr (hw _ (List.mem_of_getElem? (i := 23) rfl))) (by decide) (t := .long) (t' := .int) (by decide) (by decide)))
  have F3_startNanos := F2_startNanos.other W3 (Or.inr (slot_ne (Or.inr (hw _ (List.mem_of_getElem? (i := 27) rfl))) (Or.inr (hw _ (List.mem_of_getElem? (i := 23) rfl))) (by decide) (t := .long) (t' := .int) (by decide) (by decide)))
  refine Go.on st3 ?_
  show Go p e below _ (T3.setTop (mkF m 14 #[.val (.ref a1), .val (.int p2), .val (.int p3), .val (.long q4), .second, .val (.long q5), .second] []))
  refine Go.on (fun t k => XS.aloadN X3.here hx rfl (hb hby d2_14) rfl rfl k) ?_
  show Go p e below _ (T3.setTop (mkF m 15 #[.val (.ref a1), .val (.int p2), .val (.int p3), .val (.long q4), .second, .val (.long q5), .second] [(.ref a1)]))
  refine Go.on (fun t k => XS.lloadN X3.here hx rfl (hb hby d2_15) rfl k) ?_
  show Go p e below _ (T3.setTop (mkF m 16 #[.val (.ref a1), .val (.int p2), .val (.int p3), .val (.long q4), .second, .val (.long q5), .second] [(.long q4), (.ref a1)]))
  obtain ⟨T4, h4, X4, e4, W4, st4⟩ := putF X3 hx hZ hown (host := "") (Or.inl (hw _ (List.mem_of_getElem? (i := 24) rfl))) Via.refl e3 F3_startMillis E3 (Or.inr ⟨(hw _ (List.mem_of_getElem? (i := 25) rfl)), rfl, hnm⟩) (hw _ (List.mem_of_getElem? (i := 7) rfl)) (ty := .long) (by decide) rfl rfl (g := (mkF m 16 #[.val (.ref a1), .val (.int p2), .val (.int p3), .val (.long q4), .second, .val (.long q5), .second] [(.long q4), (.ref a1)])) rfl rfl (hb hby d2_16)
  have E4 := E3.wr W4
  have K4 := K3.wr W4 (Or.inl (List.mem_of_getElem? (i := 0) rfl))
  have N4 := Fr.snoc X4 N3 g0
  have F4_rate := F3_rate.other W4 (Or.inr (slot_ne (Or.inr (hw _ (List.mem_of_getElem? (i := 21) rfl))) (Or.inr (hw _ (List.mem_of_getElem? (i := 25) rfl))) (by decide) (t := .int) (t' := .long) (by decide) (by decide)))
  have F4_keys := F3_keys.other W4 (Or.inr (slot_ne (Or.inr (hw _ (List.mem_of_getElem? (i := 23) rfl))) (Or.inr (hw _ (List.mem_of_getElem? (i := 25) rfl))) (by decide) (t := .int) (t' := .long) (by decide) (by decide)))
  have F4_startMillis := F3_startMillis.same W4
  have F4_startNanos := F3_startNanos.other W4 (Or.inr (slot_ne (Or.inr (hw _ (List.mem_of_getElem? (i := 27) rfl))) (Or.inr (hw _ (List.mem_of_getElem? (i := 25) rfl))) (by decide) (t := .long) (t' := .long) (by decide) (by decide)))
  refine Go.on st4 ?_
  show Go p e below _ (T4.setTop (mkF m 19 #[.val (.ref a1), .val (.int p2), .val (.int p3), .val (.long q4), .second, .val (.long q5), .second] []))
  refine Go.on (fun t k => XS.aloadN X4.here hx rfl (hb hby d2_19) rfl rfl k) ?_
  show Go p e below _ (T4.setTop (mkF m 20 #[.val (.ref a1), .val (.int p2), .val (.int p3), .val (.long q4), .second, .val (.long q5), .second] [(.ref a1)]))
  refine Go.on (fun t k => XS.lload X4.here hx rfl (hb hby d2_20) rfl k) ?_
  show Go p e below _ (T4.setTop (mkF m 22 #[.val (.ref a1), .val (.int p2), .val (.int p3), .val (.long q4), .second, .val (.long q5), .second] [(.long q5), (.ref a1)]))
  obtain ⟨T5, h5, X5, e5, W5, st5⟩ := putF X4 hx hZ hown (host := "") (Or.inl (hw _ (List.mem_of_getElem? (i := 26) rfl))) Via.refl e4 F4_startNanos E4 (Or.inr ⟨(hw _ (List.mem_of_getElem? (i := 27) rfl)), rfl, hnm⟩) (hw _ (List.mem_of_getElem? (i := 7) rfl)) (ty := .long) (by decide) rfl rfl (g := (mkF m 22 #[.val (.ref a1), .val (.int p2), .val (.int p3), .val (.long q4), .second, .val (.long q5), .second] [(.long q5), (.ref a1)])) rfl rfl (hb hby d2_22)
  have E5 := E4.wr W5
  have K5 := K4.wr W5 (Or.inl (List.mem_of_getElem? (i := 0) rfl))
  have N5 := Fr.snoc X5 N4 g0
  have F5_rate := F4_rate.other W5 (Or.inr (slot_ne (Or.inr (hw _ (List.mem_of_getElem? (i := 21) rfl))) (Or.inr (hw _ (List.mem_of_getElem? (i := 27) rfl))) (by decide) (t := .int) (t' := .long) (by decide) (by decide)))
  have F5_keys := F4_keys.other W5 (Or.inr (slot_ne (Or.inr (hw _ (List.mem_of_getElem? (i := 23) rfl))) (Or.inr (hw _ (List.mem_of_getElem? (i := 27) rfl))) (by decide) (t := .int) (t' := .long) (by decide) (by decide)))
  have F5_startMillis := F4_startMillis.other W5 (Or.inr (slot_ne (Or.inr (hw _ (List.mem_of_getElem? (i := 25) rfl))) (Or.inr (hw _ (List.mem_of_getElem? (i := 27) rfl))) (by decide) (t := .long) (t' := .long) (by decide) (by decide)))
  have F5_startNanos := F4_startNanos.same W5
  refine Go.on st5 ?_
  show Go p e below _ (T5.setTop (mkF m 25 #[.val (.ref a1), .val (.int p2), .val (.int p3), .val (.long q4), .second, .val (.long q5), .second] []))
  exact Go.ret0 X5 hx hlk hret (hb hby d2_25) (Nat.le_refl _) (Nat.le_refl _) (show Q2 Z a1 p2 p3 q4 q5 h0 n0 _ T5.heap _ from by rw [e5]; exact ⟨rfl, N5, K5, E5, F5_rate, F5_keys, F5_startMillis, F5_startNanos⟩)
def Q5 (ms i : Int64) (r : Int32) (h0 : Heap) (n0 : Nat) (v : Option Value) (h : Heap) (L : List Loc) : Prop := v = some (.long (own_time ms i r.toInt64)) ∧ Fr n0 L ∧ h = h0
theorem d5_0 : decode prog_175_method_7_code 0 = .ok (.lload_n 1, 1) := by decide +kernel
theorem d5_1 : decode prog_175_method_7_code 1 = .ok (.aload_n 0, 1) := by decide +kernel
theorem d5_2 : decode prog_175_method_7_code 2 = .ok (.getfield 7, 3) := by decide +kernel
theorem d5_5 : decode prog_175_method_7_code 5 = .ok (.i2l, 1) := by decide +kernel
theorem d5_6 : decode prog_175_method_7_code 6 = .ok (.ldiv, 1) := by decide +kernel
theorem d5_7 : decode prog_175_method_7_code 7 = .ok (.lstore_n 3, 1) := by decide +kernel
theorem d5_8 : decode prog_175_method_7_code 8 = .ok (.lload_n 1, 1) := by decide +kernel
theorem d5_9 : decode prog_175_method_7_code 9 = .ok (.aload_n 0, 1) := by decide +kernel
theorem d5_10 : decode prog_175_method_7_code 10 = .ok (.getfield 7, 3) := by decide +kernel
theorem d5_13 : decode prog_175_method_7_code 13 = .ok (.i2l, 1) := by decide +kernel
theorem d5_14 : decode prog_175_method_7_code 14 = .ok (.lrem, 1) := by decide +kernel
theorem d5_15 : decode prog_175_method_7_code 15 = .ok (.ldc2_w 35, 3) := by decide +kernel
theorem d5_18 : decode prog_175_method_7_code 18 = .ok (.lmul, 1) := by decide +kernel
theorem d5_19 : decode prog_175_method_7_code 19 = .ok (.aload_n 0, 1) := by decide +kernel
theorem d5_20 : decode prog_175_method_7_code 20 = .ok (.getfield 7, 3) := by decide +kernel
theorem d5_23 : decode prog_175_method_7_code 23 = .ok (.i2l, 1) := by decide +kernel
theorem d5_24 : decode prog_175_method_7_code 24 = .ok (.ldiv, 1) := by decide +kernel
theorem d5_25 : decode prog_175_method_7_code 25 = .ok (.lstore 5, 2) := by decide +kernel
theorem d5_27 : decode prog_175_method_7_code 27 = .ok (.aload_n 0, 1) := by decide +kernel
theorem d5_28 : decode prog_175_method_7_code 28 = .ok (.getfield 16, 3) := by decide +kernel
theorem d5_31 : decode prog_175_method_7_code 31 = .ok (.lload_n 3, 1) := by decide +kernel
theorem d5_32 : decode prog_175_method_7_code 32 = .ok (.ldc2_w 35, 3) := by decide +kernel
theorem d5_35 : decode prog_175_method_7_code 35 = .ok (.lmul, 1) := by decide +kernel
theorem d5_36 : decode prog_175_method_7_code 36 = .ok (.ladd, 1) := by decide +kernel
theorem d5_37 : decode prog_175_method_7_code 37 = .ok (.lload 5, 2) := by decide +kernel
theorem d5_39 : decode prog_175_method_7_code 39 = .ok (.ladd, 1) := by decide +kernel
theorem d5_40 : decode prog_175_method_7_code 40 = .ok (.lreturn, 1) := by decide +kernel
theorem pn_5 : plainFor (⟨"com/example/rillwork/rillwork/jobs/BidSchedule", "time", "(J)J"⟩ : MethodName) = true := by first | exact plainFor_of_name (by first | (simp [plainName, overriddenIn]; done) | decide +kernel) | decide +kernel
theorem ef_5 (m : MethodId) (x0 : Addr) (x1 : Int64) : entryFrame m #[(.ref x0), (.long x1)] 7 = mkF m 0 #[.val (.ref x0), .val (.long x1), .second, .unset, .unset, .unset, .unset] [] := by first | (simp [entryFrame, mkF, argsToLocals, Value.category]; done) | rfl
set_option maxRecDepth 65536 in
set_option maxHeartbeats 40000000 in
theorem rm5 (l : Launch) (Z : State) (a0 : Array Value) (hw : ∀ d ∈ tables_1, d.before a0 Z = true) (ws : List Jvm.Cond) (a1 : Addr) (q : Int64) (ms : Int64) (r : Int32) (h0 : Heap) (n0 : Nat) (Z0 : n0 ≤ h0.size) (F_rate : Fld Z h0 a1 "com/example/rillwork/rillwork/jobs/BidSchedule" "rate" "I" (.int r)) (F_startMillis : Fld Z h0 a1 "com/example/rillwork/rillwork/jobs/BidSchedule" "startMillis" "J" (.long ms)) (hr : r.toInt64 ≠ 0) :
    MetFree l (⟨"com/example/rillwork/rillwork/jobs/BidSchedule", "time", "(J)J"⟩ : MethodName) (head1 (Jvm.Cond.code (⟨"com/example/rillwork/rillwork/jobs/BidSchedule", "time", "(J)J"⟩ : MethodName) prog_175_method_7_code 7 (some .long) :: ws) ({ frames := 0, cells := 0, slots := 0, locals := 0 } : Room)) (fun a U => a = #[(.ref a1), (.long q)] ∧ Z.Warmed39 U.vm ∧ U.heap = h0) (fun _ _ _ _ _ => True) (fun _ U o U' => ∃ v L, o = .returned v ∧ Q5 ms q r h0 n0 v U'.heap L ∧ FrameEnd U o U' L ({ frames := 0, cells := 0, slots := 0, locals := 0 } : Room).cells ({ frames := 0, cells := 0, slots := 0, locals := 0 } : Room).slots) := by
  refine MetFree.of_bodySF pn_5 hisR ?_
  intro p e s m args below meth c s₁ Bd hml0 hP hK
  obtain ⟨rfl, hZ, hh⟩ := hP
  have hx := Bd.exec
  have hby := Bd.bytes
  have hlk := Bd.notSynchronized
  have hret := Bd.returns
  have hml : c.maxLocals = 7 := hml0
  have hown : s.vm.findClass "com/example/rillwork/rillwork/jobs/BidSchedule" = some m.cls := findClass_of_methodNamed Bd.named
  have hnm := (name_of_methodNamed Bd.named Bd.method).1
  have X0 : Stand p l e ({ frames := 0, cells := 0, slots := 0, locals := 0 } : Room) s m #[(.ref a1), (.long q)] below meth c s₁ [] 0 0 := Stand.of_body Bd
  have e0 : s₁.heap = h0 := by rw [← hh, Bd.state]; rfl
  have N0 := Fr.nil n0
  show Go p e below (Pst s (Q5 ms q r h0 n0) ({ frames := 0, cells := 0, slots := 0, locals := 0 } : Room).cells ({ frames := 0, cells := 0, slots := 0, locals := 0 } : Room).slots) (s₁.setTop (entryFrame m #[(.ref a1), (.long q)] 7))
  refine Go.on (fun t k => castTop (ef_5 m a1 q) k) ?_
  show Go p e below _ (s₁.setTop (mkF m 0 #[.val (.ref a1), .val (.long q), .second, .unset, .unset, .unset, .unset] []))
  refine Go.on (fun t k => XS.lloadN X0.here hx rfl (hb hby d5_0) rfl k) ?_
  show Go p e below _ (s₁.setTop (mkF m 1 #[.val (.ref a1), .val (.long q), .second, .unset, .unset, .unset, .unset] [(.long q)]))
  refine Go.on (fun t k => XS.aloadN X0.here hx rfl (hb hby d5_1) rfl rfl k) ?_
  show Go p e below _ (s₁.setTop (mkF m 2 #[.val (.ref a1), .val (.long q), .second, .unset, .unset, .unset, .unset] [(.ref a1), (.long q)]))
  obtain ⟨T1, X1, e1, st1⟩ := getF X0 hx hZ hown (host := "") (Or.inl (hw _ (List.mem_of_getElem? (i := 20) rfl))) Via.refl e0 F_rate (g := (mkF m 2 #[.val (.ref a1), .val (.long q), .second, .unset, .unset, .unset, .unset] [(.ref a1), (.long q)])) rfl rfl (hb hby d5_2)
  refine Go.on st1 ?_
  show Go p e below _ (T1.setTop (mkF m 5 #[.val (.ref a1), .val (.long q), .second, .unset, .unset, .unset, .unset] [(.int r), (.long q)]))
  refine Go.on (fun t k => XS.i2l X1.here hx rfl (hb hby d5_5) rfl k) ?_
  show Go p e below _ (T1.setTop (mkF m 6 #[.val (.ref a1), .val (.long q), .second, .unset, .unset, .unset, .unset] [(.long (r.toInt64)), (.long q)]))
  refine Go.on (fun t k => XS.ldiv X1.here hx rfl (hb hby d5_6) rfl hr k) ?_
  show Go p e below _ (T1.setTop (mkF m 7 #[.val (.ref a1), .val (.long q), .second, .unset, .unset, .unset, .unset] [(.long (q / (r.toInt64)))]))
  refine Go.on (fun t k => XS.lstoreN X1.here hx rfl (hb hby d5_7) rfl (l' := #[.val (.ref a1), .val (.long q), .second, .val (.long (q / (r.toInt64))), .second, .unset, .unset]) rfl k) ?_
  show Go p e below _ (T1.setTop (mkF m 8 #[.val (.ref a1), .val (.long q), .second, .val (.long (q / (r.toInt64))), .second, .unset, .unset] []))
  refine Go.on (fun t k => XS.lloadN X1.here hx rfl (hb hby d5_8) rfl k) ?_
  show Go p e below _ (T1.setTop (mkF m 9 #[.val (.ref a1), .val (.long q), .second, .val (.long (q / (r.toInt64))), .second, .unset, .unset] [(.long q)]))
  refine Go.on (fun t k => XS.aloadN X1.here hx rfl (hb hby d5_9) rfl rfl k) ?_
  show Go p e below _ (T1.setTop (mkF m 10 #[.val (.ref a1), .val (.long q), .second, .val (.long (q / (r.toInt64))), .second, .unset, .unset] [(.ref a1), (.long q)]))
  obtain ⟨T2, X2, e2, st2⟩ := getF X1 hx hZ hown (host := "") (Or.inl (hw _ (List.mem_of_getElem? (i := 20) rfl))) Via.refl e1 F_rate (g := (mkF m 10 #[.val (.ref a1), .val (.long q), .second, .val (.long (q / (r.toInt64))), .second, .unset, .unset] [(.ref a1), (.long q)])) rfl rfl (hb hby d5_10)
  refine Go.on st2 ?_
  show Go p e below _ (T2.setTop (mkF m 13 #[.val (.ref a1), .val (.long q), .second, .val (.long (q / (r.toInt64))), .second, .unset, .unset] [(.int r), (.long q)]))
  refine Go.on (fun t k => XS.i2l X2.here hx rfl (hb hby d5_13) rfl k) ?_
  show Go p e below _ (T2.setTop (mkF m 14 #[.val (.ref a1), .val (.long q), .second, .val (.long (q / (r.toInt64))), .second, .unset, .unset] [(.long (r.toInt64)), (.long q)]))
  refine Go.on (fun t k => lremM X2 hx rfl (hb hby d5_14) rfl hr k) ?_
  show Go p e below _ (T2.setTop (mkF m 15 #[.val (.ref a1), .val (.long q), .second, .val (.long (q / (r.toInt64))), .second, .unset, .unset] [(.long (q % (r.toInt64)))]))
  refine Go.on (fun t k => X2.ldc2Long hx hown (mvT hZ (hw _ (List.mem_of_getElem? (i := 34) rfl))) (g := (mkF m 15 #[.val (.ref a1), .val (.long q), .second, .val (.long (q / (r.toInt64))), .second, .unset, .unset] [(.long (q % (r.toInt64)))])) rfl (hb hby d5_15) _ k) ?_
  show Go p e below _ (T2.setTop (mkF m 18 #[.val (.ref a1), .val (.long q), .second, .val (.long (q / (r.toInt64))), .second, .unset, .unset] [(.long (1000 : Int64)), (.long (q % (r.toInt64)))]))
  refine Go.on (fun t k => XS.lmul X2.here hx rfl (hb hby d5_18) rfl k) ?_
  show Go p e below _ (T2.setTop (mkF m 19 #[.val (.ref a1), .val (.long q), .second, .val (.long (q / (r.toInt64))), .second, .unset, .unset] [(.long ((q % (r.toInt64)) * (1000 : Int64)))]))
  refine Go.on (fun t k => XS.aloadN X2.here hx rfl (hb hby d5_19) rfl rfl k) ?_
  show Go p e below _ (T2.setTop (mkF m 20 #[.val (.ref a1), .val (.long q), .second, .val (.long (q / (r.toInt64))), .second, .unset, .unset] [(.ref a1), (.long ((q % (r.toInt64)) * (1000 : Int64)))]))
  obtain ⟨T3, X3, e3, st3⟩ := getF X2 hx hZ hown (host := "") (Or.inl (hw _ (List.mem_of_getElem? (i := 20) rfl))) Via.refl e2 F_rate (g := (mkF m 20 #[.val (.ref a1), .val (.long q), .second, .val (.long (q / (r.toInt64))), .second, .unset, .unset] [(.ref a1), (.long ((q % (r.toInt64)) * (1000 : Int64)))])) rfl rfl (hb hby d5_20)
  refine Go.on st3 ?_
  show Go p e below _ (T3.setTop (mkF m 23 #[.val (.ref a1), .val (.long q), .second, .val (.long (q / (r.toInt64))), .second, .unset, .unset] [(.int r), (.long ((q % (r.toInt64)) * (1000 : Int64)))]))
  refine Go.on (fun t k => XS.i2l X3.here hx rfl (hb hby d5_23) rfl k) ?_
  show Go p e below _ (T3.setTop (mkF m 24 #[.val (.ref a1), .val (.long q), .second, .val (.long (q / (r.toInt64))), .second, .unset, .unset] [(.long (r.toInt64)), (.long ((q % (r.toInt64)) * (1000 : Int64)))]))
  refine Go.on (fun t k => XS.ldiv X3.here hx rfl (hb hby d5_24) rfl hr k) ?_
  show Go p e below _ (T3.setTop (mkF m 25 #[.val (.ref a1), .val (.long q), .second, .val (.long (q / (r.toInt64))), .second, .unset, .unset] [(.long (((q % (r.toInt64)) * (1000 : Int64)) / (r.toInt64)))]))
  refine Go.on (fun t k => XS.lstore X3.here hx rfl (hb hby d5_25) rfl (l' := #[.val (.ref a1), .val (.long q), .second, .val (.long (q / (r.toInt64))), .second, .val (.long (((q % (r.toInt64)) * (1000 : Int64)) / (r.toInt64))), .second]) rfl k) ?_
  show Go p e below _ (T3.setTop (mkF m 27 #[.val (.ref a1), .val (.long q), .second, .val (.long (q / (r.toInt64))), .second, .val (.long (((q % (r.toInt64)) * (1000 : Int64)) / (r.toInt64))), .second] []))
  refine Go.on (fun t k => XS.aloadN X3.here hx rfl (hb hby d5_27) rfl rfl k) ?_
  show Go p e below _ (T3.setTop (mkF m 28 #[.val (.ref a1), .val (.long q), .second, .val (.long (q / (r.toInt64))), .second, .val (.long (((q % (r.toInt64)) * (1000 : Int64)) / (r.toInt64))), .second] [(.ref a1)]))
  obtain ⟨T4, X4, e4, st4⟩ := getF X3 hx hZ hown (host := "") (Or.inl (hw _ (List.mem_of_getElem? (i := 24) rfl))) Via.refl e3 F_startMillis (g := (mkF m 28 #[.val (.ref a1), .val (.long q), .second, .val (.long (q / (r.toInt64))), .second, .val (.long (((q % (r.toInt64)) * (1000 : Int64)) / (r.toInt64))), .second] [(.ref a1)])) rfl rfl (hb hby d5_28)
  refine Go.on st4 ?_
  show Go p e below _ (T4.setTop (mkF m 31 #[.val (.ref a1), .val (.long q), .second, .val (.long (q / (r.toInt64))), .second, .val (.long (((q % (r.toInt64)) * (1000 : Int64)) / (r.toInt64))), .second] [(.long ms)]))
  refine Go.on (fun t k => XS.lloadN X4.here hx rfl (hb hby d5_31) rfl k) ?_
  show Go p e below _ (T4.setTop (mkF m 32 #[.val (.ref a1), .val (.long q), .second, .val (.long (q / (r.toInt64))), .second, .val (.long (((q % (r.toInt64)) * (1000 : Int64)) / (r.toInt64))), .second] [(.long (q / (r.toInt64))), (.long ms)]))
  refine Go.on (fun t k => X4.ldc2Long hx hown (mvT hZ (hw _ (List.mem_of_getElem? (i := 34) rfl))) (g := (mkF m 32 #[.val (.ref a1), .val (.long q), .second, .val (.long (q / (r.toInt64))), .second, .val (.long (((q % (r.toInt64)) * (1000 : Int64)) / (r.toInt64))), .second] [(.long (q / (r.toInt64))), (.long ms)])) rfl (hb hby d5_32) _ k) ?_
  show Go p e below _ (T4.setTop (mkF m 35 #[.val (.ref a1), .val (.long q), .second, .val (.long (q / (r.toInt64))), .second, .val (.long (((q % (r.toInt64)) * (1000 : Int64)) / (r.toInt64))), .second] [(.long (1000 : Int64)), (.long (q / (r.toInt64))), (.long ms)]))
  refine Go.on (fun t k => XS.lmul X4.here hx rfl (hb hby d5_35) rfl k) ?_
  show Go p e below _ (T4.setTop (mkF m 36 #[.val (.ref a1), .val (.long q), .second, .val (.long (q / (r.toInt64))), .second, .val (.long (((q % (r.toInt64)) * (1000 : Int64)) / (r.toInt64))), .second] [(.long ((q / (r.toInt64)) * (1000 : Int64))), (.long ms)]))
  refine Go.on (fun t k => XS.ladd X4.here hx rfl (hb hby d5_36) rfl k) ?_
  show Go p e below _ (T4.setTop (mkF m 37 #[.val (.ref a1), .val (.long q), .second, .val (.long (q / (r.toInt64))), .second, .val (.long (((q % (r.toInt64)) * (1000 : Int64)) / (r.toInt64))), .second] [(.long (ms + ((q / (r.toInt64)) * (1000 : Int64))))]))
  refine Go.on (fun t k => XS.lload X4.here hx rfl (hb hby d5_37) rfl k) ?_
  show Go p e below _ (T4.setTop (mkF m 39 #[.val (.ref a1), .val (.long q), .second, .val (.long (q / (r.toInt64))), .second, .val (.long (((q % (r.toInt64)) * (1000 : Int64)) / (r.toInt64))), .second] [(.long (((q % (r.toInt64)) * (1000 : Int64)) / (r.toInt64))), (.long (ms + ((q / (r.toInt64)) * (1000 : Int64))))]))
  refine Go.on (fun t k => XS.ladd X4.here hx rfl (hb hby d5_39) rfl k) ?_
  show Go p e below _ (T4.setTop (mkF m 40 #[.val (.ref a1), .val (.long q), .second, .val (.long (q / (r.toInt64))), .second, .val (.long (((q % (r.toInt64)) * (1000 : Int64)) / (r.toInt64))), .second] [(.long ((ms + ((q / (r.toInt64)) * (1000 : Int64))) + (((q % (r.toInt64)) * (1000 : Int64)) / (r.toInt64))))]))
  exact Go.retJ X4 hx hlk hret (hb hby d5_40) (Nat.le_refl _) (Nat.le_refl _) (show Q5 ms q r h0 n0 _ _ _ from ⟨rfl, N0, e4⟩)
def Q0 (n0 : Nat) (v : Option Value) (h : Heap) (L : List Loc) : Prop := v = some (.int 1) ∧ Fr n0 L
theorem pn_0 : plainFor x = true := by first | exact plainFor_of_name (by first | (simp [plainName, overriddenIn]; done) | decide +kernel) | decide +kernel
theorem ef_0 (m : MethodId) (x0 : Int64) (x1 : Int32) (x2 : Int32) (x3 : Int64) (x4 : Int64) : entryFrame m #[(.long x0), (.int x1), (.int x2), (.long x3), (.long x4)] maxLocals = mkF m 0 #[.val (.long x0), .second, .val (.int x1), .val (.int x2), .val (.long x3), .second, .val (.long x4), .second, .unset, .unset, .unset, .unset, .unset, .unset] [] := by first | (simp [entryFrame, mkF, argsToLocals, Value.category, maxLocals]; done) | rfl
set_option maxRecDepth 65536 in
set_option maxHeartbeats 40000000 in
theorem rm0 (l : Launch) (Z : State) (a0 : Array Value) (hw : ∀ d ∈ tables_1, d.before a0 Z = true) (ws : List Jvm.Cond) (q1 : Int64) (p2 p3 : Int32) (q4 q5 : Int64) (h0 : Heap) (n0 : Nat) (Z0 : n0 ≤ h0.size)  :
    MetFree l x (head1 (Jvm.Cond.code x code maxLocals ret :: ws) room_1) (fun a U => a = #[(.long q1), (.int p2), (.int p3), (.long q4), (.long q5)] ∧ Z.Warmed39 U.vm ∧ U.heap = h0) (fun _ _ _ _ _ => True) (fun _ U o U' => ∃ v L, o = .returned v ∧ Q0 n0 v U'.heap L ∧ FrameEnd U o U' L 16 128) := by
  refine MetFree.of_bodySF pn_0 hisR ?_
  intro p e s m args below meth c s₁ Bd hml0 hP hK
  obtain ⟨rfl, hZ, hh⟩ := hP
  have hx := Bd.exec
  have hby := Bd.bytes
  have hlk := Bd.notSynchronized
  have hret := Bd.returns
  have hml : c.maxLocals = 14 := hml0
  have hown : s.vm.findClass "com/example/rillwork/rillwork/jobs/BidScheduleTimePinLaw" = some m.cls := findClass_of_methodNamed Bd.named
  have hnm := (name_of_methodNamed Bd.named Bd.method).1
  have X0 : Stand p l e room_1 s m #[(.long q1), (.int p2), (.int p3), (.long q4), (.long q5)] below meth c s₁ [] 0 0 := Stand.of_body Bd
  have e0 : s₁.heap = h0 := by rw [← hh, Bd.state]; rfl
  have N0 := Fr.nil n0
  show Go p e below (Pst s (Q0 n0) 16 128) (s₁.setTop (entryFrame m #[(.long q1), (.int p2), (.int p3), (.long q4), (.long q5)] maxLocals))
  refine Go.on (fun t k => castTop (ef_0 m q1 p2 p3 q4 q5) k) ?_
  show Go p e below _ (s₁.setTop (mkF m 0 #[.val (.long q1), .second, .val (.int p2), .val (.int p3), .val (.long q4), .second, .val (.long q5), .second, .unset, .unset, .unset, .unset, .unset, .unset] []))
  refine Go.on (fun t k => XS.lloadN X0.here hx rfl (hb hby at_0) rfl k) ?_
  show Go p e below _ (s₁.setTop (mkF m 1 #[.val (.long q1), .second, .val (.int p2), .val (.int p3), .val (.long q4), .second, .val (.long q5), .second, .unset, .unset, .unset, .unset, .unset, .unset] [(.long q1)]))
  refine Go.on (fun t k => X0.ldc2Long hx hown (mvT hZ (hw _ (List.mem_of_getElem? (i := 0) rfl))) (g := (mkF m 1 #[.val (.long q1), .second, .val (.int p2), .val (.int p3), .val (.long q4), .second, .val (.long q5), .second, .unset, .unset, .unset, .unset, .unset, .unset] [(.long q1)])) rfl (hb hby at_1) _ k) ?_
  show Go p e below _ (s₁.setTop (mkF m 4 #[.val (.long q1), .second, .val (.int p2), .val (.int p3), .val (.long q4), .second, .val (.long q5), .second, .unset, .unset, .unset, .unset, .unset, .unset] [(.long (9007199254740991 : Int64)), (.long q1)]))
  refine Go.on (fun t k => XS.land X0.here hx rfl (hb hby at_4) rfl k) ?_
  show Go p e below _ (s₁.setTop (mkF m 5 #[.val (.long q1), .second, .val (.int p2), .val (.int p3), .val (.long q4), .second, .val (.long q5), .second, .unset, .unset, .unset, .unset, .unset, .unset] [(.long (own_i q1))]))
  refine Go.on (fun t k => XS.lstore X0.here hx rfl (hb hby at_5) rfl (l' := #[.val (.long q1), .second, .val (.int p2), .val (.int p3), .val (.long q4), .second, .val (.long q5), .second, .val (.long (own_i q1)), .second, .unset, .unset, .unset, .unset]) rfl k) ?_
  show Go p e below _ (s₁.setTop (mkF m 7 #[.val (.long q1), .second, .val (.int p2), .val (.int p3), .val (.long q4), .second, .val (.long q5), .second, .val (.long (own_i q1)), .second, .unset, .unset, .unset, .unset] []))
  refine Go.on (fun t k => XS.iconst X0.here hx rfl (hb hby at_7) k) ?_
  show Go p e below _ (s₁.setTop (mkF m 8 #[.val (.long q1), .second, .val (.int p2), .val (.int p3), .val (.long q4), .second, .val (.long q5), .second, .val (.long (own_i q1)), .second, .unset, .unset, .unset, .unset] [(.int (1 : Int32))]))
  refine Go.on (fun t k => XS.iloadN X0.here hx rfl (hb hby at_8) rfl k) ?_
  show Go p e below _ (s₁.setTop (mkF m 9 #[.val (.long q1), .second, .val (.int p2), .val (.int p3), .val (.long q4), .second, .val (.long q5), .second, .val (.long (own_i q1)), .second, .unset, .unset, .unset, .unset] [(.int p2), (.int (1 : Int32))]))
  refine Go.on (fun t k => X0.ldcInt hx hown (mvT hZ (hw _ (List.mem_of_getElem? (i := 1) rfl))) (g := (mkF m 9 #[.val (.long q1), .second, .val (.int p2), .val (.int p3), .val (.long q4), .second, .val (.long q5), .second, .val (.long (own_i q1)), .second, .unset, .unset, .unset, .unset] [(.int p2), (.int (1 : Int32))])) rfl (hb hby at_9) _ k) ?_
  show Go p e below _ (s₁.setTop (mkF m 11 #[.val (.long q1), .second, .val (.int p2), .val (.int p3), .val (.long q4), .second, .val (.long q5), .second, .val (.long (own_i q1)), .second, .unset, .unset, .unset, .unset] [(.int (2147483647 : Int32)), (.int p2), (.int (1 : Int32))]))
  refine Go.on (fun t k => XS.iand X0.here hx rfl (hb hby at_11) rfl k) ?_
  show Go p e below _ (s₁.setTop (mkF m 12 #[.val (.long q1), .second, .val (.int p2), .val (.int p3), .val (.long q4), .second, .val (.long q5), .second, .val (.long (own_i q1)), .second, .unset, .unset, .unset, .unset] [(.int (p2 &&& (2147483647 : Int32))), (.int (1 : Int32))]))
  obtain ⟨_, _, ⟨T1, L1, k1, n1⟩, -, X1, ⟨Lc1, hQ1, l1, y1, z1⟩, st1⟩ := Jvm.LawKit.callS X0 hx (y := (⟨"java/lang/Math", "max", "(II)I"⟩ : MethodName)) hown (mvT hZ (hw _ (List.mem_of_getElem? (i := 2) rfl))) (mvT hZ (hw _ (List.mem_of_getElem? (i := 3) rfl))) (mvT hZ (hw _ (List.mem_of_getElem? (i := 4) rfl))) (mvT hZ (hw _ (List.mem_of_getElem? (i := 5) rfl))) (by decide) (backOf (W := 0) (rm1 l Z a0 hw [] (1 : Int32) (p2 &&& (2147483647 : Int32)) h0 n0 Z0) hZ (hw _ (List.mem_of_getElem? (i := 5) rfl)) (hw _ (List.mem_of_getElem? (i := 4) rfl)) (by decide) (by decide)) (g := (mkF m 12 #[.val (.long q1), .second, .val (.int p2), .val (.int p3), .val (.long q4), .second, .val (.long q5), .second, .val (.long (own_i q1)), .second, .unset, .unset, .unset, .unset] [(.int (p2 &&& (2147483647 : Int32))), (.int (1 : Int32))])) rfl (by rw [hml]; rfl) (argsL := [(.int (1 : Int32)), (.int (p2 &&& (2147483647 : Int32)))]) (rest := []) (lenOf pd_2 rfl) rfl (by show 2 * 0 + _ ≤ _; exact Nat.le_of_eq rfl) (hb hby at_12) (fun _ _ => ⟨rfl, e0, (by decide : 0 + 0 ≤ _), (by decide : 0 + 0 ≤ _)⟩)
  dsimp only [Pt.U, Pt.locs, Pt.cells, Pt.slots] at X1 l1 y1 z1 st1 hQ1
  subst l1 y1 z1
  obtain ⟨rfl, N1q, e1⟩ := hQ1
  have N1 := Fr.app N0 N1q
  refine Go.on st1 ?_
  show Go p e below _ (T1.setTop (mkF m 15 #[.val (.long q1), .second, .val (.int p2), .val (.int p3), .val (.long q4), .second, .val (.long q5), .second, .val (.long (own_i q1)), .second, .unset, .unset, .unset, .unset] [(.int (own_rate p2))]))
  refine Go.on (fun t k => XS.istore X1.here hx rfl (hb hby at_15) rfl (l' := #[.val (.long q1), .second, .val (.int p2), .val (.int p3), .val (.long q4), .second, .val (.long q5), .second, .val (.long (own_i q1)), .second, .val (.int (own_rate p2)), .unset, .unset, .unset]) rfl k) ?_
  show Go p e below _ (T1.setTop (mkF m 17 #[.val (.long q1), .second, .val (.int p2), .val (.int p3), .val (.long q4), .second, .val (.long q5), .second, .val (.long (own_i q1)), .second, .val (.int (own_rate p2)), .unset, .unset, .unset] []))
  obtain ⟨T2, h2, X2, e2, E2, A2, D2, -, st2⟩ := newO X1 hx hZ hown (hw _ (List.mem_of_getElem? (i := 6) rfl)) (hw _ (List.mem_of_getElem? (i := 7) rfl)) (hw _ (List.mem_of_getElem? (i := 8) rfl)) e1 (g := (mkF m 17 #[.val (.long q1), .second, .val (.int p2), .val (.int p3), .val (.long q4), .second, .val (.long q5), .second, .val (.long (own_i q1)), .second, .val (.int (own_rate p2)), .unset, .unset, .unset] [])) rfl (hb hby at_17) (by decide) (by decide)
  obtain ⟨a2, g2⟩ : ∃ z, z = h0.size := ⟨_, rfl⟩
  rw [← g2] at A2 D2 st2
  have Z2 : n0 ≤ h2.size := Nat.le_trans Z0 E2.1
  have G2 : n0 ≤ a2 := Nat.le_trans Z0 (Nat.le_of_eq g2.symm)
  refine Go.on st2 ?_
  show Go p e below _ (T2.setTop (mkF m 20 #[.val (.long q1), .second, .val (.int p2), .val (.int p3), .val (.long q4), .second, .val (.long q5), .second, .val (.long (own_i q1)), .second, .val (.int (own_rate p2)), .unset, .unset, .unset] [(.ref a2)]))
  refine Go.on (fun t k => XS.dup X2.here hx rfl (hb hby at_20) rfl rfl k) ?_
  show Go p e below _ (T2.setTop (mkF m 21 #[.val (.long q1), .second, .val (.int p2), .val (.int p3), .val (.long q4), .second, .val (.long q5), .second, .val (.long (own_i q1)), .second, .val (.int (own_rate p2)), .unset, .unset, .unset] [(.ref a2), (.ref a2)]))
  refine Go.on (fun t k => XS.iload X2.here hx rfl (hb hby at_21) rfl k) ?_
  show Go p e below _ (T2.setTop (mkF m 23 #[.val (.long q1), .second, .val (.int p2), .val (.int p3), .val (.long q4), .second, .val (.long q5), .second, .val (.long (own_i q1)), .second, .val (.int (own_rate p2)), .unset, .unset, .unset] [(.int (own_rate p2)), (.ref a2), (.ref a2)]))
  refine Go.on (fun t k => XS.iloadN X2.here hx rfl (hb hby at_23) rfl k) ?_
  show Go p e below _ (T2.setTop (mkF m 24 #[.val (.long q1), .second, .val (.int p2), .val (.int p3), .val (.long q4), .second, .val (.long q5), .second, .val (.long (own_i q1)), .second, .val (.int (own_rate p2)), .unset, .unset, .unset] [(.int p3), (.int (own_rate p2)), (.ref a2), (.ref a2)]))
  refine Go.on (fun t k => XS.lload X2.here hx rfl (hb hby at_24) rfl k) ?_
  show Go p e below _ (T2.setTop (mkF m 26 #[.val (.long q1), .second, .val (.int p2), .val (.int p3), .val (.long q4), .second, .val (.long q5), .second, .val (.long (own_i q1)), .second, .val (.int (own_rate p2)), .unset, .unset, .unset] [(.long q4), (.int p3), (.int (own_rate p2)), (.ref a2), (.ref a2)]))
  refine Go.on (fun t k => XS.lload X2.here hx rfl (hb hby at_26) rfl k) ?_
  show Go p e below _ (T2.setTop (mkF m 28 #[.val (.long q1), .second, .val (.int p2), .val (.int p3), .val (.long q4), .second, .val (.long q5), .second, .val (.long (own_i q1)), .second, .val (.int (own_rate p2)), .unset, .unset, .unset] [(.long q5), (.long q4), (.int p3), (.int (own_rate p2)), (.ref a2), (.ref a2)]))
  obtain ⟨_, _, ⟨T3, L3, k3, n3⟩, -, X3, ⟨Lc3, hQ3, l3, y3, z3⟩, st3⟩ := X2.specialBack hx (y := (⟨"com/example/rillwork/rillwork/jobs/BidSchedule", "<init>", "(IIJJ)V"⟩ : MethodName)) rfl hown (mvT hZ (hw _ (List.mem_of_getElem? (i := 9) rfl))) (mvT hZ (hw _ (List.mem_of_getElem? (i := 10) rfl))) (mvT hZ (hw _ (List.mem_of_getElem? (i := 11) rfl))) (by decide) (backOf (W := 1) (rm2 l Z a0 hw [] a2 (own_rate p2) p3 q4 q5 _ _ _ _  h2 n0 Z2 A2 (D2 (Or.inr (hw _ (List.mem_of_getElem? (i := 21) rfl))) (ty := .int) (by decide)) (D2 (Or.inr (hw _ (List.mem_of_getElem? (i := 23) rfl))) (ty := .int) (by decide)) (D2 (Or.inr (hw _ (List.mem_of_getElem? (i := 25) rfl))) (ty := .long) (by decide)) (D2 (Or.inr (hw _ (List.mem_of_getElem? (i := 27) rfl))) (ty := .long) (by decide)) G2) hZ (hw _ (List.mem_of_getElem? (i := 11) rfl)) (hw _ (List.mem_of_getElem? (i := 8) rfl)) (by decide) (by decide)) (g := (mkF m 28 #[.val (.long q1), .second, .val (.int p2), .val (.int p3), .val (.long q4), .second, .val (.long q5), .second, .val (.long (own_i q1)), .second, .val (.int (own_rate p2)), .unset, .unset, .unset] [(.long q5), (.long q4), (.int p3), (.int (own_rate p2)), (.ref a2), (.ref a2)])) rfl (by rw [hml]; rfl) (Steps.refl _) (a := a2) (argsL := [(.int (own_rate p2)), (.int p3), (.long q4), (.long q5)]) (rest := [(.ref a2)]) (lenOf pd_3 rfl) rfl (by show 2 * 0 + _ ≤ _; exact Nat.le_of_eq rfl) (hb hby at_28) (fun _ _ => ⟨rfl, e2, (by decide : 1 + 0 ≤ _), (by decide : 4 + 0 ≤ _)⟩)
  dsimp only [Pt.U, Pt.locs, Pt.cells, Pt.slots] at X3 l3 y3 z3 st3 hQ3
  subst l3 y3 z3
  obtain ⟨rfl, N3q, K3, B3, F3_rate, F3_keys, F3_startMillis, F3_startNanos⟩ := hQ3
  have N3 := Fr.app N1 N3q
  refine Go.st st3 ?_
  show Go p e below _ (T3.setTop (mkF m 31 #[.val (.long q1), .second, .val (.int p2), .val (.int p3), .val (.long q4), .second, .val (.long q5), .second, .val (.long (own_i q1)), .second, .val (.int (own_rate p2)), .unset, .unset, .unset] [(.ref a2)]))
  have Z3 : n0 ≤ T3.heap.size := Nat.le_trans Z2 K3.1
  refine Go.on (fun t k => XS.astore X3.here hx rfl (hb hby at_31) rfl rfl (l' := #[.val (.long q1), .second, .val (.int p2), .val (.int p3), .val (.long q4), .second, .val (.long q5), .second, .val (.long (own_i q1)), .second, .val (.int (own_rate p2)), .val (.ref a2), .unset, .unset]) rfl k) ?_
  show Go p e below _ (T3.setTop (mkF m 33 #[.val (.long q1), .second, .val (.int p2), .val (.int p3), .val (.long q4), .second, .val (.long q5), .second, .val (.long (own_i q1)), .second, .val (.int (own_rate p2)), .val (.ref a2), .unset, .unset] []))
  refine Go.on (fun t k => XS.lload X3.here hx rfl (hb hby at_33) rfl k) ?_
  show Go p e below _ (T3.setTop (mkF m 35 #[.val (.long q1), .second, .val (.int p2), .val (.int p3), .val (.long q4), .second, .val (.long q5), .second, .val (.long (own_i q1)), .second, .val (.int (own_rate p2)), .val (.ref a2), .unset, .unset] [(.long q4)]))
  refine Go.on (fun t k => XS.lload X3.here hx rfl (hb hby at_35) rfl k) ?_
  show Go p e below _ (T3.setTop (mkF m 37 #[.val (.long q1), .second, .val (.int p2), .val (.int p3), .val (.long q4), .second, .val (.long q5), .second, .val (.long (own_i q1)), .second, .val (.int (own_rate p2)), .val (.ref a2), .unset, .unset] [(.long (own_i q1)), (.long q4)]))
  refine Go.on (fun t k => X3.ldc2Long hx hown (mvT hZ (hw _ (List.mem_of_getElem? (i := 28) rfl))) (g := (mkF m 37 #[.val (.long q1), .second, .val (.int p2), .val (.int p3), .val (.long q4), .second, .val (.long q5), .second, .val (.long (own_i q1)), .second, .val (.int (own_rate p2)), .val (.ref a2), .unset, .unset] [(.long (own_i q1)), (.long q4)])) rfl (hb hby at_37) _ k) ?_
  show Go p e below _ (T3.setTop (mkF m 40 #[.val (.long q1), .second, .val (.int p2), .val (.int p3), .val (.long q4), .second, .val (.long q5), .second, .val (.long (own_i q1)), .second, .val (.int (own_rate p2)), .val (.ref a2), .unset, .unset] [(.long (1000 : Int64)), (.long (own_i q1)), (.long q4)]))
  refine Go.on (fun t k => XS.lmul X3.here hx rfl (hb hby at_40) rfl k) ?_
  show Go p e below _ (T3.setTop (mkF m 41 #[.val (.long q1), .second, .val (.int p2), .val (.int p3), .val (.long q4), .second, .val (.long q5), .second, .val (.long (own_i q1)), .second, .val (.int (own_rate p2)), .val (.ref a2), .unset, .unset] [(.long ((own_i q1) * (1000 : Int64))), (.long q4)]))
  refine Go.on (fun t k => XS.iload X3.here hx rfl (hb hby at_41) rfl k) ?_
  show Go p e below _ (T3.setTop (mkF m 43 #[.val (.long q1), .second, .val (.int p2), .val (.int p3), .val (.long q4), .second, .val (.long q5), .second, .val (.long (own_i q1)), .second, .val (.int (own_rate p2)), .val (.ref a2), .unset, .unset] [(.int (own_rate p2)), (.long ((own_i q1) * (1000 : Int64))), (.long q4)]))
  refine Go.on (fun t k => XS.i2l X3.here hx rfl (hb hby at_43) rfl k) ?_
  show Go p e below _ (T3.setTop (mkF m 44 #[.val (.long q1), .second, .val (.int p2), .val (.int p3), .val (.long q4), .second, .val (.long q5), .second, .val (.long (own_i q1)), .second, .val (.int (own_rate p2)), .val (.ref a2), .unset, .unset] [(.long ((own_rate p2).toInt64)), (.long ((own_i q1) * (1000 : Int64))), (.long q4)]))
  refine Go.on (fun t k => XS.ldiv X3.here hx rfl (hb hby at_44) rfl (own_nz p2) k) ?_
  show Go p e below _ (T3.setTop (mkF m 45 #[.val (.long q1), .second, .val (.int p2), .val (.int p3), .val (.long q4), .second, .val (.long q5), .second, .val (.long (own_i q1)), .second, .val (.int (own_rate p2)), .val (.ref a2), .unset, .unset] [(.long (((own_i q1) * (1000 : Int64)) / ((own_rate p2).toInt64))), (.long q4)]))
  refine Go.on (fun t k => XS.ladd X3.here hx rfl (hb hby at_45) rfl k) ?_
  show Go p e below _ (T3.setTop (mkF m 46 #[.val (.long q1), .second, .val (.int p2), .val (.int p3), .val (.long q4), .second, .val (.long q5), .second, .val (.long (own_i q1)), .second, .val (.int (own_rate p2)), .val (.ref a2), .unset, .unset] [(.long (q4 + (((own_i q1) * (1000 : Int64)) / ((own_rate p2).toInt64))))]))
  refine Go.on (fun t k => XS.lstore X3.here hx rfl (hb hby at_46) rfl (l' := #[.val (.long q1), .second, .val (.int p2), .val (.int p3), .val (.long q4), .second, .val (.long q5), .second, .val (.long (own_i q1)), .second, .val (.int (own_rate p2)), .val (.ref a2), .val (.long (q4 + (((own_i q1) * (1000 : Int64)) / ((own_rate p2).toInt64)))), .second]) rfl k) ?_
  show Go p e below _ (T3.setTop (mkF m 48 #[.val (.long q1), .second, .val (.int p2), .val (.int p3), .val (.long q4), .second, .val (.long q5), .second, .val (.long (own_i q1)), .second, .val (.int (own_rate p2)), .val (.ref a2), .val (.long (q4 + (((own_i q1) * (1000 : Int64)) / ((own_rate p2).toInt64)))), .second] []))
  refine Go.on (fun t k => XS.aload X3.here hx rfl (hb hby at_48) rfl rfl k) ?_
  show Go p e below _ (T3.setTop (mkF m 50 #[.val (.long q1), .second, .val (.int p2), .val (.int p3), .val (.long q4), .second, .val (.long q5), .second, .val (.long (own_i q1)), .second, .val (.int (own_rate p2)), .val (.ref a2), .val (.long (q4 + (((own_i q1) * (1000 : Int64)) / ((own_rate p2).toInt64)))), .second] [(.ref a2)]))
  refine Go.on (fun t k => XS.lload X3.here hx rfl (hb hby at_50) rfl k) ?_
  show Go p e below _ (T3.setTop (mkF m 52 #[.val (.long q1), .second, .val (.int p2), .val (.int p3), .val (.long q4), .second, .val (.long q5), .second, .val (.long (own_i q1)), .second, .val (.int (own_rate p2)), .val (.ref a2), .val (.long (q4 + (((own_i q1) * (1000 : Int64)) / ((own_rate p2).toInt64)))), .second] [(.long (own_i q1)), (.ref a2)]))
  obtain ⟨cq4, kq4, q4a, q4b, q4c⟩ := isOf hZ (rfl : T3.heap = T3.heap) B3
  obtain ⟨_, _, ⟨T4, L4, k4, n4⟩, -, X4, ⟨Lc4, hQ4, l4, y4, z4⟩, st4⟩ := X3.virtualBack hx (y := (⟨"com/example/rillwork/rillwork/jobs/BidSchedule", "time", "(J)J"⟩ : MethodName)) (z := (⟨"com/example/rillwork/rillwork/jobs/BidSchedule", "time", "(J)J"⟩ : MethodName)) hown (mvT hZ (hw _ (List.mem_of_getElem? (i := 29) rfl))) (mvT hZ (hw _ (List.mem_of_getElem? (i := 30) rfl))) (notFace_of_selects (args := #[]) (mvT hZ (hw _ (List.mem_of_getElem? (i := 32) rfl)))) (mvT hZ (hw _ (List.mem_of_getElem? (i := 32) rfl))) (mvT hZ (hw _ (List.mem_of_getElem? (i := 31) rfl))) (by decide) (backOf (W := 0) (rm5 l Z a0 hw [] a2 (own_i q1) q4 (own_rate p2) T3.heap n0 Z3 F3_rate F3_startMillis (own_nz p2)) hZ (hw _ (List.mem_of_getElem? (i := 33) rfl)) (hw _ (List.mem_of_getElem? (i := 8) rfl)) (by decide) (by decide)) q4a q4c (g := (mkF m 52 #[.val (.long q1), .second, .val (.int p2), .val (.int p3), .val (.long q4), .second, .val (.long q5), .second, .val (.long (own_i q1)), .second, .val (.int (own_rate p2)), .val (.ref a2), .val (.long (q4 + (((own_i q1) * (1000 : Int64)) / ((own_rate p2).toInt64)))), .second] [(.long (own_i q1)), (.ref a2)])) rfl (by rw [hml]; rfl) (Steps.refl _) (argsL := [(.long (own_i q1))]) (rest := []) (lenOf pd_4 rfl) rfl (by show 2 * 0 + _ ≤ _; exact Nat.le_of_eq rfl) (hb hby at_52) (fun _ _ => ⟨rfl, (rfl : T3.heap = T3.heap), (by decide : 1 + 0 ≤ _), (by decide : 4 + 0 ≤ _)⟩)
  dsimp only [Pt.U, Pt.locs, Pt.cells, Pt.slots] at X4 l4 y4 z4 st4 hQ4
  subst l4 y4 z4
  obtain ⟨rfl, N4q, e4⟩ := hQ4
  have N4 := Fr.app N3 N4q
  refine Go.st st4 ?_
  show Go p e below _ (T4.setTop (mkF m 55 #[.val (.long q1), .second, .val (.int p2), .val (.int p3), .val (.long q4), .second, .val (.long q5), .second, .val (.long (own_i q1)), .second, .val (.int (own_rate p2)), .val (.ref a2), .val (.long (q4 + (((own_i q1) * (1000 : Int64)) / ((own_rate p2).toInt64)))), .second] [(.long (own_time q4 (own_i q1) ((own_rate p2).toInt64)))]))
  refine Go.on (fun t k => XS.lload X4.here hx rfl (hb hby at_55) rfl k) ?_
  show Go p e below _ (T4.setTop (mkF m 57 #[.val (.long q1), .second, .val (.int p2), .val (.int p3), .val (.long q4), .second, .val (.long q5), .second, .val (.long (own_i q1)), .second, .val (.int (own_rate p2)), .val (.ref a2), .val (.long (q4 + (((own_i q1) * (1000 : Int64)) / ((own_rate p2).toInt64)))), .second] [(.long (q4 + (((own_i q1) * (1000 : Int64)) / ((own_rate p2).toInt64)))), (.long (own_time q4 (own_i q1) ((own_rate p2).toInt64)))]))
  refine Go.on (fun t k => XS.lcmp X4.here hx rfl (hb hby at_57) rfl k) ?_
  show Go p e below _ (T4.setTop (mkF m 58 #[.val (.long q1), .second, .val (.int p2), .val (.int p3), .val (.long q4), .second, .val (.long q5), .second, .val (.long (own_i q1)), .second, .val (.int (own_rate p2)), .val (.ref a2), .val (.long (q4 + (((own_i q1) * (1000 : Int64)) / ((own_rate p2).toInt64)))), .second] [(.int (lcmpW (own_time q4 (own_i q1) ((own_rate p2).toInt64)) (q4 + (((own_i q1) * (1000 : Int64)) / ((own_rate p2).toInt64)))))]))
  refine Go.on (fun t k => XS.ifNo X4.here hx rfl (hb hby at_58) rfl ((if0 _ _).trans (teq ((lw_eq _ _).mpr (own_end q4 q1 p2 : (own_time q4 (own_i q1) ((own_rate p2).toInt64)) = (q4 + (((own_i q1) * (1000 : Int64)) / ((own_rate p2).toInt64)))))).2) k) ?_
  show Go p e below _ (T4.setTop (mkF m 61 #[.val (.long q1), .second, .val (.int p2), .val (.int p3), .val (.long q4), .second, .val (.long q5), .second, .val (.long (own_i q1)), .second, .val (.int (own_rate p2)), .val (.ref a2), .val (.long (q4 + (((own_i q1) * (1000 : Int64)) / ((own_rate p2).toInt64)))), .second] []))
  refine Go.on (fun t k => XS.iconst X4.here hx rfl (hb hby at_61) k) ?_
  show Go p e below _ (T4.setTop (mkF m 62 #[.val (.long q1), .second, .val (.int p2), .val (.int p3), .val (.long q4), .second, .val (.long q5), .second, .val (.long (own_i q1)), .second, .val (.int (own_rate p2)), .val (.ref a2), .val (.long (q4 + (((own_i q1) * (1000 : Int64)) / ((own_rate p2).toInt64)))), .second] [(.int (1 : Int32))]))
  refine Go.on (fun t k => XS.goto X4.here hx rfl (pc0 := 62) (pc' := 66) rfl (hb hby at_62) (by decide) (by decide) k) ?_
  show Go p e below _ (T4.setTop (mkF m 66 #[.val (.long q1), .second, .val (.int p2), .val (.int p3), .val (.long q4), .second, .val (.long q5), .second, .val (.long (own_i q1)), .second, .val (.int (own_rate p2)), .val (.ref a2), .val (.long (q4 + (((own_i q1) * (1000 : Int64)) / ((own_rate p2).toInt64)))), .second] [(.int (1 : Int32))]))
  exact Go.retN X4 hx hlk hret (by simp) (hb hby at_66) (by decide) (by decide) ⟨by rfl, N4⟩
set_option maxRecDepth 65536 in
set_option maxHeartbeats 40000000 in
theorem comes_1 {Post : Tables → Env → Array Value → State → Outcome → State → Prop} (hpost : ∀ tb e args s v u, (limb_1_1.after args s (.returned v) u = true ∧ limb_1_2.after args s (.returned v) u = true ∧ True) → FrameEnd s (.returned v) u (Jvm.fieldLocs frame_1_writes args s ++ Jvm.arrayLocs frame_1_arrays args s ++ Jvm.staticLocs frame_1_statics s) 16 128 → Post tb e args s (.returned v) u) :
    ArmFor flags0 classFile x code maxLocals ret World_1 tables_1 room_1 Calls_1 rest_1 Pre_1 Post := by
  intro l hfl _ _ p e ha hc hk s m args below hf hA hF happ hP
  obtain ⟨hcalls, hrest, hpre⟩ := hP
  obtain ⟨-, -, -, hnamed, -, -, -, hat⟩ := (Spec.applies_iff hf).mp happ
  obtain ⟨hg, hn⟩ := and_e (Cond.before_iff.mp (show (Jvm.Cond.and given_1 narrow_1).before args s = true from hpre))
  obtain ⟨g0, gA0⟩ := and_e hg
  obtain ⟨w0, w1, w2, w3, w4, rfl⟩ : ∃ w0 w1 w2 w3 w4 : Value, args = #[w0, w1, w2, w3, w4] := by
    have hs : args.size = 5 := by simpa [Cond.value, given_1] using g0
    obtain ⟨L⟩ := args
    match L, hs with
    | [w0, w1, w2, w3, w4], _ => exact ⟨w0, w1, w2, w3, w4, rfl⟩
  have hw := fun d (hd : d ∈ tables_1) => atoms_spec (ws := Jvm.Cond.code x code maxLocals ret :: tables_1) hat d (List.mem_cons_of_mem _ hd)
  obtain ⟨g1, gA1⟩ := and_e gA0
  obtain ⟨i0, ei0⟩ := isL_v g1
  obtain rfl : w0 = (.long i0) := Option.some.inj ei0
  obtain ⟨g2, gA2⟩ := and_e gA1
  obtain ⟨i1, ei1⟩ := is_v g2
  obtain rfl : w1 = (.int i1) := Option.some.inj ei1
  obtain ⟨g3, gA3⟩ := and_e gA2
  obtain ⟨i2, ei2⟩ := is_v g3
  obtain rfl : w2 = (.int i2) := Option.some.inj ei2
  obtain ⟨g4, gA4⟩ := and_e gA3
  obtain ⟨i3, ei3⟩ := isL_v g4
  obtain rfl : w3 = (.long i3) := Option.some.inj ei3
  obtain ⟨i4, ei4⟩ := isL_v gA4
  obtain rfl : w4 = (.long i4) := Option.some.inj ei4
  obtain ⟨n, o, h1, h2, h3, _, L, rfl, ⟨rfl, N⟩, hq⟩ := rm0 l s _ hw tables_1 i0 i1 i2 i3 i4 s.heap s.heap.size (Nat.le_refl _)  p e ha hc hk s m _ below hf ((Spec.applies_iff_loose hf).mp happ).1 ⟨rfl, State.Warmed39.refl s, rfl⟩ trivial
  refine ⟨n, _, h1, h2, h3, hpost _ _ _ _ _ _ ⟨Cond.after_iff.mpr rfl, Cond.after_iff.mpr (eq_i res_at (Term.int_eval (1)) rfl), trivial⟩ ⟨hq.1, hq.2.1, (hq.2.2.sift fun y hy => Or.inr (N y hy)).mono (by decide) (by decide)⟩⟩
theorem main_1_1 : Claimed_1_1 := comes_1 fun _ _ _ _ _ _ h hF => ⟨h.1, hF⟩
theorem main_1_2 : Claimed_1_2 := comes_1 fun _ _ _ _ _ _ h hF => ⟨h.2.1, hF⟩
end Jvm.Pilot.@@N@@
namespace Jvm.Pilot.@@N@@
open Jvm Jvm.ClassFile Sem Op Lib Jvm.Free Jvm.Stand Jvm.Pilot.@@N@@.Jvm.D
/-! MADE BY PROGRAM (witnessworld.py) out of the Statement's table words and the real class files: 9 classes; the members and pool entries that the words name. The judged class is class 1, her method 1. -/
namespace start1
open Jvm.ClassFile
def u (s : String) : CpInfo := .utf8 (stringToUtf16 s)
/-- a pool by its gaps: so many unusable entries, then the entry; so many at the end -/
def gap : Nat → List CpInfo → List CpInfo
  | 0, r => r
  | n + 1, r => .unusable :: gap n r
def poolList (es : List (Nat × CpInfo)) (last : Nat) : List CpInfo := es.foldr (fun e r => gap e.1 (e.2 :: r)) (gap last [])
def pool (es : List (Nat × CpInfo)) (last : Nat) : Array CpInfo := ⟨poolList es last⟩
def fileOf (pool : Array CpInfo) (this : Nat) (attrs : Array Attribute := #[]) (ms : Array MethodInfo := #[]) (fl : Nat := 33) (sup : Nat := 0) (ifs : Array Nat := #[]) (fds : Array FieldInfo := #[]) : ClassFile where
  minorVersion := 0
  majorVersion := 65
  constantPool := pool
  accessFlags := fl
  thisClass := this
  superClass := sup
  interfaces := ifs
  fields := fds
  methods := ms
  attributes := attrs
def plain (name : String) (sup : Option ClassId) : Class where
  name := name
  kind := .ordinary
  loader := none
  accessFlags := 33
  super := sup
  interfaces := #[]
  cf := none
  fields := #[]
  methods := #[]
  instanceTypes := #[]
  staticTypes := #[]
  resolved := #[]
  callSites := []
  init := .initialized
  statics := none
  mirror := none

def pool0 : Array CpInfo := pool [(5, u "<init>"), (0, u "()V"), (1, .class_ 10), (1, u "java/lang/Object")] 113

def k0c0 : Code := { maxStack := 0, maxLocals := 1, code := object_method_1_code, exceptionTable := #[], attributes := #[] }
def k0m0 : Method := { name := "<init>", desc := "()V", sig := { parameters := [], returnType := none }, accessFlags := 1, code := some k0c0 }
/-- java/lang/Object -/
def k0 : Class := { plain "java/lang/Object" none with
  accessFlags := 33
  interfaces := #[]
  cf := some (fileOf pool0 8 #[] #[{ accessFlags := 1, nameIndex := 5, descriptorIndex := 6, attributes := #[] }] 33 0 #[] #[])
  fields := #[]
  methods := #[k0m0]
  instanceTypes := #[]
  staticTypes := #[]
  resolved := Array.replicate 124 none
  statics := none }

def pool1 : Array CpInfo := pool [(2, .class_ 4), (1, u "java/lang/Object"), (0, u "<init>"), (0, u "()V"), (0, .long 9007199254740991), (1, .integer 2147483647), (0, .methodref 11 12), (0, .class_ 13), (0, .nameAndType 14 15), (0, u "java/lang/Math"), (0, u "max"), (0, u "(II)I"), (0, .class_ 17), (0, u "com/example/rillwork/rillwork/jobs/BidSchedule"), (0, .methodref 16 19), (0, .nameAndType 5 20), (0, u "(IIJJ)V"), (0, .long 1000), (1, .methodref 16 24), (0, .nameAndType 25 26), (0, u "time"), (0, u "(J)J"), (0, .class_ 28), (0, u "com/example/rillwork/rillwork/jobs/BidScheduleTimePinLaw"), (2, u "law"), (0, u "(JIIJJ)Z")] 3

def k1m0 : Method := { name := "<init>", desc := "()V", sig := { parameters := [], returnType := none }, accessFlags := 1, code := none }
def k1c1 : Code := { maxStack := 8, maxLocals := 14, code := code, exceptionTable := #[], attributes := #[] }
def k1m1 : Method := { name := "law", desc := "(JIIJJ)Z", sig := { parameters := [.long, .int, .int, .long, .long], returnType := some .boolean }, accessFlags := 9, code := some k1c1 }
/-- com/example/rillwork/rillwork/jobs/BidScheduleTimePinLaw -/
def k1 : Class := { plain "com/example/rillwork/rillwork/jobs/BidScheduleTimePinLaw" (some 0) with
  accessFlags := 49
  interfaces := #[]
  cf := some (fileOf pool1 27 #[] #[{ accessFlags := 1, nameIndex := 5, descriptorIndex := 6, attributes := #[] }, { accessFlags := 9, nameIndex := 31, descriptorIndex := 32, attributes := #[] }] 49 2 #[] #[])
  fields := #[]
  methods := #[k1m0, k1m1]
  instanceTypes := #[]
  staticTypes := #[]
  resolved := Array.replicate 36 none
  statics := none }

def pool2 : Array CpInfo := pool [(1, .class_ 2), (0, u "java/lang/Math"), (1, .class_ 6), (1, u "java/lang/Object"), (0, u "<init>"), (0, u "()V"), (89, .class_ 100), (1, u "java/lang/Math$RandomNumberGeneratorHolder"), (71, u "negativeZeroFloatBits"), (0, u "J"), (2, u "negativeZeroDoubleBits"), (21, u "max"), (46, u "$assertionsDisabled"), (0, u "Z"), (88, u "(II)I"), (2, u "twoToTheDoubleScaleDown"), (0, u "D"), (4, u "twoToTheDoubleScaleUp"), (9, u "E"), (3, u "PI"), (2, u "TAU"), (2, u "DEGREES_TO_RADIANS"), (0, u "RADIANS_TO_DEGREES")] 94

def k2m0 : Method := { name := "<init>", desc := "()V", sig := { parameters := [], returnType := none }, accessFlags := 2, code := none }
def k2c1 : Code := { maxStack := 2, maxLocals := 2, code := jdk_29_method_65_code, exceptionTable := #[], attributes := #[] }
def k2m1 : Method := { name := "max", desc := "(II)I", sig := { parameters := [.int, .int], returnType := some .int }, accessFlags := 9, code := some k2c1 }
/-- java/lang/Math -/
def k2 : Class := { plain "java/lang/Math" (some 0) with
  accessFlags := 49
  interfaces := #[]
  cf := some (fileOf pool2 1 #[.nestMembers #[98]] #[{ accessFlags := 2, nameIndex := 7, descriptorIndex := 8, attributes := #[] }, { accessFlags := 9, nameIndex := 198, descriptorIndex := 335, attributes := #[] }] 49 4 #[] #[{ accessFlags := 25, nameIndex := 354, descriptorIndex := 339, attributes := #[] }, { accessFlags := 25, nameIndex := 358, descriptorIndex := 339, attributes := #[] }, { accessFlags := 25, nameIndex := 361, descriptorIndex := 339, attributes := #[] }, { accessFlags := 26, nameIndex := 364, descriptorIndex := 339, attributes := #[] }, { accessFlags := 26, nameIndex := 365, descriptorIndex := 339, attributes := #[] }, { accessFlags := 26, nameIndex := 172, descriptorIndex := 173, attributes := #[] }, { accessFlags := 26, nameIndex := 176, descriptorIndex := 173, attributes := #[] }, { accessFlags := 8, nameIndex := 344, descriptorIndex := 339, attributes := #[] }, { accessFlags := 8, nameIndex := 338, descriptorIndex := 339, attributes := #[] }, { accessFlags := 4120, nameIndex := 245, descriptorIndex := 246, attributes := #[] }])
  fields := #[{ name := "E", type := .double, accessFlags := 25, slot := 0, constantValue := 0 }, { name := "PI", type := .double, accessFlags := 25, slot := 1, constantValue := 0 }, { name := "TAU", type := .double, accessFlags := 25, slot := 2, constantValue := 0 }, { name := "DEGREES_TO_RADIANS", type := .double, accessFlags := 26, slot := 3, constantValue := 0 }, { name := "RADIANS_TO_DEGREES", type := .double, accessFlags := 26, slot := 4, constantValue := 0 }, { name := "negativeZeroFloatBits", type := .long, accessFlags := 26, slot := 5, constantValue := 0 }, { name := "negativeZeroDoubleBits", type := .long, accessFlags := 26, slot := 6, constantValue := 0 }, { name := "twoToTheDoubleScaleUp", type := .double, accessFlags := 8, slot := 7, constantValue := 0 }, { name := "twoToTheDoubleScaleDown", type := .double, accessFlags := 8, slot := 8, constantValue := 0 }, { name := "$assertionsDisabled", type := .boolean, accessFlags := 4120, slot := 9, constantValue := 0 }]
  methods := #[k2m0, k2m1]
  instanceTypes := #[]
  staticTypes := #[.double, .double, .double, .double, .double, .long, .long, .double, .double, .boolean]
  resolved := Array.replicate 460 none
  statics := none }

def pool3 : Array CpInfo := pool [(1, .methodref 2 3), (0, .class_ 4), (0, .nameAndType 5 6), (0, u "java/lang/Object"), (0, u "<init>"), (0, u "()V"), (0, .class_ 8), (0, u "java/lang/Record")] 13

def k3c0 : Code := { maxStack := 1, maxLocals := 1, code := jdk_30_method_1_code, exceptionTable := #[], attributes := #[] }
def k3m0 : Method := { name := "<init>", desc := "()V", sig := { parameters := [], returnType := none }, accessFlags := 4, code := some k3c0 }
/-- java/lang/Record -/
def k3 : Class := { plain "java/lang/Record" (some 0) with
  accessFlags := 1057
  interfaces := #[]
  cf := some (fileOf pool3 7 #[] #[{ accessFlags := 4, nameIndex := 5, descriptorIndex := 6, attributes := #[] }] 1057 2 #[] #[])
  fields := #[]
  methods := #[k3m0]
  instanceTypes := #[]
  staticTypes := #[]
  resolved := Array.replicate 22 none
  statics := none }

def pool4 : Array CpInfo := pool [(1, .methodref 2 3), (0, .class_ 4), (0, .nameAndType 5 6), (0, u "java/lang/Record"), (0, u "<init>"), (0, u "()V"), (0, .fieldref 8 9), (0, .class_ 10), (0, .nameAndType 11 12), (0, u "com/example/rillwork/rillwork/jobs/BidSchedule"), (0, u "rate"), (0, u "I"), (0, .fieldref 8 14), (0, .nameAndType 15 12), (0, u "keys"), (0, .fieldref 8 17), (0, .nameAndType 18 19), (0, u "startMillis"), (0, u "J"), (0, .fieldref 8 21), (0, .nameAndType 22 19), (0, u "startNanos"), (11, u "(IIJJ)V"), (0, .long 1000), (4, u "(J)J"), (10, u "time"), (26, u "NANOS_PER_SECOND"), (1, u "MILLIS_PER_SECOND"), (0, u "GOLDEN_GAMMA")] 37

def k4c0 : Code := { maxStack := 3, maxLocals := 7, code := prog_175_method_1_code, exceptionTable := #[], attributes := #[] }
def k4m0 : Method := { name := "<init>", desc := "(IIJJ)V", sig := { parameters := [.int, .int, .long, .long], returnType := none }, accessFlags := 0, code := some k4c0 }
def k4c1 : Code := { maxStack := 6, maxLocals := 7, code := prog_175_method_7_code, exceptionTable := #[], attributes := #[] }
def k4m1 : Method := { name := "time", desc := "(J)J", sig := { parameters := [.long], returnType := some .long }, accessFlags := 0, code := some k4c1 }
/-- com/example/rillwork/rillwork/jobs/BidSchedule -/
def k4 : Class := { plain "com/example/rillwork/rillwork/jobs/BidSchedule" (some 3) with
  accessFlags := 48
  interfaces := #[]
  cf := some (fileOf pool4 8 #[] #[{ accessFlags := 0, nameIndex := 5, descriptorIndex := 34, attributes := #[] }, { accessFlags := 0, nameIndex := 51, descriptorIndex := 40, attributes := #[] }] 48 2 #[] #[{ accessFlags := 18, nameIndex := 11, descriptorIndex := 12, attributes := #[] }, { accessFlags := 18, nameIndex := 15, descriptorIndex := 12, attributes := #[] }, { accessFlags := 18, nameIndex := 18, descriptorIndex := 19, attributes := #[] }, { accessFlags := 18, nameIndex := 22, descriptorIndex := 19, attributes := #[] }, { accessFlags := 26, nameIndex := 78, descriptorIndex := 19, attributes := #[] }, { accessFlags := 26, nameIndex := 80, descriptorIndex := 19, attributes := #[] }, { accessFlags := 26, nameIndex := 81, descriptorIndex := 19, attributes := #[] }])
  fields := #[{ name := "rate", type := .int, accessFlags := 18, slot := 0, constantValue := 0 }, { name := "keys", type := .int, accessFlags := 18, slot := 1, constantValue := 0 }, { name := "startMillis", type := .long, accessFlags := 18, slot := 2, constantValue := 0 }, { name := "startNanos", type := .long, accessFlags := 18, slot := 3, constantValue := 0 }, { name := "NANOS_PER_SECOND", type := .long, accessFlags := 26, slot := 0, constantValue := 0 }, { name := "MILLIS_PER_SECOND", type := .long, accessFlags := 26, slot := 1, constantValue := 0 }, { name := "GOLDEN_GAMMA", type := .long, accessFlags := 26, slot := 2, constantValue := 0 }]
  methods := #[k4m0, k4m1]
  instanceTypes := #[.int, .int, .long, .long]
  staticTypes := #[.long, .long, .long]
  resolved := Array.replicate 119 none
  statics := none }

def pool5 : Array CpInfo := pool [(1, u "java/lang/Cloneable"), (0, .class_ 1), (0, u "java/lang/Object"), (0, .class_ 3)] 3

/-- java/lang/Cloneable -/
def k5 : Class := { plain "java/lang/Cloneable" (some 0) with
  accessFlags := 1537
  interfaces := #[]
  cf := some (fileOf pool5 2 #[] #[] 1537 4 #[] #[])
  fields := #[]
  methods := #[]
  instanceTypes := #[]
  staticTypes := #[]
  resolved := Array.replicate 8 none
  statics := none }

def pool6 : Array CpInfo := pool [(1, u "java/io/Serializable"), (0, .class_ 1), (0, u "java/lang/Object"), (0, .class_ 3)] 3

/-- java/io/Serializable -/
def k6 : Class := { plain "java/io/Serializable" (some 0) with
  accessFlags := 1537
  interfaces := #[]
  cf := some (fileOf pool6 2 #[] #[] 1537 4 #[] #[])
  fields := #[]
  methods := #[]
  instanceTypes := #[]
  staticTypes := #[]
  resolved := Array.replicate 8 none
  statics := none }

/-- the primitive byte -/
def k7 : Class := { plain "byte" none with kind := .primitive 'B', accessFlags := 0x411 }
/-- [B -/
def k8 : Class := { plain "[B" (some 0) with kind := .array 7 .byte, interfaces := #[5, 6], accessFlags := 1041 }

def heap : Heap := #[]
def classes : Array Class := #[k0, k1, k2, k3, k4, k5, k6, k7, k8]
def interned : List (Array UInt16 × Addr) := []
def slotsUsed : Nat := 0
def theMethod : MethodId := ⟨1, 1⟩
def args0 : Array Value := #[.long 5, .int 7, .int 1, .long 3, .long 4]
def aboutOver (below : List Frame) : State where
  vm := { classes := classes, interned := interned.toArray }
  heap := heap
  slotsUsed := slotsUsed
  threads := #[{ frames := .invoking theMethod args0 :: below }]
def below0 : List Frame := [.native { method := ⟨0, 0⟩, args := #[] }]
def about1 : State := aboutOver below0
def p0 : Program := .bare "" "" ""
def e0 : Env := launch0.env 0 0 0
theorem w_frames : about1.frames = Frame.invoking theMethod args0 :: below0 := rfl
set_option maxRecDepth 65536 in
theorem w_args : argsFit about1.vm theMethod args0 = true := by decide +kernel
set_option maxRecDepth 65536 in
theorem w_heap : heapFits about1 = true := by decide +kernel
set_option maxRecDepth 65536 in
theorem w_runnable : about1.curStatus? = some .runnable := by decide +kernel
set_option maxRecDepth 65536 in
theorem w_alone : about1.alone = true := by decide +kernel
set_option maxRecDepth 65536 in
theorem w_named : about1.methodNamed? x = some theMethod := by decide +kernel
set_option maxRecDepth 65536 in
theorem w_hears : about1.hears theMethod below0 = true := by decide +kernel
set_option maxRecDepth 65536 in
theorem w_ripe : about1.ripe theMethod args0 below0 = true := by decide +kernel
theorem w_running : about1.status = .running := rfl
set_option maxRecDepth 65536 in
theorem w_room : about1.hasRoom e0.platform room_1 = true :=
  launch0.hasRoom_least _ room_1 (by decide +kernel) (by decide +kernel) (by decide +kernel) (by decide +kernel) (by decide +kernel) (by decide +kernel)
theorem allAtoms_all (ts : List Jvm.Cond) (a : Array Jvm.Value) (st : Jvm.State) : (allAtoms ts).before a st = ts.all (fun c => c.before a st) := by
  induction ts with
  | nil => rfl
  | cons c t ih =>
    show (Jvm.Cond.and c (allAtoms t)).before a st = _
    rw [Jvm.Cond.before_and, ih, List.all_cons]
def words1 : List Jvm.Cond := Jvm.Cond.code x code maxLocals ret :: tables_1
/-- a 'code' word, met by the world's own term for the bytes: nothing is compared byte by byte -/
theorem code_word {y : MethodName} {bytes : ByteArray} {mx : Nat} {rt : Option FieldType} {a : Array Value} {s : State} {m : MethodId} {meth : Method} {c : Code} (h1 : s.methodNamed? y = some m) (h2 : s.vm.method? m = some meth) (h3 : meth.code = some c) (h4 : c.code = bytes)
    (h5 : (c.maxLocals == mx && c.exceptionTable.isEmpty && decide (c.maxStack ≤ mostOperands) && decide (meth.sig.returnType = rt) && !meth.locks && decide (parseMethodDescriptor y.desc = some meth.sig)) = true) : (Jvm.Cond.code y bytes mx rt).before a s = true := by
  simp only [Bool.and_eq_true, beq_iff_eq, Bool.not_eq_true', decide_eq_true_eq] at h5
  obtain ⟨⟨⟨⟨⟨g1, g2⟩, g3⟩, g4⟩, g5⟩, g6⟩ := h5
  simp [Cond.before, Cond.holds, Cond.value, h1, h2, h3, h4, g1, g2, g3, g4, g5, g6]
def isCode : Jvm.Cond → Bool
  | .code _ _ _ _ => true
  | _ => false
theorem all_split {L : List Jvm.Cond} {P : Jvm.Cond → Bool} (h1 : L.all (fun c => isCode c || P c) = true) (h2 : ∀ c ∈ L.filter isCode, P c = true) : L.all P = true := by
  refine List.all_eq_true.mpr fun c hc => ?_
  have h := List.all_eq_true.mp h1 c hc
  rcases Bool.eq_false_or_eq_true (isCode c) with hi | hi
  · exact h2 c (List.mem_filter.mpr ⟨hc, hi⟩)
  · simpa [hi] using h
set_option maxRecDepth 65536 in
theorem w_c0 : (Jvm.Cond.code x code maxLocals ret).before args0 about1 = true := code_word (m := ⟨1, 1⟩) (meth := k1m1) (c := k1c1) (by decide +kernel) rfl rfl rfl (by decide +kernel)
set_option maxRecDepth 65536 in
theorem w_c1 : (Jvm.Cond.code ({ cls := "java/lang/Math", name := "max", desc := "(II)I" } : Jvm.MethodName) jdk_29_method_65_code (2 : Nat) (Option.some Jvm.ClassFile.FieldType.int)).before args0 about1 = true := code_word (m := ⟨2, 1⟩) (meth := k2m1) (c := k2c1) (by decide +kernel) rfl rfl rfl (by decide +kernel)
set_option maxRecDepth 65536 in
theorem w_c2 : (Jvm.Cond.code ({ cls := "com/example/rillwork/rillwork/jobs/BidSchedule", name := "<init>", desc := "(IIJJ)V" } : Jvm.MethodName) prog_175_method_1_code (7 : Nat) (Option.none : Option Jvm.ClassFile.FieldType)).before args0 about1 = true := code_word (m := ⟨4, 0⟩) (meth := k4m0) (c := k4c0) (by decide +kernel) rfl rfl rfl (by decide +kernel)
set_option maxRecDepth 65536 in
theorem w_c3 : (Jvm.Cond.code ({ cls := "java/lang/Record", name := "<init>", desc := "()V" } : Jvm.MethodName) jdk_30_method_1_code (1 : Nat) (Option.none : Option Jvm.ClassFile.FieldType)).before args0 about1 = true := code_word (m := ⟨3, 0⟩) (meth := k3m0) (c := k3c0) (by decide +kernel) rfl rfl rfl (by decide +kernel)
set_option maxRecDepth 65536 in
theorem w_c4 : (Jvm.Cond.code ({ cls := "java/lang/Object", name := "<init>", desc := "()V" } : Jvm.MethodName) object_method_1_code (1 : Nat) (Option.none : Option Jvm.ClassFile.FieldType)).before args0 about1 = true := code_word (m := ⟨0, 0⟩) (meth := k0m0) (c := k0c0) (by decide +kernel) rfl rfl rfl (by decide +kernel)
set_option maxRecDepth 65536 in
theorem w_c5 : (Jvm.Cond.code ({ cls := "com/example/rillwork/rillwork/jobs/BidSchedule", name := "time", desc := "(J)J" } : Jvm.MethodName) prog_175_method_7_code (7 : Nat) (Option.some Jvm.ClassFile.FieldType.long)).before args0 about1 = true := code_word (m := ⟨4, 1⟩) (meth := k4m1) (c := k4c1) (by decide +kernel) rfl rfl rfl (by decide +kernel)
def codes1 : List Jvm.Cond := [Jvm.Cond.code x code maxLocals ret, Jvm.Cond.code ({ cls := "java/lang/Math", name := "max", desc := "(II)I" } : Jvm.MethodName) jdk_29_method_65_code (2 : Nat) (Option.some Jvm.ClassFile.FieldType.int), Jvm.Cond.code ({ cls := "com/example/rillwork/rillwork/jobs/BidSchedule", name := "<init>", desc := "(IIJJ)V" } : Jvm.MethodName) prog_175_method_1_code (7 : Nat) (Option.none : Option Jvm.ClassFile.FieldType), Jvm.Cond.code ({ cls := "java/lang/Record", name := "<init>", desc := "()V" } : Jvm.MethodName) jdk_30_method_1_code (1 : Nat) (Option.none : Option Jvm.ClassFile.FieldType), Jvm.Cond.code ({ cls := "java/lang/Object", name := "<init>", desc := "()V" } : Jvm.MethodName) object_method_1_code (1 : Nat) (Option.none : Option Jvm.ClassFile.FieldType), Jvm.Cond.code ({ cls := "com/example/rillwork/rillwork/jobs/BidSchedule", name := "time", desc := "(J)J" } : Jvm.MethodName) prog_175_method_7_code (7 : Nat) (Option.some Jvm.ClassFile.FieldType.long)]
set_option maxRecDepth 65536 in
theorem codes_eq : words1.filter isCode = codes1 := rfl
theorem w_codes : ∀ c ∈ words1.filter isCode, c.before args0 about1 = true := by
  rw [codes_eq]
  intro c hc
  simp only [codes1, List.mem_cons, List.not_mem_nil, or_false] at hc
  rcases hc with rfl | rfl | rfl | rfl | rfl | rfl
  · exact w_c0
  · exact w_c1
  · exact w_c2
  · exact w_c3
  · exact w_c4
  · exact w_c5
set_option maxRecDepth 65536 in
theorem w_t1 : (words1.take 24).all (fun c => isCode c || c.before args0 about1) = true := by decide +kernel
set_option maxRecDepth 65536 in
theorem w_t2 : (words1.drop 24).all (fun c => isCode c || c.before args0 about1) = true := by decide +kernel
theorem w_tables : (allAtoms (Jvm.Cond.code x code maxLocals ret :: tables_1)).before args0 about1 = true := by
  rw [allAtoms_all]
  show words1.all (fun c => c.before args0 about1) = true
  refine all_split ?_ w_codes
  rw [← List.take_append_drop 24 words1, List.all_append, w_t1, w_t2]
  rfl
set_option maxRecDepth 65536 in
theorem w_case : (Jvm.Cond.and given_1 narrow_1).before args0 about1 = true := by decide +kernel
theorem w_applies : (headSpec (Jvm.Cond.code x code maxLocals ret :: tables_1) room_1).applies x e0.platform about1 = true :=
  (Spec.applies_iff w_frames).mpr ⟨w_running, w_runnable, w_alone, w_named, w_hears, w_ripe, w_room, w_tables⟩
theorem atStart : AtStart classFile x code maxLocals ret World_1 tables_1 room_1 Calls_1 rest_1 Pre_1 launch0 p0 e0 about1 theMethod args0 below0 :=
  ⟨lists_1, trivial, launch0.admits_env _ _ _, launch0.least_env, fairChoices_fair.cas, fairChoices_fair.clock, w_frames, w_args, w_heap, w_applies, trivial, trivial, w_case⟩
end start1
theorem witness_1 : WitnessClaimed_1 := ⟨start1.p0, start1.e0, start1.about1, start1.theMethod, start1.args0, start1.below0, start1.atStart⟩
end Jvm.Pilot.@@N@@
