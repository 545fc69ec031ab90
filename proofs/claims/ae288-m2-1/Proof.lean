import JvmDerived
import JvmDerived.Pilot.@@N@@Statement
import JvmDerived.Pilot.@@N@@Code
set_option linter.unusedVariables false
set_option linter.unusedSimpArgs false
namespace Jvm.Pilot.@@N@@
open Jvm Jvm.ClassFile Sem Op Lib Jvm.Free Jvm.Stand Jvm.LawKit Jvm.RoadKit Bundle Jvm.Pilot.@@N@@.Jvm.D
section GoKit
variable {p : Program} {l : Launch} {e : Env} {R : Room} {s : State} {m : MethodId} {args : Array Value} {below : List Frame} {meth : Method} {c : Code} {T : State} {locs : List Loc} {cells slots : Nat}
/-- from the state S the run comes to an end that P says -/
def Go (p : Program) (e : Env) (below : List Frame) (P : Outcome → State → Prop) (S : State) : Prop := ∃ s₂ o, Steps p.tables e below S s₂ ∧ s₂.status = .running ∧ Ended s₂ below o ∧ P o s₂
def Pst (s : State) (Q : Option Value → Heap → List Loc → Prop) (k n : Nat) : Outcome → State → Prop := fun o U => ∃ v L, o = .returned v ∧ Q v U.heap L ∧ FrameEnd s o U L k n
theorem Go.on {P : Outcome → State → Prop} {S S' : State} (h : ∀ t, Steps p.tables e below S' t → Steps p.tables e below S t) (k : Go p e below P S') : Go p e below P S := by
  obtain ⟨s2, o, h1, h2⟩ := k
  exact ⟨s2, o, h _ h1, h2⟩
theorem Go.st {P : Outcome → State → Prop} {S S' : State} (h : Steps p.tables e below S S') (k : Go p e below P S') : Go p e below P S := Go.on (fun _ q => h.trans q) k
theorem Go.retV (X : Stand p l e R s m args below meth c T locs cells slots) (hx : p.tables.exec = Jvm.exec) (hlk : meth.locks = false) {pc : Nat} {Ls : Array Slot} {w : Value} {t : FieldType} {i : Instr} {rest : List Value} (hret : meth.sig.returnType = some t) (hn : narrow t w = w)
    (hi : (i = .ireturn ∧ (t = .int ∨ t = .boolean ∨ t = .byte ∨ t = .char ∨ t = .short) ∧ ∃ z, w = .int z) ∨ (i = .lreturn ∧ t = .long ∧ ∃ z, w = .long z) ∨ (i = .dreturn ∧ t = .double ∧ ∃ z, w = .double z) ∨ (i = .freturn ∧ t = .float ∧ ∃ z, w = .float z) ∨ (i = .areturn ∧ t.isReference = true ∧ w.isRef = true))
    (hd : decode c.code pc = .ok (i, 1)) {Q : Option Value → Heap → List Loc → Prop} {k n : Nat} (hk : cells ≤ k) (hs : slots ≤ n) (hQ : Q (some w) T.heap locs) : Go p e below (Pst s Q k n) (T.setTop (mkF m pc Ls (w :: rest))) := by
  obtain ⟨fs, hr, hrun, hended, hW, hsame⟩ := X.leave (v := some w) (fun h => by rw [hret] at h; cases h) hlk
  exact ⟨_, _, retOut X hx hret hn hi hd hr, hrun, hended, _, _, rfl, hQ, ⟨_, rfl⟩, hW, hsame.mono hk hs⟩
theorem Go.retI (X : Stand p l e R s m args below meth c T locs cells slots) (hx : p.tables.exec = Jvm.exec) (hlk : meth.locks = false) {pc : Nat} {Ls : Array Slot} {z : Int32} {rest : List Value} (hret : meth.sig.returnType = some .int)
    (hd : decode c.code pc = .ok (.ireturn, 1)) {Q : Option Value → Heap → List Loc → Prop} {k n : Nat} (hk : cells ≤ k) (hs : slots ≤ n) (hQ : Q (some (.int z)) T.heap locs) : Go p e below (Pst s Q k n) (T.setTop (mkF m pc Ls (.int z :: rest))) :=
  Go.retV X hx hlk hret rfl (Or.inl ⟨rfl, Or.inl rfl, _, rfl⟩) hd hk hs hQ
theorem Go.retJ (X : Stand p l e R s m args below meth c T locs cells slots) (hx : p.tables.exec = Jvm.exec) (hlk : meth.locks = false) {pc : Nat} {Ls : Array Slot} {z : Int64} {rest : List Value} (hret : meth.sig.returnType = some .long)
    (hd : decode c.code pc = .ok (.lreturn, 1)) {Q : Option Value → Heap → List Loc → Prop} {k n : Nat} (hk : cells ≤ k) (hs : slots ≤ n) (hQ : Q (some (.long z)) T.heap locs) : Go p e below (Pst s Q k n) (T.setTop (mkF m pc Ls (.long z :: rest))) :=
  Go.retV X hx hlk hret rfl (Or.inr (Or.inl ⟨rfl, rfl, _, rfl⟩)) hd hk hs hQ
theorem Go.retA (X : Stand p l e R s m args below meth c T locs cells slots) (hx : p.tables.exec = Jvm.exec) (hlk : meth.locks = false) {pc : Nat} {Ls : Array Slot} {a : Addr} {t : FieldType} {rest : List Value} (hret : meth.sig.returnType = some t) (ht : t.isReference = true) (hn : narrow t (.ref a) = .ref a)
    (hd : decode c.code pc = .ok (.areturn, 1)) {Q : Option Value → Heap → List Loc → Prop} {k n : Nat} (hk : cells ≤ k) (hs : slots ≤ n) (hQ : Q (some (.ref a)) T.heap locs) : Go p e below (Pst s Q k n) (T.setTop (mkF m pc Ls (.ref a :: rest))) :=
  Go.retV X hx hlk hret hn (Or.inr (Or.inr (Or.inr (Or.inr ⟨rfl, ht, rfl⟩)))) hd hk hs hQ
theorem Go.retN (X : Stand p l e R s m args below meth c T locs cells slots) (hx : p.tables.exec = Jvm.exec) (hlk : meth.locks = false) {pc : Nat} {Ls : Array Slot} {z : Int32} {t : FieldType} {rest : List Value} (hret : meth.sig.returnType = some t) (ht : t = .boolean ∨ t = .byte ∨ t = .char ∨ t = .short)
    (hd : decode c.code pc = .ok (.ireturn, 1)) {Q : Option Value → Heap → List Loc → Prop} {k n : Nat} (hk : cells ≤ k) (hs : slots ≤ n) (hQ : Q (some (.int (nar t z))) T.heap locs) : Go p e below (Pst s Q k n) (T.setTop (mkF m pc Ls (.int z :: rest))) := by
  obtain ⟨fs, hr, hrun, hended, hW, hsame⟩ := X.leave (v := some (.int (nar t z))) (fun h => by rw [hret] at h; cases h) hlk
  exact ⟨_, _, Jvm.RoadKit.retN X hx hret ht hd hr, hrun, hended, _, _, rfl, hQ, ⟨_, rfl⟩, hW, hsame.mono hk hs⟩
theorem Go.ret0 (X : Stand p l e R s m args below meth c T locs cells slots) (hx : p.tables.exec = Jvm.exec) (hlk : meth.locks = false) {pc : Nat} {Ls : Array Slot} (hret : meth.sig.returnType = none)
    (hd : decode c.code pc = .ok (.return_, 1)) {Q : Option Value → Heap → List Loc → Prop} {k n : Nat} (hk : cells ≤ k) (hs : slots ≤ n) (hQ : Q none T.heap locs) : Go p e below (Pst s Q k n) (T.setTop (mkF m pc Ls [])) := by
  obtain ⟨fs, hr, hrun, hended, hW, hsame⟩ := X.leave (v := none) (fun _ => rfl) hlk
  exact ⟨_, _, X.returnOut hx hret hd hr, hrun, hended, _, _, rfl, hQ, ⟨_, rfl⟩, hW, hsame.mono hk hs⟩
theorem lremM {g : JFrame} {target : State} (X : Stand p l e R s m args below meth c T locs cells slots) (hx : p.tables.exec = Jvm.exec) (hg : g.method = m) {x y : Int64} {rest : List Value} (hd : decode c.code g.pc = .ok (.lrem, 1)) (hs : g.stack = .long y :: .long x :: rest) (hy : y ≠ 0)
    (hr : Steps p.tables e below (T.setTop { g with pc := g.pc + 1, stack := .long (x % y) :: rest }) target) : Steps p.tables e below (T.setTop g) target := by
  have q : x - x / y * y = x % y := lrem_mod x y
  exact XS.lrem X.here hx hg hd hs hy (by rw [q]; exact hr)
/-- Java's x >>> k on ints and on longs, as the steps leave it -/
def ushrI (x k : Int32) : Int32 := (x.toUInt32 >>> (k &&& 31).toUInt32).toInt32
def ushrJ (x : Int64) (k : Int32) : Int64 := (x.toUInt64 >>> (k &&& 0x3f).toInt64.toUInt64).toInt64
end GoKit
theorem pd_1 : parseMethodDescriptor "(J)J" = some ⟨[.long], some .long⟩ := by decide +kernel
theorem pd_2 : parseMethodDescriptor "(J)V" = some ⟨[.long], none⟩ := by decide +kernel
theorem pd_3 : parseMethodDescriptor "()J" = some ⟨[], some .long⟩ := by decide +kernel
theorem own_xs (x : BitVec 64) (k : Nat) (h : 64 ≤ k + k + k) : (x ^^^ (x >>> k)) ^^^ ((x ^^^ (x >>> k)) >>> k) ^^^ ((x ^^^ (x >>> k)) >>> (k + k)) = x := by
  apply BitVec.eq_of_getLsbD_eq
  intro i hi
  have h3 : x.getLsbD (k + (k + k + i)) = false := BitVec.getLsbD_of_ge _ _ (by omega)
  have e1 : k + (k + i) = k + k + i := by omega
  have e2 : k + k + (k + i) = k + (k + k + i) := by omega
  simp only [BitVec.getLsbD_xor, BitVec.getLsbD_ushiftRight, e1, h3]
  cases x.getLsbD i <;> cases x.getLsbD (k + i) <;> cases x.getLsbD (k + k + i) <;> rfl
theorem own_sh (x : Int64) (k : Int32) (n : Nat) (h : ((k &&& 0x3f).toInt64.toUInt64.toBitVec % 64).toNat = n) : (ushrJ x k).toBitVec = x.toBitVec >>> n := by
  subst h; rfl
theorem own_xj (x : Int64) (k k2 : Int32) (n : Nat) (h : ((k &&& 0x3f).toInt64.toUInt64.toBitVec % 64).toNat = n) (h2 : ((k2 &&& 0x3f).toInt64.toUInt64.toBitVec % 64).toNat = n + n) (hn : 64 ≤ n + n + n) : ((x ^^^ (ushrJ x k)) ^^^ (ushrJ (x ^^^ (ushrJ x k)) k)) ^^^ (ushrJ (x ^^^ (ushrJ x k)) k2) = x := by
  apply Int64.toBitVec_inj.mp
  rw [Int64.toBitVec_xor, Int64.toBitVec_xor, own_sh _ k n h, own_sh _ k2 (n + n) h2, Int64.toBitVec_xor, own_sh _ k n h]
  exact own_xs x.toBitVec n hn
def own_n1 (c x : Int64) : Int64 := x * ((2 : Int64) - (c * x))
def own_inv (c : Int64) : Int64 := own_n1 c (own_n1 c (own_n1 c (own_n1 c (own_n1 c c))))
def own_b1 (w : Int64) : Int64 := (w ^^^ (ushrJ w (30 : Int32))) * (-4658895280553007687 : Int64)
def own_b2 (w : Int64) : Int64 := (own_b1 w ^^^ (ushrJ (own_b1 w) (27 : Int32))) * (-7723592293110705685 : Int64)
def own_mix (w : Int64) : Int64 := own_b2 w ^^^ (ushrJ (own_b2 w) (31 : Int32))
def own_z1 (q : Int64) : Int64 := (q ^^^ (ushrJ q (31 : Int32))) ^^^ (ushrJ q (62 : Int32))
def own_z2 (q : Int64) : Int64 := own_z1 q * own_inv (-7723592293110705685 : Int64)
def own_z3 (q : Int64) : Int64 := (own_z2 q ^^^ (ushrJ (own_z2 q) (27 : Int32))) ^^^ (ushrJ (own_z2 q) (54 : Int32))
def own_z4 (q : Int64) : Int64 := own_z3 q * own_inv (-4658895280553007687 : Int64)
def own_z5 (q : Int64) : Int64 := (own_z4 q ^^^ (ushrJ (own_z4 q) (30 : Int32))) ^^^ (ushrJ (own_z4 q) (60 : Int32))
theorem own_c1 : (-4658895280553007687 : Int64) * own_inv (-4658895280553007687 : Int64) = 1 := by decide +kernel
theorem own_c2 : (-7723592293110705685 : Int64) * own_inv (-7723592293110705685 : Int64) = 1 := by decide +kernel
theorem own_un (w : Int64) : own_z5 (own_mix w) = w := by
  have e1 : own_z1 (own_mix w) = own_b2 w := own_xj (own_b2 w) 31 62 31 (by decide) (by decide) (by decide)
  have e2 : own_z2 (own_mix w) = own_b1 w ^^^ (ushrJ (own_b1 w) (27 : Int32)) := by
    unfold own_z2
    rw [e1]
    unfold own_b2
    rw [Int64.mul_assoc, own_c2, Int64.mul_one]
  have e3 : own_z3 (own_mix w) = own_b1 w := by
    unfold own_z3
    rw [e2]
    exact own_xj (own_b1 w) 27 54 27 (by decide) (by decide) (by decide)
  have e4 : own_z4 (own_mix w) = w ^^^ (ushrJ w (30 : Int32)) := by
    unfold own_z4
    rw [e3]
    unfold own_b1
    rw [Int64.mul_assoc, own_c1, Int64.mul_one]
  unfold own_z5
  rw [e4]
  exact own_xj w 30 60 30 (by decide) (by decide) (by decide)
def Q1 (Z : State) (a1 : Addr) (q2 : Int64) (h0 : Heap) (n0 : Nat) (v : Option Value) (h : Heap) (L : List Loc) : Prop := v = none ∧ Fr n0 L ∧ Keep h0 h [a1] ∧ Exa Z h a1 "com/example/robust_backoff/robustbackoff/util/SplitMix64" ∧ Fld Z h a1 "com/example/robust_backoff/robustbackoff/util/SplitMix64" "state" "J" (.long q2)
theorem d1_0 : decode prog_57_method_1_code 0 = .ok (.aload_n 0, 1) := by decide +kernel
theorem d1_1 : decode prog_57_method_1_code 1 = .ok (.invokespecial 1, 3) := by decide +kernel
theorem d1_4 : decode prog_57_method_1_code 4 = .ok (.aload_n 0, 1) := by decide +kernel
theorem d1_5 : decode prog_57_method_1_code 5 = .ok (.lload_n 1, 1) := by decide +kernel
theorem d1_6 : decode prog_57_method_1_code 6 = .ok (.putfield 7, 3) := by decide +kernel
theorem d1_9 : decode prog_57_method_1_code 9 = .ok (.return_, 1) := by decide +kernel
theorem pn_1 : plainFor (⟨"com/example/robust_backoff/robustbackoff/util/SplitMix64", "<init>", "(J)V"⟩ : MethodName) = true := by first | exact plainFor_of_name (by first | (simp [plainName, overriddenIn]; done) | decide +kernel) | decide +kernel
theorem ef_1 (m : MethodId) (x0 : Addr) (x1 : Int64) : entryFrame m #[(.ref x0), (.long x1)] 3 = mkF m 0 #[.val (.ref x0), .val (.long x1), .second] [] := by first | (simp [entryFrame, mkF, argsToLocals, Value.category]; done) | rfl
set_option maxRecDepth 65536 in
set_option maxHeartbeats 40000000 in
theorem rm1 (l : Launch) (Z : State) (a0 : Array Value) (hw : ∀ d ∈ tables_1, d.before a0 Z = true) (ws : List Jvm.Cond) (a1 : Addr) (q2 : Int64) (u : Value) (h0 : Heap) (n0 : Nat) (Z0 : n0 ≤ h0.size) (E0 : Exa Z h0 a1 "com/example/robust_backoff/robustbackoff/util/SplitMix64") (F0 : Fld Z h0 a1 "com/example/robust_backoff/robustbackoff/util/SplitMix64" "state" "J" u) (g0 : n0 ≤ a1) :
    MetFree l (⟨"com/example/robust_backoff/robustbackoff/util/SplitMix64", "<init>", "(J)V"⟩ : MethodName) (head1 (Jvm.Cond.code (⟨"com/example/robust_backoff/robustbackoff/util/SplitMix64", "<init>", "(J)V"⟩ : MethodName) prog_57_method_1_code 3 none :: ws) ({ frames := 1, cells := 0, slots := 0, locals := 12 } : Room)) (fun a U => a = #[(.ref a1), (.long q2)] ∧ Z.Warmed39 U.vm ∧ U.heap = h0) (fun _ _ _ _ _ => True) (fun _ U o U' => ∃ v L, o = .returned v ∧ Q1 Z a1 q2 h0 n0 v U'.heap L ∧ FrameEnd U o U' L ({ frames := 1, cells := 0, slots := 0, locals := 12 } : Room).cells ({ frames := 1, cells := 0, slots := 0, locals := 12 } : Room).slots) := by
  refine MetFree.of_bodySF pn_1 hisR ?_
  intro p e s m args below meth c s₁ Bd hml0 hP hK
  obtain ⟨rfl, hZ, hh⟩ := hP
  have hx := Bd.exec
  have hby := Bd.bytes
  have hlk := Bd.notSynchronized
  have hret := Bd.returns
  have hml : c.maxLocals = 3 := hml0
  have hown : s.vm.findClass "com/example/robust_backoff/robustbackoff/util/SplitMix64" = some m.cls := findClass_of_methodNamed Bd.named
  have hnm := (name_of_methodNamed Bd.named Bd.method).1
  have X0 : Stand p l e ({ frames := 1, cells := 0, slots := 0, locals := 12 } : Room) s m #[(.ref a1), (.long q2)] below meth c s₁ [] 0 0 := Stand.of_body Bd
  have e0 : s₁.heap = h0 := by rw [← hh, Bd.state]; rfl
  have N0 := Fr.nil n0
  show Go p e below (Pst s (Q1 Z a1 q2 h0 n0) ({ frames := 1, cells := 0, slots := 0, locals := 12 } : Room).cells ({ frames := 1, cells := 0, slots := 0, locals := 12 } : Room).slots) (s₁.setTop (entryFrame m #[(.ref a1), (.long q2)] 3))
  refine Go.on (fun t k => castTop (ef_1 m a1 q2) k) ?_
  show Go p e below _ (s₁.setTop (mkF m 0 #[.val (.ref a1), .val (.long q2), .second] []))
  refine Go.on (fun t k => XS.aloadN X0.here hx rfl (hb hby d1_0) rfl rfl k) ?_
  show Go p e below _ (s₁.setTop (mkF m 1 #[.val (.ref a1), .val (.long q2), .second] [(.ref a1)]))
  obtain ⟨T1, X1, e1, st1⟩ := initO X0 hx hZ hown (hw _ (List.mem_of_getElem? (i := 7) rfl)) (hw _ (List.mem_of_getElem? (i := 8) rfl)) (hw _ (List.mem_of_getElem? (i := 9) rfl)) e0 (g := (mkF m 1 #[.val (.ref a1), .val (.long q2), .second] [(.ref a1)])) rfl (by rw [hml]; rfl) rfl (hb hby d1_1) (by decide) (W := 0) (by show 2 * 0 + _ ≤ _; exact Nat.le_of_eq rfl) (by decide)
  refine Go.on st1 ?_
  show Go p e below _ (T1.setTop (mkF m 4 #[.val (.ref a1), .val (.long q2), .second] []))
  refine Go.on (fun t k => XS.aloadN X1.here hx rfl (hb hby d1_4) rfl rfl k) ?_
  show Go p e below _ (T1.setTop (mkF m 5 #[.val (.ref a1), .val (.long q2), .second] [(.ref a1)]))
  refine Go.on (fun t k => XS.lloadN X1.here hx rfl (hb hby d1_5) rfl k) ?_
  show Go p e below _ (T1.setTop (mkF m 6 #[.val (.ref a1), .val (.long q2), .second] [(.long q2), (.ref a1)]))
  obtain ⟨T2, h2, X2, e2, W2, st2⟩ := putF X1 hx hZ hown (host := "") (Or.inl (hw _ (List.mem_of_getElem? (i := 10) rfl))) Via.refl e1 F0 E0 (Or.inl (hw _ (List.mem_of_getElem? (i := 11) rfl))) (hw _ (List.mem_of_getElem? (i := 2) rfl)) (ty := .long) (by decide) rfl rfl (g := (mkF m 6 #[.val (.ref a1), .val (.long q2), .second] [(.long q2), (.ref a1)])) rfl rfl (hb hby d1_6)
  have F2 := F0.same W2
  have K2 : Keep h0 h2 [a1] := (Keep.refl h0 [a1]).wr W2 (Or.inl (List.mem_of_getElem? (i := 0) rfl))
  have N2 := Fr.snoc X2 N0 g0
  have E2 := E0.wr W2
  refine Go.on st2 ?_
  show Go p e below _ (T2.setTop (mkF m 9 #[.val (.ref a1), .val (.long q2), .second] []))
  exact Go.ret0 X2 hx hlk hret (hb hby d1_9) (Nat.le_refl _) (Nat.le_refl _) (show Q1 Z a1 q2 h0 n0 _ T2.heap _ from by rw [e2]; exact ⟨rfl, N2, K2, E2, F2⟩)
def Q3 (Z : State) (a1 : Addr) (w2 : Int64) (h0 : Heap) (n0 : Nat) (v : Option Value) (h : Heap) (L : List Loc) : Prop := v = some (.long (own_mix (w2 + (-7046029254386353131 : Int64)))) ∧ Fr n0 L ∧ Keep h0 h [a1] ∧ Exa Z h a1 "com/example/robust_backoff/robustbackoff/util/SplitMix64" ∧ Fld Z h a1 "com/example/robust_backoff/robustbackoff/util/SplitMix64" "state" "J" (.long (w2 + (-7046029254386353131 : Int64)))
theorem d3_0 : decode prog_57_method_2_code 0 = .ok (.aload_n 0, 1) := by decide +kernel
theorem d3_1 : decode prog_57_method_2_code 1 = .ok (.dup, 1) := by decide +kernel
theorem d3_2 : decode prog_57_method_2_code 2 = .ok (.getfield 7, 3) := by decide +kernel
theorem d3_5 : decode prog_57_method_2_code 5 = .ok (.ldc2_w 13, 3) := by decide +kernel
theorem d3_8 : decode prog_57_method_2_code 8 = .ok (.ladd, 1) := by decide +kernel
theorem d3_9 : decode prog_57_method_2_code 9 = .ok (.putfield 7, 3) := by decide +kernel
theorem d3_12 : decode prog_57_method_2_code 12 = .ok (.aload_n 0, 1) := by decide +kernel
theorem d3_13 : decode prog_57_method_2_code 13 = .ok (.getfield 7, 3) := by decide +kernel
theorem d3_16 : decode prog_57_method_2_code 16 = .ok (.lstore_n 1, 1) := by decide +kernel
theorem d3_17 : decode prog_57_method_2_code 17 = .ok (.lload_n 1, 1) := by decide +kernel
theorem d3_18 : decode prog_57_method_2_code 18 = .ok (.lload_n 1, 1) := by decide +kernel
theorem d3_19 : decode prog_57_method_2_code 19 = .ok (.bipush 30, 2) := by decide +kernel
theorem d3_21 : decode prog_57_method_2_code 21 = .ok (.lushr, 1) := by decide +kernel
theorem d3_22 : decode prog_57_method_2_code 22 = .ok (.lxor, 1) := by decide +kernel
theorem d3_23 : decode prog_57_method_2_code 23 = .ok (.ldc2_w 15, 3) := by decide +kernel
theorem d3_26 : decode prog_57_method_2_code 26 = .ok (.lmul, 1) := by decide +kernel
theorem d3_27 : decode prog_57_method_2_code 27 = .ok (.lstore_n 1, 1) := by decide +kernel
theorem d3_28 : decode prog_57_method_2_code 28 = .ok (.lload_n 1, 1) := by decide +kernel
theorem d3_29 : decode prog_57_method_2_code 29 = .ok (.lload_n 1, 1) := by decide +kernel
theorem d3_30 : decode prog_57_method_2_code 30 = .ok (.bipush 27, 2) := by decide +kernel
theorem d3_32 : decode prog_57_method_2_code 32 = .ok (.lushr, 1) := by decide +kernel
theorem d3_33 : decode prog_57_method_2_code 33 = .ok (.lxor, 1) := by decide +kernel
theorem d3_34 : decode prog_57_method_2_code 34 = .ok (.ldc2_w 17, 3) := by decide +kernel
theorem d3_37 : decode prog_57_method_2_code 37 = .ok (.lmul, 1) := by decide +kernel
theorem d3_38 : decode prog_57_method_2_code 38 = .ok (.lstore_n 1, 1) := by decide +kernel
theorem d3_39 : decode prog_57_method_2_code 39 = .ok (.lload_n 1, 1) := by decide +kernel
theorem d3_40 : decode prog_57_method_2_code 40 = .ok (.lload_n 1, 1) := by decide +kernel
theorem d3_41 : decode prog_57_method_2_code 41 = .ok (.bipush 31, 2) := by decide +kernel
theorem d3_43 : decode prog_57_method_2_code 43 = .ok (.lushr, 1) := by decide +kernel
theorem d3_44 : decode prog_57_method_2_code 44 = .ok (.lxor, 1) := by decide +kernel
theorem d3_45 : decode prog_57_method_2_code 45 = .ok (.lreturn, 1) := by decide +kernel
theorem pn_3 : plainFor (⟨"com/example/robust_backoff/robustbackoff/util/SplitMix64", "nextLong", "()J"⟩ : MethodName) = true := by first | exact plainFor_of_name (by first | (simp [plainName, overriddenIn]; done) | decide +kernel) | decide +kernel
theorem ef_3 (m : MethodId) (x0 : Addr) : entryFrame m #[(.ref x0)] 3 = mkF m 0 #[.val (.ref x0), .unset, .unset] [] := by first | (simp [entryFrame, mkF, argsToLocals, Value.category]; done) | rfl
set_option maxRecDepth 65536 in
set_option maxHeartbeats 40000000 in
theorem rm3 (l : Launch) (Z : State) (a0 : Array Value) (hw : ∀ d ∈ tables_1, d.before a0 Z = true) (ws : List Jvm.Cond) (a1 : Addr) (w2 : Int64) (h0 : Heap) (n0 : Nat) (Z0 : n0 ≤ h0.size) (F0 : Fld Z h0 a1 "com/example/robust_backoff/robustbackoff/util/SplitMix64" "state" "J" (.long w2)) (E0 : Exa Z h0 a1 "com/example/robust_backoff/robustbackoff/util/SplitMix64") (g0 : n0 ≤ a1) :
    MetFree l (⟨"com/example/robust_backoff/robustbackoff/util/SplitMix64", "nextLong", "()J"⟩ : MethodName) (head1 (Jvm.Cond.code (⟨"com/example/robust_backoff/robustbackoff/util/SplitMix64", "nextLong", "()J"⟩ : MethodName) prog_57_method_2_code 3 (some .long) :: ws) ({ frames := 0, cells := 0, slots := 0, locals := 0 } : Room)) (fun a U => a = #[(.ref a1)] ∧ Z.Warmed39 U.vm ∧ U.heap = h0) (fun _ _ _ _ _ => True) (fun _ U o U' => ∃ v L, o = .returned v ∧ Q3 Z a1 w2 h0 n0 v U'.heap L ∧ FrameEnd U o U' L ({ frames := 0, cells := 0, slots := 0, locals := 0 } : Room).cells ({ frames := 0, cells := 0, slots := 0, locals := 0 } : Room).slots) := by
  refine MetFree.of_bodySF pn_3 hisR ?_
  intro p e s m args below meth c s₁ Bd hml0 hP hK
  obtain ⟨rfl, hZ, hh⟩ := hP
  have hx := Bd.exec
  have hby := Bd.bytes
  have hlk := Bd.notSynchronized
  have hret := Bd.returns
  have hml : c.maxLocals = 3 := hml0
  have hown : s.vm.findClass "com/example/robust_backoff/robustbackoff/util/SplitMix64" = some m.cls := findClass_of_methodNamed Bd.named
  have hnm := (name_of_methodNamed Bd.named Bd.method).1
  have X0 : Stand p l e ({ frames := 0, cells := 0, slots := 0, locals := 0 } : Room) s m #[(.ref a1)] below meth c s₁ [] 0 0 := Stand.of_body Bd
  have e0 : s₁.heap = h0 := by rw [← hh, Bd.state]; rfl
  have N0 := Fr.nil n0
  show Go p e below (Pst s (Q3 Z a1 w2 h0 n0) ({ frames := 0, cells := 0, slots := 0, locals := 0 } : Room).cells ({ frames := 0, cells := 0, slots := 0, locals := 0 } : Room).slots) (s₁.setTop (entryFrame m #[(.ref a1)] 3))
  refine Go.on (fun t k => castTop (ef_3 m a1) k) ?_
  show Go p e below _ (s₁.setTop (mkF m 0 #[.val (.ref a1), .unset, .unset] []))
  refine Go.on (fun t k => XS.aloadN X0.here hx rfl (hb hby d3_0) rfl rfl k) ?_
  show Go p e below _ (s₁.setTop (mkF m 1 #[.val (.ref a1), .unset, .unset] [(.ref a1)]))
  refine Go.on (fun t k => XS.dup X0.here hx rfl (hb hby d3_1) rfl rfl k) ?_
  show Go p e below _ (s₁.setTop (mkF m 2 #[.val (.ref a1), .unset, .unset] [(.ref a1), (.ref a1)]))
  obtain ⟨T1, X1, e1, st1⟩ := getF X0 hx hZ hown (host := "") (Or.inl (hw _ (List.mem_of_getElem? (i := 10) rfl))) Via.refl e0 F0 (g := (mkF m 2 #[.val (.ref a1), .unset, .unset] [(.ref a1), (.ref a1)])) rfl rfl (hb hby d3_2)
  refine Go.on st1 ?_
  show Go p e below _ (T1.setTop (mkF m 5 #[.val (.ref a1), .unset, .unset] [(.long w2), (.ref a1)]))
  refine Go.on (fun t k => X1.ldc2Long hx hown (mvT hZ (hw _ (List.mem_of_getElem? (i := 17) rfl))) (g := (mkF m 5 #[.val (.ref a1), .unset, .unset] [(.long w2), (.ref a1)])) rfl (hb hby d3_5) _ k) ?_
  show Go p e below _ (T1.setTop (mkF m 8 #[.val (.ref a1), .unset, .unset] [(.long (-7046029254386353131 : Int64)), (.long w2), (.ref a1)]))
  refine Go.on (fun t k => XS.ladd X1.here hx rfl (hb hby d3_8) rfl k) ?_
  show Go p e below _ (T1.setTop (mkF m 9 #[.val (.ref a1), .unset, .unset] [(.long (w2 + (-7046029254386353131 : Int64))), (.ref a1)]))
  obtain ⟨T2, h2, X2, e2, W2, st2⟩ := putF X1 hx hZ hown (host := "") (Or.inl (hw _ (List.mem_of_getElem? (i := 10) rfl))) Via.refl e1 F0 E0 (Or.inl (hw _ (List.mem_of_getElem? (i := 11) rfl))) (hw _ (List.mem_of_getElem? (i := 2) rfl)) (ty := .long) (by decide) rfl rfl (g := (mkF m 9 #[.val (.ref a1), .unset, .unset] [(.long (w2 + (-7046029254386353131 : Int64))), (.ref a1)])) rfl rfl (hb hby d3_9)
  have F2 := F0.same W2
  have K2 : Keep h0 h2 [a1] := (Keep.refl h0 [a1]).wr W2 (Or.inl (List.mem_of_getElem? (i := 0) rfl))
  have N2 := Fr.snoc X2 N0 g0
  have E2 := E0.wr W2
  refine Go.on st2 ?_
  show Go p e below _ (T2.setTop (mkF m 12 #[.val (.ref a1), .unset, .unset] []))
  refine Go.on (fun t k => XS.aloadN X2.here hx rfl (hb hby d3_12) rfl rfl k) ?_
  show Go p e below _ (T2.setTop (mkF m 13 #[.val (.ref a1), .unset, .unset] [(.ref a1)]))
  obtain ⟨T3, X3, e3, st3⟩ := getF X2 hx hZ hown (host := "") (Or.inl (hw _ (List.mem_of_getElem? (i := 10) rfl))) Via.refl e2 F2 (g := (mkF m 13 #[.val (.ref a1), .unset, .unset] [(.ref a1)])) rfl rfl (hb hby d3_13)
  refine Go.on st3 ?_
  show Go p e below _ (T3.setTop (mkF m 16 #[.val (.ref a1), .unset, .unset] [(.long (w2 + (-7046029254386353131 : Int64)))]))
  refine Go.on (fun t k => XS.lstoreN X3.here hx rfl (hb hby d3_16) rfl (l' := #[.val (.ref a1), .val (.long (w2 + (-7046029254386353131 : Int64))), .second]) rfl k) ?_
  show Go p e below _ (T3.setTop (mkF m 17 #[.val (.ref a1), .val (.long (w2 + (-7046029254386353131 : Int64))), .second] []))
  refine Go.on (fun t k => XS.lloadN X3.here hx rfl (hb hby d3_17) rfl k) ?_
  show Go p e below _ (T3.setTop (mkF m 18 #[.val (.ref a1), .val (.long (w2 + (-7046029254386353131 : Int64))), .second] [(.long (w2 + (-7046029254386353131 : Int64)))]))
  refine Go.on (fun t k => XS.lloadN X3.here hx rfl (hb hby d3_18) rfl k) ?_
  show Go p e below _ (T3.setTop (mkF m 19 #[.val (.ref a1), .val (.long (w2 + (-7046029254386353131 : Int64))), .second] [(.long (w2 + (-7046029254386353131 : Int64))), (.long (w2 + (-7046029254386353131 : Int64)))]))
  refine Go.on (fun t k => XS.bipush X3.here hx rfl (hb hby d3_19) k) ?_
  show Go p e below _ (T3.setTop (mkF m 21 #[.val (.ref a1), .val (.long (w2 + (-7046029254386353131 : Int64))), .second] [(.int (30 : Int32)), (.long (w2 + (-7046029254386353131 : Int64))), (.long (w2 + (-7046029254386353131 : Int64)))]))
  refine Go.on (fun t k => XS.lushr X3.here hx rfl (hb hby d3_21) rfl k) ?_
  show Go p e below _ (T3.setTop (mkF m 22 #[.val (.ref a1), .val (.long (w2 + (-7046029254386353131 : Int64))), .second] [(.long (ushrJ (w2 + (-7046029254386353131 : Int64)) (30 : Int32))), (.long (w2 + (-7046029254386353131 : Int64)))]))
  refine Go.on (fun t k => XS.lxor X3.here hx rfl (hb hby d3_22) rfl k) ?_
  show Go p e below _ (T3.setTop (mkF m 23 #[.val (.ref a1), .val (.long (w2 + (-7046029254386353131 : Int64))), .second] [(.long ((w2 + (-7046029254386353131 : Int64)) ^^^ (ushrJ (w2 + (-7046029254386353131 : Int64)) (30 : Int32))))]))
  refine Go.on (fun t k => X3.ldc2Long hx hown (mvT hZ (hw _ (List.mem_of_getElem? (i := 18) rfl))) (g := (mkF m 23 #[.val (.ref a1), .val (.long (w2 + (-7046029254386353131 : Int64))), .second] [(.long ((w2 + (-7046029254386353131 : Int64)) ^^^ (ushrJ (w2 + (-7046029254386353131 : Int64)) (30 : Int32))))])) rfl (hb hby d3_23) _ k) ?_
  show Go p e below _ (T3.setTop (mkF m 26 #[.val (.ref a1), .val (.long (w2 + (-7046029254386353131 : Int64))), .second] [(.long (-4658895280553007687 : Int64)), (.long ((w2 + (-7046029254386353131 : Int64)) ^^^ (ushrJ (w2 + (-7046029254386353131 : Int64)) (30 : Int32))))]))
  refine Go.on (fun t k => XS.lmul X3.here hx rfl (hb hby d3_26) rfl k) ?_
  show Go p e below _ (T3.setTop (mkF m 27 #[.val (.ref a1), .val (.long (w2 + (-7046029254386353131 : Int64))), .second] [(.long (own_b1 (w2 + (-7046029254386353131 : Int64))))]))
  refine Go.on (fun t k => XS.lstoreN X3.here hx rfl (hb hby d3_27) rfl (l' := #[.val (.ref a1), .val (.long (own_b1 (w2 + (-7046029254386353131 : Int64)))), .second]) rfl k) ?_
  show Go p e below _ (T3.setTop (mkF m 28 #[.val (.ref a1), .val (.long (own_b1 (w2 + (-7046029254386353131 : Int64)))), .second] []))
  refine Go.on (fun t k => XS.lloadN X3.here hx rfl (hb hby d3_28) rfl k) ?_
  show Go p e below _ (T3.setTop (mkF m 29 #[.val (.ref a1), .val (.long (own_b1 (w2 + (-7046029254386353131 : Int64)))), .second] [(.long (own_b1 (w2 + (-7046029254386353131 : Int64))))]))
  refine Go.on (fun t k => XS.lloadN X3.here hx rfl (hb hby d3_29) rfl k) ?_
  show Go p e below _ (T3.setTop (mkF m 30 #[.val (.ref a1), .val (.long (own_b1 (w2 + (-7046029254386353131 : Int64)))), .second] [(.long (own_b1 (w2 + (-7046029254386353131 : Int64)))), (.long (own_b1 (w2 + (-7046029254386353131 : Int64))))]))
  refine Go.on (fun t k => XS.bipush X3.here hx rfl (hb hby d3_30) k) ?_
  show Go p e below _ (T3.setTop (mkF m 32 #[.val (.ref a1), .val (.long (own_b1 (w2 + (-7046029254386353131 : Int64)))), .second] [(.int (27 : Int32)), (.long (own_b1 (w2 + (-7046029254386353131 : Int64)))), (.long (own_b1 (w2 + (-7046029254386353131 : Int64))))]))
  refine Go.on (fun t k => XS.lushr X3.here hx rfl (hb hby d3_32) rfl k) ?_
  show Go p e below _ (T3.setTop (mkF m 33 #[.val (.ref a1), .val (.long (own_b1 (w2 + (-7046029254386353131 : Int64)))), .second] [(.long (ushrJ (own_b1 (w2 + (-7046029254386353131 : Int64))) (27 : Int32))), (.long (own_b1 (w2 + (-7046029254386353131 : Int64))))]))
  refine Go.on (fun t k => XS.lxor X3.here hx rfl (hb hby d3_33) rfl k) ?_
  show Go p e below _ (T3.setTop (mkF m 34 #[.val (.ref a1), .val (.long (own_b1 (w2 + (-7046029254386353131 : Int64)))), .second] [(.long ((own_b1 (w2 + (-7046029254386353131 : Int64))) ^^^ (ushrJ (own_b1 (w2 + (-7046029254386353131 : Int64))) (27 : Int32))))]))
  refine Go.on (fun t k => X3.ldc2Long hx hown (mvT hZ (hw _ (List.mem_of_getElem? (i := 19) rfl))) (g := (mkF m 34 #[.val (.ref a1), .val (.long (own_b1 (w2 + (-7046029254386353131 : Int64)))), .second] [(.long ((own_b1 (w2 + (-7046029254386353131 : Int64))) ^^^ (ushrJ (own_b1 (w2 + (-7046029254386353131 : Int64))) (27 : Int32))))])) rfl (hb hby d3_34) _ k) ?_
  show Go p e below _ (T3.setTop (mkF m 37 #[.val (.ref a1), .val (.long (own_b1 (w2 + (-7046029254386353131 : Int64)))), .second] [(.long (-7723592293110705685 : Int64)), (.long ((own_b1 (w2 + (-7046029254386353131 : Int64))) ^^^ (ushrJ (own_b1 (w2 + (-7046029254386353131 : Int64))) (27 : Int32))))]))
  refine Go.on (fun t k => XS.lmul X3.here hx rfl (hb hby d3_37) rfl k) ?_
  show Go p e below _ (T3.setTop (mkF m 38 #[.val (.ref a1), .val (.long (own_b1 (w2 + (-7046029254386353131 : Int64)))), .second] [(.long (own_b2 (w2 + (-7046029254386353131 : Int64))))]))
  refine Go.on (fun t k => XS.lstoreN X3.here hx rfl (hb hby d3_38) rfl (l' := #[.val (.ref a1), .val (.long (own_b2 (w2 + (-7046029254386353131 : Int64)))), .second]) rfl k) ?_
  show Go p e below _ (T3.setTop (mkF m 39 #[.val (.ref a1), .val (.long (own_b2 (w2 + (-7046029254386353131 : Int64)))), .second] []))
  refine Go.on (fun t k => XS.lloadN X3.here hx rfl (hb hby d3_39) rfl k) ?_
  show Go p e below _ (T3.setTop (mkF m 40 #[.val (.ref a1), .val (.long (own_b2 (w2 + (-7046029254386353131 : Int64)))), .second] [(.long (own_b2 (w2 + (-7046029254386353131 : Int64))))]))
  refine Go.on (fun t k => XS.lloadN X3.here hx rfl (hb hby d3_40) rfl k) ?_
  show Go p e below _ (T3.setTop (mkF m 41 #[.val (.ref a1), .val (.long (own_b2 (w2 + (-7046029254386353131 : Int64)))), .second] [(.long (own_b2 (w2 + (-7046029254386353131 : Int64)))), (.long (own_b2 (w2 + (-7046029254386353131 : Int64))))]))
  refine Go.on (fun t k => XS.bipush X3.here hx rfl (hb hby d3_41) k) ?_
  show Go p e below _ (T3.setTop (mkF m 43 #[.val (.ref a1), .val (.long (own_b2 (w2 + (-7046029254386353131 : Int64)))), .second] [(.int (31 : Int32)), (.long (own_b2 (w2 + (-7046029254386353131 : Int64)))), (.long (own_b2 (w2 + (-7046029254386353131 : Int64))))]))
  refine Go.on (fun t k => XS.lushr X3.here hx rfl (hb hby d3_43) rfl k) ?_
  show Go p e below _ (T3.setTop (mkF m 44 #[.val (.ref a1), .val (.long (own_b2 (w2 + (-7046029254386353131 : Int64)))), .second] [(.long (ushrJ (own_b2 (w2 + (-7046029254386353131 : Int64))) (31 : Int32))), (.long (own_b2 (w2 + (-7046029254386353131 : Int64))))]))
  refine Go.on (fun t k => XS.lxor X3.here hx rfl (hb hby d3_44) rfl k) ?_
  show Go p e below _ (T3.setTop (mkF m 45 #[.val (.ref a1), .val (.long (own_b2 (w2 + (-7046029254386353131 : Int64)))), .second] [(.long (own_mix (w2 + (-7046029254386353131 : Int64))))]))
  exact Go.retJ X3 hx hlk hret (hb hby d3_45) (Nat.le_refl _) (Nat.le_refl _) (show Q3 Z a1 w2 h0 n0 _ T3.heap _ from by rw [e3]; exact ⟨rfl, N2, K2, E2, F2⟩)
def Q5 (q1 : Int64) (h0 : Heap) (n0 : Nat) (v : Option Value) (h : Heap) (L : List Loc) : Prop := v = some (.long (own_inv q1)) ∧ Fr n0 L ∧ h = h0
theorem d5_0 : decode method_2_code 0 = .ok (.lload_n 0, 1) := by decide +kernel
theorem d5_1 : decode method_2_code 1 = .ok (.lstore_n 2, 1) := by decide +kernel
theorem d5_2 : decode method_2_code 2 = .ok (.lload_n 2, 1) := by decide +kernel
theorem d5_3 : decode method_2_code 3 = .ok (.ldc2_w 7, 3) := by decide +kernel
theorem d5_6 : decode method_2_code 6 = .ok (.lload_n 0, 1) := by decide +kernel
theorem d5_7 : decode method_2_code 7 = .ok (.lload_n 2, 1) := by decide +kernel
theorem d5_8 : decode method_2_code 8 = .ok (.lmul, 1) := by decide +kernel
theorem d5_9 : decode method_2_code 9 = .ok (.lsub, 1) := by decide +kernel
theorem d5_10 : decode method_2_code 10 = .ok (.lmul, 1) := by decide +kernel
theorem d5_11 : decode method_2_code 11 = .ok (.lstore_n 2, 1) := by decide +kernel
theorem d5_12 : decode method_2_code 12 = .ok (.lload_n 2, 1) := by decide +kernel
theorem d5_13 : decode method_2_code 13 = .ok (.ldc2_w 7, 3) := by decide +kernel
theorem d5_16 : decode method_2_code 16 = .ok (.lload_n 0, 1) := by decide +kernel
theorem d5_17 : decode method_2_code 17 = .ok (.lload_n 2, 1) := by decide +kernel
theorem d5_18 : decode method_2_code 18 = .ok (.lmul, 1) := by decide +kernel
theorem d5_19 : decode method_2_code 19 = .ok (.lsub, 1) := by decide +kernel
theorem d5_20 : decode method_2_code 20 = .ok (.lmul, 1) := by decide +kernel
theorem d5_21 : decode method_2_code 21 = .ok (.lstore_n 2, 1) := by decide +kernel
theorem d5_22 : decode method_2_code 22 = .ok (.lload_n 2, 1) := by decide +kernel
theorem d5_23 : decode method_2_code 23 = .ok (.ldc2_w 7, 3) := by decide +kernel
theorem d5_26 : decode method_2_code 26 = .ok (.lload_n 0, 1) := by decide +kernel
theorem d5_27 : decode method_2_code 27 = .ok (.lload_n 2, 1) := by decide +kernel
theorem d5_28 : decode method_2_code 28 = .ok (.lmul, 1) := by decide +kernel
theorem d5_29 : decode method_2_code 29 = .ok (.lsub, 1) := by decide +kernel
theorem d5_30 : decode method_2_code 30 = .ok (.lmul, 1) := by decide +kernel
theorem d5_31 : decode method_2_code 31 = .ok (.lstore_n 2, 1) := by decide +kernel
theorem d5_32 : decode method_2_code 32 = .ok (.lload_n 2, 1) := by decide +kernel
theorem d5_33 : decode method_2_code 33 = .ok (.ldc2_w 7, 3) := by decide +kernel
theorem d5_36 : decode method_2_code 36 = .ok (.lload_n 0, 1) := by decide +kernel
theorem d5_37 : decode method_2_code 37 = .ok (.lload_n 2, 1) := by decide +kernel
theorem d5_38 : decode method_2_code 38 = .ok (.lmul, 1) := by decide +kernel
theorem d5_39 : decode method_2_code 39 = .ok (.lsub, 1) := by decide +kernel
theorem d5_40 : decode method_2_code 40 = .ok (.lmul, 1) := by decide +kernel
theorem d5_41 : decode method_2_code 41 = .ok (.lstore_n 2, 1) := by decide +kernel
theorem d5_42 : decode method_2_code 42 = .ok (.lload_n 2, 1) := by decide +kernel
theorem d5_43 : decode method_2_code 43 = .ok (.ldc2_w 7, 3) := by decide +kernel
theorem d5_46 : decode method_2_code 46 = .ok (.lload_n 0, 1) := by decide +kernel
theorem d5_47 : decode method_2_code 47 = .ok (.lload_n 2, 1) := by decide +kernel
theorem d5_48 : decode method_2_code 48 = .ok (.lmul, 1) := by decide +kernel
theorem d5_49 : decode method_2_code 49 = .ok (.lsub, 1) := by decide +kernel
theorem d5_50 : decode method_2_code 50 = .ok (.lmul, 1) := by decide +kernel
theorem d5_51 : decode method_2_code 51 = .ok (.lstore_n 2, 1) := by decide +kernel
theorem d5_52 : decode method_2_code 52 = .ok (.lload_n 2, 1) := by decide +kernel
theorem d5_53 : decode method_2_code 53 = .ok (.lreturn, 1) := by decide +kernel
theorem pn_5 : plainFor (⟨"com/example/robust_backoff/robustbackoff/util/SplitMix64NextLongPinLaw", "inverseOdd", "(J)J"⟩ : MethodName) = true := by first | exact plainFor_of_name (by first | (simp [plainName, overriddenIn]; done) | decide +kernel) | decide +kernel
theorem ef_5 (m : MethodId) (x0 : Int64) : entryFrame m #[(.long x0)] 4 = mkF m 0 #[.val (.long x0), .second, .unset, .unset] [] := by first | (simp [entryFrame, mkF, argsToLocals, Value.category]; done) | rfl
set_option maxRecDepth 65536 in
set_option maxHeartbeats 40000000 in
theorem rm5 (l : Launch) (Z : State) (a0 : Array Value) (hw : ∀ d ∈ tables_1, d.before a0 Z = true) (ws : List Jvm.Cond) (q1 : Int64) (h0 : Heap) (n0 : Nat) (Z0 : n0 ≤ h0.size)  :
    MetFree l (⟨"com/example/robust_backoff/robustbackoff/util/SplitMix64NextLongPinLaw", "inverseOdd", "(J)J"⟩ : MethodName) (head1 (Jvm.Cond.code (⟨"com/example/robust_backoff/robustbackoff/util/SplitMix64NextLongPinLaw", "inverseOdd", "(J)J"⟩ : MethodName) method_2_code 4 (some .long) :: ws) ({ frames := 0, cells := 0, slots := 0, locals := 0 } : Room)) (fun a U => a = #[(.long q1)] ∧ Z.Warmed39 U.vm ∧ U.heap = h0) (fun _ _ _ _ _ => True) (fun _ U o U' => ∃ v L, o = .returned v ∧ Q5 q1 h0 n0 v U'.heap L ∧ FrameEnd U o U' L ({ frames := 0, cells := 0, slots := 0, locals := 0 } : Room).cells ({ frames := 0, cells := 0, slots := 0, locals := 0 } : Room).slots) := by
  refine MetFree.of_bodySF pn_5 hisR ?_
  intro p e s m args below meth c s₁ Bd hml0 hP hK
  obtain ⟨rfl, hZ, hh⟩ := hP
  have hx := Bd.exec
  have hby := Bd.bytes
  have hlk := Bd.notSynchronized
  have hret := Bd.returns
  have hml : c.maxLocals = 4 := hml0
  have hown : s.vm.findClass "com/example/robust_backoff/robustbackoff/util/SplitMix64NextLongPinLaw" = some m.cls := findClass_of_methodNamed Bd.named
  have hnm := (name_of_methodNamed Bd.named Bd.method).1
  have X0 : Stand p l e ({ frames := 0, cells := 0, slots := 0, locals := 0 } : Room) s m #[(.long q1)] below meth c s₁ [] 0 0 := Stand.of_body Bd
  have e0 : s₁.heap = h0 := by rw [← hh, Bd.state]; rfl
  have N0 := Fr.nil n0
  show Go p e below (Pst s (Q5 q1 h0 n0) ({ frames := 0, cells := 0, slots := 0, locals := 0 } : Room).cells ({ frames := 0, cells := 0, slots := 0, locals := 0 } : Room).slots) (s₁.setTop (entryFrame m #[(.long q1)] 4))
  refine Go.on (fun t k => castTop (ef_5 m q1) k) ?_
  show Go p e below _ (s₁.setTop (mkF m 0 #[.val (.long q1), .second, .unset, .unset] []))
  refine Go.on (fun t k => XS.lloadN X0.here hx rfl (hb hby d5_0) rfl k) ?_
  show Go p e below _ (s₁.setTop (mkF m 1 #[.val (.long q1), .second, .unset, .unset] [(.long q1)]))
  refine Go.on (fun t k => XS.lstoreN X0.here hx rfl (hb hby d5_1) rfl (l' := #[.val (.long q1), .second, .val (.long q1), .second]) rfl k) ?_
  show Go p e below _ (s₁.setTop (mkF m 2 #[.val (.long q1), .second, .val (.long q1), .second] []))
  refine Go.on (fun t k => XS.lloadN X0.here hx rfl (hb hby d5_2) rfl k) ?_
  show Go p e below _ (s₁.setTop (mkF m 3 #[.val (.long q1), .second, .val (.long q1), .second] [(.long q1)]))
  refine Go.on (fun t k => X0.ldc2Long hx hown (mvT hZ (hw _ (List.mem_of_getElem? (i := 28) rfl))) (g := (mkF m 3 #[.val (.long q1), .second, .val (.long q1), .second] [(.long q1)])) rfl (hb hby d5_3) _ k) ?_
  show Go p e below _ (s₁.setTop (mkF m 6 #[.val (.long q1), .second, .val (.long q1), .second] [(.long (2 : Int64)), (.long q1)]))
  refine Go.on (fun t k => XS.lloadN X0.here hx rfl (hb hby d5_6) rfl k) ?_
  show Go p e below _ (s₁.setTop (mkF m 7 #[.val (.long q1), .second, .val (.long q1), .second] [(.long q1), (.long (2 : Int64)), (.long q1)]))
  refine Go.on (fun t k => XS.lloadN X0.here hx rfl (hb hby d5_7) rfl k) ?_
  show Go p e below _ (s₁.setTop (mkF m 8 #[.val (.long q1), .second, .val (.long q1), .second] [(.long q1), (.long q1), (.long (2 : Int64)), (.long q1)]))
  refine Go.on (fun t k => XS.lmul X0.here hx rfl (hb hby d5_8) rfl k) ?_
  show Go p e below _ (s₁.setTop (mkF m 9 #[.val (.long q1), .second, .val (.long q1), .second] [(.long (q1 * q1)), (.long (2 : Int64)), (.long q1)]))
  refine Go.on (fun t k => XS.lsub X0.here hx rfl (hb hby d5_9) rfl k) ?_
  show Go p e below _ (s₁.setTop (mkF m 10 #[.val (.long q1), .second, .val (.long q1), .second] [(.long ((2 : Int64) - (q1 * q1))), (.long q1)]))
  refine Go.on (fun t k => XS.lmul X0.here hx rfl (hb hby d5_10) rfl k) ?_
  show Go p e below _ (s₁.setTop (mkF m 11 #[.val (.long q1), .second, .val (.long q1), .second] [(.long (own_n1 q1 q1))]))
  refine Go.on (fun t k => XS.lstoreN X0.here hx rfl (hb hby d5_11) rfl (l' := #[.val (.long q1), .second, .val (.long (own_n1 q1 q1)), .second]) rfl k) ?_
  show Go p e below _ (s₁.setTop (mkF m 12 #[.val (.long q1), .second, .val (.long (own_n1 q1 q1)), .second] []))
  refine Go.on (fun t k => XS.lloadN X0.here hx rfl (hb hby d5_12) rfl k) ?_
  show Go p e below _ (s₁.setTop (mkF m 13 #[.val (.long q1), .second, .val (.long (own_n1 q1 q1)), .second] [(.long (own_n1 q1 q1))]))
  refine Go.on (fun t k => X0.ldc2Long hx hown (mvT hZ (hw _ (List.mem_of_getElem? (i := 28) rfl))) (g := (mkF m 13 #[.val (.long q1), .second, .val (.long (own_n1 q1 q1)), .second] [(.long (own_n1 q1 q1))])) rfl (hb hby d5_13) _ k) ?_
  show Go p e below _ (s₁.setTop (mkF m 16 #[.val (.long q1), .second, .val (.long (own_n1 q1 q1)), .second] [(.long (2 : Int64)), (.long (own_n1 q1 q1))]))
  refine Go.on (fun t k => XS.lloadN X0.here hx rfl (hb hby d5_16) rfl k) ?_
  show Go p e below _ (s₁.setTop (mkF m 17 #[.val (.long q1), .second, .val (.long (own_n1 q1 q1)), .second] [(.long q1), (.long (2 : Int64)), (.long (own_n1 q1 q1))]))
  refine Go.on (fun t k => XS.lloadN X0.here hx rfl (hb hby d5_17) rfl k) ?_
  show Go p e below _ (s₁.setTop (mkF m 18 #[.val (.long q1), .second, .val (.long (own_n1 q1 q1)), .second] [(.long (own_n1 q1 q1)), (.long q1), (.long (2 : Int64)), (.long (own_n1 q1 q1))]))
  refine Go.on (fun t k => XS.lmul X0.here hx rfl (hb hby d5_18) rfl k) ?_
  show Go p e below _ (s₁.setTop (mkF m 19 #[.val (.long q1), .second, .val (.long (own_n1 q1 q1)), .second] [(.long (q1 * (own_n1 q1 q1))), (.long (2 : Int64)), (.long (own_n1 q1 q1))]))
  refine Go.on (fun t k => XS.lsub X0.here hx rfl (hb hby d5_19) rfl k) ?_
  show Go p e below _ (s₁.setTop (mkF m 20 #[.val (.long q1), .second, .val (.long (own_n1 q1 q1)), .second] [(.long ((2 : Int64) - (q1 * (own_n1 q1 q1)))), (.long (own_n1 q1 q1))]))
  refine Go.on (fun t k => XS.lmul X0.here hx rfl (hb hby d5_20) rfl k) ?_
  show Go p e below _ (s₁.setTop (mkF m 21 #[.val (.long q1), .second, .val (.long (own_n1 q1 q1)), .second] [(.long (own_n1 q1 (own_n1 q1 q1)))]))
  refine Go.on (fun t k => XS.lstoreN X0.here hx rfl (hb hby d5_21) rfl (l' := #[.val (.long q1), .second, .val (.long (own_n1 q1 (own_n1 q1 q1))), .second]) rfl k) ?_
  show Go p e below _ (s₁.setTop (mkF m 22 #[.val (.long q1), .second, .val (.long (own_n1 q1 (own_n1 q1 q1))), .second] []))
  refine Go.on (fun t k => XS.lloadN X0.here hx rfl (hb hby d5_22) rfl k) ?_
  show Go p e below _ (s₁.setTop (mkF m 23 #[.val (.long q1), .second, .val (.long (own_n1 q1 (own_n1 q1 q1))), .second] [(.long (own_n1 q1 (own_n1 q1 q1)))]))
  refine Go.on (fun t k => X0.ldc2Long hx hown (mvT hZ (hw _ (List.mem_of_getElem? (i := 28) rfl))) (g := (mkF m 23 #[.val (.long q1), .second, .val (.long (own_n1 q1 (own_n1 q1 q1))), .second] [(.long (own_n1 q1 (own_n1 q1 q1)))])) rfl (hb hby d5_23) _ k) ?_
  show Go p e below _ (s₁.setTop (mkF m 26 #[.val (.long q1), .second, .val (.long (own_n1 q1 (own_n1 q1 q1))), .second] [(.long (2 : Int64)), (.long (own_n1 q1 (own_n1 q1 q1)))]))
  refine Go.on (fun t k => XS.lloadN X0.here hx rfl (hb hby d5_26) rfl k) ?_
  show Go p e below _ (s₁.setTop (mkF m 27 #[.val (.long q1), .second, .val (.long (own_n1 q1 (own_n1 q1 q1))), .second] [(.long q1), (.long (2 : Int64)), (.long (own_n1 q1 (own_n1 q1 q1)))]))
  refine Go.on (fun t k => XS.lloadN X0.here hx rfl (hb hby d5_27) rfl k) ?_
  show Go p e below _ (s₁.setTop (mkF m 28 #[.val (.long q1), .second, .val (.long (own_n1 q1 (own_n1 q1 q1))), .second] [(.long (own_n1 q1 (own_n1 q1 q1))), (.long q1), (.long (2 : Int64)), (.long (own_n1 q1 (own_n1 q1 q1)))]))
  refine Go.on (fun t k => XS.lmul X0.here hx rfl (hb hby d5_28) rfl k) ?_
  show Go p e below _ (s₁.setTop (mkF m 29 #[.val (.long q1), .second, .val (.long (own_n1 q1 (own_n1 q1 q1))), .second] [(.long (q1 * (own_n1 q1 (own_n1 q1 q1)))), (.long (2 : Int64)), (.long (own_n1 q1 (own_n1 q1 q1)))]))
  refine Go.on (fun t k => XS.lsub X0.here hx rfl (hb hby d5_29) rfl k) ?_
  show Go p e below _ (s₁.setTop (mkF m 30 #[.val (.long q1), .second, .val (.long (own_n1 q1 (own_n1 q1 q1))), .second] [(.long ((2 : Int64) - (q1 * (own_n1 q1 (own_n1 q1 q1))))), (.long (own_n1 q1 (own_n1 q1 q1)))]))
  refine Go.on (fun t k => XS.lmul X0.here hx rfl (hb hby d5_30) rfl k) ?_
  show Go p e below _ (s₁.setTop (mkF m 31 #[.val (.long q1), .second, .val (.long (own_n1 q1 (own_n1 q1 q1))), .second] [(.long (own_n1 q1 (own_n1 q1 (own_n1 q1 q1))))]))
  refine Go.on (fun t k => XS.lstoreN X0.here hx rfl (hb hby d5_31) rfl (l' := #[.val (.long q1), .second, .val (.long (own_n1 q1 (own_n1 q1 (own_n1 q1 q1)))), .second]) rfl k) ?_
  show Go p e below _ (s₁.setTop (mkF m 32 #[.val (.long q1), .second, .val (.long (own_n1 q1 (own_n1 q1 (own_n1 q1 q1)))), .second] []))
  refine Go.on (fun t k => XS.lloadN X0.here hx rfl (hb hby d5_32) rfl k) ?_
  show Go p e below _ (s₁.setTop (mkF m 33 #[.val (.long q1), .second, .val (.long (own_n1 q1 (own_n1 q1 (own_n1 q1 q1)))), .second] [(.long (own_n1 q1 (own_n1 q1 (own_n1 q1 q1))))]))
  refine Go.on (fun t k => X0.ldc2Long hx hown (mvT hZ (hw _ (List.mem_of_getElem? (i := 28) rfl))) (g := (mkF m 33 #[.val (.long q1), .second, .val (.long (own_n1 q1 (own_n1 q1 (own_n1 q1 q1)))), .second] [(.long (own_n1 q1 (own_n1 q1 (own_n1 q1 q1))))])) rfl (hb hby d5_33) _ k) ?_
  show Go p e below _ (s₁.setTop (mkF m 36 #[.val (.long q1), .second, .val (.long (own_n1 q1 (own_n1 q1 (own_n1 q1 q1)))), .second] [(.long (2 : Int64)), (.long (own_n1 q1 (own_n1 q1 (own_n1 q1 q1))))]))
  refine Go.on (fun t k => XS.lloadN X0.here hx rfl (hb hby d5_36) rfl k) ?_
  show Go p e below _ (s₁.setTop (mkF m 37 #[.val (.long q1), .second, .val (.long (own_n1 q1 (own_n1 q1 (own_n1 q1 q1)))), .second] [(.long q1), (.long (2 : Int64)), (.long (own_n1 q1 (own_n1 q1 (own_n1 q1 q1))))]))
  refine Go.on (fun t k => XS.lloadN X0.here hx rfl (hb hby d5_37) rfl k) ?_
  show Go p e below _ (s₁.setTop (mkF m 38 #[.val (.long q1), .second, .val (.long (own_n1 q1 (own_n1 q1 (own_n1 q1 q1)))), .second] [(.long (own_n1 q1 (own_n1 q1 (own_n1 q1 q1)))), (.long q1), (.long (2 : Int64)), (.long (own_n1 q1 (own_n1 q1 (own_n1 q1 q1))))]))
  refine Go.on (fun t k => XS.lmul X0.here hx rfl (hb hby d5_38) rfl k) ?_
  show Go p e below _ (s₁.setTop (mkF m 39 #[.val (.long q1), .second, .val (.long (own_n1 q1 (own_n1 q1 (own_n1 q1 q1)))), .second] [(.long (q1 * (own_n1 q1 (own_n1 q1 (own_n1 q1 q1))))), (.long (2 : Int64)), (.long (own_n1 q1 (own_n1 q1 (own_n1 q1 q1))))]))
  refine Go.on (fun t k => XS.lsub X0.here hx rfl (hb hby d5_39) rfl k) ?_
  show Go p e below _ (s₁.setTop (mkF m 40 #[.val (.long q1), .second, .val (.long (own_n1 q1 (own_n1 q1 (own_n1 q1 q1)))), .second] [(.long ((2 : Int64) - (q1 * (own_n1 q1 (own_n1 q1 (own_n1 q1 q1)))))), (.long (own_n1 q1 (own_n1 q1 (own_n1 q1 q1))))]))
  refine Go.on (fun t k => XS.lmul X0.here hx rfl (hb hby d5_40) rfl k) ?_
  show Go p e below _ (s₁.setTop (mkF m 41 #[.val (.long q1), .second, .val (.long (own_n1 q1 (own_n1 q1 (own_n1 q1 q1)))), .second] [(.long (own_n1 q1 (own_n1 q1 (own_n1 q1 (own_n1 q1 q1)))))]))
  refine Go.on (fun t k => XS.lstoreN X0.here hx rfl (hb hby d5_41) rfl (l' := #[.val (.long q1), .second, .val (.long (own_n1 q1 (own_n1 q1 (own_n1 q1 (own_n1 q1 q1))))), .second]) rfl k) ?_
  show Go p e below _ (s₁.setTop (mkF m 42 #[.val (.long q1), .second, .val (.long (own_n1 q1 (own_n1 q1 (own_n1 q1 (own_n1 q1 q1))))), .second] []))
  refine Go.on (fun t k => XS.lloadN X0.here hx rfl (hb hby d5_42) rfl k) ?_
  show Go p e below _ (s₁.setTop (mkF m 43 #[.val (.long q1), .second, .val (.long (own_n1 q1 (own_n1 q1 (own_n1 q1 (own_n1 q1 q1))))), .second] [(.long (own_n1 q1 (own_n1 q1 (own_n1 q1 (own_n1 q1 q1)))))]))
  refine Go.on (fun t k => X0.ldc2Long hx hown (mvT hZ (hw _ (List.mem_of_getElem? (i := 28) rfl))) (g := (mkF m 43 #[.val (.long q1), .second, .val (.long (own_n1 q1 (own_n1 q1 (own_n1 q1 (own_n1 q1 q1))))), .second] [(.long (own_n1 q1 (own_n1 q1 (own_n1 q1 (own_n1 q1 q1)))))])) rfl (hb hby d5_43) _ k) ?_
  show Go p e below _ (s₁.setTop (mkF m 46 #[.val (.long q1), .second, .val (.long (own_n1 q1 (own_n1 q1 (own_n1 q1 (own_n1 q1 q1))))), .second] [(.long (2 : Int64)), (.long (own_n1 q1 (own_n1 q1 (own_n1 q1 (own_n1 q1 q1)))))]))
  refine Go.on (fun t k => XS.lloadN X0.here hx rfl (hb hby d5_46) rfl k) ?_
  show Go p e below _ (s₁.setTop (mkF m 47 #[.val (.long q1), .second, .val (.long (own_n1 q1 (own_n1 q1 (own_n1 q1 (own_n1 q1 q1))))), .second] [(.long q1), (.long (2 : Int64)), (.long (own_n1 q1 (own_n1 q1 (own_n1 q1 (own_n1 q1 q1)))))]))
  refine Go.on (fun t k => XS.lloadN X0.here hx rfl (hb hby d5_47) rfl k) ?_
  show Go p e below _ (s₁.setTop (mkF m 48 #[.val (.long q1), .second, .val (.long (own_n1 q1 (own_n1 q1 (own_n1 q1 (own_n1 q1 q1))))), .second] [(.long (own_n1 q1 (own_n1 q1 (own_n1 q1 (own_n1 q1 q1))))), (.long q1), (.long (2 : Int64)), (.long (own_n1 q1 (own_n1 q1 (own_n1 q1 (own_n1 q1 q1)))))]))
  refine Go.on (fun t k => XS.lmul X0.here hx rfl (hb hby d5_48) rfl k) ?_
  show Go p e below _ (s₁.setTop (mkF m 49 #[.val (.long q1), .second, .val (.long (own_n1 q1 (own_n1 q1 (own_n1 q1 (own_n1 q1 q1))))), .second] [(.long (q1 * (own_n1 q1 (own_n1 q1 (own_n1 q1 (own_n1 q1 q1)))))), (.long (2 : Int64)), (.long (own_n1 q1 (own_n1 q1 (own_n1 q1 (own_n1 q1 q1)))))]))
  refine Go.on (fun t k => XS.lsub X0.here hx rfl (hb hby d5_49) rfl k) ?_
  show Go p e below _ (s₁.setTop (mkF m 50 #[.val (.long q1), .second, .val (.long (own_n1 q1 (own_n1 q1 (own_n1 q1 (own_n1 q1 q1))))), .second] [(.long ((2 : Int64) - (q1 * (own_n1 q1 (own_n1 q1 (own_n1 q1 (own_n1 q1 q1))))))), (.long (own_n1 q1 (own_n1 q1 (own_n1 q1 (own_n1 q1 q1)))))]))
  refine Go.on (fun t k => XS.lmul X0.here hx rfl (hb hby d5_50) rfl k) ?_
  show Go p e below _ (s₁.setTop (mkF m 51 #[.val (.long q1), .second, .val (.long (own_n1 q1 (own_n1 q1 (own_n1 q1 (own_n1 q1 q1))))), .second] [(.long (own_inv q1))]))
  refine Go.on (fun t k => XS.lstoreN X0.here hx rfl (hb hby d5_51) rfl (l' := #[.val (.long q1), .second, .val (.long (own_inv q1)), .second]) rfl k) ?_
  show Go p e below _ (s₁.setTop (mkF m 52 #[.val (.long q1), .second, .val (.long (own_inv q1)), .second] []))
  refine Go.on (fun t k => XS.lloadN X0.here hx rfl (hb hby d5_52) rfl k) ?_
  show Go p e below _ (s₁.setTop (mkF m 53 #[.val (.long q1), .second, .val (.long (own_inv q1)), .second] [(.long (own_inv q1))]))
  exact Go.retJ X0 hx hlk hret (hb hby d5_53) (Nat.le_refl _) (Nat.le_refl _) (show Q5 q1 h0 n0 _ _ _ from ⟨rfl, N0, e0⟩)
def Q4 (q1 : Int64) (h0 : Heap) (n0 : Nat) (v : Option Value) (h : Heap) (L : List Loc) : Prop := v = some (.long (own_z5 q1)) ∧ Fr n0 L ∧ h = h0
theorem d4_0 : decode method_3_code 0 = .ok (.lload_n 0, 1) := by decide +kernel
theorem d4_1 : decode method_3_code 1 = .ok (.lstore_n 2, 1) := by decide +kernel
theorem d4_2 : decode method_3_code 2 = .ok (.lload_n 2, 1) := by decide +kernel
theorem d4_3 : decode method_3_code 3 = .ok (.lload_n 2, 1) := by decide +kernel
theorem d4_4 : decode method_3_code 4 = .ok (.bipush 31, 2) := by decide +kernel
theorem d4_6 : decode method_3_code 6 = .ok (.lushr, 1) := by decide +kernel
theorem d4_7 : decode method_3_code 7 = .ok (.lxor, 1) := by decide +kernel
theorem d4_8 : decode method_3_code 8 = .ok (.lload_n 2, 1) := by decide +kernel
theorem d4_9 : decode method_3_code 9 = .ok (.bipush 62, 2) := by decide +kernel
theorem d4_11 : decode method_3_code 11 = .ok (.lushr, 1) := by decide +kernel
theorem d4_12 : decode method_3_code 12 = .ok (.lxor, 1) := by decide +kernel
theorem d4_13 : decode method_3_code 13 = .ok (.lstore_n 2, 1) := by decide +kernel
theorem d4_14 : decode method_3_code 14 = .ok (.lload_n 2, 1) := by decide +kernel
theorem d4_15 : decode method_3_code 15 = .ok (.ldc2_w 9, 3) := by decide +kernel
theorem d4_18 : decode method_3_code 18 = .ok (.invokestatic 11, 3) := by decide +kernel
theorem d4_21 : decode method_3_code 21 = .ok (.lmul, 1) := by decide +kernel
theorem d4_22 : decode method_3_code 22 = .ok (.lstore_n 2, 1) := by decide +kernel
theorem d4_23 : decode method_3_code 23 = .ok (.lload_n 2, 1) := by decide +kernel
theorem d4_24 : decode method_3_code 24 = .ok (.lload_n 2, 1) := by decide +kernel
theorem d4_25 : decode method_3_code 25 = .ok (.bipush 27, 2) := by decide +kernel
theorem d4_27 : decode method_3_code 27 = .ok (.lushr, 1) := by decide +kernel
theorem d4_28 : decode method_3_code 28 = .ok (.lxor, 1) := by decide +kernel
theorem d4_29 : decode method_3_code 29 = .ok (.lload_n 2, 1) := by decide +kernel
theorem d4_30 : decode method_3_code 30 = .ok (.bipush 54, 2) := by decide +kernel
theorem d4_32 : decode method_3_code 32 = .ok (.lushr, 1) := by decide +kernel
theorem d4_33 : decode method_3_code 33 = .ok (.lxor, 1) := by decide +kernel
theorem d4_34 : decode method_3_code 34 = .ok (.lstore_n 2, 1) := by decide +kernel
theorem d4_35 : decode method_3_code 35 = .ok (.lload_n 2, 1) := by decide +kernel
theorem d4_36 : decode method_3_code 36 = .ok (.ldc2_w 17, 3) := by decide +kernel
theorem d4_39 : decode method_3_code 39 = .ok (.invokestatic 11, 3) := by decide +kernel
theorem d4_42 : decode method_3_code 42 = .ok (.lmul, 1) := by decide +kernel
theorem d4_43 : decode method_3_code 43 = .ok (.lstore_n 2, 1) := by decide +kernel
theorem d4_44 : decode method_3_code 44 = .ok (.lload_n 2, 1) := by decide +kernel
theorem d4_45 : decode method_3_code 45 = .ok (.lload_n 2, 1) := by decide +kernel
theorem d4_46 : decode method_3_code 46 = .ok (.bipush 30, 2) := by decide +kernel
theorem d4_48 : decode method_3_code 48 = .ok (.lushr, 1) := by decide +kernel
theorem d4_49 : decode method_3_code 49 = .ok (.lxor, 1) := by decide +kernel
theorem d4_50 : decode method_3_code 50 = .ok (.lload_n 2, 1) := by decide +kernel
theorem d4_51 : decode method_3_code 51 = .ok (.bipush 60, 2) := by decide +kernel
theorem d4_53 : decode method_3_code 53 = .ok (.lushr, 1) := by decide +kernel
theorem d4_54 : decode method_3_code 54 = .ok (.lxor, 1) := by decide +kernel
theorem d4_55 : decode method_3_code 55 = .ok (.lstore_n 2, 1) := by decide +kernel
theorem d4_56 : decode method_3_code 56 = .ok (.lload_n 2, 1) := by decide +kernel
theorem d4_57 : decode method_3_code 57 = .ok (.lreturn, 1) := by decide +kernel
theorem pn_4 : plainFor (⟨"com/example/robust_backoff/robustbackoff/util/SplitMix64NextLongPinLaw", "unmix", "(J)J"⟩ : MethodName) = true := by first | exact plainFor_of_name (by first | (simp [plainName, overriddenIn]; done) | decide +kernel) | decide +kernel
theorem ef_4 (m : MethodId) (x0 : Int64) : entryFrame m #[(.long x0)] 4 = mkF m 0 #[.val (.long x0), .second, .unset, .unset] [] := by first | (simp [entryFrame, mkF, argsToLocals, Value.category]; done) | rfl
set_option maxRecDepth 65536 in
set_option maxHeartbeats 40000000 in
theorem rm4 (l : Launch) (Z : State) (a0 : Array Value) (hw : ∀ d ∈ tables_1, d.before a0 Z = true) (ws : List Jvm.Cond) (q1 : Int64) (h0 : Heap) (n0 : Nat) (Z0 : n0 ≤ h0.size)  :
    MetFree l (⟨"com/example/robust_backoff/robustbackoff/util/SplitMix64NextLongPinLaw", "unmix", "(J)J"⟩ : MethodName) (head1 (Jvm.Cond.code (⟨"com/example/robust_backoff/robustbackoff/util/SplitMix64NextLongPinLaw", "unmix", "(J)J"⟩ : MethodName) method_3_code 4 (some .long) :: ws) ({ frames := 1, cells := 0, slots := 0, locals := 17 } : Room)) (fun a U => a = #[(.long q1)] ∧ Z.Warmed39 U.vm ∧ U.heap = h0) (fun _ _ _ _ _ => True) (fun _ U o U' => ∃ v L, o = .returned v ∧ Q4 q1 h0 n0 v U'.heap L ∧ FrameEnd U o U' L ({ frames := 1, cells := 0, slots := 0, locals := 17 } : Room).cells ({ frames := 1, cells := 0, slots := 0, locals := 17 } : Room).slots) := by
  refine MetFree.of_bodySF pn_4 hisR ?_
  intro p e s m args below meth c s₁ Bd hml0 hP hK
  obtain ⟨rfl, hZ, hh⟩ := hP
  have hx := Bd.exec
  have hby := Bd.bytes
  have hlk := Bd.notSynchronized
  have hret := Bd.returns
  have hml : c.maxLocals = 4 := hml0
  have hown : s.vm.findClass "com/example/robust_backoff/robustbackoff/util/SplitMix64NextLongPinLaw" = some m.cls := findClass_of_methodNamed Bd.named
  have hnm := (name_of_methodNamed Bd.named Bd.method).1
  have X0 : Stand p l e ({ frames := 1, cells := 0, slots := 0, locals := 17 } : Room) s m #[(.long q1)] below meth c s₁ [] 0 0 := Stand.of_body Bd
  have e0 : s₁.heap = h0 := by rw [← hh, Bd.state]; rfl
  have N0 := Fr.nil n0
  show Go p e below (Pst s (Q4 q1 h0 n0) ({ frames := 1, cells := 0, slots := 0, locals := 17 } : Room).cells ({ frames := 1, cells := 0, slots := 0, locals := 17 } : Room).slots) (s₁.setTop (entryFrame m #[(.long q1)] 4))
  refine Go.on (fun t k => castTop (ef_4 m q1) k) ?_
  show Go p e below _ (s₁.setTop (mkF m 0 #[.val (.long q1), .second, .unset, .unset] []))
  refine Go.on (fun t k => XS.lloadN X0.here hx rfl (hb hby d4_0) rfl k) ?_
  show Go p e below _ (s₁.setTop (mkF m 1 #[.val (.long q1), .second, .unset, .unset] [(.long q1)]))
  refine Go.on (fun t k => XS.lstoreN X0.here hx rfl (hb hby d4_1) rfl (l' := #[.val (.long q1), .second, .val (.long q1), .second]) rfl k) ?_
  show Go p e below _ (s₁.setTop (mkF m 2 #[.val (.long q1), .second, .val (.long q1), .second] []))
  refine Go.on (fun t k => XS.lloadN X0.here hx rfl (hb hby d4_2) rfl k) ?_
  show Go p e below _ (s₁.setTop (mkF m 3 #[.val (.long q1), .second, .val (.long q1), .second] [(.long q1)]))
  refine Go.on (fun t k => XS.lloadN X0.here hx rfl (hb hby d4_3) rfl k) ?_
  show Go p e below _ (s₁.setTop (mkF m 4 #[.val (.long q1), .second, .val (.long q1), .second] [(.long q1), (.long q1)]))
  refine Go.on (fun t k => XS.bipush X0.here hx rfl (hb hby d4_4) k) ?_
  show Go p e below _ (s₁.setTop (mkF m 6 #[.val (.long q1), .second, .val (.long q1), .second] [(.int (31 : Int32)), (.long q1), (.long q1)]))
  refine Go.on (fun t k => XS.lushr X0.here hx rfl (hb hby d4_6) rfl k) ?_
  show Go p e below _ (s₁.setTop (mkF m 7 #[.val (.long q1), .second, .val (.long q1), .second] [(.long (ushrJ q1 (31 : Int32))), (.long q1)]))
  refine Go.on (fun t k => XS.lxor X0.here hx rfl (hb hby d4_7) rfl k) ?_
  show Go p e below _ (s₁.setTop (mkF m 8 #[.val (.long q1), .second, .val (.long q1), .second] [(.long (q1 ^^^ (ushrJ q1 (31 : Int32))))]))
  refine Go.on (fun t k => XS.lloadN X0.here hx rfl (hb hby d4_8) rfl k) ?_
  show Go p e below _ (s₁.setTop (mkF m 9 #[.val (.long q1), .second, .val (.long q1), .second] [(.long q1), (.long (q1 ^^^ (ushrJ q1 (31 : Int32))))]))
  refine Go.on (fun t k => XS.bipush X0.here hx rfl (hb hby d4_9) k) ?_
  show Go p e below _ (s₁.setTop (mkF m 11 #[.val (.long q1), .second, .val (.long q1), .second] [(.int (62 : Int32)), (.long q1), (.long (q1 ^^^ (ushrJ q1 (31 : Int32))))]))
  refine Go.on (fun t k => XS.lushr X0.here hx rfl (hb hby d4_11) rfl k) ?_
  show Go p e below _ (s₁.setTop (mkF m 12 #[.val (.long q1), .second, .val (.long q1), .second] [(.long (ushrJ q1 (62 : Int32))), (.long (q1 ^^^ (ushrJ q1 (31 : Int32))))]))
  refine Go.on (fun t k => XS.lxor X0.here hx rfl (hb hby d4_12) rfl k) ?_
  show Go p e below _ (s₁.setTop (mkF m 13 #[.val (.long q1), .second, .val (.long q1), .second] [(.long (own_z1 q1))]))
  refine Go.on (fun t k => XS.lstoreN X0.here hx rfl (hb hby d4_13) rfl (l' := #[.val (.long q1), .second, .val (.long (own_z1 q1)), .second]) rfl k) ?_
  show Go p e below _ (s₁.setTop (mkF m 14 #[.val (.long q1), .second, .val (.long (own_z1 q1)), .second] []))
  refine Go.on (fun t k => XS.lloadN X0.here hx rfl (hb hby d4_14) rfl k) ?_
  show Go p e below _ (s₁.setTop (mkF m 15 #[.val (.long q1), .second, .val (.long (own_z1 q1)), .second] [(.long (own_z1 q1))]))
  refine Go.on (fun t k => X0.ldc2Long hx hown (mvT hZ (hw _ (List.mem_of_getElem? (i := 24) rfl))) (g := (mkF m 15 #[.val (.long q1), .second, .val (.long (own_z1 q1)), .second] [(.long (own_z1 q1))])) rfl (hb hby d4_15) _ k) ?_
  show Go p e below _ (s₁.setTop (mkF m 18 #[.val (.long q1), .second, .val (.long (own_z1 q1)), .second] [(.long (-7723592293110705685 : Int64)), (.long (own_z1 q1))]))
  obtain ⟨_, _, ⟨T1, L1, k1, n1⟩, -, X1, ⟨Lc1, hQ1, l1, y1, z1⟩, st1⟩ := Jvm.LawKit.callS X0 hx (y := (⟨"com/example/robust_backoff/robustbackoff/util/SplitMix64NextLongPinLaw", "inverseOdd", "(J)J"⟩ : MethodName)) hown (mvT hZ (hw _ (List.mem_of_getElem? (i := 25) rfl))) (mvT hZ (hw _ (List.mem_of_getElem? (i := 26) rfl))) (mvT hZ (hw _ (List.mem_of_getElem? (i := 22) rfl))) (mvT hZ (hw _ (List.mem_of_getElem? (i := 27) rfl))) (by decide) (backOf (W := 2) (rm5 l Z a0 hw [] (-7723592293110705685 : Int64) h0 n0 Z0) hZ (hw _ (List.mem_of_getElem? (i := 27) rfl)) (hw _ (List.mem_of_getElem? (i := 22) rfl)) (by decide) (by decide)) (g := (mkF m 18 #[.val (.long q1), .second, .val (.long (own_z1 q1)), .second] [(.long (-7723592293110705685 : Int64)), (.long (own_z1 q1))])) rfl (by rw [hml]; rfl) (argsL := [(.long (-7723592293110705685 : Int64))]) (rest := [(.long (own_z1 q1))]) (lenOf pd_1 rfl) rfl (by show 2 * 0 + _ ≤ _; exact Nat.le_of_eq rfl) (hb hby d4_18) (fun _ _ => ⟨rfl, e0, (by decide : 0 + 0 ≤ _), (by decide : 0 + 0 ≤ _)⟩)
  dsimp only [Pt.U, Pt.locs, Pt.cells, Pt.slots] at X1 l1 y1 z1 st1 hQ1
  subst l1 y1 z1
  obtain ⟨rfl, N1q, e1⟩ := hQ1
  have N1 := Fr.app N0 N1q
  refine Go.on st1 ?_
  show Go p e below _ (T1.setTop (mkF m 21 #[.val (.long q1), .second, .val (.long (own_z1 q1)), .second] [(.long (own_inv (-7723592293110705685 : Int64))), (.long (own_z1 q1))]))
  refine Go.on (fun t k => XS.lmul X1.here hx rfl (hb hby d4_21) rfl k) ?_
  show Go p e below _ (T1.setTop (mkF m 22 #[.val (.long q1), .second, .val (.long (own_z1 q1)), .second] [(.long (own_z2 q1))]))
  refine Go.on (fun t k => XS.lstoreN X1.here hx rfl (hb hby d4_22) rfl (l' := #[.val (.long q1), .second, .val (.long (own_z2 q1)), .second]) rfl k) ?_
  show Go p e below _ (T1.setTop (mkF m 23 #[.val (.long q1), .second, .val (.long (own_z2 q1)), .second] []))
  refine Go.on (fun t k => XS.lloadN X1.here hx rfl (hb hby d4_23) rfl k) ?_
  show Go p e below _ (T1.setTop (mkF m 24 #[.val (.long q1), .second, .val (.long (own_z2 q1)), .second] [(.long (own_z2 q1))]))
  refine Go.on (fun t k => XS.lloadN X1.here hx rfl (hb hby d4_24) rfl k) ?_
  show Go p e below _ (T1.setTop (mkF m 25 #[.val (.long q1), .second, .val (.long (own_z2 q1)), .second] [(.long (own_z2 q1)), (.long (own_z2 q1))]))
  refine Go.on (fun t k => XS.bipush X1.here hx rfl (hb hby d4_25) k) ?_
  show Go p e below _ (T1.setTop (mkF m 27 #[.val (.long q1), .second, .val (.long (own_z2 q1)), .second] [(.int (27 : Int32)), (.long (own_z2 q1)), (.long (own_z2 q1))]))
  refine Go.on (fun t k => XS.lushr X1.here hx rfl (hb hby d4_27) rfl k) ?_
  show Go p e below _ (T1.setTop (mkF m 28 #[.val (.long q1), .second, .val (.long (own_z2 q1)), .second] [(.long (ushrJ (own_z2 q1) (27 : Int32))), (.long (own_z2 q1))]))
  refine Go.on (fun t k => XS.lxor X1.here hx rfl (hb hby d4_28) rfl k) ?_
  show Go p e below _ (T1.setTop (mkF m 29 #[.val (.long q1), .second, .val (.long (own_z2 q1)), .second] [(.long ((own_z2 q1) ^^^ (ushrJ (own_z2 q1) (27 : Int32))))]))
  refine Go.on (fun t k => XS.lloadN X1.here hx rfl (hb hby d4_29) rfl k) ?_
  show Go p e below _ (T1.setTop (mkF m 30 #[.val (.long q1), .second, .val (.long (own_z2 q1)), .second] [(.long (own_z2 q1)), (.long ((own_z2 q1) ^^^ (ushrJ (own_z2 q1) (27 : Int32))))]))
  refine Go.on (fun t k => XS.bipush X1.here hx rfl (hb hby d4_30) k) ?_
  show Go p e below _ (T1.setTop (mkF m 32 #[.val (.long q1), .second, .val (.long (own_z2 q1)), .second] [(.int (54 : Int32)), (.long (own_z2 q1)), (.long ((own_z2 q1) ^^^ (ushrJ (own_z2 q1) (27 : Int32))))]))
  refine Go.on (fun t k => XS.lushr X1.here hx rfl (hb hby d4_32) rfl k) ?_
  show Go p e below _ (T1.setTop (mkF m 33 #[.val (.long q1), .second, .val (.long (own_z2 q1)), .second] [(.long (ushrJ (own_z2 q1) (54 : Int32))), (.long ((own_z2 q1) ^^^ (ushrJ (own_z2 q1) (27 : Int32))))]))
  refine Go.on (fun t k => XS.lxor X1.here hx rfl (hb hby d4_33) rfl k) ?_
  show Go p e below _ (T1.setTop (mkF m 34 #[.val (.long q1), .second, .val (.long (own_z2 q1)), .second] [(.long (own_z3 q1))]))
  refine Go.on (fun t k => XS.lstoreN X1.here hx rfl (hb hby d4_34) rfl (l' := #[.val (.long q1), .second, .val (.long (own_z3 q1)), .second]) rfl k) ?_
  show Go p e below _ (T1.setTop (mkF m 35 #[.val (.long q1), .second, .val (.long (own_z3 q1)), .second] []))
  refine Go.on (fun t k => XS.lloadN X1.here hx rfl (hb hby d4_35) rfl k) ?_
  show Go p e below _ (T1.setTop (mkF m 36 #[.val (.long q1), .second, .val (.long (own_z3 q1)), .second] [(.long (own_z3 q1))]))
  refine Go.on (fun t k => X1.ldc2Long hx hown (mvT hZ (hw _ (List.mem_of_getElem? (i := 29) rfl))) (g := (mkF m 36 #[.val (.long q1), .second, .val (.long (own_z3 q1)), .second] [(.long (own_z3 q1))])) rfl (hb hby d4_36) _ k) ?_
  show Go p e below _ (T1.setTop (mkF m 39 #[.val (.long q1), .second, .val (.long (own_z3 q1)), .second] [(.long (-4658895280553007687 : Int64)), (.long (own_z3 q1))]))
  obtain ⟨_, _, ⟨T2, L2, k2, n2⟩, -, X2, ⟨Lc2, hQ2, l2, y2, z2⟩, st2⟩ := Jvm.LawKit.callS X1 hx (y := (⟨"com/example/robust_backoff/robustbackoff/util/SplitMix64NextLongPinLaw", "inverseOdd", "(J)J"⟩ : MethodName)) hown (mvT hZ (hw _ (List.mem_of_getElem? (i := 25) rfl))) (mvT hZ (hw _ (List.mem_of_getElem? (i := 26) rfl))) (mvT hZ (hw _ (List.mem_of_getElem? (i := 22) rfl))) (mvT hZ (hw _ (List.mem_of_getElem? (i := 27) rfl))) (by decide) (backOf (W := 2) (rm5 l Z a0 hw [] (-4658895280553007687 : Int64) h0 n0 Z0) hZ (hw _ (List.mem_of_getElem? (i := 27) rfl)) (hw _ (List.mem_of_getElem? (i := 22) rfl)) (by decide) (by decide)) (g := (mkF m 39 #[.val (.long q1), .second, .val (.long (own_z3 q1)), .second] [(.long (-4658895280553007687 : Int64)), (.long (own_z3 q1))])) rfl (by rw [hml]; rfl) (argsL := [(.long (-4658895280553007687 : Int64))]) (rest := [(.long (own_z3 q1))]) (lenOf pd_1 rfl) rfl (by show 2 * 0 + _ ≤ _; exact Nat.le_of_eq rfl) (hb hby d4_39) (fun _ _ => ⟨rfl, e1, (by decide : 0 + 0 ≤ _), (by decide : 0 + 0 ≤ _)⟩)
  dsimp only [Pt.U, Pt.locs, Pt.cells, Pt.slots] at X2 l2 y2 z2 st2 hQ2
  subst l2 y2 z2
  obtain ⟨rfl, N2q, e2⟩ := hQ2
  have N2 := Fr.app N1 N2q
  refine Go.on st2 ?_
  show Go p e below _ (T2.setTop (mkF m 42 #[.val (.long q1), .second, .val (.long (own_z3 q1)), .second] [(.long (own_inv (-4658895280553007687 : Int64))), (.long (own_z3 q1))]))
  refine Go.on (fun t k => XS.lmul X2.here hx rfl (hb hby d4_42) rfl k) ?_
  show Go p e below _ (T2.setTop (mkF m 43 #[.val (.long q1), .second, .val (.long (own_z3 q1)), .second] [(.long (own_z4 q1))]))
  refine Go.on (fun t k => XS.lstoreN X2.here hx rfl (hb hby d4_43) rfl (l' := #[.val (.long q1), .second, .val (.long (own_z4 q1)), .second]) rfl k) ?_
  show Go p e below _ (T2.setTop (mkF m 44 #[.val (.long q1), .second, .val (.long (own_z4 q1)), .second] []))
  refine Go.on (fun t k => XS.lloadN X2.here hx rfl (hb hby d4_44) rfl k) ?_
  show Go p e below _ (T2.setTop (mkF m 45 #[.val (.long q1), .second, .val (.long (own_z4 q1)), .second] [(.long (own_z4 q1))]))
  refine Go.on (fun t k => XS.lloadN X2.here hx rfl (hb hby d4_45) rfl k) ?_
  show Go p e below _ (T2.setTop (mkF m 46 #[.val (.long q1), .second, .val (.long (own_z4 q1)), .second] [(.long (own_z4 q1)), (.long (own_z4 q1))]))
  refine Go.on (fun t k => XS.bipush X2.here hx rfl (hb hby d4_46) k) ?_
  show Go p e below _ (T2.setTop (mkF m 48 #[.val (.long q1), .second, .val (.long (own_z4 q1)), .second] [(.int (30 : Int32)), (.long (own_z4 q1)), (.long (own_z4 q1))]))
  refine Go.on (fun t k => XS.lushr X2.here hx rfl (hb hby d4_48) rfl k) ?_
  show Go p e below _ (T2.setTop (mkF m 49 #[.val (.long q1), .second, .val (.long (own_z4 q1)), .second] [(.long (ushrJ (own_z4 q1) (30 : Int32))), (.long (own_z4 q1))]))
  refine Go.on (fun t k => XS.lxor X2.here hx rfl (hb hby d4_49) rfl k) ?_
  show Go p e below _ (T2.setTop (mkF m 50 #[.val (.long q1), .second, .val (.long (own_z4 q1)), .second] [(.long ((own_z4 q1) ^^^ (ushrJ (own_z4 q1) (30 : Int32))))]))
  refine Go.on (fun t k => XS.lloadN X2.here hx rfl (hb hby d4_50) rfl k) ?_
  show Go p e below _ (T2.setTop (mkF m 51 #[.val (.long q1), .second, .val (.long (own_z4 q1)), .second] [(.long (own_z4 q1)), (.long ((own_z4 q1) ^^^ (ushrJ (own_z4 q1) (30 : Int32))))]))
  refine Go.on (fun t k => XS.bipush X2.here hx rfl (hb hby d4_51) k) ?_
  show Go p e below _ (T2.setTop (mkF m 53 #[.val (.long q1), .second, .val (.long (own_z4 q1)), .second] [(.int (60 : Int32)), (.long (own_z4 q1)), (.long ((own_z4 q1) ^^^ (ushrJ (own_z4 q1) (30 : Int32))))]))
  refine Go.on (fun t k => XS.lushr X2.here hx rfl (hb hby d4_53) rfl k) ?_
  show Go p e below _ (T2.setTop (mkF m 54 #[.val (.long q1), .second, .val (.long (own_z4 q1)), .second] [(.long (ushrJ (own_z4 q1) (60 : Int32))), (.long ((own_z4 q1) ^^^ (ushrJ (own_z4 q1) (30 : Int32))))]))
  refine Go.on (fun t k => XS.lxor X2.here hx rfl (hb hby d4_54) rfl k) ?_
  show Go p e below _ (T2.setTop (mkF m 55 #[.val (.long q1), .second, .val (.long (own_z4 q1)), .second] [(.long (own_z5 q1))]))
  refine Go.on (fun t k => XS.lstoreN X2.here hx rfl (hb hby d4_55) rfl (l' := #[.val (.long q1), .second, .val (.long (own_z5 q1)), .second]) rfl k) ?_
  show Go p e below _ (T2.setTop (mkF m 56 #[.val (.long q1), .second, .val (.long (own_z5 q1)), .second] []))
  refine Go.on (fun t k => XS.lloadN X2.here hx rfl (hb hby d4_56) rfl k) ?_
  show Go p e below _ (T2.setTop (mkF m 57 #[.val (.long q1), .second, .val (.long (own_z5 q1)), .second] [(.long (own_z5 q1))]))
  exact Go.retJ X2 hx hlk hret (hb hby d4_57) (Nat.le_refl _) (Nat.le_refl _) (show Q4 q1 h0 n0 _ _ _ from ⟨rfl, N2, e2⟩)
def Q0 (n0 : Nat) (v : Option Value) (h : Heap) (L : List Loc) : Prop := v = some (.int 1) ∧ Fr n0 L
theorem pn_0 : plainFor x = true := by first | exact plainFor_of_name (by first | (simp [plainName, overriddenIn]; done) | decide +kernel) | decide +kernel
theorem ef_0 (m : MethodId) (x0 : Int64) : entryFrame m #[(.long x0)] maxLocals = mkF m 0 #[.val (.long x0), .second, .unset, .unset, .unset, .unset, .unset, .unset, .unset, .unset, .unset, .unset, .unset, .unset] [] := by first | (simp [entryFrame, mkF, argsToLocals, Value.category, maxLocals]; done) | rfl
set_option maxRecDepth 65536 in
set_option maxHeartbeats 40000000 in
theorem rm0 (l : Launch) (Z : State) (a0 : Array Value) (hw : ∀ d ∈ tables_1, d.before a0 Z = true) (ws : List Jvm.Cond) (q1 : Int64) (h0 : Heap) (n0 : Nat) (Z0 : n0 ≤ h0.size)  :
    MetFree l x (head1 (Jvm.Cond.code x code maxLocals ret :: ws) room_1) (fun a U => a = #[(.long q1)] ∧ Z.Warmed39 U.vm ∧ U.heap = h0) (fun _ _ _ _ _ => True) (fun _ U o U' => ∃ v L, o = .returned v ∧ Q0 n0 v U'.heap L ∧ FrameEnd U o U' L 16 128) := by
  refine MetFree.of_bodySF pn_0 hisR ?_
  intro p e s m args below meth c s₁ Bd hml0 hP hK
  obtain ⟨rfl, hZ, hh⟩ := hP
  have hx := Bd.exec
  have hby := Bd.bytes
  have hlk := Bd.notSynchronized
  have hret := Bd.returns
  have hml : c.maxLocals = 14 := hml0
  have hown : s.vm.findClass "com/example/robust_backoff/robustbackoff/util/SplitMix64NextLongPinLaw" = some m.cls := findClass_of_methodNamed Bd.named
  have hnm := (name_of_methodNamed Bd.named Bd.method).1
  have X0 : Stand p l e room_1 s m #[(.long q1)] below meth c s₁ [] 0 0 := Stand.of_body Bd
  have e0 : s₁.heap = h0 := by rw [← hh, Bd.state]; rfl
  have N0 := Fr.nil n0
  show Go p e below (Pst s (Q0 n0) 16 128) (s₁.setTop (entryFrame m #[(.long q1)] maxLocals))
  refine Go.on (fun t k => castTop (ef_0 m q1) k) ?_
  show Go p e below _ (s₁.setTop (mkF m 0 #[.val (.long q1), .second, .unset, .unset, .unset, .unset, .unset, .unset, .unset, .unset, .unset, .unset, .unset, .unset] []))
  refine Go.on (fun t k => X0.ldc2Long hx hown (mvT hZ (hw _ (List.mem_of_getElem? (i := 0) rfl))) (g := (mkF m 0 #[.val (.long q1), .second, .unset, .unset, .unset, .unset, .unset, .unset, .unset, .unset, .unset, .unset, .unset, .unset] [])) rfl (hb hby at_0) _ k) ?_
  show Go p e below _ (s₁.setTop (mkF m 3 #[.val (.long q1), .second, .unset, .unset, .unset, .unset, .unset, .unset, .unset, .unset, .unset, .unset, .unset, .unset] [(.long (-7046029254386353131 : Int64))]))
  refine Go.on (fun t k => XS.lstoreN X0.here hx rfl (hb hby at_3) rfl (l' := #[.val (.long q1), .second, .val (.long (-7046029254386353131 : Int64)), .second, .unset, .unset, .unset, .unset, .unset, .unset, .unset, .unset, .unset, .unset]) rfl k) ?_
  show Go p e below _ (s₁.setTop (mkF m 4 #[.val (.long q1), .second, .val (.long (-7046029254386353131 : Int64)), .second, .unset, .unset, .unset, .unset, .unset, .unset, .unset, .unset, .unset, .unset] []))
  obtain ⟨T1, h1, X1, e1, E1, A1, D1, -, st1⟩ := newO X0 hx hZ hown (hw _ (List.mem_of_getElem? (i := 1) rfl)) (hw _ (List.mem_of_getElem? (i := 2) rfl)) (hw _ (List.mem_of_getElem? (i := 3) rfl)) e0 (g := (mkF m 4 #[.val (.long q1), .second, .val (.long (-7046029254386353131 : Int64)), .second, .unset, .unset, .unset, .unset, .unset, .unset, .unset, .unset, .unset, .unset] [])) rfl (hb hby at_4) (by decide) (by decide)
  obtain ⟨a1, g1⟩ : ∃ z, z = h0.size := ⟨_, rfl⟩
  rw [← g1] at A1 D1 st1
  have Z1 : n0 ≤ h1.size := Nat.le_trans Z0 E1.1
  have G1 : n0 ≤ a1 := Nat.le_trans Z0 (Nat.le_of_eq g1.symm)
  refine Go.on st1 ?_
  show Go p e below _ (T1.setTop (mkF m 7 #[.val (.long q1), .second, .val (.long (-7046029254386353131 : Int64)), .second, .unset, .unset, .unset, .unset, .unset, .unset, .unset, .unset, .unset, .unset] [(.ref a1)]))
  have F1 : Fld Z h1 a1 "com/example/robust_backoff/robustbackoff/util/SplitMix64" "state" "J" (.long (0 : Int64)) := (D1 (Or.inl (hw _ (List.mem_of_getElem? (i := 11) rfl))) (ty := .long) (by decide))
  refine Go.on (fun t k => XS.dup X1.here hx rfl (hb hby at_7) rfl rfl k) ?_
  show Go p e below _ (T1.setTop (mkF m 8 #[.val (.long q1), .second, .val (.long (-7046029254386353131 : Int64)), .second, .unset, .unset, .unset, .unset, .unset, .unset, .unset, .unset, .unset, .unset] [(.ref a1), (.ref a1)]))
  refine Go.on (fun t k => XS.lloadN X1.here hx rfl (hb hby at_8) rfl k) ?_
  show Go p e below _ (T1.setTop (mkF m 9 #[.val (.long q1), .second, .val (.long (-7046029254386353131 : Int64)), .second, .unset, .unset, .unset, .unset, .unset, .unset, .unset, .unset, .unset, .unset] [(.long q1), (.ref a1), (.ref a1)]))
  obtain ⟨_, _, ⟨T2, L2, k2, n2⟩, -, X2, ⟨Lc2, hQ2, l2, y2, z2⟩, st2⟩ := X1.specialBack hx (y := (⟨"com/example/robust_backoff/robustbackoff/util/SplitMix64", "<init>", "(J)V"⟩ : MethodName)) rfl hown (mvT hZ (hw _ (List.mem_of_getElem? (i := 4) rfl))) (mvT hZ (hw _ (List.mem_of_getElem? (i := 5) rfl))) (mvT hZ (hw _ (List.mem_of_getElem? (i := 6) rfl))) (by decide) (backOf (W := 1) (rm1 l Z a0 hw [] a1 q1 _ h1 n0 Z1 A1 F1 G1) hZ (hw _ (List.mem_of_getElem? (i := 6) rfl)) (hw _ (List.mem_of_getElem? (i := 3) rfl)) (by decide) (by decide)) (g := (mkF m 9 #[.val (.long q1), .second, .val (.long (-7046029254386353131 : Int64)), .second, .unset, .unset, .unset, .unset, .unset, .unset, .unset, .unset, .unset, .unset] [(.long q1), (.ref a1), (.ref a1)])) rfl (by rw [hml]; rfl) (Steps.refl _) (a := a1) (argsL := [(.long q1)]) (rest := [(.ref a1)]) (lenOf pd_2 rfl) rfl (by show 2 * 0 + _ ≤ _; exact Nat.le_of_eq rfl) (hb hby at_9) (fun _ _ => ⟨rfl, e1, (by decide : 1 + 0 ≤ _), (by decide : 1 + 0 ≤ _)⟩)
  dsimp only [Pt.U, Pt.locs, Pt.cells, Pt.slots] at X2 l2 y2 z2 st2 hQ2
  subst l2 y2 z2
  obtain ⟨rfl, N2q, K2, A2, F2⟩ := hQ2
  have N2 := Fr.app N0 N2q
  refine Go.st st2 ?_
  show Go p e below _ (T2.setTop (mkF m 12 #[.val (.long q1), .second, .val (.long (-7046029254386353131 : Int64)), .second, .unset, .unset, .unset, .unset, .unset, .unset, .unset, .unset, .unset, .unset] [(.ref a1)]))
  have Z2 : n0 ≤ T2.heap.size := Nat.le_trans Z1 K2.1
  refine Go.on (fun t k => XS.astore X2.here hx rfl (hb hby at_12) rfl rfl (l' := #[.val (.long q1), .second, .val (.long (-7046029254386353131 : Int64)), .second, .val (.ref a1), .unset, .unset, .unset, .unset, .unset, .unset, .unset, .unset, .unset]) rfl k) ?_
  show Go p e below _ (T2.setTop (mkF m 14 #[.val (.long q1), .second, .val (.long (-7046029254386353131 : Int64)), .second, .val (.ref a1), .unset, .unset, .unset, .unset, .unset, .unset, .unset, .unset, .unset] []))
  refine Go.on (fun t k => XS.aload X2.here hx rfl (hb hby at_14) rfl rfl k) ?_
  show Go p e below _ (T2.setTop (mkF m 16 #[.val (.long q1), .second, .val (.long (-7046029254386353131 : Int64)), .second, .val (.ref a1), .unset, .unset, .unset, .unset, .unset, .unset, .unset, .unset, .unset] [(.ref a1)]))
  obtain ⟨cq3, kq3, q3a, q3b, q3c⟩ := isOf hZ (rfl : T2.heap = T2.heap) A2
  obtain ⟨_, _, ⟨T3, L3, k3, n3⟩, -, X3, ⟨Lc3, hQ3, l3, y3, z3⟩, st3⟩ := X2.virtualBack hx (y := (⟨"com/example/robust_backoff/robustbackoff/util/SplitMix64", "nextLong", "()J"⟩ : MethodName)) (z := (⟨"com/example/robust_backoff/robustbackoff/util/SplitMix64", "nextLong", "()J"⟩ : MethodName)) hown (mvT hZ (hw _ (List.mem_of_getElem? (i := 12) rfl))) (mvT hZ (hw _ (List.mem_of_getElem? (i := 13) rfl))) (notFace_of_selects (args := #[]) (mvT hZ (hw _ (List.mem_of_getElem? (i := 15) rfl)))) (mvT hZ (hw _ (List.mem_of_getElem? (i := 15) rfl))) (mvT hZ (hw _ (List.mem_of_getElem? (i := 14) rfl))) (by decide) (backOf (W := 0) (rm3 l Z a0 hw [] a1 q1 T2.heap n0 Z2 F2 A2 G1) hZ (hw _ (List.mem_of_getElem? (i := 16) rfl)) (hw _ (List.mem_of_getElem? (i := 3) rfl)) (by decide) (by decide)) q3a q3c (g := (mkF m 16 #[.val (.long q1), .second, .val (.long (-7046029254386353131 : Int64)), .second, .val (.ref a1), .unset, .unset, .unset, .unset, .unset, .unset, .unset, .unset, .unset] [(.ref a1)])) rfl (by rw [hml]; rfl) (Steps.refl _) (argsL := []) (rest := []) (lenOf pd_3 rfl) rfl (by show 2 * 0 + _ ≤ _; exact Nat.le_of_eq rfl) (hb hby at_16) (fun _ _ => ⟨rfl, (rfl : T2.heap = T2.heap), (by decide : 1 + 0 ≤ _), (by decide : 1 + 0 ≤ _)⟩)
  dsimp only [Pt.U, Pt.locs, Pt.cells, Pt.slots] at X3 l3 y3 z3 st3 hQ3
  subst l3 y3 z3
  obtain ⟨rfl, N3q, K3, A3, F3⟩ := hQ3
  have N3 := Fr.app N2 N3q
  refine Go.st st3 ?_
  show Go p e below _ (T3.setTop (mkF m 19 #[.val (.long q1), .second, .val (.long (-7046029254386353131 : Int64)), .second, .val (.ref a1), .unset, .unset, .unset, .unset, .unset, .unset, .unset, .unset, .unset] [(.long (own_mix (q1 + (-7046029254386353131 : Int64))))]))
  have Z3 : n0 ≤ T3.heap.size := Nat.le_trans Z2 K3.1
  refine Go.on (fun t k => XS.lstore X3.here hx rfl (hb hby at_19) rfl (l' := #[.val (.long q1), .second, .val (.long (-7046029254386353131 : Int64)), .second, .val (.ref a1), .val (.long (own_mix (q1 + (-7046029254386353131 : Int64)))), .second, .unset, .unset, .unset, .unset, .unset, .unset, .unset]) rfl k) ?_
  show Go p e below _ (T3.setTop (mkF m 21 #[.val (.long q1), .second, .val (.long (-7046029254386353131 : Int64)), .second, .val (.ref a1), .val (.long (own_mix (q1 + (-7046029254386353131 : Int64)))), .second, .unset, .unset, .unset, .unset, .unset, .unset, .unset] []))
  refine Go.on (fun t k => XS.aload X3.here hx rfl (hb hby at_21) rfl rfl k) ?_
  show Go p e below _ (T3.setTop (mkF m 23 #[.val (.long q1), .second, .val (.long (-7046029254386353131 : Int64)), .second, .val (.ref a1), .val (.long (own_mix (q1 + (-7046029254386353131 : Int64)))), .second, .unset, .unset, .unset, .unset, .unset, .unset, .unset] [(.ref a1)]))
  obtain ⟨cq4, kq4, q4a, q4b, q4c⟩ := isOf hZ (rfl : T3.heap = T3.heap) A3
  obtain ⟨_, _, ⟨T4, L4, k4, n4⟩, -, X4, ⟨Lc4, hQ4, l4, y4, z4⟩, st4⟩ := X3.virtualBack hx (y := (⟨"com/example/robust_backoff/robustbackoff/util/SplitMix64", "nextLong", "()J"⟩ : MethodName)) (z := (⟨"com/example/robust_backoff/robustbackoff/util/SplitMix64", "nextLong", "()J"⟩ : MethodName)) hown (mvT hZ (hw _ (List.mem_of_getElem? (i := 12) rfl))) (mvT hZ (hw _ (List.mem_of_getElem? (i := 13) rfl))) (notFace_of_selects (args := #[]) (mvT hZ (hw _ (List.mem_of_getElem? (i := 15) rfl)))) (mvT hZ (hw _ (List.mem_of_getElem? (i := 15) rfl))) (mvT hZ (hw _ (List.mem_of_getElem? (i := 14) rfl))) (by decide) (backOf (W := 0) (rm3 l Z a0 hw [] a1 (q1 + (-7046029254386353131 : Int64)) T3.heap n0 Z3 F3 A3 G1) hZ (hw _ (List.mem_of_getElem? (i := 16) rfl)) (hw _ (List.mem_of_getElem? (i := 3) rfl)) (by decide) (by decide)) q4a q4c (g := (mkF m 23 #[.val (.long q1), .second, .val (.long (-7046029254386353131 : Int64)), .second, .val (.ref a1), .val (.long (own_mix (q1 + (-7046029254386353131 : Int64)))), .second, .unset, .unset, .unset, .unset, .unset, .unset, .unset] [(.ref a1)])) rfl (by rw [hml]; rfl) (Steps.refl _) (argsL := []) (rest := []) (lenOf pd_3 rfl) rfl (by show 2 * 0 + _ ≤ _; exact Nat.le_of_eq rfl) (hb hby at_23) (fun _ _ => ⟨rfl, (rfl : T3.heap = T3.heap), (by decide : 1 + 0 ≤ _), (by decide : 1 + 0 ≤ _)⟩)
  dsimp only [Pt.U, Pt.locs, Pt.cells, Pt.slots] at X4 l4 y4 z4 st4 hQ4
  subst l4 y4 z4
  obtain ⟨rfl, N4q, K4, A4, F4⟩ := hQ4
  have N4 := Fr.app N3 N4q
  refine Go.st st4 ?_
  show Go p e below _ (T4.setTop (mkF m 26 #[.val (.long q1), .second, .val (.long (-7046029254386353131 : Int64)), .second, .val (.ref a1), .val (.long (own_mix (q1 + (-7046029254386353131 : Int64)))), .second, .unset, .unset, .unset, .unset, .unset, .unset, .unset] [(.long (own_mix ((q1 + (-7046029254386353131 : Int64)) + (-7046029254386353131 : Int64))))]))
  have Z4 : n0 ≤ T4.heap.size := Nat.le_trans Z3 K4.1
  refine Go.on (fun t k => XS.lstore X4.here hx rfl (hb hby at_26) rfl (l' := #[.val (.long q1), .second, .val (.long (-7046029254386353131 : Int64)), .second, .val (.ref a1), .val (.long (own_mix (q1 + (-7046029254386353131 : Int64)))), .second, .val (.long (own_mix ((q1 + (-7046029254386353131 : Int64)) + (-7046029254386353131 : Int64)))), .second, .unset, .unset, .unset, .unset, .unset]) rfl k) ?_
  show Go p e below _ (T4.setTop (mkF m 28 #[.val (.long q1), .second, .val (.long (-7046029254386353131 : Int64)), .second, .val (.ref a1), .val (.long (own_mix (q1 + (-7046029254386353131 : Int64)))), .second, .val (.long (own_mix ((q1 + (-7046029254386353131 : Int64)) + (-7046029254386353131 : Int64)))), .second, .unset, .unset, .unset, .unset, .unset] []))
  refine Go.on (fun t k => XS.aload X4.here hx rfl (hb hby at_28) rfl rfl k) ?_
  show Go p e below _ (T4.setTop (mkF m 30 #[.val (.long q1), .second, .val (.long (-7046029254386353131 : Int64)), .second, .val (.ref a1), .val (.long (own_mix (q1 + (-7046029254386353131 : Int64)))), .second, .val (.long (own_mix ((q1 + (-7046029254386353131 : Int64)) + (-7046029254386353131 : Int64)))), .second, .unset, .unset, .unset, .unset, .unset] [(.ref a1)]))
  obtain ⟨cq5, kq5, q5a, q5b, q5c⟩ := isOf hZ (rfl : T4.heap = T4.heap) A4
  obtain ⟨_, _, ⟨T5, L5, k5, n5⟩, -, X5, ⟨Lc5, hQ5, l5, y5, z5⟩, st5⟩ := X4.virtualBack hx (y := (⟨"com/example/robust_backoff/robustbackoff/util/SplitMix64", "nextLong", "()J"⟩ : MethodName)) (z := (⟨"com/example/robust_backoff/robustbackoff/util/SplitMix64", "nextLong", "()J"⟩ : MethodName)) hown (mvT hZ (hw _ (List.mem_of_getElem? (i := 12) rfl))) (mvT hZ (hw _ (List.mem_of_getElem? (i := 13) rfl))) (notFace_of_selects (args := #[]) (mvT hZ (hw _ (List.mem_of_getElem? (i := 15) rfl)))) (mvT hZ (hw _ (List.mem_of_getElem? (i := 15) rfl))) (mvT hZ (hw _ (List.mem_of_getElem? (i := 14) rfl))) (by decide) (backOf (W := 0) (rm3 l Z a0 hw [] a1 ((q1 + (-7046029254386353131 : Int64)) + (-7046029254386353131 : Int64)) T4.heap n0 Z4 F4 A4 G1) hZ (hw _ (List.mem_of_getElem? (i := 16) rfl)) (hw _ (List.mem_of_getElem? (i := 3) rfl)) (by decide) (by decide)) q5a q5c (g := (mkF m 30 #[.val (.long q1), .second, .val (.long (-7046029254386353131 : Int64)), .second, .val (.ref a1), .val (.long (own_mix (q1 + (-7046029254386353131 : Int64)))), .second, .val (.long (own_mix ((q1 + (-7046029254386353131 : Int64)) + (-7046029254386353131 : Int64)))), .second, .unset, .unset, .unset, .unset, .unset] [(.ref a1)])) rfl (by rw [hml]; rfl) (Steps.refl _) (argsL := []) (rest := []) (lenOf pd_3 rfl) rfl (by show 2 * 0 + _ ≤ _; exact Nat.le_of_eq rfl) (hb hby at_30) (fun _ _ => ⟨rfl, (rfl : T4.heap = T4.heap), (by decide : 1 + 0 ≤ _), (by decide : 1 + 0 ≤ _)⟩)
  dsimp only [Pt.U, Pt.locs, Pt.cells, Pt.slots] at X5 l5 y5 z5 st5 hQ5
  subst l5 y5 z5
  obtain ⟨rfl, N5q, K5, A5, F5⟩ := hQ5
  have N5 := Fr.app N4 N5q
  refine Go.st st5 ?_
  show Go p e below _ (T5.setTop (mkF m 33 #[.val (.long q1), .second, .val (.long (-7046029254386353131 : Int64)), .second, .val (.ref a1), .val (.long (own_mix (q1 + (-7046029254386353131 : Int64)))), .second, .val (.long (own_mix ((q1 + (-7046029254386353131 : Int64)) + (-7046029254386353131 : Int64)))), .second, .unset, .unset, .unset, .unset, .unset] [(.long (own_mix (((q1 + (-7046029254386353131 : Int64)) + (-7046029254386353131 : Int64)) + (-7046029254386353131 : Int64))))]))
  have Z5 : n0 ≤ T5.heap.size := Nat.le_trans Z4 K5.1
  refine Go.on (fun t k => XS.lstore X5.here hx rfl (hb hby at_33) rfl (l' := #[.val (.long q1), .second, .val (.long (-7046029254386353131 : Int64)), .second, .val (.ref a1), .val (.long (own_mix (q1 + (-7046029254386353131 : Int64)))), .second, .val (.long (own_mix ((q1 + (-7046029254386353131 : Int64)) + (-7046029254386353131 : Int64)))), .second, .val (.long (own_mix (((q1 + (-7046029254386353131 : Int64)) + (-7046029254386353131 : Int64)) + (-7046029254386353131 : Int64)))), .second, .unset, .unset, .unset]) rfl k) ?_
  show Go p e below _ (T5.setTop (mkF m 35 #[.val (.long q1), .second, .val (.long (-7046029254386353131 : Int64)), .second, .val (.ref a1), .val (.long (own_mix (q1 + (-7046029254386353131 : Int64)))), .second, .val (.long (own_mix ((q1 + (-7046029254386353131 : Int64)) + (-7046029254386353131 : Int64)))), .second, .val (.long (own_mix (((q1 + (-7046029254386353131 : Int64)) + (-7046029254386353131 : Int64)) + (-7046029254386353131 : Int64)))), .second, .unset, .unset, .unset] []))
  refine Go.on (fun t k => XS.lload X5.here hx rfl (hb hby at_35) rfl k) ?_
  show Go p e below _ (T5.setTop (mkF m 37 #[.val (.long q1), .second, .val (.long (-7046029254386353131 : Int64)), .second, .val (.ref a1), .val (.long (own_mix (q1 + (-7046029254386353131 : Int64)))), .second, .val (.long (own_mix ((q1 + (-7046029254386353131 : Int64)) + (-7046029254386353131 : Int64)))), .second, .val (.long (own_mix (((q1 + (-7046029254386353131 : Int64)) + (-7046029254386353131 : Int64)) + (-7046029254386353131 : Int64)))), .second, .unset, .unset, .unset] [(.long (own_mix (q1 + (-7046029254386353131 : Int64))))]))
  obtain ⟨_, _, ⟨T6, L6, k6, n6⟩, -, X6, ⟨Lc6, hQ6, l6, y6, z6⟩, st6⟩ := Jvm.LawKit.callS X5 hx (y := (⟨"com/example/robust_backoff/robustbackoff/util/SplitMix64NextLongPinLaw", "unmix", "(J)J"⟩ : MethodName)) hown (mvT hZ (hw _ (List.mem_of_getElem? (i := 20) rfl))) (mvT hZ (hw _ (List.mem_of_getElem? (i := 21) rfl))) (mvT hZ (hw _ (List.mem_of_getElem? (i := 22) rfl))) (mvT hZ (hw _ (List.mem_of_getElem? (i := 23) rfl))) (by decide) (backOf (W := 0) (rm4 l Z a0 hw [] (own_mix (q1 + (-7046029254386353131 : Int64))) T5.heap n0 Z5) hZ (hw _ (List.mem_of_getElem? (i := 23) rfl)) (hw _ (List.mem_of_getElem? (i := 22) rfl)) (by decide) (by decide)) (g := (mkF m 37 #[.val (.long q1), .second, .val (.long (-7046029254386353131 : Int64)), .second, .val (.ref a1), .val (.long (own_mix (q1 + (-7046029254386353131 : Int64)))), .second, .val (.long (own_mix ((q1 + (-7046029254386353131 : Int64)) + (-7046029254386353131 : Int64)))), .second, .val (.long (own_mix (((q1 + (-7046029254386353131 : Int64)) + (-7046029254386353131 : Int64)) + (-7046029254386353131 : Int64)))), .second, .unset, .unset, .unset] [(.long (own_mix (q1 + (-7046029254386353131 : Int64))))])) rfl (by rw [hml]; rfl) (argsL := [(.long (own_mix (q1 + (-7046029254386353131 : Int64))))]) (rest := []) (lenOf pd_1 rfl) rfl (by show 2 * 0 + _ ≤ _; exact Nat.le_of_eq rfl) (hb hby at_37) (fun _ _ => ⟨rfl, (rfl : T5.heap = T5.heap), (by decide : 1 + 0 ≤ _), (by decide : 1 + 0 ≤ _)⟩)
  dsimp only [Pt.U, Pt.locs, Pt.cells, Pt.slots] at X6 l6 y6 z6 st6 hQ6
  subst l6 y6 z6
  obtain ⟨rfl, N6q, e6⟩ := hQ6
  have N6 := Fr.app N5 N6q
  refine Go.on st6 ?_
  show Go p e below _ (T6.setTop (mkF m 40 #[.val (.long q1), .second, .val (.long (-7046029254386353131 : Int64)), .second, .val (.ref a1), .val (.long (own_mix (q1 + (-7046029254386353131 : Int64)))), .second, .val (.long (own_mix ((q1 + (-7046029254386353131 : Int64)) + (-7046029254386353131 : Int64)))), .second, .val (.long (own_mix (((q1 + (-7046029254386353131 : Int64)) + (-7046029254386353131 : Int64)) + (-7046029254386353131 : Int64)))), .second, .unset, .unset, .unset] [(.long (own_z5 (own_mix (q1 + (-7046029254386353131 : Int64)))))]))
  have Z6 : n0 ≤ T6.heap.size := by rw [e6]; exact Z5
  refine Go.on (fun t k => XS.lloadN X6.here hx rfl (hb hby at_40) rfl k) ?_
  show Go p e below _ (T6.setTop (mkF m 41 #[.val (.long q1), .second, .val (.long (-7046029254386353131 : Int64)), .second, .val (.ref a1), .val (.long (own_mix (q1 + (-7046029254386353131 : Int64)))), .second, .val (.long (own_mix ((q1 + (-7046029254386353131 : Int64)) + (-7046029254386353131 : Int64)))), .second, .val (.long (own_mix (((q1 + (-7046029254386353131 : Int64)) + (-7046029254386353131 : Int64)) + (-7046029254386353131 : Int64)))), .second, .unset, .unset, .unset] [(.long q1), (.long (own_z5 (own_mix (q1 + (-7046029254386353131 : Int64)))))]))
  refine Go.on (fun t k => XS.lloadN X6.here hx rfl (hb hby at_41) rfl k) ?_
  show Go p e below _ (T6.setTop (mkF m 42 #[.val (.long q1), .second, .val (.long (-7046029254386353131 : Int64)), .second, .val (.ref a1), .val (.long (own_mix (q1 + (-7046029254386353131 : Int64)))), .second, .val (.long (own_mix ((q1 + (-7046029254386353131 : Int64)) + (-7046029254386353131 : Int64)))), .second, .val (.long (own_mix (((q1 + (-7046029254386353131 : Int64)) + (-7046029254386353131 : Int64)) + (-7046029254386353131 : Int64)))), .second, .unset, .unset, .unset] [(.long (-7046029254386353131 : Int64)), (.long q1), (.long (own_z5 (own_mix (q1 + (-7046029254386353131 : Int64)))))]))
  refine Go.on (fun t k => XS.ladd X6.here hx rfl (hb hby at_42) rfl k) ?_
  show Go p e below _ (T6.setTop (mkF m 43 #[.val (.long q1), .second, .val (.long (-7046029254386353131 : Int64)), .second, .val (.ref a1), .val (.long (own_mix (q1 + (-7046029254386353131 : Int64)))), .second, .val (.long (own_mix ((q1 + (-7046029254386353131 : Int64)) + (-7046029254386353131 : Int64)))), .second, .val (.long (own_mix (((q1 + (-7046029254386353131 : Int64)) + (-7046029254386353131 : Int64)) + (-7046029254386353131 : Int64)))), .second, .unset, .unset, .unset] [(.long (q1 + (-7046029254386353131 : Int64))), (.long (own_z5 (own_mix (q1 + (-7046029254386353131 : Int64)))))]))
  refine Go.on (fun t k => XS.lcmp X6.here hx rfl (hb hby at_43) rfl k) ?_
  show Go p e below _ (T6.setTop (mkF m 44 #[.val (.long q1), .second, .val (.long (-7046029254386353131 : Int64)), .second, .val (.ref a1), .val (.long (own_mix (q1 + (-7046029254386353131 : Int64)))), .second, .val (.long (own_mix ((q1 + (-7046029254386353131 : Int64)) + (-7046029254386353131 : Int64)))), .second, .val (.long (own_mix (((q1 + (-7046029254386353131 : Int64)) + (-7046029254386353131 : Int64)) + (-7046029254386353131 : Int64)))), .second, .unset, .unset, .unset] [(.int (lcmpW (own_z5 (own_mix (q1 + (-7046029254386353131 : Int64)))) (q1 + (-7046029254386353131 : Int64))))]))
  refine Go.on (fun t k => XS.ifNo X6.here hx rfl (hb hby at_44) rfl ((if0 _ _).trans (teq ((lw_eq _ _).mpr (by rw [own_un] : (own_z5 (own_mix (q1 + (-7046029254386353131 : Int64)))) = (q1 + (-7046029254386353131 : Int64))))).2) k) ?_
  show Go p e below _ (T6.setTop (mkF m 47 #[.val (.long q1), .second, .val (.long (-7046029254386353131 : Int64)), .second, .val (.ref a1), .val (.long (own_mix (q1 + (-7046029254386353131 : Int64)))), .second, .val (.long (own_mix ((q1 + (-7046029254386353131 : Int64)) + (-7046029254386353131 : Int64)))), .second, .val (.long (own_mix (((q1 + (-7046029254386353131 : Int64)) + (-7046029254386353131 : Int64)) + (-7046029254386353131 : Int64)))), .second, .unset, .unset, .unset] []))
  refine Go.on (fun t k => XS.iconst X6.here hx rfl (hb hby at_47) k) ?_
  show Go p e below _ (T6.setTop (mkF m 48 #[.val (.long q1), .second, .val (.long (-7046029254386353131 : Int64)), .second, .val (.ref a1), .val (.long (own_mix (q1 + (-7046029254386353131 : Int64)))), .second, .val (.long (own_mix ((q1 + (-7046029254386353131 : Int64)) + (-7046029254386353131 : Int64)))), .second, .val (.long (own_mix (((q1 + (-7046029254386353131 : Int64)) + (-7046029254386353131 : Int64)) + (-7046029254386353131 : Int64)))), .second, .unset, .unset, .unset] [(.int (1 : Int32))]))
  refine Go.on (fun t k => XS.goto X6.here hx rfl (pc0 := 48) (pc' := 52) rfl (hb hby at_48) (by decide) (by decide) k) ?_
  show Go p e below _ (T6.setTop (mkF m 52 #[.val (.long q1), .second, .val (.long (-7046029254386353131 : Int64)), .second, .val (.ref a1), .val (.long (own_mix (q1 + (-7046029254386353131 : Int64)))), .second, .val (.long (own_mix ((q1 + (-7046029254386353131 : Int64)) + (-7046029254386353131 : Int64)))), .second, .val (.long (own_mix (((q1 + (-7046029254386353131 : Int64)) + (-7046029254386353131 : Int64)) + (-7046029254386353131 : Int64)))), .second, .unset, .unset, .unset] [(.int (1 : Int32))]))
  refine Go.on (fun t k => XS.istore X6.here hx rfl (hb hby at_52) rfl (l' := #[.val (.long q1), .second, .val (.long (-7046029254386353131 : Int64)), .second, .val (.ref a1), .val (.long (own_mix (q1 + (-7046029254386353131 : Int64)))), .second, .val (.long (own_mix ((q1 + (-7046029254386353131 : Int64)) + (-7046029254386353131 : Int64)))), .second, .val (.long (own_mix (((q1 + (-7046029254386353131 : Int64)) + (-7046029254386353131 : Int64)) + (-7046029254386353131 : Int64)))), .second, .val (.int (1 : Int32)), .unset, .unset]) rfl k) ?_
  show Go p e below _ (T6.setTop (mkF m 54 #[.val (.long q1), .second, .val (.long (-7046029254386353131 : Int64)), .second, .val (.ref a1), .val (.long (own_mix (q1 + (-7046029254386353131 : Int64)))), .second, .val (.long (own_mix ((q1 + (-7046029254386353131 : Int64)) + (-7046029254386353131 : Int64)))), .second, .val (.long (own_mix (((q1 + (-7046029254386353131 : Int64)) + (-7046029254386353131 : Int64)) + (-7046029254386353131 : Int64)))), .second, .val (.int (1 : Int32)), .unset, .unset] []))
  refine Go.on (fun t k => XS.lload X6.here hx rfl (hb hby at_54) rfl k) ?_
  show Go p e below _ (T6.setTop (mkF m 56 #[.val (.long q1), .second, .val (.long (-7046029254386353131 : Int64)), .second, .val (.ref a1), .val (.long (own_mix (q1 + (-7046029254386353131 : Int64)))), .second, .val (.long (own_mix ((q1 + (-7046029254386353131 : Int64)) + (-7046029254386353131 : Int64)))), .second, .val (.long (own_mix (((q1 + (-7046029254386353131 : Int64)) + (-7046029254386353131 : Int64)) + (-7046029254386353131 : Int64)))), .second, .val (.int (1 : Int32)), .unset, .unset] [(.long (own_mix ((q1 + (-7046029254386353131 : Int64)) + (-7046029254386353131 : Int64))))]))
  obtain ⟨_, _, ⟨T7, L7, k7, n7⟩, -, X7, ⟨Lc7, hQ7, l7, y7, z7⟩, st7⟩ := Jvm.LawKit.callS X6 hx (y := (⟨"com/example/robust_backoff/robustbackoff/util/SplitMix64NextLongPinLaw", "unmix", "(J)J"⟩ : MethodName)) hown (mvT hZ (hw _ (List.mem_of_getElem? (i := 20) rfl))) (mvT hZ (hw _ (List.mem_of_getElem? (i := 21) rfl))) (mvT hZ (hw _ (List.mem_of_getElem? (i := 22) rfl))) (mvT hZ (hw _ (List.mem_of_getElem? (i := 23) rfl))) (by decide) (backOf (W := 0) (rm4 l Z a0 hw [] (own_mix ((q1 + (-7046029254386353131 : Int64)) + (-7046029254386353131 : Int64))) T6.heap n0 Z6) hZ (hw _ (List.mem_of_getElem? (i := 23) rfl)) (hw _ (List.mem_of_getElem? (i := 22) rfl)) (by decide) (by decide)) (g := (mkF m 56 #[.val (.long q1), .second, .val (.long (-7046029254386353131 : Int64)), .second, .val (.ref a1), .val (.long (own_mix (q1 + (-7046029254386353131 : Int64)))), .second, .val (.long (own_mix ((q1 + (-7046029254386353131 : Int64)) + (-7046029254386353131 : Int64)))), .second, .val (.long (own_mix (((q1 + (-7046029254386353131 : Int64)) + (-7046029254386353131 : Int64)) + (-7046029254386353131 : Int64)))), .second, .val (.int (1 : Int32)), .unset, .unset] [(.long (own_mix ((q1 + (-7046029254386353131 : Int64)) + (-7046029254386353131 : Int64))))])) rfl (by rw [hml]; rfl) (argsL := [(.long (own_mix ((q1 + (-7046029254386353131 : Int64)) + (-7046029254386353131 : Int64))))]) (rest := []) (lenOf pd_1 rfl) rfl (by show 2 * 0 + _ ≤ _; exact Nat.le_of_eq rfl) (hb hby at_56) (fun _ _ => ⟨rfl, (rfl : T6.heap = T6.heap), (by decide : 1 + 0 ≤ _), (by decide : 1 + 0 ≤ _)⟩)
  dsimp only [Pt.U, Pt.locs, Pt.cells, Pt.slots] at X7 l7 y7 z7 st7 hQ7
  subst l7 y7 z7
  obtain ⟨rfl, N7q, e7⟩ := hQ7
  have N7 := Fr.app N6 N7q
  refine Go.on st7 ?_
  show Go p e below _ (T7.setTop (mkF m 59 #[.val (.long q1), .second, .val (.long (-7046029254386353131 : Int64)), .second, .val (.ref a1), .val (.long (own_mix (q1 + (-7046029254386353131 : Int64)))), .second, .val (.long (own_mix ((q1 + (-7046029254386353131 : Int64)) + (-7046029254386353131 : Int64)))), .second, .val (.long (own_mix (((q1 + (-7046029254386353131 : Int64)) + (-7046029254386353131 : Int64)) + (-7046029254386353131 : Int64)))), .second, .val (.int (1 : Int32)), .unset, .unset] [(.long (own_z5 (own_mix ((q1 + (-7046029254386353131 : Int64)) + (-7046029254386353131 : Int64)))))]))
  have Z7 : n0 ≤ T7.heap.size := by rw [e7]; exact Z6
  refine Go.on (fun t k => XS.lloadN X7.here hx rfl (hb hby at_59) rfl k) ?_
  show Go p e below _ (T7.setTop (mkF m 60 #[.val (.long q1), .second, .val (.long (-7046029254386353131 : Int64)), .second, .val (.ref a1), .val (.long (own_mix (q1 + (-7046029254386353131 : Int64)))), .second, .val (.long (own_mix ((q1 + (-7046029254386353131 : Int64)) + (-7046029254386353131 : Int64)))), .second, .val (.long (own_mix (((q1 + (-7046029254386353131 : Int64)) + (-7046029254386353131 : Int64)) + (-7046029254386353131 : Int64)))), .second, .val (.int (1 : Int32)), .unset, .unset] [(.long q1), (.long (own_z5 (own_mix ((q1 + (-7046029254386353131 : Int64)) + (-7046029254386353131 : Int64)))))]))
  refine Go.on (fun t k => X7.ldc2Long hx hown (mvT hZ (hw _ (List.mem_of_getElem? (i := 28) rfl))) (g := (mkF m 60 #[.val (.long q1), .second, .val (.long (-7046029254386353131 : Int64)), .second, .val (.ref a1), .val (.long (own_mix (q1 + (-7046029254386353131 : Int64)))), .second, .val (.long (own_mix ((q1 + (-7046029254386353131 : Int64)) + (-7046029254386353131 : Int64)))), .second, .val (.long (own_mix (((q1 + (-7046029254386353131 : Int64)) + (-7046029254386353131 : Int64)) + (-7046029254386353131 : Int64)))), .second, .val (.int (1 : Int32)), .unset, .unset] [(.long q1), (.long (own_z5 (own_mix ((q1 + (-7046029254386353131 : Int64)) + (-7046029254386353131 : Int64)))))])) rfl (hb hby at_60) _ k) ?_
  show Go p e below _ (T7.setTop (mkF m 63 #[.val (.long q1), .second, .val (.long (-7046029254386353131 : Int64)), .second, .val (.ref a1), .val (.long (own_mix (q1 + (-7046029254386353131 : Int64)))), .second, .val (.long (own_mix ((q1 + (-7046029254386353131 : Int64)) + (-7046029254386353131 : Int64)))), .second, .val (.long (own_mix (((q1 + (-7046029254386353131 : Int64)) + (-7046029254386353131 : Int64)) + (-7046029254386353131 : Int64)))), .second, .val (.int (1 : Int32)), .unset, .unset] [(.long (2 : Int64)), (.long q1), (.long (own_z5 (own_mix ((q1 + (-7046029254386353131 : Int64)) + (-7046029254386353131 : Int64)))))]))
  refine Go.on (fun t k => XS.lloadN X7.here hx rfl (hb hby at_63) rfl k) ?_
  show Go p e below _ (T7.setTop (mkF m 64 #[.val (.long q1), .second, .val (.long (-7046029254386353131 : Int64)), .second, .val (.ref a1), .val (.long (own_mix (q1 + (-7046029254386353131 : Int64)))), .second, .val (.long (own_mix ((q1 + (-7046029254386353131 : Int64)) + (-7046029254386353131 : Int64)))), .second, .val (.long (own_mix (((q1 + (-7046029254386353131 : Int64)) + (-7046029254386353131 : Int64)) + (-7046029254386353131 : Int64)))), .second, .val (.int (1 : Int32)), .unset, .unset] [(.long (-7046029254386353131 : Int64)), (.long (2 : Int64)), (.long q1), (.long (own_z5 (own_mix ((q1 + (-7046029254386353131 : Int64)) + (-7046029254386353131 : Int64)))))]))
  refine Go.on (fun t k => XS.lmul X7.here hx rfl (hb hby at_64) rfl k) ?_
  show Go p e below _ (T7.setTop (mkF m 65 #[.val (.long q1), .second, .val (.long (-7046029254386353131 : Int64)), .second, .val (.ref a1), .val (.long (own_mix (q1 + (-7046029254386353131 : Int64)))), .second, .val (.long (own_mix ((q1 + (-7046029254386353131 : Int64)) + (-7046029254386353131 : Int64)))), .second, .val (.long (own_mix (((q1 + (-7046029254386353131 : Int64)) + (-7046029254386353131 : Int64)) + (-7046029254386353131 : Int64)))), .second, .val (.int (1 : Int32)), .unset, .unset] [(.long ((2 : Int64) * (-7046029254386353131 : Int64))), (.long q1), (.long (own_z5 (own_mix ((q1 + (-7046029254386353131 : Int64)) + (-7046029254386353131 : Int64)))))]))
  refine Go.on (fun t k => XS.ladd X7.here hx rfl (hb hby at_65) rfl k) ?_
  show Go p e below _ (T7.setTop (mkF m 66 #[.val (.long q1), .second, .val (.long (-7046029254386353131 : Int64)), .second, .val (.ref a1), .val (.long (own_mix (q1 + (-7046029254386353131 : Int64)))), .second, .val (.long (own_mix ((q1 + (-7046029254386353131 : Int64)) + (-7046029254386353131 : Int64)))), .second, .val (.long (own_mix (((q1 + (-7046029254386353131 : Int64)) + (-7046029254386353131 : Int64)) + (-7046029254386353131 : Int64)))), .second, .val (.int (1 : Int32)), .unset, .unset] [(.long (q1 + ((2 : Int64) * (-7046029254386353131 : Int64)))), (.long (own_z5 (own_mix ((q1 + (-7046029254386353131 : Int64)) + (-7046029254386353131 : Int64)))))]))
  refine Go.on (fun t k => XS.lcmp X7.here hx rfl (hb hby at_66) rfl k) ?_
  show Go p e below _ (T7.setTop (mkF m 67 #[.val (.long q1), .second, .val (.long (-7046029254386353131 : Int64)), .second, .val (.ref a1), .val (.long (own_mix (q1 + (-7046029254386353131 : Int64)))), .second, .val (.long (own_mix ((q1 + (-7046029254386353131 : Int64)) + (-7046029254386353131 : Int64)))), .second, .val (.long (own_mix (((q1 + (-7046029254386353131 : Int64)) + (-7046029254386353131 : Int64)) + (-7046029254386353131 : Int64)))), .second, .val (.int (1 : Int32)), .unset, .unset] [(.int (lcmpW (own_z5 (own_mix ((q1 + (-7046029254386353131 : Int64)) + (-7046029254386353131 : Int64)))) (q1 + ((2 : Int64) * (-7046029254386353131 : Int64)))))]))
  refine Go.on (fun t k => XS.ifNo X7.here hx rfl (hb hby at_67) rfl ((if0 _ _).trans (teq ((lw_eq _ _).mpr (by rw [own_un, Int64.add_assoc]; exact congrArg (HAdd.hAdd q1) (by decide : ((-7046029254386353131 : Int64) + (-7046029254386353131 : Int64)) = ((2 : Int64) * (-7046029254386353131 : Int64))) : (own_z5 (own_mix ((q1 + (-7046029254386353131 : Int64)) + (-7046029254386353131 : Int64)))) = (q1 + ((2 : Int64) * (-7046029254386353131 : Int64)))))).2) k) ?_
  show Go p e below _ (T7.setTop (mkF m 70 #[.val (.long q1), .second, .val (.long (-7046029254386353131 : Int64)), .second, .val (.ref a1), .val (.long (own_mix (q1 + (-7046029254386353131 : Int64)))), .second, .val (.long (own_mix ((q1 + (-7046029254386353131 : Int64)) + (-7046029254386353131 : Int64)))), .second, .val (.long (own_mix (((q1 + (-7046029254386353131 : Int64)) + (-7046029254386353131 : Int64)) + (-7046029254386353131 : Int64)))), .second, .val (.int (1 : Int32)), .unset, .unset] []))
  refine Go.on (fun t k => XS.iconst X7.here hx rfl (hb hby at_70) k) ?_
  show Go p e below _ (T7.setTop (mkF m 71 #[.val (.long q1), .second, .val (.long (-7046029254386353131 : Int64)), .second, .val (.ref a1), .val (.long (own_mix (q1 + (-7046029254386353131 : Int64)))), .second, .val (.long (own_mix ((q1 + (-7046029254386353131 : Int64)) + (-7046029254386353131 : Int64)))), .second, .val (.long (own_mix (((q1 + (-7046029254386353131 : Int64)) + (-7046029254386353131 : Int64)) + (-7046029254386353131 : Int64)))), .second, .val (.int (1 : Int32)), .unset, .unset] [(.int (1 : Int32))]))
  refine Go.on (fun t k => XS.goto X7.here hx rfl (pc0 := 71) (pc' := 75) rfl (hb hby at_71) (by decide) (by decide) k) ?_
  show Go p e below _ (T7.setTop (mkF m 75 #[.val (.long q1), .second, .val (.long (-7046029254386353131 : Int64)), .second, .val (.ref a1), .val (.long (own_mix (q1 + (-7046029254386353131 : Int64)))), .second, .val (.long (own_mix ((q1 + (-7046029254386353131 : Int64)) + (-7046029254386353131 : Int64)))), .second, .val (.long (own_mix (((q1 + (-7046029254386353131 : Int64)) + (-7046029254386353131 : Int64)) + (-7046029254386353131 : Int64)))), .second, .val (.int (1 : Int32)), .unset, .unset] [(.int (1 : Int32))]))
  refine Go.on (fun t k => XS.istore X7.here hx rfl (hb hby at_75) rfl (l' := #[.val (.long q1), .second, .val (.long (-7046029254386353131 : Int64)), .second, .val (.ref a1), .val (.long (own_mix (q1 + (-7046029254386353131 : Int64)))), .second, .val (.long (own_mix ((q1 + (-7046029254386353131 : Int64)) + (-7046029254386353131 : Int64)))), .second, .val (.long (own_mix (((q1 + (-7046029254386353131 : Int64)) + (-7046029254386353131 : Int64)) + (-7046029254386353131 : Int64)))), .second, .val (.int (1 : Int32)), .val (.int (1 : Int32)), .unset]) rfl k) ?_
  show Go p e below _ (T7.setTop (mkF m 77 #[.val (.long q1), .second, .val (.long (-7046029254386353131 : Int64)), .second, .val (.ref a1), .val (.long (own_mix (q1 + (-7046029254386353131 : Int64)))), .second, .val (.long (own_mix ((q1 + (-7046029254386353131 : Int64)) + (-7046029254386353131 : Int64)))), .second, .val (.long (own_mix (((q1 + (-7046029254386353131 : Int64)) + (-7046029254386353131 : Int64)) + (-7046029254386353131 : Int64)))), .second, .val (.int (1 : Int32)), .val (.int (1 : Int32)), .unset] []))
  refine Go.on (fun t k => XS.lload X7.here hx rfl (hb hby at_77) rfl k) ?_
  show Go p e below _ (T7.setTop (mkF m 79 #[.val (.long q1), .second, .val (.long (-7046029254386353131 : Int64)), .second, .val (.ref a1), .val (.long (own_mix (q1 + (-7046029254386353131 : Int64)))), .second, .val (.long (own_mix ((q1 + (-7046029254386353131 : Int64)) + (-7046029254386353131 : Int64)))), .second, .val (.long (own_mix (((q1 + (-7046029254386353131 : Int64)) + (-7046029254386353131 : Int64)) + (-7046029254386353131 : Int64)))), .second, .val (.int (1 : Int32)), .val (.int (1 : Int32)), .unset] [(.long (own_mix (((q1 + (-7046029254386353131 : Int64)) + (-7046029254386353131 : Int64)) + (-7046029254386353131 : Int64))))]))
  obtain ⟨_, _, ⟨T8, L8, k8, n8⟩, -, X8, ⟨Lc8, hQ8, l8, y8, z8⟩, st8⟩ := Jvm.LawKit.callS X7 hx (y := (⟨"com/example/robust_backoff/robustbackoff/util/SplitMix64NextLongPinLaw", "unmix", "(J)J"⟩ : MethodName)) hown (mvT hZ (hw _ (List.mem_of_getElem? (i := 20) rfl))) (mvT hZ (hw _ (List.mem_of_getElem? (i := 21) rfl))) (mvT hZ (hw _ (List.mem_of_getElem? (i := 22) rfl))) (mvT hZ (hw _ (List.mem_of_getElem? (i := 23) rfl))) (by decide) (backOf (W := 0) (rm4 l Z a0 hw [] (own_mix (((q1 + (-7046029254386353131 : Int64)) + (-7046029254386353131 : Int64)) + (-7046029254386353131 : Int64))) T7.heap n0 Z7) hZ (hw _ (List.mem_of_getElem? (i := 23) rfl)) (hw _ (List.mem_of_getElem? (i := 22) rfl)) (by decide) (by decide)) (g := (mkF m 79 #[.val (.long q1), .second, .val (.long (-7046029254386353131 : Int64)), .second, .val (.ref a1), .val (.long (own_mix (q1 + (-7046029254386353131 : Int64)))), .second, .val (.long (own_mix ((q1 + (-7046029254386353131 : Int64)) + (-7046029254386353131 : Int64)))), .second, .val (.long (own_mix (((q1 + (-7046029254386353131 : Int64)) + (-7046029254386353131 : Int64)) + (-7046029254386353131 : Int64)))), .second, .val (.int (1 : Int32)), .val (.int (1 : Int32)), .unset] [(.long (own_mix (((q1 + (-7046029254386353131 : Int64)) + (-7046029254386353131 : Int64)) + (-7046029254386353131 : Int64))))])) rfl (by rw [hml]; rfl) (argsL := [(.long (own_mix (((q1 + (-7046029254386353131 : Int64)) + (-7046029254386353131 : Int64)) + (-7046029254386353131 : Int64))))]) (rest := []) (lenOf pd_1 rfl) rfl (by show 2 * 0 + _ ≤ _; exact Nat.le_of_eq rfl) (hb hby at_79) (fun _ _ => ⟨rfl, (rfl : T7.heap = T7.heap), (by decide : 1 + 0 ≤ _), (by decide : 1 + 0 ≤ _)⟩)
  dsimp only [Pt.U, Pt.locs, Pt.cells, Pt.slots] at X8 l8 y8 z8 st8 hQ8
  subst l8 y8 z8
  obtain ⟨rfl, N8q, e8⟩ := hQ8
  have N8 := Fr.app N7 N8q
  refine Go.on st8 ?_
  show Go p e below _ (T8.setTop (mkF m 82 #[.val (.long q1), .second, .val (.long (-7046029254386353131 : Int64)), .second, .val (.ref a1), .val (.long (own_mix (q1 + (-7046029254386353131 : Int64)))), .second, .val (.long (own_mix ((q1 + (-7046029254386353131 : Int64)) + (-7046029254386353131 : Int64)))), .second, .val (.long (own_mix (((q1 + (-7046029254386353131 : Int64)) + (-7046029254386353131 : Int64)) + (-7046029254386353131 : Int64)))), .second, .val (.int (1 : Int32)), .val (.int (1 : Int32)), .unset] [(.long (own_z5 (own_mix (((q1 + (-7046029254386353131 : Int64)) + (-7046029254386353131 : Int64)) + (-7046029254386353131 : Int64)))))]))
  have Z8 : n0 ≤ T8.heap.size := by rw [e8]; exact Z7
  refine Go.on (fun t k => XS.lloadN X8.here hx rfl (hb hby at_82) rfl k) ?_
  show Go p e below _ (T8.setTop (mkF m 83 #[.val (.long q1), .second, .val (.long (-7046029254386353131 : Int64)), .second, .val (.ref a1), .val (.long (own_mix (q1 + (-7046029254386353131 : Int64)))), .second, .val (.long (own_mix ((q1 + (-7046029254386353131 : Int64)) + (-7046029254386353131 : Int64)))), .second, .val (.long (own_mix (((q1 + (-7046029254386353131 : Int64)) + (-7046029254386353131 : Int64)) + (-7046029254386353131 : Int64)))), .second, .val (.int (1 : Int32)), .val (.int (1 : Int32)), .unset] [(.long q1), (.long (own_z5 (own_mix (((q1 + (-7046029254386353131 : Int64)) + (-7046029254386353131 : Int64)) + (-7046029254386353131 : Int64)))))]))
  refine Go.on (fun t k => X8.ldc2Long hx hown (mvT hZ (hw _ (List.mem_of_getElem? (i := 30) rfl))) (g := (mkF m 83 #[.val (.long q1), .second, .val (.long (-7046029254386353131 : Int64)), .second, .val (.ref a1), .val (.long (own_mix (q1 + (-7046029254386353131 : Int64)))), .second, .val (.long (own_mix ((q1 + (-7046029254386353131 : Int64)) + (-7046029254386353131 : Int64)))), .second, .val (.long (own_mix (((q1 + (-7046029254386353131 : Int64)) + (-7046029254386353131 : Int64)) + (-7046029254386353131 : Int64)))), .second, .val (.int (1 : Int32)), .val (.int (1 : Int32)), .unset] [(.long q1), (.long (own_z5 (own_mix (((q1 + (-7046029254386353131 : Int64)) + (-7046029254386353131 : Int64)) + (-7046029254386353131 : Int64)))))])) rfl (hb hby at_83) _ k) ?_
  show Go p e below _ (T8.setTop (mkF m 86 #[.val (.long q1), .second, .val (.long (-7046029254386353131 : Int64)), .second, .val (.ref a1), .val (.long (own_mix (q1 + (-7046029254386353131 : Int64)))), .second, .val (.long (own_mix ((q1 + (-7046029254386353131 : Int64)) + (-7046029254386353131 : Int64)))), .second, .val (.long (own_mix (((q1 + (-7046029254386353131 : Int64)) + (-7046029254386353131 : Int64)) + (-7046029254386353131 : Int64)))), .second, .val (.int (1 : Int32)), .val (.int (1 : Int32)), .unset] [(.long (3 : Int64)), (.long q1), (.long (own_z5 (own_mix (((q1 + (-7046029254386353131 : Int64)) + (-7046029254386353131 : Int64)) + (-7046029254386353131 : Int64)))))]))
  refine Go.on (fun t k => XS.lloadN X8.here hx rfl (hb hby at_86) rfl k) ?_
  show Go p e below _ (T8.setTop (mkF m 87 #[.val (.long q1), .second, .val (.long (-7046029254386353131 : Int64)), .second, .val (.ref a1), .val (.long (own_mix (q1 + (-7046029254386353131 : Int64)))), .second, .val (.long (own_mix ((q1 + (-7046029254386353131 : Int64)) + (-7046029254386353131 : Int64)))), .second, .val (.long (own_mix (((q1 + (-7046029254386353131 : Int64)) + (-7046029254386353131 : Int64)) + (-7046029254386353131 : Int64)))), .second, .val (.int (1 : Int32)), .val (.int (1 : Int32)), .unset] [(.long (-7046029254386353131 : Int64)), (.long (3 : Int64)), (.long q1), (.long (own_z5 (own_mix (((q1 + (-7046029254386353131 : Int64)) + (-7046029254386353131 : Int64)) + (-7046029254386353131 : Int64)))))]))
  refine Go.on (fun t k => XS.lmul X8.here hx rfl (hb hby at_87) rfl k) ?_
  show Go p e below _ (T8.setTop (mkF m 88 #[.val (.long q1), .second, .val (.long (-7046029254386353131 : Int64)), .second, .val (.ref a1), .val (.long (own_mix (q1 + (-7046029254386353131 : Int64)))), .second, .val (.long (own_mix ((q1 + (-7046029254386353131 : Int64)) + (-7046029254386353131 : Int64)))), .second, .val (.long (own_mix (((q1 + (-7046029254386353131 : Int64)) + (-7046029254386353131 : Int64)) + (-7046029254386353131 : Int64)))), .second, .val (.int (1 : Int32)), .val (.int (1 : Int32)), .unset] [(.long ((3 : Int64) * (-7046029254386353131 : Int64))), (.long q1), (.long (own_z5 (own_mix (((q1 + (-7046029254386353131 : Int64)) + (-7046029254386353131 : Int64)) + (-7046029254386353131 : Int64)))))]))
  refine Go.on (fun t k => XS.ladd X8.here hx rfl (hb hby at_88) rfl k) ?_
  show Go p e below _ (T8.setTop (mkF m 89 #[.val (.long q1), .second, .val (.long (-7046029254386353131 : Int64)), .second, .val (.ref a1), .val (.long (own_mix (q1 + (-7046029254386353131 : Int64)))), .second, .val (.long (own_mix ((q1 + (-7046029254386353131 : Int64)) + (-7046029254386353131 : Int64)))), .second, .val (.long (own_mix (((q1 + (-7046029254386353131 : Int64)) + (-7046029254386353131 : Int64)) + (-7046029254386353131 : Int64)))), .second, .val (.int (1 : Int32)), .val (.int (1 : Int32)), .unset] [(.long (q1 + ((3 : Int64) * (-7046029254386353131 : Int64)))), (.long (own_z5 (own_mix (((q1 + (-7046029254386353131 : Int64)) + (-7046029254386353131 : Int64)) + (-7046029254386353131 : Int64)))))]))
  refine Go.on (fun t k => XS.lcmp X8.here hx rfl (hb hby at_89) rfl k) ?_
  show Go p e below _ (T8.setTop (mkF m 90 #[.val (.long q1), .second, .val (.long (-7046029254386353131 : Int64)), .second, .val (.ref a1), .val (.long (own_mix (q1 + (-7046029254386353131 : Int64)))), .second, .val (.long (own_mix ((q1 + (-7046029254386353131 : Int64)) + (-7046029254386353131 : Int64)))), .second, .val (.long (own_mix (((q1 + (-7046029254386353131 : Int64)) + (-7046029254386353131 : Int64)) + (-7046029254386353131 : Int64)))), .second, .val (.int (1 : Int32)), .val (.int (1 : Int32)), .unset] [(.int (lcmpW (own_z5 (own_mix (((q1 + (-7046029254386353131 : Int64)) + (-7046029254386353131 : Int64)) + (-7046029254386353131 : Int64)))) (q1 + ((3 : Int64) * (-7046029254386353131 : Int64)))))]))
  refine Go.on (fun t k => XS.ifNo X8.here hx rfl (hb hby at_90) rfl ((if0 _ _).trans (teq ((lw_eq _ _).mpr (by rw [own_un, Int64.add_assoc, Int64.add_assoc]; exact congrArg (HAdd.hAdd q1) (by decide : ((-7046029254386353131 : Int64) + ((-7046029254386353131 : Int64) + (-7046029254386353131 : Int64))) = ((3 : Int64) * (-7046029254386353131 : Int64))) : (own_z5 (own_mix (((q1 + (-7046029254386353131 : Int64)) + (-7046029254386353131 : Int64)) + (-7046029254386353131 : Int64)))) = (q1 + ((3 : Int64) * (-7046029254386353131 : Int64)))))).2) k) ?_
  show Go p e below _ (T8.setTop (mkF m 93 #[.val (.long q1), .second, .val (.long (-7046029254386353131 : Int64)), .second, .val (.ref a1), .val (.long (own_mix (q1 + (-7046029254386353131 : Int64)))), .second, .val (.long (own_mix ((q1 + (-7046029254386353131 : Int64)) + (-7046029254386353131 : Int64)))), .second, .val (.long (own_mix (((q1 + (-7046029254386353131 : Int64)) + (-7046029254386353131 : Int64)) + (-7046029254386353131 : Int64)))), .second, .val (.int (1 : Int32)), .val (.int (1 : Int32)), .unset] []))
  refine Go.on (fun t k => XS.iconst X8.here hx rfl (hb hby at_93) k) ?_
  show Go p e below _ (T8.setTop (mkF m 94 #[.val (.long q1), .second, .val (.long (-7046029254386353131 : Int64)), .second, .val (.ref a1), .val (.long (own_mix (q1 + (-7046029254386353131 : Int64)))), .second, .val (.long (own_mix ((q1 + (-7046029254386353131 : Int64)) + (-7046029254386353131 : Int64)))), .second, .val (.long (own_mix (((q1 + (-7046029254386353131 : Int64)) + (-7046029254386353131 : Int64)) + (-7046029254386353131 : Int64)))), .second, .val (.int (1 : Int32)), .val (.int (1 : Int32)), .unset] [(.int (1 : Int32))]))
  refine Go.on (fun t k => XS.goto X8.here hx rfl (pc0 := 94) (pc' := 98) rfl (hb hby at_94) (by decide) (by decide) k) ?_
  show Go p e below _ (T8.setTop (mkF m 98 #[.val (.long q1), .second, .val (.long (-7046029254386353131 : Int64)), .second, .val (.ref a1), .val (.long (own_mix (q1 + (-7046029254386353131 : Int64)))), .second, .val (.long (own_mix ((q1 + (-7046029254386353131 : Int64)) + (-7046029254386353131 : Int64)))), .second, .val (.long (own_mix (((q1 + (-7046029254386353131 : Int64)) + (-7046029254386353131 : Int64)) + (-7046029254386353131 : Int64)))), .second, .val (.int (1 : Int32)), .val (.int (1 : Int32)), .unset] [(.int (1 : Int32))]))
  refine Go.on (fun t k => XS.istore X8.here hx rfl (hb hby at_98) rfl (l' := #[.val (.long q1), .second, .val (.long (-7046029254386353131 : Int64)), .second, .val (.ref a1), .val (.long (own_mix (q1 + (-7046029254386353131 : Int64)))), .second, .val (.long (own_mix ((q1 + (-7046029254386353131 : Int64)) + (-7046029254386353131 : Int64)))), .second, .val (.long (own_mix (((q1 + (-7046029254386353131 : Int64)) + (-7046029254386353131 : Int64)) + (-7046029254386353131 : Int64)))), .second, .val (.int (1 : Int32)), .val (.int (1 : Int32)), .val (.int (1 : Int32))]) rfl k) ?_
  show Go p e below _ (T8.setTop (mkF m 100 #[.val (.long q1), .second, .val (.long (-7046029254386353131 : Int64)), .second, .val (.ref a1), .val (.long (own_mix (q1 + (-7046029254386353131 : Int64)))), .second, .val (.long (own_mix ((q1 + (-7046029254386353131 : Int64)) + (-7046029254386353131 : Int64)))), .second, .val (.long (own_mix (((q1 + (-7046029254386353131 : Int64)) + (-7046029254386353131 : Int64)) + (-7046029254386353131 : Int64)))), .second, .val (.int (1 : Int32)), .val (.int (1 : Int32)), .val (.int (1 : Int32))] []))
  refine Go.on (fun t k => XS.iload X8.here hx rfl (hb hby at_100) rfl k) ?_
  show Go p e below _ (T8.setTop (mkF m 102 #[.val (.long q1), .second, .val (.long (-7046029254386353131 : Int64)), .second, .val (.ref a1), .val (.long (own_mix (q1 + (-7046029254386353131 : Int64)))), .second, .val (.long (own_mix ((q1 + (-7046029254386353131 : Int64)) + (-7046029254386353131 : Int64)))), .second, .val (.long (own_mix (((q1 + (-7046029254386353131 : Int64)) + (-7046029254386353131 : Int64)) + (-7046029254386353131 : Int64)))), .second, .val (.int (1 : Int32)), .val (.int (1 : Int32)), .val (.int (1 : Int32))] [(.int (1 : Int32))]))
  refine Go.on (fun t k => XS.ifNo X8.here hx rfl (hb hby at_102) rfl ((if0 _ _).trans (feq (by decide : ¬ ((1 : Int32) = (0 : Int32)))).1) k) ?_
  show Go p e below _ (T8.setTop (mkF m 105 #[.val (.long q1), .second, .val (.long (-7046029254386353131 : Int64)), .second, .val (.ref a1), .val (.long (own_mix (q1 + (-7046029254386353131 : Int64)))), .second, .val (.long (own_mix ((q1 + (-7046029254386353131 : Int64)) + (-7046029254386353131 : Int64)))), .second, .val (.long (own_mix (((q1 + (-7046029254386353131 : Int64)) + (-7046029254386353131 : Int64)) + (-7046029254386353131 : Int64)))), .second, .val (.int (1 : Int32)), .val (.int (1 : Int32)), .val (.int (1 : Int32))] []))
  refine Go.on (fun t k => XS.iload X8.here hx rfl (hb hby at_105) rfl k) ?_
  show Go p e below _ (T8.setTop (mkF m 107 #[.val (.long q1), .second, .val (.long (-7046029254386353131 : Int64)), .second, .val (.ref a1), .val (.long (own_mix (q1 + (-7046029254386353131 : Int64)))), .second, .val (.long (own_mix ((q1 + (-7046029254386353131 : Int64)) + (-7046029254386353131 : Int64)))), .second, .val (.long (own_mix (((q1 + (-7046029254386353131 : Int64)) + (-7046029254386353131 : Int64)) + (-7046029254386353131 : Int64)))), .second, .val (.int (1 : Int32)), .val (.int (1 : Int32)), .val (.int (1 : Int32))] [(.int (1 : Int32))]))
  refine Go.on (fun t k => XS.ifNo X8.here hx rfl (hb hby at_107) rfl ((if0 _ _).trans (feq (by decide : ¬ ((1 : Int32) = (0 : Int32)))).1) k) ?_
  show Go p e below _ (T8.setTop (mkF m 110 #[.val (.long q1), .second, .val (.long (-7046029254386353131 : Int64)), .second, .val (.ref a1), .val (.long (own_mix (q1 + (-7046029254386353131 : Int64)))), .second, .val (.long (own_mix ((q1 + (-7046029254386353131 : Int64)) + (-7046029254386353131 : Int64)))), .second, .val (.long (own_mix (((q1 + (-7046029254386353131 : Int64)) + (-7046029254386353131 : Int64)) + (-7046029254386353131 : Int64)))), .second, .val (.int (1 : Int32)), .val (.int (1 : Int32)), .val (.int (1 : Int32))] []))
  refine Go.on (fun t k => XS.iload X8.here hx rfl (hb hby at_110) rfl k) ?_
  show Go p e below _ (T8.setTop (mkF m 112 #[.val (.long q1), .second, .val (.long (-7046029254386353131 : Int64)), .second, .val (.ref a1), .val (.long (own_mix (q1 + (-7046029254386353131 : Int64)))), .second, .val (.long (own_mix ((q1 + (-7046029254386353131 : Int64)) + (-7046029254386353131 : Int64)))), .second, .val (.long (own_mix (((q1 + (-7046029254386353131 : Int64)) + (-7046029254386353131 : Int64)) + (-7046029254386353131 : Int64)))), .second, .val (.int (1 : Int32)), .val (.int (1 : Int32)), .val (.int (1 : Int32))] [(.int (1 : Int32))]))
  refine Go.on (fun t k => XS.ifNo X8.here hx rfl (hb hby at_112) rfl ((if0 _ _).trans (feq (by decide : ¬ ((1 : Int32) = (0 : Int32)))).1) k) ?_
  show Go p e below _ (T8.setTop (mkF m 115 #[.val (.long q1), .second, .val (.long (-7046029254386353131 : Int64)), .second, .val (.ref a1), .val (.long (own_mix (q1 + (-7046029254386353131 : Int64)))), .second, .val (.long (own_mix ((q1 + (-7046029254386353131 : Int64)) + (-7046029254386353131 : Int64)))), .second, .val (.long (own_mix (((q1 + (-7046029254386353131 : Int64)) + (-7046029254386353131 : Int64)) + (-7046029254386353131 : Int64)))), .second, .val (.int (1 : Int32)), .val (.int (1 : Int32)), .val (.int (1 : Int32))] []))
  refine Go.on (fun t k => XS.iconst X8.here hx rfl (hb hby at_115) k) ?_
  show Go p e below _ (T8.setTop (mkF m 116 #[.val (.long q1), .second, .val (.long (-7046029254386353131 : Int64)), .second, .val (.ref a1), .val (.long (own_mix (q1 + (-7046029254386353131 : Int64)))), .second, .val (.long (own_mix ((q1 + (-7046029254386353131 : Int64)) + (-7046029254386353131 : Int64)))), .second, .val (.long (own_mix (((q1 + (-7046029254386353131 : Int64)) + (-7046029254386353131 : Int64)) + (-7046029254386353131 : Int64)))), .second, .val (.int (1 : Int32)), .val (.int (1 : Int32)), .val (.int (1 : Int32))] [(.int (1 : Int32))]))
  refine Go.on (fun t k => XS.goto X8.here hx rfl (pc0 := 116) (pc' := 120) rfl (hb hby at_116) (by decide) (by decide) k) ?_
  show Go p e below _ (T8.setTop (mkF m 120 #[.val (.long q1), .second, .val (.long (-7046029254386353131 : Int64)), .second, .val (.ref a1), .val (.long (own_mix (q1 + (-7046029254386353131 : Int64)))), .second, .val (.long (own_mix ((q1 + (-7046029254386353131 : Int64)) + (-7046029254386353131 : Int64)))), .second, .val (.long (own_mix (((q1 + (-7046029254386353131 : Int64)) + (-7046029254386353131 : Int64)) + (-7046029254386353131 : Int64)))), .second, .val (.int (1 : Int32)), .val (.int (1 : Int32)), .val (.int (1 : Int32))] [(.int (1 : Int32))]))
  exact Go.retN X8 hx hlk hret (by simp) (hb hby at_120) (by decide) (by decide) ⟨by rfl, N8⟩
set_option maxRecDepth 65536 in
set_option maxHeartbeats 40000000 in
theorem comes_1 {Post : Tables → Env → Array Value → State → Outcome → State → Prop} (hpost : ∀ tb e args s v u, (limb_1_1.after args s (.returned v) u = true ∧ limb_1_2.after args s (.returned v) u = true ∧ True) → FrameEnd s (.returned v) u (Jvm.fieldLocs frame_1_writes args s ++ Jvm.arrayLocs frame_1_arrays args s ++ Jvm.staticLocs frame_1_statics s) 16 128 → Post tb e args s (.returned v) u) :
    ArmFor flags0 classFile x code maxLocals ret World_1 tables_1 room_1 Calls_1 rest_1 Pre_1 Post := by
  intro l hfl _ _ p e ha hc hk s m args below hf hA hF happ hP
  obtain ⟨hcalls, hrest, hpre⟩ := hP
  obtain ⟨-, -, -, hnamed, -, -, -, hat⟩ := (Spec.applies_iff hf).mp happ
  obtain ⟨hg, hn⟩ := and_e (Cond.before_iff.mp (show (Jvm.Cond.and given_1 narrow_1).before args s = true from hpre))
  obtain ⟨g0, gA0⟩ := and_e hg
  obtain ⟨w0, rfl⟩ : ∃ w0 : Value, args = #[w0] := by
    have hs : args.size = 1 := by simpa [Cond.value, given_1] using g0
    obtain ⟨L⟩ := args
    match L, hs with
    | [w0], _ => exact ⟨w0, rfl⟩
  have hw := fun d (hd : d ∈ tables_1) => atoms_spec (ws := Jvm.Cond.code x code maxLocals ret :: tables_1) hat d (List.mem_cons_of_mem _ hd)
  obtain ⟨i0, ei0⟩ := isL_v gA0
  obtain rfl : w0 = (.long i0) := Option.some.inj ei0
  obtain ⟨n, o, h1, h2, h3, _, L, rfl, ⟨rfl, N⟩, hq⟩ := rm0 l s _ hw tables_1 i0 s.heap s.heap.size (Nat.le_refl _)  p e ha hc hk s m _ below hf ((Spec.applies_iff_loose hf).mp happ).1 ⟨rfl, State.Warmed39.refl s, rfl⟩ trivial
  refine ⟨n, _, h1, h2, h3, hpost _ _ _ _ _ _ ⟨Cond.after_iff.mpr rfl, Cond.after_iff.mpr (eq_i res_at (Term.int_eval (1)) rfl), trivial⟩ ⟨hq.1, hq.2.1, (hq.2.2.sift fun y hy => Or.inr (N y hy)).mono (by decide) (by decide)⟩⟩
theorem main_1_1 : Claimed_1_1 := comes_1 fun _ _ _ _ _ _ h hF => ⟨h.1, hF⟩
theorem main_1_2 : Claimed_1_2 := comes_1 fun _ _ _ _ _ _ h hF => ⟨h.2.1, hF⟩
end Jvm.Pilot.@@N@@
namespace Jvm.Pilot.@@N@@
open Jvm Jvm.ClassFile Sem Op Lib Jvm.Free Jvm.Stand Jvm.Pilot.@@N@@.Jvm.D
/-! MADE BY PROGRAM (witnessworld.py) out of the Statement's table words and the real class files: 9 classes; the members and pool entries that the words name. The judged class is class 1, her method 3. -/
namespace start1
open Jvm.ClassFile
def u (s : String) : CpInfo := .utf8 (stringToUtf16 s)
/-- a pool by its gaps: so many unusable entries, then the entry; so many at the end -/
def gap : Nat → List CpInfo → List CpInfo
  | 0, r => r
  | n + 1, r => .unusable :: gap n r
def poolList (es : List (Nat × CpInfo)) (last : Nat) : List CpInfo := es.foldr (fun e r => gap e.1 (e.2 :: r)) (gap last [])
def pool (es : List (Nat × CpInfo)) (last : Nat) : Array CpInfo := ⟨poolList es last⟩
def fileOf (pool : Array CpInfo) (this : Nat) (attrs : Array Attribute := #[]) (ms : Array MethodInfo := #[]) (fl : Nat := 33) (sup : Nat := 0) (ifs : Array Nat := #[]) (fds : Array FieldInfo := #[]) : ClassFile where
  minorVersion := 0
  majorVersion := 65
  constantPool := pool
  accessFlags := fl
  thisClass := this
  superClass := sup
  interfaces := ifs
  fields := fds
  methods := ms
  attributes := attrs
def plain (name : String) (sup : Option ClassId) : Class where
  name := name
  kind := .ordinary
  loader := none
  accessFlags := 33
  super := sup
  interfaces := #[]
  cf := none
  fields := #[]
  methods := #[]
  instanceTypes := #[]
  staticTypes := #[]
  resolved := #[]
  callSites := []
  init := .initialized
  statics := none
  mirror := none

def pool0 : Array CpInfo := pool [(5, u "<init>"), (0, u "()V"), (1, .class_ 10), (1, u "java/lang/Object")] 113

def k0c0 : Code := { maxStack := 0, maxLocals := 1, code := object_method_1_code, exceptionTable := #[], attributes := #[] }
def k0m0 : Method := { name := "<init>", desc := "()V", sig := { parameters := [], returnType := none }, accessFlags := 1, code := some k0c0 }
/-- java/lang/Object -/
def k0 : Class := { plain "java/lang/Object" none with
  accessFlags := 33
  interfaces := #[]
  cf := some (fileOf pool0 8 #[] #[{ accessFlags := 1, nameIndex := 5, descriptorIndex := 6, attributes := #[] }] 33 0 #[] #[])
  fields := #[]
  methods := #[k0m0]
  instanceTypes := #[]
  staticTypes := #[]
  resolved := Array.replicate 124 none
  statics := none }

def pool1 : Array CpInfo := pool [(2, .class_ 4), (1, u "java/lang/Object"), (0, u "<init>"), (0, u "()V"), (0, .long 2), (1, .long 10723151780598845931), (1, .methodref 12 13), (0, .class_ 14), (0, .nameAndType 15 16), (0, u "com/example/robust_backoff/robustbackoff/util/SplitMix64NextLongPinLaw"), (0, u "inverseOdd"), (0, u "(J)J"), (0, .long 13787848793156543929), (1, .long 11400714819323198485), (1, .class_ 22), (0, u "com/example/robust_backoff/robustbackoff/util/SplitMix64"), (0, .methodref 21 24), (0, .nameAndType 5 25), (0, u "(J)V"), (0, .methodref 21 27), (0, .nameAndType 28 29), (0, u "nextLong"), (0, u "()J"), (0, .methodref 12 31), (0, .nameAndType 32 16), (0, u "unmix"), (0, .long 3), (3, u "law"), (0, u "(J)Z")] 3

def k1m0 : Method := { name := "<init>", desc := "()V", sig := { parameters := [], returnType := none }, accessFlags := 1, code := none }
def k1c1 : Code := { maxStack := 8, maxLocals := 4, code := method_2_code, exceptionTable := #[], attributes := #[] }
def k1m1 : Method := { name := "inverseOdd", desc := "(J)J", sig := { parameters := [.long], returnType := some .long }, accessFlags := 10, code := some k1c1 }
def k1c2 : Code := { maxStack := 5, maxLocals := 4, code := method_3_code, exceptionTable := #[], attributes := #[] }
def k1m2 : Method := { name := "unmix", desc := "(J)J", sig := { parameters := [.long], returnType := some .long }, accessFlags := 10, code := some k1c2 }
def k1c3 : Code := { maxStack := 8, maxLocals := 14, code := code, exceptionTable := #[], attributes := #[] }
def k1m3 : Method := { name := "law", desc := "(J)Z", sig := { parameters := [.long], returnType := some .boolean }, accessFlags := 9, code := some k1c3 }
/-- com/example/robust_backoff/robustbackoff/util/SplitMix64NextLongPinLaw -/
def k1 : Class := { plain "com/example/robust_backoff/robustbackoff/util/SplitMix64NextLongPinLaw" (some 0) with
  accessFlags := 49
  interfaces := #[]
  cf := some (fileOf pool1 12 #[] #[{ accessFlags := 1, nameIndex := 5, descriptorIndex := 6, attributes := #[] }, { accessFlags := 10, nameIndex := 15, descriptorIndex := 16, attributes := #[] }, { accessFlags := 10, nameIndex := 32, descriptorIndex := 16, attributes := #[] }, { accessFlags := 9, nameIndex := 37, descriptorIndex := 38, attributes := #[] }] 49 2 #[] #[])
  fields := #[]
  methods := #[k1m0, k1m1, k1m2, k1m3]
  instanceTypes := #[]
  staticTypes := #[]
  resolved := Array.replicate 42 none
  statics := none }

def pool2 : Array CpInfo := pool [(1, .methodref 2 3), (0, .class_ 4), (0, .nameAndType 5 6), (0, u "java/lang/Object"), (0, u "<init>"), (0, u "()V"), (0, .fieldref 8 9), (0, .class_ 10), (0, .nameAndType 11 12), (0, u "com/example/robust_backoff/robustbackoff/util/SplitMix64"), (0, u "state"), (0, u "J"), (0, .long 11400714819323198485), (1, .long 13787848793156543929), (1, .long 10723151780598845931), (12, u "nextLong"), (0, u "()J"), (60, u "TOP_53_BITS_TO_UNIT"), (0, u "D"), (1, u "GAMMA"), (0, u "(J)V")] 23

def k2c0 : Code := { maxStack := 3, maxLocals := 3, code := prog_57_method_1_code, exceptionTable := #[], attributes := #[] }
def k2m0 : Method := { name := "<init>", desc := "(J)V", sig := { parameters := [.long], returnType := none }, accessFlags := 1, code := some k2c0 }
def k2c1 : Code := { maxStack := 5, maxLocals := 3, code := prog_57_method_2_code, exceptionTable := #[], attributes := #[] }
def k2m1 : Method := { name := "nextLong", desc := "()J", sig := { parameters := [], returnType := some .long }, accessFlags := 1, code := some k2c1 }
/-- com/example/robust_backoff/robustbackoff/util/SplitMix64 -/
def k2 : Class := { plain "com/example/robust_backoff/robustbackoff/util/SplitMix64" (some 0) with
  accessFlags := 33
  interfaces := #[]
  cf := some (fileOf pool2 8 #[] #[{ accessFlags := 1, nameIndex := 5, descriptorIndex := 96, attributes := #[] }, { accessFlags := 1, nameIndex := 30, descriptorIndex := 31, attributes := #[] }] 33 2 #[] #[{ accessFlags := 26, nameIndex := 92, descriptorIndex := 93, attributes := #[] }, { accessFlags := 26, nameIndex := 95, descriptorIndex := 12, attributes := #[] }, { accessFlags := 2, nameIndex := 11, descriptorIndex := 12, attributes := #[] }])
  fields := #[{ name := "TOP_53_BITS_TO_UNIT", type := .double, accessFlags := 26, slot := 0, constantValue := 0 }, { name := "GAMMA", type := .long, accessFlags := 26, slot := 1, constantValue := 0 }, { name := "state", type := .long, accessFlags := 2, slot := 0, constantValue := 0 }]
  methods := #[k2m0, k2m1]
  instanceTypes := #[.long]
  staticTypes := #[.double, .long]
  resolved := Array.replicate 120 none
  statics := none }

def pool3 : Array CpInfo := pool [(1, u "java/lang/Cloneable"), (0, .class_ 1), (0, u "java/lang/Object"), (0, .class_ 3)] 3

/-- java/lang/Cloneable -/
def k3 : Class := { plain "java/lang/Cloneable" (some 0) with
  accessFlags := 1537
  interfaces := #[]
  cf := some (fileOf pool3 2 #[] #[] 1537 4 #[] #[])
  fields := #[]
  methods := #[]
  instanceTypes := #[]
  staticTypes := #[]
  resolved := Array.replicate 8 none
  statics := none }

def pool4 : Array CpInfo := pool [(1, u "java/io/Serializable"), (0, .class_ 1), (0, u "java/lang/Object"), (0, .class_ 3)] 3

/-- java/io/Serializable -/
def k4 : Class := { plain "java/io/Serializable" (some 0) with
  accessFlags := 1537
  interfaces := #[]
  cf := some (fileOf pool4 2 #[] #[] 1537 4 #[] #[])
  fields := #[]
  methods := #[]
  instanceTypes := #[]
  staticTypes := #[]
  resolved := Array.replicate 8 none
  statics := none }

/-- the primitive byte -/
def k5 : Class := { plain "byte" none with kind := .primitive 'B', accessFlags := 0x411 }
/-- [B -/
def k6 : Class := { plain "[B" (some 0) with kind := .array 5 .byte, interfaces := #[3, 4], accessFlags := 1041 }

/-- the primitive int -/
def k7 : Class := { plain "int" none with kind := .primitive 'I', accessFlags := 0x411 }
/-- [I -/
def k8 : Class := { plain "[I" (some 0) with kind := .array 7 .int, interfaces := #[3, 4], accessFlags := 1041 }

def heap : Heap := #[]
def classes : Array Class := #[k0, k1, k2, k3, k4, k5, k6, k7, k8]
def interned : List (Array UInt16 × Addr) := []
def slotsUsed : Nat := 0
def theMethod : MethodId := ⟨1, 3⟩
def args0 : Array Value := #[.long 5]
def aboutOver (below : List Frame) : State where
  vm := { classes := classes, interned := interned.toArray }
  heap := heap
  slotsUsed := slotsUsed
  threads := #[{ frames := .invoking theMethod args0 :: below }]
def below0 : List Frame := [.native { method := ⟨0, 0⟩, args := #[] }]
def about1 : State := aboutOver below0
def p0 : Program := .bare "" "" ""
def e0 : Env := launch0.env 0 0 0
theorem w_frames : about1.frames = Frame.invoking theMethod args0 :: below0 := rfl
set_option maxRecDepth 65536 in
theorem w_args : argsFit about1.vm theMethod args0 = true := by decide +kernel
set_option maxRecDepth 65536 in
theorem w_heap : heapFits about1 = true := by decide +kernel
set_option maxRecDepth 65536 in
theorem w_runnable : about1.curStatus? = some .runnable := by decide +kernel
set_option maxRecDepth 65536 in
theorem w_alone : about1.alone = true := by decide +kernel
set_option maxRecDepth 65536 in
theorem w_named : about1.methodNamed? x = some theMethod := by decide +kernel
set_option maxRecDepth 65536 in
theorem w_hears : about1.hears theMethod below0 = true := by decide +kernel
set_option maxRecDepth 65536 in
theorem w_ripe : about1.ripe theMethod args0 below0 = true := by decide +kernel
theorem w_running : about1.status = .running := rfl
set_option maxRecDepth 65536 in
theorem w_room : about1.hasRoom e0.platform room_1 = true :=
  launch0.hasRoom_least _ room_1 (by decide +kernel) (by decide +kernel) (by decide +kernel) (by decide +kernel) (by decide +kernel) (by decide +kernel)
theorem allAtoms_all (ts : List Jvm.Cond) (a : Array Jvm.Value) (st : Jvm.State) : (allAtoms ts).before a st = ts.all (fun c => c.before a st) := by
  induction ts with
  | nil => rfl
  | cons c t ih =>
    show (Jvm.Cond.and c (allAtoms t)).before a st = _
    rw [Jvm.Cond.before_and, ih, List.all_cons]
def words1 : List Jvm.Cond := Jvm.Cond.code x code maxLocals ret :: tables_1
/-- a 'code' word, met by the world's own term for the bytes: nothing is compared byte by byte -/
theorem code_word {y : MethodName} {bytes : ByteArray} {mx : Nat} {rt : Option FieldType} {a : Array Value} {s : State} {m : MethodId} {meth : Method} {c : Code} (h1 : s.methodNamed? y = some m) (h2 : s.vm.method? m = some meth) (h3 : meth.code = some c) (h4 : c.code = bytes)
    (h5 : (c.maxLocals == mx && c.exceptionTable.isEmpty && decide (c.maxStack ≤ mostOperands) && decide (meth.sig.returnType = rt) && !meth.locks && decide (parseMethodDescriptor y.desc = some meth.sig)) = true) : (Jvm.Cond.code y bytes mx rt).before a s = true := by
  simp only [Bool.and_eq_true, beq_iff_eq, Bool.not_eq_true', decide_eq_true_eq] at h5
  obtain ⟨⟨⟨⟨⟨g1, g2⟩, g3⟩, g4⟩, g5⟩, g6⟩ := h5
  simp [Cond.before, Cond.holds, Cond.value, h1, h2, h3, h4, g1, g2, g3, g4, g5, g6]
def isCode : Jvm.Cond → Bool
  | .code _ _ _ _ => true
  | _ => false
theorem all_split {L : List Jvm.Cond} {P : Jvm.Cond → Bool} (h1 : L.all (fun c => isCode c || P c) = true) (h2 : ∀ c ∈ L.filter isCode, P c = true) : L.all P = true := by
  refine List.all_eq_true.mpr fun c hc => ?_
  have h := List.all_eq_true.mp h1 c hc
  rcases Bool.eq_false_or_eq_true (isCode c) with hi | hi
  · exact h2 c (List.mem_filter.mpr ⟨hc, hi⟩)
  · simpa [hi] using h
set_option maxRecDepth 65536 in
theorem w_c0 : (Jvm.Cond.code x code maxLocals ret).before args0 about1 = true := code_word (m := ⟨1, 3⟩) (meth := k1m3) (c := k1c3) (by decide +kernel) rfl rfl rfl (by decide +kernel)
set_option maxRecDepth 65536 in
theorem w_c1 : (Jvm.Cond.code ({ cls := "com/example/robust_backoff/robustbackoff/util/SplitMix64", name := "<init>", desc := "(J)V" } : Jvm.MethodName) prog_57_method_1_code (3 : Nat) (Option.none : Option Jvm.ClassFile.FieldType)).before args0 about1 = true := code_word (m := ⟨2, 0⟩) (meth := k2m0) (c := k2c0) (by decide +kernel) rfl rfl rfl (by decide +kernel)
set_option maxRecDepth 65536 in
theorem w_c2 : (Jvm.Cond.code ({ cls := "java/lang/Object", name := "<init>", desc := "()V" } : Jvm.MethodName) object_method_1_code (1 : Nat) (Option.none : Option Jvm.ClassFile.FieldType)).before args0 about1 = true := code_word (m := ⟨0, 0⟩) (meth := k0m0) (c := k0c0) (by decide +kernel) rfl rfl rfl (by decide +kernel)
set_option maxRecDepth 65536 in
theorem w_c3 : (Jvm.Cond.code ({ cls := "com/example/robust_backoff/robustbackoff/util/SplitMix64", name := "nextLong", desc := "()J" } : Jvm.MethodName) prog_57_method_2_code (3 : Nat) (Option.some Jvm.ClassFile.FieldType.long)).before args0 about1 = true := code_word (m := ⟨2, 1⟩) (meth := k2m1) (c := k2c1) (by decide +kernel) rfl rfl rfl (by decide +kernel)
set_option maxRecDepth 65536 in
theorem w_c4 : (Jvm.Cond.code ({ cls := "com/example/robust_backoff/robustbackoff/util/SplitMix64NextLongPinLaw", name := "unmix", desc := "(J)J" } : Jvm.MethodName) method_3_code (4 : Nat) (Option.some Jvm.ClassFile.FieldType.long)).before args0 about1 = true := code_word (m := ⟨1, 2⟩) (meth := k1m2) (c := k1c2) (by decide +kernel) rfl rfl rfl (by decide +kernel)
set_option maxRecDepth 65536 in
theorem w_c5 : (Jvm.Cond.code ({ cls := "com/example/robust_backoff/robustbackoff/util/SplitMix64NextLongPinLaw", name := "inverseOdd", desc := "(J)J" } : Jvm.MethodName) method_2_code (4 : Nat) (Option.some Jvm.ClassFile.FieldType.long)).before args0 about1 = true := code_word (m := ⟨1, 1⟩) (meth := k1m1) (c := k1c1) (by decide +kernel) rfl rfl rfl (by decide +kernel)
def codes1 : List Jvm.Cond := [Jvm.Cond.code x code maxLocals ret, Jvm.Cond.code ({ cls := "com/example/robust_backoff/robustbackoff/util/SplitMix64", name := "<init>", desc := "(J)V" } : Jvm.MethodName) prog_57_method_1_code (3 : Nat) (Option.none : Option Jvm.ClassFile.FieldType), Jvm.Cond.code ({ cls := "java/lang/Object", name := "<init>", desc := "()V" } : Jvm.MethodName) object_method_1_code (1 : Nat) (Option.none : Option Jvm.ClassFile.FieldType), Jvm.Cond.code ({ cls := "com/example/robust_backoff/robustbackoff/util/SplitMix64", name := "nextLong", desc := "()J" } : Jvm.MethodName) prog_57_method_2_code (3 : Nat) (Option.some Jvm.ClassFile.FieldType.long), Jvm.Cond.code ({ cls := "com/example/robust_backoff/robustbackoff/util/SplitMix64NextLongPinLaw", name := "unmix", desc := "(J)J" } : Jvm.MethodName) method_3_code (4 : Nat) (Option.some Jvm.ClassFile.FieldType.long), Jvm.Cond.code ({ cls := "com/example/robust_backoff/robustbackoff/util/SplitMix64NextLongPinLaw", name := "inverseOdd", desc := "(J)J" } : Jvm.MethodName) method_2_code (4 : Nat) (Option.some Jvm.ClassFile.FieldType.long)]
set_option maxRecDepth 65536 in
theorem codes_eq : words1.filter isCode = codes1 := rfl
theorem w_codes : ∀ c ∈ words1.filter isCode, c.before args0 about1 = true := by
  rw [codes_eq]
  intro c hc
  simp only [codes1, List.mem_cons, List.not_mem_nil, or_false] at hc
  rcases hc with rfl | rfl | rfl | rfl | rfl | rfl
  · exact w_c0
  · exact w_c1
  · exact w_c2
  · exact w_c3
  · exact w_c4
  · exact w_c5
set_option maxRecDepth 65536 in
theorem w_t1 : (words1.take 24).all (fun c => isCode c || c.before args0 about1) = true := by decide +kernel
set_option maxRecDepth 65536 in
theorem w_t2 : (words1.drop 24).all (fun c => isCode c || c.before args0 about1) = true := by decide +kernel
theorem w_tables : (allAtoms (Jvm.Cond.code x code maxLocals ret :: tables_1)).before args0 about1 = true := by
  rw [allAtoms_all]
  show words1.all (fun c => c.before args0 about1) = true
  refine all_split ?_ w_codes
  rw [← List.take_append_drop 24 words1, List.all_append, w_t1, w_t2]
  rfl
set_option maxRecDepth 65536 in
theorem w_case : (Jvm.Cond.and given_1 narrow_1).before args0 about1 = true := by decide +kernel
theorem w_applies : (headSpec (Jvm.Cond.code x code maxLocals ret :: tables_1) room_1).applies x e0.platform about1 = true :=
  (Spec.applies_iff w_frames).mpr ⟨w_running, w_runnable, w_alone, w_named, w_hears, w_ripe, w_room, w_tables⟩
theorem atStart : AtStart classFile x code maxLocals ret World_1 tables_1 room_1 Calls_1 rest_1 Pre_1 launch0 p0 e0 about1 theMethod args0 below0 :=
  ⟨lists_1, trivial, launch0.admits_env _ _ _, launch0.least_env, fairChoices_fair.cas, fairChoices_fair.clock, w_frames, w_args, w_heap, w_applies, trivial, trivial, w_case⟩
end start1
theorem witness_1 : WitnessClaimed_1 := ⟨start1.p0, start1.e0, start1.about1, start1.theMethod, start1.args0, start1.below0, start1.atStart⟩
end Jvm.Pilot.@@N@@
